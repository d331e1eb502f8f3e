import JvmDerived
import JvmDerived.Pilot.@@N@@Statement
import JvmDerived.Pilot.@@N@@Code
set_option linter.unusedVariables false
set_option linter.unusedSimpArgs false
@@BLOCK:NumsL.lean.txt@@
namespace Jvm.Pilot.@@N@@
open Jvm Jvm.ClassFile Sem Op Lib Jvm.Free Jvm.Stand Jvm.LawKit Jvm.RoadKit Bundle Jvm.Pilot.@@N@@.Jvm.D
def own_Goes (p : Program) (e : Env) (below : List Frame) (s : State) (Q : Option Value → Heap → List Loc → Prop) (ce sl : Nat) (A : State) : Prop :=
  ∃ s₂ o, Steps p.tables e below A s₂ ∧ s₂.status = .running ∧ Ended s₂ below o ∧ ∃ v L, o = .returned v ∧ Q v s₂.heap L ∧ FrameEnd s o s₂ L ce sl
theorem own_pre {p : Program} {e : Env} {below : List Frame} {s : State} {Q : Option Value → Heap → List Loc → Prop} {ce sl : Nat} {A B : State} (h : ∀ t, Steps p.tables e below A t → Steps p.tables e below B t) (G : own_Goes p e below s Q ce sl A) : own_Goes p e below s Q ce sl B := by
  obtain ⟨s₂, o, h1, r⟩ := G
  exact ⟨s₂, o, h _ h1, r⟩
theorem own_end {p : Program} {l : Launch} {e : Env} {R : Room} {s : State} {m : MethodId} {args : Array Value} {below : List Frame} {meth : Method} {c : Code} {T : State} {locs : List Loc} {cells slots : Nat} (X : Stand p l e R s m args below meth c T locs cells slots)
    {v : Option Value} {Q : Option Value → Heap → List Loc → Prop} {ce sl : Nat} {A : State} (hlocks : meth.locks = false) (hv : meth.sig.returnType = none → v = none)
    (hstep : ∀ fs, (∀ (f : JFrame) (acts : List Action), f.method = m → f.locked = none → f.entered = [] → (doReturn e (T.setTop f) acts v).1 = T.setFrames fs) → Steps p.tables e below A (T.setFrames fs))
    (hQ : Q v T.heap locs) (hc : cells ≤ ce) (hs : slots ≤ sl) : own_Goes p e below s Q ce sl A := by
  obtain ⟨fs, hr, hrun, hended, hW, hsame⟩ := X.leave hv hlocks
  exact ⟨_, _, hstep fs hr, hrun, hended, _, _, rfl, hQ, ⟨_, rfl⟩, hW, hsame.mono hc hs⟩
theorem own_lrem_eq (x y : Int64) : x - (x / y) * y = x % y := Int64.toInt_inj.mp (by rw [Jvm.Kit.i64_rem, Int64.toInt_mod])
theorem own_lrem {tb : Tables} [Ours tb] {e : Env} {below : List Frame} {T target : State} {m : MethodId} {c : Code} {g : JFrame} (h : At T m c below) (hx : tb.exec = Jvm.exec) (hg : g.method = m) {x y : Int64} {rest : List Value} (hd : decode c.code g.pc = .ok (.lrem, 1)) (hs : g.stack = .long y :: .long x :: rest) (hy : y ≠ 0)
    (hr : Steps tb e below (T.setTop { g with pc := g.pc + 1, stack := .long (x % y) :: rest }) target) : Steps tb e below (T.setTop g) target :=
  XS.lrem h hx hg hd hs hy (by rw [own_lrem_eq]; exact hr)
theorem own_h {a0 : Array Value} {Z : State} {L : List Jvm.Cond} (hw : ∀ d ∈ L, d.before a0 Z = true) (i : Nat) {d : Jvm.Cond} (h : L[i]? = some d) : d.before a0 Z = true := hw _ (List.mem_of_getElem? h)
abbrev own_In (j : Int32) (n : Nat) : Prop := 0 ≤ j.toInt ∧ j.toInt < (n : Int)
def own_at (xs : List Int32) (j : Int32) : Int32 := xs.getD j.toNatClampNeg 0
def own_atJ (xs : List Int64) (j : Int32) : Int64 := xs.getD j.toNatClampNeg 0
def own_len {α : Type} (xs : List α) : Int32 := xs.length.toInt32
theorem own_getD (xs : List Int32) (i : Nat) : (xs.map Value.int).getD i (.int 0) = .int (xs.getD i 0) := by
  simp only [List.getD_eq_getElem?_getD, List.getElem?_map]
  cases xs[i]? <;> rfl
theorem own_getDJ (xs : List Int64) (i : Nat) : (xs.map Value.long).getD i (.long 0) = .long (xs.getD i 0) := by
  simp only [List.getD_eq_getElem?_getD, List.getElem?_map]
  cases xs[i]? <;> rfl
theorem own_pad {ty : FieldType} {Z : State} {h : Heap} {a : Addr} {k : ClassId} {n : Int32} {dv : Value} (F : Arv Z h a k ty n [] dv) : Arv Z h a k ty n (List.replicate n.toNatClampNeg dv) dv := F.pad (pad_rep [] dv n.toNatClampNeg)
section OwnArr
variable {p : Program} {l : Launch} {e : Env} {R : Room} {s : State} {m : MethodId} {args : Array Value} {below : List Frame} {meth : Method} {c : Code} {T : State} {locs : List Loc} {cells slots : Nat} {Z : State} {h h' : Heap} {a b : Addr} {sl : Nat} {v d : Value} {ws : List Addr} {ty : FieldType} {vs : List Value}
def own_Arr (ty : FieldType) (d : Value) (Z : State) (h : Heap) (a : Addr) (vs : List Value) : Prop := ∃ k n, Arv Z h a k ty n vs d ∧ n.toNatClampNeg = vs.length
theorem own_Arr.ext (F : own_Arr ty d Z h a vs) (E : Ext h h') : own_Arr ty d Z h' a vs := by obtain ⟨k, n, A, r⟩ := F; exact ⟨k, n, A.ext E, r⟩
theorem own_Arr.other (F : own_Arr ty d Z h b vs) (W : Wr h h' a sl v) (q : b ≠ a) : own_Arr ty d Z h' b vs := by obtain ⟨k, n, A, r⟩ := F; exact ⟨k, n, A.other W q, r⟩
theorem own_Arr.keep (F : own_Arr ty d Z h a vs) (K : Keep h h' ws) (q : a ∉ ws) : own_Arr ty d Z h' a vs := by obtain ⟨k, n, A, r⟩ := F; exact ⟨k, n, A.keep K q, r⟩
theorem own_Arr.lt (F : own_Arr ty d Z h a vs) : a < h.size := by obtain ⟨k, n, A, r⟩ := F; exact A.lt
theorem own_inb {cl : Cell} {n j : Int32} {N : Nat} (S : cl.slots.size = n.toNatClampNeg) (q : n.toNatClampNeg = N) (hj : own_In j N) : ¬ (j < 0 ∨ cl.slots.size ≤ j.toNatClampNeg) := by
  rw [S, q]; obtain ⟨q1, q2⟩ := hj
  have e0 : (0 : Int32).toInt = 0 := rfl
  simp only [Int32.lt_iff_toInt_lt, Int32.toNatClampNeg, e0] at *; omega
theorem own_ixlt {j : Int32} {N : Nat} (hj : own_In j N) : j.toNatClampNeg < N := by obtain ⟨q1, q2⟩ := hj; simp only [Int32.toNatClampNeg]; omega
def own_Ints (Z : State) (h : Heap) (a : Addr) (xs : List Int32) : Prop := own_Arr .int (.int 0) Z h a (xs.map Value.int)
def own_Longs (Z : State) (h : Heap) (a : Addr) (xs : List Int64) : Prop := own_Arr .long (.long 0) Z h a (xs.map Value.long)
def own_Bytes (Z : State) (h : Heap) (a : Addr) (xs : List Int32) : Prop := own_Arr .byte (.int 0) Z h a (xs.map Value.int)
def own_Chars (Z : State) (h : Heap) (a : Addr) (xs : List Int32) : Prop := own_Arr .char (.int 0) Z h a (xs.map Value.int)
theorem own_Ints.ext {xs : List Int32} (F : own_Ints Z h a xs) (E : Ext h h') : own_Ints Z h' a xs := own_Arr.ext F E
theorem own_Ints.other {xs : List Int32} (F : own_Ints Z h b xs) (W : Wr h h' a sl v) (q : b ≠ a) : own_Ints Z h' b xs := own_Arr.other F W q
theorem own_Ints.keep {xs : List Int32} (F : own_Ints Z h a xs) (K : Keep h h' ws) (q : a ∉ ws) : own_Ints Z h' a xs := own_Arr.keep F K q
theorem own_Ints.lt {xs : List Int32} (F : own_Ints Z h a xs) : a < h.size := own_Arr.lt F
theorem own_newI {k : ClassId} {n : Int32} (A : Arr Z h a (newA k .int n) .int) (q : ¬ n < 0) : own_Ints Z h a (List.replicate n.toNatClampNeg 0) := by
  refine ⟨k, n, ?_, by simp⟩
  have := own_pad (Arv.new A q)
  rw [List.map_replicate]
  exact this
theorem own_iaload {target : State} (X : Stand p l e R s m args below meth c T locs cells slots) (hx : p.tables.exec = Jvm.exec) (hZ : Z.Warmed39 s.vm) (eT : T.heap = h) {xs : List Int32} {j : Int32} (F : own_Ints Z h a xs) (hj : own_In j xs.length) {g : JFrame} (hg : g.method = m) {rest : List Value} (hs : g.stack = .int j :: .ref a :: rest) (hd : decode c.code g.pc = .ok (.iaload, 1))
    (hr : Steps p.tables e below (T.setTop { g with pc := g.pc + 1, stack := .int (own_at xs j) :: rest }) target) : Steps p.tables e below (T.setTop g) target := by
  obtain ⟨k, n, ⟨cl, A, q1, S, q3, H, G⟩, q⟩ := F
  have hin := own_inb S q (by rw [List.length_map]; exact hj)
  exact X.iaload hx (j := j) (v := .int (own_at xs j)) (by rw [eT]; exact A.1) (State.isArrayOf_alike hZ.alike A.2.1) A.2.2 hin (H.at hin (own_getD xs _)) (g := g) hg hs hd _ hr
theorem own_arrlenI {target : State} (X : Stand p l e R s m args below meth c T locs cells slots) (hx : p.tables.exec = Jvm.exec) (hZ : Z.Warmed39 s.vm) (eT : T.heap = h) {xs : List Int32} (F : own_Ints Z h a xs) {g : JFrame} (hg : g.method = m) {rest : List Value} (hs : g.stack = .ref a :: rest) (hd : decode c.code g.pc = .ok (.arraylength, 1))
    (hr : Steps p.tables e below (T.setTop { g with pc := g.pc + 1, stack := .int (own_len xs) :: rest }) target) : Steps p.tables e below (T.setTop g) target := by
  obtain ⟨k, n, ⟨cl, A, q1, S, q3, H, G⟩, q⟩ := F
  refine X.arraylength hx (by rw [eT]; exact A.1) (State.isArrayOf_alike hZ.alike A.2.1) (g := g) hg hs hd _ ?_
  have e1 : cl.slots.size = xs.length := by rw [S, q, List.length_map]
  rw [e1]
  exact hr
theorem own_iastore (X : Stand p l e R s m args below meth c T locs cells slots) (hx : p.tables.exec = Jvm.exec) (hZ : Z.Warmed39 s.vm) (eT : T.heap = h) {xs : List Int32} {j : Int32} {x : Int32} (F : own_Ints Z h a xs) (hj : own_In j xs.length) {g : JFrame} (hg : g.method = m) {rest : List Value} (hs : g.stack = .int x :: .int j :: .ref a :: rest) (hd : decode c.code g.pc = .ok (.iastore, 1)) :
    ∃ T' h', Stand p l e R s m args below meth c T' (locs ++ [⟨a, j.toNatClampNeg⟩]) cells slots ∧ T'.heap = h' ∧ Wr h h' a j.toNatClampNeg (.int (x)) ∧ own_Ints Z h' a (xs.set j.toNatClampNeg (x)) ∧ ∀ target, Steps p.tables e below (T'.setTop { g with pc := g.pc + 1, stack := rest }) target → Steps p.tables e below (T.setTop g) target := by
  obtain ⟨k, n, ⟨cl, A, q1, S, q3, H, G⟩, q⟩ := F
  have hin := own_inb S q (by rw [List.length_map]; exact hj)
  obtain ⟨T', h', X', e', W, st⟩ := stI X hx hZ eT A (j := j) (x := x) hin (g := g) hg hs hd
  refine ⟨T', h', X', e', W, ⟨k, n, ?_, by rw [q]; simp⟩, st⟩
  rw [List.map_set]
  exact Arv.set A q1 S q3 H G rfl W _ rfl (by rw [List.length_map]; exact own_ixlt hj)
theorem own_Longs.ext {xs : List Int64} (F : own_Longs Z h a xs) (E : Ext h h') : own_Longs Z h' a xs := own_Arr.ext F E
theorem own_Longs.other {xs : List Int64} (F : own_Longs Z h b xs) (W : Wr h h' a sl v) (q : b ≠ a) : own_Longs Z h' b xs := own_Arr.other F W q
theorem own_Longs.keep {xs : List Int64} (F : own_Longs Z h a xs) (K : Keep h h' ws) (q : a ∉ ws) : own_Longs Z h' a xs := own_Arr.keep F K q
theorem own_Longs.lt {xs : List Int64} (F : own_Longs Z h a xs) : a < h.size := own_Arr.lt F
theorem own_newJ {k : ClassId} {n : Int32} (A : Arr Z h a (newA k .long n) .long) (q : ¬ n < 0) : own_Longs Z h a (List.replicate n.toNatClampNeg 0) := by
  refine ⟨k, n, ?_, by simp⟩
  have := own_pad (Arv.new A q)
  rw [List.map_replicate]
  exact this
theorem own_laload {target : State} (X : Stand p l e R s m args below meth c T locs cells slots) (hx : p.tables.exec = Jvm.exec) (hZ : Z.Warmed39 s.vm) (eT : T.heap = h) {xs : List Int64} {j : Int32} (F : own_Longs Z h a xs) (hj : own_In j xs.length) {g : JFrame} (hg : g.method = m) {rest : List Value} (hs : g.stack = .int j :: .ref a :: rest) (hd : decode c.code g.pc = .ok (.laload, 1))
    (hr : Steps p.tables e below (T.setTop { g with pc := g.pc + 1, stack := .long (own_atJ xs j) :: rest }) target) : Steps p.tables e below (T.setTop g) target := by
  obtain ⟨k, n, ⟨cl, A, q1, S, q3, H, G⟩, q⟩ := F
  have hin := own_inb S q (by rw [List.length_map]; exact hj)
  exact X.laload hx (j := j) (v := .long (own_atJ xs j)) (by rw [eT]; exact A.1) (State.isArrayOf_alike hZ.alike A.2.1) A.2.2 hin (H.at hin (own_getDJ xs _)) (g := g) hg hs hd _ hr
theorem own_arrlenJ {target : State} (X : Stand p l e R s m args below meth c T locs cells slots) (hx : p.tables.exec = Jvm.exec) (hZ : Z.Warmed39 s.vm) (eT : T.heap = h) {xs : List Int64} (F : own_Longs Z h a xs) {g : JFrame} (hg : g.method = m) {rest : List Value} (hs : g.stack = .ref a :: rest) (hd : decode c.code g.pc = .ok (.arraylength, 1))
    (hr : Steps p.tables e below (T.setTop { g with pc := g.pc + 1, stack := .int (own_len xs) :: rest }) target) : Steps p.tables e below (T.setTop g) target := by
  obtain ⟨k, n, ⟨cl, A, q1, S, q3, H, G⟩, q⟩ := F
  refine X.arraylength hx (by rw [eT]; exact A.1) (State.isArrayOf_alike hZ.alike A.2.1) (g := g) hg hs hd _ ?_
  have e1 : cl.slots.size = xs.length := by rw [S, q, List.length_map]
  rw [e1]
  exact hr
theorem own_lastore (X : Stand p l e R s m args below meth c T locs cells slots) (hx : p.tables.exec = Jvm.exec) (hZ : Z.Warmed39 s.vm) (eT : T.heap = h) {xs : List Int64} {j : Int32} {x : Int64} (F : own_Longs Z h a xs) (hj : own_In j xs.length) {g : JFrame} (hg : g.method = m) {rest : List Value} (hs : g.stack = .long x :: .int j :: .ref a :: rest) (hd : decode c.code g.pc = .ok (.lastore, 1)) :
    ∃ T' h', Stand p l e R s m args below meth c T' (locs ++ [⟨a, j.toNatClampNeg⟩]) cells slots ∧ T'.heap = h' ∧ Wr h h' a j.toNatClampNeg (.long (x)) ∧ own_Longs Z h' a (xs.set j.toNatClampNeg (x)) ∧ ∀ target, Steps p.tables e below (T'.setTop { g with pc := g.pc + 1, stack := rest }) target → Steps p.tables e below (T.setTop g) target := by
  obtain ⟨k, n, ⟨cl, A, q1, S, q3, H, G⟩, q⟩ := F
  have hin := own_inb S q (by rw [List.length_map]; exact hj)
  obtain ⟨T', h', X', e', W, st⟩ := stJ X hx hZ eT A (j := j) (x := x) hin (g := g) hg hs hd
  refine ⟨T', h', X', e', W, ⟨k, n, ?_, by rw [q]; simp⟩, st⟩
  rw [List.map_set]
  exact Arv.set A q1 S q3 H G rfl W _ rfl (by rw [List.length_map]; exact own_ixlt hj)
theorem own_Bytes.ext {xs : List Int32} (F : own_Bytes Z h a xs) (E : Ext h h') : own_Bytes Z h' a xs := own_Arr.ext F E
theorem own_Bytes.other {xs : List Int32} (F : own_Bytes Z h b xs) (W : Wr h h' a sl v) (q : b ≠ a) : own_Bytes Z h' b xs := own_Arr.other F W q
theorem own_Bytes.keep {xs : List Int32} (F : own_Bytes Z h a xs) (K : Keep h h' ws) (q : a ∉ ws) : own_Bytes Z h' a xs := own_Arr.keep F K q
theorem own_Bytes.lt {xs : List Int32} (F : own_Bytes Z h a xs) : a < h.size := own_Arr.lt F
theorem own_newB {k : ClassId} {n : Int32} (A : Arr Z h a (newA k .byte n) .byte) (q : ¬ n < 0) : own_Bytes Z h a (List.replicate n.toNatClampNeg 0) := by
  refine ⟨k, n, ?_, by simp⟩
  have := own_pad (Arv.new A q)
  rw [List.map_replicate]
  exact this
theorem own_baload {target : State} (X : Stand p l e R s m args below meth c T locs cells slots) (hx : p.tables.exec = Jvm.exec) (hZ : Z.Warmed39 s.vm) (eT : T.heap = h) {xs : List Int32} {j : Int32} (F : own_Bytes Z h a xs) (hj : own_In j xs.length) {g : JFrame} (hg : g.method = m) {rest : List Value} (hs : g.stack = .int j :: .ref a :: rest) (hd : decode c.code g.pc = .ok (.baload, 1))
    (hr : Steps p.tables e below (T.setTop { g with pc := g.pc + 1, stack := .int (own_at xs j) :: rest }) target) : Steps p.tables e below (T.setTop g) target := by
  obtain ⟨k, n, ⟨cl, A, q1, S, q3, H, G⟩, q⟩ := F
  have hin := own_inb S q (by rw [List.length_map]; exact hj)
  exact X.baloadBytes hx (j := j) (v := .int (own_at xs j)) (by rw [eT]; exact A.1) (State.isArrayOf_alike hZ.alike A.2.1) A.2.2 hin (H.at hin (own_getD xs _)) (g := g) hg hs hd _ hr
theorem own_arrlenB {target : State} (X : Stand p l e R s m args below meth c T locs cells slots) (hx : p.tables.exec = Jvm.exec) (hZ : Z.Warmed39 s.vm) (eT : T.heap = h) {xs : List Int32} (F : own_Bytes Z h a xs) {g : JFrame} (hg : g.method = m) {rest : List Value} (hs : g.stack = .ref a :: rest) (hd : decode c.code g.pc = .ok (.arraylength, 1))
    (hr : Steps p.tables e below (T.setTop { g with pc := g.pc + 1, stack := .int (own_len xs) :: rest }) target) : Steps p.tables e below (T.setTop g) target := by
  obtain ⟨k, n, ⟨cl, A, q1, S, q3, H, G⟩, q⟩ := F
  refine X.arraylength hx (by rw [eT]; exact A.1) (State.isArrayOf_alike hZ.alike A.2.1) (g := g) hg hs hd _ ?_
  have e1 : cl.slots.size = xs.length := by rw [S, q, List.length_map]
  rw [e1]
  exact hr
theorem own_bastore (X : Stand p l e R s m args below meth c T locs cells slots) (hx : p.tables.exec = Jvm.exec) (hZ : Z.Warmed39 s.vm) (eT : T.heap = h) {xs : List Int32} {j : Int32} {x : Int32} (F : own_Bytes Z h a xs) (hj : own_In j xs.length) {g : JFrame} (hg : g.method = m) {rest : List Value} (hs : g.stack = .int x :: .int j :: .ref a :: rest) (hd : decode c.code g.pc = .ok (.bastore, 1)) :
    ∃ T' h', Stand p l e R s m args below meth c T' (locs ++ [⟨a, j.toNatClampNeg⟩]) cells slots ∧ T'.heap = h' ∧ Wr h h' a j.toNatClampNeg (.int (x.toInt8.toInt32)) ∧ own_Bytes Z h' a (xs.set j.toNatClampNeg (x.toInt8.toInt32)) ∧ ∀ target, Steps p.tables e below (T'.setTop { g with pc := g.pc + 1, stack := rest }) target → Steps p.tables e below (T.setTop g) target := by
  obtain ⟨k, n, ⟨cl, A, q1, S, q3, H, G⟩, q⟩ := F
  have hin := own_inb S q (by rw [List.length_map]; exact hj)
  obtain ⟨T', h', X', e', W, st⟩ := stB X hx hZ eT A (j := j) (x := x) hin (g := g) hg hs hd
  refine ⟨T', h', X', e', W, ⟨k, n, ?_, by rw [q]; simp⟩, st⟩
  rw [List.map_set]
  exact Arv.set A q1 S q3 H G (fits_nar_byte x) W _ rfl (by rw [List.length_map]; exact own_ixlt hj)
theorem own_Chars.ext {xs : List Int32} (F : own_Chars Z h a xs) (E : Ext h h') : own_Chars Z h' a xs := own_Arr.ext F E
theorem own_Chars.other {xs : List Int32} (F : own_Chars Z h b xs) (W : Wr h h' a sl v) (q : b ≠ a) : own_Chars Z h' b xs := own_Arr.other F W q
theorem own_Chars.keep {xs : List Int32} (F : own_Chars Z h a xs) (K : Keep h h' ws) (q : a ∉ ws) : own_Chars Z h' a xs := own_Arr.keep F K q
theorem own_Chars.lt {xs : List Int32} (F : own_Chars Z h a xs) : a < h.size := own_Arr.lt F
theorem own_newC {k : ClassId} {n : Int32} (A : Arr Z h a (newA k .char n) .char) (q : ¬ n < 0) : own_Chars Z h a (List.replicate n.toNatClampNeg 0) := by
  refine ⟨k, n, ?_, by simp⟩
  have := own_pad (Arv.new A q)
  rw [List.map_replicate]
  exact this
theorem own_caload {target : State} (X : Stand p l e R s m args below meth c T locs cells slots) (hx : p.tables.exec = Jvm.exec) (hZ : Z.Warmed39 s.vm) (eT : T.heap = h) {xs : List Int32} {j : Int32} (F : own_Chars Z h a xs) (hj : own_In j xs.length) {g : JFrame} (hg : g.method = m) {rest : List Value} (hs : g.stack = .int j :: .ref a :: rest) (hd : decode c.code g.pc = .ok (.caload, 1))
    (hr : Steps p.tables e below (T.setTop { g with pc := g.pc + 1, stack := .int (own_at xs j) :: rest }) target) : Steps p.tables e below (T.setTop g) target := by
  obtain ⟨k, n, ⟨cl, A, q1, S, q3, H, G⟩, q⟩ := F
  have hin := own_inb S q (by rw [List.length_map]; exact hj)
  exact X.caload hx (j := j) (v := .int (own_at xs j)) (by rw [eT]; exact A.1) (State.isArrayOf_alike hZ.alike A.2.1) A.2.2 hin (H.at hin (own_getD xs _)) (g := g) hg hs hd _ hr
theorem own_arrlenC {target : State} (X : Stand p l e R s m args below meth c T locs cells slots) (hx : p.tables.exec = Jvm.exec) (hZ : Z.Warmed39 s.vm) (eT : T.heap = h) {xs : List Int32} (F : own_Chars Z h a xs) {g : JFrame} (hg : g.method = m) {rest : List Value} (hs : g.stack = .ref a :: rest) (hd : decode c.code g.pc = .ok (.arraylength, 1))
    (hr : Steps p.tables e below (T.setTop { g with pc := g.pc + 1, stack := .int (own_len xs) :: rest }) target) : Steps p.tables e below (T.setTop g) target := by
  obtain ⟨k, n, ⟨cl, A, q1, S, q3, H, G⟩, q⟩ := F
  refine X.arraylength hx (by rw [eT]; exact A.1) (State.isArrayOf_alike hZ.alike A.2.1) (g := g) hg hs hd _ ?_
  have e1 : cl.slots.size = xs.length := by rw [S, q, List.length_map]
  rw [e1]
  exact hr
theorem own_castore (X : Stand p l e R s m args below meth c T locs cells slots) (hx : p.tables.exec = Jvm.exec) (hZ : Z.Warmed39 s.vm) (eT : T.heap = h) {xs : List Int32} {j : Int32} {x : Int32} (F : own_Chars Z h a xs) (hj : own_In j xs.length) {g : JFrame} (hg : g.method = m) {rest : List Value} (hs : g.stack = .int x :: .int j :: .ref a :: rest) (hd : decode c.code g.pc = .ok (.castore, 1)) :
    ∃ T' h', Stand p l e R s m args below meth c T' (locs ++ [⟨a, j.toNatClampNeg⟩]) cells slots ∧ T'.heap = h' ∧ Wr h h' a j.toNatClampNeg (.int (x.toUInt32.toUInt16.toUInt32.toInt32)) ∧ own_Chars Z h' a (xs.set j.toNatClampNeg (x.toUInt32.toUInt16.toUInt32.toInt32)) ∧ ∀ target, Steps p.tables e below (T'.setTop { g with pc := g.pc + 1, stack := rest }) target → Steps p.tables e below (T.setTop g) target := by
  obtain ⟨k, n, ⟨cl, A, q1, S, q3, H, G⟩, q⟩ := F
  have hin := own_inb S q (by rw [List.length_map]; exact hj)
  obtain ⟨T', h', X', e', W, st⟩ := stC X hx hZ eT A (j := j) (x := x) hin (g := g) hg hs hd
  refine ⟨T', h', X', e', W, ⟨k, n, ?_, by rw [q]; simp⟩, st⟩
  rw [List.map_set]
  exact Arv.set A q1 S q3 H G (fits_nar_char x) W _ rfl (by rw [List.length_map]; exact own_ixlt hj)
end OwnArr
theorem own_lit {j : Int32} {n : Nat} (h : (decide (0 ≤ j.toInt) && decide (j.toInt < (n : Int))) = true) : own_In j n := by
  simp only [Bool.and_eq_true, decide_eq_true_eq] at h; exact h
theorem own_cloneB {p : Program} {l : Launch} {e : Env} {R : Room} {s : State} {m : MethodId} {args : Array Value} {below : List Frame} {meth : Method} {c : Code} {T : State} {locs : List Loc} {cells slots : Nat} {Z : State} {h : Heap} {a : Addr} (X : Stand p l e R s m args below meth c T locs cells slots) (hx : p.tables.exec = Jvm.exec) (hZ : Z.Warmed39 s.vm) {a0 : Array Value} {own ad : String} {index : Nat} (hown : s.vm.findClass own = some m.cls)
    (w1 : (Cond.methodLink own index ⟨ad, "clone", "()Ljava/lang/Object;"⟩).before a0 Z = true) (w2 : (Cond.sameMethod ad "java/lang/Object" "clone" "()Ljava/lang/Object;").before a0 Z = true) (w3 : (Cond.native ⟨"java/lang/Object", "clone", "()Ljava/lang/Object;"⟩).before a0 Z = true)
    (w4 : (Cond.instanceMethod ⟨"java/lang/Object", "clone", "()Ljava/lang/Object;"⟩).before a0 Z = true) (w5 : (Cond.selects ad ⟨ad, "clone", "()Ljava/lang/Object;"⟩ ⟨"java/lang/Object", "clone", "()Ljava/lang/Object;"⟩).before a0 Z = true) (w6 : (Cond.castable ad "java/lang/Cloneable").before a0 Z = true)
    (eT : T.heap = h) {xs : List Int32} (F : own_Bytes Z h a xs) (E : Exa Z h a ad) {g : JFrame} (hg : g.method = m) (hsize : g.locals.size = c.maxLocals) {rest : List Value} (hst : g.stack = .ref a :: rest) (hd : decode c.code g.pc = .ok (.invokevirtual index, 3))
    (hf : 1 ≤ R.frames) {W cap : Nat} (hW : 2 * g.monitorRoom + (rest.map fun v => v.category).sum ≤ W) (hl : W + 14 ≤ R.locals) (hcap : xs.length ≤ cap) (hc : cells + 1 ≤ R.cells) (hsl : slots + cap ≤ R.slots) :
    ∃ T' h', Stand p l e R s m args below meth c T' locs (cells + 1) (slots + cap) ∧ T'.heap = h' ∧ Ext h h' ∧ own_Bytes Z h' h.size xs ∧ Exa Z h' h.size ad ∧
      ∀ target, Steps p.tables e below (T'.setTop { g with pc := g.pc + 3, stack := .ref h.size :: rest }) target → Steps p.tables e below (T.setTop g) target := by
  obtain ⟨k, n, ⟨cl, A, q1, S, q3, H, G⟩, q⟩ := F
  have FC : FitC Z cl := fitC_of A fun i hi v hv => by rw [H i hi] at hv; cases hv; exact G i hi
  obtain ⟨T', h', X', e', ex, A', E', st⟩ := cloneA X hx hZ hown w1 w2 w3 w4 w5 w6 eT A E FC hg hsize hst hd hf hW hl (by rw [S, q, List.length_map]; exact hcap) hc hsl
  exact ⟨T', h', X', e', ex, ⟨k, n, ⟨cloneOf cl, A', q1, S, q3, H, G⟩, q⟩, E', st⟩
theorem own_lastin (xs : List Int32) (h0 : 0 < xs.length) (h1 : xs.length < 5) : own_In ((own_len xs) - (1:Int32)) xs.length := by
  have l1 : (1:Int32).toInt = 1 := by decide
  have e : (own_len xs).toInt = xs.length := len_toInt (by omega)
  have e2 : (own_len xs - 1).toInt = xs.length - 1 := by rw [Jvm.Kit.i32_sub (by rw [e, l1]; omega) (by rw [e, l1]; omega), e, l1]
  show 0 ≤ _ ∧ _ < _
  rw [e2]; omega
theorem own_pn0 : plainName "com/example/lexrow/lexrow/storage/CellKeys" = true := by first | (simp [plainName, overriddenIn]; done) | decide +kernel
theorem d1_0 : decode prog_51_method_4_code 0 = .ok (.aload_n 0, 1) := by decide +kernel
theorem d1_1 : decode prog_51_method_4_code 1 = .ok (.invokevirtual 46, 3) := by decide +kernel
theorem d1_4 : decode prog_51_method_4_code 4 = .ok (.checkcast 47, 3) := by decide +kernel
theorem d1_7 : decode prog_51_method_4_code 7 = .ok (.astore_n 1, 1) := by decide +kernel
theorem d1_8 : decode prog_51_method_4_code 8 = .ok (.aload_n 1, 1) := by decide +kernel
theorem d1_9 : decode prog_51_method_4_code 9 = .ok (.aload_n 1, 1) := by decide +kernel
theorem d1_10 : decode prog_51_method_4_code 10 = .ok (.arraylength, 1) := by decide +kernel
theorem d1_11 : decode prog_51_method_4_code 11 = .ok (.iconst 1, 1) := by decide +kernel
theorem d1_12 : decode prog_51_method_4_code 12 = .ok (.isub, 1) := by decide +kernel
theorem d1_13 : decode prog_51_method_4_code 13 = .ok (.dup2, 1) := by decide +kernel
theorem d1_14 : decode prog_51_method_4_code 14 = .ok (.baload, 1) := by decide +kernel
theorem d1_15 : decode prog_51_method_4_code 15 = .ok (.iconst 1, 1) := by decide +kernel
theorem d1_16 : decode prog_51_method_4_code 16 = .ok (.iadd, 1) := by decide +kernel
theorem d1_17 : decode prog_51_method_4_code 17 = .ok (.i2b, 1) := by decide +kernel
theorem d1_18 : decode prog_51_method_4_code 18 = .ok (.bastore, 1) := by decide +kernel
theorem d1_19 : decode prog_51_method_4_code 19 = .ok (.aload_n 1, 1) := by decide +kernel
theorem d1_20 : decode prog_51_method_4_code 20 = .ok (.areturn, 1) := by decide +kernel
theorem ef1 (m : MethodId) (a0 : Addr) : entryFrame m #[(.ref a0)] 2 = mkF m 0 #[rv a0, .unset] [] := by first | (simp [entryFrame, mkF, argsToLocals, Value.category]; done) | rfl
def Q1 (Z : State) (a0 : Addr) (xs : List Int32) (h0 : Heap) (n0 : Nat) (v : Option Value) (h : Heap) (L : List Loc) : Prop := ∃ cl : Addr, v = some (.ref cl) ∧ Fr n0 L ∧ Keep h0 h [] ∧ h0.size ≤ cl ∧ own_Bytes Z h cl (xs.set ((own_len xs) - (1:Int32)).toNatClampNeg (((((own_at xs ((own_len xs) - (1:Int32))) + (1:Int32)).toInt8.toInt32)).toInt8.toInt32))
set_option maxRecDepth 65536 in
set_option maxHeartbeats 40000000 in
theorem rm1 (l : Launch) (Z : State) (aZ : Array Value) (hw : ∀ d ∈ tables_1, d.before aZ Z = true) (ws : List Jvm.Cond) (a0 : Addr) (xs : List Int32) (h0 : Heap) (n0 : Nat) (Z0 : n0 ≤ h0.size) (P0 : Exa Z h0 a0 "[B") (P1 : own_Bytes Z h0 a0 xs) (hcap : xs.length ≤ 4) (hin : own_In ((own_len xs) - (1:Int32)) xs.length) :
    MetFree l (⟨"com/example/lexrow/lexrow/storage/CellKeys", "prefixEnd", "([B)[B"⟩ : MethodName) (head1 (Jvm.Cond.code (⟨"com/example/lexrow/lexrow/storage/CellKeys", "prefixEnd", "([B)[B"⟩ : MethodName) prog_51_method_4_code 2 (some (.array .byte)) :: ws) ({ frames := 1, cells := 1, slots := 4, locals := 14 } : Room)) (fun a U => a = #[(.ref a0)] ∧ Z.Warmed39 U.vm ∧ U.heap = h0) (fun _ _ _ _ _ => True) (fun _ U o U' => ∃ v L, o = .returned v ∧ Q1 Z a0 xs h0 n0 v U'.heap L ∧ FrameEnd U o U' L ({ frames := 1, cells := 1, slots := 4, locals := 14 } : Room).cells ({ frames := 1, cells := 1, slots := 4, locals := 14 } : Room).slots) := by
  refine MetFree.of_bodySF (plainFor_of_name own_pn0) hisR ?_
  intro p e s m args below meth c s₁ Bd hml0 hP hK
  obtain ⟨rfl, hZ, hh⟩ := hP
  have hx := Bd.exec
  have hby := Bd.bytes
  have hml : c.maxLocals = 2 := hml0
  have hown : s.vm.findClass "com/example/lexrow/lexrow/storage/CellKeys" = some m.cls := findClass_of_methodNamed Bd.named
  have hnm := (name_of_methodNamed Bd.named Bd.method).1
  have X0 : Stand p l e ({ frames := 1, cells := 1, slots := 4, locals := 14 } : Room) s m #[(.ref a0)] below meth c s₁ [] 0 0 := Stand.of_body Bd
  have e0 : s₁.heap = h0 := by rw [← hh, Bd.state]; rfl
  have N0 := Fr.nil n0
  have Kp0 : Keep h0 h0 [] := Keep.refl _ _
  show own_Goes p e below s (Q1 Z a0 xs h0 n0) ({ frames := 1, cells := 1, slots := 4, locals := 14 } : Room).cells ({ frames := 1, cells := 1, slots := 4, locals := 14 } : Room).slots _
  refine own_pre (fun t k => castTop (ef1 m a0) k) ?_
  refine own_pre (A := s₁.setTop (mkF m 1 #[rv a0, .unset] [(.ref a0)])) (fun t k => ?_) ?_
  · show Steps p.tables e below (s₁.setTop (mkF m 0 #[rv a0, .unset] [])) _
    refine XS.aloadN X0.here hx rfl (hb hby d1_0) rfl rfl ?_
    exact k
  obtain ⟨T1, h1, X1, e1, E1, V1, B1, st1⟩ := own_cloneB X0 hx hZ hown (own_h hw 5 rfl) (own_h hw 6 rfl) (own_h hw 10 rfl) (own_h hw 8 rfl) (own_h hw 9 rfl) (own_h hw 11 rfl) e0 P1 P0 (g := (mkF m 1 #[rv a0, .unset] [(.ref a0)])) rfl (by rw [hml]; rfl) rfl (hb hby d1_1) (by decide) (W := 0) (cap := 4) (by show 2 * 0 + _ ≤ _; exact Nat.le_of_eq rfl) (by decide) hcap (by decide) (by decide)
  obtain ⟨b1, g1⟩ : ∃ z, z = h0.size := ⟨_, rfl⟩
  rw [← g1] at V1 B1 st1
  have ge_b1 : n0 ≤ b1 := Nat.le_trans Z0 (Nat.le_of_eq g1.symm)
  have sz_b1 : h0.size ≤ b1 := Nat.le_trans Kp0.1 (Nat.le_of_eq g1.symm)
  have ne_a0_b1 : a0 ≠ b1 := Nat.ne_of_lt (Nat.lt_of_lt_of_le P0.lt (Nat.le_of_eq g1.symm))
  have Kp1 : Keep h0 h1 [] := Kp0.ext E1
  have Z2 : n0 ≤ h1.size := Nat.le_trans Z0 E1.1
  refine own_pre st1 ?_
  obtain ⟨T3, X3, e3, st3⟩ := castY X1 hx hZ hown (own_h hw 12 rfl) e1 (Ins.self B1) (g := (mkF m 4 #[rv a0, .unset] [(.ref b1)])) rfl rfl (hb hby d1_4)
  refine own_pre st3 ?_
  have hbn4 : own_In ((own_len xs) - (1:Int32)) xs.length := hin
  refine own_pre (A := T3.setTop (mkF m 18 #[rv a0, rv b1] [(.int (((own_at xs ((own_len xs) - (1:Int32))) + (1:Int32)).toInt8.toInt32)), (.int ((own_len xs) - (1:Int32))), (.ref b1)])) (fun t k => ?_) ?_
  · show Steps p.tables e below (T3.setTop (mkF m 7 #[rv a0, .unset] [(.ref b1)])) _
    refine XS.astoreN X3.here hx rfl (hb hby d1_7) rfl rfl (l' := #[rv a0, rv b1]) rfl ?_
    show Steps p.tables e below (T3.setTop (mkF m 8 #[rv a0, rv b1] [])) _
    refine XS.aloadN X3.here hx rfl (hb hby d1_8) rfl rfl ?_
    show Steps p.tables e below (T3.setTop (mkF m 9 #[rv a0, rv b1] [(.ref b1)])) _
    refine XS.aloadN X3.here hx rfl (hb hby d1_9) rfl rfl ?_
    show Steps p.tables e below (T3.setTop (mkF m 10 #[rv a0, rv b1] [(.ref b1), (.ref b1)])) _
    refine own_arrlenB X3 hx hZ e3 V1 rfl rfl (hb hby d1_10) ?_
    show Steps p.tables e below (T3.setTop (mkF m 11 #[rv a0, rv b1] [(.int (own_len xs)), (.ref b1)])) _
    refine XS.iconst X3.here hx rfl (hb hby d1_11) ?_
    show Steps p.tables e below (T3.setTop (mkF m 12 #[rv a0, rv b1] [(.int (1:Int32)), (.int (own_len xs)), (.ref b1)])) _
    refine XS.isub X3.here hx rfl (hb hby d1_12) rfl ?_
    show Steps p.tables e below (T3.setTop (mkF m 13 #[rv a0, rv b1] [(.int ((own_len xs) - (1:Int32))), (.ref b1)])) _
    refine XT.dup2 X3.here hx rfl (hb hby d1_13) rfl rfl rfl ?_
    show Steps p.tables e below (T3.setTop (mkF m 14 #[rv a0, rv b1] [(.int ((own_len xs) - (1:Int32))), (.ref b1), (.int ((own_len xs) - (1:Int32))), (.ref b1)])) _
    refine own_baload X3 hx hZ e3 V1 hbn4 rfl rfl (hb hby d1_14) ?_
    show Steps p.tables e below (T3.setTop (mkF m 15 #[rv a0, rv b1] [(.int (own_at xs ((own_len xs) - (1:Int32)))), (.int ((own_len xs) - (1:Int32))), (.ref b1)])) _
    refine XS.iconst X3.here hx rfl (hb hby d1_15) ?_
    show Steps p.tables e below (T3.setTop (mkF m 16 #[rv a0, rv b1] [(.int (1:Int32)), (.int (own_at xs ((own_len xs) - (1:Int32)))), (.int ((own_len xs) - (1:Int32))), (.ref b1)])) _
    refine XS.iadd X3.here hx rfl (hb hby d1_16) rfl ?_
    show Steps p.tables e below (T3.setTop (mkF m 17 #[rv a0, rv b1] [(.int ((own_at xs ((own_len xs) - (1:Int32))) + (1:Int32))), (.int ((own_len xs) - (1:Int32))), (.ref b1)])) _
    refine XS.i2b X3.here hx rfl (hb hby d1_17) rfl ?_
    exact k
  have hbn6 : own_In ((own_len xs) - (1:Int32)) xs.length := hin
  obtain ⟨T5, h5, X5, e5, W5, V5, st5⟩ := own_bastore X3 hx hZ e3 V1 (j := ((own_len xs) - (1:Int32))) (x := (((own_at xs ((own_len xs) - (1:Int32))) + (1:Int32)).toInt8.toInt32)) hbn6 (g := (mkF m 18 #[rv a0, rv b1] [(.int (((own_at xs ((own_len xs) - (1:Int32))) + (1:Int32)).toInt8.toInt32)), (.int ((own_len xs) - (1:Int32))), (.ref b1)])) rfl rfl (hb hby d1_18)
  have Kp5 : Keep h0 h5 [] := Kp1.wr W5 (Or.inr sz_b1)
  have Z7 : n0 ≤ h5.size := Nat.le_trans Z2 (Nat.le_of_eq W5.size.symm)
  have N5 := Fr.snoc X5 N0 ge_b1
  have Vw5 : own_Bytes Z h5 b1 (xs.set ((own_len xs) - (1:Int32)).toNatClampNeg ((((own_at xs ((own_len xs) - (1:Int32))) + (1:Int32)).toInt8.toInt32).toInt8.toInt32)) := V5
  refine own_pre st5 ?_
  refine own_pre (A := T5.setTop (mkF m 20 #[rv a0, rv b1] [(.ref b1)])) (fun t k => ?_) ?_
  · show Steps p.tables e below (T5.setTop (mkF m 19 #[rv a0, rv b1] [])) _
    refine XS.aloadN X5.here hx rfl (hb hby d1_19) rfl rfl ?_
    exact k
  exact own_end X5 (BodyLoose.notSynchronized Bd) (fun h => by rw [Bd.returns] at h; cases h) (v := some (.ref b1)) (fun fs hr => retOut X5 hx Bd.returns rfl (by simp [Value.isRef, FieldType.isReference]) (hb hby d1_20) hr) (by show Q1 Z a0 xs h0 n0 _ T5.heap _; rw [e5]; exact ⟨b1, rfl, N5, Kp5, sz_b1, Vw5⟩) (by decide) (by decide)
theorem own_pn1 : plainName "com/example/lexrow/lexrow/storage/CellKeysPrefixEndPinLaw" = true := by first | (simp [plainName, overriddenIn]; done) | decide +kernel
theorem own_pd0 : parseMethodDescriptor "([B)[B" = some ⟨[(.array .byte)], some (.array .byte)⟩ := by decide +kernel
theorem ef0a (m : MethodId) (p0 : Int32) (p1 : Int32) (p2 : Int32) (p3 : Int32) (p4 : Int32) : entryFrame m #[(.int p0), (.int p1), (.int p2), (.int p3), (.int p4)] maxLocals = mkF m 0 #[iv p0, iv p1, iv p2, iv p3, iv p4, .unset, .unset, .unset, .unset, .unset, .unset] [] := by first | (simp [entryFrame, mkF, argsToLocals, Value.category, maxLocals]; done) | rfl
def f0a (p0 : Int32) (p1 : Int32) (p2 : Int32) (p3 : Int32) (p4 : Int32) : Int32 := (let w0_1 : Int32 := ((p1 &&& (255:Int32)) % (255:Int32)); (if (((w0_1.toInt8.toInt32).toInt8.toInt32) &&& (255:Int32)) = w0_1 then (let w0_2 : Int32 := (if (((((((w0_1.toInt8.toInt32).toInt8.toInt32) + (1:Int32)).toInt8.toInt32)).toInt8.toInt32) &&& (255:Int32)) = (w0_1 + (1:Int32)) then (1:Int32) else (0:Int32)); (w0_2 &&& 1)) else (0:Int32)))
def Q0a (Z : State) (p0 : Int32) (p1 : Int32) (p2 : Int32) (p3 : Int32) (p4 : Int32)  (h0 : Heap) (n0 : Nat) (v : Option Value) (h : Heap) (L : List Loc) : Prop := v = some (.int (f0a p0 p1 p2 p3 p4)) ∧ Fr n0 L
set_option maxRecDepth 65536 in
set_option maxHeartbeats 40000000 in
theorem rm0a (l : Launch) (Z : State) (aZ : Array Value) (hw : ∀ d ∈ tables_1, d.before aZ Z = true) (ws : List Jvm.Cond) (p0 : Int32) (p1 : Int32) (p2 : Int32) (p3 : Int32) (p4 : Int32)  (h0 : Heap) (n0 : Nat) (Z0 : n0 ≤ h0.size) (hlen : ((p0 &&& (3:Int32)) + (1:Int32)) = (1:Int32)) :
    MetFree l x (head1 (Jvm.Cond.code x code maxLocals ret :: ws) room_1) (fun a U => a = #[(.int p0), (.int p1), (.int p2), (.int p3), (.int p4)] ∧ Z.Warmed39 U.vm ∧ U.heap = h0) (fun _ _ _ _ _ => True) (fun _ U o U' => ∃ v L, o = .returned v ∧ Q0a Z p0 p1 p2 p3 p4 h0 n0 v U'.heap L ∧ FrameEnd U o U' L 2 8) := by
  refine MetFree.of_bodySF (plainFor_of_name own_pn1) hisR ?_
  intro p e s m args below meth c s₁ Bd hml0 hP hK
  obtain ⟨rfl, hZ, hh⟩ := hP
  have hx := Bd.exec
  have hby := Bd.bytes
  have hml : c.maxLocals = 11 := hml0
  have hown : s.vm.findClass "com/example/lexrow/lexrow/storage/CellKeysPrefixEndPinLaw" = some m.cls := findClass_of_methodNamed Bd.named
  have hnm := (name_of_methodNamed Bd.named Bd.method).1
  have X0 : Stand p l e room_1 s m #[(.int p0), (.int p1), (.int p2), (.int p3), (.int p4)] below meth c s₁ [] 0 0 := Stand.of_body Bd
  have e0 : s₁.heap = h0 := by rw [← hh, Bd.state]; rfl
  have N0 := Fr.nil n0
  show own_Goes p e below s (Q0a Z p0 p1 p2 p3 p4 h0 n0) 2 8 _
  refine own_pre (fun t k => castTop (ef0a m p0 p1 p2 p3 p4) k) ?_
  refine own_pre (A := s₁.setTop (mkF m 9 #[iv p0, iv p1, iv p2, iv p3, iv p4, iv (1:Int32), .unset, .unset, .unset, .unset, .unset] [(.int (1:Int32))])) (fun t k => ?_) ?_
  · show Steps p.tables e below (s₁.setTop (mkF m 0 #[iv p0, iv p1, iv p2, iv p3, iv p4, .unset, .unset, .unset, .unset, .unset, .unset] [])) _
    refine XS.iloadN X0.here hx rfl (hb hby at_0) rfl ?_
    show Steps p.tables e below (s₁.setTop (mkF m 1 #[iv p0, iv p1, iv p2, iv p3, iv p4, .unset, .unset, .unset, .unset, .unset, .unset] [(.int p0)])) _
    refine XS.iconst X0.here hx rfl (hb hby at_1) ?_
    show Steps p.tables e below (s₁.setTop (mkF m 2 #[iv p0, iv p1, iv p2, iv p3, iv p4, .unset, .unset, .unset, .unset, .unset, .unset] [(.int (3:Int32)), (.int p0)])) _
    refine XS.iand X0.here hx rfl (hb hby at_2) rfl ?_
    show Steps p.tables e below (s₁.setTop (mkF m 3 #[iv p0, iv p1, iv p2, iv p3, iv p4, .unset, .unset, .unset, .unset, .unset, .unset] [(.int (p0 &&& (3:Int32)))])) _
    refine XS.iconst X0.here hx rfl (hb hby at_3) ?_
    show Steps p.tables e below (s₁.setTop (mkF m 4 #[iv p0, iv p1, iv p2, iv p3, iv p4, .unset, .unset, .unset, .unset, .unset, .unset] [(.int (1:Int32)), (.int (p0 &&& (3:Int32)))])) _
    refine XS.iadd X0.here hx rfl (hb hby at_4) rfl ?_
    show Steps p.tables e below (s₁.setTop (mkF m 5 #[iv p0, iv p1, iv p2, iv p3, iv p4, .unset, .unset, .unset, .unset, .unset, .unset] [(.int ((p0 &&& (3:Int32)) + (1:Int32)))])) _
    refine XS.istore X0.here hx rfl (hb hby at_5) rfl (l' := #[iv p0, iv p1, iv p2, iv p3, iv p4, iv (1:Int32), .unset, .unset, .unset, .unset, .unset]) (by rw [hlen]; rfl) ?_
    show Steps p.tables e below (s₁.setTop (mkF m 7 #[iv p0, iv p1, iv p2, iv p3, iv p4, iv (1:Int32), .unset, .unset, .unset, .unset, .unset] [])) _
    refine XS.iload X0.here hx rfl (hb hby at_7) rfl ?_
    exact k
  obtain ⟨T8, h8, k8, X8, e8, E8, A8, B8, st8⟩ := newPE X0 hx hZ (own_h hw 0 rfl) e0 (g := (mkF m 9 #[iv p0, iv p1, iv p2, iv p3, iv p4, iv (1:Int32), .unset, .unset, .unset, .unset, .unset] [(.int (1:Int32))])) rfl (hb hby at_9) rfl (by decide) (cap := 1) (by decide) (by decide) (by decide) (by decide) (ad := "[B") (by decide)
  obtain ⟨b8, g8⟩ : ∃ z, z = h0.size := ⟨_, rfl⟩
  rw [← g8] at A8 st8 B8
  have ge_b8 : n0 ≤ b8 := Nat.le_trans Z0 (Nat.le_of_eq g8.symm)
  have Z9 : n0 ≤ h8.size := Nat.le_trans Z0 E8.1
  have V8 : own_Bytes Z h8 b8 [(0:Int32)] := own_newB A8 (by decide)
  refine own_pre st8 ?_
  refine own_pre (A := T8.setTop (mkF m 18 #[iv p0, iv p1, iv p2, iv p3, iv p4, iv (1:Int32), rv b8, .unset, .unset, .unset, .unset] [(.int (p1.toInt8.toInt32)), (.int (0:Int32)), (.ref b8)])) (fun t k => ?_) ?_
  · show Steps p.tables e below (T8.setTop (mkF m 11 #[iv p0, iv p1, iv p2, iv p3, iv p4, iv (1:Int32), .unset, .unset, .unset, .unset, .unset] [(.ref b8)])) _
    refine XS.astore X8.here hx rfl (hb hby at_11) rfl rfl (l' := #[iv p0, iv p1, iv p2, iv p3, iv p4, iv (1:Int32), rv b8, .unset, .unset, .unset, .unset]) rfl ?_
    show Steps p.tables e below (T8.setTop (mkF m 13 #[iv p0, iv p1, iv p2, iv p3, iv p4, iv (1:Int32), rv b8, .unset, .unset, .unset, .unset] [])) _
    refine XS.aload X8.here hx rfl (hb hby at_13) rfl rfl ?_
    show Steps p.tables e below (T8.setTop (mkF m 15 #[iv p0, iv p1, iv p2, iv p3, iv p4, iv (1:Int32), rv b8, .unset, .unset, .unset, .unset] [(.ref b8)])) _
    refine XS.iconst X8.here hx rfl (hb hby at_15) ?_
    show Steps p.tables e below (T8.setTop (mkF m 16 #[iv p0, iv p1, iv p2, iv p3, iv p4, iv (1:Int32), rv b8, .unset, .unset, .unset, .unset] [(.int (0:Int32)), (.ref b8)])) _
    refine XS.iloadN X8.here hx rfl (hb hby at_16) rfl ?_
    show Steps p.tables e below (T8.setTop (mkF m 17 #[iv p0, iv p1, iv p2, iv p3, iv p4, iv (1:Int32), rv b8, .unset, .unset, .unset, .unset] [(.int p1), (.int (0:Int32)), (.ref b8)])) _
    refine XS.i2b X8.here hx rfl (hb hby at_17) rfl ?_
    exact k
  have hbn11 : own_In (0:Int32) [(0:Int32)].length := own_lit rfl
  obtain ⟨T10, h10, X10, e10, W10, V10, st10⟩ := own_bastore X8 hx hZ e8 V8 (j := (0:Int32)) (x := (p1.toInt8.toInt32)) hbn11 (g := (mkF m 18 #[iv p0, iv p1, iv p2, iv p3, iv p4, iv (1:Int32), rv b8, .unset, .unset, .unset, .unset] [(.int (p1.toInt8.toInt32)), (.int (0:Int32)), (.ref b8)])) rfl rfl (hb hby at_18)
  have Z12 : n0 ≤ h10.size := Nat.le_trans Z9 (Nat.le_of_eq W10.size.symm)
  have N10 := Fr.snoc X10 N0 ge_b8
  have Vw10 : own_Bytes Z h10 b8 [((p1.toInt8.toInt32).toInt8.toInt32)] := V10
  refine own_pre st10 ?_
  obtain ⟨w0_1, hw0_1⟩ : ∃ z : Int32, z = ((p1 &&& (255:Int32)) % (255:Int32)) := ⟨_, rfl⟩
  refine own_pre (A := T10.setTop (mkF m 111 #[iv p0, iv p1, iv p2, iv p3, iv p4, iv (1:Int32), rv b8, iv p1, iv w0_1, .unset, .unset] [(.int (w0_1.toInt8.toInt32)), (.int (0:Int32)), (.ref b8)])) (fun t k => ?_) ?_
  · show Steps p.tables e below (T10.setTop (mkF m 19 #[iv p0, iv p1, iv p2, iv p3, iv p4, iv (1:Int32), rv b8, .unset, .unset, .unset, .unset] [])) _
    refine XS.iload X10.here hx rfl (hb hby at_19) rfl ?_
    show Steps p.tables e below (T10.setTop (mkF m 21 #[iv p0, iv p1, iv p2, iv p3, iv p4, iv (1:Int32), rv b8, .unset, .unset, .unset, .unset] [(.int (1:Int32))])) _
    refine XS.iconst X10.here hx rfl (hb hby at_21) ?_
    show Steps p.tables e below (T10.setTop (mkF m 22 #[iv p0, iv p1, iv p2, iv p3, iv p4, iv (1:Int32), rv b8, .unset, .unset, .unset, .unset] [(.int (1:Int32)), (.int (1:Int32))])) _
    refine XS.icmpYes X10.here hx rfl (pc0 := 22) (pc' := 31) rfl (hb hby at_22) rfl (XT.ii_le_t (by decide)) (by decide) (by decide) ?_
    show Steps p.tables e below (T10.setTop (mkF m 31 #[iv p0, iv p1, iv p2, iv p3, iv p4, iv (1:Int32), rv b8, .unset, .unset, .unset, .unset] [])) _
    refine XS.iload X10.here hx rfl (hb hby at_31) rfl ?_
    show Steps p.tables e below (T10.setTop (mkF m 33 #[iv p0, iv p1, iv p2, iv p3, iv p4, iv (1:Int32), rv b8, .unset, .unset, .unset, .unset] [(.int (1:Int32))])) _
    refine XS.iconst X10.here hx rfl (hb hby at_33) ?_
    show Steps p.tables e below (T10.setTop (mkF m 34 #[iv p0, iv p1, iv p2, iv p3, iv p4, iv (1:Int32), rv b8, .unset, .unset, .unset, .unset] [(.int (2:Int32)), (.int (1:Int32))])) _
    refine XS.icmpYes X10.here hx rfl (pc0 := 34) (pc' := 43) rfl (hb hby at_34) rfl (XT.ii_le_t (by decide)) (by decide) (by decide) ?_
    show Steps p.tables e below (T10.setTop (mkF m 43 #[iv p0, iv p1, iv p2, iv p3, iv p4, iv (1:Int32), rv b8, .unset, .unset, .unset, .unset] [])) _
    refine XS.iload X10.here hx rfl (hb hby at_43) rfl ?_
    show Steps p.tables e below (T10.setTop (mkF m 45 #[iv p0, iv p1, iv p2, iv p3, iv p4, iv (1:Int32), rv b8, .unset, .unset, .unset, .unset] [(.int (1:Int32))])) _
    refine XS.iconst X10.here hx rfl (hb hby at_45) ?_
    show Steps p.tables e below (T10.setTop (mkF m 46 #[iv p0, iv p1, iv p2, iv p3, iv p4, iv (1:Int32), rv b8, .unset, .unset, .unset, .unset] [(.int (3:Int32)), (.int (1:Int32))])) _
    refine XS.icmpYes X10.here hx rfl (pc0 := 46) (pc' := 56) rfl (hb hby at_46) rfl (XT.ii_le_t (by decide)) (by decide) (by decide) ?_
    show Steps p.tables e below (T10.setTop (mkF m 56 #[iv p0, iv p1, iv p2, iv p3, iv p4, iv (1:Int32), rv b8, .unset, .unset, .unset, .unset] [])) _
    refine XS.iload X10.here hx rfl (hb hby at_56) rfl ?_
    show Steps p.tables e below (T10.setTop (mkF m 58 #[iv p0, iv p1, iv p2, iv p3, iv p4, iv (1:Int32), rv b8, .unset, .unset, .unset, .unset] [(.int (1:Int32))])) _
    refine XS.iconst X10.here hx rfl (hb hby at_58) ?_
    show Steps p.tables e below (T10.setTop (mkF m 59 #[iv p0, iv p1, iv p2, iv p3, iv p4, iv (1:Int32), rv b8, .unset, .unset, .unset, .unset] [(.int (1:Int32)), (.int (1:Int32))])) _
    refine XS.icmpNo X10.here hx rfl (hb hby at_59) rfl (XT.ii_ne_f rfl) ?_
    show Steps p.tables e below (T10.setTop (mkF m 62 #[iv p0, iv p1, iv p2, iv p3, iv p4, iv (1:Int32), rv b8, .unset, .unset, .unset, .unset] [])) _
    refine XS.iloadN X10.here hx rfl (hb hby at_62) rfl ?_
    show Steps p.tables e below (T10.setTop (mkF m 63 #[iv p0, iv p1, iv p2, iv p3, iv p4, iv (1:Int32), rv b8, .unset, .unset, .unset, .unset] [(.int p1)])) _
    refine XS.goto X10.here hx rfl (pc0 := 63) (pc' := 88) rfl (hb hby at_63) (by decide) (by decide) ?_
    show Steps p.tables e below (T10.setTop (mkF m 88 #[iv p0, iv p1, iv p2, iv p3, iv p4, iv (1:Int32), rv b8, .unset, .unset, .unset, .unset] [(.int p1)])) _
    refine XS.istore X10.here hx rfl (hb hby at_88) rfl (l' := #[iv p0, iv p1, iv p2, iv p3, iv p4, iv (1:Int32), rv b8, iv p1, .unset, .unset, .unset]) rfl ?_
    show Steps p.tables e below (T10.setTop (mkF m 90 #[iv p0, iv p1, iv p2, iv p3, iv p4, iv (1:Int32), rv b8, iv p1, .unset, .unset, .unset] [])) _
    refine XS.iload X10.here hx rfl (hb hby at_90) rfl ?_
    show Steps p.tables e below (T10.setTop (mkF m 92 #[iv p0, iv p1, iv p2, iv p3, iv p4, iv (1:Int32), rv b8, iv p1, .unset, .unset, .unset] [(.int p1)])) _
    refine XS.sipush X10.here hx rfl (hb hby at_92) ?_
    show Steps p.tables e below (T10.setTop (mkF m 95 #[iv p0, iv p1, iv p2, iv p3, iv p4, iv (1:Int32), rv b8, iv p1, .unset, .unset, .unset] [(.int (255:Int32)), (.int p1)])) _
    refine XS.iand X10.here hx rfl (hb hby at_95) rfl ?_
    show Steps p.tables e below (T10.setTop (mkF m 96 #[iv p0, iv p1, iv p2, iv p3, iv p4, iv (1:Int32), rv b8, iv p1, .unset, .unset, .unset] [(.int (p1 &&& (255:Int32)))])) _
    refine XS.sipush X10.here hx rfl (hb hby at_96) ?_
    show Steps p.tables e below (T10.setTop (mkF m 99 #[iv p0, iv p1, iv p2, iv p3, iv p4, iv (1:Int32), rv b8, iv p1, .unset, .unset, .unset] [(.int (255:Int32)), (.int (p1 &&& (255:Int32)))])) _
    refine iremM X10 hx rfl (hb hby at_99) rfl (by decide) ?_
    show Steps p.tables e below (T10.setTop (mkF m 100 #[iv p0, iv p1, iv p2, iv p3, iv p4, iv (1:Int32), rv b8, iv p1, .unset, .unset, .unset] [(.int ((p1 &&& (255:Int32)) % (255:Int32)))])) _
    refine XS.istore X10.here hx rfl (hb hby at_100) rfl (l' := #[iv p0, iv p1, iv p2, iv p3, iv p4, iv (1:Int32), rv b8, iv p1, iv w0_1, .unset, .unset]) (by rw [hw0_1]; rfl) ?_
    show Steps p.tables e below (T10.setTop (mkF m 102 #[iv p0, iv p1, iv p2, iv p3, iv p4, iv (1:Int32), rv b8, iv p1, iv w0_1, .unset, .unset] [])) _
    refine XS.aload X10.here hx rfl (hb hby at_102) rfl rfl ?_
    show Steps p.tables e below (T10.setTop (mkF m 104 #[iv p0, iv p1, iv p2, iv p3, iv p4, iv (1:Int32), rv b8, iv p1, iv w0_1, .unset, .unset] [(.ref b8)])) _
    refine XS.iload X10.here hx rfl (hb hby at_104) rfl ?_
    show Steps p.tables e below (T10.setTop (mkF m 106 #[iv p0, iv p1, iv p2, iv p3, iv p4, iv (1:Int32), rv b8, iv p1, iv w0_1, .unset, .unset] [(.int (1:Int32)), (.ref b8)])) _
    refine XS.iconst X10.here hx rfl (hb hby at_106) ?_
    show Steps p.tables e below (T10.setTop (mkF m 107 #[iv p0, iv p1, iv p2, iv p3, iv p4, iv (1:Int32), rv b8, iv p1, iv w0_1, .unset, .unset] [(.int (1:Int32)), (.int (1:Int32)), (.ref b8)])) _
    refine XS.isub X10.here hx rfl (hb hby at_107) rfl ?_
    show Steps p.tables e below (T10.setTop (mkF m 108 #[iv p0, iv p1, iv p2, iv p3, iv p4, iv (1:Int32), rv b8, iv p1, iv w0_1, .unset, .unset] [(.int (0:Int32)), (.ref b8)])) _
    refine XS.iload X10.here hx rfl (hb hby at_108) rfl ?_
    show Steps p.tables e below (T10.setTop (mkF m 110 #[iv p0, iv p1, iv p2, iv p3, iv p4, iv (1:Int32), rv b8, iv p1, iv w0_1, .unset, .unset] [(.int w0_1), (.int (0:Int32)), (.ref b8)])) _
    refine XS.i2b X10.here hx rfl (hb hby at_110) rfl ?_
    exact k
  have hbn14 : own_In (0:Int32) [((p1.toInt8.toInt32).toInt8.toInt32)].length := own_lit rfl
  obtain ⟨T13, h13, X13, e13, W13, V13, st13⟩ := own_bastore X10 hx hZ e10 Vw10 (j := (0:Int32)) (x := (w0_1.toInt8.toInt32)) hbn14 (g := (mkF m 111 #[iv p0, iv p1, iv p2, iv p3, iv p4, iv (1:Int32), rv b8, iv p1, iv w0_1, .unset, .unset] [(.int (w0_1.toInt8.toInt32)), (.int (0:Int32)), (.ref b8)])) rfl rfl (hb hby at_111)
  have Z15 : n0 ≤ h13.size := Nat.le_trans Z12 (Nat.le_of_eq W13.size.symm)
  have N13 := Fr.snoc X13 N10 ge_b8
  have Vw13 : own_Bytes Z h13 b8 [((w0_1.toInt8.toInt32).toInt8.toInt32)] := V13
  refine own_pre st13 ?_
  refine own_pre (A := T13.setTop (mkF m 114 #[iv p0, iv p1, iv p2, iv p3, iv p4, iv (1:Int32), rv b8, iv p1, iv w0_1, .unset, .unset] [(.ref b8)])) (fun t k => ?_) ?_
  · show Steps p.tables e below (T13.setTop (mkF m 112 #[iv p0, iv p1, iv p2, iv p3, iv p4, iv (1:Int32), rv b8, iv p1, iv w0_1, .unset, .unset] [])) _
    refine XS.aload X13.here hx rfl (hb hby at_112) rfl rfl ?_
    exact k
  have F17 := ((B8.wr W10).wr W13)
  obtain ⟨_, _, ⟨T16, L16, k16, n16⟩, -, X16, ⟨Lc16, hQ16, l16, y16, z16⟩, st16⟩ := Jvm.LawKit.callS X13 hx (y := (⟨"com/example/lexrow/lexrow/storage/CellKeys", "prefixEnd", "([B)[B"⟩ : MethodName)) hown (mvT hZ (own_h hw 1 rfl)) (mvT hZ (own_h hw 2 rfl)) (mvT hZ (own_h hw 3 rfl)) (mvT hZ (own_h hw 4 rfl)) (by decide) (backOf (W := 0) (rm1 l Z aZ hw [] b8 [((w0_1.toInt8.toInt32).toInt8.toInt32)] h13 n0 Z15 F17 Vw13 (Nat.le_of_ble_eq_true rfl) (own_lastin _ (Nat.le_of_ble_eq_true rfl) (Nat.le_of_ble_eq_true rfl))) hZ (own_h hw 4 rfl) (own_h hw 3 rfl) (by decide) (by decide)) (g := (mkF m 114 #[iv p0, iv p1, iv p2, iv p3, iv p4, iv (1:Int32), rv b8, iv p1, iv w0_1, .unset, .unset] [(.ref b8)])) rfl (by rw [hml]; rfl) (argsL := [(.ref b8)]) (rest := []) (lenOf own_pd0 rfl) rfl (by show 2 * 0 + _ ≤ _; exact Nat.le_of_eq rfl) (hb hby at_114) (fun _ _ => ⟨rfl, e13, (by decide : 1 + 1 ≤ _), (by decide : 1 + 4 ≤ _)⟩)
  dsimp only [Pt.U, Pt.locs, Pt.cells, Pt.slots] at X16 l16 y16 z16 st16 hQ16
  subst l16 y16 z16
  obtain ⟨cl_20, rfl, N16q, K16, sz18, G19⟩ := hQ16
  have N16 := Fr.app N13 N16q
  have Z21 : n0 ≤ T16.heap.size := Nat.le_trans Z15 K16.1
  have G22 : own_Bytes Z T16.heap cl_20 [((((((w0_1.toInt8.toInt32).toInt8.toInt32) + (1:Int32)).toInt8.toInt32)).toInt8.toInt32)] := by rw [show (own_len [((w0_1.toInt8.toInt32).toInt8.toInt32)]) = (1:Int32) from rfl] at G19; exact G19
  have ne23 : b8 ≠ cl_20 := Nat.ne_of_lt (Nat.lt_of_lt_of_le F17.lt sz18)
  have ge24 : n0 ≤ cl_20 := Nat.le_trans Z15 sz18
  refine own_pre st16 ?_
  have F25 := (Vw13.keep K16 nin0)
  have hbn26 : own_In (0:Int32) [((w0_1.toInt8.toInt32).toInt8.toInt32)].length := own_lit rfl
  refine own_pre (A := T16.setTop (mkF m 154 #[iv p0, iv p1, iv p2, iv p3, iv p4, iv (1:Int32), rv b8, iv p1, iv w0_1, rv cl_20, .unset] [(.int w0_1), (.int (((w0_1.toInt8.toInt32).toInt8.toInt32) &&& (255:Int32)))])) (fun t k => ?_) ?_
  · show Steps p.tables e below (T16.setTop (mkF m 117 #[iv p0, iv p1, iv p2, iv p3, iv p4, iv (1:Int32), rv b8, iv p1, iv w0_1, .unset, .unset] [(.ref cl_20)])) _
    refine XS.astore X16.here hx rfl (hb hby at_117) rfl rfl (l' := #[iv p0, iv p1, iv p2, iv p3, iv p4, iv (1:Int32), rv b8, iv p1, iv w0_1, rv cl_20, .unset]) rfl ?_
    show Steps p.tables e below (T16.setTop (mkF m 119 #[iv p0, iv p1, iv p2, iv p3, iv p4, iv (1:Int32), rv b8, iv p1, iv w0_1, rv cl_20, .unset] [])) _
    refine XS.aload X16.here hx rfl (hb hby at_119) rfl rfl ?_
    show Steps p.tables e below (T16.setTop (mkF m 121 #[iv p0, iv p1, iv p2, iv p3, iv p4, iv (1:Int32), rv b8, iv p1, iv w0_1, rv cl_20, .unset] [(.ref cl_20)])) _
    refine XS.ifnullNo X16.here hx rfl (hb hby at_121) rfl ?_
    show Steps p.tables e below (T16.setTop (mkF m 124 #[iv p0, iv p1, iv p2, iv p3, iv p4, iv (1:Int32), rv b8, iv p1, iv w0_1, rv cl_20, .unset] [])) _
    refine XS.aload X16.here hx rfl (hb hby at_124) rfl rfl ?_
    show Steps p.tables e below (T16.setTop (mkF m 126 #[iv p0, iv p1, iv p2, iv p3, iv p4, iv (1:Int32), rv b8, iv p1, iv w0_1, rv cl_20, .unset] [(.ref cl_20)])) _
    refine XS.aload X16.here hx rfl (hb hby at_126) rfl rfl ?_
    show Steps p.tables e below (T16.setTop (mkF m 128 #[iv p0, iv p1, iv p2, iv p3, iv p4, iv (1:Int32), rv b8, iv p1, iv w0_1, rv cl_20, .unset] [(.ref b8), (.ref cl_20)])) _
    refine Jvm.RoadKit.acmp (g := (mkF m 128 #[iv p0, iv p1, iv p2, iv p3, iv p4, iv (1:Int32), rv b8, iv p1, iv w0_1, rv cl_20, .unset] [(.ref b8), (.ref cl_20)])) X16 hx rfl rfl rfl (pc0 := 128) (pc' := 131) (same := false) rfl (hb hby at_128) rfl (decide_eq_false fun q => (Ne.symm ne23) (Value.ref.inj q)) (by decide) (by decide) ?_
    show Steps p.tables e below (T16.setTop (mkF m 131 #[iv p0, iv p1, iv p2, iv p3, iv p4, iv (1:Int32), rv b8, iv p1, iv w0_1, rv cl_20, .unset] [])) _
    refine XS.aload X16.here hx rfl (hb hby at_131) rfl rfl ?_
    show Steps p.tables e below (T16.setTop (mkF m 133 #[iv p0, iv p1, iv p2, iv p3, iv p4, iv (1:Int32), rv b8, iv p1, iv w0_1, rv cl_20, .unset] [(.ref cl_20)])) _
    refine own_arrlenB X16 hx hZ rfl G22 rfl rfl (hb hby at_133) ?_
    show Steps p.tables e below (T16.setTop (mkF m 134 #[iv p0, iv p1, iv p2, iv p3, iv p4, iv (1:Int32), rv b8, iv p1, iv w0_1, rv cl_20, .unset] [(.int (1:Int32))])) _
    refine XS.iload X16.here hx rfl (hb hby at_134) rfl ?_
    show Steps p.tables e below (T16.setTop (mkF m 136 #[iv p0, iv p1, iv p2, iv p3, iv p4, iv (1:Int32), rv b8, iv p1, iv w0_1, rv cl_20, .unset] [(.int (1:Int32)), (.int (1:Int32))])) _
    refine XS.icmpYes X16.here hx rfl (pc0 := 136) (pc' := 141) rfl (hb hby at_136) rfl (XT.ii_eq_t rfl) (by decide) (by decide) ?_
    show Steps p.tables e below (T16.setTop (mkF m 141 #[iv p0, iv p1, iv p2, iv p3, iv p4, iv (1:Int32), rv b8, iv p1, iv w0_1, rv cl_20, .unset] [])) _
    refine XS.aload X16.here hx rfl (hb hby at_141) rfl rfl ?_
    show Steps p.tables e below (T16.setTop (mkF m 143 #[iv p0, iv p1, iv p2, iv p3, iv p4, iv (1:Int32), rv b8, iv p1, iv w0_1, rv cl_20, .unset] [(.ref b8)])) _
    refine XS.iload X16.here hx rfl (hb hby at_143) rfl ?_
    show Steps p.tables e below (T16.setTop (mkF m 145 #[iv p0, iv p1, iv p2, iv p3, iv p4, iv (1:Int32), rv b8, iv p1, iv w0_1, rv cl_20, .unset] [(.int (1:Int32)), (.ref b8)])) _
    refine XS.iconst X16.here hx rfl (hb hby at_145) ?_
    show Steps p.tables e below (T16.setTop (mkF m 146 #[iv p0, iv p1, iv p2, iv p3, iv p4, iv (1:Int32), rv b8, iv p1, iv w0_1, rv cl_20, .unset] [(.int (1:Int32)), (.int (1:Int32)), (.ref b8)])) _
    refine XS.isub X16.here hx rfl (hb hby at_146) rfl ?_
    show Steps p.tables e below (T16.setTop (mkF m 147 #[iv p0, iv p1, iv p2, iv p3, iv p4, iv (1:Int32), rv b8, iv p1, iv w0_1, rv cl_20, .unset] [(.int (0:Int32)), (.ref b8)])) _
    refine own_baload X16 hx hZ rfl F25 hbn26 rfl rfl (hb hby at_147) ?_
    show Steps p.tables e below (T16.setTop (mkF m 148 #[iv p0, iv p1, iv p2, iv p3, iv p4, iv (1:Int32), rv b8, iv p1, iv w0_1, rv cl_20, .unset] [(.int ((w0_1.toInt8.toInt32).toInt8.toInt32))])) _
    refine XS.sipush X16.here hx rfl (hb hby at_148) ?_
    show Steps p.tables e below (T16.setTop (mkF m 151 #[iv p0, iv p1, iv p2, iv p3, iv p4, iv (1:Int32), rv b8, iv p1, iv w0_1, rv cl_20, .unset] [(.int (255:Int32)), (.int ((w0_1.toInt8.toInt32).toInt8.toInt32))])) _
    refine XS.iand X16.here hx rfl (hb hby at_151) rfl ?_
    show Steps p.tables e below (T16.setTop (mkF m 152 #[iv p0, iv p1, iv p2, iv p3, iv p4, iv (1:Int32), rv b8, iv p1, iv w0_1, rv cl_20, .unset] [(.int (((w0_1.toInt8.toInt32).toInt8.toInt32) &&& (255:Int32)))])) _
    refine XS.iload X16.here hx rfl (hb hby at_152) rfl ?_
    exact k
  by_cases hs154_2 : (((w0_1.toInt8.toInt32).toInt8.toInt32) &&& (255:Int32)) = w0_1
  · have hbn27 : own_In (0:Int32) [((((((w0_1.toInt8.toInt32).toInt8.toInt32) + (1:Int32)).toInt8.toInt32)).toInt8.toInt32)].length := own_lit rfl
    refine own_pre (A := T16.setTop (mkF m 172 #[iv p0, iv p1, iv p2, iv p3, iv p4, iv (1:Int32), rv b8, iv p1, iv w0_1, rv cl_20, .unset] [(.int (w0_1 + (1:Int32))), (.int (((((((w0_1.toInt8.toInt32).toInt8.toInt32) + (1:Int32)).toInt8.toInt32)).toInt8.toInt32) &&& (255:Int32)))])) (fun t k => ?_) ?_
    · show Steps p.tables e below (T16.setTop (mkF m 154 #[iv p0, iv p1, iv p2, iv p3, iv p4, iv (1:Int32), rv b8, iv p1, iv w0_1, rv cl_20, .unset] [(.int w0_1), (.int (((w0_1.toInt8.toInt32).toInt8.toInt32) &&& (255:Int32)))])) _
      refine XS.icmpNo X16.here hx rfl (hb hby at_154) rfl (XT.ii_ne_f hs154_2) ?_
      show Steps p.tables e below (T16.setTop (mkF m 157 #[iv p0, iv p1, iv p2, iv p3, iv p4, iv (1:Int32), rv b8, iv p1, iv w0_1, rv cl_20, .unset] [])) _
      refine XS.aload X16.here hx rfl (hb hby at_157) rfl rfl ?_
      show Steps p.tables e below (T16.setTop (mkF m 159 #[iv p0, iv p1, iv p2, iv p3, iv p4, iv (1:Int32), rv b8, iv p1, iv w0_1, rv cl_20, .unset] [(.ref cl_20)])) _
      refine XS.iload X16.here hx rfl (hb hby at_159) rfl ?_
      show Steps p.tables e below (T16.setTop (mkF m 161 #[iv p0, iv p1, iv p2, iv p3, iv p4, iv (1:Int32), rv b8, iv p1, iv w0_1, rv cl_20, .unset] [(.int (1:Int32)), (.ref cl_20)])) _
      refine XS.iconst X16.here hx rfl (hb hby at_161) ?_
      show Steps p.tables e below (T16.setTop (mkF m 162 #[iv p0, iv p1, iv p2, iv p3, iv p4, iv (1:Int32), rv b8, iv p1, iv w0_1, rv cl_20, .unset] [(.int (1:Int32)), (.int (1:Int32)), (.ref cl_20)])) _
      refine XS.isub X16.here hx rfl (hb hby at_162) rfl ?_
      show Steps p.tables e below (T16.setTop (mkF m 163 #[iv p0, iv p1, iv p2, iv p3, iv p4, iv (1:Int32), rv b8, iv p1, iv w0_1, rv cl_20, .unset] [(.int (0:Int32)), (.ref cl_20)])) _
      refine own_baload X16 hx hZ rfl G22 hbn27 rfl rfl (hb hby at_163) ?_
      show Steps p.tables e below (T16.setTop (mkF m 164 #[iv p0, iv p1, iv p2, iv p3, iv p4, iv (1:Int32), rv b8, iv p1, iv w0_1, rv cl_20, .unset] [(.int ((((((w0_1.toInt8.toInt32).toInt8.toInt32) + (1:Int32)).toInt8.toInt32)).toInt8.toInt32))])) _
      refine XS.sipush X16.here hx rfl (hb hby at_164) ?_
      show Steps p.tables e below (T16.setTop (mkF m 167 #[iv p0, iv p1, iv p2, iv p3, iv p4, iv (1:Int32), rv b8, iv p1, iv w0_1, rv cl_20, .unset] [(.int (255:Int32)), (.int ((((((w0_1.toInt8.toInt32).toInt8.toInt32) + (1:Int32)).toInt8.toInt32)).toInt8.toInt32))])) _
      refine XS.iand X16.here hx rfl (hb hby at_167) rfl ?_
      show Steps p.tables e below (T16.setTop (mkF m 168 #[iv p0, iv p1, iv p2, iv p3, iv p4, iv (1:Int32), rv b8, iv p1, iv w0_1, rv cl_20, .unset] [(.int (((((((w0_1.toInt8.toInt32).toInt8.toInt32) + (1:Int32)).toInt8.toInt32)).toInt8.toInt32) &&& (255:Int32)))])) _
      refine XS.iload X16.here hx rfl (hb hby at_168) rfl ?_
      show Steps p.tables e below (T16.setTop (mkF m 170 #[iv p0, iv p1, iv p2, iv p3, iv p4, iv (1:Int32), rv b8, iv p1, iv w0_1, rv cl_20, .unset] [(.int w0_1), (.int (((((((w0_1.toInt8.toInt32).toInt8.toInt32) + (1:Int32)).toInt8.toInt32)).toInt8.toInt32) &&& (255:Int32)))])) _
      refine XS.iconst X16.here hx rfl (hb hby at_170) ?_
      show Steps p.tables e below (T16.setTop (mkF m 171 #[iv p0, iv p1, iv p2, iv p3, iv p4, iv (1:Int32), rv b8, iv p1, iv w0_1, rv cl_20, .unset] [(.int (1:Int32)), (.int w0_1), (.int (((((((w0_1.toInt8.toInt32).toInt8.toInt32) + (1:Int32)).toInt8.toInt32)).toInt8.toInt32) &&& (255:Int32)))])) _
      refine XS.iadd X16.here hx rfl (hb hby at_171) rfl ?_
      exact k
    obtain ⟨w0_2, hw0_2⟩ : ∃ z : Int32, z = (if (((((((w0_1.toInt8.toInt32).toInt8.toInt32) + (1:Int32)).toInt8.toInt32)).toInt8.toInt32) &&& (255:Int32)) = (w0_1 + (1:Int32)) then (1:Int32) else (0:Int32)) := ⟨_, rfl⟩
    refine own_pre (A := T16.setTop (mkF m 180 #[iv p0, iv p1, iv p2, iv p3, iv p4, iv (1:Int32), rv b8, iv p1, iv w0_1, rv cl_20, .unset] [(.int w0_2)])) (fun t k => ?_) ?_
    · show Steps p.tables e below (T16.setTop (mkF m 172 #[iv p0, iv p1, iv p2, iv p3, iv p4, iv (1:Int32), rv b8, iv p1, iv w0_1, rv cl_20, .unset] [(.int (w0_1 + (1:Int32))), (.int (((((((w0_1.toInt8.toInt32).toInt8.toInt32) + (1:Int32)).toInt8.toInt32)).toInt8.toInt32) &&& (255:Int32)))])) _
      by_cases hm172_3 : (((((((w0_1.toInt8.toInt32).toInt8.toInt32) + (1:Int32)).toInt8.toInt32)).toInt8.toInt32) &&& (255:Int32)) = (w0_1 + (1:Int32))
      · refine XS.icmpNo X16.here hx rfl (hb hby at_172) rfl (XT.ii_ne_f hm172_3) ?_
        show Steps p.tables e below (T16.setTop (mkF m 175 #[iv p0, iv p1, iv p2, iv p3, iv p4, iv (1:Int32), rv b8, iv p1, iv w0_1, rv cl_20, .unset] [])) _
        refine XS.iconst X16.here hx rfl (hb hby at_175) ?_
        show Steps p.tables e below (T16.setTop (mkF m 176 #[iv p0, iv p1, iv p2, iv p3, iv p4, iv (1:Int32), rv b8, iv p1, iv w0_1, rv cl_20, .unset] [(.int (1:Int32))])) _
        refine XS.goto X16.here hx rfl (pc0 := 176) (pc' := 180) rfl (hb hby at_176) (by decide) (by decide) ?_
        rw [hw0_2.trans (if_pos hm172_3)] at k
        exact k
      · refine XS.icmpYes X16.here hx rfl (pc0 := 172) (pc' := 179) rfl (hb hby at_172) rfl (XT.ii_ne_t hm172_3) (by decide) (by decide) ?_
        show Steps p.tables e below (T16.setTop (mkF m 179 #[iv p0, iv p1, iv p2, iv p3, iv p4, iv (1:Int32), rv b8, iv p1, iv w0_1, rv cl_20, .unset] [])) _
        refine XS.iconst X16.here hx rfl (hb hby at_179) ?_
        rw [hw0_2.trans (if_neg hm172_3)] at k
        exact k
    refine own_pre (A := T16.setTop (mkF m 334 #[iv p0, iv p1, iv p2, iv p3, iv p4, iv (1:Int32), rv b8, iv p1, iv w0_1, rv cl_20, iv w0_2] [(.int w0_2)])) (fun t k => ?_) ?_
    · show Steps p.tables e below (T16.setTop (mkF m 180 #[iv p0, iv p1, iv p2, iv p3, iv p4, iv (1:Int32), rv b8, iv p1, iv w0_1, rv cl_20, .unset] [(.int w0_2)])) _
      refine XS.istore X16.here hx rfl (hb hby at_180) rfl (l' := #[iv p0, iv p1, iv p2, iv p3, iv p4, iv (1:Int32), rv b8, iv p1, iv w0_1, rv cl_20, iv w0_2]) rfl ?_
      show Steps p.tables e below (T16.setTop (mkF m 182 #[iv p0, iv p1, iv p2, iv p3, iv p4, iv (1:Int32), rv b8, iv p1, iv w0_1, rv cl_20, iv w0_2] [])) _
      refine XS.iload X16.here hx rfl (hb hby at_182) rfl ?_
      show Steps p.tables e below (T16.setTop (mkF m 184 #[iv p0, iv p1, iv p2, iv p3, iv p4, iv (1:Int32), rv b8, iv p1, iv w0_1, rv cl_20, iv w0_2] [(.int (1:Int32))])) _
      refine XS.iconst X16.here hx rfl (hb hby at_184) ?_
      show Steps p.tables e below (T16.setTop (mkF m 185 #[iv p0, iv p1, iv p2, iv p3, iv p4, iv (1:Int32), rv b8, iv p1, iv w0_1, rv cl_20, iv w0_2] [(.int (1:Int32)), (.int (1:Int32))])) _
      refine XS.icmpYes X16.here hx rfl (pc0 := 185) (pc' := 232) rfl (hb hby at_185) rfl (XT.ii_le_t (by decide)) (by decide) (by decide) ?_
      show Steps p.tables e below (T16.setTop (mkF m 232 #[iv p0, iv p1, iv p2, iv p3, iv p4, iv (1:Int32), rv b8, iv p1, iv w0_1, rv cl_20, iv w0_2] [])) _
      refine XS.iload X16.here hx rfl (hb hby at_232) rfl ?_
      show Steps p.tables e below (T16.setTop (mkF m 234 #[iv p0, iv p1, iv p2, iv p3, iv p4, iv (1:Int32), rv b8, iv p1, iv w0_1, rv cl_20, iv w0_2] [(.int (1:Int32))])) _
      refine XS.iconst X16.here hx rfl (hb hby at_234) ?_
      show Steps p.tables e below (T16.setTop (mkF m 235 #[iv p0, iv p1, iv p2, iv p3, iv p4, iv (1:Int32), rv b8, iv p1, iv w0_1, rv cl_20, iv w0_2] [(.int (2:Int32)), (.int (1:Int32))])) _
      refine XS.icmpYes X16.here hx rfl (pc0 := 235) (pc' := 282) rfl (hb hby at_235) rfl (XT.ii_le_t (by decide)) (by decide) (by decide) ?_
      show Steps p.tables e below (T16.setTop (mkF m 282 #[iv p0, iv p1, iv p2, iv p3, iv p4, iv (1:Int32), rv b8, iv p1, iv w0_1, rv cl_20, iv w0_2] [])) _
      refine XS.iload X16.here hx rfl (hb hby at_282) rfl ?_
      show Steps p.tables e below (T16.setTop (mkF m 284 #[iv p0, iv p1, iv p2, iv p3, iv p4, iv (1:Int32), rv b8, iv p1, iv w0_1, rv cl_20, iv w0_2] [(.int (1:Int32))])) _
      refine XS.iconst X16.here hx rfl (hb hby at_284) ?_
      show Steps p.tables e below (T16.setTop (mkF m 285 #[iv p0, iv p1, iv p2, iv p3, iv p4, iv (1:Int32), rv b8, iv p1, iv w0_1, rv cl_20, iv w0_2] [(.int (3:Int32)), (.int (1:Int32))])) _
      refine XS.icmpYes X16.here hx rfl (pc0 := 285) (pc' := 332) rfl (hb hby at_285) rfl (XT.ii_le_t (by decide)) (by decide) (by decide) ?_
      show Steps p.tables e below (T16.setTop (mkF m 332 #[iv p0, iv p1, iv p2, iv p3, iv p4, iv (1:Int32), rv b8, iv p1, iv w0_1, rv cl_20, iv w0_2] [])) _
      refine XS.iload X16.here hx rfl (hb hby at_332) rfl ?_
      exact k
    have hv28 : (w0_2 &&& 1) = f0a p0 p1 p2 p3 p4 := by subst hw0_1 hw0_2; simp only [f0a, if_pos hs154_2]
    exact own_end X16 (BodyLoose.notSynchronized Bd) (fun h => by rw [Bd.returns] at h; cases h) (v := some (.int (w0_2 &&& 1))) (fun fs hr => retN X16 hx (t := .boolean) Bd.returns (by simp) (hb hby at_334) hr) (by show Q0a Z p0 p1 p2 p3 p4 h0 n0 _ T16.heap _; exact ⟨(congrArg (fun z => some (Value.int z)) hv28), N16⟩) (by decide) (by decide)
  · refine own_pre (A := T16.setTop (mkF m 334 #[iv p0, iv p1, iv p2, iv p3, iv p4, iv (1:Int32), rv b8, iv p1, iv w0_1, rv cl_20, iv (0:Int32)] [(.int (0:Int32))])) (fun t k => ?_) ?_
    · show Steps p.tables e below (T16.setTop (mkF m 154 #[iv p0, iv p1, iv p2, iv p3, iv p4, iv (1:Int32), rv b8, iv p1, iv w0_1, rv cl_20, .unset] [(.int w0_1), (.int (((w0_1.toInt8.toInt32).toInt8.toInt32) &&& (255:Int32)))])) _
      refine XS.icmpYes X16.here hx rfl (pc0 := 154) (pc' := 179) rfl (hb hby at_154) rfl (XT.ii_ne_t hs154_2) (by decide) (by decide) ?_
      show Steps p.tables e below (T16.setTop (mkF m 179 #[iv p0, iv p1, iv p2, iv p3, iv p4, iv (1:Int32), rv b8, iv p1, iv w0_1, rv cl_20, .unset] [])) _
      refine XS.iconst X16.here hx rfl (hb hby at_179) ?_
      show Steps p.tables e below (T16.setTop (mkF m 180 #[iv p0, iv p1, iv p2, iv p3, iv p4, iv (1:Int32), rv b8, iv p1, iv w0_1, rv cl_20, .unset] [(.int (0:Int32))])) _
      refine XS.istore X16.here hx rfl (hb hby at_180) rfl (l' := #[iv p0, iv p1, iv p2, iv p3, iv p4, iv (1:Int32), rv b8, iv p1, iv w0_1, rv cl_20, iv (0:Int32)]) rfl ?_
      show Steps p.tables e below (T16.setTop (mkF m 182 #[iv p0, iv p1, iv p2, iv p3, iv p4, iv (1:Int32), rv b8, iv p1, iv w0_1, rv cl_20, iv (0:Int32)] [])) _
      refine XS.iload X16.here hx rfl (hb hby at_182) rfl ?_
      show Steps p.tables e below (T16.setTop (mkF m 184 #[iv p0, iv p1, iv p2, iv p3, iv p4, iv (1:Int32), rv b8, iv p1, iv w0_1, rv cl_20, iv (0:Int32)] [(.int (1:Int32))])) _
      refine XS.iconst X16.here hx rfl (hb hby at_184) ?_
      show Steps p.tables e below (T16.setTop (mkF m 185 #[iv p0, iv p1, iv p2, iv p3, iv p4, iv (1:Int32), rv b8, iv p1, iv w0_1, rv cl_20, iv (0:Int32)] [(.int (1:Int32)), (.int (1:Int32))])) _
      refine XS.icmpYes X16.here hx rfl (pc0 := 185) (pc' := 232) rfl (hb hby at_185) rfl (XT.ii_le_t (by decide)) (by decide) (by decide) ?_
      show Steps p.tables e below (T16.setTop (mkF m 232 #[iv p0, iv p1, iv p2, iv p3, iv p4, iv (1:Int32), rv b8, iv p1, iv w0_1, rv cl_20, iv (0:Int32)] [])) _
      refine XS.iload X16.here hx rfl (hb hby at_232) rfl ?_
      show Steps p.tables e below (T16.setTop (mkF m 234 #[iv p0, iv p1, iv p2, iv p3, iv p4, iv (1:Int32), rv b8, iv p1, iv w0_1, rv cl_20, iv (0:Int32)] [(.int (1:Int32))])) _
      refine XS.iconst X16.here hx rfl (hb hby at_234) ?_
      show Steps p.tables e below (T16.setTop (mkF m 235 #[iv p0, iv p1, iv p2, iv p3, iv p4, iv (1:Int32), rv b8, iv p1, iv w0_1, rv cl_20, iv (0:Int32)] [(.int (2:Int32)), (.int (1:Int32))])) _
      refine XS.icmpYes X16.here hx rfl (pc0 := 235) (pc' := 282) rfl (hb hby at_235) rfl (XT.ii_le_t (by decide)) (by decide) (by decide) ?_
      show Steps p.tables e below (T16.setTop (mkF m 282 #[iv p0, iv p1, iv p2, iv p3, iv p4, iv (1:Int32), rv b8, iv p1, iv w0_1, rv cl_20, iv (0:Int32)] [])) _
      refine XS.iload X16.here hx rfl (hb hby at_282) rfl ?_
      show Steps p.tables e below (T16.setTop (mkF m 284 #[iv p0, iv p1, iv p2, iv p3, iv p4, iv (1:Int32), rv b8, iv p1, iv w0_1, rv cl_20, iv (0:Int32)] [(.int (1:Int32))])) _
      refine XS.iconst X16.here hx rfl (hb hby at_284) ?_
      show Steps p.tables e below (T16.setTop (mkF m 285 #[iv p0, iv p1, iv p2, iv p3, iv p4, iv (1:Int32), rv b8, iv p1, iv w0_1, rv cl_20, iv (0:Int32)] [(.int (3:Int32)), (.int (1:Int32))])) _
      refine XS.icmpYes X16.here hx rfl (pc0 := 285) (pc' := 332) rfl (hb hby at_285) rfl (XT.ii_le_t (by decide)) (by decide) (by decide) ?_
      show Steps p.tables e below (T16.setTop (mkF m 332 #[iv p0, iv p1, iv p2, iv p3, iv p4, iv (1:Int32), rv b8, iv p1, iv w0_1, rv cl_20, iv (0:Int32)] [])) _
      refine XS.iload X16.here hx rfl (hb hby at_332) rfl ?_
      exact k
    have hv29 : (0:Int32) = f0a p0 p1 p2 p3 p4 := by subst hw0_1; simp only [f0a, if_neg hs154_2]
    exact own_end X16 (BodyLoose.notSynchronized Bd) (fun h => by rw [Bd.returns] at h; cases h) (v := some (.int (0:Int32))) (fun fs hr => retN X16 hx (t := .boolean) Bd.returns (by simp) (hb hby at_334) hr) (by show Q0a Z p0 p1 p2 p3 p4 h0 n0 _ T16.heap _; exact ⟨(congrArg (fun z => some (Value.int z)) hv29), N16⟩) (by decide) (by decide)
theorem ef0b (m : MethodId) (p0 : Int32) (p1 : Int32) (p2 : Int32) (p3 : Int32) (p4 : Int32) : entryFrame m #[(.int p0), (.int p1), (.int p2), (.int p3), (.int p4)] maxLocals = mkF m 0 #[iv p0, iv p1, iv p2, iv p3, iv p4, .unset, .unset, .unset, .unset, .unset, .unset] [] := by first | (simp [entryFrame, mkF, argsToLocals, Value.category, maxLocals]; done) | rfl
def f0b (p0 : Int32) (p1 : Int32) (p2 : Int32) (p3 : Int32) (p4 : Int32) : Int32 := (let w0_1 : Int32 := ((p2 &&& (255:Int32)) % (255:Int32)); (if (((w0_1.toInt8.toInt32).toInt8.toInt32) &&& (255:Int32)) = w0_1 then (let w0_2 : Int32 := (if (((((((w0_1.toInt8.toInt32).toInt8.toInt32) + (1:Int32)).toInt8.toInt32)).toInt8.toInt32) &&& (255:Int32)) = (w0_1 + (1:Int32)) then (1:Int32) else (0:Int32)); (if w0_2 = (0:Int32) then (0:Int32) else (if (((p1.toInt8.toInt32).toInt8.toInt32) &&& (255:Int32)) = (p1 &&& (255:Int32)) then (1:Int32) else (0:Int32)))) else (0:Int32)))
def Q0b (Z : State) (p0 : Int32) (p1 : Int32) (p2 : Int32) (p3 : Int32) (p4 : Int32)  (h0 : Heap) (n0 : Nat) (v : Option Value) (h : Heap) (L : List Loc) : Prop := v = some (.int (f0b p0 p1 p2 p3 p4)) ∧ Fr n0 L
set_option maxRecDepth 65536 in
set_option maxHeartbeats 40000000 in
theorem rm0b (l : Launch) (Z : State) (aZ : Array Value) (hw : ∀ d ∈ tables_1, d.before aZ Z = true) (ws : List Jvm.Cond) (p0 : Int32) (p1 : Int32) (p2 : Int32) (p3 : Int32) (p4 : Int32)  (h0 : Heap) (n0 : Nat) (Z0 : n0 ≤ h0.size) (hlen : ((p0 &&& (3:Int32)) + (1:Int32)) = (2:Int32)) :
    MetFree l x (head1 (Jvm.Cond.code x code maxLocals ret :: ws) room_1) (fun a U => a = #[(.int p0), (.int p1), (.int p2), (.int p3), (.int p4)] ∧ Z.Warmed39 U.vm ∧ U.heap = h0) (fun _ _ _ _ _ => True) (fun _ U o U' => ∃ v L, o = .returned v ∧ Q0b Z p0 p1 p2 p3 p4 h0 n0 v U'.heap L ∧ FrameEnd U o U' L 2 8) := by
  refine MetFree.of_bodySF (plainFor_of_name own_pn1) hisR ?_
  intro p e s m args below meth c s₁ Bd hml0 hP hK
  obtain ⟨rfl, hZ, hh⟩ := hP
  have hx := Bd.exec
  have hby := Bd.bytes
  have hml : c.maxLocals = 11 := hml0
  have hown : s.vm.findClass "com/example/lexrow/lexrow/storage/CellKeysPrefixEndPinLaw" = some m.cls := findClass_of_methodNamed Bd.named
  have hnm := (name_of_methodNamed Bd.named Bd.method).1
  have X0 : Stand p l e room_1 s m #[(.int p0), (.int p1), (.int p2), (.int p3), (.int p4)] below meth c s₁ [] 0 0 := Stand.of_body Bd
  have e0 : s₁.heap = h0 := by rw [← hh, Bd.state]; rfl
  have N0 := Fr.nil n0
  show own_Goes p e below s (Q0b Z p0 p1 p2 p3 p4 h0 n0) 2 8 _
  refine own_pre (fun t k => castTop (ef0b m p0 p1 p2 p3 p4) k) ?_
  refine own_pre (A := s₁.setTop (mkF m 9 #[iv p0, iv p1, iv p2, iv p3, iv p4, iv (2:Int32), .unset, .unset, .unset, .unset, .unset] [(.int (2:Int32))])) (fun t k => ?_) ?_
  · show Steps p.tables e below (s₁.setTop (mkF m 0 #[iv p0, iv p1, iv p2, iv p3, iv p4, .unset, .unset, .unset, .unset, .unset, .unset] [])) _
    refine XS.iloadN X0.here hx rfl (hb hby at_0) rfl ?_
    show Steps p.tables e below (s₁.setTop (mkF m 1 #[iv p0, iv p1, iv p2, iv p3, iv p4, .unset, .unset, .unset, .unset, .unset, .unset] [(.int p0)])) _
    refine XS.iconst X0.here hx rfl (hb hby at_1) ?_
    show Steps p.tables e below (s₁.setTop (mkF m 2 #[iv p0, iv p1, iv p2, iv p3, iv p4, .unset, .unset, .unset, .unset, .unset, .unset] [(.int (3:Int32)), (.int p0)])) _
    refine XS.iand X0.here hx rfl (hb hby at_2) rfl ?_
    show Steps p.tables e below (s₁.setTop (mkF m 3 #[iv p0, iv p1, iv p2, iv p3, iv p4, .unset, .unset, .unset, .unset, .unset, .unset] [(.int (p0 &&& (3:Int32)))])) _
    refine XS.iconst X0.here hx rfl (hb hby at_3) ?_
    show Steps p.tables e below (s₁.setTop (mkF m 4 #[iv p0, iv p1, iv p2, iv p3, iv p4, .unset, .unset, .unset, .unset, .unset, .unset] [(.int (1:Int32)), (.int (p0 &&& (3:Int32)))])) _
    refine XS.iadd X0.here hx rfl (hb hby at_4) rfl ?_
    show Steps p.tables e below (s₁.setTop (mkF m 5 #[iv p0, iv p1, iv p2, iv p3, iv p4, .unset, .unset, .unset, .unset, .unset, .unset] [(.int ((p0 &&& (3:Int32)) + (1:Int32)))])) _
    refine XS.istore X0.here hx rfl (hb hby at_5) rfl (l' := #[iv p0, iv p1, iv p2, iv p3, iv p4, iv (2:Int32), .unset, .unset, .unset, .unset, .unset]) (by rw [hlen]; rfl) ?_
    show Steps p.tables e below (s₁.setTop (mkF m 7 #[iv p0, iv p1, iv p2, iv p3, iv p4, iv (2:Int32), .unset, .unset, .unset, .unset, .unset] [])) _
    refine XS.iload X0.here hx rfl (hb hby at_7) rfl ?_
    exact k
  obtain ⟨T30, h30, k30, X30, e30, E30, A30, B30, st30⟩ := newPE X0 hx hZ (own_h hw 0 rfl) e0 (g := (mkF m 9 #[iv p0, iv p1, iv p2, iv p3, iv p4, iv (2:Int32), .unset, .unset, .unset, .unset, .unset] [(.int (2:Int32))])) rfl (hb hby at_9) rfl (by decide) (cap := 2) (by decide) (by decide) (by decide) (by decide) (ad := "[B") (by decide)
  obtain ⟨b30, g30⟩ : ∃ z, z = h0.size := ⟨_, rfl⟩
  rw [← g30] at A30 st30 B30
  have ge_b30 : n0 ≤ b30 := Nat.le_trans Z0 (Nat.le_of_eq g30.symm)
  have Z31 : n0 ≤ h30.size := Nat.le_trans Z0 E30.1
  have V30 : own_Bytes Z h30 b30 [(0:Int32), (0:Int32)] := own_newB A30 (by decide)
  refine own_pre st30 ?_
  refine own_pre (A := T30.setTop (mkF m 18 #[iv p0, iv p1, iv p2, iv p3, iv p4, iv (2:Int32), rv b30, .unset, .unset, .unset, .unset] [(.int (p1.toInt8.toInt32)), (.int (0:Int32)), (.ref b30)])) (fun t k => ?_) ?_
  · show Steps p.tables e below (T30.setTop (mkF m 11 #[iv p0, iv p1, iv p2, iv p3, iv p4, iv (2:Int32), .unset, .unset, .unset, .unset, .unset] [(.ref b30)])) _
    refine XS.astore X30.here hx rfl (hb hby at_11) rfl rfl (l' := #[iv p0, iv p1, iv p2, iv p3, iv p4, iv (2:Int32), rv b30, .unset, .unset, .unset, .unset]) rfl ?_
    show Steps p.tables e below (T30.setTop (mkF m 13 #[iv p0, iv p1, iv p2, iv p3, iv p4, iv (2:Int32), rv b30, .unset, .unset, .unset, .unset] [])) _
    refine XS.aload X30.here hx rfl (hb hby at_13) rfl rfl ?_
    show Steps p.tables e below (T30.setTop (mkF m 15 #[iv p0, iv p1, iv p2, iv p3, iv p4, iv (2:Int32), rv b30, .unset, .unset, .unset, .unset] [(.ref b30)])) _
    refine XS.iconst X30.here hx rfl (hb hby at_15) ?_
    show Steps p.tables e below (T30.setTop (mkF m 16 #[iv p0, iv p1, iv p2, iv p3, iv p4, iv (2:Int32), rv b30, .unset, .unset, .unset, .unset] [(.int (0:Int32)), (.ref b30)])) _
    refine XS.iloadN X30.here hx rfl (hb hby at_16) rfl ?_
    show Steps p.tables e below (T30.setTop (mkF m 17 #[iv p0, iv p1, iv p2, iv p3, iv p4, iv (2:Int32), rv b30, .unset, .unset, .unset, .unset] [(.int p1), (.int (0:Int32)), (.ref b30)])) _
    refine XS.i2b X30.here hx rfl (hb hby at_17) rfl ?_
    exact k
  have hbn33 : own_In (0:Int32) [(0:Int32), (0:Int32)].length := own_lit rfl
  obtain ⟨T32, h32, X32, e32, W32, V32, st32⟩ := own_bastore X30 hx hZ e30 V30 (j := (0:Int32)) (x := (p1.toInt8.toInt32)) hbn33 (g := (mkF m 18 #[iv p0, iv p1, iv p2, iv p3, iv p4, iv (2:Int32), rv b30, .unset, .unset, .unset, .unset] [(.int (p1.toInt8.toInt32)), (.int (0:Int32)), (.ref b30)])) rfl rfl (hb hby at_18)
  have Z34 : n0 ≤ h32.size := Nat.le_trans Z31 (Nat.le_of_eq W32.size.symm)
  have N32 := Fr.snoc X32 N0 ge_b30
  have Vw32 : own_Bytes Z h32 b30 [((p1.toInt8.toInt32).toInt8.toInt32), (0:Int32)] := V32
  refine own_pre st32 ?_
  refine own_pre (A := T32.setTop (mkF m 30 #[iv p0, iv p1, iv p2, iv p3, iv p4, iv (2:Int32), rv b30, .unset, .unset, .unset, .unset] [(.int (p2.toInt8.toInt32)), (.int (1:Int32)), (.ref b30)])) (fun t k => ?_) ?_
  · show Steps p.tables e below (T32.setTop (mkF m 19 #[iv p0, iv p1, iv p2, iv p3, iv p4, iv (2:Int32), rv b30, .unset, .unset, .unset, .unset] [])) _
    refine XS.iload X32.here hx rfl (hb hby at_19) rfl ?_
    show Steps p.tables e below (T32.setTop (mkF m 21 #[iv p0, iv p1, iv p2, iv p3, iv p4, iv (2:Int32), rv b30, .unset, .unset, .unset, .unset] [(.int (2:Int32))])) _
    refine XS.iconst X32.here hx rfl (hb hby at_21) ?_
    show Steps p.tables e below (T32.setTop (mkF m 22 #[iv p0, iv p1, iv p2, iv p3, iv p4, iv (2:Int32), rv b30, .unset, .unset, .unset, .unset] [(.int (1:Int32)), (.int (2:Int32))])) _
    refine XS.icmpNo X32.here hx rfl (hb hby at_22) rfl (XT.ii_le_f (by decide)) ?_
    show Steps p.tables e below (T32.setTop (mkF m 25 #[iv p0, iv p1, iv p2, iv p3, iv p4, iv (2:Int32), rv b30, .unset, .unset, .unset, .unset] [])) _
    refine XS.aload X32.here hx rfl (hb hby at_25) rfl rfl ?_
    show Steps p.tables e below (T32.setTop (mkF m 27 #[iv p0, iv p1, iv p2, iv p3, iv p4, iv (2:Int32), rv b30, .unset, .unset, .unset, .unset] [(.ref b30)])) _
    refine XS.iconst X32.here hx rfl (hb hby at_27) ?_
    show Steps p.tables e below (T32.setTop (mkF m 28 #[iv p0, iv p1, iv p2, iv p3, iv p4, iv (2:Int32), rv b30, .unset, .unset, .unset, .unset] [(.int (1:Int32)), (.ref b30)])) _
    refine XS.iloadN X32.here hx rfl (hb hby at_28) rfl ?_
    show Steps p.tables e below (T32.setTop (mkF m 29 #[iv p0, iv p1, iv p2, iv p3, iv p4, iv (2:Int32), rv b30, .unset, .unset, .unset, .unset] [(.int p2), (.int (1:Int32)), (.ref b30)])) _
    refine XS.i2b X32.here hx rfl (hb hby at_29) rfl ?_
    exact k
  have hbn36 : own_In (1:Int32) [((p1.toInt8.toInt32).toInt8.toInt32), (0:Int32)].length := own_lit rfl
  obtain ⟨T35, h35, X35, e35, W35, V35, st35⟩ := own_bastore X32 hx hZ e32 Vw32 (j := (1:Int32)) (x := (p2.toInt8.toInt32)) hbn36 (g := (mkF m 30 #[iv p0, iv p1, iv p2, iv p3, iv p4, iv (2:Int32), rv b30, .unset, .unset, .unset, .unset] [(.int (p2.toInt8.toInt32)), (.int (1:Int32)), (.ref b30)])) rfl rfl (hb hby at_30)
  have Z37 : n0 ≤ h35.size := Nat.le_trans Z34 (Nat.le_of_eq W35.size.symm)
  have N35 := Fr.snoc X35 N32 ge_b30
  have Vw35 : own_Bytes Z h35 b30 [((p1.toInt8.toInt32).toInt8.toInt32), ((p2.toInt8.toInt32).toInt8.toInt32)] := V35
  refine own_pre st35 ?_
  obtain ⟨w0_1, hw0_1⟩ : ∃ z : Int32, z = ((p2 &&& (255:Int32)) % (255:Int32)) := ⟨_, rfl⟩
  refine own_pre (A := T35.setTop (mkF m 111 #[iv p0, iv p1, iv p2, iv p3, iv p4, iv (2:Int32), rv b30, iv p2, iv w0_1, .unset, .unset] [(.int (w0_1.toInt8.toInt32)), (.int (1:Int32)), (.ref b30)])) (fun t k => ?_) ?_
  · show Steps p.tables e below (T35.setTop (mkF m 31 #[iv p0, iv p1, iv p2, iv p3, iv p4, iv (2:Int32), rv b30, .unset, .unset, .unset, .unset] [])) _
    refine XS.iload X35.here hx rfl (hb hby at_31) rfl ?_
    show Steps p.tables e below (T35.setTop (mkF m 33 #[iv p0, iv p1, iv p2, iv p3, iv p4, iv (2:Int32), rv b30, .unset, .unset, .unset, .unset] [(.int (2:Int32))])) _
    refine XS.iconst X35.here hx rfl (hb hby at_33) ?_
    show Steps p.tables e below (T35.setTop (mkF m 34 #[iv p0, iv p1, iv p2, iv p3, iv p4, iv (2:Int32), rv b30, .unset, .unset, .unset, .unset] [(.int (2:Int32)), (.int (2:Int32))])) _
    refine XS.icmpYes X35.here hx rfl (pc0 := 34) (pc' := 43) rfl (hb hby at_34) rfl (XT.ii_le_t (by decide)) (by decide) (by decide) ?_
    show Steps p.tables e below (T35.setTop (mkF m 43 #[iv p0, iv p1, iv p2, iv p3, iv p4, iv (2:Int32), rv b30, .unset, .unset, .unset, .unset] [])) _
    refine XS.iload X35.here hx rfl (hb hby at_43) rfl ?_
    show Steps p.tables e below (T35.setTop (mkF m 45 #[iv p0, iv p1, iv p2, iv p3, iv p4, iv (2:Int32), rv b30, .unset, .unset, .unset, .unset] [(.int (2:Int32))])) _
    refine XS.iconst X35.here hx rfl (hb hby at_45) ?_
    show Steps p.tables e below (T35.setTop (mkF m 46 #[iv p0, iv p1, iv p2, iv p3, iv p4, iv (2:Int32), rv b30, .unset, .unset, .unset, .unset] [(.int (3:Int32)), (.int (2:Int32))])) _
    refine XS.icmpYes X35.here hx rfl (pc0 := 46) (pc' := 56) rfl (hb hby at_46) rfl (XT.ii_le_t (by decide)) (by decide) (by decide) ?_
    show Steps p.tables e below (T35.setTop (mkF m 56 #[iv p0, iv p1, iv p2, iv p3, iv p4, iv (2:Int32), rv b30, .unset, .unset, .unset, .unset] [])) _
    refine XS.iload X35.here hx rfl (hb hby at_56) rfl ?_
    show Steps p.tables e below (T35.setTop (mkF m 58 #[iv p0, iv p1, iv p2, iv p3, iv p4, iv (2:Int32), rv b30, .unset, .unset, .unset, .unset] [(.int (2:Int32))])) _
    refine XS.iconst X35.here hx rfl (hb hby at_58) ?_
    show Steps p.tables e below (T35.setTop (mkF m 59 #[iv p0, iv p1, iv p2, iv p3, iv p4, iv (2:Int32), rv b30, .unset, .unset, .unset, .unset] [(.int (1:Int32)), (.int (2:Int32))])) _
    refine XS.icmpYes X35.here hx rfl (pc0 := 59) (pc' := 66) rfl (hb hby at_59) rfl (XT.ii_ne_t (by decide)) (by decide) (by decide) ?_
    show Steps p.tables e below (T35.setTop (mkF m 66 #[iv p0, iv p1, iv p2, iv p3, iv p4, iv (2:Int32), rv b30, .unset, .unset, .unset, .unset] [])) _
    refine XS.iload X35.here hx rfl (hb hby at_66) rfl ?_
    show Steps p.tables e below (T35.setTop (mkF m 68 #[iv p0, iv p1, iv p2, iv p3, iv p4, iv (2:Int32), rv b30, .unset, .unset, .unset, .unset] [(.int (2:Int32))])) _
    refine XS.iconst X35.here hx rfl (hb hby at_68) ?_
    show Steps p.tables e below (T35.setTop (mkF m 69 #[iv p0, iv p1, iv p2, iv p3, iv p4, iv (2:Int32), rv b30, .unset, .unset, .unset, .unset] [(.int (2:Int32)), (.int (2:Int32))])) _
    refine XS.icmpNo X35.here hx rfl (hb hby at_69) rfl (XT.ii_ne_f rfl) ?_
    show Steps p.tables e below (T35.setTop (mkF m 72 #[iv p0, iv p1, iv p2, iv p3, iv p4, iv (2:Int32), rv b30, .unset, .unset, .unset, .unset] [])) _
    refine XS.iloadN X35.here hx rfl (hb hby at_72) rfl ?_
    show Steps p.tables e below (T35.setTop (mkF m 73 #[iv p0, iv p1, iv p2, iv p3, iv p4, iv (2:Int32), rv b30, .unset, .unset, .unset, .unset] [(.int p2)])) _
    refine XS.goto X35.here hx rfl (pc0 := 73) (pc' := 88) rfl (hb hby at_73) (by decide) (by decide) ?_
    show Steps p.tables e below (T35.setTop (mkF m 88 #[iv p0, iv p1, iv p2, iv p3, iv p4, iv (2:Int32), rv b30, .unset, .unset, .unset, .unset] [(.int p2)])) _
    refine XS.istore X35.here hx rfl (hb hby at_88) rfl (l' := #[iv p0, iv p1, iv p2, iv p3, iv p4, iv (2:Int32), rv b30, iv p2, .unset, .unset, .unset]) rfl ?_
    show Steps p.tables e below (T35.setTop (mkF m 90 #[iv p0, iv p1, iv p2, iv p3, iv p4, iv (2:Int32), rv b30, iv p2, .unset, .unset, .unset] [])) _
    refine XS.iload X35.here hx rfl (hb hby at_90) rfl ?_
    show Steps p.tables e below (T35.setTop (mkF m 92 #[iv p0, iv p1, iv p2, iv p3, iv p4, iv (2:Int32), rv b30, iv p2, .unset, .unset, .unset] [(.int p2)])) _
    refine XS.sipush X35.here hx rfl (hb hby at_92) ?_
    show Steps p.tables e below (T35.setTop (mkF m 95 #[iv p0, iv p1, iv p2, iv p3, iv p4, iv (2:Int32), rv b30, iv p2, .unset, .unset, .unset] [(.int (255:Int32)), (.int p2)])) _
    refine XS.iand X35.here hx rfl (hb hby at_95) rfl ?_
    show Steps p.tables e below (T35.setTop (mkF m 96 #[iv p0, iv p1, iv p2, iv p3, iv p4, iv (2:Int32), rv b30, iv p2, .unset, .unset, .unset] [(.int (p2 &&& (255:Int32)))])) _
    refine XS.sipush X35.here hx rfl (hb hby at_96) ?_
    show Steps p.tables e below (T35.setTop (mkF m 99 #[iv p0, iv p1, iv p2, iv p3, iv p4, iv (2:Int32), rv b30, iv p2, .unset, .unset, .unset] [(.int (255:Int32)), (.int (p2 &&& (255:Int32)))])) _
    refine iremM X35 hx rfl (hb hby at_99) rfl (by decide) ?_
    show Steps p.tables e below (T35.setTop (mkF m 100 #[iv p0, iv p1, iv p2, iv p3, iv p4, iv (2:Int32), rv b30, iv p2, .unset, .unset, .unset] [(.int ((p2 &&& (255:Int32)) % (255:Int32)))])) _
    refine XS.istore X35.here hx rfl (hb hby at_100) rfl (l' := #[iv p0, iv p1, iv p2, iv p3, iv p4, iv (2:Int32), rv b30, iv p2, iv w0_1, .unset, .unset]) (by rw [hw0_1]; rfl) ?_
    show Steps p.tables e below (T35.setTop (mkF m 102 #[iv p0, iv p1, iv p2, iv p3, iv p4, iv (2:Int32), rv b30, iv p2, iv w0_1, .unset, .unset] [])) _
    refine XS.aload X35.here hx rfl (hb hby at_102) rfl rfl ?_
    show Steps p.tables e below (T35.setTop (mkF m 104 #[iv p0, iv p1, iv p2, iv p3, iv p4, iv (2:Int32), rv b30, iv p2, iv w0_1, .unset, .unset] [(.ref b30)])) _
    refine XS.iload X35.here hx rfl (hb hby at_104) rfl ?_
    show Steps p.tables e below (T35.setTop (mkF m 106 #[iv p0, iv p1, iv p2, iv p3, iv p4, iv (2:Int32), rv b30, iv p2, iv w0_1, .unset, .unset] [(.int (2:Int32)), (.ref b30)])) _
    refine XS.iconst X35.here hx rfl (hb hby at_106) ?_
    show Steps p.tables e below (T35.setTop (mkF m 107 #[iv p0, iv p1, iv p2, iv p3, iv p4, iv (2:Int32), rv b30, iv p2, iv w0_1, .unset, .unset] [(.int (1:Int32)), (.int (2:Int32)), (.ref b30)])) _
    refine XS.isub X35.here hx rfl (hb hby at_107) rfl ?_
    show Steps p.tables e below (T35.setTop (mkF m 108 #[iv p0, iv p1, iv p2, iv p3, iv p4, iv (2:Int32), rv b30, iv p2, iv w0_1, .unset, .unset] [(.int (1:Int32)), (.ref b30)])) _
    refine XS.iload X35.here hx rfl (hb hby at_108) rfl ?_
    show Steps p.tables e below (T35.setTop (mkF m 110 #[iv p0, iv p1, iv p2, iv p3, iv p4, iv (2:Int32), rv b30, iv p2, iv w0_1, .unset, .unset] [(.int w0_1), (.int (1:Int32)), (.ref b30)])) _
    refine XS.i2b X35.here hx rfl (hb hby at_110) rfl ?_
    exact k
  have hbn39 : own_In (1:Int32) [((p1.toInt8.toInt32).toInt8.toInt32), ((p2.toInt8.toInt32).toInt8.toInt32)].length := own_lit rfl
  obtain ⟨T38, h38, X38, e38, W38, V38, st38⟩ := own_bastore X35 hx hZ e35 Vw35 (j := (1:Int32)) (x := (w0_1.toInt8.toInt32)) hbn39 (g := (mkF m 111 #[iv p0, iv p1, iv p2, iv p3, iv p4, iv (2:Int32), rv b30, iv p2, iv w0_1, .unset, .unset] [(.int (w0_1.toInt8.toInt32)), (.int (1:Int32)), (.ref b30)])) rfl rfl (hb hby at_111)
  have Z40 : n0 ≤ h38.size := Nat.le_trans Z37 (Nat.le_of_eq W38.size.symm)
  have N38 := Fr.snoc X38 N35 ge_b30
  have Vw38 : own_Bytes Z h38 b30 [((p1.toInt8.toInt32).toInt8.toInt32), ((w0_1.toInt8.toInt32).toInt8.toInt32)] := V38
  refine own_pre st38 ?_
  refine own_pre (A := T38.setTop (mkF m 114 #[iv p0, iv p1, iv p2, iv p3, iv p4, iv (2:Int32), rv b30, iv p2, iv w0_1, .unset, .unset] [(.ref b30)])) (fun t k => ?_) ?_
  · show Steps p.tables e below (T38.setTop (mkF m 112 #[iv p0, iv p1, iv p2, iv p3, iv p4, iv (2:Int32), rv b30, iv p2, iv w0_1, .unset, .unset] [])) _
    refine XS.aload X38.here hx rfl (hb hby at_112) rfl rfl ?_
    exact k
  have F42 := (((B30.wr W32).wr W35).wr W38)
  obtain ⟨_, _, ⟨T41, L41, k41, n41⟩, -, X41, ⟨Lc41, hQ41, l41, y41, z41⟩, st41⟩ := Jvm.LawKit.callS X38 hx (y := (⟨"com/example/lexrow/lexrow/storage/CellKeys", "prefixEnd", "([B)[B"⟩ : MethodName)) hown (mvT hZ (own_h hw 1 rfl)) (mvT hZ (own_h hw 2 rfl)) (mvT hZ (own_h hw 3 rfl)) (mvT hZ (own_h hw 4 rfl)) (by decide) (backOf (W := 0) (rm1 l Z aZ hw [] b30 [((p1.toInt8.toInt32).toInt8.toInt32), ((w0_1.toInt8.toInt32).toInt8.toInt32)] h38 n0 Z40 F42 Vw38 (Nat.le_of_ble_eq_true rfl) (own_lastin _ (Nat.le_of_ble_eq_true rfl) (Nat.le_of_ble_eq_true rfl))) hZ (own_h hw 4 rfl) (own_h hw 3 rfl) (by decide) (by decide)) (g := (mkF m 114 #[iv p0, iv p1, iv p2, iv p3, iv p4, iv (2:Int32), rv b30, iv p2, iv w0_1, .unset, .unset] [(.ref b30)])) rfl (by rw [hml]; rfl) (argsL := [(.ref b30)]) (rest := []) (lenOf own_pd0 rfl) rfl (by show 2 * 0 + _ ≤ _; exact Nat.le_of_eq rfl) (hb hby at_114) (fun _ _ => ⟨rfl, e38, (by decide : 1 + 1 ≤ _), (by decide : 2 + 4 ≤ _)⟩)
  dsimp only [Pt.U, Pt.locs, Pt.cells, Pt.slots] at X41 l41 y41 z41 st41 hQ41
  subst l41 y41 z41
  obtain ⟨cl_45, rfl, N41q, K41, sz43, G44⟩ := hQ41
  have N41 := Fr.app N38 N41q
  have Z46 : n0 ≤ T41.heap.size := Nat.le_trans Z40 K41.1
  have G47 : own_Bytes Z T41.heap cl_45 [((p1.toInt8.toInt32).toInt8.toInt32), ((((((w0_1.toInt8.toInt32).toInt8.toInt32) + (1:Int32)).toInt8.toInt32)).toInt8.toInt32)] := by rw [show (own_len [((p1.toInt8.toInt32).toInt8.toInt32), ((w0_1.toInt8.toInt32).toInt8.toInt32)]) = (2:Int32) from rfl] at G44; exact G44
  have ne48 : b30 ≠ cl_45 := Nat.ne_of_lt (Nat.lt_of_lt_of_le F42.lt sz43)
  have ge49 : n0 ≤ cl_45 := Nat.le_trans Z40 sz43
  refine own_pre st41 ?_
  have F50 := (Vw38.keep K41 nin0)
  have hbn51 : own_In (1:Int32) [((p1.toInt8.toInt32).toInt8.toInt32), ((w0_1.toInt8.toInt32).toInt8.toInt32)].length := own_lit rfl
  refine own_pre (A := T41.setTop (mkF m 154 #[iv p0, iv p1, iv p2, iv p3, iv p4, iv (2:Int32), rv b30, iv p2, iv w0_1, rv cl_45, .unset] [(.int w0_1), (.int (((w0_1.toInt8.toInt32).toInt8.toInt32) &&& (255:Int32)))])) (fun t k => ?_) ?_
  · show Steps p.tables e below (T41.setTop (mkF m 117 #[iv p0, iv p1, iv p2, iv p3, iv p4, iv (2:Int32), rv b30, iv p2, iv w0_1, .unset, .unset] [(.ref cl_45)])) _
    refine XS.astore X41.here hx rfl (hb hby at_117) rfl rfl (l' := #[iv p0, iv p1, iv p2, iv p3, iv p4, iv (2:Int32), rv b30, iv p2, iv w0_1, rv cl_45, .unset]) rfl ?_
    show Steps p.tables e below (T41.setTop (mkF m 119 #[iv p0, iv p1, iv p2, iv p3, iv p4, iv (2:Int32), rv b30, iv p2, iv w0_1, rv cl_45, .unset] [])) _
    refine XS.aload X41.here hx rfl (hb hby at_119) rfl rfl ?_
    show Steps p.tables e below (T41.setTop (mkF m 121 #[iv p0, iv p1, iv p2, iv p3, iv p4, iv (2:Int32), rv b30, iv p2, iv w0_1, rv cl_45, .unset] [(.ref cl_45)])) _
    refine XS.ifnullNo X41.here hx rfl (hb hby at_121) rfl ?_
    show Steps p.tables e below (T41.setTop (mkF m 124 #[iv p0, iv p1, iv p2, iv p3, iv p4, iv (2:Int32), rv b30, iv p2, iv w0_1, rv cl_45, .unset] [])) _
    refine XS.aload X41.here hx rfl (hb hby at_124) rfl rfl ?_
    show Steps p.tables e below (T41.setTop (mkF m 126 #[iv p0, iv p1, iv p2, iv p3, iv p4, iv (2:Int32), rv b30, iv p2, iv w0_1, rv cl_45, .unset] [(.ref cl_45)])) _
    refine XS.aload X41.here hx rfl (hb hby at_126) rfl rfl ?_
    show Steps p.tables e below (T41.setTop (mkF m 128 #[iv p0, iv p1, iv p2, iv p3, iv p4, iv (2:Int32), rv b30, iv p2, iv w0_1, rv cl_45, .unset] [(.ref b30), (.ref cl_45)])) _
    refine Jvm.RoadKit.acmp (g := (mkF m 128 #[iv p0, iv p1, iv p2, iv p3, iv p4, iv (2:Int32), rv b30, iv p2, iv w0_1, rv cl_45, .unset] [(.ref b30), (.ref cl_45)])) X41 hx rfl rfl rfl (pc0 := 128) (pc' := 131) (same := false) rfl (hb hby at_128) rfl (decide_eq_false fun q => (Ne.symm ne48) (Value.ref.inj q)) (by decide) (by decide) ?_
    show Steps p.tables e below (T41.setTop (mkF m 131 #[iv p0, iv p1, iv p2, iv p3, iv p4, iv (2:Int32), rv b30, iv p2, iv w0_1, rv cl_45, .unset] [])) _
    refine XS.aload X41.here hx rfl (hb hby at_131) rfl rfl ?_
    show Steps p.tables e below (T41.setTop (mkF m 133 #[iv p0, iv p1, iv p2, iv p3, iv p4, iv (2:Int32), rv b30, iv p2, iv w0_1, rv cl_45, .unset] [(.ref cl_45)])) _
    refine own_arrlenB X41 hx hZ rfl G47 rfl rfl (hb hby at_133) ?_
    show Steps p.tables e below (T41.setTop (mkF m 134 #[iv p0, iv p1, iv p2, iv p3, iv p4, iv (2:Int32), rv b30, iv p2, iv w0_1, rv cl_45, .unset] [(.int (2:Int32))])) _
    refine XS.iload X41.here hx rfl (hb hby at_134) rfl ?_
    show Steps p.tables e below (T41.setTop (mkF m 136 #[iv p0, iv p1, iv p2, iv p3, iv p4, iv (2:Int32), rv b30, iv p2, iv w0_1, rv cl_45, .unset] [(.int (2:Int32)), (.int (2:Int32))])) _
    refine XS.icmpYes X41.here hx rfl (pc0 := 136) (pc' := 141) rfl (hb hby at_136) rfl (XT.ii_eq_t rfl) (by decide) (by decide) ?_
    show Steps p.tables e below (T41.setTop (mkF m 141 #[iv p0, iv p1, iv p2, iv p3, iv p4, iv (2:Int32), rv b30, iv p2, iv w0_1, rv cl_45, .unset] [])) _
    refine XS.aload X41.here hx rfl (hb hby at_141) rfl rfl ?_
    show Steps p.tables e below (T41.setTop (mkF m 143 #[iv p0, iv p1, iv p2, iv p3, iv p4, iv (2:Int32), rv b30, iv p2, iv w0_1, rv cl_45, .unset] [(.ref b30)])) _
    refine XS.iload X41.here hx rfl (hb hby at_143) rfl ?_
    show Steps p.tables e below (T41.setTop (mkF m 145 #[iv p0, iv p1, iv p2, iv p3, iv p4, iv (2:Int32), rv b30, iv p2, iv w0_1, rv cl_45, .unset] [(.int (2:Int32)), (.ref b30)])) _
    refine XS.iconst X41.here hx rfl (hb hby at_145) ?_
    show Steps p.tables e below (T41.setTop (mkF m 146 #[iv p0, iv p1, iv p2, iv p3, iv p4, iv (2:Int32), rv b30, iv p2, iv w0_1, rv cl_45, .unset] [(.int (1:Int32)), (.int (2:Int32)), (.ref b30)])) _
    refine XS.isub X41.here hx rfl (hb hby at_146) rfl ?_
    show Steps p.tables e below (T41.setTop (mkF m 147 #[iv p0, iv p1, iv p2, iv p3, iv p4, iv (2:Int32), rv b30, iv p2, iv w0_1, rv cl_45, .unset] [(.int (1:Int32)), (.ref b30)])) _
    refine own_baload X41 hx hZ rfl F50 hbn51 rfl rfl (hb hby at_147) ?_
    show Steps p.tables e below (T41.setTop (mkF m 148 #[iv p0, iv p1, iv p2, iv p3, iv p4, iv (2:Int32), rv b30, iv p2, iv w0_1, rv cl_45, .unset] [(.int ((w0_1.toInt8.toInt32).toInt8.toInt32))])) _
    refine XS.sipush X41.here hx rfl (hb hby at_148) ?_
    show Steps p.tables e below (T41.setTop (mkF m 151 #[iv p0, iv p1, iv p2, iv p3, iv p4, iv (2:Int32), rv b30, iv p2, iv w0_1, rv cl_45, .unset] [(.int (255:Int32)), (.int ((w0_1.toInt8.toInt32).toInt8.toInt32))])) _
    refine XS.iand X41.here hx rfl (hb hby at_151) rfl ?_
    show Steps p.tables e below (T41.setTop (mkF m 152 #[iv p0, iv p1, iv p2, iv p3, iv p4, iv (2:Int32), rv b30, iv p2, iv w0_1, rv cl_45, .unset] [(.int (((w0_1.toInt8.toInt32).toInt8.toInt32) &&& (255:Int32)))])) _
    refine XS.iload X41.here hx rfl (hb hby at_152) rfl ?_
    exact k
  by_cases hs154_2 : (((w0_1.toInt8.toInt32).toInt8.toInt32) &&& (255:Int32)) = w0_1
  · have hbn52 : own_In (1:Int32) [((p1.toInt8.toInt32).toInt8.toInt32), ((((((w0_1.toInt8.toInt32).toInt8.toInt32) + (1:Int32)).toInt8.toInt32)).toInt8.toInt32)].length := own_lit rfl
    refine own_pre (A := T41.setTop (mkF m 172 #[iv p0, iv p1, iv p2, iv p3, iv p4, iv (2:Int32), rv b30, iv p2, iv w0_1, rv cl_45, .unset] [(.int (w0_1 + (1:Int32))), (.int (((((((w0_1.toInt8.toInt32).toInt8.toInt32) + (1:Int32)).toInt8.toInt32)).toInt8.toInt32) &&& (255:Int32)))])) (fun t k => ?_) ?_
    · show Steps p.tables e below (T41.setTop (mkF m 154 #[iv p0, iv p1, iv p2, iv p3, iv p4, iv (2:Int32), rv b30, iv p2, iv w0_1, rv cl_45, .unset] [(.int w0_1), (.int (((w0_1.toInt8.toInt32).toInt8.toInt32) &&& (255:Int32)))])) _
      refine XS.icmpNo X41.here hx rfl (hb hby at_154) rfl (XT.ii_ne_f hs154_2) ?_
      show Steps p.tables e below (T41.setTop (mkF m 157 #[iv p0, iv p1, iv p2, iv p3, iv p4, iv (2:Int32), rv b30, iv p2, iv w0_1, rv cl_45, .unset] [])) _
      refine XS.aload X41.here hx rfl (hb hby at_157) rfl rfl ?_
      show Steps p.tables e below (T41.setTop (mkF m 159 #[iv p0, iv p1, iv p2, iv p3, iv p4, iv (2:Int32), rv b30, iv p2, iv w0_1, rv cl_45, .unset] [(.ref cl_45)])) _
      refine XS.iload X41.here hx rfl (hb hby at_159) rfl ?_
      show Steps p.tables e below (T41.setTop (mkF m 161 #[iv p0, iv p1, iv p2, iv p3, iv p4, iv (2:Int32), rv b30, iv p2, iv w0_1, rv cl_45, .unset] [(.int (2:Int32)), (.ref cl_45)])) _
      refine XS.iconst X41.here hx rfl (hb hby at_161) ?_
      show Steps p.tables e below (T41.setTop (mkF m 162 #[iv p0, iv p1, iv p2, iv p3, iv p4, iv (2:Int32), rv b30, iv p2, iv w0_1, rv cl_45, .unset] [(.int (1:Int32)), (.int (2:Int32)), (.ref cl_45)])) _
      refine XS.isub X41.here hx rfl (hb hby at_162) rfl ?_
      show Steps p.tables e below (T41.setTop (mkF m 163 #[iv p0, iv p1, iv p2, iv p3, iv p4, iv (2:Int32), rv b30, iv p2, iv w0_1, rv cl_45, .unset] [(.int (1:Int32)), (.ref cl_45)])) _
      refine own_baload X41 hx hZ rfl G47 hbn52 rfl rfl (hb hby at_163) ?_
      show Steps p.tables e below (T41.setTop (mkF m 164 #[iv p0, iv p1, iv p2, iv p3, iv p4, iv (2:Int32), rv b30, iv p2, iv w0_1, rv cl_45, .unset] [(.int ((((((w0_1.toInt8.toInt32).toInt8.toInt32) + (1:Int32)).toInt8.toInt32)).toInt8.toInt32))])) _
      refine XS.sipush X41.here hx rfl (hb hby at_164) ?_
      show Steps p.tables e below (T41.setTop (mkF m 167 #[iv p0, iv p1, iv p2, iv p3, iv p4, iv (2:Int32), rv b30, iv p2, iv w0_1, rv cl_45, .unset] [(.int (255:Int32)), (.int ((((((w0_1.toInt8.toInt32).toInt8.toInt32) + (1:Int32)).toInt8.toInt32)).toInt8.toInt32))])) _
      refine XS.iand X41.here hx rfl (hb hby at_167) rfl ?_
      show Steps p.tables e below (T41.setTop (mkF m 168 #[iv p0, iv p1, iv p2, iv p3, iv p4, iv (2:Int32), rv b30, iv p2, iv w0_1, rv cl_45, .unset] [(.int (((((((w0_1.toInt8.toInt32).toInt8.toInt32) + (1:Int32)).toInt8.toInt32)).toInt8.toInt32) &&& (255:Int32)))])) _
      refine XS.iload X41.here hx rfl (hb hby at_168) rfl ?_
      show Steps p.tables e below (T41.setTop (mkF m 170 #[iv p0, iv p1, iv p2, iv p3, iv p4, iv (2:Int32), rv b30, iv p2, iv w0_1, rv cl_45, .unset] [(.int w0_1), (.int (((((((w0_1.toInt8.toInt32).toInt8.toInt32) + (1:Int32)).toInt8.toInt32)).toInt8.toInt32) &&& (255:Int32)))])) _
      refine XS.iconst X41.here hx rfl (hb hby at_170) ?_
      show Steps p.tables e below (T41.setTop (mkF m 171 #[iv p0, iv p1, iv p2, iv p3, iv p4, iv (2:Int32), rv b30, iv p2, iv w0_1, rv cl_45, .unset] [(.int (1:Int32)), (.int w0_1), (.int (((((((w0_1.toInt8.toInt32).toInt8.toInt32) + (1:Int32)).toInt8.toInt32)).toInt8.toInt32) &&& (255:Int32)))])) _
      refine XS.iadd X41.here hx rfl (hb hby at_171) rfl ?_
      exact k
    obtain ⟨w0_2, hw0_2⟩ : ∃ z : Int32, z = (if (((((((w0_1.toInt8.toInt32).toInt8.toInt32) + (1:Int32)).toInt8.toInt32)).toInt8.toInt32) &&& (255:Int32)) = (w0_1 + (1:Int32)) then (1:Int32) else (0:Int32)) := ⟨_, rfl⟩
    refine own_pre (A := T41.setTop (mkF m 180 #[iv p0, iv p1, iv p2, iv p3, iv p4, iv (2:Int32), rv b30, iv p2, iv w0_1, rv cl_45, .unset] [(.int w0_2)])) (fun t k => ?_) ?_
    · show Steps p.tables e below (T41.setTop (mkF m 172 #[iv p0, iv p1, iv p2, iv p3, iv p4, iv (2:Int32), rv b30, iv p2, iv w0_1, rv cl_45, .unset] [(.int (w0_1 + (1:Int32))), (.int (((((((w0_1.toInt8.toInt32).toInt8.toInt32) + (1:Int32)).toInt8.toInt32)).toInt8.toInt32) &&& (255:Int32)))])) _
      by_cases hm172_3 : (((((((w0_1.toInt8.toInt32).toInt8.toInt32) + (1:Int32)).toInt8.toInt32)).toInt8.toInt32) &&& (255:Int32)) = (w0_1 + (1:Int32))
      · refine XS.icmpNo X41.here hx rfl (hb hby at_172) rfl (XT.ii_ne_f hm172_3) ?_
        show Steps p.tables e below (T41.setTop (mkF m 175 #[iv p0, iv p1, iv p2, iv p3, iv p4, iv (2:Int32), rv b30, iv p2, iv w0_1, rv cl_45, .unset] [])) _
        refine XS.iconst X41.here hx rfl (hb hby at_175) ?_
        show Steps p.tables e below (T41.setTop (mkF m 176 #[iv p0, iv p1, iv p2, iv p3, iv p4, iv (2:Int32), rv b30, iv p2, iv w0_1, rv cl_45, .unset] [(.int (1:Int32))])) _
        refine XS.goto X41.here hx rfl (pc0 := 176) (pc' := 180) rfl (hb hby at_176) (by decide) (by decide) ?_
        rw [hw0_2.trans (if_pos hm172_3)] at k
        exact k
      · refine XS.icmpYes X41.here hx rfl (pc0 := 172) (pc' := 179) rfl (hb hby at_172) rfl (XT.ii_ne_t hm172_3) (by decide) (by decide) ?_
        show Steps p.tables e below (T41.setTop (mkF m 179 #[iv p0, iv p1, iv p2, iv p3, iv p4, iv (2:Int32), rv b30, iv p2, iv w0_1, rv cl_45, .unset] [])) _
        refine XS.iconst X41.here hx rfl (hb hby at_179) ?_
        rw [hw0_2.trans (if_neg hm172_3)] at k
        exact k
    refine own_pre (A := T41.setTop (mkF m 190 #[iv p0, iv p1, iv p2, iv p3, iv p4, iv (2:Int32), rv b30, iv p2, iv w0_1, rv cl_45, iv w0_2] [(.int w0_2)])) (fun t k => ?_) ?_
    · show Steps p.tables e below (T41.setTop (mkF m 180 #[iv p0, iv p1, iv p2, iv p3, iv p4, iv (2:Int32), rv b30, iv p2, iv w0_1, rv cl_45, .unset] [(.int w0_2)])) _
      refine XS.istore X41.here hx rfl (hb hby at_180) rfl (l' := #[iv p0, iv p1, iv p2, iv p3, iv p4, iv (2:Int32), rv b30, iv p2, iv w0_1, rv cl_45, iv w0_2]) rfl ?_
      show Steps p.tables e below (T41.setTop (mkF m 182 #[iv p0, iv p1, iv p2, iv p3, iv p4, iv (2:Int32), rv b30, iv p2, iv w0_1, rv cl_45, iv w0_2] [])) _
      refine XS.iload X41.here hx rfl (hb hby at_182) rfl ?_
      show Steps p.tables e below (T41.setTop (mkF m 184 #[iv p0, iv p1, iv p2, iv p3, iv p4, iv (2:Int32), rv b30, iv p2, iv w0_1, rv cl_45, iv w0_2] [(.int (2:Int32))])) _
      refine XS.iconst X41.here hx rfl (hb hby at_184) ?_
      show Steps p.tables e below (T41.setTop (mkF m 185 #[iv p0, iv p1, iv p2, iv p3, iv p4, iv (2:Int32), rv b30, iv p2, iv w0_1, rv cl_45, iv w0_2] [(.int (1:Int32)), (.int (2:Int32))])) _
      refine XS.icmpNo X41.here hx rfl (hb hby at_185) rfl (XT.ii_le_f (by decide)) ?_
      show Steps p.tables e below (T41.setTop (mkF m 188 #[iv p0, iv p1, iv p2, iv p3, iv p4, iv (2:Int32), rv b30, iv p2, iv w0_1, rv cl_45, iv w0_2] [])) _
      refine XS.iload X41.here hx rfl (hb hby at_188) rfl ?_
      exact k
    by_cases hs190_5 : w0_2 = (0:Int32)
    · refine own_pre (A := T41.setTop (mkF m 334 #[iv p0, iv p1, iv p2, iv p3, iv p4, iv (2:Int32), rv b30, iv p2, iv w0_1, rv cl_45, iv (0:Int32)] [(.int (0:Int32))])) (fun t k => ?_) ?_
      · show Steps p.tables e below (T41.setTop (mkF m 190 #[iv p0, iv p1, iv p2, iv p3, iv p4, iv (2:Int32), rv b30, iv p2, iv w0_1, rv cl_45, iv w0_2] [(.int w0_2)])) _
        refine XS.ifYes X41.here hx rfl (pc0 := 190) (pc' := 229) rfl (hb hby at_190) rfl (XT.i0_eq_t hs190_5) (by decide) (by decide) ?_
        show Steps p.tables e below (T41.setTop (mkF m 229 #[iv p0, iv p1, iv p2, iv p3, iv p4, iv (2:Int32), rv b30, iv p2, iv w0_1, rv cl_45, iv w0_2] [])) _
        refine XS.iconst X41.here hx rfl (hb hby at_229) ?_
        show Steps p.tables e below (T41.setTop (mkF m 230 #[iv p0, iv p1, iv p2, iv p3, iv p4, iv (2:Int32), rv b30, iv p2, iv w0_1, rv cl_45, iv w0_2] [(.int (0:Int32))])) _
        refine XS.istore X41.here hx rfl (hb hby at_230) rfl (l' := #[iv p0, iv p1, iv p2, iv p3, iv p4, iv (2:Int32), rv b30, iv p2, iv w0_1, rv cl_45, iv (0:Int32)]) rfl ?_
        show Steps p.tables e below (T41.setTop (mkF m 232 #[iv p0, iv p1, iv p2, iv p3, iv p4, iv (2:Int32), rv b30, iv p2, iv w0_1, rv cl_45, iv (0:Int32)] [])) _
        refine XS.iload X41.here hx rfl (hb hby at_232) rfl ?_
        show Steps p.tables e below (T41.setTop (mkF m 234 #[iv p0, iv p1, iv p2, iv p3, iv p4, iv (2:Int32), rv b30, iv p2, iv w0_1, rv cl_45, iv (0:Int32)] [(.int (2:Int32))])) _
        refine XS.iconst X41.here hx rfl (hb hby at_234) ?_
        show Steps p.tables e below (T41.setTop (mkF m 235 #[iv p0, iv p1, iv p2, iv p3, iv p4, iv (2:Int32), rv b30, iv p2, iv w0_1, rv cl_45, iv (0:Int32)] [(.int (2:Int32)), (.int (2:Int32))])) _
        refine XS.icmpYes X41.here hx rfl (pc0 := 235) (pc' := 282) rfl (hb hby at_235) rfl (XT.ii_le_t (by decide)) (by decide) (by decide) ?_
        show Steps p.tables e below (T41.setTop (mkF m 282 #[iv p0, iv p1, iv p2, iv p3, iv p4, iv (2:Int32), rv b30, iv p2, iv w0_1, rv cl_45, iv (0:Int32)] [])) _
        refine XS.iload X41.here hx rfl (hb hby at_282) rfl ?_
        show Steps p.tables e below (T41.setTop (mkF m 284 #[iv p0, iv p1, iv p2, iv p3, iv p4, iv (2:Int32), rv b30, iv p2, iv w0_1, rv cl_45, iv (0:Int32)] [(.int (2:Int32))])) _
        refine XS.iconst X41.here hx rfl (hb hby at_284) ?_
        show Steps p.tables e below (T41.setTop (mkF m 285 #[iv p0, iv p1, iv p2, iv p3, iv p4, iv (2:Int32), rv b30, iv p2, iv w0_1, rv cl_45, iv (0:Int32)] [(.int (3:Int32)), (.int (2:Int32))])) _
        refine XS.icmpYes X41.here hx rfl (pc0 := 285) (pc' := 332) rfl (hb hby at_285) rfl (XT.ii_le_t (by decide)) (by decide) (by decide) ?_
        show Steps p.tables e below (T41.setTop (mkF m 332 #[iv p0, iv p1, iv p2, iv p3, iv p4, iv (2:Int32), rv b30, iv p2, iv w0_1, rv cl_45, iv (0:Int32)] [])) _
        refine XS.iload X41.here hx rfl (hb hby at_332) rfl ?_
        exact k
      have hv53 : (0:Int32) = f0b p0 p1 p2 p3 p4 := by subst hw0_1 hw0_2; simp only [f0b, if_pos hs154_2, if_pos hs190_5]
      exact own_end X41 (BodyLoose.notSynchronized Bd) (fun h => by rw [Bd.returns] at h; cases h) (v := some (.int (0:Int32))) (fun fs hr => retN X41 hx (t := .boolean) Bd.returns (by simp) (hb hby at_334) hr) (by show Q0b Z p0 p1 p2 p3 p4 h0 n0 _ T41.heap _; exact ⟨(congrArg (fun z => some (Value.int z)) hv53), N41⟩) (by decide) (by decide)
    · have hbn54 : own_In (0:Int32) [((p1.toInt8.toInt32).toInt8.toInt32), ((((((w0_1.toInt8.toInt32).toInt8.toInt32) + (1:Int32)).toInt8.toInt32)).toInt8.toInt32)].length := own_lit rfl
      refine own_pre (A := T41.setTop (mkF m 206 #[iv p0, iv p1, iv p2, iv p3, iv p4, iv (2:Int32), rv b30, iv p2, iv w0_1, rv cl_45, iv w0_2] [(.int (p1 &&& (255:Int32))), (.int (((p1.toInt8.toInt32).toInt8.toInt32) &&& (255:Int32)))])) (fun t k => ?_) ?_
      · show Steps p.tables e below (T41.setTop (mkF m 190 #[iv p0, iv p1, iv p2, iv p3, iv p4, iv (2:Int32), rv b30, iv p2, iv w0_1, rv cl_45, iv w0_2] [(.int w0_2)])) _
        refine XS.ifNo X41.here hx rfl (hb hby at_190) rfl (XT.i0_eq_f hs190_5) ?_
        show Steps p.tables e below (T41.setTop (mkF m 193 #[iv p0, iv p1, iv p2, iv p3, iv p4, iv (2:Int32), rv b30, iv p2, iv w0_1, rv cl_45, iv w0_2] [])) _
        refine XS.aload X41.here hx rfl (hb hby at_193) rfl rfl ?_
        show Steps p.tables e below (T41.setTop (mkF m 195 #[iv p0, iv p1, iv p2, iv p3, iv p4, iv (2:Int32), rv b30, iv p2, iv w0_1, rv cl_45, iv w0_2] [(.ref cl_45)])) _
        refine XS.iconst X41.here hx rfl (hb hby at_195) ?_
        show Steps p.tables e below (T41.setTop (mkF m 196 #[iv p0, iv p1, iv p2, iv p3, iv p4, iv (2:Int32), rv b30, iv p2, iv w0_1, rv cl_45, iv w0_2] [(.int (0:Int32)), (.ref cl_45)])) _
        refine own_baload X41 hx hZ rfl G47 hbn54 rfl rfl (hb hby at_196) ?_
        show Steps p.tables e below (T41.setTop (mkF m 197 #[iv p0, iv p1, iv p2, iv p3, iv p4, iv (2:Int32), rv b30, iv p2, iv w0_1, rv cl_45, iv w0_2] [(.int ((p1.toInt8.toInt32).toInt8.toInt32))])) _
        refine XS.sipush X41.here hx rfl (hb hby at_197) ?_
        show Steps p.tables e below (T41.setTop (mkF m 200 #[iv p0, iv p1, iv p2, iv p3, iv p4, iv (2:Int32), rv b30, iv p2, iv w0_1, rv cl_45, iv w0_2] [(.int (255:Int32)), (.int ((p1.toInt8.toInt32).toInt8.toInt32))])) _
        refine XS.iand X41.here hx rfl (hb hby at_200) rfl ?_
        show Steps p.tables e below (T41.setTop (mkF m 201 #[iv p0, iv p1, iv p2, iv p3, iv p4, iv (2:Int32), rv b30, iv p2, iv w0_1, rv cl_45, iv w0_2] [(.int (((p1.toInt8.toInt32).toInt8.toInt32) &&& (255:Int32)))])) _
        refine XS.iloadN X41.here hx rfl (hb hby at_201) rfl ?_
        show Steps p.tables e below (T41.setTop (mkF m 202 #[iv p0, iv p1, iv p2, iv p3, iv p4, iv (2:Int32), rv b30, iv p2, iv w0_1, rv cl_45, iv w0_2] [(.int p1), (.int (((p1.toInt8.toInt32).toInt8.toInt32) &&& (255:Int32)))])) _
        refine XS.sipush X41.here hx rfl (hb hby at_202) ?_
        show Steps p.tables e below (T41.setTop (mkF m 205 #[iv p0, iv p1, iv p2, iv p3, iv p4, iv (2:Int32), rv b30, iv p2, iv w0_1, rv cl_45, iv w0_2] [(.int (255:Int32)), (.int p1), (.int (((p1.toInt8.toInt32).toInt8.toInt32) &&& (255:Int32)))])) _
        refine XS.iand X41.here hx rfl (hb hby at_205) rfl ?_
        exact k
      by_cases hs206_7 : (((p1.toInt8.toInt32).toInt8.toInt32) &&& (255:Int32)) = (p1 &&& (255:Int32))
      · have hbn55 : own_In (0:Int32) [((p1.toInt8.toInt32).toInt8.toInt32), ((w0_1.toInt8.toInt32).toInt8.toInt32)].length := own_lit rfl
        refine own_pre (A := T41.setTop (mkF m 334 #[iv p0, iv p1, iv p2, iv p3, iv p4, iv (2:Int32), rv b30, iv p2, iv w0_1, rv cl_45, iv (1:Int32)] [(.int (1:Int32))])) (fun t k => ?_) ?_
        · show Steps p.tables e below (T41.setTop (mkF m 206 #[iv p0, iv p1, iv p2, iv p3, iv p4, iv (2:Int32), rv b30, iv p2, iv w0_1, rv cl_45, iv w0_2] [(.int (p1 &&& (255:Int32))), (.int (((p1.toInt8.toInt32).toInt8.toInt32) &&& (255:Int32)))])) _
          refine XS.icmpNo X41.here hx rfl (hb hby at_206) rfl (XT.ii_ne_f hs206_7) ?_
          show Steps p.tables e below (T41.setTop (mkF m 209 #[iv p0, iv p1, iv p2, iv p3, iv p4, iv (2:Int32), rv b30, iv p2, iv w0_1, rv cl_45, iv w0_2] [])) _
          refine XS.aload X41.here hx rfl (hb hby at_209) rfl rfl ?_
          show Steps p.tables e below (T41.setTop (mkF m 211 #[iv p0, iv p1, iv p2, iv p3, iv p4, iv (2:Int32), rv b30, iv p2, iv w0_1, rv cl_45, iv w0_2] [(.ref b30)])) _
          refine XS.iconst X41.here hx rfl (hb hby at_211) ?_
          show Steps p.tables e below (T41.setTop (mkF m 212 #[iv p0, iv p1, iv p2, iv p3, iv p4, iv (2:Int32), rv b30, iv p2, iv w0_1, rv cl_45, iv w0_2] [(.int (0:Int32)), (.ref b30)])) _
          refine own_baload X41 hx hZ rfl F50 hbn55 rfl rfl (hb hby at_212) ?_
          show Steps p.tables e below (T41.setTop (mkF m 213 #[iv p0, iv p1, iv p2, iv p3, iv p4, iv (2:Int32), rv b30, iv p2, iv w0_1, rv cl_45, iv w0_2] [(.int ((p1.toInt8.toInt32).toInt8.toInt32))])) _
          refine XS.sipush X41.here hx rfl (hb hby at_213) ?_
          show Steps p.tables e below (T41.setTop (mkF m 216 #[iv p0, iv p1, iv p2, iv p3, iv p4, iv (2:Int32), rv b30, iv p2, iv w0_1, rv cl_45, iv w0_2] [(.int (255:Int32)), (.int ((p1.toInt8.toInt32).toInt8.toInt32))])) _
          refine XS.iand X41.here hx rfl (hb hby at_216) rfl ?_
          show Steps p.tables e below (T41.setTop (mkF m 217 #[iv p0, iv p1, iv p2, iv p3, iv p4, iv (2:Int32), rv b30, iv p2, iv w0_1, rv cl_45, iv w0_2] [(.int (((p1.toInt8.toInt32).toInt8.toInt32) &&& (255:Int32)))])) _
          refine XS.iloadN X41.here hx rfl (hb hby at_217) rfl ?_
          show Steps p.tables e below (T41.setTop (mkF m 218 #[iv p0, iv p1, iv p2, iv p3, iv p4, iv (2:Int32), rv b30, iv p2, iv w0_1, rv cl_45, iv w0_2] [(.int p1), (.int (((p1.toInt8.toInt32).toInt8.toInt32) &&& (255:Int32)))])) _
          refine XS.sipush X41.here hx rfl (hb hby at_218) ?_
          show Steps p.tables e below (T41.setTop (mkF m 221 #[iv p0, iv p1, iv p2, iv p3, iv p4, iv (2:Int32), rv b30, iv p2, iv w0_1, rv cl_45, iv w0_2] [(.int (255:Int32)), (.int p1), (.int (((p1.toInt8.toInt32).toInt8.toInt32) &&& (255:Int32)))])) _
          refine XS.iand X41.here hx rfl (hb hby at_221) rfl ?_
          show Steps p.tables e below (T41.setTop (mkF m 222 #[iv p0, iv p1, iv p2, iv p3, iv p4, iv (2:Int32), rv b30, iv p2, iv w0_1, rv cl_45, iv w0_2] [(.int (p1 &&& (255:Int32))), (.int (((p1.toInt8.toInt32).toInt8.toInt32) &&& (255:Int32)))])) _
          refine XS.icmpNo X41.here hx rfl (hb hby at_222) rfl (XT.ii_ne_f hs206_7) ?_
          show Steps p.tables e below (T41.setTop (mkF m 225 #[iv p0, iv p1, iv p2, iv p3, iv p4, iv (2:Int32), rv b30, iv p2, iv w0_1, rv cl_45, iv w0_2] [])) _
          refine XS.iconst X41.here hx rfl (hb hby at_225) ?_
          show Steps p.tables e below (T41.setTop (mkF m 226 #[iv p0, iv p1, iv p2, iv p3, iv p4, iv (2:Int32), rv b30, iv p2, iv w0_1, rv cl_45, iv w0_2] [(.int (1:Int32))])) _
          refine XS.goto X41.here hx rfl (pc0 := 226) (pc' := 230) rfl (hb hby at_226) (by decide) (by decide) ?_
          show Steps p.tables e below (T41.setTop (mkF m 230 #[iv p0, iv p1, iv p2, iv p3, iv p4, iv (2:Int32), rv b30, iv p2, iv w0_1, rv cl_45, iv w0_2] [(.int (1:Int32))])) _
          refine XS.istore X41.here hx rfl (hb hby at_230) rfl (l' := #[iv p0, iv p1, iv p2, iv p3, iv p4, iv (2:Int32), rv b30, iv p2, iv w0_1, rv cl_45, iv (1:Int32)]) rfl ?_
          show Steps p.tables e below (T41.setTop (mkF m 232 #[iv p0, iv p1, iv p2, iv p3, iv p4, iv (2:Int32), rv b30, iv p2, iv w0_1, rv cl_45, iv (1:Int32)] [])) _
          refine XS.iload X41.here hx rfl (hb hby at_232) rfl ?_
          show Steps p.tables e below (T41.setTop (mkF m 234 #[iv p0, iv p1, iv p2, iv p3, iv p4, iv (2:Int32), rv b30, iv p2, iv w0_1, rv cl_45, iv (1:Int32)] [(.int (2:Int32))])) _
          refine XS.iconst X41.here hx rfl (hb hby at_234) ?_
          show Steps p.tables e below (T41.setTop (mkF m 235 #[iv p0, iv p1, iv p2, iv p3, iv p4, iv (2:Int32), rv b30, iv p2, iv w0_1, rv cl_45, iv (1:Int32)] [(.int (2:Int32)), (.int (2:Int32))])) _
          refine XS.icmpYes X41.here hx rfl (pc0 := 235) (pc' := 282) rfl (hb hby at_235) rfl (XT.ii_le_t (by decide)) (by decide) (by decide) ?_
          show Steps p.tables e below (T41.setTop (mkF m 282 #[iv p0, iv p1, iv p2, iv p3, iv p4, iv (2:Int32), rv b30, iv p2, iv w0_1, rv cl_45, iv (1:Int32)] [])) _
          refine XS.iload X41.here hx rfl (hb hby at_282) rfl ?_
          show Steps p.tables e below (T41.setTop (mkF m 284 #[iv p0, iv p1, iv p2, iv p3, iv p4, iv (2:Int32), rv b30, iv p2, iv w0_1, rv cl_45, iv (1:Int32)] [(.int (2:Int32))])) _
          refine XS.iconst X41.here hx rfl (hb hby at_284) ?_
          show Steps p.tables e below (T41.setTop (mkF m 285 #[iv p0, iv p1, iv p2, iv p3, iv p4, iv (2:Int32), rv b30, iv p2, iv w0_1, rv cl_45, iv (1:Int32)] [(.int (3:Int32)), (.int (2:Int32))])) _
          refine XS.icmpYes X41.here hx rfl (pc0 := 285) (pc' := 332) rfl (hb hby at_285) rfl (XT.ii_le_t (by decide)) (by decide) (by decide) ?_
          show Steps p.tables e below (T41.setTop (mkF m 332 #[iv p0, iv p1, iv p2, iv p3, iv p4, iv (2:Int32), rv b30, iv p2, iv w0_1, rv cl_45, iv (1:Int32)] [])) _
          refine XS.iload X41.here hx rfl (hb hby at_332) rfl ?_
          exact k
        have hv56 : (1:Int32) = f0b p0 p1 p2 p3 p4 := by subst hw0_1 hw0_2; simp only [f0b, if_pos hs154_2, if_neg hs190_5, if_pos hs206_7]
        exact own_end X41 (BodyLoose.notSynchronized Bd) (fun h => by rw [Bd.returns] at h; cases h) (v := some (.int (1:Int32))) (fun fs hr => retN X41 hx (t := .boolean) Bd.returns (by simp) (hb hby at_334) hr) (by show Q0b Z p0 p1 p2 p3 p4 h0 n0 _ T41.heap _; exact ⟨(congrArg (fun z => some (Value.int z)) hv56), N41⟩) (by decide) (by decide)
      · refine own_pre (A := T41.setTop (mkF m 334 #[iv p0, iv p1, iv p2, iv p3, iv p4, iv (2:Int32), rv b30, iv p2, iv w0_1, rv cl_45, iv (0:Int32)] [(.int (0:Int32))])) (fun t k => ?_) ?_
        · show Steps p.tables e below (T41.setTop (mkF m 206 #[iv p0, iv p1, iv p2, iv p3, iv p4, iv (2:Int32), rv b30, iv p2, iv w0_1, rv cl_45, iv w0_2] [(.int (p1 &&& (255:Int32))), (.int (((p1.toInt8.toInt32).toInt8.toInt32) &&& (255:Int32)))])) _
          refine XS.icmpYes X41.here hx rfl (pc0 := 206) (pc' := 229) rfl (hb hby at_206) rfl (XT.ii_ne_t hs206_7) (by decide) (by decide) ?_
          show Steps p.tables e below (T41.setTop (mkF m 229 #[iv p0, iv p1, iv p2, iv p3, iv p4, iv (2:Int32), rv b30, iv p2, iv w0_1, rv cl_45, iv w0_2] [])) _
          refine XS.iconst X41.here hx rfl (hb hby at_229) ?_
          show Steps p.tables e below (T41.setTop (mkF m 230 #[iv p0, iv p1, iv p2, iv p3, iv p4, iv (2:Int32), rv b30, iv p2, iv w0_1, rv cl_45, iv w0_2] [(.int (0:Int32))])) _
          refine XS.istore X41.here hx rfl (hb hby at_230) rfl (l' := #[iv p0, iv p1, iv p2, iv p3, iv p4, iv (2:Int32), rv b30, iv p2, iv w0_1, rv cl_45, iv (0:Int32)]) rfl ?_
          show Steps p.tables e below (T41.setTop (mkF m 232 #[iv p0, iv p1, iv p2, iv p3, iv p4, iv (2:Int32), rv b30, iv p2, iv w0_1, rv cl_45, iv (0:Int32)] [])) _
          refine XS.iload X41.here hx rfl (hb hby at_232) rfl ?_
          show Steps p.tables e below (T41.setTop (mkF m 234 #[iv p0, iv p1, iv p2, iv p3, iv p4, iv (2:Int32), rv b30, iv p2, iv w0_1, rv cl_45, iv (0:Int32)] [(.int (2:Int32))])) _
          refine XS.iconst X41.here hx rfl (hb hby at_234) ?_
          show Steps p.tables e below (T41.setTop (mkF m 235 #[iv p0, iv p1, iv p2, iv p3, iv p4, iv (2:Int32), rv b30, iv p2, iv w0_1, rv cl_45, iv (0:Int32)] [(.int (2:Int32)), (.int (2:Int32))])) _
          refine XS.icmpYes X41.here hx rfl (pc0 := 235) (pc' := 282) rfl (hb hby at_235) rfl (XT.ii_le_t (by decide)) (by decide) (by decide) ?_
          show Steps p.tables e below (T41.setTop (mkF m 282 #[iv p0, iv p1, iv p2, iv p3, iv p4, iv (2:Int32), rv b30, iv p2, iv w0_1, rv cl_45, iv (0:Int32)] [])) _
          refine XS.iload X41.here hx rfl (hb hby at_282) rfl ?_
          show Steps p.tables e below (T41.setTop (mkF m 284 #[iv p0, iv p1, iv p2, iv p3, iv p4, iv (2:Int32), rv b30, iv p2, iv w0_1, rv cl_45, iv (0:Int32)] [(.int (2:Int32))])) _
          refine XS.iconst X41.here hx rfl (hb hby at_284) ?_
          show Steps p.tables e below (T41.setTop (mkF m 285 #[iv p0, iv p1, iv p2, iv p3, iv p4, iv (2:Int32), rv b30, iv p2, iv w0_1, rv cl_45, iv (0:Int32)] [(.int (3:Int32)), (.int (2:Int32))])) _
          refine XS.icmpYes X41.here hx rfl (pc0 := 285) (pc' := 332) rfl (hb hby at_285) rfl (XT.ii_le_t (by decide)) (by decide) (by decide) ?_
          show Steps p.tables e below (T41.setTop (mkF m 332 #[iv p0, iv p1, iv p2, iv p3, iv p4, iv (2:Int32), rv b30, iv p2, iv w0_1, rv cl_45, iv (0:Int32)] [])) _
          refine XS.iload X41.here hx rfl (hb hby at_332) rfl ?_
          exact k
        have hv57 : (0:Int32) = f0b p0 p1 p2 p3 p4 := by subst hw0_1 hw0_2; simp only [f0b, if_pos hs154_2, if_neg hs190_5, if_neg hs206_7]
        exact own_end X41 (BodyLoose.notSynchronized Bd) (fun h => by rw [Bd.returns] at h; cases h) (v := some (.int (0:Int32))) (fun fs hr => retN X41 hx (t := .boolean) Bd.returns (by simp) (hb hby at_334) hr) (by show Q0b Z p0 p1 p2 p3 p4 h0 n0 _ T41.heap _; exact ⟨(congrArg (fun z => some (Value.int z)) hv57), N41⟩) (by decide) (by decide)
  · refine own_pre (A := T41.setTop (mkF m 334 #[iv p0, iv p1, iv p2, iv p3, iv p4, iv (2:Int32), rv b30, iv p2, iv w0_1, rv cl_45, iv (0:Int32)] [(.int (0:Int32))])) (fun t k => ?_) ?_
    · show Steps p.tables e below (T41.setTop (mkF m 154 #[iv p0, iv p1, iv p2, iv p3, iv p4, iv (2:Int32), rv b30, iv p2, iv w0_1, rv cl_45, .unset] [(.int w0_1), (.int (((w0_1.toInt8.toInt32).toInt8.toInt32) &&& (255:Int32)))])) _
      refine XS.icmpYes X41.here hx rfl (pc0 := 154) (pc' := 179) rfl (hb hby at_154) rfl (XT.ii_ne_t hs154_2) (by decide) (by decide) ?_
      show Steps p.tables e below (T41.setTop (mkF m 179 #[iv p0, iv p1, iv p2, iv p3, iv p4, iv (2:Int32), rv b30, iv p2, iv w0_1, rv cl_45, .unset] [])) _
      refine XS.iconst X41.here hx rfl (hb hby at_179) ?_
      show Steps p.tables e below (T41.setTop (mkF m 180 #[iv p0, iv p1, iv p2, iv p3, iv p4, iv (2:Int32), rv b30, iv p2, iv w0_1, rv cl_45, .unset] [(.int (0:Int32))])) _
      refine XS.istore X41.here hx rfl (hb hby at_180) rfl (l' := #[iv p0, iv p1, iv p2, iv p3, iv p4, iv (2:Int32), rv b30, iv p2, iv w0_1, rv cl_45, iv (0:Int32)]) rfl ?_
      show Steps p.tables e below (T41.setTop (mkF m 182 #[iv p0, iv p1, iv p2, iv p3, iv p4, iv (2:Int32), rv b30, iv p2, iv w0_1, rv cl_45, iv (0:Int32)] [])) _
      refine XS.iload X41.here hx rfl (hb hby at_182) rfl ?_
      show Steps p.tables e below (T41.setTop (mkF m 184 #[iv p0, iv p1, iv p2, iv p3, iv p4, iv (2:Int32), rv b30, iv p2, iv w0_1, rv cl_45, iv (0:Int32)] [(.int (2:Int32))])) _
      refine XS.iconst X41.here hx rfl (hb hby at_184) ?_
      show Steps p.tables e below (T41.setTop (mkF m 185 #[iv p0, iv p1, iv p2, iv p3, iv p4, iv (2:Int32), rv b30, iv p2, iv w0_1, rv cl_45, iv (0:Int32)] [(.int (1:Int32)), (.int (2:Int32))])) _
      refine XS.icmpNo X41.here hx rfl (hb hby at_185) rfl (XT.ii_le_f (by decide)) ?_
      show Steps p.tables e below (T41.setTop (mkF m 188 #[iv p0, iv p1, iv p2, iv p3, iv p4, iv (2:Int32), rv b30, iv p2, iv w0_1, rv cl_45, iv (0:Int32)] [])) _
      refine XS.iload X41.here hx rfl (hb hby at_188) rfl ?_
      show Steps p.tables e below (T41.setTop (mkF m 190 #[iv p0, iv p1, iv p2, iv p3, iv p4, iv (2:Int32), rv b30, iv p2, iv w0_1, rv cl_45, iv (0:Int32)] [(.int (0:Int32))])) _
      refine XS.ifYes X41.here hx rfl (pc0 := 190) (pc' := 229) rfl (hb hby at_190) rfl (XT.i0_eq_t rfl) (by decide) (by decide) ?_
      show Steps p.tables e below (T41.setTop (mkF m 229 #[iv p0, iv p1, iv p2, iv p3, iv p4, iv (2:Int32), rv b30, iv p2, iv w0_1, rv cl_45, iv (0:Int32)] [])) _
      refine XS.iconst X41.here hx rfl (hb hby at_229) ?_
      show Steps p.tables e below (T41.setTop (mkF m 230 #[iv p0, iv p1, iv p2, iv p3, iv p4, iv (2:Int32), rv b30, iv p2, iv w0_1, rv cl_45, iv (0:Int32)] [(.int (0:Int32))])) _
      refine XS.istore X41.here hx rfl (hb hby at_230) rfl (l' := #[iv p0, iv p1, iv p2, iv p3, iv p4, iv (2:Int32), rv b30, iv p2, iv w0_1, rv cl_45, iv (0:Int32)]) rfl ?_
      show Steps p.tables e below (T41.setTop (mkF m 232 #[iv p0, iv p1, iv p2, iv p3, iv p4, iv (2:Int32), rv b30, iv p2, iv w0_1, rv cl_45, iv (0:Int32)] [])) _
      refine XS.iload X41.here hx rfl (hb hby at_232) rfl ?_
      show Steps p.tables e below (T41.setTop (mkF m 234 #[iv p0, iv p1, iv p2, iv p3, iv p4, iv (2:Int32), rv b30, iv p2, iv w0_1, rv cl_45, iv (0:Int32)] [(.int (2:Int32))])) _
      refine XS.iconst X41.here hx rfl (hb hby at_234) ?_
      show Steps p.tables e below (T41.setTop (mkF m 235 #[iv p0, iv p1, iv p2, iv p3, iv p4, iv (2:Int32), rv b30, iv p2, iv w0_1, rv cl_45, iv (0:Int32)] [(.int (2:Int32)), (.int (2:Int32))])) _
      refine XS.icmpYes X41.here hx rfl (pc0 := 235) (pc' := 282) rfl (hb hby at_235) rfl (XT.ii_le_t (by decide)) (by decide) (by decide) ?_
      show Steps p.tables e below (T41.setTop (mkF m 282 #[iv p0, iv p1, iv p2, iv p3, iv p4, iv (2:Int32), rv b30, iv p2, iv w0_1, rv cl_45, iv (0:Int32)] [])) _
      refine XS.iload X41.here hx rfl (hb hby at_282) rfl ?_
      show Steps p.tables e below (T41.setTop (mkF m 284 #[iv p0, iv p1, iv p2, iv p3, iv p4, iv (2:Int32), rv b30, iv p2, iv w0_1, rv cl_45, iv (0:Int32)] [(.int (2:Int32))])) _
      refine XS.iconst X41.here hx rfl (hb hby at_284) ?_
      show Steps p.tables e below (T41.setTop (mkF m 285 #[iv p0, iv p1, iv p2, iv p3, iv p4, iv (2:Int32), rv b30, iv p2, iv w0_1, rv cl_45, iv (0:Int32)] [(.int (3:Int32)), (.int (2:Int32))])) _
      refine XS.icmpYes X41.here hx rfl (pc0 := 285) (pc' := 332) rfl (hb hby at_285) rfl (XT.ii_le_t (by decide)) (by decide) (by decide) ?_
      show Steps p.tables e below (T41.setTop (mkF m 332 #[iv p0, iv p1, iv p2, iv p3, iv p4, iv (2:Int32), rv b30, iv p2, iv w0_1, rv cl_45, iv (0:Int32)] [])) _
      refine XS.iload X41.here hx rfl (hb hby at_332) rfl ?_
      exact k
    have hv58 : (0:Int32) = f0b p0 p1 p2 p3 p4 := by subst hw0_1; simp only [f0b, if_neg hs154_2]
    exact own_end X41 (BodyLoose.notSynchronized Bd) (fun h => by rw [Bd.returns] at h; cases h) (v := some (.int (0:Int32))) (fun fs hr => retN X41 hx (t := .boolean) Bd.returns (by simp) (hb hby at_334) hr) (by show Q0b Z p0 p1 p2 p3 p4 h0 n0 _ T41.heap _; exact ⟨(congrArg (fun z => some (Value.int z)) hv58), N41⟩) (by decide) (by decide)
theorem ef0c (m : MethodId) (p0 : Int32) (p1 : Int32) (p2 : Int32) (p3 : Int32) (p4 : Int32) : entryFrame m #[(.int p0), (.int p1), (.int p2), (.int p3), (.int p4)] maxLocals = mkF m 0 #[iv p0, iv p1, iv p2, iv p3, iv p4, .unset, .unset, .unset, .unset, .unset, .unset] [] := by first | (simp [entryFrame, mkF, argsToLocals, Value.category, maxLocals]; done) | rfl
def f0c (p0 : Int32) (p1 : Int32) (p2 : Int32) (p3 : Int32) (p4 : Int32) : Int32 := (let w0_1 : Int32 := ((p3 &&& (255:Int32)) % (255:Int32)); (if (((w0_1.toInt8.toInt32).toInt8.toInt32) &&& (255:Int32)) = w0_1 then (let w0_2 : Int32 := (if (((((((w0_1.toInt8.toInt32).toInt8.toInt32) + (1:Int32)).toInt8.toInt32)).toInt8.toInt32) &&& (255:Int32)) = (w0_1 + (1:Int32)) then (1:Int32) else (0:Int32)); (if w0_2 = (0:Int32) then (0:Int32) else (if (((p1.toInt8.toInt32).toInt8.toInt32) &&& (255:Int32)) = (p1 &&& (255:Int32)) then (if (((p2.toInt8.toInt32).toInt8.toInt32) &&& (255:Int32)) = (p2 &&& (255:Int32)) then (1:Int32) else (0:Int32)) else (0:Int32)))) else (0:Int32)))
def Q0c (Z : State) (p0 : Int32) (p1 : Int32) (p2 : Int32) (p3 : Int32) (p4 : Int32)  (h0 : Heap) (n0 : Nat) (v : Option Value) (h : Heap) (L : List Loc) : Prop := v = some (.int (f0c p0 p1 p2 p3 p4)) ∧ Fr n0 L
set_option maxRecDepth 65536 in
set_option maxHeartbeats 40000000 in
theorem rm0c (l : Launch) (Z : State) (aZ : Array Value) (hw : ∀ d ∈ tables_1, d.before aZ Z = true) (ws : List Jvm.Cond) (p0 : Int32) (p1 : Int32) (p2 : Int32) (p3 : Int32) (p4 : Int32)  (h0 : Heap) (n0 : Nat) (Z0 : n0 ≤ h0.size) (hlen : ((p0 &&& (3:Int32)) + (1:Int32)) = (3:Int32)) :
    MetFree l x (head1 (Jvm.Cond.code x code maxLocals ret :: ws) room_1) (fun a U => a = #[(.int p0), (.int p1), (.int p2), (.int p3), (.int p4)] ∧ Z.Warmed39 U.vm ∧ U.heap = h0) (fun _ _ _ _ _ => True) (fun _ U o U' => ∃ v L, o = .returned v ∧ Q0c Z p0 p1 p2 p3 p4 h0 n0 v U'.heap L ∧ FrameEnd U o U' L 2 8) := by
  refine MetFree.of_bodySF (plainFor_of_name own_pn1) hisR ?_
  intro p e s m args below meth c s₁ Bd hml0 hP hK
  obtain ⟨rfl, hZ, hh⟩ := hP
  have hx := Bd.exec
  have hby := Bd.bytes
  have hml : c.maxLocals = 11 := hml0
  have hown : s.vm.findClass "com/example/lexrow/lexrow/storage/CellKeysPrefixEndPinLaw" = some m.cls := findClass_of_methodNamed Bd.named
  have hnm := (name_of_methodNamed Bd.named Bd.method).1
  have X0 : Stand p l e room_1 s m #[(.int p0), (.int p1), (.int p2), (.int p3), (.int p4)] below meth c s₁ [] 0 0 := Stand.of_body Bd
  have e0 : s₁.heap = h0 := by rw [← hh, Bd.state]; rfl
  have N0 := Fr.nil n0
  show own_Goes p e below s (Q0c Z p0 p1 p2 p3 p4 h0 n0) 2 8 _
  refine own_pre (fun t k => castTop (ef0c m p0 p1 p2 p3 p4) k) ?_
  refine own_pre (A := s₁.setTop (mkF m 9 #[iv p0, iv p1, iv p2, iv p3, iv p4, iv (3:Int32), .unset, .unset, .unset, .unset, .unset] [(.int (3:Int32))])) (fun t k => ?_) ?_
  · show Steps p.tables e below (s₁.setTop (mkF m 0 #[iv p0, iv p1, iv p2, iv p3, iv p4, .unset, .unset, .unset, .unset, .unset, .unset] [])) _
    refine XS.iloadN X0.here hx rfl (hb hby at_0) rfl ?_
    show Steps p.tables e below (s₁.setTop (mkF m 1 #[iv p0, iv p1, iv p2, iv p3, iv p4, .unset, .unset, .unset, .unset, .unset, .unset] [(.int p0)])) _
    refine XS.iconst X0.here hx rfl (hb hby at_1) ?_
    show Steps p.tables e below (s₁.setTop (mkF m 2 #[iv p0, iv p1, iv p2, iv p3, iv p4, .unset, .unset, .unset, .unset, .unset, .unset] [(.int (3:Int32)), (.int p0)])) _
    refine XS.iand X0.here hx rfl (hb hby at_2) rfl ?_
    show Steps p.tables e below (s₁.setTop (mkF m 3 #[iv p0, iv p1, iv p2, iv p3, iv p4, .unset, .unset, .unset, .unset, .unset, .unset] [(.int (p0 &&& (3:Int32)))])) _
    refine XS.iconst X0.here hx rfl (hb hby at_3) ?_
    show Steps p.tables e below (s₁.setTop (mkF m 4 #[iv p0, iv p1, iv p2, iv p3, iv p4, .unset, .unset, .unset, .unset, .unset, .unset] [(.int (1:Int32)), (.int (p0 &&& (3:Int32)))])) _
    refine XS.iadd X0.here hx rfl (hb hby at_4) rfl ?_
    show Steps p.tables e below (s₁.setTop (mkF m 5 #[iv p0, iv p1, iv p2, iv p3, iv p4, .unset, .unset, .unset, .unset, .unset, .unset] [(.int ((p0 &&& (3:Int32)) + (1:Int32)))])) _
    refine XS.istore X0.here hx rfl (hb hby at_5) rfl (l' := #[iv p0, iv p1, iv p2, iv p3, iv p4, iv (3:Int32), .unset, .unset, .unset, .unset, .unset]) (by rw [hlen]; rfl) ?_
    show Steps p.tables e below (s₁.setTop (mkF m 7 #[iv p0, iv p1, iv p2, iv p3, iv p4, iv (3:Int32), .unset, .unset, .unset, .unset, .unset] [])) _
    refine XS.iload X0.here hx rfl (hb hby at_7) rfl ?_
    exact k
  obtain ⟨T59, h59, k59, X59, e59, E59, A59, B59, st59⟩ := newPE X0 hx hZ (own_h hw 0 rfl) e0 (g := (mkF m 9 #[iv p0, iv p1, iv p2, iv p3, iv p4, iv (3:Int32), .unset, .unset, .unset, .unset, .unset] [(.int (3:Int32))])) rfl (hb hby at_9) rfl (by decide) (cap := 3) (by decide) (by decide) (by decide) (by decide) (ad := "[B") (by decide)
  obtain ⟨b59, g59⟩ : ∃ z, z = h0.size := ⟨_, rfl⟩
  rw [← g59] at A59 st59 B59
  have ge_b59 : n0 ≤ b59 := Nat.le_trans Z0 (Nat.le_of_eq g59.symm)
  have Z60 : n0 ≤ h59.size := Nat.le_trans Z0 E59.1
  have V59 : own_Bytes Z h59 b59 [(0:Int32), (0:Int32), (0:Int32)] := own_newB A59 (by decide)
  refine own_pre st59 ?_
  refine own_pre (A := T59.setTop (mkF m 18 #[iv p0, iv p1, iv p2, iv p3, iv p4, iv (3:Int32), rv b59, .unset, .unset, .unset, .unset] [(.int (p1.toInt8.toInt32)), (.int (0:Int32)), (.ref b59)])) (fun t k => ?_) ?_
  · show Steps p.tables e below (T59.setTop (mkF m 11 #[iv p0, iv p1, iv p2, iv p3, iv p4, iv (3:Int32), .unset, .unset, .unset, .unset, .unset] [(.ref b59)])) _
    refine XS.astore X59.here hx rfl (hb hby at_11) rfl rfl (l' := #[iv p0, iv p1, iv p2, iv p3, iv p4, iv (3:Int32), rv b59, .unset, .unset, .unset, .unset]) rfl ?_
    show Steps p.tables e below (T59.setTop (mkF m 13 #[iv p0, iv p1, iv p2, iv p3, iv p4, iv (3:Int32), rv b59, .unset, .unset, .unset, .unset] [])) _
    refine XS.aload X59.here hx rfl (hb hby at_13) rfl rfl ?_
    show Steps p.tables e below (T59.setTop (mkF m 15 #[iv p0, iv p1, iv p2, iv p3, iv p4, iv (3:Int32), rv b59, .unset, .unset, .unset, .unset] [(.ref b59)])) _
    refine XS.iconst X59.here hx rfl (hb hby at_15) ?_
    show Steps p.tables e below (T59.setTop (mkF m 16 #[iv p0, iv p1, iv p2, iv p3, iv p4, iv (3:Int32), rv b59, .unset, .unset, .unset, .unset] [(.int (0:Int32)), (.ref b59)])) _
    refine XS.iloadN X59.here hx rfl (hb hby at_16) rfl ?_
    show Steps p.tables e below (T59.setTop (mkF m 17 #[iv p0, iv p1, iv p2, iv p3, iv p4, iv (3:Int32), rv b59, .unset, .unset, .unset, .unset] [(.int p1), (.int (0:Int32)), (.ref b59)])) _
    refine XS.i2b X59.here hx rfl (hb hby at_17) rfl ?_
    exact k
  have hbn62 : own_In (0:Int32) [(0:Int32), (0:Int32), (0:Int32)].length := own_lit rfl
  obtain ⟨T61, h61, X61, e61, W61, V61, st61⟩ := own_bastore X59 hx hZ e59 V59 (j := (0:Int32)) (x := (p1.toInt8.toInt32)) hbn62 (g := (mkF m 18 #[iv p0, iv p1, iv p2, iv p3, iv p4, iv (3:Int32), rv b59, .unset, .unset, .unset, .unset] [(.int (p1.toInt8.toInt32)), (.int (0:Int32)), (.ref b59)])) rfl rfl (hb hby at_18)
  have Z63 : n0 ≤ h61.size := Nat.le_trans Z60 (Nat.le_of_eq W61.size.symm)
  have N61 := Fr.snoc X61 N0 ge_b59
  have Vw61 : own_Bytes Z h61 b59 [((p1.toInt8.toInt32).toInt8.toInt32), (0:Int32), (0:Int32)] := V61
  refine own_pre st61 ?_
  refine own_pre (A := T61.setTop (mkF m 30 #[iv p0, iv p1, iv p2, iv p3, iv p4, iv (3:Int32), rv b59, .unset, .unset, .unset, .unset] [(.int (p2.toInt8.toInt32)), (.int (1:Int32)), (.ref b59)])) (fun t k => ?_) ?_
  · show Steps p.tables e below (T61.setTop (mkF m 19 #[iv p0, iv p1, iv p2, iv p3, iv p4, iv (3:Int32), rv b59, .unset, .unset, .unset, .unset] [])) _
    refine XS.iload X61.here hx rfl (hb hby at_19) rfl ?_
    show Steps p.tables e below (T61.setTop (mkF m 21 #[iv p0, iv p1, iv p2, iv p3, iv p4, iv (3:Int32), rv b59, .unset, .unset, .unset, .unset] [(.int (3:Int32))])) _
    refine XS.iconst X61.here hx rfl (hb hby at_21) ?_
    show Steps p.tables e below (T61.setTop (mkF m 22 #[iv p0, iv p1, iv p2, iv p3, iv p4, iv (3:Int32), rv b59, .unset, .unset, .unset, .unset] [(.int (1:Int32)), (.int (3:Int32))])) _
    refine XS.icmpNo X61.here hx rfl (hb hby at_22) rfl (XT.ii_le_f (by decide)) ?_
    show Steps p.tables e below (T61.setTop (mkF m 25 #[iv p0, iv p1, iv p2, iv p3, iv p4, iv (3:Int32), rv b59, .unset, .unset, .unset, .unset] [])) _
    refine XS.aload X61.here hx rfl (hb hby at_25) rfl rfl ?_
    show Steps p.tables e below (T61.setTop (mkF m 27 #[iv p0, iv p1, iv p2, iv p3, iv p4, iv (3:Int32), rv b59, .unset, .unset, .unset, .unset] [(.ref b59)])) _
    refine XS.iconst X61.here hx rfl (hb hby at_27) ?_
    show Steps p.tables e below (T61.setTop (mkF m 28 #[iv p0, iv p1, iv p2, iv p3, iv p4, iv (3:Int32), rv b59, .unset, .unset, .unset, .unset] [(.int (1:Int32)), (.ref b59)])) _
    refine XS.iloadN X61.here hx rfl (hb hby at_28) rfl ?_
    show Steps p.tables e below (T61.setTop (mkF m 29 #[iv p0, iv p1, iv p2, iv p3, iv p4, iv (3:Int32), rv b59, .unset, .unset, .unset, .unset] [(.int p2), (.int (1:Int32)), (.ref b59)])) _
    refine XS.i2b X61.here hx rfl (hb hby at_29) rfl ?_
    exact k
  have hbn65 : own_In (1:Int32) [((p1.toInt8.toInt32).toInt8.toInt32), (0:Int32), (0:Int32)].length := own_lit rfl
  obtain ⟨T64, h64, X64, e64, W64, V64, st64⟩ := own_bastore X61 hx hZ e61 Vw61 (j := (1:Int32)) (x := (p2.toInt8.toInt32)) hbn65 (g := (mkF m 30 #[iv p0, iv p1, iv p2, iv p3, iv p4, iv (3:Int32), rv b59, .unset, .unset, .unset, .unset] [(.int (p2.toInt8.toInt32)), (.int (1:Int32)), (.ref b59)])) rfl rfl (hb hby at_30)
  have Z66 : n0 ≤ h64.size := Nat.le_trans Z63 (Nat.le_of_eq W64.size.symm)
  have N64 := Fr.snoc X64 N61 ge_b59
  have Vw64 : own_Bytes Z h64 b59 [((p1.toInt8.toInt32).toInt8.toInt32), ((p2.toInt8.toInt32).toInt8.toInt32), (0:Int32)] := V64
  refine own_pre st64 ?_
  refine own_pre (A := T64.setTop (mkF m 42 #[iv p0, iv p1, iv p2, iv p3, iv p4, iv (3:Int32), rv b59, .unset, .unset, .unset, .unset] [(.int (p3.toInt8.toInt32)), (.int (2:Int32)), (.ref b59)])) (fun t k => ?_) ?_
  · show Steps p.tables e below (T64.setTop (mkF m 31 #[iv p0, iv p1, iv p2, iv p3, iv p4, iv (3:Int32), rv b59, .unset, .unset, .unset, .unset] [])) _
    refine XS.iload X64.here hx rfl (hb hby at_31) rfl ?_
    show Steps p.tables e below (T64.setTop (mkF m 33 #[iv p0, iv p1, iv p2, iv p3, iv p4, iv (3:Int32), rv b59, .unset, .unset, .unset, .unset] [(.int (3:Int32))])) _
    refine XS.iconst X64.here hx rfl (hb hby at_33) ?_
    show Steps p.tables e below (T64.setTop (mkF m 34 #[iv p0, iv p1, iv p2, iv p3, iv p4, iv (3:Int32), rv b59, .unset, .unset, .unset, .unset] [(.int (2:Int32)), (.int (3:Int32))])) _
    refine XS.icmpNo X64.here hx rfl (hb hby at_34) rfl (XT.ii_le_f (by decide)) ?_
    show Steps p.tables e below (T64.setTop (mkF m 37 #[iv p0, iv p1, iv p2, iv p3, iv p4, iv (3:Int32), rv b59, .unset, .unset, .unset, .unset] [])) _
    refine XS.aload X64.here hx rfl (hb hby at_37) rfl rfl ?_
    show Steps p.tables e below (T64.setTop (mkF m 39 #[iv p0, iv p1, iv p2, iv p3, iv p4, iv (3:Int32), rv b59, .unset, .unset, .unset, .unset] [(.ref b59)])) _
    refine XS.iconst X64.here hx rfl (hb hby at_39) ?_
    show Steps p.tables e below (T64.setTop (mkF m 40 #[iv p0, iv p1, iv p2, iv p3, iv p4, iv (3:Int32), rv b59, .unset, .unset, .unset, .unset] [(.int (2:Int32)), (.ref b59)])) _
    refine XS.iloadN X64.here hx rfl (hb hby at_40) rfl ?_
    show Steps p.tables e below (T64.setTop (mkF m 41 #[iv p0, iv p1, iv p2, iv p3, iv p4, iv (3:Int32), rv b59, .unset, .unset, .unset, .unset] [(.int p3), (.int (2:Int32)), (.ref b59)])) _
    refine XS.i2b X64.here hx rfl (hb hby at_41) rfl ?_
    exact k
  have hbn68 : own_In (2:Int32) [((p1.toInt8.toInt32).toInt8.toInt32), ((p2.toInt8.toInt32).toInt8.toInt32), (0:Int32)].length := own_lit rfl
  obtain ⟨T67, h67, X67, e67, W67, V67, st67⟩ := own_bastore X64 hx hZ e64 Vw64 (j := (2:Int32)) (x := (p3.toInt8.toInt32)) hbn68 (g := (mkF m 42 #[iv p0, iv p1, iv p2, iv p3, iv p4, iv (3:Int32), rv b59, .unset, .unset, .unset, .unset] [(.int (p3.toInt8.toInt32)), (.int (2:Int32)), (.ref b59)])) rfl rfl (hb hby at_42)
  have Z69 : n0 ≤ h67.size := Nat.le_trans Z66 (Nat.le_of_eq W67.size.symm)
  have N67 := Fr.snoc X67 N64 ge_b59
  have Vw67 : own_Bytes Z h67 b59 [((p1.toInt8.toInt32).toInt8.toInt32), ((p2.toInt8.toInt32).toInt8.toInt32), ((p3.toInt8.toInt32).toInt8.toInt32)] := V67
  refine own_pre st67 ?_
  obtain ⟨w0_1, hw0_1⟩ : ∃ z : Int32, z = ((p3 &&& (255:Int32)) % (255:Int32)) := ⟨_, rfl⟩
  refine own_pre (A := T67.setTop (mkF m 111 #[iv p0, iv p1, iv p2, iv p3, iv p4, iv (3:Int32), rv b59, iv p3, iv w0_1, .unset, .unset] [(.int (w0_1.toInt8.toInt32)), (.int (2:Int32)), (.ref b59)])) (fun t k => ?_) ?_
  · show Steps p.tables e below (T67.setTop (mkF m 43 #[iv p0, iv p1, iv p2, iv p3, iv p4, iv (3:Int32), rv b59, .unset, .unset, .unset, .unset] [])) _
    refine XS.iload X67.here hx rfl (hb hby at_43) rfl ?_
    show Steps p.tables e below (T67.setTop (mkF m 45 #[iv p0, iv p1, iv p2, iv p3, iv p4, iv (3:Int32), rv b59, .unset, .unset, .unset, .unset] [(.int (3:Int32))])) _
    refine XS.iconst X67.here hx rfl (hb hby at_45) ?_
    show Steps p.tables e below (T67.setTop (mkF m 46 #[iv p0, iv p1, iv p2, iv p3, iv p4, iv (3:Int32), rv b59, .unset, .unset, .unset, .unset] [(.int (3:Int32)), (.int (3:Int32))])) _
    refine XS.icmpYes X67.here hx rfl (pc0 := 46) (pc' := 56) rfl (hb hby at_46) rfl (XT.ii_le_t (by decide)) (by decide) (by decide) ?_
    show Steps p.tables e below (T67.setTop (mkF m 56 #[iv p0, iv p1, iv p2, iv p3, iv p4, iv (3:Int32), rv b59, .unset, .unset, .unset, .unset] [])) _
    refine XS.iload X67.here hx rfl (hb hby at_56) rfl ?_
    show Steps p.tables e below (T67.setTop (mkF m 58 #[iv p0, iv p1, iv p2, iv p3, iv p4, iv (3:Int32), rv b59, .unset, .unset, .unset, .unset] [(.int (3:Int32))])) _
    refine XS.iconst X67.here hx rfl (hb hby at_58) ?_
    show Steps p.tables e below (T67.setTop (mkF m 59 #[iv p0, iv p1, iv p2, iv p3, iv p4, iv (3:Int32), rv b59, .unset, .unset, .unset, .unset] [(.int (1:Int32)), (.int (3:Int32))])) _
    refine XS.icmpYes X67.here hx rfl (pc0 := 59) (pc' := 66) rfl (hb hby at_59) rfl (XT.ii_ne_t (by decide)) (by decide) (by decide) ?_
    show Steps p.tables e below (T67.setTop (mkF m 66 #[iv p0, iv p1, iv p2, iv p3, iv p4, iv (3:Int32), rv b59, .unset, .unset, .unset, .unset] [])) _
    refine XS.iload X67.here hx rfl (hb hby at_66) rfl ?_
    show Steps p.tables e below (T67.setTop (mkF m 68 #[iv p0, iv p1, iv p2, iv p3, iv p4, iv (3:Int32), rv b59, .unset, .unset, .unset, .unset] [(.int (3:Int32))])) _
    refine XS.iconst X67.here hx rfl (hb hby at_68) ?_
    show Steps p.tables e below (T67.setTop (mkF m 69 #[iv p0, iv p1, iv p2, iv p3, iv p4, iv (3:Int32), rv b59, .unset, .unset, .unset, .unset] [(.int (2:Int32)), (.int (3:Int32))])) _
    refine XS.icmpYes X67.here hx rfl (pc0 := 69) (pc' := 76) rfl (hb hby at_69) rfl (XT.ii_ne_t (by decide)) (by decide) (by decide) ?_
    show Steps p.tables e below (T67.setTop (mkF m 76 #[iv p0, iv p1, iv p2, iv p3, iv p4, iv (3:Int32), rv b59, .unset, .unset, .unset, .unset] [])) _
    refine XS.iload X67.here hx rfl (hb hby at_76) rfl ?_
    show Steps p.tables e below (T67.setTop (mkF m 78 #[iv p0, iv p1, iv p2, iv p3, iv p4, iv (3:Int32), rv b59, .unset, .unset, .unset, .unset] [(.int (3:Int32))])) _
    refine XS.iconst X67.here hx rfl (hb hby at_78) ?_
    show Steps p.tables e below (T67.setTop (mkF m 79 #[iv p0, iv p1, iv p2, iv p3, iv p4, iv (3:Int32), rv b59, .unset, .unset, .unset, .unset] [(.int (3:Int32)), (.int (3:Int32))])) _
    refine XS.icmpNo X67.here hx rfl (hb hby at_79) rfl (XT.ii_ne_f rfl) ?_
    show Steps p.tables e below (T67.setTop (mkF m 82 #[iv p0, iv p1, iv p2, iv p3, iv p4, iv (3:Int32), rv b59, .unset, .unset, .unset, .unset] [])) _
    refine XS.iloadN X67.here hx rfl (hb hby at_82) rfl ?_
    show Steps p.tables e below (T67.setTop (mkF m 83 #[iv p0, iv p1, iv p2, iv p3, iv p4, iv (3:Int32), rv b59, .unset, .unset, .unset, .unset] [(.int p3)])) _
    refine XS.goto X67.here hx rfl (pc0 := 83) (pc' := 88) rfl (hb hby at_83) (by decide) (by decide) ?_
    show Steps p.tables e below (T67.setTop (mkF m 88 #[iv p0, iv p1, iv p2, iv p3, iv p4, iv (3:Int32), rv b59, .unset, .unset, .unset, .unset] [(.int p3)])) _
    refine XS.istore X67.here hx rfl (hb hby at_88) rfl (l' := #[iv p0, iv p1, iv p2, iv p3, iv p4, iv (3:Int32), rv b59, iv p3, .unset, .unset, .unset]) rfl ?_
    show Steps p.tables e below (T67.setTop (mkF m 90 #[iv p0, iv p1, iv p2, iv p3, iv p4, iv (3:Int32), rv b59, iv p3, .unset, .unset, .unset] [])) _
    refine XS.iload X67.here hx rfl (hb hby at_90) rfl ?_
    show Steps p.tables e below (T67.setTop (mkF m 92 #[iv p0, iv p1, iv p2, iv p3, iv p4, iv (3:Int32), rv b59, iv p3, .unset, .unset, .unset] [(.int p3)])) _
    refine XS.sipush X67.here hx rfl (hb hby at_92) ?_
    show Steps p.tables e below (T67.setTop (mkF m 95 #[iv p0, iv p1, iv p2, iv p3, iv p4, iv (3:Int32), rv b59, iv p3, .unset, .unset, .unset] [(.int (255:Int32)), (.int p3)])) _
    refine XS.iand X67.here hx rfl (hb hby at_95) rfl ?_
    show Steps p.tables e below (T67.setTop (mkF m 96 #[iv p0, iv p1, iv p2, iv p3, iv p4, iv (3:Int32), rv b59, iv p3, .unset, .unset, .unset] [(.int (p3 &&& (255:Int32)))])) _
    refine XS.sipush X67.here hx rfl (hb hby at_96) ?_
    show Steps p.tables e below (T67.setTop (mkF m 99 #[iv p0, iv p1, iv p2, iv p3, iv p4, iv (3:Int32), rv b59, iv p3, .unset, .unset, .unset] [(.int (255:Int32)), (.int (p3 &&& (255:Int32)))])) _
    refine iremM X67 hx rfl (hb hby at_99) rfl (by decide) ?_
    show Steps p.tables e below (T67.setTop (mkF m 100 #[iv p0, iv p1, iv p2, iv p3, iv p4, iv (3:Int32), rv b59, iv p3, .unset, .unset, .unset] [(.int ((p3 &&& (255:Int32)) % (255:Int32)))])) _
    refine XS.istore X67.here hx rfl (hb hby at_100) rfl (l' := #[iv p0, iv p1, iv p2, iv p3, iv p4, iv (3:Int32), rv b59, iv p3, iv w0_1, .unset, .unset]) (by rw [hw0_1]; rfl) ?_
    show Steps p.tables e below (T67.setTop (mkF m 102 #[iv p0, iv p1, iv p2, iv p3, iv p4, iv (3:Int32), rv b59, iv p3, iv w0_1, .unset, .unset] [])) _
    refine XS.aload X67.here hx rfl (hb hby at_102) rfl rfl ?_
    show Steps p.tables e below (T67.setTop (mkF m 104 #[iv p0, iv p1, iv p2, iv p3, iv p4, iv (3:Int32), rv b59, iv p3, iv w0_1, .unset, .unset] [(.ref b59)])) _
    refine XS.iload X67.here hx rfl (hb hby at_104) rfl ?_
    show Steps p.tables e below (T67.setTop (mkF m 106 #[iv p0, iv p1, iv p2, iv p3, iv p4, iv (3:Int32), rv b59, iv p3, iv w0_1, .unset, .unset] [(.int (3:Int32)), (.ref b59)])) _
    refine XS.iconst X67.here hx rfl (hb hby at_106) ?_
    show Steps p.tables e below (T67.setTop (mkF m 107 #[iv p0, iv p1, iv p2, iv p3, iv p4, iv (3:Int32), rv b59, iv p3, iv w0_1, .unset, .unset] [(.int (1:Int32)), (.int (3:Int32)), (.ref b59)])) _
    refine XS.isub X67.here hx rfl (hb hby at_107) rfl ?_
    show Steps p.tables e below (T67.setTop (mkF m 108 #[iv p0, iv p1, iv p2, iv p3, iv p4, iv (3:Int32), rv b59, iv p3, iv w0_1, .unset, .unset] [(.int (2:Int32)), (.ref b59)])) _
    refine XS.iload X67.here hx rfl (hb hby at_108) rfl ?_
    show Steps p.tables e below (T67.setTop (mkF m 110 #[iv p0, iv p1, iv p2, iv p3, iv p4, iv (3:Int32), rv b59, iv p3, iv w0_1, .unset, .unset] [(.int w0_1), (.int (2:Int32)), (.ref b59)])) _
    refine XS.i2b X67.here hx rfl (hb hby at_110) rfl ?_
    exact k
  have hbn71 : own_In (2:Int32) [((p1.toInt8.toInt32).toInt8.toInt32), ((p2.toInt8.toInt32).toInt8.toInt32), ((p3.toInt8.toInt32).toInt8.toInt32)].length := own_lit rfl
  obtain ⟨T70, h70, X70, e70, W70, V70, st70⟩ := own_bastore X67 hx hZ e67 Vw67 (j := (2:Int32)) (x := (w0_1.toInt8.toInt32)) hbn71 (g := (mkF m 111 #[iv p0, iv p1, iv p2, iv p3, iv p4, iv (3:Int32), rv b59, iv p3, iv w0_1, .unset, .unset] [(.int (w0_1.toInt8.toInt32)), (.int (2:Int32)), (.ref b59)])) rfl rfl (hb hby at_111)
  have Z72 : n0 ≤ h70.size := Nat.le_trans Z69 (Nat.le_of_eq W70.size.symm)
  have N70 := Fr.snoc X70 N67 ge_b59
  have Vw70 : own_Bytes Z h70 b59 [((p1.toInt8.toInt32).toInt8.toInt32), ((p2.toInt8.toInt32).toInt8.toInt32), ((w0_1.toInt8.toInt32).toInt8.toInt32)] := V70
  refine own_pre st70 ?_
  refine own_pre (A := T70.setTop (mkF m 114 #[iv p0, iv p1, iv p2, iv p3, iv p4, iv (3:Int32), rv b59, iv p3, iv w0_1, .unset, .unset] [(.ref b59)])) (fun t k => ?_) ?_
  · show Steps p.tables e below (T70.setTop (mkF m 112 #[iv p0, iv p1, iv p2, iv p3, iv p4, iv (3:Int32), rv b59, iv p3, iv w0_1, .unset, .unset] [])) _
    refine XS.aload X70.here hx rfl (hb hby at_112) rfl rfl ?_
    exact k
  have F74 := ((((B59.wr W61).wr W64).wr W67).wr W70)
  obtain ⟨_, _, ⟨T73, L73, k73, n73⟩, -, X73, ⟨Lc73, hQ73, l73, y73, z73⟩, st73⟩ := Jvm.LawKit.callS X70 hx (y := (⟨"com/example/lexrow/lexrow/storage/CellKeys", "prefixEnd", "([B)[B"⟩ : MethodName)) hown (mvT hZ (own_h hw 1 rfl)) (mvT hZ (own_h hw 2 rfl)) (mvT hZ (own_h hw 3 rfl)) (mvT hZ (own_h hw 4 rfl)) (by decide) (backOf (W := 0) (rm1 l Z aZ hw [] b59 [((p1.toInt8.toInt32).toInt8.toInt32), ((p2.toInt8.toInt32).toInt8.toInt32), ((w0_1.toInt8.toInt32).toInt8.toInt32)] h70 n0 Z72 F74 Vw70 (Nat.le_of_ble_eq_true rfl) (own_lastin _ (Nat.le_of_ble_eq_true rfl) (Nat.le_of_ble_eq_true rfl))) hZ (own_h hw 4 rfl) (own_h hw 3 rfl) (by decide) (by decide)) (g := (mkF m 114 #[iv p0, iv p1, iv p2, iv p3, iv p4, iv (3:Int32), rv b59, iv p3, iv w0_1, .unset, .unset] [(.ref b59)])) rfl (by rw [hml]; rfl) (argsL := [(.ref b59)]) (rest := []) (lenOf own_pd0 rfl) rfl (by show 2 * 0 + _ ≤ _; exact Nat.le_of_eq rfl) (hb hby at_114) (fun _ _ => ⟨rfl, e70, (by decide : 1 + 1 ≤ _), (by decide : 3 + 4 ≤ _)⟩)
  dsimp only [Pt.U, Pt.locs, Pt.cells, Pt.slots] at X73 l73 y73 z73 st73 hQ73
  subst l73 y73 z73
  obtain ⟨cl_77, rfl, N73q, K73, sz75, G76⟩ := hQ73
  have N73 := Fr.app N70 N73q
  have Z78 : n0 ≤ T73.heap.size := Nat.le_trans Z72 K73.1
  have G79 : own_Bytes Z T73.heap cl_77 [((p1.toInt8.toInt32).toInt8.toInt32), ((p2.toInt8.toInt32).toInt8.toInt32), ((((((w0_1.toInt8.toInt32).toInt8.toInt32) + (1:Int32)).toInt8.toInt32)).toInt8.toInt32)] := by rw [show (own_len [((p1.toInt8.toInt32).toInt8.toInt32), ((p2.toInt8.toInt32).toInt8.toInt32), ((w0_1.toInt8.toInt32).toInt8.toInt32)]) = (3:Int32) from rfl] at G76; exact G76
  have ne80 : b59 ≠ cl_77 := Nat.ne_of_lt (Nat.lt_of_lt_of_le F74.lt sz75)
  have ge81 : n0 ≤ cl_77 := Nat.le_trans Z72 sz75
  refine own_pre st73 ?_
  have F82 := (Vw70.keep K73 nin0)
  have hbn83 : own_In (2:Int32) [((p1.toInt8.toInt32).toInt8.toInt32), ((p2.toInt8.toInt32).toInt8.toInt32), ((w0_1.toInt8.toInt32).toInt8.toInt32)].length := own_lit rfl
  refine own_pre (A := T73.setTop (mkF m 154 #[iv p0, iv p1, iv p2, iv p3, iv p4, iv (3:Int32), rv b59, iv p3, iv w0_1, rv cl_77, .unset] [(.int w0_1), (.int (((w0_1.toInt8.toInt32).toInt8.toInt32) &&& (255:Int32)))])) (fun t k => ?_) ?_
  · show Steps p.tables e below (T73.setTop (mkF m 117 #[iv p0, iv p1, iv p2, iv p3, iv p4, iv (3:Int32), rv b59, iv p3, iv w0_1, .unset, .unset] [(.ref cl_77)])) _
    refine XS.astore X73.here hx rfl (hb hby at_117) rfl rfl (l' := #[iv p0, iv p1, iv p2, iv p3, iv p4, iv (3:Int32), rv b59, iv p3, iv w0_1, rv cl_77, .unset]) rfl ?_
    show Steps p.tables e below (T73.setTop (mkF m 119 #[iv p0, iv p1, iv p2, iv p3, iv p4, iv (3:Int32), rv b59, iv p3, iv w0_1, rv cl_77, .unset] [])) _
    refine XS.aload X73.here hx rfl (hb hby at_119) rfl rfl ?_
    show Steps p.tables e below (T73.setTop (mkF m 121 #[iv p0, iv p1, iv p2, iv p3, iv p4, iv (3:Int32), rv b59, iv p3, iv w0_1, rv cl_77, .unset] [(.ref cl_77)])) _
    refine XS.ifnullNo X73.here hx rfl (hb hby at_121) rfl ?_
    show Steps p.tables e below (T73.setTop (mkF m 124 #[iv p0, iv p1, iv p2, iv p3, iv p4, iv (3:Int32), rv b59, iv p3, iv w0_1, rv cl_77, .unset] [])) _
    refine XS.aload X73.here hx rfl (hb hby at_124) rfl rfl ?_
    show Steps p.tables e below (T73.setTop (mkF m 126 #[iv p0, iv p1, iv p2, iv p3, iv p4, iv (3:Int32), rv b59, iv p3, iv w0_1, rv cl_77, .unset] [(.ref cl_77)])) _
    refine XS.aload X73.here hx rfl (hb hby at_126) rfl rfl ?_
    show Steps p.tables e below (T73.setTop (mkF m 128 #[iv p0, iv p1, iv p2, iv p3, iv p4, iv (3:Int32), rv b59, iv p3, iv w0_1, rv cl_77, .unset] [(.ref b59), (.ref cl_77)])) _
    refine Jvm.RoadKit.acmp (g := (mkF m 128 #[iv p0, iv p1, iv p2, iv p3, iv p4, iv (3:Int32), rv b59, iv p3, iv w0_1, rv cl_77, .unset] [(.ref b59), (.ref cl_77)])) X73 hx rfl rfl rfl (pc0 := 128) (pc' := 131) (same := false) rfl (hb hby at_128) rfl (decide_eq_false fun q => (Ne.symm ne80) (Value.ref.inj q)) (by decide) (by decide) ?_
    show Steps p.tables e below (T73.setTop (mkF m 131 #[iv p0, iv p1, iv p2, iv p3, iv p4, iv (3:Int32), rv b59, iv p3, iv w0_1, rv cl_77, .unset] [])) _
    refine XS.aload X73.here hx rfl (hb hby at_131) rfl rfl ?_
    show Steps p.tables e below (T73.setTop (mkF m 133 #[iv p0, iv p1, iv p2, iv p3, iv p4, iv (3:Int32), rv b59, iv p3, iv w0_1, rv cl_77, .unset] [(.ref cl_77)])) _
    refine own_arrlenB X73 hx hZ rfl G79 rfl rfl (hb hby at_133) ?_
    show Steps p.tables e below (T73.setTop (mkF m 134 #[iv p0, iv p1, iv p2, iv p3, iv p4, iv (3:Int32), rv b59, iv p3, iv w0_1, rv cl_77, .unset] [(.int (3:Int32))])) _
    refine XS.iload X73.here hx rfl (hb hby at_134) rfl ?_
    show Steps p.tables e below (T73.setTop (mkF m 136 #[iv p0, iv p1, iv p2, iv p3, iv p4, iv (3:Int32), rv b59, iv p3, iv w0_1, rv cl_77, .unset] [(.int (3:Int32)), (.int (3:Int32))])) _
    refine XS.icmpYes X73.here hx rfl (pc0 := 136) (pc' := 141) rfl (hb hby at_136) rfl (XT.ii_eq_t rfl) (by decide) (by decide) ?_
    show Steps p.tables e below (T73.setTop (mkF m 141 #[iv p0, iv p1, iv p2, iv p3, iv p4, iv (3:Int32), rv b59, iv p3, iv w0_1, rv cl_77, .unset] [])) _
    refine XS.aload X73.here hx rfl (hb hby at_141) rfl rfl ?_
    show Steps p.tables e below (T73.setTop (mkF m 143 #[iv p0, iv p1, iv p2, iv p3, iv p4, iv (3:Int32), rv b59, iv p3, iv w0_1, rv cl_77, .unset] [(.ref b59)])) _
    refine XS.iload X73.here hx rfl (hb hby at_143) rfl ?_
    show Steps p.tables e below (T73.setTop (mkF m 145 #[iv p0, iv p1, iv p2, iv p3, iv p4, iv (3:Int32), rv b59, iv p3, iv w0_1, rv cl_77, .unset] [(.int (3:Int32)), (.ref b59)])) _
    refine XS.iconst X73.here hx rfl (hb hby at_145) ?_
    show Steps p.tables e below (T73.setTop (mkF m 146 #[iv p0, iv p1, iv p2, iv p3, iv p4, iv (3:Int32), rv b59, iv p3, iv w0_1, rv cl_77, .unset] [(.int (1:Int32)), (.int (3:Int32)), (.ref b59)])) _
    refine XS.isub X73.here hx rfl (hb hby at_146) rfl ?_
    show Steps p.tables e below (T73.setTop (mkF m 147 #[iv p0, iv p1, iv p2, iv p3, iv p4, iv (3:Int32), rv b59, iv p3, iv w0_1, rv cl_77, .unset] [(.int (2:Int32)), (.ref b59)])) _
    refine own_baload X73 hx hZ rfl F82 hbn83 rfl rfl (hb hby at_147) ?_
    show Steps p.tables e below (T73.setTop (mkF m 148 #[iv p0, iv p1, iv p2, iv p3, iv p4, iv (3:Int32), rv b59, iv p3, iv w0_1, rv cl_77, .unset] [(.int ((w0_1.toInt8.toInt32).toInt8.toInt32))])) _
    refine XS.sipush X73.here hx rfl (hb hby at_148) ?_
    show Steps p.tables e below (T73.setTop (mkF m 151 #[iv p0, iv p1, iv p2, iv p3, iv p4, iv (3:Int32), rv b59, iv p3, iv w0_1, rv cl_77, .unset] [(.int (255:Int32)), (.int ((w0_1.toInt8.toInt32).toInt8.toInt32))])) _
    refine XS.iand X73.here hx rfl (hb hby at_151) rfl ?_
    show Steps p.tables e below (T73.setTop (mkF m 152 #[iv p0, iv p1, iv p2, iv p3, iv p4, iv (3:Int32), rv b59, iv p3, iv w0_1, rv cl_77, .unset] [(.int (((w0_1.toInt8.toInt32).toInt8.toInt32) &&& (255:Int32)))])) _
    refine XS.iload X73.here hx rfl (hb hby at_152) rfl ?_
    exact k
  by_cases hs154_2 : (((w0_1.toInt8.toInt32).toInt8.toInt32) &&& (255:Int32)) = w0_1
  · have hbn84 : own_In (2:Int32) [((p1.toInt8.toInt32).toInt8.toInt32), ((p2.toInt8.toInt32).toInt8.toInt32), ((((((w0_1.toInt8.toInt32).toInt8.toInt32) + (1:Int32)).toInt8.toInt32)).toInt8.toInt32)].length := own_lit rfl
    refine own_pre (A := T73.setTop (mkF m 172 #[iv p0, iv p1, iv p2, iv p3, iv p4, iv (3:Int32), rv b59, iv p3, iv w0_1, rv cl_77, .unset] [(.int (w0_1 + (1:Int32))), (.int (((((((w0_1.toInt8.toInt32).toInt8.toInt32) + (1:Int32)).toInt8.toInt32)).toInt8.toInt32) &&& (255:Int32)))])) (fun t k => ?_) ?_
    · show Steps p.tables e below (T73.setTop (mkF m 154 #[iv p0, iv p1, iv p2, iv p3, iv p4, iv (3:Int32), rv b59, iv p3, iv w0_1, rv cl_77, .unset] [(.int w0_1), (.int (((w0_1.toInt8.toInt32).toInt8.toInt32) &&& (255:Int32)))])) _
      refine XS.icmpNo X73.here hx rfl (hb hby at_154) rfl (XT.ii_ne_f hs154_2) ?_
      show Steps p.tables e below (T73.setTop (mkF m 157 #[iv p0, iv p1, iv p2, iv p3, iv p4, iv (3:Int32), rv b59, iv p3, iv w0_1, rv cl_77, .unset] [])) _
      refine XS.aload X73.here hx rfl (hb hby at_157) rfl rfl ?_
      show Steps p.tables e below (T73.setTop (mkF m 159 #[iv p0, iv p1, iv p2, iv p3, iv p4, iv (3:Int32), rv b59, iv p3, iv w0_1, rv cl_77, .unset] [(.ref cl_77)])) _
      refine XS.iload X73.here hx rfl (hb hby at_159) rfl ?_
      show Steps p.tables e below (T73.setTop (mkF m 161 #[iv p0, iv p1, iv p2, iv p3, iv p4, iv (3:Int32), rv b59, iv p3, iv w0_1, rv cl_77, .unset] [(.int (3:Int32)), (.ref cl_77)])) _
      refine XS.iconst X73.here hx rfl (hb hby at_161) ?_
      show Steps p.tables e below (T73.setTop (mkF m 162 #[iv p0, iv p1, iv p2, iv p3, iv p4, iv (3:Int32), rv b59, iv p3, iv w0_1, rv cl_77, .unset] [(.int (1:Int32)), (.int (3:Int32)), (.ref cl_77)])) _
      refine XS.isub X73.here hx rfl (hb hby at_162) rfl ?_
      show Steps p.tables e below (T73.setTop (mkF m 163 #[iv p0, iv p1, iv p2, iv p3, iv p4, iv (3:Int32), rv b59, iv p3, iv w0_1, rv cl_77, .unset] [(.int (2:Int32)), (.ref cl_77)])) _
      refine own_baload X73 hx hZ rfl G79 hbn84 rfl rfl (hb hby at_163) ?_
      show Steps p.tables e below (T73.setTop (mkF m 164 #[iv p0, iv p1, iv p2, iv p3, iv p4, iv (3:Int32), rv b59, iv p3, iv w0_1, rv cl_77, .unset] [(.int ((((((w0_1.toInt8.toInt32).toInt8.toInt32) + (1:Int32)).toInt8.toInt32)).toInt8.toInt32))])) _
      refine XS.sipush X73.here hx rfl (hb hby at_164) ?_
      show Steps p.tables e below (T73.setTop (mkF m 167 #[iv p0, iv p1, iv p2, iv p3, iv p4, iv (3:Int32), rv b59, iv p3, iv w0_1, rv cl_77, .unset] [(.int (255:Int32)), (.int ((((((w0_1.toInt8.toInt32).toInt8.toInt32) + (1:Int32)).toInt8.toInt32)).toInt8.toInt32))])) _
      refine XS.iand X73.here hx rfl (hb hby at_167) rfl ?_
      show Steps p.tables e below (T73.setTop (mkF m 168 #[iv p0, iv p1, iv p2, iv p3, iv p4, iv (3:Int32), rv b59, iv p3, iv w0_1, rv cl_77, .unset] [(.int (((((((w0_1.toInt8.toInt32).toInt8.toInt32) + (1:Int32)).toInt8.toInt32)).toInt8.toInt32) &&& (255:Int32)))])) _
      refine XS.iload X73.here hx rfl (hb hby at_168) rfl ?_
      show Steps p.tables e below (T73.setTop (mkF m 170 #[iv p0, iv p1, iv p2, iv p3, iv p4, iv (3:Int32), rv b59, iv p3, iv w0_1, rv cl_77, .unset] [(.int w0_1), (.int (((((((w0_1.toInt8.toInt32).toInt8.toInt32) + (1:Int32)).toInt8.toInt32)).toInt8.toInt32) &&& (255:Int32)))])) _
      refine XS.iconst X73.here hx rfl (hb hby at_170) ?_
      show Steps p.tables e below (T73.setTop (mkF m 171 #[iv p0, iv p1, iv p2, iv p3, iv p4, iv (3:Int32), rv b59, iv p3, iv w0_1, rv cl_77, .unset] [(.int (1:Int32)), (.int w0_1), (.int (((((((w0_1.toInt8.toInt32).toInt8.toInt32) + (1:Int32)).toInt8.toInt32)).toInt8.toInt32) &&& (255:Int32)))])) _
      refine XS.iadd X73.here hx rfl (hb hby at_171) rfl ?_
      exact k
    obtain ⟨w0_2, hw0_2⟩ : ∃ z : Int32, z = (if (((((((w0_1.toInt8.toInt32).toInt8.toInt32) + (1:Int32)).toInt8.toInt32)).toInt8.toInt32) &&& (255:Int32)) = (w0_1 + (1:Int32)) then (1:Int32) else (0:Int32)) := ⟨_, rfl⟩
    refine own_pre (A := T73.setTop (mkF m 180 #[iv p0, iv p1, iv p2, iv p3, iv p4, iv (3:Int32), rv b59, iv p3, iv w0_1, rv cl_77, .unset] [(.int w0_2)])) (fun t k => ?_) ?_
    · show Steps p.tables e below (T73.setTop (mkF m 172 #[iv p0, iv p1, iv p2, iv p3, iv p4, iv (3:Int32), rv b59, iv p3, iv w0_1, rv cl_77, .unset] [(.int (w0_1 + (1:Int32))), (.int (((((((w0_1.toInt8.toInt32).toInt8.toInt32) + (1:Int32)).toInt8.toInt32)).toInt8.toInt32) &&& (255:Int32)))])) _
      by_cases hm172_3 : (((((((w0_1.toInt8.toInt32).toInt8.toInt32) + (1:Int32)).toInt8.toInt32)).toInt8.toInt32) &&& (255:Int32)) = (w0_1 + (1:Int32))
      · refine XS.icmpNo X73.here hx rfl (hb hby at_172) rfl (XT.ii_ne_f hm172_3) ?_
        show Steps p.tables e below (T73.setTop (mkF m 175 #[iv p0, iv p1, iv p2, iv p3, iv p4, iv (3:Int32), rv b59, iv p3, iv w0_1, rv cl_77, .unset] [])) _
        refine XS.iconst X73.here hx rfl (hb hby at_175) ?_
        show Steps p.tables e below (T73.setTop (mkF m 176 #[iv p0, iv p1, iv p2, iv p3, iv p4, iv (3:Int32), rv b59, iv p3, iv w0_1, rv cl_77, .unset] [(.int (1:Int32))])) _
        refine XS.goto X73.here hx rfl (pc0 := 176) (pc' := 180) rfl (hb hby at_176) (by decide) (by decide) ?_
        rw [hw0_2.trans (if_pos hm172_3)] at k
        exact k
      · refine XS.icmpYes X73.here hx rfl (pc0 := 172) (pc' := 179) rfl (hb hby at_172) rfl (XT.ii_ne_t hm172_3) (by decide) (by decide) ?_
        show Steps p.tables e below (T73.setTop (mkF m 179 #[iv p0, iv p1, iv p2, iv p3, iv p4, iv (3:Int32), rv b59, iv p3, iv w0_1, rv cl_77, .unset] [])) _
        refine XS.iconst X73.here hx rfl (hb hby at_179) ?_
        rw [hw0_2.trans (if_neg hm172_3)] at k
        exact k
    refine own_pre (A := T73.setTop (mkF m 190 #[iv p0, iv p1, iv p2, iv p3, iv p4, iv (3:Int32), rv b59, iv p3, iv w0_1, rv cl_77, iv w0_2] [(.int w0_2)])) (fun t k => ?_) ?_
    · show Steps p.tables e below (T73.setTop (mkF m 180 #[iv p0, iv p1, iv p2, iv p3, iv p4, iv (3:Int32), rv b59, iv p3, iv w0_1, rv cl_77, .unset] [(.int w0_2)])) _
      refine XS.istore X73.here hx rfl (hb hby at_180) rfl (l' := #[iv p0, iv p1, iv p2, iv p3, iv p4, iv (3:Int32), rv b59, iv p3, iv w0_1, rv cl_77, iv w0_2]) rfl ?_
      show Steps p.tables e below (T73.setTop (mkF m 182 #[iv p0, iv p1, iv p2, iv p3, iv p4, iv (3:Int32), rv b59, iv p3, iv w0_1, rv cl_77, iv w0_2] [])) _
      refine XS.iload X73.here hx rfl (hb hby at_182) rfl ?_
      show Steps p.tables e below (T73.setTop (mkF m 184 #[iv p0, iv p1, iv p2, iv p3, iv p4, iv (3:Int32), rv b59, iv p3, iv w0_1, rv cl_77, iv w0_2] [(.int (3:Int32))])) _
      refine XS.iconst X73.here hx rfl (hb hby at_184) ?_
      show Steps p.tables e below (T73.setTop (mkF m 185 #[iv p0, iv p1, iv p2, iv p3, iv p4, iv (3:Int32), rv b59, iv p3, iv w0_1, rv cl_77, iv w0_2] [(.int (1:Int32)), (.int (3:Int32))])) _
      refine XS.icmpNo X73.here hx rfl (hb hby at_185) rfl (XT.ii_le_f (by decide)) ?_
      show Steps p.tables e below (T73.setTop (mkF m 188 #[iv p0, iv p1, iv p2, iv p3, iv p4, iv (3:Int32), rv b59, iv p3, iv w0_1, rv cl_77, iv w0_2] [])) _
      refine XS.iload X73.here hx rfl (hb hby at_188) rfl ?_
      exact k
    by_cases hs190_5 : w0_2 = (0:Int32)
    · refine own_pre (A := T73.setTop (mkF m 334 #[iv p0, iv p1, iv p2, iv p3, iv p4, iv (3:Int32), rv b59, iv p3, iv w0_1, rv cl_77, iv (0:Int32)] [(.int (0:Int32))])) (fun t k => ?_) ?_
      · show Steps p.tables e below (T73.setTop (mkF m 190 #[iv p0, iv p1, iv p2, iv p3, iv p4, iv (3:Int32), rv b59, iv p3, iv w0_1, rv cl_77, iv w0_2] [(.int w0_2)])) _
        refine XS.ifYes X73.here hx rfl (pc0 := 190) (pc' := 229) rfl (hb hby at_190) rfl (XT.i0_eq_t hs190_5) (by decide) (by decide) ?_
        show Steps p.tables e below (T73.setTop (mkF m 229 #[iv p0, iv p1, iv p2, iv p3, iv p4, iv (3:Int32), rv b59, iv p3, iv w0_1, rv cl_77, iv w0_2] [])) _
        refine XS.iconst X73.here hx rfl (hb hby at_229) ?_
        show Steps p.tables e below (T73.setTop (mkF m 230 #[iv p0, iv p1, iv p2, iv p3, iv p4, iv (3:Int32), rv b59, iv p3, iv w0_1, rv cl_77, iv w0_2] [(.int (0:Int32))])) _
        refine XS.istore X73.here hx rfl (hb hby at_230) rfl (l' := #[iv p0, iv p1, iv p2, iv p3, iv p4, iv (3:Int32), rv b59, iv p3, iv w0_1, rv cl_77, iv (0:Int32)]) rfl ?_
        show Steps p.tables e below (T73.setTop (mkF m 232 #[iv p0, iv p1, iv p2, iv p3, iv p4, iv (3:Int32), rv b59, iv p3, iv w0_1, rv cl_77, iv (0:Int32)] [])) _
        refine XS.iload X73.here hx rfl (hb hby at_232) rfl ?_
        show Steps p.tables e below (T73.setTop (mkF m 234 #[iv p0, iv p1, iv p2, iv p3, iv p4, iv (3:Int32), rv b59, iv p3, iv w0_1, rv cl_77, iv (0:Int32)] [(.int (3:Int32))])) _
        refine XS.iconst X73.here hx rfl (hb hby at_234) ?_
        show Steps p.tables e below (T73.setTop (mkF m 235 #[iv p0, iv p1, iv p2, iv p3, iv p4, iv (3:Int32), rv b59, iv p3, iv w0_1, rv cl_77, iv (0:Int32)] [(.int (2:Int32)), (.int (3:Int32))])) _
        refine XS.icmpNo X73.here hx rfl (hb hby at_235) rfl (XT.ii_le_f (by decide)) ?_
        show Steps p.tables e below (T73.setTop (mkF m 238 #[iv p0, iv p1, iv p2, iv p3, iv p4, iv (3:Int32), rv b59, iv p3, iv w0_1, rv cl_77, iv (0:Int32)] [])) _
        refine XS.iload X73.here hx rfl (hb hby at_238) rfl ?_
        show Steps p.tables e below (T73.setTop (mkF m 240 #[iv p0, iv p1, iv p2, iv p3, iv p4, iv (3:Int32), rv b59, iv p3, iv w0_1, rv cl_77, iv (0:Int32)] [(.int (0:Int32))])) _
        refine XS.ifYes X73.here hx rfl (pc0 := 240) (pc' := 279) rfl (hb hby at_240) rfl (XT.i0_eq_t rfl) (by decide) (by decide) ?_
        show Steps p.tables e below (T73.setTop (mkF m 279 #[iv p0, iv p1, iv p2, iv p3, iv p4, iv (3:Int32), rv b59, iv p3, iv w0_1, rv cl_77, iv (0:Int32)] [])) _
        refine XS.iconst X73.here hx rfl (hb hby at_279) ?_
        show Steps p.tables e below (T73.setTop (mkF m 280 #[iv p0, iv p1, iv p2, iv p3, iv p4, iv (3:Int32), rv b59, iv p3, iv w0_1, rv cl_77, iv (0:Int32)] [(.int (0:Int32))])) _
        refine XS.istore X73.here hx rfl (hb hby at_280) rfl (l' := #[iv p0, iv p1, iv p2, iv p3, iv p4, iv (3:Int32), rv b59, iv p3, iv w0_1, rv cl_77, iv (0:Int32)]) rfl ?_
        show Steps p.tables e below (T73.setTop (mkF m 282 #[iv p0, iv p1, iv p2, iv p3, iv p4, iv (3:Int32), rv b59, iv p3, iv w0_1, rv cl_77, iv (0:Int32)] [])) _
        refine XS.iload X73.here hx rfl (hb hby at_282) rfl ?_
        show Steps p.tables e below (T73.setTop (mkF m 284 #[iv p0, iv p1, iv p2, iv p3, iv p4, iv (3:Int32), rv b59, iv p3, iv w0_1, rv cl_77, iv (0:Int32)] [(.int (3:Int32))])) _
        refine XS.iconst X73.here hx rfl (hb hby at_284) ?_
        show Steps p.tables e below (T73.setTop (mkF m 285 #[iv p0, iv p1, iv p2, iv p3, iv p4, iv (3:Int32), rv b59, iv p3, iv w0_1, rv cl_77, iv (0:Int32)] [(.int (3:Int32)), (.int (3:Int32))])) _
        refine XS.icmpYes X73.here hx rfl (pc0 := 285) (pc' := 332) rfl (hb hby at_285) rfl (XT.ii_le_t (by decide)) (by decide) (by decide) ?_
        show Steps p.tables e below (T73.setTop (mkF m 332 #[iv p0, iv p1, iv p2, iv p3, iv p4, iv (3:Int32), rv b59, iv p3, iv w0_1, rv cl_77, iv (0:Int32)] [])) _
        refine XS.iload X73.here hx rfl (hb hby at_332) rfl ?_
        exact k
      have hv85 : (0:Int32) = f0c p0 p1 p2 p3 p4 := by subst hw0_1 hw0_2; simp only [f0c, if_pos hs154_2, if_pos hs190_5]
      exact own_end X73 (BodyLoose.notSynchronized Bd) (fun h => by rw [Bd.returns] at h; cases h) (v := some (.int (0:Int32))) (fun fs hr => retN X73 hx (t := .boolean) Bd.returns (by simp) (hb hby at_334) hr) (by show Q0c Z p0 p1 p2 p3 p4 h0 n0 _ T73.heap _; exact ⟨(congrArg (fun z => some (Value.int z)) hv85), N73⟩) (by decide) (by decide)
    · have hbn86 : own_In (0:Int32) [((p1.toInt8.toInt32).toInt8.toInt32), ((p2.toInt8.toInt32).toInt8.toInt32), ((((((w0_1.toInt8.toInt32).toInt8.toInt32) + (1:Int32)).toInt8.toInt32)).toInt8.toInt32)].length := own_lit rfl
      refine own_pre (A := T73.setTop (mkF m 206 #[iv p0, iv p1, iv p2, iv p3, iv p4, iv (3:Int32), rv b59, iv p3, iv w0_1, rv cl_77, iv w0_2] [(.int (p1 &&& (255:Int32))), (.int (((p1.toInt8.toInt32).toInt8.toInt32) &&& (255:Int32)))])) (fun t k => ?_) ?_
      · show Steps p.tables e below (T73.setTop (mkF m 190 #[iv p0, iv p1, iv p2, iv p3, iv p4, iv (3:Int32), rv b59, iv p3, iv w0_1, rv cl_77, iv w0_2] [(.int w0_2)])) _
        refine XS.ifNo X73.here hx rfl (hb hby at_190) rfl (XT.i0_eq_f hs190_5) ?_
        show Steps p.tables e below (T73.setTop (mkF m 193 #[iv p0, iv p1, iv p2, iv p3, iv p4, iv (3:Int32), rv b59, iv p3, iv w0_1, rv cl_77, iv w0_2] [])) _
        refine XS.aload X73.here hx rfl (hb hby at_193) rfl rfl ?_
        show Steps p.tables e below (T73.setTop (mkF m 195 #[iv p0, iv p1, iv p2, iv p3, iv p4, iv (3:Int32), rv b59, iv p3, iv w0_1, rv cl_77, iv w0_2] [(.ref cl_77)])) _
        refine XS.iconst X73.here hx rfl (hb hby at_195) ?_
        show Steps p.tables e below (T73.setTop (mkF m 196 #[iv p0, iv p1, iv p2, iv p3, iv p4, iv (3:Int32), rv b59, iv p3, iv w0_1, rv cl_77, iv w0_2] [(.int (0:Int32)), (.ref cl_77)])) _
        refine own_baload X73 hx hZ rfl G79 hbn86 rfl rfl (hb hby at_196) ?_
        show Steps p.tables e below (T73.setTop (mkF m 197 #[iv p0, iv p1, iv p2, iv p3, iv p4, iv (3:Int32), rv b59, iv p3, iv w0_1, rv cl_77, iv w0_2] [(.int ((p1.toInt8.toInt32).toInt8.toInt32))])) _
        refine XS.sipush X73.here hx rfl (hb hby at_197) ?_
        show Steps p.tables e below (T73.setTop (mkF m 200 #[iv p0, iv p1, iv p2, iv p3, iv p4, iv (3:Int32), rv b59, iv p3, iv w0_1, rv cl_77, iv w0_2] [(.int (255:Int32)), (.int ((p1.toInt8.toInt32).toInt8.toInt32))])) _
        refine XS.iand X73.here hx rfl (hb hby at_200) rfl ?_
        show Steps p.tables e below (T73.setTop (mkF m 201 #[iv p0, iv p1, iv p2, iv p3, iv p4, iv (3:Int32), rv b59, iv p3, iv w0_1, rv cl_77, iv w0_2] [(.int (((p1.toInt8.toInt32).toInt8.toInt32) &&& (255:Int32)))])) _
        refine XS.iloadN X73.here hx rfl (hb hby at_201) rfl ?_
        show Steps p.tables e below (T73.setTop (mkF m 202 #[iv p0, iv p1, iv p2, iv p3, iv p4, iv (3:Int32), rv b59, iv p3, iv w0_1, rv cl_77, iv w0_2] [(.int p1), (.int (((p1.toInt8.toInt32).toInt8.toInt32) &&& (255:Int32)))])) _
        refine XS.sipush X73.here hx rfl (hb hby at_202) ?_
        show Steps p.tables e below (T73.setTop (mkF m 205 #[iv p0, iv p1, iv p2, iv p3, iv p4, iv (3:Int32), rv b59, iv p3, iv w0_1, rv cl_77, iv w0_2] [(.int (255:Int32)), (.int p1), (.int (((p1.toInt8.toInt32).toInt8.toInt32) &&& (255:Int32)))])) _
        refine XS.iand X73.here hx rfl (hb hby at_205) rfl ?_
        exact k
      by_cases hs206_7 : (((p1.toInt8.toInt32).toInt8.toInt32) &&& (255:Int32)) = (p1 &&& (255:Int32))
      · have hbn87 : own_In (0:Int32) [((p1.toInt8.toInt32).toInt8.toInt32), ((p2.toInt8.toInt32).toInt8.toInt32), ((w0_1.toInt8.toInt32).toInt8.toInt32)].length := own_lit rfl
        have hbn88 : own_In (1:Int32) [((p1.toInt8.toInt32).toInt8.toInt32), ((p2.toInt8.toInt32).toInt8.toInt32), ((((((w0_1.toInt8.toInt32).toInt8.toInt32) + (1:Int32)).toInt8.toInt32)).toInt8.toInt32)].length := own_lit rfl
        refine own_pre (A := T73.setTop (mkF m 256 #[iv p0, iv p1, iv p2, iv p3, iv p4, iv (3:Int32), rv b59, iv p3, iv w0_1, rv cl_77, iv (1:Int32)] [(.int (p2 &&& (255:Int32))), (.int (((p2.toInt8.toInt32).toInt8.toInt32) &&& (255:Int32)))])) (fun t k => ?_) ?_
        · show Steps p.tables e below (T73.setTop (mkF m 206 #[iv p0, iv p1, iv p2, iv p3, iv p4, iv (3:Int32), rv b59, iv p3, iv w0_1, rv cl_77, iv w0_2] [(.int (p1 &&& (255:Int32))), (.int (((p1.toInt8.toInt32).toInt8.toInt32) &&& (255:Int32)))])) _
          refine XS.icmpNo X73.here hx rfl (hb hby at_206) rfl (XT.ii_ne_f hs206_7) ?_
          show Steps p.tables e below (T73.setTop (mkF m 209 #[iv p0, iv p1, iv p2, iv p3, iv p4, iv (3:Int32), rv b59, iv p3, iv w0_1, rv cl_77, iv w0_2] [])) _
          refine XS.aload X73.here hx rfl (hb hby at_209) rfl rfl ?_
          show Steps p.tables e below (T73.setTop (mkF m 211 #[iv p0, iv p1, iv p2, iv p3, iv p4, iv (3:Int32), rv b59, iv p3, iv w0_1, rv cl_77, iv w0_2] [(.ref b59)])) _
          refine XS.iconst X73.here hx rfl (hb hby at_211) ?_
          show Steps p.tables e below (T73.setTop (mkF m 212 #[iv p0, iv p1, iv p2, iv p3, iv p4, iv (3:Int32), rv b59, iv p3, iv w0_1, rv cl_77, iv w0_2] [(.int (0:Int32)), (.ref b59)])) _
          refine own_baload X73 hx hZ rfl F82 hbn87 rfl rfl (hb hby at_212) ?_
          show Steps p.tables e below (T73.setTop (mkF m 213 #[iv p0, iv p1, iv p2, iv p3, iv p4, iv (3:Int32), rv b59, iv p3, iv w0_1, rv cl_77, iv w0_2] [(.int ((p1.toInt8.toInt32).toInt8.toInt32))])) _
          refine XS.sipush X73.here hx rfl (hb hby at_213) ?_
          show Steps p.tables e below (T73.setTop (mkF m 216 #[iv p0, iv p1, iv p2, iv p3, iv p4, iv (3:Int32), rv b59, iv p3, iv w0_1, rv cl_77, iv w0_2] [(.int (255:Int32)), (.int ((p1.toInt8.toInt32).toInt8.toInt32))])) _
          refine XS.iand X73.here hx rfl (hb hby at_216) rfl ?_
          show Steps p.tables e below (T73.setTop (mkF m 217 #[iv p0, iv p1, iv p2, iv p3, iv p4, iv (3:Int32), rv b59, iv p3, iv w0_1, rv cl_77, iv w0_2] [(.int (((p1.toInt8.toInt32).toInt8.toInt32) &&& (255:Int32)))])) _
          refine XS.iloadN X73.here hx rfl (hb hby at_217) rfl ?_
          show Steps p.tables e below (T73.setTop (mkF m 218 #[iv p0, iv p1, iv p2, iv p3, iv p4, iv (3:Int32), rv b59, iv p3, iv w0_1, rv cl_77, iv w0_2] [(.int p1), (.int (((p1.toInt8.toInt32).toInt8.toInt32) &&& (255:Int32)))])) _
          refine XS.sipush X73.here hx rfl (hb hby at_218) ?_
          show Steps p.tables e below (T73.setTop (mkF m 221 #[iv p0, iv p1, iv p2, iv p3, iv p4, iv (3:Int32), rv b59, iv p3, iv w0_1, rv cl_77, iv w0_2] [(.int (255:Int32)), (.int p1), (.int (((p1.toInt8.toInt32).toInt8.toInt32) &&& (255:Int32)))])) _
          refine XS.iand X73.here hx rfl (hb hby at_221) rfl ?_
          show Steps p.tables e below (T73.setTop (mkF m 222 #[iv p0, iv p1, iv p2, iv p3, iv p4, iv (3:Int32), rv b59, iv p3, iv w0_1, rv cl_77, iv w0_2] [(.int (p1 &&& (255:Int32))), (.int (((p1.toInt8.toInt32).toInt8.toInt32) &&& (255:Int32)))])) _
          refine XS.icmpNo X73.here hx rfl (hb hby at_222) rfl (XT.ii_ne_f hs206_7) ?_
          show Steps p.tables e below (T73.setTop (mkF m 225 #[iv p0, iv p1, iv p2, iv p3, iv p4, iv (3:Int32), rv b59, iv p3, iv w0_1, rv cl_77, iv w0_2] [])) _
          refine XS.iconst X73.here hx rfl (hb hby at_225) ?_
          show Steps p.tables e below (T73.setTop (mkF m 226 #[iv p0, iv p1, iv p2, iv p3, iv p4, iv (3:Int32), rv b59, iv p3, iv w0_1, rv cl_77, iv w0_2] [(.int (1:Int32))])) _
          refine XS.goto X73.here hx rfl (pc0 := 226) (pc' := 230) rfl (hb hby at_226) (by decide) (by decide) ?_
          show Steps p.tables e below (T73.setTop (mkF m 230 #[iv p0, iv p1, iv p2, iv p3, iv p4, iv (3:Int32), rv b59, iv p3, iv w0_1, rv cl_77, iv w0_2] [(.int (1:Int32))])) _
          refine XS.istore X73.here hx rfl (hb hby at_230) rfl (l' := #[iv p0, iv p1, iv p2, iv p3, iv p4, iv (3:Int32), rv b59, iv p3, iv w0_1, rv cl_77, iv (1:Int32)]) rfl ?_
          show Steps p.tables e below (T73.setTop (mkF m 232 #[iv p0, iv p1, iv p2, iv p3, iv p4, iv (3:Int32), rv b59, iv p3, iv w0_1, rv cl_77, iv (1:Int32)] [])) _
          refine XS.iload X73.here hx rfl (hb hby at_232) rfl ?_
          show Steps p.tables e below (T73.setTop (mkF m 234 #[iv p0, iv p1, iv p2, iv p3, iv p4, iv (3:Int32), rv b59, iv p3, iv w0_1, rv cl_77, iv (1:Int32)] [(.int (3:Int32))])) _
          refine XS.iconst X73.here hx rfl (hb hby at_234) ?_
          show Steps p.tables e below (T73.setTop (mkF m 235 #[iv p0, iv p1, iv p2, iv p3, iv p4, iv (3:Int32), rv b59, iv p3, iv w0_1, rv cl_77, iv (1:Int32)] [(.int (2:Int32)), (.int (3:Int32))])) _
          refine XS.icmpNo X73.here hx rfl (hb hby at_235) rfl (XT.ii_le_f (by decide)) ?_
          show Steps p.tables e below (T73.setTop (mkF m 238 #[iv p0, iv p1, iv p2, iv p3, iv p4, iv (3:Int32), rv b59, iv p3, iv w0_1, rv cl_77, iv (1:Int32)] [])) _
          refine XS.iload X73.here hx rfl (hb hby at_238) rfl ?_
          show Steps p.tables e below (T73.setTop (mkF m 240 #[iv p0, iv p1, iv p2, iv p3, iv p4, iv (3:Int32), rv b59, iv p3, iv w0_1, rv cl_77, iv (1:Int32)] [(.int (1:Int32))])) _
          refine XS.ifNo X73.here hx rfl (hb hby at_240) rfl (XT.i0_eq_f (by decide)) ?_
          show Steps p.tables e below (T73.setTop (mkF m 243 #[iv p0, iv p1, iv p2, iv p3, iv p4, iv (3:Int32), rv b59, iv p3, iv w0_1, rv cl_77, iv (1:Int32)] [])) _
          refine XS.aload X73.here hx rfl (hb hby at_243) rfl rfl ?_
          show Steps p.tables e below (T73.setTop (mkF m 245 #[iv p0, iv p1, iv p2, iv p3, iv p4, iv (3:Int32), rv b59, iv p3, iv w0_1, rv cl_77, iv (1:Int32)] [(.ref cl_77)])) _
          refine XS.iconst X73.here hx rfl (hb hby at_245) ?_
          show Steps p.tables e below (T73.setTop (mkF m 246 #[iv p0, iv p1, iv p2, iv p3, iv p4, iv (3:Int32), rv b59, iv p3, iv w0_1, rv cl_77, iv (1:Int32)] [(.int (1:Int32)), (.ref cl_77)])) _
          refine own_baload X73 hx hZ rfl G79 hbn88 rfl rfl (hb hby at_246) ?_
          show Steps p.tables e below (T73.setTop (mkF m 247 #[iv p0, iv p1, iv p2, iv p3, iv p4, iv (3:Int32), rv b59, iv p3, iv w0_1, rv cl_77, iv (1:Int32)] [(.int ((p2.toInt8.toInt32).toInt8.toInt32))])) _
          refine XS.sipush X73.here hx rfl (hb hby at_247) ?_
          show Steps p.tables e below (T73.setTop (mkF m 250 #[iv p0, iv p1, iv p2, iv p3, iv p4, iv (3:Int32), rv b59, iv p3, iv w0_1, rv cl_77, iv (1:Int32)] [(.int (255:Int32)), (.int ((p2.toInt8.toInt32).toInt8.toInt32))])) _
          refine XS.iand X73.here hx rfl (hb hby at_250) rfl ?_
          show Steps p.tables e below (T73.setTop (mkF m 251 #[iv p0, iv p1, iv p2, iv p3, iv p4, iv (3:Int32), rv b59, iv p3, iv w0_1, rv cl_77, iv (1:Int32)] [(.int (((p2.toInt8.toInt32).toInt8.toInt32) &&& (255:Int32)))])) _
          refine XS.iloadN X73.here hx rfl (hb hby at_251) rfl ?_
          show Steps p.tables e below (T73.setTop (mkF m 252 #[iv p0, iv p1, iv p2, iv p3, iv p4, iv (3:Int32), rv b59, iv p3, iv w0_1, rv cl_77, iv (1:Int32)] [(.int p2), (.int (((p2.toInt8.toInt32).toInt8.toInt32) &&& (255:Int32)))])) _
          refine XS.sipush X73.here hx rfl (hb hby at_252) ?_
          show Steps p.tables e below (T73.setTop (mkF m 255 #[iv p0, iv p1, iv p2, iv p3, iv p4, iv (3:Int32), rv b59, iv p3, iv w0_1, rv cl_77, iv (1:Int32)] [(.int (255:Int32)), (.int p2), (.int (((p2.toInt8.toInt32).toInt8.toInt32) &&& (255:Int32)))])) _
          refine XS.iand X73.here hx rfl (hb hby at_255) rfl ?_
          exact k
        by_cases hs256_9 : (((p2.toInt8.toInt32).toInt8.toInt32) &&& (255:Int32)) = (p2 &&& (255:Int32))
        · have hbn89 : own_In (1:Int32) [((p1.toInt8.toInt32).toInt8.toInt32), ((p2.toInt8.toInt32).toInt8.toInt32), ((w0_1.toInt8.toInt32).toInt8.toInt32)].length := own_lit rfl
          refine own_pre (A := T73.setTop (mkF m 334 #[iv p0, iv p1, iv p2, iv p3, iv p4, iv (3:Int32), rv b59, iv p3, iv w0_1, rv cl_77, iv (1:Int32)] [(.int (1:Int32))])) (fun t k => ?_) ?_
          · show Steps p.tables e below (T73.setTop (mkF m 256 #[iv p0, iv p1, iv p2, iv p3, iv p4, iv (3:Int32), rv b59, iv p3, iv w0_1, rv cl_77, iv (1:Int32)] [(.int (p2 &&& (255:Int32))), (.int (((p2.toInt8.toInt32).toInt8.toInt32) &&& (255:Int32)))])) _
            refine XS.icmpNo X73.here hx rfl (hb hby at_256) rfl (XT.ii_ne_f hs256_9) ?_
            show Steps p.tables e below (T73.setTop (mkF m 259 #[iv p0, iv p1, iv p2, iv p3, iv p4, iv (3:Int32), rv b59, iv p3, iv w0_1, rv cl_77, iv (1:Int32)] [])) _
            refine XS.aload X73.here hx rfl (hb hby at_259) rfl rfl ?_
            show Steps p.tables e below (T73.setTop (mkF m 261 #[iv p0, iv p1, iv p2, iv p3, iv p4, iv (3:Int32), rv b59, iv p3, iv w0_1, rv cl_77, iv (1:Int32)] [(.ref b59)])) _
            refine XS.iconst X73.here hx rfl (hb hby at_261) ?_
            show Steps p.tables e below (T73.setTop (mkF m 262 #[iv p0, iv p1, iv p2, iv p3, iv p4, iv (3:Int32), rv b59, iv p3, iv w0_1, rv cl_77, iv (1:Int32)] [(.int (1:Int32)), (.ref b59)])) _
            refine own_baload X73 hx hZ rfl F82 hbn89 rfl rfl (hb hby at_262) ?_
            show Steps p.tables e below (T73.setTop (mkF m 263 #[iv p0, iv p1, iv p2, iv p3, iv p4, iv (3:Int32), rv b59, iv p3, iv w0_1, rv cl_77, iv (1:Int32)] [(.int ((p2.toInt8.toInt32).toInt8.toInt32))])) _
            refine XS.sipush X73.here hx rfl (hb hby at_263) ?_
            show Steps p.tables e below (T73.setTop (mkF m 266 #[iv p0, iv p1, iv p2, iv p3, iv p4, iv (3:Int32), rv b59, iv p3, iv w0_1, rv cl_77, iv (1:Int32)] [(.int (255:Int32)), (.int ((p2.toInt8.toInt32).toInt8.toInt32))])) _
            refine XS.iand X73.here hx rfl (hb hby at_266) rfl ?_
            show Steps p.tables e below (T73.setTop (mkF m 267 #[iv p0, iv p1, iv p2, iv p3, iv p4, iv (3:Int32), rv b59, iv p3, iv w0_1, rv cl_77, iv (1:Int32)] [(.int (((p2.toInt8.toInt32).toInt8.toInt32) &&& (255:Int32)))])) _
            refine XS.iloadN X73.here hx rfl (hb hby at_267) rfl ?_
            show Steps p.tables e below (T73.setTop (mkF m 268 #[iv p0, iv p1, iv p2, iv p3, iv p4, iv (3:Int32), rv b59, iv p3, iv w0_1, rv cl_77, iv (1:Int32)] [(.int p2), (.int (((p2.toInt8.toInt32).toInt8.toInt32) &&& (255:Int32)))])) _
            refine XS.sipush X73.here hx rfl (hb hby at_268) ?_
            show Steps p.tables e below (T73.setTop (mkF m 271 #[iv p0, iv p1, iv p2, iv p3, iv p4, iv (3:Int32), rv b59, iv p3, iv w0_1, rv cl_77, iv (1:Int32)] [(.int (255:Int32)), (.int p2), (.int (((p2.toInt8.toInt32).toInt8.toInt32) &&& (255:Int32)))])) _
            refine XS.iand X73.here hx rfl (hb hby at_271) rfl ?_
            show Steps p.tables e below (T73.setTop (mkF m 272 #[iv p0, iv p1, iv p2, iv p3, iv p4, iv (3:Int32), rv b59, iv p3, iv w0_1, rv cl_77, iv (1:Int32)] [(.int (p2 &&& (255:Int32))), (.int (((p2.toInt8.toInt32).toInt8.toInt32) &&& (255:Int32)))])) _
            refine XS.icmpNo X73.here hx rfl (hb hby at_272) rfl (XT.ii_ne_f hs256_9) ?_
            show Steps p.tables e below (T73.setTop (mkF m 275 #[iv p0, iv p1, iv p2, iv p3, iv p4, iv (3:Int32), rv b59, iv p3, iv w0_1, rv cl_77, iv (1:Int32)] [])) _
            refine XS.iconst X73.here hx rfl (hb hby at_275) ?_
            show Steps p.tables e below (T73.setTop (mkF m 276 #[iv p0, iv p1, iv p2, iv p3, iv p4, iv (3:Int32), rv b59, iv p3, iv w0_1, rv cl_77, iv (1:Int32)] [(.int (1:Int32))])) _
            refine XS.goto X73.here hx rfl (pc0 := 276) (pc' := 280) rfl (hb hby at_276) (by decide) (by decide) ?_
            show Steps p.tables e below (T73.setTop (mkF m 280 #[iv p0, iv p1, iv p2, iv p3, iv p4, iv (3:Int32), rv b59, iv p3, iv w0_1, rv cl_77, iv (1:Int32)] [(.int (1:Int32))])) _
            refine XS.istore X73.here hx rfl (hb hby at_280) rfl (l' := #[iv p0, iv p1, iv p2, iv p3, iv p4, iv (3:Int32), rv b59, iv p3, iv w0_1, rv cl_77, iv (1:Int32)]) rfl ?_
            show Steps p.tables e below (T73.setTop (mkF m 282 #[iv p0, iv p1, iv p2, iv p3, iv p4, iv (3:Int32), rv b59, iv p3, iv w0_1, rv cl_77, iv (1:Int32)] [])) _
            refine XS.iload X73.here hx rfl (hb hby at_282) rfl ?_
            show Steps p.tables e below (T73.setTop (mkF m 284 #[iv p0, iv p1, iv p2, iv p3, iv p4, iv (3:Int32), rv b59, iv p3, iv w0_1, rv cl_77, iv (1:Int32)] [(.int (3:Int32))])) _
            refine XS.iconst X73.here hx rfl (hb hby at_284) ?_
            show Steps p.tables e below (T73.setTop (mkF m 285 #[iv p0, iv p1, iv p2, iv p3, iv p4, iv (3:Int32), rv b59, iv p3, iv w0_1, rv cl_77, iv (1:Int32)] [(.int (3:Int32)), (.int (3:Int32))])) _
            refine XS.icmpYes X73.here hx rfl (pc0 := 285) (pc' := 332) rfl (hb hby at_285) rfl (XT.ii_le_t (by decide)) (by decide) (by decide) ?_
            show Steps p.tables e below (T73.setTop (mkF m 332 #[iv p0, iv p1, iv p2, iv p3, iv p4, iv (3:Int32), rv b59, iv p3, iv w0_1, rv cl_77, iv (1:Int32)] [])) _
            refine XS.iload X73.here hx rfl (hb hby at_332) rfl ?_
            exact k
          have hv90 : (1:Int32) = f0c p0 p1 p2 p3 p4 := by subst hw0_1 hw0_2; simp only [f0c, if_pos hs154_2, if_neg hs190_5, if_pos hs206_7, if_pos hs256_9]
          exact own_end X73 (BodyLoose.notSynchronized Bd) (fun h => by rw [Bd.returns] at h; cases h) (v := some (.int (1:Int32))) (fun fs hr => retN X73 hx (t := .boolean) Bd.returns (by simp) (hb hby at_334) hr) (by show Q0c Z p0 p1 p2 p3 p4 h0 n0 _ T73.heap _; exact ⟨(congrArg (fun z => some (Value.int z)) hv90), N73⟩) (by decide) (by decide)
        · refine own_pre (A := T73.setTop (mkF m 334 #[iv p0, iv p1, iv p2, iv p3, iv p4, iv (3:Int32), rv b59, iv p3, iv w0_1, rv cl_77, iv (0:Int32)] [(.int (0:Int32))])) (fun t k => ?_) ?_
          · show Steps p.tables e below (T73.setTop (mkF m 256 #[iv p0, iv p1, iv p2, iv p3, iv p4, iv (3:Int32), rv b59, iv p3, iv w0_1, rv cl_77, iv (1:Int32)] [(.int (p2 &&& (255:Int32))), (.int (((p2.toInt8.toInt32).toInt8.toInt32) &&& (255:Int32)))])) _
            refine XS.icmpYes X73.here hx rfl (pc0 := 256) (pc' := 279) rfl (hb hby at_256) rfl (XT.ii_ne_t hs256_9) (by decide) (by decide) ?_
            show Steps p.tables e below (T73.setTop (mkF m 279 #[iv p0, iv p1, iv p2, iv p3, iv p4, iv (3:Int32), rv b59, iv p3, iv w0_1, rv cl_77, iv (1:Int32)] [])) _
            refine XS.iconst X73.here hx rfl (hb hby at_279) ?_
            show Steps p.tables e below (T73.setTop (mkF m 280 #[iv p0, iv p1, iv p2, iv p3, iv p4, iv (3:Int32), rv b59, iv p3, iv w0_1, rv cl_77, iv (1:Int32)] [(.int (0:Int32))])) _
            refine XS.istore X73.here hx rfl (hb hby at_280) rfl (l' := #[iv p0, iv p1, iv p2, iv p3, iv p4, iv (3:Int32), rv b59, iv p3, iv w0_1, rv cl_77, iv (0:Int32)]) rfl ?_
            show Steps p.tables e below (T73.setTop (mkF m 282 #[iv p0, iv p1, iv p2, iv p3, iv p4, iv (3:Int32), rv b59, iv p3, iv w0_1, rv cl_77, iv (0:Int32)] [])) _
            refine XS.iload X73.here hx rfl (hb hby at_282) rfl ?_
            show Steps p.tables e below (T73.setTop (mkF m 284 #[iv p0, iv p1, iv p2, iv p3, iv p4, iv (3:Int32), rv b59, iv p3, iv w0_1, rv cl_77, iv (0:Int32)] [(.int (3:Int32))])) _
            refine XS.iconst X73.here hx rfl (hb hby at_284) ?_
            show Steps p.tables e below (T73.setTop (mkF m 285 #[iv p0, iv p1, iv p2, iv p3, iv p4, iv (3:Int32), rv b59, iv p3, iv w0_1, rv cl_77, iv (0:Int32)] [(.int (3:Int32)), (.int (3:Int32))])) _
            refine XS.icmpYes X73.here hx rfl (pc0 := 285) (pc' := 332) rfl (hb hby at_285) rfl (XT.ii_le_t (by decide)) (by decide) (by decide) ?_
            show Steps p.tables e below (T73.setTop (mkF m 332 #[iv p0, iv p1, iv p2, iv p3, iv p4, iv (3:Int32), rv b59, iv p3, iv w0_1, rv cl_77, iv (0:Int32)] [])) _
            refine XS.iload X73.here hx rfl (hb hby at_332) rfl ?_
            exact k
          have hv91 : (0:Int32) = f0c p0 p1 p2 p3 p4 := by subst hw0_1 hw0_2; simp only [f0c, if_pos hs154_2, if_neg hs190_5, if_pos hs206_7, if_neg hs256_9]
          exact own_end X73 (BodyLoose.notSynchronized Bd) (fun h => by rw [Bd.returns] at h; cases h) (v := some (.int (0:Int32))) (fun fs hr => retN X73 hx (t := .boolean) Bd.returns (by simp) (hb hby at_334) hr) (by show Q0c Z p0 p1 p2 p3 p4 h0 n0 _ T73.heap _; exact ⟨(congrArg (fun z => some (Value.int z)) hv91), N73⟩) (by decide) (by decide)
      · refine own_pre (A := T73.setTop (mkF m 334 #[iv p0, iv p1, iv p2, iv p3, iv p4, iv (3:Int32), rv b59, iv p3, iv w0_1, rv cl_77, iv (0:Int32)] [(.int (0:Int32))])) (fun t k => ?_) ?_
        · show Steps p.tables e below (T73.setTop (mkF m 206 #[iv p0, iv p1, iv p2, iv p3, iv p4, iv (3:Int32), rv b59, iv p3, iv w0_1, rv cl_77, iv w0_2] [(.int (p1 &&& (255:Int32))), (.int (((p1.toInt8.toInt32).toInt8.toInt32) &&& (255:Int32)))])) _
          refine XS.icmpYes X73.here hx rfl (pc0 := 206) (pc' := 229) rfl (hb hby at_206) rfl (XT.ii_ne_t hs206_7) (by decide) (by decide) ?_
          show Steps p.tables e below (T73.setTop (mkF m 229 #[iv p0, iv p1, iv p2, iv p3, iv p4, iv (3:Int32), rv b59, iv p3, iv w0_1, rv cl_77, iv w0_2] [])) _
          refine XS.iconst X73.here hx rfl (hb hby at_229) ?_
          show Steps p.tables e below (T73.setTop (mkF m 230 #[iv p0, iv p1, iv p2, iv p3, iv p4, iv (3:Int32), rv b59, iv p3, iv w0_1, rv cl_77, iv w0_2] [(.int (0:Int32))])) _
          refine XS.istore X73.here hx rfl (hb hby at_230) rfl (l' := #[iv p0, iv p1, iv p2, iv p3, iv p4, iv (3:Int32), rv b59, iv p3, iv w0_1, rv cl_77, iv (0:Int32)]) rfl ?_
          show Steps p.tables e below (T73.setTop (mkF m 232 #[iv p0, iv p1, iv p2, iv p3, iv p4, iv (3:Int32), rv b59, iv p3, iv w0_1, rv cl_77, iv (0:Int32)] [])) _
          refine XS.iload X73.here hx rfl (hb hby at_232) rfl ?_
          show Steps p.tables e below (T73.setTop (mkF m 234 #[iv p0, iv p1, iv p2, iv p3, iv p4, iv (3:Int32), rv b59, iv p3, iv w0_1, rv cl_77, iv (0:Int32)] [(.int (3:Int32))])) _
          refine XS.iconst X73.here hx rfl (hb hby at_234) ?_
          show Steps p.tables e below (T73.setTop (mkF m 235 #[iv p0, iv p1, iv p2, iv p3, iv p4, iv (3:Int32), rv b59, iv p3, iv w0_1, rv cl_77, iv (0:Int32)] [(.int (2:Int32)), (.int (3:Int32))])) _
          refine XS.icmpNo X73.here hx rfl (hb hby at_235) rfl (XT.ii_le_f (by decide)) ?_
          show Steps p.tables e below (T73.setTop (mkF m 238 #[iv p0, iv p1, iv p2, iv p3, iv p4, iv (3:Int32), rv b59, iv p3, iv w0_1, rv cl_77, iv (0:Int32)] [])) _
          refine XS.iload X73.here hx rfl (hb hby at_238) rfl ?_
          show Steps p.tables e below (T73.setTop (mkF m 240 #[iv p0, iv p1, iv p2, iv p3, iv p4, iv (3:Int32), rv b59, iv p3, iv w0_1, rv cl_77, iv (0:Int32)] [(.int (0:Int32))])) _
          refine XS.ifYes X73.here hx rfl (pc0 := 240) (pc' := 279) rfl (hb hby at_240) rfl (XT.i0_eq_t rfl) (by decide) (by decide) ?_
          show Steps p.tables e below (T73.setTop (mkF m 279 #[iv p0, iv p1, iv p2, iv p3, iv p4, iv (3:Int32), rv b59, iv p3, iv w0_1, rv cl_77, iv (0:Int32)] [])) _
          refine XS.iconst X73.here hx rfl (hb hby at_279) ?_
          show Steps p.tables e below (T73.setTop (mkF m 280 #[iv p0, iv p1, iv p2, iv p3, iv p4, iv (3:Int32), rv b59, iv p3, iv w0_1, rv cl_77, iv (0:Int32)] [(.int (0:Int32))])) _
          refine XS.istore X73.here hx rfl (hb hby at_280) rfl (l' := #[iv p0, iv p1, iv p2, iv p3, iv p4, iv (3:Int32), rv b59, iv p3, iv w0_1, rv cl_77, iv (0:Int32)]) rfl ?_
          show Steps p.tables e below (T73.setTop (mkF m 282 #[iv p0, iv p1, iv p2, iv p3, iv p4, iv (3:Int32), rv b59, iv p3, iv w0_1, rv cl_77, iv (0:Int32)] [])) _
          refine XS.iload X73.here hx rfl (hb hby at_282) rfl ?_
          show Steps p.tables e below (T73.setTop (mkF m 284 #[iv p0, iv p1, iv p2, iv p3, iv p4, iv (3:Int32), rv b59, iv p3, iv w0_1, rv cl_77, iv (0:Int32)] [(.int (3:Int32))])) _
          refine XS.iconst X73.here hx rfl (hb hby at_284) ?_
          show Steps p.tables e below (T73.setTop (mkF m 285 #[iv p0, iv p1, iv p2, iv p3, iv p4, iv (3:Int32), rv b59, iv p3, iv w0_1, rv cl_77, iv (0:Int32)] [(.int (3:Int32)), (.int (3:Int32))])) _
          refine XS.icmpYes X73.here hx rfl (pc0 := 285) (pc' := 332) rfl (hb hby at_285) rfl (XT.ii_le_t (by decide)) (by decide) (by decide) ?_
          show Steps p.tables e below (T73.setTop (mkF m 332 #[iv p0, iv p1, iv p2, iv p3, iv p4, iv (3:Int32), rv b59, iv p3, iv w0_1, rv cl_77, iv (0:Int32)] [])) _
          refine XS.iload X73.here hx rfl (hb hby at_332) rfl ?_
          exact k
        have hv92 : (0:Int32) = f0c p0 p1 p2 p3 p4 := by subst hw0_1 hw0_2; simp only [f0c, if_pos hs154_2, if_neg hs190_5, if_neg hs206_7]
        exact own_end X73 (BodyLoose.notSynchronized Bd) (fun h => by rw [Bd.returns] at h; cases h) (v := some (.int (0:Int32))) (fun fs hr => retN X73 hx (t := .boolean) Bd.returns (by simp) (hb hby at_334) hr) (by show Q0c Z p0 p1 p2 p3 p4 h0 n0 _ T73.heap _; exact ⟨(congrArg (fun z => some (Value.int z)) hv92), N73⟩) (by decide) (by decide)
  · refine own_pre (A := T73.setTop (mkF m 334 #[iv p0, iv p1, iv p2, iv p3, iv p4, iv (3:Int32), rv b59, iv p3, iv w0_1, rv cl_77, iv (0:Int32)] [(.int (0:Int32))])) (fun t k => ?_) ?_
    · show Steps p.tables e below (T73.setTop (mkF m 154 #[iv p0, iv p1, iv p2, iv p3, iv p4, iv (3:Int32), rv b59, iv p3, iv w0_1, rv cl_77, .unset] [(.int w0_1), (.int (((w0_1.toInt8.toInt32).toInt8.toInt32) &&& (255:Int32)))])) _
      refine XS.icmpYes X73.here hx rfl (pc0 := 154) (pc' := 179) rfl (hb hby at_154) rfl (XT.ii_ne_t hs154_2) (by decide) (by decide) ?_
      show Steps p.tables e below (T73.setTop (mkF m 179 #[iv p0, iv p1, iv p2, iv p3, iv p4, iv (3:Int32), rv b59, iv p3, iv w0_1, rv cl_77, .unset] [])) _
      refine XS.iconst X73.here hx rfl (hb hby at_179) ?_
      show Steps p.tables e below (T73.setTop (mkF m 180 #[iv p0, iv p1, iv p2, iv p3, iv p4, iv (3:Int32), rv b59, iv p3, iv w0_1, rv cl_77, .unset] [(.int (0:Int32))])) _
      refine XS.istore X73.here hx rfl (hb hby at_180) rfl (l' := #[iv p0, iv p1, iv p2, iv p3, iv p4, iv (3:Int32), rv b59, iv p3, iv w0_1, rv cl_77, iv (0:Int32)]) rfl ?_
      show Steps p.tables e below (T73.setTop (mkF m 182 #[iv p0, iv p1, iv p2, iv p3, iv p4, iv (3:Int32), rv b59, iv p3, iv w0_1, rv cl_77, iv (0:Int32)] [])) _
      refine XS.iload X73.here hx rfl (hb hby at_182) rfl ?_
      show Steps p.tables e below (T73.setTop (mkF m 184 #[iv p0, iv p1, iv p2, iv p3, iv p4, iv (3:Int32), rv b59, iv p3, iv w0_1, rv cl_77, iv (0:Int32)] [(.int (3:Int32))])) _
      refine XS.iconst X73.here hx rfl (hb hby at_184) ?_
      show Steps p.tables e below (T73.setTop (mkF m 185 #[iv p0, iv p1, iv p2, iv p3, iv p4, iv (3:Int32), rv b59, iv p3, iv w0_1, rv cl_77, iv (0:Int32)] [(.int (1:Int32)), (.int (3:Int32))])) _
      refine XS.icmpNo X73.here hx rfl (hb hby at_185) rfl (XT.ii_le_f (by decide)) ?_
      show Steps p.tables e below (T73.setTop (mkF m 188 #[iv p0, iv p1, iv p2, iv p3, iv p4, iv (3:Int32), rv b59, iv p3, iv w0_1, rv cl_77, iv (0:Int32)] [])) _
      refine XS.iload X73.here hx rfl (hb hby at_188) rfl ?_
      show Steps p.tables e below (T73.setTop (mkF m 190 #[iv p0, iv p1, iv p2, iv p3, iv p4, iv (3:Int32), rv b59, iv p3, iv w0_1, rv cl_77, iv (0:Int32)] [(.int (0:Int32))])) _
      refine XS.ifYes X73.here hx rfl (pc0 := 190) (pc' := 229) rfl (hb hby at_190) rfl (XT.i0_eq_t rfl) (by decide) (by decide) ?_
      show Steps p.tables e below (T73.setTop (mkF m 229 #[iv p0, iv p1, iv p2, iv p3, iv p4, iv (3:Int32), rv b59, iv p3, iv w0_1, rv cl_77, iv (0:Int32)] [])) _
      refine XS.iconst X73.here hx rfl (hb hby at_229) ?_
      show Steps p.tables e below (T73.setTop (mkF m 230 #[iv p0, iv p1, iv p2, iv p3, iv p4, iv (3:Int32), rv b59, iv p3, iv w0_1, rv cl_77, iv (0:Int32)] [(.int (0:Int32))])) _
      refine XS.istore X73.here hx rfl (hb hby at_230) rfl (l' := #[iv p0, iv p1, iv p2, iv p3, iv p4, iv (3:Int32), rv b59, iv p3, iv w0_1, rv cl_77, iv (0:Int32)]) rfl ?_
      show Steps p.tables e below (T73.setTop (mkF m 232 #[iv p0, iv p1, iv p2, iv p3, iv p4, iv (3:Int32), rv b59, iv p3, iv w0_1, rv cl_77, iv (0:Int32)] [])) _
      refine XS.iload X73.here hx rfl (hb hby at_232) rfl ?_
      show Steps p.tables e below (T73.setTop (mkF m 234 #[iv p0, iv p1, iv p2, iv p3, iv p4, iv (3:Int32), rv b59, iv p3, iv w0_1, rv cl_77, iv (0:Int32)] [(.int (3:Int32))])) _
      refine XS.iconst X73.here hx rfl (hb hby at_234) ?_
      show Steps p.tables e below (T73.setTop (mkF m 235 #[iv p0, iv p1, iv p2, iv p3, iv p4, iv (3:Int32), rv b59, iv p3, iv w0_1, rv cl_77, iv (0:Int32)] [(.int (2:Int32)), (.int (3:Int32))])) _
      refine XS.icmpNo X73.here hx rfl (hb hby at_235) rfl (XT.ii_le_f (by decide)) ?_
      show Steps p.tables e below (T73.setTop (mkF m 238 #[iv p0, iv p1, iv p2, iv p3, iv p4, iv (3:Int32), rv b59, iv p3, iv w0_1, rv cl_77, iv (0:Int32)] [])) _
      refine XS.iload X73.here hx rfl (hb hby at_238) rfl ?_
      show Steps p.tables e below (T73.setTop (mkF m 240 #[iv p0, iv p1, iv p2, iv p3, iv p4, iv (3:Int32), rv b59, iv p3, iv w0_1, rv cl_77, iv (0:Int32)] [(.int (0:Int32))])) _
      refine XS.ifYes X73.here hx rfl (pc0 := 240) (pc' := 279) rfl (hb hby at_240) rfl (XT.i0_eq_t rfl) (by decide) (by decide) ?_
      show Steps p.tables e below (T73.setTop (mkF m 279 #[iv p0, iv p1, iv p2, iv p3, iv p4, iv (3:Int32), rv b59, iv p3, iv w0_1, rv cl_77, iv (0:Int32)] [])) _
      refine XS.iconst X73.here hx rfl (hb hby at_279) ?_
      show Steps p.tables e below (T73.setTop (mkF m 280 #[iv p0, iv p1, iv p2, iv p3, iv p4, iv (3:Int32), rv b59, iv p3, iv w0_1, rv cl_77, iv (0:Int32)] [(.int (0:Int32))])) _
      refine XS.istore X73.here hx rfl (hb hby at_280) rfl (l' := #[iv p0, iv p1, iv p2, iv p3, iv p4, iv (3:Int32), rv b59, iv p3, iv w0_1, rv cl_77, iv (0:Int32)]) rfl ?_
      show Steps p.tables e below (T73.setTop (mkF m 282 #[iv p0, iv p1, iv p2, iv p3, iv p4, iv (3:Int32), rv b59, iv p3, iv w0_1, rv cl_77, iv (0:Int32)] [])) _
      refine XS.iload X73.here hx rfl (hb hby at_282) rfl ?_
      show Steps p.tables e below (T73.setTop (mkF m 284 #[iv p0, iv p1, iv p2, iv p3, iv p4, iv (3:Int32), rv b59, iv p3, iv w0_1, rv cl_77, iv (0:Int32)] [(.int (3:Int32))])) _
      refine XS.iconst X73.here hx rfl (hb hby at_284) ?_
      show Steps p.tables e below (T73.setTop (mkF m 285 #[iv p0, iv p1, iv p2, iv p3, iv p4, iv (3:Int32), rv b59, iv p3, iv w0_1, rv cl_77, iv (0:Int32)] [(.int (3:Int32)), (.int (3:Int32))])) _
      refine XS.icmpYes X73.here hx rfl (pc0 := 285) (pc' := 332) rfl (hb hby at_285) rfl (XT.ii_le_t (by decide)) (by decide) (by decide) ?_
      show Steps p.tables e below (T73.setTop (mkF m 332 #[iv p0, iv p1, iv p2, iv p3, iv p4, iv (3:Int32), rv b59, iv p3, iv w0_1, rv cl_77, iv (0:Int32)] [])) _
      refine XS.iload X73.here hx rfl (hb hby at_332) rfl ?_
      exact k
    have hv93 : (0:Int32) = f0c p0 p1 p2 p3 p4 := by subst hw0_1; simp only [f0c, if_neg hs154_2]
    exact own_end X73 (BodyLoose.notSynchronized Bd) (fun h => by rw [Bd.returns] at h; cases h) (v := some (.int (0:Int32))) (fun fs hr => retN X73 hx (t := .boolean) Bd.returns (by simp) (hb hby at_334) hr) (by show Q0c Z p0 p1 p2 p3 p4 h0 n0 _ T73.heap _; exact ⟨(congrArg (fun z => some (Value.int z)) hv93), N73⟩) (by decide) (by decide)
theorem ef0d (m : MethodId) (p0 : Int32) (p1 : Int32) (p2 : Int32) (p3 : Int32) (p4 : Int32) : entryFrame m #[(.int p0), (.int p1), (.int p2), (.int p3), (.int p4)] maxLocals = mkF m 0 #[iv p0, iv p1, iv p2, iv p3, iv p4, .unset, .unset, .unset, .unset, .unset, .unset] [] := by first | (simp [entryFrame, mkF, argsToLocals, Value.category, maxLocals]; done) | rfl
def f0d (p0 : Int32) (p1 : Int32) (p2 : Int32) (p3 : Int32) (p4 : Int32) : Int32 := (let w0_1 : Int32 := ((p4 &&& (255:Int32)) % (255:Int32)); (if (((w0_1.toInt8.toInt32).toInt8.toInt32) &&& (255:Int32)) = w0_1 then (let w0_2 : Int32 := (if (((((((w0_1.toInt8.toInt32).toInt8.toInt32) + (1:Int32)).toInt8.toInt32)).toInt8.toInt32) &&& (255:Int32)) = (w0_1 + (1:Int32)) then (1:Int32) else (0:Int32)); (if w0_2 = (0:Int32) then (0:Int32) else (if (((p1.toInt8.toInt32).toInt8.toInt32) &&& (255:Int32)) = (p1 &&& (255:Int32)) then (if (((p2.toInt8.toInt32).toInt8.toInt32) &&& (255:Int32)) = (p2 &&& (255:Int32)) then (if (((p3.toInt8.toInt32).toInt8.toInt32) &&& (255:Int32)) = (p3 &&& (255:Int32)) then (1:Int32) else (0:Int32)) else (0:Int32)) else (0:Int32)))) else (0:Int32)))
def Q0d (Z : State) (p0 : Int32) (p1 : Int32) (p2 : Int32) (p3 : Int32) (p4 : Int32)  (h0 : Heap) (n0 : Nat) (v : Option Value) (h : Heap) (L : List Loc) : Prop := v = some (.int (f0d p0 p1 p2 p3 p4)) ∧ Fr n0 L
set_option maxRecDepth 65536 in
set_option maxHeartbeats 40000000 in
theorem rm0d (l : Launch) (Z : State) (aZ : Array Value) (hw : ∀ d ∈ tables_1, d.before aZ Z = true) (ws : List Jvm.Cond) (p0 : Int32) (p1 : Int32) (p2 : Int32) (p3 : Int32) (p4 : Int32)  (h0 : Heap) (n0 : Nat) (Z0 : n0 ≤ h0.size) (hlen : ((p0 &&& (3:Int32)) + (1:Int32)) = (4:Int32)) :
    MetFree l x (head1 (Jvm.Cond.code x code maxLocals ret :: ws) room_1) (fun a U => a = #[(.int p0), (.int p1), (.int p2), (.int p3), (.int p4)] ∧ Z.Warmed39 U.vm ∧ U.heap = h0) (fun _ _ _ _ _ => True) (fun _ U o U' => ∃ v L, o = .returned v ∧ Q0d Z p0 p1 p2 p3 p4 h0 n0 v U'.heap L ∧ FrameEnd U o U' L 2 8) := by
  refine MetFree.of_bodySF (plainFor_of_name own_pn1) hisR ?_
  intro p e s m args below meth c s₁ Bd hml0 hP hK
  obtain ⟨rfl, hZ, hh⟩ := hP
  have hx := Bd.exec
  have hby := Bd.bytes
  have hml : c.maxLocals = 11 := hml0
  have hown : s.vm.findClass "com/example/lexrow/lexrow/storage/CellKeysPrefixEndPinLaw" = some m.cls := findClass_of_methodNamed Bd.named
  have hnm := (name_of_methodNamed Bd.named Bd.method).1
  have X0 : Stand p l e room_1 s m #[(.int p0), (.int p1), (.int p2), (.int p3), (.int p4)] below meth c s₁ [] 0 0 := Stand.of_body Bd
  have e0 : s₁.heap = h0 := by rw [← hh, Bd.state]; rfl
  have N0 := Fr.nil n0
  show own_Goes p e below s (Q0d Z p0 p1 p2 p3 p4 h0 n0) 2 8 _
  refine own_pre (fun t k => castTop (ef0d m p0 p1 p2 p3 p4) k) ?_
  refine own_pre (A := s₁.setTop (mkF m 9 #[iv p0, iv p1, iv p2, iv p3, iv p4, iv (4:Int32), .unset, .unset, .unset, .unset, .unset] [(.int (4:Int32))])) (fun t k => ?_) ?_
  · show Steps p.tables e below (s₁.setTop (mkF m 0 #[iv p0, iv p1, iv p2, iv p3, iv p4, .unset, .unset, .unset, .unset, .unset, .unset] [])) _
    refine XS.iloadN X0.here hx rfl (hb hby at_0) rfl ?_
    show Steps p.tables e below (s₁.setTop (mkF m 1 #[iv p0, iv p1, iv p2, iv p3, iv p4, .unset, .unset, .unset, .unset, .unset, .unset] [(.int p0)])) _
    refine XS.iconst X0.here hx rfl (hb hby at_1) ?_
    show Steps p.tables e below (s₁.setTop (mkF m 2 #[iv p0, iv p1, iv p2, iv p3, iv p4, .unset, .unset, .unset, .unset, .unset, .unset] [(.int (3:Int32)), (.int p0)])) _
    refine XS.iand X0.here hx rfl (hb hby at_2) rfl ?_
    show Steps p.tables e below (s₁.setTop (mkF m 3 #[iv p0, iv p1, iv p2, iv p3, iv p4, .unset, .unset, .unset, .unset, .unset, .unset] [(.int (p0 &&& (3:Int32)))])) _
    refine XS.iconst X0.here hx rfl (hb hby at_3) ?_
    show Steps p.tables e below (s₁.setTop (mkF m 4 #[iv p0, iv p1, iv p2, iv p3, iv p4, .unset, .unset, .unset, .unset, .unset, .unset] [(.int (1:Int32)), (.int (p0 &&& (3:Int32)))])) _
    refine XS.iadd X0.here hx rfl (hb hby at_4) rfl ?_
    show Steps p.tables e below (s₁.setTop (mkF m 5 #[iv p0, iv p1, iv p2, iv p3, iv p4, .unset, .unset, .unset, .unset, .unset, .unset] [(.int ((p0 &&& (3:Int32)) + (1:Int32)))])) _
    refine XS.istore X0.here hx rfl (hb hby at_5) rfl (l' := #[iv p0, iv p1, iv p2, iv p3, iv p4, iv (4:Int32), .unset, .unset, .unset, .unset, .unset]) (by rw [hlen]; rfl) ?_
    show Steps p.tables e below (s₁.setTop (mkF m 7 #[iv p0, iv p1, iv p2, iv p3, iv p4, iv (4:Int32), .unset, .unset, .unset, .unset, .unset] [])) _
    refine XS.iload X0.here hx rfl (hb hby at_7) rfl ?_
    exact k
  obtain ⟨T94, h94, k94, X94, e94, E94, A94, B94, st94⟩ := newPE X0 hx hZ (own_h hw 0 rfl) e0 (g := (mkF m 9 #[iv p0, iv p1, iv p2, iv p3, iv p4, iv (4:Int32), .unset, .unset, .unset, .unset, .unset] [(.int (4:Int32))])) rfl (hb hby at_9) rfl (by decide) (cap := 4) (by decide) (by decide) (by decide) (by decide) (ad := "[B") (by decide)
  obtain ⟨b94, g94⟩ : ∃ z, z = h0.size := ⟨_, rfl⟩
  rw [← g94] at A94 st94 B94
  have ge_b94 : n0 ≤ b94 := Nat.le_trans Z0 (Nat.le_of_eq g94.symm)
  have Z95 : n0 ≤ h94.size := Nat.le_trans Z0 E94.1
  have V94 : own_Bytes Z h94 b94 [(0:Int32), (0:Int32), (0:Int32), (0:Int32)] := own_newB A94 (by decide)
  refine own_pre st94 ?_
  refine own_pre (A := T94.setTop (mkF m 18 #[iv p0, iv p1, iv p2, iv p3, iv p4, iv (4:Int32), rv b94, .unset, .unset, .unset, .unset] [(.int (p1.toInt8.toInt32)), (.int (0:Int32)), (.ref b94)])) (fun t k => ?_) ?_
  · show Steps p.tables e below (T94.setTop (mkF m 11 #[iv p0, iv p1, iv p2, iv p3, iv p4, iv (4:Int32), .unset, .unset, .unset, .unset, .unset] [(.ref b94)])) _
    refine XS.astore X94.here hx rfl (hb hby at_11) rfl rfl (l' := #[iv p0, iv p1, iv p2, iv p3, iv p4, iv (4:Int32), rv b94, .unset, .unset, .unset, .unset]) rfl ?_
    show Steps p.tables e below (T94.setTop (mkF m 13 #[iv p0, iv p1, iv p2, iv p3, iv p4, iv (4:Int32), rv b94, .unset, .unset, .unset, .unset] [])) _
    refine XS.aload X94.here hx rfl (hb hby at_13) rfl rfl ?_
    show Steps p.tables e below (T94.setTop (mkF m 15 #[iv p0, iv p1, iv p2, iv p3, iv p4, iv (4:Int32), rv b94, .unset, .unset, .unset, .unset] [(.ref b94)])) _
    refine XS.iconst X94.here hx rfl (hb hby at_15) ?_
    show Steps p.tables e below (T94.setTop (mkF m 16 #[iv p0, iv p1, iv p2, iv p3, iv p4, iv (4:Int32), rv b94, .unset, .unset, .unset, .unset] [(.int (0:Int32)), (.ref b94)])) _
    refine XS.iloadN X94.here hx rfl (hb hby at_16) rfl ?_
    show Steps p.tables e below (T94.setTop (mkF m 17 #[iv p0, iv p1, iv p2, iv p3, iv p4, iv (4:Int32), rv b94, .unset, .unset, .unset, .unset] [(.int p1), (.int (0:Int32)), (.ref b94)])) _
    refine XS.i2b X94.here hx rfl (hb hby at_17) rfl ?_
    exact k
  have hbn97 : own_In (0:Int32) [(0:Int32), (0:Int32), (0:Int32), (0:Int32)].length := own_lit rfl
  obtain ⟨T96, h96, X96, e96, W96, V96, st96⟩ := own_bastore X94 hx hZ e94 V94 (j := (0:Int32)) (x := (p1.toInt8.toInt32)) hbn97 (g := (mkF m 18 #[iv p0, iv p1, iv p2, iv p3, iv p4, iv (4:Int32), rv b94, .unset, .unset, .unset, .unset] [(.int (p1.toInt8.toInt32)), (.int (0:Int32)), (.ref b94)])) rfl rfl (hb hby at_18)
  have Z98 : n0 ≤ h96.size := Nat.le_trans Z95 (Nat.le_of_eq W96.size.symm)
  have N96 := Fr.snoc X96 N0 ge_b94
  have Vw96 : own_Bytes Z h96 b94 [((p1.toInt8.toInt32).toInt8.toInt32), (0:Int32), (0:Int32), (0:Int32)] := V96
  refine own_pre st96 ?_
  refine own_pre (A := T96.setTop (mkF m 30 #[iv p0, iv p1, iv p2, iv p3, iv p4, iv (4:Int32), rv b94, .unset, .unset, .unset, .unset] [(.int (p2.toInt8.toInt32)), (.int (1:Int32)), (.ref b94)])) (fun t k => ?_) ?_
  · show Steps p.tables e below (T96.setTop (mkF m 19 #[iv p0, iv p1, iv p2, iv p3, iv p4, iv (4:Int32), rv b94, .unset, .unset, .unset, .unset] [])) _
    refine XS.iload X96.here hx rfl (hb hby at_19) rfl ?_
    show Steps p.tables e below (T96.setTop (mkF m 21 #[iv p0, iv p1, iv p2, iv p3, iv p4, iv (4:Int32), rv b94, .unset, .unset, .unset, .unset] [(.int (4:Int32))])) _
    refine XS.iconst X96.here hx rfl (hb hby at_21) ?_
    show Steps p.tables e below (T96.setTop (mkF m 22 #[iv p0, iv p1, iv p2, iv p3, iv p4, iv (4:Int32), rv b94, .unset, .unset, .unset, .unset] [(.int (1:Int32)), (.int (4:Int32))])) _
    refine XS.icmpNo X96.here hx rfl (hb hby at_22) rfl (XT.ii_le_f (by decide)) ?_
    show Steps p.tables e below (T96.setTop (mkF m 25 #[iv p0, iv p1, iv p2, iv p3, iv p4, iv (4:Int32), rv b94, .unset, .unset, .unset, .unset] [])) _
    refine XS.aload X96.here hx rfl (hb hby at_25) rfl rfl ?_
    show Steps p.tables e below (T96.setTop (mkF m 27 #[iv p0, iv p1, iv p2, iv p3, iv p4, iv (4:Int32), rv b94, .unset, .unset, .unset, .unset] [(.ref b94)])) _
    refine XS.iconst X96.here hx rfl (hb hby at_27) ?_
    show Steps p.tables e below (T96.setTop (mkF m 28 #[iv p0, iv p1, iv p2, iv p3, iv p4, iv (4:Int32), rv b94, .unset, .unset, .unset, .unset] [(.int (1:Int32)), (.ref b94)])) _
    refine XS.iloadN X96.here hx rfl (hb hby at_28) rfl ?_
    show Steps p.tables e below (T96.setTop (mkF m 29 #[iv p0, iv p1, iv p2, iv p3, iv p4, iv (4:Int32), rv b94, .unset, .unset, .unset, .unset] [(.int p2), (.int (1:Int32)), (.ref b94)])) _
    refine XS.i2b X96.here hx rfl (hb hby at_29) rfl ?_
    exact k
  have hbn100 : own_In (1:Int32) [((p1.toInt8.toInt32).toInt8.toInt32), (0:Int32), (0:Int32), (0:Int32)].length := own_lit rfl
  obtain ⟨T99, h99, X99, e99, W99, V99, st99⟩ := own_bastore X96 hx hZ e96 Vw96 (j := (1:Int32)) (x := (p2.toInt8.toInt32)) hbn100 (g := (mkF m 30 #[iv p0, iv p1, iv p2, iv p3, iv p4, iv (4:Int32), rv b94, .unset, .unset, .unset, .unset] [(.int (p2.toInt8.toInt32)), (.int (1:Int32)), (.ref b94)])) rfl rfl (hb hby at_30)
  have Z101 : n0 ≤ h99.size := Nat.le_trans Z98 (Nat.le_of_eq W99.size.symm)
  have N99 := Fr.snoc X99 N96 ge_b94
  have Vw99 : own_Bytes Z h99 b94 [((p1.toInt8.toInt32).toInt8.toInt32), ((p2.toInt8.toInt32).toInt8.toInt32), (0:Int32), (0:Int32)] := V99
  refine own_pre st99 ?_
  refine own_pre (A := T99.setTop (mkF m 42 #[iv p0, iv p1, iv p2, iv p3, iv p4, iv (4:Int32), rv b94, .unset, .unset, .unset, .unset] [(.int (p3.toInt8.toInt32)), (.int (2:Int32)), (.ref b94)])) (fun t k => ?_) ?_
  · show Steps p.tables e below (T99.setTop (mkF m 31 #[iv p0, iv p1, iv p2, iv p3, iv p4, iv (4:Int32), rv b94, .unset, .unset, .unset, .unset] [])) _
    refine XS.iload X99.here hx rfl (hb hby at_31) rfl ?_
    show Steps p.tables e below (T99.setTop (mkF m 33 #[iv p0, iv p1, iv p2, iv p3, iv p4, iv (4:Int32), rv b94, .unset, .unset, .unset, .unset] [(.int (4:Int32))])) _
    refine XS.iconst X99.here hx rfl (hb hby at_33) ?_
    show Steps p.tables e below (T99.setTop (mkF m 34 #[iv p0, iv p1, iv p2, iv p3, iv p4, iv (4:Int32), rv b94, .unset, .unset, .unset, .unset] [(.int (2:Int32)), (.int (4:Int32))])) _
    refine XS.icmpNo X99.here hx rfl (hb hby at_34) rfl (XT.ii_le_f (by decide)) ?_
    show Steps p.tables e below (T99.setTop (mkF m 37 #[iv p0, iv p1, iv p2, iv p3, iv p4, iv (4:Int32), rv b94, .unset, .unset, .unset, .unset] [])) _
    refine XS.aload X99.here hx rfl (hb hby at_37) rfl rfl ?_
    show Steps p.tables e below (T99.setTop (mkF m 39 #[iv p0, iv p1, iv p2, iv p3, iv p4, iv (4:Int32), rv b94, .unset, .unset, .unset, .unset] [(.ref b94)])) _
    refine XS.iconst X99.here hx rfl (hb hby at_39) ?_
    show Steps p.tables e below (T99.setTop (mkF m 40 #[iv p0, iv p1, iv p2, iv p3, iv p4, iv (4:Int32), rv b94, .unset, .unset, .unset, .unset] [(.int (2:Int32)), (.ref b94)])) _
    refine XS.iloadN X99.here hx rfl (hb hby at_40) rfl ?_
    show Steps p.tables e below (T99.setTop (mkF m 41 #[iv p0, iv p1, iv p2, iv p3, iv p4, iv (4:Int32), rv b94, .unset, .unset, .unset, .unset] [(.int p3), (.int (2:Int32)), (.ref b94)])) _
    refine XS.i2b X99.here hx rfl (hb hby at_41) rfl ?_
    exact k
  have hbn103 : own_In (2:Int32) [((p1.toInt8.toInt32).toInt8.toInt32), ((p2.toInt8.toInt32).toInt8.toInt32), (0:Int32), (0:Int32)].length := own_lit rfl
  obtain ⟨T102, h102, X102, e102, W102, V102, st102⟩ := own_bastore X99 hx hZ e99 Vw99 (j := (2:Int32)) (x := (p3.toInt8.toInt32)) hbn103 (g := (mkF m 42 #[iv p0, iv p1, iv p2, iv p3, iv p4, iv (4:Int32), rv b94, .unset, .unset, .unset, .unset] [(.int (p3.toInt8.toInt32)), (.int (2:Int32)), (.ref b94)])) rfl rfl (hb hby at_42)
  have Z104 : n0 ≤ h102.size := Nat.le_trans Z101 (Nat.le_of_eq W102.size.symm)
  have N102 := Fr.snoc X102 N99 ge_b94
  have Vw102 : own_Bytes Z h102 b94 [((p1.toInt8.toInt32).toInt8.toInt32), ((p2.toInt8.toInt32).toInt8.toInt32), ((p3.toInt8.toInt32).toInt8.toInt32), (0:Int32)] := V102
  refine own_pre st102 ?_
  refine own_pre (A := T102.setTop (mkF m 55 #[iv p0, iv p1, iv p2, iv p3, iv p4, iv (4:Int32), rv b94, .unset, .unset, .unset, .unset] [(.int (p4.toInt8.toInt32)), (.int (3:Int32)), (.ref b94)])) (fun t k => ?_) ?_
  · show Steps p.tables e below (T102.setTop (mkF m 43 #[iv p0, iv p1, iv p2, iv p3, iv p4, iv (4:Int32), rv b94, .unset, .unset, .unset, .unset] [])) _
    refine XS.iload X102.here hx rfl (hb hby at_43) rfl ?_
    show Steps p.tables e below (T102.setTop (mkF m 45 #[iv p0, iv p1, iv p2, iv p3, iv p4, iv (4:Int32), rv b94, .unset, .unset, .unset, .unset] [(.int (4:Int32))])) _
    refine XS.iconst X102.here hx rfl (hb hby at_45) ?_
    show Steps p.tables e below (T102.setTop (mkF m 46 #[iv p0, iv p1, iv p2, iv p3, iv p4, iv (4:Int32), rv b94, .unset, .unset, .unset, .unset] [(.int (3:Int32)), (.int (4:Int32))])) _
    refine XS.icmpNo X102.here hx rfl (hb hby at_46) rfl (XT.ii_le_f (by decide)) ?_
    show Steps p.tables e below (T102.setTop (mkF m 49 #[iv p0, iv p1, iv p2, iv p3, iv p4, iv (4:Int32), rv b94, .unset, .unset, .unset, .unset] [])) _
    refine XS.aload X102.here hx rfl (hb hby at_49) rfl rfl ?_
    show Steps p.tables e below (T102.setTop (mkF m 51 #[iv p0, iv p1, iv p2, iv p3, iv p4, iv (4:Int32), rv b94, .unset, .unset, .unset, .unset] [(.ref b94)])) _
    refine XS.iconst X102.here hx rfl (hb hby at_51) ?_
    show Steps p.tables e below (T102.setTop (mkF m 52 #[iv p0, iv p1, iv p2, iv p3, iv p4, iv (4:Int32), rv b94, .unset, .unset, .unset, .unset] [(.int (3:Int32)), (.ref b94)])) _
    refine XS.iload X102.here hx rfl (hb hby at_52) rfl ?_
    show Steps p.tables e below (T102.setTop (mkF m 54 #[iv p0, iv p1, iv p2, iv p3, iv p4, iv (4:Int32), rv b94, .unset, .unset, .unset, .unset] [(.int p4), (.int (3:Int32)), (.ref b94)])) _
    refine XS.i2b X102.here hx rfl (hb hby at_54) rfl ?_
    exact k
  have hbn106 : own_In (3:Int32) [((p1.toInt8.toInt32).toInt8.toInt32), ((p2.toInt8.toInt32).toInt8.toInt32), ((p3.toInt8.toInt32).toInt8.toInt32), (0:Int32)].length := own_lit rfl
  obtain ⟨T105, h105, X105, e105, W105, V105, st105⟩ := own_bastore X102 hx hZ e102 Vw102 (j := (3:Int32)) (x := (p4.toInt8.toInt32)) hbn106 (g := (mkF m 55 #[iv p0, iv p1, iv p2, iv p3, iv p4, iv (4:Int32), rv b94, .unset, .unset, .unset, .unset] [(.int (p4.toInt8.toInt32)), (.int (3:Int32)), (.ref b94)])) rfl rfl (hb hby at_55)
  have Z107 : n0 ≤ h105.size := Nat.le_trans Z104 (Nat.le_of_eq W105.size.symm)
  have N105 := Fr.snoc X105 N102 ge_b94
  have Vw105 : own_Bytes Z h105 b94 [((p1.toInt8.toInt32).toInt8.toInt32), ((p2.toInt8.toInt32).toInt8.toInt32), ((p3.toInt8.toInt32).toInt8.toInt32), ((p4.toInt8.toInt32).toInt8.toInt32)] := V105
  refine own_pre st105 ?_
  obtain ⟨w0_1, hw0_1⟩ : ∃ z : Int32, z = ((p4 &&& (255:Int32)) % (255:Int32)) := ⟨_, rfl⟩
  refine own_pre (A := T105.setTop (mkF m 111 #[iv p0, iv p1, iv p2, iv p3, iv p4, iv (4:Int32), rv b94, iv p4, iv w0_1, .unset, .unset] [(.int (w0_1.toInt8.toInt32)), (.int (3:Int32)), (.ref b94)])) (fun t k => ?_) ?_
  · show Steps p.tables e below (T105.setTop (mkF m 56 #[iv p0, iv p1, iv p2, iv p3, iv p4, iv (4:Int32), rv b94, .unset, .unset, .unset, .unset] [])) _
    refine XS.iload X105.here hx rfl (hb hby at_56) rfl ?_
    show Steps p.tables e below (T105.setTop (mkF m 58 #[iv p0, iv p1, iv p2, iv p3, iv p4, iv (4:Int32), rv b94, .unset, .unset, .unset, .unset] [(.int (4:Int32))])) _
    refine XS.iconst X105.here hx rfl (hb hby at_58) ?_
    show Steps p.tables e below (T105.setTop (mkF m 59 #[iv p0, iv p1, iv p2, iv p3, iv p4, iv (4:Int32), rv b94, .unset, .unset, .unset, .unset] [(.int (1:Int32)), (.int (4:Int32))])) _
    refine XS.icmpYes X105.here hx rfl (pc0 := 59) (pc' := 66) rfl (hb hby at_59) rfl (XT.ii_ne_t (by decide)) (by decide) (by decide) ?_
    show Steps p.tables e below (T105.setTop (mkF m 66 #[iv p0, iv p1, iv p2, iv p3, iv p4, iv (4:Int32), rv b94, .unset, .unset, .unset, .unset] [])) _
    refine XS.iload X105.here hx rfl (hb hby at_66) rfl ?_
    show Steps p.tables e below (T105.setTop (mkF m 68 #[iv p0, iv p1, iv p2, iv p3, iv p4, iv (4:Int32), rv b94, .unset, .unset, .unset, .unset] [(.int (4:Int32))])) _
    refine XS.iconst X105.here hx rfl (hb hby at_68) ?_
    show Steps p.tables e below (T105.setTop (mkF m 69 #[iv p0, iv p1, iv p2, iv p3, iv p4, iv (4:Int32), rv b94, .unset, .unset, .unset, .unset] [(.int (2:Int32)), (.int (4:Int32))])) _
    refine XS.icmpYes X105.here hx rfl (pc0 := 69) (pc' := 76) rfl (hb hby at_69) rfl (XT.ii_ne_t (by decide)) (by decide) (by decide) ?_
    show Steps p.tables e below (T105.setTop (mkF m 76 #[iv p0, iv p1, iv p2, iv p3, iv p4, iv (4:Int32), rv b94, .unset, .unset, .unset, .unset] [])) _
    refine XS.iload X105.here hx rfl (hb hby at_76) rfl ?_
    show Steps p.tables e below (T105.setTop (mkF m 78 #[iv p0, iv p1, iv p2, iv p3, iv p4, iv (4:Int32), rv b94, .unset, .unset, .unset, .unset] [(.int (4:Int32))])) _
    refine XS.iconst X105.here hx rfl (hb hby at_78) ?_
    show Steps p.tables e below (T105.setTop (mkF m 79 #[iv p0, iv p1, iv p2, iv p3, iv p4, iv (4:Int32), rv b94, .unset, .unset, .unset, .unset] [(.int (3:Int32)), (.int (4:Int32))])) _
    refine XS.icmpYes X105.here hx rfl (pc0 := 79) (pc' := 86) rfl (hb hby at_79) rfl (XT.ii_ne_t (by decide)) (by decide) (by decide) ?_
    show Steps p.tables e below (T105.setTop (mkF m 86 #[iv p0, iv p1, iv p2, iv p3, iv p4, iv (4:Int32), rv b94, .unset, .unset, .unset, .unset] [])) _
    refine XS.iload X105.here hx rfl (hb hby at_86) rfl ?_
    show Steps p.tables e below (T105.setTop (mkF m 88 #[iv p0, iv p1, iv p2, iv p3, iv p4, iv (4:Int32), rv b94, .unset, .unset, .unset, .unset] [(.int p4)])) _
    refine XS.istore X105.here hx rfl (hb hby at_88) rfl (l' := #[iv p0, iv p1, iv p2, iv p3, iv p4, iv (4:Int32), rv b94, iv p4, .unset, .unset, .unset]) rfl ?_
    show Steps p.tables e below (T105.setTop (mkF m 90 #[iv p0, iv p1, iv p2, iv p3, iv p4, iv (4:Int32), rv b94, iv p4, .unset, .unset, .unset] [])) _
    refine XS.iload X105.here hx rfl (hb hby at_90) rfl ?_
    show Steps p.tables e below (T105.setTop (mkF m 92 #[iv p0, iv p1, iv p2, iv p3, iv p4, iv (4:Int32), rv b94, iv p4, .unset, .unset, .unset] [(.int p4)])) _
    refine XS.sipush X105.here hx rfl (hb hby at_92) ?_
    show Steps p.tables e below (T105.setTop (mkF m 95 #[iv p0, iv p1, iv p2, iv p3, iv p4, iv (4:Int32), rv b94, iv p4, .unset, .unset, .unset] [(.int (255:Int32)), (.int p4)])) _
    refine XS.iand X105.here hx rfl (hb hby at_95) rfl ?_
    show Steps p.tables e below (T105.setTop (mkF m 96 #[iv p0, iv p1, iv p2, iv p3, iv p4, iv (4:Int32), rv b94, iv p4, .unset, .unset, .unset] [(.int (p4 &&& (255:Int32)))])) _
    refine XS.sipush X105.here hx rfl (hb hby at_96) ?_
    show Steps p.tables e below (T105.setTop (mkF m 99 #[iv p0, iv p1, iv p2, iv p3, iv p4, iv (4:Int32), rv b94, iv p4, .unset, .unset, .unset] [(.int (255:Int32)), (.int (p4 &&& (255:Int32)))])) _
    refine iremM X105 hx rfl (hb hby at_99) rfl (by decide) ?_
    show Steps p.tables e below (T105.setTop (mkF m 100 #[iv p0, iv p1, iv p2, iv p3, iv p4, iv (4:Int32), rv b94, iv p4, .unset, .unset, .unset] [(.int ((p4 &&& (255:Int32)) % (255:Int32)))])) _
    refine XS.istore X105.here hx rfl (hb hby at_100) rfl (l' := #[iv p0, iv p1, iv p2, iv p3, iv p4, iv (4:Int32), rv b94, iv p4, iv w0_1, .unset, .unset]) (by rw [hw0_1]; rfl) ?_
    show Steps p.tables e below (T105.setTop (mkF m 102 #[iv p0, iv p1, iv p2, iv p3, iv p4, iv (4:Int32), rv b94, iv p4, iv w0_1, .unset, .unset] [])) _
    refine XS.aload X105.here hx rfl (hb hby at_102) rfl rfl ?_
    show Steps p.tables e below (T105.setTop (mkF m 104 #[iv p0, iv p1, iv p2, iv p3, iv p4, iv (4:Int32), rv b94, iv p4, iv w0_1, .unset, .unset] [(.ref b94)])) _
    refine XS.iload X105.here hx rfl (hb hby at_104) rfl ?_
    show Steps p.tables e below (T105.setTop (mkF m 106 #[iv p0, iv p1, iv p2, iv p3, iv p4, iv (4:Int32), rv b94, iv p4, iv w0_1, .unset, .unset] [(.int (4:Int32)), (.ref b94)])) _
    refine XS.iconst X105.here hx rfl (hb hby at_106) ?_
    show Steps p.tables e below (T105.setTop (mkF m 107 #[iv p0, iv p1, iv p2, iv p3, iv p4, iv (4:Int32), rv b94, iv p4, iv w0_1, .unset, .unset] [(.int (1:Int32)), (.int (4:Int32)), (.ref b94)])) _
    refine XS.isub X105.here hx rfl (hb hby at_107) rfl ?_
    show Steps p.tables e below (T105.setTop (mkF m 108 #[iv p0, iv p1, iv p2, iv p3, iv p4, iv (4:Int32), rv b94, iv p4, iv w0_1, .unset, .unset] [(.int (3:Int32)), (.ref b94)])) _
    refine XS.iload X105.here hx rfl (hb hby at_108) rfl ?_
    show Steps p.tables e below (T105.setTop (mkF m 110 #[iv p0, iv p1, iv p2, iv p3, iv p4, iv (4:Int32), rv b94, iv p4, iv w0_1, .unset, .unset] [(.int w0_1), (.int (3:Int32)), (.ref b94)])) _
    refine XS.i2b X105.here hx rfl (hb hby at_110) rfl ?_
    exact k
  have hbn109 : own_In (3:Int32) [((p1.toInt8.toInt32).toInt8.toInt32), ((p2.toInt8.toInt32).toInt8.toInt32), ((p3.toInt8.toInt32).toInt8.toInt32), ((p4.toInt8.toInt32).toInt8.toInt32)].length := own_lit rfl
  obtain ⟨T108, h108, X108, e108, W108, V108, st108⟩ := own_bastore X105 hx hZ e105 Vw105 (j := (3:Int32)) (x := (w0_1.toInt8.toInt32)) hbn109 (g := (mkF m 111 #[iv p0, iv p1, iv p2, iv p3, iv p4, iv (4:Int32), rv b94, iv p4, iv w0_1, .unset, .unset] [(.int (w0_1.toInt8.toInt32)), (.int (3:Int32)), (.ref b94)])) rfl rfl (hb hby at_111)
  have Z110 : n0 ≤ h108.size := Nat.le_trans Z107 (Nat.le_of_eq W108.size.symm)
  have N108 := Fr.snoc X108 N105 ge_b94
  have Vw108 : own_Bytes Z h108 b94 [((p1.toInt8.toInt32).toInt8.toInt32), ((p2.toInt8.toInt32).toInt8.toInt32), ((p3.toInt8.toInt32).toInt8.toInt32), ((w0_1.toInt8.toInt32).toInt8.toInt32)] := V108
  refine own_pre st108 ?_
  refine own_pre (A := T108.setTop (mkF m 114 #[iv p0, iv p1, iv p2, iv p3, iv p4, iv (4:Int32), rv b94, iv p4, iv w0_1, .unset, .unset] [(.ref b94)])) (fun t k => ?_) ?_
  · show Steps p.tables e below (T108.setTop (mkF m 112 #[iv p0, iv p1, iv p2, iv p3, iv p4, iv (4:Int32), rv b94, iv p4, iv w0_1, .unset, .unset] [])) _
    refine XS.aload X108.here hx rfl (hb hby at_112) rfl rfl ?_
    exact k
  have F112 := (((((B94.wr W96).wr W99).wr W102).wr W105).wr W108)
  obtain ⟨_, _, ⟨T111, L111, k111, n111⟩, -, X111, ⟨Lc111, hQ111, l111, y111, z111⟩, st111⟩ := Jvm.LawKit.callS X108 hx (y := (⟨"com/example/lexrow/lexrow/storage/CellKeys", "prefixEnd", "([B)[B"⟩ : MethodName)) hown (mvT hZ (own_h hw 1 rfl)) (mvT hZ (own_h hw 2 rfl)) (mvT hZ (own_h hw 3 rfl)) (mvT hZ (own_h hw 4 rfl)) (by decide) (backOf (W := 0) (rm1 l Z aZ hw [] b94 [((p1.toInt8.toInt32).toInt8.toInt32), ((p2.toInt8.toInt32).toInt8.toInt32), ((p3.toInt8.toInt32).toInt8.toInt32), ((w0_1.toInt8.toInt32).toInt8.toInt32)] h108 n0 Z110 F112 Vw108 (Nat.le_of_ble_eq_true rfl) (own_lastin _ (Nat.le_of_ble_eq_true rfl) (Nat.le_of_ble_eq_true rfl))) hZ (own_h hw 4 rfl) (own_h hw 3 rfl) (by decide) (by decide)) (g := (mkF m 114 #[iv p0, iv p1, iv p2, iv p3, iv p4, iv (4:Int32), rv b94, iv p4, iv w0_1, .unset, .unset] [(.ref b94)])) rfl (by rw [hml]; rfl) (argsL := [(.ref b94)]) (rest := []) (lenOf own_pd0 rfl) rfl (by show 2 * 0 + _ ≤ _; exact Nat.le_of_eq rfl) (hb hby at_114) (fun _ _ => ⟨rfl, e108, (by decide : 1 + 1 ≤ _), (by decide : 4 + 4 ≤ _)⟩)
  dsimp only [Pt.U, Pt.locs, Pt.cells, Pt.slots] at X111 l111 y111 z111 st111 hQ111
  subst l111 y111 z111
  obtain ⟨cl_115, rfl, N111q, K111, sz113, G114⟩ := hQ111
  have N111 := Fr.app N108 N111q
  have Z116 : n0 ≤ T111.heap.size := Nat.le_trans Z110 K111.1
  have G117 : own_Bytes Z T111.heap cl_115 [((p1.toInt8.toInt32).toInt8.toInt32), ((p2.toInt8.toInt32).toInt8.toInt32), ((p3.toInt8.toInt32).toInt8.toInt32), ((((((w0_1.toInt8.toInt32).toInt8.toInt32) + (1:Int32)).toInt8.toInt32)).toInt8.toInt32)] := by rw [show (own_len [((p1.toInt8.toInt32).toInt8.toInt32), ((p2.toInt8.toInt32).toInt8.toInt32), ((p3.toInt8.toInt32).toInt8.toInt32), ((w0_1.toInt8.toInt32).toInt8.toInt32)]) = (4:Int32) from rfl] at G114; exact G114
  have ne118 : b94 ≠ cl_115 := Nat.ne_of_lt (Nat.lt_of_lt_of_le F112.lt sz113)
  have ge119 : n0 ≤ cl_115 := Nat.le_trans Z110 sz113
  refine own_pre st111 ?_
  have F120 := (Vw108.keep K111 nin0)
  have hbn121 : own_In (3:Int32) [((p1.toInt8.toInt32).toInt8.toInt32), ((p2.toInt8.toInt32).toInt8.toInt32), ((p3.toInt8.toInt32).toInt8.toInt32), ((w0_1.toInt8.toInt32).toInt8.toInt32)].length := own_lit rfl
  refine own_pre (A := T111.setTop (mkF m 154 #[iv p0, iv p1, iv p2, iv p3, iv p4, iv (4:Int32), rv b94, iv p4, iv w0_1, rv cl_115, .unset] [(.int w0_1), (.int (((w0_1.toInt8.toInt32).toInt8.toInt32) &&& (255:Int32)))])) (fun t k => ?_) ?_
  · show Steps p.tables e below (T111.setTop (mkF m 117 #[iv p0, iv p1, iv p2, iv p3, iv p4, iv (4:Int32), rv b94, iv p4, iv w0_1, .unset, .unset] [(.ref cl_115)])) _
    refine XS.astore X111.here hx rfl (hb hby at_117) rfl rfl (l' := #[iv p0, iv p1, iv p2, iv p3, iv p4, iv (4:Int32), rv b94, iv p4, iv w0_1, rv cl_115, .unset]) rfl ?_
    show Steps p.tables e below (T111.setTop (mkF m 119 #[iv p0, iv p1, iv p2, iv p3, iv p4, iv (4:Int32), rv b94, iv p4, iv w0_1, rv cl_115, .unset] [])) _
    refine XS.aload X111.here hx rfl (hb hby at_119) rfl rfl ?_
    show Steps p.tables e below (T111.setTop (mkF m 121 #[iv p0, iv p1, iv p2, iv p3, iv p4, iv (4:Int32), rv b94, iv p4, iv w0_1, rv cl_115, .unset] [(.ref cl_115)])) _
    refine XS.ifnullNo X111.here hx rfl (hb hby at_121) rfl ?_
    show Steps p.tables e below (T111.setTop (mkF m 124 #[iv p0, iv p1, iv p2, iv p3, iv p4, iv (4:Int32), rv b94, iv p4, iv w0_1, rv cl_115, .unset] [])) _
    refine XS.aload X111.here hx rfl (hb hby at_124) rfl rfl ?_
    show Steps p.tables e below (T111.setTop (mkF m 126 #[iv p0, iv p1, iv p2, iv p3, iv p4, iv (4:Int32), rv b94, iv p4, iv w0_1, rv cl_115, .unset] [(.ref cl_115)])) _
    refine XS.aload X111.here hx rfl (hb hby at_126) rfl rfl ?_
    show Steps p.tables e below (T111.setTop (mkF m 128 #[iv p0, iv p1, iv p2, iv p3, iv p4, iv (4:Int32), rv b94, iv p4, iv w0_1, rv cl_115, .unset] [(.ref b94), (.ref cl_115)])) _
    refine Jvm.RoadKit.acmp (g := (mkF m 128 #[iv p0, iv p1, iv p2, iv p3, iv p4, iv (4:Int32), rv b94, iv p4, iv w0_1, rv cl_115, .unset] [(.ref b94), (.ref cl_115)])) X111 hx rfl rfl rfl (pc0 := 128) (pc' := 131) (same := false) rfl (hb hby at_128) rfl (decide_eq_false fun q => (Ne.symm ne118) (Value.ref.inj q)) (by decide) (by decide) ?_
    show Steps p.tables e below (T111.setTop (mkF m 131 #[iv p0, iv p1, iv p2, iv p3, iv p4, iv (4:Int32), rv b94, iv p4, iv w0_1, rv cl_115, .unset] [])) _
    refine XS.aload X111.here hx rfl (hb hby at_131) rfl rfl ?_
    show Steps p.tables e below (T111.setTop (mkF m 133 #[iv p0, iv p1, iv p2, iv p3, iv p4, iv (4:Int32), rv b94, iv p4, iv w0_1, rv cl_115, .unset] [(.ref cl_115)])) _
    refine own_arrlenB X111 hx hZ rfl G117 rfl rfl (hb hby at_133) ?_
    show Steps p.tables e below (T111.setTop (mkF m 134 #[iv p0, iv p1, iv p2, iv p3, iv p4, iv (4:Int32), rv b94, iv p4, iv w0_1, rv cl_115, .unset] [(.int (4:Int32))])) _
    refine XS.iload X111.here hx rfl (hb hby at_134) rfl ?_
    show Steps p.tables e below (T111.setTop (mkF m 136 #[iv p0, iv p1, iv p2, iv p3, iv p4, iv (4:Int32), rv b94, iv p4, iv w0_1, rv cl_115, .unset] [(.int (4:Int32)), (.int (4:Int32))])) _
    refine XS.icmpYes X111.here hx rfl (pc0 := 136) (pc' := 141) rfl (hb hby at_136) rfl (XT.ii_eq_t rfl) (by decide) (by decide) ?_
    show Steps p.tables e below (T111.setTop (mkF m 141 #[iv p0, iv p1, iv p2, iv p3, iv p4, iv (4:Int32), rv b94, iv p4, iv w0_1, rv cl_115, .unset] [])) _
    refine XS.aload X111.here hx rfl (hb hby at_141) rfl rfl ?_
    show Steps p.tables e below (T111.setTop (mkF m 143 #[iv p0, iv p1, iv p2, iv p3, iv p4, iv (4:Int32), rv b94, iv p4, iv w0_1, rv cl_115, .unset] [(.ref b94)])) _
    refine XS.iload X111.here hx rfl (hb hby at_143) rfl ?_
    show Steps p.tables e below (T111.setTop (mkF m 145 #[iv p0, iv p1, iv p2, iv p3, iv p4, iv (4:Int32), rv b94, iv p4, iv w0_1, rv cl_115, .unset] [(.int (4:Int32)), (.ref b94)])) _
    refine XS.iconst X111.here hx rfl (hb hby at_145) ?_
    show Steps p.tables e below (T111.setTop (mkF m 146 #[iv p0, iv p1, iv p2, iv p3, iv p4, iv (4:Int32), rv b94, iv p4, iv w0_1, rv cl_115, .unset] [(.int (1:Int32)), (.int (4:Int32)), (.ref b94)])) _
    refine XS.isub X111.here hx rfl (hb hby at_146) rfl ?_
    show Steps p.tables e below (T111.setTop (mkF m 147 #[iv p0, iv p1, iv p2, iv p3, iv p4, iv (4:Int32), rv b94, iv p4, iv w0_1, rv cl_115, .unset] [(.int (3:Int32)), (.ref b94)])) _
    refine own_baload X111 hx hZ rfl F120 hbn121 rfl rfl (hb hby at_147) ?_
    show Steps p.tables e below (T111.setTop (mkF m 148 #[iv p0, iv p1, iv p2, iv p3, iv p4, iv (4:Int32), rv b94, iv p4, iv w0_1, rv cl_115, .unset] [(.int ((w0_1.toInt8.toInt32).toInt8.toInt32))])) _
    refine XS.sipush X111.here hx rfl (hb hby at_148) ?_
    show Steps p.tables e below (T111.setTop (mkF m 151 #[iv p0, iv p1, iv p2, iv p3, iv p4, iv (4:Int32), rv b94, iv p4, iv w0_1, rv cl_115, .unset] [(.int (255:Int32)), (.int ((w0_1.toInt8.toInt32).toInt8.toInt32))])) _
    refine XS.iand X111.here hx rfl (hb hby at_151) rfl ?_
    show Steps p.tables e below (T111.setTop (mkF m 152 #[iv p0, iv p1, iv p2, iv p3, iv p4, iv (4:Int32), rv b94, iv p4, iv w0_1, rv cl_115, .unset] [(.int (((w0_1.toInt8.toInt32).toInt8.toInt32) &&& (255:Int32)))])) _
    refine XS.iload X111.here hx rfl (hb hby at_152) rfl ?_
    exact k
  by_cases hs154_2 : (((w0_1.toInt8.toInt32).toInt8.toInt32) &&& (255:Int32)) = w0_1
  · have hbn122 : own_In (3:Int32) [((p1.toInt8.toInt32).toInt8.toInt32), ((p2.toInt8.toInt32).toInt8.toInt32), ((p3.toInt8.toInt32).toInt8.toInt32), ((((((w0_1.toInt8.toInt32).toInt8.toInt32) + (1:Int32)).toInt8.toInt32)).toInt8.toInt32)].length := own_lit rfl
    refine own_pre (A := T111.setTop (mkF m 172 #[iv p0, iv p1, iv p2, iv p3, iv p4, iv (4:Int32), rv b94, iv p4, iv w0_1, rv cl_115, .unset] [(.int (w0_1 + (1:Int32))), (.int (((((((w0_1.toInt8.toInt32).toInt8.toInt32) + (1:Int32)).toInt8.toInt32)).toInt8.toInt32) &&& (255:Int32)))])) (fun t k => ?_) ?_
    · show Steps p.tables e below (T111.setTop (mkF m 154 #[iv p0, iv p1, iv p2, iv p3, iv p4, iv (4:Int32), rv b94, iv p4, iv w0_1, rv cl_115, .unset] [(.int w0_1), (.int (((w0_1.toInt8.toInt32).toInt8.toInt32) &&& (255:Int32)))])) _
      refine XS.icmpNo X111.here hx rfl (hb hby at_154) rfl (XT.ii_ne_f hs154_2) ?_
      show Steps p.tables e below (T111.setTop (mkF m 157 #[iv p0, iv p1, iv p2, iv p3, iv p4, iv (4:Int32), rv b94, iv p4, iv w0_1, rv cl_115, .unset] [])) _
      refine XS.aload X111.here hx rfl (hb hby at_157) rfl rfl ?_
      show Steps p.tables e below (T111.setTop (mkF m 159 #[iv p0, iv p1, iv p2, iv p3, iv p4, iv (4:Int32), rv b94, iv p4, iv w0_1, rv cl_115, .unset] [(.ref cl_115)])) _
      refine XS.iload X111.here hx rfl (hb hby at_159) rfl ?_
      show Steps p.tables e below (T111.setTop (mkF m 161 #[iv p0, iv p1, iv p2, iv p3, iv p4, iv (4:Int32), rv b94, iv p4, iv w0_1, rv cl_115, .unset] [(.int (4:Int32)), (.ref cl_115)])) _
      refine XS.iconst X111.here hx rfl (hb hby at_161) ?_
      show Steps p.tables e below (T111.setTop (mkF m 162 #[iv p0, iv p1, iv p2, iv p3, iv p4, iv (4:Int32), rv b94, iv p4, iv w0_1, rv cl_115, .unset] [(.int (1:Int32)), (.int (4:Int32)), (.ref cl_115)])) _
      refine XS.isub X111.here hx rfl (hb hby at_162) rfl ?_
      show Steps p.tables e below (T111.setTop (mkF m 163 #[iv p0, iv p1, iv p2, iv p3, iv p4, iv (4:Int32), rv b94, iv p4, iv w0_1, rv cl_115, .unset] [(.int (3:Int32)), (.ref cl_115)])) _
      refine own_baload X111 hx hZ rfl G117 hbn122 rfl rfl (hb hby at_163) ?_
      show Steps p.tables e below (T111.setTop (mkF m 164 #[iv p0, iv p1, iv p2, iv p3, iv p4, iv (4:Int32), rv b94, iv p4, iv w0_1, rv cl_115, .unset] [(.int ((((((w0_1.toInt8.toInt32).toInt8.toInt32) + (1:Int32)).toInt8.toInt32)).toInt8.toInt32))])) _
      refine XS.sipush X111.here hx rfl (hb hby at_164) ?_
      show Steps p.tables e below (T111.setTop (mkF m 167 #[iv p0, iv p1, iv p2, iv p3, iv p4, iv (4:Int32), rv b94, iv p4, iv w0_1, rv cl_115, .unset] [(.int (255:Int32)), (.int ((((((w0_1.toInt8.toInt32).toInt8.toInt32) + (1:Int32)).toInt8.toInt32)).toInt8.toInt32))])) _
      refine XS.iand X111.here hx rfl (hb hby at_167) rfl ?_
      show Steps p.tables e below (T111.setTop (mkF m 168 #[iv p0, iv p1, iv p2, iv p3, iv p4, iv (4:Int32), rv b94, iv p4, iv w0_1, rv cl_115, .unset] [(.int (((((((w0_1.toInt8.toInt32).toInt8.toInt32) + (1:Int32)).toInt8.toInt32)).toInt8.toInt32) &&& (255:Int32)))])) _
      refine XS.iload X111.here hx rfl (hb hby at_168) rfl ?_
      show Steps p.tables e below (T111.setTop (mkF m 170 #[iv p0, iv p1, iv p2, iv p3, iv p4, iv (4:Int32), rv b94, iv p4, iv w0_1, rv cl_115, .unset] [(.int w0_1), (.int (((((((w0_1.toInt8.toInt32).toInt8.toInt32) + (1:Int32)).toInt8.toInt32)).toInt8.toInt32) &&& (255:Int32)))])) _
      refine XS.iconst X111.here hx rfl (hb hby at_170) ?_
      show Steps p.tables e below (T111.setTop (mkF m 171 #[iv p0, iv p1, iv p2, iv p3, iv p4, iv (4:Int32), rv b94, iv p4, iv w0_1, rv cl_115, .unset] [(.int (1:Int32)), (.int w0_1), (.int (((((((w0_1.toInt8.toInt32).toInt8.toInt32) + (1:Int32)).toInt8.toInt32)).toInt8.toInt32) &&& (255:Int32)))])) _
      refine XS.iadd X111.here hx rfl (hb hby at_171) rfl ?_
      exact k
    obtain ⟨w0_2, hw0_2⟩ : ∃ z : Int32, z = (if (((((((w0_1.toInt8.toInt32).toInt8.toInt32) + (1:Int32)).toInt8.toInt32)).toInt8.toInt32) &&& (255:Int32)) = (w0_1 + (1:Int32)) then (1:Int32) else (0:Int32)) := ⟨_, rfl⟩
    refine own_pre (A := T111.setTop (mkF m 180 #[iv p0, iv p1, iv p2, iv p3, iv p4, iv (4:Int32), rv b94, iv p4, iv w0_1, rv cl_115, .unset] [(.int w0_2)])) (fun t k => ?_) ?_
    · show Steps p.tables e below (T111.setTop (mkF m 172 #[iv p0, iv p1, iv p2, iv p3, iv p4, iv (4:Int32), rv b94, iv p4, iv w0_1, rv cl_115, .unset] [(.int (w0_1 + (1:Int32))), (.int (((((((w0_1.toInt8.toInt32).toInt8.toInt32) + (1:Int32)).toInt8.toInt32)).toInt8.toInt32) &&& (255:Int32)))])) _
      by_cases hm172_3 : (((((((w0_1.toInt8.toInt32).toInt8.toInt32) + (1:Int32)).toInt8.toInt32)).toInt8.toInt32) &&& (255:Int32)) = (w0_1 + (1:Int32))
      · refine XS.icmpNo X111.here hx rfl (hb hby at_172) rfl (XT.ii_ne_f hm172_3) ?_
        show Steps p.tables e below (T111.setTop (mkF m 175 #[iv p0, iv p1, iv p2, iv p3, iv p4, iv (4:Int32), rv b94, iv p4, iv w0_1, rv cl_115, .unset] [])) _
        refine XS.iconst X111.here hx rfl (hb hby at_175) ?_
        show Steps p.tables e below (T111.setTop (mkF m 176 #[iv p0, iv p1, iv p2, iv p3, iv p4, iv (4:Int32), rv b94, iv p4, iv w0_1, rv cl_115, .unset] [(.int (1:Int32))])) _
        refine XS.goto X111.here hx rfl (pc0 := 176) (pc' := 180) rfl (hb hby at_176) (by decide) (by decide) ?_
        rw [hw0_2.trans (if_pos hm172_3)] at k
        exact k
      · refine XS.icmpYes X111.here hx rfl (pc0 := 172) (pc' := 179) rfl (hb hby at_172) rfl (XT.ii_ne_t hm172_3) (by decide) (by decide) ?_
        show Steps p.tables e below (T111.setTop (mkF m 179 #[iv p0, iv p1, iv p2, iv p3, iv p4, iv (4:Int32), rv b94, iv p4, iv w0_1, rv cl_115, .unset] [])) _
        refine XS.iconst X111.here hx rfl (hb hby at_179) ?_
        rw [hw0_2.trans (if_neg hm172_3)] at k
        exact k
    refine own_pre (A := T111.setTop (mkF m 190 #[iv p0, iv p1, iv p2, iv p3, iv p4, iv (4:Int32), rv b94, iv p4, iv w0_1, rv cl_115, iv w0_2] [(.int w0_2)])) (fun t k => ?_) ?_
    · show Steps p.tables e below (T111.setTop (mkF m 180 #[iv p0, iv p1, iv p2, iv p3, iv p4, iv (4:Int32), rv b94, iv p4, iv w0_1, rv cl_115, .unset] [(.int w0_2)])) _
      refine XS.istore X111.here hx rfl (hb hby at_180) rfl (l' := #[iv p0, iv p1, iv p2, iv p3, iv p4, iv (4:Int32), rv b94, iv p4, iv w0_1, rv cl_115, iv w0_2]) rfl ?_
      show Steps p.tables e below (T111.setTop (mkF m 182 #[iv p0, iv p1, iv p2, iv p3, iv p4, iv (4:Int32), rv b94, iv p4, iv w0_1, rv cl_115, iv w0_2] [])) _
      refine XS.iload X111.here hx rfl (hb hby at_182) rfl ?_
      show Steps p.tables e below (T111.setTop (mkF m 184 #[iv p0, iv p1, iv p2, iv p3, iv p4, iv (4:Int32), rv b94, iv p4, iv w0_1, rv cl_115, iv w0_2] [(.int (4:Int32))])) _
      refine XS.iconst X111.here hx rfl (hb hby at_184) ?_
      show Steps p.tables e below (T111.setTop (mkF m 185 #[iv p0, iv p1, iv p2, iv p3, iv p4, iv (4:Int32), rv b94, iv p4, iv w0_1, rv cl_115, iv w0_2] [(.int (1:Int32)), (.int (4:Int32))])) _
      refine XS.icmpNo X111.here hx rfl (hb hby at_185) rfl (XT.ii_le_f (by decide)) ?_
      show Steps p.tables e below (T111.setTop (mkF m 188 #[iv p0, iv p1, iv p2, iv p3, iv p4, iv (4:Int32), rv b94, iv p4, iv w0_1, rv cl_115, iv w0_2] [])) _
      refine XS.iload X111.here hx rfl (hb hby at_188) rfl ?_
      exact k
    by_cases hs190_5 : w0_2 = (0:Int32)
    · refine own_pre (A := T111.setTop (mkF m 334 #[iv p0, iv p1, iv p2, iv p3, iv p4, iv (4:Int32), rv b94, iv p4, iv w0_1, rv cl_115, iv (0:Int32)] [(.int (0:Int32))])) (fun t k => ?_) ?_
      · show Steps p.tables e below (T111.setTop (mkF m 190 #[iv p0, iv p1, iv p2, iv p3, iv p4, iv (4:Int32), rv b94, iv p4, iv w0_1, rv cl_115, iv w0_2] [(.int w0_2)])) _
        refine XS.ifYes X111.here hx rfl (pc0 := 190) (pc' := 229) rfl (hb hby at_190) rfl (XT.i0_eq_t hs190_5) (by decide) (by decide) ?_
        show Steps p.tables e below (T111.setTop (mkF m 229 #[iv p0, iv p1, iv p2, iv p3, iv p4, iv (4:Int32), rv b94, iv p4, iv w0_1, rv cl_115, iv w0_2] [])) _
        refine XS.iconst X111.here hx rfl (hb hby at_229) ?_
        show Steps p.tables e below (T111.setTop (mkF m 230 #[iv p0, iv p1, iv p2, iv p3, iv p4, iv (4:Int32), rv b94, iv p4, iv w0_1, rv cl_115, iv w0_2] [(.int (0:Int32))])) _
        refine XS.istore X111.here hx rfl (hb hby at_230) rfl (l' := #[iv p0, iv p1, iv p2, iv p3, iv p4, iv (4:Int32), rv b94, iv p4, iv w0_1, rv cl_115, iv (0:Int32)]) rfl ?_
        show Steps p.tables e below (T111.setTop (mkF m 232 #[iv p0, iv p1, iv p2, iv p3, iv p4, iv (4:Int32), rv b94, iv p4, iv w0_1, rv cl_115, iv (0:Int32)] [])) _
        refine XS.iload X111.here hx rfl (hb hby at_232) rfl ?_
        show Steps p.tables e below (T111.setTop (mkF m 234 #[iv p0, iv p1, iv p2, iv p3, iv p4, iv (4:Int32), rv b94, iv p4, iv w0_1, rv cl_115, iv (0:Int32)] [(.int (4:Int32))])) _
        refine XS.iconst X111.here hx rfl (hb hby at_234) ?_
        show Steps p.tables e below (T111.setTop (mkF m 235 #[iv p0, iv p1, iv p2, iv p3, iv p4, iv (4:Int32), rv b94, iv p4, iv w0_1, rv cl_115, iv (0:Int32)] [(.int (2:Int32)), (.int (4:Int32))])) _
        refine XS.icmpNo X111.here hx rfl (hb hby at_235) rfl (XT.ii_le_f (by decide)) ?_
        show Steps p.tables e below (T111.setTop (mkF m 238 #[iv p0, iv p1, iv p2, iv p3, iv p4, iv (4:Int32), rv b94, iv p4, iv w0_1, rv cl_115, iv (0:Int32)] [])) _
        refine XS.iload X111.here hx rfl (hb hby at_238) rfl ?_
        show Steps p.tables e below (T111.setTop (mkF m 240 #[iv p0, iv p1, iv p2, iv p3, iv p4, iv (4:Int32), rv b94, iv p4, iv w0_1, rv cl_115, iv (0:Int32)] [(.int (0:Int32))])) _
        refine XS.ifYes X111.here hx rfl (pc0 := 240) (pc' := 279) rfl (hb hby at_240) rfl (XT.i0_eq_t rfl) (by decide) (by decide) ?_
        show Steps p.tables e below (T111.setTop (mkF m 279 #[iv p0, iv p1, iv p2, iv p3, iv p4, iv (4:Int32), rv b94, iv p4, iv w0_1, rv cl_115, iv (0:Int32)] [])) _
        refine XS.iconst X111.here hx rfl (hb hby at_279) ?_
        show Steps p.tables e below (T111.setTop (mkF m 280 #[iv p0, iv p1, iv p2, iv p3, iv p4, iv (4:Int32), rv b94, iv p4, iv w0_1, rv cl_115, iv (0:Int32)] [(.int (0:Int32))])) _
        refine XS.istore X111.here hx rfl (hb hby at_280) rfl (l' := #[iv p0, iv p1, iv p2, iv p3, iv p4, iv (4:Int32), rv b94, iv p4, iv w0_1, rv cl_115, iv (0:Int32)]) rfl ?_
        show Steps p.tables e below (T111.setTop (mkF m 282 #[iv p0, iv p1, iv p2, iv p3, iv p4, iv (4:Int32), rv b94, iv p4, iv w0_1, rv cl_115, iv (0:Int32)] [])) _
        refine XS.iload X111.here hx rfl (hb hby at_282) rfl ?_
        show Steps p.tables e below (T111.setTop (mkF m 284 #[iv p0, iv p1, iv p2, iv p3, iv p4, iv (4:Int32), rv b94, iv p4, iv w0_1, rv cl_115, iv (0:Int32)] [(.int (4:Int32))])) _
        refine XS.iconst X111.here hx rfl (hb hby at_284) ?_
        show Steps p.tables e below (T111.setTop (mkF m 285 #[iv p0, iv p1, iv p2, iv p3, iv p4, iv (4:Int32), rv b94, iv p4, iv w0_1, rv cl_115, iv (0:Int32)] [(.int (3:Int32)), (.int (4:Int32))])) _
        refine XS.icmpNo X111.here hx rfl (hb hby at_285) rfl (XT.ii_le_f (by decide)) ?_
        show Steps p.tables e below (T111.setTop (mkF m 288 #[iv p0, iv p1, iv p2, iv p3, iv p4, iv (4:Int32), rv b94, iv p4, iv w0_1, rv cl_115, iv (0:Int32)] [])) _
        refine XS.iload X111.here hx rfl (hb hby at_288) rfl ?_
        show Steps p.tables e below (T111.setTop (mkF m 290 #[iv p0, iv p1, iv p2, iv p3, iv p4, iv (4:Int32), rv b94, iv p4, iv w0_1, rv cl_115, iv (0:Int32)] [(.int (0:Int32))])) _
        refine XS.ifYes X111.here hx rfl (pc0 := 290) (pc' := 329) rfl (hb hby at_290) rfl (XT.i0_eq_t rfl) (by decide) (by decide) ?_
        show Steps p.tables e below (T111.setTop (mkF m 329 #[iv p0, iv p1, iv p2, iv p3, iv p4, iv (4:Int32), rv b94, iv p4, iv w0_1, rv cl_115, iv (0:Int32)] [])) _
        refine XS.iconst X111.here hx rfl (hb hby at_329) ?_
        show Steps p.tables e below (T111.setTop (mkF m 330 #[iv p0, iv p1, iv p2, iv p3, iv p4, iv (4:Int32), rv b94, iv p4, iv w0_1, rv cl_115, iv (0:Int32)] [(.int (0:Int32))])) _
        refine XS.istore X111.here hx rfl (hb hby at_330) rfl (l' := #[iv p0, iv p1, iv p2, iv p3, iv p4, iv (4:Int32), rv b94, iv p4, iv w0_1, rv cl_115, iv (0:Int32)]) rfl ?_
        show Steps p.tables e below (T111.setTop (mkF m 332 #[iv p0, iv p1, iv p2, iv p3, iv p4, iv (4:Int32), rv b94, iv p4, iv w0_1, rv cl_115, iv (0:Int32)] [])) _
        refine XS.iload X111.here hx rfl (hb hby at_332) rfl ?_
        exact k
      have hv123 : (0:Int32) = f0d p0 p1 p2 p3 p4 := by subst hw0_1 hw0_2; simp only [f0d, if_pos hs154_2, if_pos hs190_5]
      exact own_end X111 (BodyLoose.notSynchronized Bd) (fun h => by rw [Bd.returns] at h; cases h) (v := some (.int (0:Int32))) (fun fs hr => retN X111 hx (t := .boolean) Bd.returns (by simp) (hb hby at_334) hr) (by show Q0d Z p0 p1 p2 p3 p4 h0 n0 _ T111.heap _; exact ⟨(congrArg (fun z => some (Value.int z)) hv123), N111⟩) (by decide) (by decide)
    · have hbn124 : own_In (0:Int32) [((p1.toInt8.toInt32).toInt8.toInt32), ((p2.toInt8.toInt32).toInt8.toInt32), ((p3.toInt8.toInt32).toInt8.toInt32), ((((((w0_1.toInt8.toInt32).toInt8.toInt32) + (1:Int32)).toInt8.toInt32)).toInt8.toInt32)].length := own_lit rfl
      refine own_pre (A := T111.setTop (mkF m 206 #[iv p0, iv p1, iv p2, iv p3, iv p4, iv (4:Int32), rv b94, iv p4, iv w0_1, rv cl_115, iv w0_2] [(.int (p1 &&& (255:Int32))), (.int (((p1.toInt8.toInt32).toInt8.toInt32) &&& (255:Int32)))])) (fun t k => ?_) ?_
      · show Steps p.tables e below (T111.setTop (mkF m 190 #[iv p0, iv p1, iv p2, iv p3, iv p4, iv (4:Int32), rv b94, iv p4, iv w0_1, rv cl_115, iv w0_2] [(.int w0_2)])) _
        refine XS.ifNo X111.here hx rfl (hb hby at_190) rfl (XT.i0_eq_f hs190_5) ?_
        show Steps p.tables e below (T111.setTop (mkF m 193 #[iv p0, iv p1, iv p2, iv p3, iv p4, iv (4:Int32), rv b94, iv p4, iv w0_1, rv cl_115, iv w0_2] [])) _
        refine XS.aload X111.here hx rfl (hb hby at_193) rfl rfl ?_
        show Steps p.tables e below (T111.setTop (mkF m 195 #[iv p0, iv p1, iv p2, iv p3, iv p4, iv (4:Int32), rv b94, iv p4, iv w0_1, rv cl_115, iv w0_2] [(.ref cl_115)])) _
        refine XS.iconst X111.here hx rfl (hb hby at_195) ?_
        show Steps p.tables e below (T111.setTop (mkF m 196 #[iv p0, iv p1, iv p2, iv p3, iv p4, iv (4:Int32), rv b94, iv p4, iv w0_1, rv cl_115, iv w0_2] [(.int (0:Int32)), (.ref cl_115)])) _
        refine own_baload X111 hx hZ rfl G117 hbn124 rfl rfl (hb hby at_196) ?_
        show Steps p.tables e below (T111.setTop (mkF m 197 #[iv p0, iv p1, iv p2, iv p3, iv p4, iv (4:Int32), rv b94, iv p4, iv w0_1, rv cl_115, iv w0_2] [(.int ((p1.toInt8.toInt32).toInt8.toInt32))])) _
        refine XS.sipush X111.here hx rfl (hb hby at_197) ?_
        show Steps p.tables e below (T111.setTop (mkF m 200 #[iv p0, iv p1, iv p2, iv p3, iv p4, iv (4:Int32), rv b94, iv p4, iv w0_1, rv cl_115, iv w0_2] [(.int (255:Int32)), (.int ((p1.toInt8.toInt32).toInt8.toInt32))])) _
        refine XS.iand X111.here hx rfl (hb hby at_200) rfl ?_
        show Steps p.tables e below (T111.setTop (mkF m 201 #[iv p0, iv p1, iv p2, iv p3, iv p4, iv (4:Int32), rv b94, iv p4, iv w0_1, rv cl_115, iv w0_2] [(.int (((p1.toInt8.toInt32).toInt8.toInt32) &&& (255:Int32)))])) _
        refine XS.iloadN X111.here hx rfl (hb hby at_201) rfl ?_
        show Steps p.tables e below (T111.setTop (mkF m 202 #[iv p0, iv p1, iv p2, iv p3, iv p4, iv (4:Int32), rv b94, iv p4, iv w0_1, rv cl_115, iv w0_2] [(.int p1), (.int (((p1.toInt8.toInt32).toInt8.toInt32) &&& (255:Int32)))])) _
        refine XS.sipush X111.here hx rfl (hb hby at_202) ?_
        show Steps p.tables e below (T111.setTop (mkF m 205 #[iv p0, iv p1, iv p2, iv p3, iv p4, iv (4:Int32), rv b94, iv p4, iv w0_1, rv cl_115, iv w0_2] [(.int (255:Int32)), (.int p1), (.int (((p1.toInt8.toInt32).toInt8.toInt32) &&& (255:Int32)))])) _
        refine XS.iand X111.here hx rfl (hb hby at_205) rfl ?_
        exact k
      by_cases hs206_7 : (((p1.toInt8.toInt32).toInt8.toInt32) &&& (255:Int32)) = (p1 &&& (255:Int32))
      · have hbn125 : own_In (0:Int32) [((p1.toInt8.toInt32).toInt8.toInt32), ((p2.toInt8.toInt32).toInt8.toInt32), ((p3.toInt8.toInt32).toInt8.toInt32), ((w0_1.toInt8.toInt32).toInt8.toInt32)].length := own_lit rfl
        have hbn126 : own_In (1:Int32) [((p1.toInt8.toInt32).toInt8.toInt32), ((p2.toInt8.toInt32).toInt8.toInt32), ((p3.toInt8.toInt32).toInt8.toInt32), ((((((w0_1.toInt8.toInt32).toInt8.toInt32) + (1:Int32)).toInt8.toInt32)).toInt8.toInt32)].length := own_lit rfl
        refine own_pre (A := T111.setTop (mkF m 256 #[iv p0, iv p1, iv p2, iv p3, iv p4, iv (4:Int32), rv b94, iv p4, iv w0_1, rv cl_115, iv (1:Int32)] [(.int (p2 &&& (255:Int32))), (.int (((p2.toInt8.toInt32).toInt8.toInt32) &&& (255:Int32)))])) (fun t k => ?_) ?_
        · show Steps p.tables e below (T111.setTop (mkF m 206 #[iv p0, iv p1, iv p2, iv p3, iv p4, iv (4:Int32), rv b94, iv p4, iv w0_1, rv cl_115, iv w0_2] [(.int (p1 &&& (255:Int32))), (.int (((p1.toInt8.toInt32).toInt8.toInt32) &&& (255:Int32)))])) _
          refine XS.icmpNo X111.here hx rfl (hb hby at_206) rfl (XT.ii_ne_f hs206_7) ?_
          show Steps p.tables e below (T111.setTop (mkF m 209 #[iv p0, iv p1, iv p2, iv p3, iv p4, iv (4:Int32), rv b94, iv p4, iv w0_1, rv cl_115, iv w0_2] [])) _
          refine XS.aload X111.here hx rfl (hb hby at_209) rfl rfl ?_
          show Steps p.tables e below (T111.setTop (mkF m 211 #[iv p0, iv p1, iv p2, iv p3, iv p4, iv (4:Int32), rv b94, iv p4, iv w0_1, rv cl_115, iv w0_2] [(.ref b94)])) _
          refine XS.iconst X111.here hx rfl (hb hby at_211) ?_
          show Steps p.tables e below (T111.setTop (mkF m 212 #[iv p0, iv p1, iv p2, iv p3, iv p4, iv (4:Int32), rv b94, iv p4, iv w0_1, rv cl_115, iv w0_2] [(.int (0:Int32)), (.ref b94)])) _
          refine own_baload X111 hx hZ rfl F120 hbn125 rfl rfl (hb hby at_212) ?_
          show Steps p.tables e below (T111.setTop (mkF m 213 #[iv p0, iv p1, iv p2, iv p3, iv p4, iv (4:Int32), rv b94, iv p4, iv w0_1, rv cl_115, iv w0_2] [(.int ((p1.toInt8.toInt32).toInt8.toInt32))])) _
          refine XS.sipush X111.here hx rfl (hb hby at_213) ?_
          show Steps p.tables e below (T111.setTop (mkF m 216 #[iv p0, iv p1, iv p2, iv p3, iv p4, iv (4:Int32), rv b94, iv p4, iv w0_1, rv cl_115, iv w0_2] [(.int (255:Int32)), (.int ((p1.toInt8.toInt32).toInt8.toInt32))])) _
          refine XS.iand X111.here hx rfl (hb hby at_216) rfl ?_
          show Steps p.tables e below (T111.setTop (mkF m 217 #[iv p0, iv p1, iv p2, iv p3, iv p4, iv (4:Int32), rv b94, iv p4, iv w0_1, rv cl_115, iv w0_2] [(.int (((p1.toInt8.toInt32).toInt8.toInt32) &&& (255:Int32)))])) _
          refine XS.iloadN X111.here hx rfl (hb hby at_217) rfl ?_
          show Steps p.tables e below (T111.setTop (mkF m 218 #[iv p0, iv p1, iv p2, iv p3, iv p4, iv (4:Int32), rv b94, iv p4, iv w0_1, rv cl_115, iv w0_2] [(.int p1), (.int (((p1.toInt8.toInt32).toInt8.toInt32) &&& (255:Int32)))])) _
          refine XS.sipush X111.here hx rfl (hb hby at_218) ?_
          show Steps p.tables e below (T111.setTop (mkF m 221 #[iv p0, iv p1, iv p2, iv p3, iv p4, iv (4:Int32), rv b94, iv p4, iv w0_1, rv cl_115, iv w0_2] [(.int (255:Int32)), (.int p1), (.int (((p1.toInt8.toInt32).toInt8.toInt32) &&& (255:Int32)))])) _
          refine XS.iand X111.here hx rfl (hb hby at_221) rfl ?_
          show Steps p.tables e below (T111.setTop (mkF m 222 #[iv p0, iv p1, iv p2, iv p3, iv p4, iv (4:Int32), rv b94, iv p4, iv w0_1, rv cl_115, iv w0_2] [(.int (p1 &&& (255:Int32))), (.int (((p1.toInt8.toInt32).toInt8.toInt32) &&& (255:Int32)))])) _
          refine XS.icmpNo X111.here hx rfl (hb hby at_222) rfl (XT.ii_ne_f hs206_7) ?_
          show Steps p.tables e below (T111.setTop (mkF m 225 #[iv p0, iv p1, iv p2, iv p3, iv p4, iv (4:Int32), rv b94, iv p4, iv w0_1, rv cl_115, iv w0_2] [])) _
          refine XS.iconst X111.here hx rfl (hb hby at_225) ?_
          show Steps p.tables e below (T111.setTop (mkF m 226 #[iv p0, iv p1, iv p2, iv p3, iv p4, iv (4:Int32), rv b94, iv p4, iv w0_1, rv cl_115, iv w0_2] [(.int (1:Int32))])) _
          refine XS.goto X111.here hx rfl (pc0 := 226) (pc' := 230) rfl (hb hby at_226) (by decide) (by decide) ?_
          show Steps p.tables e below (T111.setTop (mkF m 230 #[iv p0, iv p1, iv p2, iv p3, iv p4, iv (4:Int32), rv b94, iv p4, iv w0_1, rv cl_115, iv w0_2] [(.int (1:Int32))])) _
          refine XS.istore X111.here hx rfl (hb hby at_230) rfl (l' := #[iv p0, iv p1, iv p2, iv p3, iv p4, iv (4:Int32), rv b94, iv p4, iv w0_1, rv cl_115, iv (1:Int32)]) rfl ?_
          show Steps p.tables e below (T111.setTop (mkF m 232 #[iv p0, iv p1, iv p2, iv p3, iv p4, iv (4:Int32), rv b94, iv p4, iv w0_1, rv cl_115, iv (1:Int32)] [])) _
          refine XS.iload X111.here hx rfl (hb hby at_232) rfl ?_
          show Steps p.tables e below (T111.setTop (mkF m 234 #[iv p0, iv p1, iv p2, iv p3, iv p4, iv (4:Int32), rv b94, iv p4, iv w0_1, rv cl_115, iv (1:Int32)] [(.int (4:Int32))])) _
          refine XS.iconst X111.here hx rfl (hb hby at_234) ?_
          show Steps p.tables e below (T111.setTop (mkF m 235 #[iv p0, iv p1, iv p2, iv p3, iv p4, iv (4:Int32), rv b94, iv p4, iv w0_1, rv cl_115, iv (1:Int32)] [(.int (2:Int32)), (.int (4:Int32))])) _
          refine XS.icmpNo X111.here hx rfl (hb hby at_235) rfl (XT.ii_le_f (by decide)) ?_
          show Steps p.tables e below (T111.setTop (mkF m 238 #[iv p0, iv p1, iv p2, iv p3, iv p4, iv (4:Int32), rv b94, iv p4, iv w0_1, rv cl_115, iv (1:Int32)] [])) _
          refine XS.iload X111.here hx rfl (hb hby at_238) rfl ?_
          show Steps p.tables e below (T111.setTop (mkF m 240 #[iv p0, iv p1, iv p2, iv p3, iv p4, iv (4:Int32), rv b94, iv p4, iv w0_1, rv cl_115, iv (1:Int32)] [(.int (1:Int32))])) _
          refine XS.ifNo X111.here hx rfl (hb hby at_240) rfl (XT.i0_eq_f (by decide)) ?_
          show Steps p.tables e below (T111.setTop (mkF m 243 #[iv p0, iv p1, iv p2, iv p3, iv p4, iv (4:Int32), rv b94, iv p4, iv w0_1, rv cl_115, iv (1:Int32)] [])) _
          refine XS.aload X111.here hx rfl (hb hby at_243) rfl rfl ?_
          show Steps p.tables e below (T111.setTop (mkF m 245 #[iv p0, iv p1, iv p2, iv p3, iv p4, iv (4:Int32), rv b94, iv p4, iv w0_1, rv cl_115, iv (1:Int32)] [(.ref cl_115)])) _
          refine XS.iconst X111.here hx rfl (hb hby at_245) ?_
          show Steps p.tables e below (T111.setTop (mkF m 246 #[iv p0, iv p1, iv p2, iv p3, iv p4, iv (4:Int32), rv b94, iv p4, iv w0_1, rv cl_115, iv (1:Int32)] [(.int (1:Int32)), (.ref cl_115)])) _
          refine own_baload X111 hx hZ rfl G117 hbn126 rfl rfl (hb hby at_246) ?_
          show Steps p.tables e below (T111.setTop (mkF m 247 #[iv p0, iv p1, iv p2, iv p3, iv p4, iv (4:Int32), rv b94, iv p4, iv w0_1, rv cl_115, iv (1:Int32)] [(.int ((p2.toInt8.toInt32).toInt8.toInt32))])) _
          refine XS.sipush X111.here hx rfl (hb hby at_247) ?_
          show Steps p.tables e below (T111.setTop (mkF m 250 #[iv p0, iv p1, iv p2, iv p3, iv p4, iv (4:Int32), rv b94, iv p4, iv w0_1, rv cl_115, iv (1:Int32)] [(.int (255:Int32)), (.int ((p2.toInt8.toInt32).toInt8.toInt32))])) _
          refine XS.iand X111.here hx rfl (hb hby at_250) rfl ?_
          show Steps p.tables e below (T111.setTop (mkF m 251 #[iv p0, iv p1, iv p2, iv p3, iv p4, iv (4:Int32), rv b94, iv p4, iv w0_1, rv cl_115, iv (1:Int32)] [(.int (((p2.toInt8.toInt32).toInt8.toInt32) &&& (255:Int32)))])) _
          refine XS.iloadN X111.here hx rfl (hb hby at_251) rfl ?_
          show Steps p.tables e below (T111.setTop (mkF m 252 #[iv p0, iv p1, iv p2, iv p3, iv p4, iv (4:Int32), rv b94, iv p4, iv w0_1, rv cl_115, iv (1:Int32)] [(.int p2), (.int (((p2.toInt8.toInt32).toInt8.toInt32) &&& (255:Int32)))])) _
          refine XS.sipush X111.here hx rfl (hb hby at_252) ?_
          show Steps p.tables e below (T111.setTop (mkF m 255 #[iv p0, iv p1, iv p2, iv p3, iv p4, iv (4:Int32), rv b94, iv p4, iv w0_1, rv cl_115, iv (1:Int32)] [(.int (255:Int32)), (.int p2), (.int (((p2.toInt8.toInt32).toInt8.toInt32) &&& (255:Int32)))])) _
          refine XS.iand X111.here hx rfl (hb hby at_255) rfl ?_
          exact k
        by_cases hs256_9 : (((p2.toInt8.toInt32).toInt8.toInt32) &&& (255:Int32)) = (p2 &&& (255:Int32))
        · have hbn127 : own_In (1:Int32) [((p1.toInt8.toInt32).toInt8.toInt32), ((p2.toInt8.toInt32).toInt8.toInt32), ((p3.toInt8.toInt32).toInt8.toInt32), ((w0_1.toInt8.toInt32).toInt8.toInt32)].length := own_lit rfl
          have hbn128 : own_In (2:Int32) [((p1.toInt8.toInt32).toInt8.toInt32), ((p2.toInt8.toInt32).toInt8.toInt32), ((p3.toInt8.toInt32).toInt8.toInt32), ((((((w0_1.toInt8.toInt32).toInt8.toInt32) + (1:Int32)).toInt8.toInt32)).toInt8.toInt32)].length := own_lit rfl
          refine own_pre (A := T111.setTop (mkF m 306 #[iv p0, iv p1, iv p2, iv p3, iv p4, iv (4:Int32), rv b94, iv p4, iv w0_1, rv cl_115, iv (1:Int32)] [(.int (p3 &&& (255:Int32))), (.int (((p3.toInt8.toInt32).toInt8.toInt32) &&& (255:Int32)))])) (fun t k => ?_) ?_
          · show Steps p.tables e below (T111.setTop (mkF m 256 #[iv p0, iv p1, iv p2, iv p3, iv p4, iv (4:Int32), rv b94, iv p4, iv w0_1, rv cl_115, iv (1:Int32)] [(.int (p2 &&& (255:Int32))), (.int (((p2.toInt8.toInt32).toInt8.toInt32) &&& (255:Int32)))])) _
            refine XS.icmpNo X111.here hx rfl (hb hby at_256) rfl (XT.ii_ne_f hs256_9) ?_
            show Steps p.tables e below (T111.setTop (mkF m 259 #[iv p0, iv p1, iv p2, iv p3, iv p4, iv (4:Int32), rv b94, iv p4, iv w0_1, rv cl_115, iv (1:Int32)] [])) _
            refine XS.aload X111.here hx rfl (hb hby at_259) rfl rfl ?_
            show Steps p.tables e below (T111.setTop (mkF m 261 #[iv p0, iv p1, iv p2, iv p3, iv p4, iv (4:Int32), rv b94, iv p4, iv w0_1, rv cl_115, iv (1:Int32)] [(.ref b94)])) _
            refine XS.iconst X111.here hx rfl (hb hby at_261) ?_
            show Steps p.tables e below (T111.setTop (mkF m 262 #[iv p0, iv p1, iv p2, iv p3, iv p4, iv (4:Int32), rv b94, iv p4, iv w0_1, rv cl_115, iv (1:Int32)] [(.int (1:Int32)), (.ref b94)])) _
            refine own_baload X111 hx hZ rfl F120 hbn127 rfl rfl (hb hby at_262) ?_
            show Steps p.tables e below (T111.setTop (mkF m 263 #[iv p0, iv p1, iv p2, iv p3, iv p4, iv (4:Int32), rv b94, iv p4, iv w0_1, rv cl_115, iv (1:Int32)] [(.int ((p2.toInt8.toInt32).toInt8.toInt32))])) _
            refine XS.sipush X111.here hx rfl (hb hby at_263) ?_
            show Steps p.tables e below (T111.setTop (mkF m 266 #[iv p0, iv p1, iv p2, iv p3, iv p4, iv (4:Int32), rv b94, iv p4, iv w0_1, rv cl_115, iv (1:Int32)] [(.int (255:Int32)), (.int ((p2.toInt8.toInt32).toInt8.toInt32))])) _
            refine XS.iand X111.here hx rfl (hb hby at_266) rfl ?_
            show Steps p.tables e below (T111.setTop (mkF m 267 #[iv p0, iv p1, iv p2, iv p3, iv p4, iv (4:Int32), rv b94, iv p4, iv w0_1, rv cl_115, iv (1:Int32)] [(.int (((p2.toInt8.toInt32).toInt8.toInt32) &&& (255:Int32)))])) _
            refine XS.iloadN X111.here hx rfl (hb hby at_267) rfl ?_
            show Steps p.tables e below (T111.setTop (mkF m 268 #[iv p0, iv p1, iv p2, iv p3, iv p4, iv (4:Int32), rv b94, iv p4, iv w0_1, rv cl_115, iv (1:Int32)] [(.int p2), (.int (((p2.toInt8.toInt32).toInt8.toInt32) &&& (255:Int32)))])) _
            refine XS.sipush X111.here hx rfl (hb hby at_268) ?_
            show Steps p.tables e below (T111.setTop (mkF m 271 #[iv p0, iv p1, iv p2, iv p3, iv p4, iv (4:Int32), rv b94, iv p4, iv w0_1, rv cl_115, iv (1:Int32)] [(.int (255:Int32)), (.int p2), (.int (((p2.toInt8.toInt32).toInt8.toInt32) &&& (255:Int32)))])) _
            refine XS.iand X111.here hx rfl (hb hby at_271) rfl ?_
            show Steps p.tables e below (T111.setTop (mkF m 272 #[iv p0, iv p1, iv p2, iv p3, iv p4, iv (4:Int32), rv b94, iv p4, iv w0_1, rv cl_115, iv (1:Int32)] [(.int (p2 &&& (255:Int32))), (.int (((p2.toInt8.toInt32).toInt8.toInt32) &&& (255:Int32)))])) _
            refine XS.icmpNo X111.here hx rfl (hb hby at_272) rfl (XT.ii_ne_f hs256_9) ?_
            show Steps p.tables e below (T111.setTop (mkF m 275 #[iv p0, iv p1, iv p2, iv p3, iv p4, iv (4:Int32), rv b94, iv p4, iv w0_1, rv cl_115, iv (1:Int32)] [])) _
            refine XS.iconst X111.here hx rfl (hb hby at_275) ?_
            show Steps p.tables e below (T111.setTop (mkF m 276 #[iv p0, iv p1, iv p2, iv p3, iv p4, iv (4:Int32), rv b94, iv p4, iv w0_1, rv cl_115, iv (1:Int32)] [(.int (1:Int32))])) _
            refine XS.goto X111.here hx rfl (pc0 := 276) (pc' := 280) rfl (hb hby at_276) (by decide) (by decide) ?_
            show Steps p.tables e below (T111.setTop (mkF m 280 #[iv p0, iv p1, iv p2, iv p3, iv p4, iv (4:Int32), rv b94, iv p4, iv w0_1, rv cl_115, iv (1:Int32)] [(.int (1:Int32))])) _
            refine XS.istore X111.here hx rfl (hb hby at_280) rfl (l' := #[iv p0, iv p1, iv p2, iv p3, iv p4, iv (4:Int32), rv b94, iv p4, iv w0_1, rv cl_115, iv (1:Int32)]) rfl ?_
            show Steps p.tables e below (T111.setTop (mkF m 282 #[iv p0, iv p1, iv p2, iv p3, iv p4, iv (4:Int32), rv b94, iv p4, iv w0_1, rv cl_115, iv (1:Int32)] [])) _
            refine XS.iload X111.here hx rfl (hb hby at_282) rfl ?_
            show Steps p.tables e below (T111.setTop (mkF m 284 #[iv p0, iv p1, iv p2, iv p3, iv p4, iv (4:Int32), rv b94, iv p4, iv w0_1, rv cl_115, iv (1:Int32)] [(.int (4:Int32))])) _
            refine XS.iconst X111.here hx rfl (hb hby at_284) ?_
            show Steps p.tables e below (T111.setTop (mkF m 285 #[iv p0, iv p1, iv p2, iv p3, iv p4, iv (4:Int32), rv b94, iv p4, iv w0_1, rv cl_115, iv (1:Int32)] [(.int (3:Int32)), (.int (4:Int32))])) _
            refine XS.icmpNo X111.here hx rfl (hb hby at_285) rfl (XT.ii_le_f (by decide)) ?_
            show Steps p.tables e below (T111.setTop (mkF m 288 #[iv p0, iv p1, iv p2, iv p3, iv p4, iv (4:Int32), rv b94, iv p4, iv w0_1, rv cl_115, iv (1:Int32)] [])) _
            refine XS.iload X111.here hx rfl (hb hby at_288) rfl ?_
            show Steps p.tables e below (T111.setTop (mkF m 290 #[iv p0, iv p1, iv p2, iv p3, iv p4, iv (4:Int32), rv b94, iv p4, iv w0_1, rv cl_115, iv (1:Int32)] [(.int (1:Int32))])) _
            refine XS.ifNo X111.here hx rfl (hb hby at_290) rfl (XT.i0_eq_f (by decide)) ?_
            show Steps p.tables e below (T111.setTop (mkF m 293 #[iv p0, iv p1, iv p2, iv p3, iv p4, iv (4:Int32), rv b94, iv p4, iv w0_1, rv cl_115, iv (1:Int32)] [])) _
            refine XS.aload X111.here hx rfl (hb hby at_293) rfl rfl ?_
            show Steps p.tables e below (T111.setTop (mkF m 295 #[iv p0, iv p1, iv p2, iv p3, iv p4, iv (4:Int32), rv b94, iv p4, iv w0_1, rv cl_115, iv (1:Int32)] [(.ref cl_115)])) _
            refine XS.iconst X111.here hx rfl (hb hby at_295) ?_
            show Steps p.tables e below (T111.setTop (mkF m 296 #[iv p0, iv p1, iv p2, iv p3, iv p4, iv (4:Int32), rv b94, iv p4, iv w0_1, rv cl_115, iv (1:Int32)] [(.int (2:Int32)), (.ref cl_115)])) _
            refine own_baload X111 hx hZ rfl G117 hbn128 rfl rfl (hb hby at_296) ?_
            show Steps p.tables e below (T111.setTop (mkF m 297 #[iv p0, iv p1, iv p2, iv p3, iv p4, iv (4:Int32), rv b94, iv p4, iv w0_1, rv cl_115, iv (1:Int32)] [(.int ((p3.toInt8.toInt32).toInt8.toInt32))])) _
            refine XS.sipush X111.here hx rfl (hb hby at_297) ?_
            show Steps p.tables e below (T111.setTop (mkF m 300 #[iv p0, iv p1, iv p2, iv p3, iv p4, iv (4:Int32), rv b94, iv p4, iv w0_1, rv cl_115, iv (1:Int32)] [(.int (255:Int32)), (.int ((p3.toInt8.toInt32).toInt8.toInt32))])) _
            refine XS.iand X111.here hx rfl (hb hby at_300) rfl ?_
            show Steps p.tables e below (T111.setTop (mkF m 301 #[iv p0, iv p1, iv p2, iv p3, iv p4, iv (4:Int32), rv b94, iv p4, iv w0_1, rv cl_115, iv (1:Int32)] [(.int (((p3.toInt8.toInt32).toInt8.toInt32) &&& (255:Int32)))])) _
            refine XS.iloadN X111.here hx rfl (hb hby at_301) rfl ?_
            show Steps p.tables e below (T111.setTop (mkF m 302 #[iv p0, iv p1, iv p2, iv p3, iv p4, iv (4:Int32), rv b94, iv p4, iv w0_1, rv cl_115, iv (1:Int32)] [(.int p3), (.int (((p3.toInt8.toInt32).toInt8.toInt32) &&& (255:Int32)))])) _
            refine XS.sipush X111.here hx rfl (hb hby at_302) ?_
            show Steps p.tables e below (T111.setTop (mkF m 305 #[iv p0, iv p1, iv p2, iv p3, iv p4, iv (4:Int32), rv b94, iv p4, iv w0_1, rv cl_115, iv (1:Int32)] [(.int (255:Int32)), (.int p3), (.int (((p3.toInt8.toInt32).toInt8.toInt32) &&& (255:Int32)))])) _
            refine XS.iand X111.here hx rfl (hb hby at_305) rfl ?_
            exact k
          by_cases hs306_11 : (((p3.toInt8.toInt32).toInt8.toInt32) &&& (255:Int32)) = (p3 &&& (255:Int32))
          · have hbn129 : own_In (2:Int32) [((p1.toInt8.toInt32).toInt8.toInt32), ((p2.toInt8.toInt32).toInt8.toInt32), ((p3.toInt8.toInt32).toInt8.toInt32), ((w0_1.toInt8.toInt32).toInt8.toInt32)].length := own_lit rfl
            refine own_pre (A := T111.setTop (mkF m 334 #[iv p0, iv p1, iv p2, iv p3, iv p4, iv (4:Int32), rv b94, iv p4, iv w0_1, rv cl_115, iv (1:Int32)] [(.int (1:Int32))])) (fun t k => ?_) ?_
            · show Steps p.tables e below (T111.setTop (mkF m 306 #[iv p0, iv p1, iv p2, iv p3, iv p4, iv (4:Int32), rv b94, iv p4, iv w0_1, rv cl_115, iv (1:Int32)] [(.int (p3 &&& (255:Int32))), (.int (((p3.toInt8.toInt32).toInt8.toInt32) &&& (255:Int32)))])) _
              refine XS.icmpNo X111.here hx rfl (hb hby at_306) rfl (XT.ii_ne_f hs306_11) ?_
              show Steps p.tables e below (T111.setTop (mkF m 309 #[iv p0, iv p1, iv p2, iv p3, iv p4, iv (4:Int32), rv b94, iv p4, iv w0_1, rv cl_115, iv (1:Int32)] [])) _
              refine XS.aload X111.here hx rfl (hb hby at_309) rfl rfl ?_
              show Steps p.tables e below (T111.setTop (mkF m 311 #[iv p0, iv p1, iv p2, iv p3, iv p4, iv (4:Int32), rv b94, iv p4, iv w0_1, rv cl_115, iv (1:Int32)] [(.ref b94)])) _
              refine XS.iconst X111.here hx rfl (hb hby at_311) ?_
              show Steps p.tables e below (T111.setTop (mkF m 312 #[iv p0, iv p1, iv p2, iv p3, iv p4, iv (4:Int32), rv b94, iv p4, iv w0_1, rv cl_115, iv (1:Int32)] [(.int (2:Int32)), (.ref b94)])) _
              refine own_baload X111 hx hZ rfl F120 hbn129 rfl rfl (hb hby at_312) ?_
              show Steps p.tables e below (T111.setTop (mkF m 313 #[iv p0, iv p1, iv p2, iv p3, iv p4, iv (4:Int32), rv b94, iv p4, iv w0_1, rv cl_115, iv (1:Int32)] [(.int ((p3.toInt8.toInt32).toInt8.toInt32))])) _
              refine XS.sipush X111.here hx rfl (hb hby at_313) ?_
              show Steps p.tables e below (T111.setTop (mkF m 316 #[iv p0, iv p1, iv p2, iv p3, iv p4, iv (4:Int32), rv b94, iv p4, iv w0_1, rv cl_115, iv (1:Int32)] [(.int (255:Int32)), (.int ((p3.toInt8.toInt32).toInt8.toInt32))])) _
              refine XS.iand X111.here hx rfl (hb hby at_316) rfl ?_
              show Steps p.tables e below (T111.setTop (mkF m 317 #[iv p0, iv p1, iv p2, iv p3, iv p4, iv (4:Int32), rv b94, iv p4, iv w0_1, rv cl_115, iv (1:Int32)] [(.int (((p3.toInt8.toInt32).toInt8.toInt32) &&& (255:Int32)))])) _
              refine XS.iloadN X111.here hx rfl (hb hby at_317) rfl ?_
              show Steps p.tables e below (T111.setTop (mkF m 318 #[iv p0, iv p1, iv p2, iv p3, iv p4, iv (4:Int32), rv b94, iv p4, iv w0_1, rv cl_115, iv (1:Int32)] [(.int p3), (.int (((p3.toInt8.toInt32).toInt8.toInt32) &&& (255:Int32)))])) _
              refine XS.sipush X111.here hx rfl (hb hby at_318) ?_
              show Steps p.tables e below (T111.setTop (mkF m 321 #[iv p0, iv p1, iv p2, iv p3, iv p4, iv (4:Int32), rv b94, iv p4, iv w0_1, rv cl_115, iv (1:Int32)] [(.int (255:Int32)), (.int p3), (.int (((p3.toInt8.toInt32).toInt8.toInt32) &&& (255:Int32)))])) _
              refine XS.iand X111.here hx rfl (hb hby at_321) rfl ?_
              show Steps p.tables e below (T111.setTop (mkF m 322 #[iv p0, iv p1, iv p2, iv p3, iv p4, iv (4:Int32), rv b94, iv p4, iv w0_1, rv cl_115, iv (1:Int32)] [(.int (p3 &&& (255:Int32))), (.int (((p3.toInt8.toInt32).toInt8.toInt32) &&& (255:Int32)))])) _
              refine XS.icmpNo X111.here hx rfl (hb hby at_322) rfl (XT.ii_ne_f hs306_11) ?_
              show Steps p.tables e below (T111.setTop (mkF m 325 #[iv p0, iv p1, iv p2, iv p3, iv p4, iv (4:Int32), rv b94, iv p4, iv w0_1, rv cl_115, iv (1:Int32)] [])) _
              refine XS.iconst X111.here hx rfl (hb hby at_325) ?_
              show Steps p.tables e below (T111.setTop (mkF m 326 #[iv p0, iv p1, iv p2, iv p3, iv p4, iv (4:Int32), rv b94, iv p4, iv w0_1, rv cl_115, iv (1:Int32)] [(.int (1:Int32))])) _
              refine XS.goto X111.here hx rfl (pc0 := 326) (pc' := 330) rfl (hb hby at_326) (by decide) (by decide) ?_
              show Steps p.tables e below (T111.setTop (mkF m 330 #[iv p0, iv p1, iv p2, iv p3, iv p4, iv (4:Int32), rv b94, iv p4, iv w0_1, rv cl_115, iv (1:Int32)] [(.int (1:Int32))])) _
              refine XS.istore X111.here hx rfl (hb hby at_330) rfl (l' := #[iv p0, iv p1, iv p2, iv p3, iv p4, iv (4:Int32), rv b94, iv p4, iv w0_1, rv cl_115, iv (1:Int32)]) rfl ?_
              show Steps p.tables e below (T111.setTop (mkF m 332 #[iv p0, iv p1, iv p2, iv p3, iv p4, iv (4:Int32), rv b94, iv p4, iv w0_1, rv cl_115, iv (1:Int32)] [])) _
              refine XS.iload X111.here hx rfl (hb hby at_332) rfl ?_
              exact k
            have hv130 : (1:Int32) = f0d p0 p1 p2 p3 p4 := by subst hw0_1 hw0_2; simp only [f0d, if_pos hs154_2, if_neg hs190_5, if_pos hs206_7, if_pos hs256_9, if_pos hs306_11]
            exact own_end X111 (BodyLoose.notSynchronized Bd) (fun h => by rw [Bd.returns] at h; cases h) (v := some (.int (1:Int32))) (fun fs hr => retN X111 hx (t := .boolean) Bd.returns (by simp) (hb hby at_334) hr) (by show Q0d Z p0 p1 p2 p3 p4 h0 n0 _ T111.heap _; exact ⟨(congrArg (fun z => some (Value.int z)) hv130), N111⟩) (by decide) (by decide)
          · refine own_pre (A := T111.setTop (mkF m 334 #[iv p0, iv p1, iv p2, iv p3, iv p4, iv (4:Int32), rv b94, iv p4, iv w0_1, rv cl_115, iv (0:Int32)] [(.int (0:Int32))])) (fun t k => ?_) ?_
            · show Steps p.tables e below (T111.setTop (mkF m 306 #[iv p0, iv p1, iv p2, iv p3, iv p4, iv (4:Int32), rv b94, iv p4, iv w0_1, rv cl_115, iv (1:Int32)] [(.int (p3 &&& (255:Int32))), (.int (((p3.toInt8.toInt32).toInt8.toInt32) &&& (255:Int32)))])) _
              refine XS.icmpYes X111.here hx rfl (pc0 := 306) (pc' := 329) rfl (hb hby at_306) rfl (XT.ii_ne_t hs306_11) (by decide) (by decide) ?_
              show Steps p.tables e below (T111.setTop (mkF m 329 #[iv p0, iv p1, iv p2, iv p3, iv p4, iv (4:Int32), rv b94, iv p4, iv w0_1, rv cl_115, iv (1:Int32)] [])) _
              refine XS.iconst X111.here hx rfl (hb hby at_329) ?_
              show Steps p.tables e below (T111.setTop (mkF m 330 #[iv p0, iv p1, iv p2, iv p3, iv p4, iv (4:Int32), rv b94, iv p4, iv w0_1, rv cl_115, iv (1:Int32)] [(.int (0:Int32))])) _
              refine XS.istore X111.here hx rfl (hb hby at_330) rfl (l' := #[iv p0, iv p1, iv p2, iv p3, iv p4, iv (4:Int32), rv b94, iv p4, iv w0_1, rv cl_115, iv (0:Int32)]) rfl ?_
              show Steps p.tables e below (T111.setTop (mkF m 332 #[iv p0, iv p1, iv p2, iv p3, iv p4, iv (4:Int32), rv b94, iv p4, iv w0_1, rv cl_115, iv (0:Int32)] [])) _
              refine XS.iload X111.here hx rfl (hb hby at_332) rfl ?_
              exact k
            have hv131 : (0:Int32) = f0d p0 p1 p2 p3 p4 := by subst hw0_1 hw0_2; simp only [f0d, if_pos hs154_2, if_neg hs190_5, if_pos hs206_7, if_pos hs256_9, if_neg hs306_11]
            exact own_end X111 (BodyLoose.notSynchronized Bd) (fun h => by rw [Bd.returns] at h; cases h) (v := some (.int (0:Int32))) (fun fs hr => retN X111 hx (t := .boolean) Bd.returns (by simp) (hb hby at_334) hr) (by show Q0d Z p0 p1 p2 p3 p4 h0 n0 _ T111.heap _; exact ⟨(congrArg (fun z => some (Value.int z)) hv131), N111⟩) (by decide) (by decide)
        · refine own_pre (A := T111.setTop (mkF m 334 #[iv p0, iv p1, iv p2, iv p3, iv p4, iv (4:Int32), rv b94, iv p4, iv w0_1, rv cl_115, iv (0:Int32)] [(.int (0:Int32))])) (fun t k => ?_) ?_
          · show Steps p.tables e below (T111.setTop (mkF m 256 #[iv p0, iv p1, iv p2, iv p3, iv p4, iv (4:Int32), rv b94, iv p4, iv w0_1, rv cl_115, iv (1:Int32)] [(.int (p2 &&& (255:Int32))), (.int (((p2.toInt8.toInt32).toInt8.toInt32) &&& (255:Int32)))])) _
            refine XS.icmpYes X111.here hx rfl (pc0 := 256) (pc' := 279) rfl (hb hby at_256) rfl (XT.ii_ne_t hs256_9) (by decide) (by decide) ?_
            show Steps p.tables e below (T111.setTop (mkF m 279 #[iv p0, iv p1, iv p2, iv p3, iv p4, iv (4:Int32), rv b94, iv p4, iv w0_1, rv cl_115, iv (1:Int32)] [])) _
            refine XS.iconst X111.here hx rfl (hb hby at_279) ?_
            show Steps p.tables e below (T111.setTop (mkF m 280 #[iv p0, iv p1, iv p2, iv p3, iv p4, iv (4:Int32), rv b94, iv p4, iv w0_1, rv cl_115, iv (1:Int32)] [(.int (0:Int32))])) _
            refine XS.istore X111.here hx rfl (hb hby at_280) rfl (l' := #[iv p0, iv p1, iv p2, iv p3, iv p4, iv (4:Int32), rv b94, iv p4, iv w0_1, rv cl_115, iv (0:Int32)]) rfl ?_
            show Steps p.tables e below (T111.setTop (mkF m 282 #[iv p0, iv p1, iv p2, iv p3, iv p4, iv (4:Int32), rv b94, iv p4, iv w0_1, rv cl_115, iv (0:Int32)] [])) _
            refine XS.iload X111.here hx rfl (hb hby at_282) rfl ?_
            show Steps p.tables e below (T111.setTop (mkF m 284 #[iv p0, iv p1, iv p2, iv p3, iv p4, iv (4:Int32), rv b94, iv p4, iv w0_1, rv cl_115, iv (0:Int32)] [(.int (4:Int32))])) _
            refine XS.iconst X111.here hx rfl (hb hby at_284) ?_
            show Steps p.tables e below (T111.setTop (mkF m 285 #[iv p0, iv p1, iv p2, iv p3, iv p4, iv (4:Int32), rv b94, iv p4, iv w0_1, rv cl_115, iv (0:Int32)] [(.int (3:Int32)), (.int (4:Int32))])) _
            refine XS.icmpNo X111.here hx rfl (hb hby at_285) rfl (XT.ii_le_f (by decide)) ?_
            show Steps p.tables e below (T111.setTop (mkF m 288 #[iv p0, iv p1, iv p2, iv p3, iv p4, iv (4:Int32), rv b94, iv p4, iv w0_1, rv cl_115, iv (0:Int32)] [])) _
            refine XS.iload X111.here hx rfl (hb hby at_288) rfl ?_
            show Steps p.tables e below (T111.setTop (mkF m 290 #[iv p0, iv p1, iv p2, iv p3, iv p4, iv (4:Int32), rv b94, iv p4, iv w0_1, rv cl_115, iv (0:Int32)] [(.int (0:Int32))])) _
            refine XS.ifYes X111.here hx rfl (pc0 := 290) (pc' := 329) rfl (hb hby at_290) rfl (XT.i0_eq_t rfl) (by decide) (by decide) ?_
            show Steps p.tables e below (T111.setTop (mkF m 329 #[iv p0, iv p1, iv p2, iv p3, iv p4, iv (4:Int32), rv b94, iv p4, iv w0_1, rv cl_115, iv (0:Int32)] [])) _
            refine XS.iconst X111.here hx rfl (hb hby at_329) ?_
            show Steps p.tables e below (T111.setTop (mkF m 330 #[iv p0, iv p1, iv p2, iv p3, iv p4, iv (4:Int32), rv b94, iv p4, iv w0_1, rv cl_115, iv (0:Int32)] [(.int (0:Int32))])) _
            refine XS.istore X111.here hx rfl (hb hby at_330) rfl (l' := #[iv p0, iv p1, iv p2, iv p3, iv p4, iv (4:Int32), rv b94, iv p4, iv w0_1, rv cl_115, iv (0:Int32)]) rfl ?_
            show Steps p.tables e below (T111.setTop (mkF m 332 #[iv p0, iv p1, iv p2, iv p3, iv p4, iv (4:Int32), rv b94, iv p4, iv w0_1, rv cl_115, iv (0:Int32)] [])) _
            refine XS.iload X111.here hx rfl (hb hby at_332) rfl ?_
            exact k
          have hv132 : (0:Int32) = f0d p0 p1 p2 p3 p4 := by subst hw0_1 hw0_2; simp only [f0d, if_pos hs154_2, if_neg hs190_5, if_pos hs206_7, if_neg hs256_9]
          exact own_end X111 (BodyLoose.notSynchronized Bd) (fun h => by rw [Bd.returns] at h; cases h) (v := some (.int (0:Int32))) (fun fs hr => retN X111 hx (t := .boolean) Bd.returns (by simp) (hb hby at_334) hr) (by show Q0d Z p0 p1 p2 p3 p4 h0 n0 _ T111.heap _; exact ⟨(congrArg (fun z => some (Value.int z)) hv132), N111⟩) (by decide) (by decide)
      · refine own_pre (A := T111.setTop (mkF m 334 #[iv p0, iv p1, iv p2, iv p3, iv p4, iv (4:Int32), rv b94, iv p4, iv w0_1, rv cl_115, iv (0:Int32)] [(.int (0:Int32))])) (fun t k => ?_) ?_
        · show Steps p.tables e below (T111.setTop (mkF m 206 #[iv p0, iv p1, iv p2, iv p3, iv p4, iv (4:Int32), rv b94, iv p4, iv w0_1, rv cl_115, iv w0_2] [(.int (p1 &&& (255:Int32))), (.int (((p1.toInt8.toInt32).toInt8.toInt32) &&& (255:Int32)))])) _
          refine XS.icmpYes X111.here hx rfl (pc0 := 206) (pc' := 229) rfl (hb hby at_206) rfl (XT.ii_ne_t hs206_7) (by decide) (by decide) ?_
          show Steps p.tables e below (T111.setTop (mkF m 229 #[iv p0, iv p1, iv p2, iv p3, iv p4, iv (4:Int32), rv b94, iv p4, iv w0_1, rv cl_115, iv w0_2] [])) _
          refine XS.iconst X111.here hx rfl (hb hby at_229) ?_
          show Steps p.tables e below (T111.setTop (mkF m 230 #[iv p0, iv p1, iv p2, iv p3, iv p4, iv (4:Int32), rv b94, iv p4, iv w0_1, rv cl_115, iv w0_2] [(.int (0:Int32))])) _
          refine XS.istore X111.here hx rfl (hb hby at_230) rfl (l' := #[iv p0, iv p1, iv p2, iv p3, iv p4, iv (4:Int32), rv b94, iv p4, iv w0_1, rv cl_115, iv (0:Int32)]) rfl ?_
          show Steps p.tables e below (T111.setTop (mkF m 232 #[iv p0, iv p1, iv p2, iv p3, iv p4, iv (4:Int32), rv b94, iv p4, iv w0_1, rv cl_115, iv (0:Int32)] [])) _
          refine XS.iload X111.here hx rfl (hb hby at_232) rfl ?_
          show Steps p.tables e below (T111.setTop (mkF m 234 #[iv p0, iv p1, iv p2, iv p3, iv p4, iv (4:Int32), rv b94, iv p4, iv w0_1, rv cl_115, iv (0:Int32)] [(.int (4:Int32))])) _
          refine XS.iconst X111.here hx rfl (hb hby at_234) ?_
          show Steps p.tables e below (T111.setTop (mkF m 235 #[iv p0, iv p1, iv p2, iv p3, iv p4, iv (4:Int32), rv b94, iv p4, iv w0_1, rv cl_115, iv (0:Int32)] [(.int (2:Int32)), (.int (4:Int32))])) _
          refine XS.icmpNo X111.here hx rfl (hb hby at_235) rfl (XT.ii_le_f (by decide)) ?_
          show Steps p.tables e below (T111.setTop (mkF m 238 #[iv p0, iv p1, iv p2, iv p3, iv p4, iv (4:Int32), rv b94, iv p4, iv w0_1, rv cl_115, iv (0:Int32)] [])) _
          refine XS.iload X111.here hx rfl (hb hby at_238) rfl ?_
          show Steps p.tables e below (T111.setTop (mkF m 240 #[iv p0, iv p1, iv p2, iv p3, iv p4, iv (4:Int32), rv b94, iv p4, iv w0_1, rv cl_115, iv (0:Int32)] [(.int (0:Int32))])) _
          refine XS.ifYes X111.here hx rfl (pc0 := 240) (pc' := 279) rfl (hb hby at_240) rfl (XT.i0_eq_t rfl) (by decide) (by decide) ?_
          show Steps p.tables e below (T111.setTop (mkF m 279 #[iv p0, iv p1, iv p2, iv p3, iv p4, iv (4:Int32), rv b94, iv p4, iv w0_1, rv cl_115, iv (0:Int32)] [])) _
          refine XS.iconst X111.here hx rfl (hb hby at_279) ?_
          show Steps p.tables e below (T111.setTop (mkF m 280 #[iv p0, iv p1, iv p2, iv p3, iv p4, iv (4:Int32), rv b94, iv p4, iv w0_1, rv cl_115, iv (0:Int32)] [(.int (0:Int32))])) _
          refine XS.istore X111.here hx rfl (hb hby at_280) rfl (l' := #[iv p0, iv p1, iv p2, iv p3, iv p4, iv (4:Int32), rv b94, iv p4, iv w0_1, rv cl_115, iv (0:Int32)]) rfl ?_
          show Steps p.tables e below (T111.setTop (mkF m 282 #[iv p0, iv p1, iv p2, iv p3, iv p4, iv (4:Int32), rv b94, iv p4, iv w0_1, rv cl_115, iv (0:Int32)] [])) _
          refine XS.iload X111.here hx rfl (hb hby at_282) rfl ?_
          show Steps p.tables e below (T111.setTop (mkF m 284 #[iv p0, iv p1, iv p2, iv p3, iv p4, iv (4:Int32), rv b94, iv p4, iv w0_1, rv cl_115, iv (0:Int32)] [(.int (4:Int32))])) _
          refine XS.iconst X111.here hx rfl (hb hby at_284) ?_
          show Steps p.tables e below (T111.setTop (mkF m 285 #[iv p0, iv p1, iv p2, iv p3, iv p4, iv (4:Int32), rv b94, iv p4, iv w0_1, rv cl_115, iv (0:Int32)] [(.int (3:Int32)), (.int (4:Int32))])) _
          refine XS.icmpNo X111.here hx rfl (hb hby at_285) rfl (XT.ii_le_f (by decide)) ?_
          show Steps p.tables e below (T111.setTop (mkF m 288 #[iv p0, iv p1, iv p2, iv p3, iv p4, iv (4:Int32), rv b94, iv p4, iv w0_1, rv cl_115, iv (0:Int32)] [])) _
          refine XS.iload X111.here hx rfl (hb hby at_288) rfl ?_
          show Steps p.tables e below (T111.setTop (mkF m 290 #[iv p0, iv p1, iv p2, iv p3, iv p4, iv (4:Int32), rv b94, iv p4, iv w0_1, rv cl_115, iv (0:Int32)] [(.int (0:Int32))])) _
          refine XS.ifYes X111.here hx rfl (pc0 := 290) (pc' := 329) rfl (hb hby at_290) rfl (XT.i0_eq_t rfl) (by decide) (by decide) ?_
          show Steps p.tables e below (T111.setTop (mkF m 329 #[iv p0, iv p1, iv p2, iv p3, iv p4, iv (4:Int32), rv b94, iv p4, iv w0_1, rv cl_115, iv (0:Int32)] [])) _
          refine XS.iconst X111.here hx rfl (hb hby at_329) ?_
          show Steps p.tables e below (T111.setTop (mkF m 330 #[iv p0, iv p1, iv p2, iv p3, iv p4, iv (4:Int32), rv b94, iv p4, iv w0_1, rv cl_115, iv (0:Int32)] [(.int (0:Int32))])) _
          refine XS.istore X111.here hx rfl (hb hby at_330) rfl (l' := #[iv p0, iv p1, iv p2, iv p3, iv p4, iv (4:Int32), rv b94, iv p4, iv w0_1, rv cl_115, iv (0:Int32)]) rfl ?_
          show Steps p.tables e below (T111.setTop (mkF m 332 #[iv p0, iv p1, iv p2, iv p3, iv p4, iv (4:Int32), rv b94, iv p4, iv w0_1, rv cl_115, iv (0:Int32)] [])) _
          refine XS.iload X111.here hx rfl (hb hby at_332) rfl ?_
          exact k
        have hv133 : (0:Int32) = f0d p0 p1 p2 p3 p4 := by subst hw0_1 hw0_2; simp only [f0d, if_pos hs154_2, if_neg hs190_5, if_neg hs206_7]
        exact own_end X111 (BodyLoose.notSynchronized Bd) (fun h => by rw [Bd.returns] at h; cases h) (v := some (.int (0:Int32))) (fun fs hr => retN X111 hx (t := .boolean) Bd.returns (by simp) (hb hby at_334) hr) (by show Q0d Z p0 p1 p2 p3 p4 h0 n0 _ T111.heap _; exact ⟨(congrArg (fun z => some (Value.int z)) hv133), N111⟩) (by decide) (by decide)
  · refine own_pre (A := T111.setTop (mkF m 334 #[iv p0, iv p1, iv p2, iv p3, iv p4, iv (4:Int32), rv b94, iv p4, iv w0_1, rv cl_115, iv (0:Int32)] [(.int (0:Int32))])) (fun t k => ?_) ?_
    · show Steps p.tables e below (T111.setTop (mkF m 154 #[iv p0, iv p1, iv p2, iv p3, iv p4, iv (4:Int32), rv b94, iv p4, iv w0_1, rv cl_115, .unset] [(.int w0_1), (.int (((w0_1.toInt8.toInt32).toInt8.toInt32) &&& (255:Int32)))])) _
      refine XS.icmpYes X111.here hx rfl (pc0 := 154) (pc' := 179) rfl (hb hby at_154) rfl (XT.ii_ne_t hs154_2) (by decide) (by decide) ?_
      show Steps p.tables e below (T111.setTop (mkF m 179 #[iv p0, iv p1, iv p2, iv p3, iv p4, iv (4:Int32), rv b94, iv p4, iv w0_1, rv cl_115, .unset] [])) _
      refine XS.iconst X111.here hx rfl (hb hby at_179) ?_
      show Steps p.tables e below (T111.setTop (mkF m 180 #[iv p0, iv p1, iv p2, iv p3, iv p4, iv (4:Int32), rv b94, iv p4, iv w0_1, rv cl_115, .unset] [(.int (0:Int32))])) _
      refine XS.istore X111.here hx rfl (hb hby at_180) rfl (l' := #[iv p0, iv p1, iv p2, iv p3, iv p4, iv (4:Int32), rv b94, iv p4, iv w0_1, rv cl_115, iv (0:Int32)]) rfl ?_
      show Steps p.tables e below (T111.setTop (mkF m 182 #[iv p0, iv p1, iv p2, iv p3, iv p4, iv (4:Int32), rv b94, iv p4, iv w0_1, rv cl_115, iv (0:Int32)] [])) _
      refine XS.iload X111.here hx rfl (hb hby at_182) rfl ?_
      show Steps p.tables e below (T111.setTop (mkF m 184 #[iv p0, iv p1, iv p2, iv p3, iv p4, iv (4:Int32), rv b94, iv p4, iv w0_1, rv cl_115, iv (0:Int32)] [(.int (4:Int32))])) _
      refine XS.iconst X111.here hx rfl (hb hby at_184) ?_
      show Steps p.tables e below (T111.setTop (mkF m 185 #[iv p0, iv p1, iv p2, iv p3, iv p4, iv (4:Int32), rv b94, iv p4, iv w0_1, rv cl_115, iv (0:Int32)] [(.int (1:Int32)), (.int (4:Int32))])) _
      refine XS.icmpNo X111.here hx rfl (hb hby at_185) rfl (XT.ii_le_f (by decide)) ?_
      show Steps p.tables e below (T111.setTop (mkF m 188 #[iv p0, iv p1, iv p2, iv p3, iv p4, iv (4:Int32), rv b94, iv p4, iv w0_1, rv cl_115, iv (0:Int32)] [])) _
      refine XS.iload X111.here hx rfl (hb hby at_188) rfl ?_
      show Steps p.tables e below (T111.setTop (mkF m 190 #[iv p0, iv p1, iv p2, iv p3, iv p4, iv (4:Int32), rv b94, iv p4, iv w0_1, rv cl_115, iv (0:Int32)] [(.int (0:Int32))])) _
      refine XS.ifYes X111.here hx rfl (pc0 := 190) (pc' := 229) rfl (hb hby at_190) rfl (XT.i0_eq_t rfl) (by decide) (by decide) ?_
      show Steps p.tables e below (T111.setTop (mkF m 229 #[iv p0, iv p1, iv p2, iv p3, iv p4, iv (4:Int32), rv b94, iv p4, iv w0_1, rv cl_115, iv (0:Int32)] [])) _
      refine XS.iconst X111.here hx rfl (hb hby at_229) ?_
      show Steps p.tables e below (T111.setTop (mkF m 230 #[iv p0, iv p1, iv p2, iv p3, iv p4, iv (4:Int32), rv b94, iv p4, iv w0_1, rv cl_115, iv (0:Int32)] [(.int (0:Int32))])) _
      refine XS.istore X111.here hx rfl (hb hby at_230) rfl (l' := #[iv p0, iv p1, iv p2, iv p3, iv p4, iv (4:Int32), rv b94, iv p4, iv w0_1, rv cl_115, iv (0:Int32)]) rfl ?_
      show Steps p.tables e below (T111.setTop (mkF m 232 #[iv p0, iv p1, iv p2, iv p3, iv p4, iv (4:Int32), rv b94, iv p4, iv w0_1, rv cl_115, iv (0:Int32)] [])) _
      refine XS.iload X111.here hx rfl (hb hby at_232) rfl ?_
      show Steps p.tables e below (T111.setTop (mkF m 234 #[iv p0, iv p1, iv p2, iv p3, iv p4, iv (4:Int32), rv b94, iv p4, iv w0_1, rv cl_115, iv (0:Int32)] [(.int (4:Int32))])) _
      refine XS.iconst X111.here hx rfl (hb hby at_234) ?_
      show Steps p.tables e below (T111.setTop (mkF m 235 #[iv p0, iv p1, iv p2, iv p3, iv p4, iv (4:Int32), rv b94, iv p4, iv w0_1, rv cl_115, iv (0:Int32)] [(.int (2:Int32)), (.int (4:Int32))])) _
      refine XS.icmpNo X111.here hx rfl (hb hby at_235) rfl (XT.ii_le_f (by decide)) ?_
      show Steps p.tables e below (T111.setTop (mkF m 238 #[iv p0, iv p1, iv p2, iv p3, iv p4, iv (4:Int32), rv b94, iv p4, iv w0_1, rv cl_115, iv (0:Int32)] [])) _
      refine XS.iload X111.here hx rfl (hb hby at_238) rfl ?_
      show Steps p.tables e below (T111.setTop (mkF m 240 #[iv p0, iv p1, iv p2, iv p3, iv p4, iv (4:Int32), rv b94, iv p4, iv w0_1, rv cl_115, iv (0:Int32)] [(.int (0:Int32))])) _
      refine XS.ifYes X111.here hx rfl (pc0 := 240) (pc' := 279) rfl (hb hby at_240) rfl (XT.i0_eq_t rfl) (by decide) (by decide) ?_
      show Steps p.tables e below (T111.setTop (mkF m 279 #[iv p0, iv p1, iv p2, iv p3, iv p4, iv (4:Int32), rv b94, iv p4, iv w0_1, rv cl_115, iv (0:Int32)] [])) _
      refine XS.iconst X111.here hx rfl (hb hby at_279) ?_
      show Steps p.tables e below (T111.setTop (mkF m 280 #[iv p0, iv p1, iv p2, iv p3, iv p4, iv (4:Int32), rv b94, iv p4, iv w0_1, rv cl_115, iv (0:Int32)] [(.int (0:Int32))])) _
      refine XS.istore X111.here hx rfl (hb hby at_280) rfl (l' := #[iv p0, iv p1, iv p2, iv p3, iv p4, iv (4:Int32), rv b94, iv p4, iv w0_1, rv cl_115, iv (0:Int32)]) rfl ?_
      show Steps p.tables e below (T111.setTop (mkF m 282 #[iv p0, iv p1, iv p2, iv p3, iv p4, iv (4:Int32), rv b94, iv p4, iv w0_1, rv cl_115, iv (0:Int32)] [])) _
      refine XS.iload X111.here hx rfl (hb hby at_282) rfl ?_
      show Steps p.tables e below (T111.setTop (mkF m 284 #[iv p0, iv p1, iv p2, iv p3, iv p4, iv (4:Int32), rv b94, iv p4, iv w0_1, rv cl_115, iv (0:Int32)] [(.int (4:Int32))])) _
      refine XS.iconst X111.here hx rfl (hb hby at_284) ?_
      show Steps p.tables e below (T111.setTop (mkF m 285 #[iv p0, iv p1, iv p2, iv p3, iv p4, iv (4:Int32), rv b94, iv p4, iv w0_1, rv cl_115, iv (0:Int32)] [(.int (3:Int32)), (.int (4:Int32))])) _
      refine XS.icmpNo X111.here hx rfl (hb hby at_285) rfl (XT.ii_le_f (by decide)) ?_
      show Steps p.tables e below (T111.setTop (mkF m 288 #[iv p0, iv p1, iv p2, iv p3, iv p4, iv (4:Int32), rv b94, iv p4, iv w0_1, rv cl_115, iv (0:Int32)] [])) _
      refine XS.iload X111.here hx rfl (hb hby at_288) rfl ?_
      show Steps p.tables e below (T111.setTop (mkF m 290 #[iv p0, iv p1, iv p2, iv p3, iv p4, iv (4:Int32), rv b94, iv p4, iv w0_1, rv cl_115, iv (0:Int32)] [(.int (0:Int32))])) _
      refine XS.ifYes X111.here hx rfl (pc0 := 290) (pc' := 329) rfl (hb hby at_290) rfl (XT.i0_eq_t rfl) (by decide) (by decide) ?_
      show Steps p.tables e below (T111.setTop (mkF m 329 #[iv p0, iv p1, iv p2, iv p3, iv p4, iv (4:Int32), rv b94, iv p4, iv w0_1, rv cl_115, iv (0:Int32)] [])) _
      refine XS.iconst X111.here hx rfl (hb hby at_329) ?_
      show Steps p.tables e below (T111.setTop (mkF m 330 #[iv p0, iv p1, iv p2, iv p3, iv p4, iv (4:Int32), rv b94, iv p4, iv w0_1, rv cl_115, iv (0:Int32)] [(.int (0:Int32))])) _
      refine XS.istore X111.here hx rfl (hb hby at_330) rfl (l' := #[iv p0, iv p1, iv p2, iv p3, iv p4, iv (4:Int32), rv b94, iv p4, iv w0_1, rv cl_115, iv (0:Int32)]) rfl ?_
      show Steps p.tables e below (T111.setTop (mkF m 332 #[iv p0, iv p1, iv p2, iv p3, iv p4, iv (4:Int32), rv b94, iv p4, iv w0_1, rv cl_115, iv (0:Int32)] [])) _
      refine XS.iload X111.here hx rfl (hb hby at_332) rfl ?_
      exact k
    have hv134 : (0:Int32) = f0d p0 p1 p2 p3 p4 := by subst hw0_1; simp only [f0d, if_neg hs154_2]
    exact own_end X111 (BodyLoose.notSynchronized Bd) (fun h => by rw [Bd.returns] at h; cases h) (v := some (.int (0:Int32))) (fun fs hr => retN X111 hx (t := .boolean) Bd.returns (by simp) (hb hby at_334) hr) (by show Q0d Z p0 p1 p2 p3 p4 h0 n0 _ T111.heap _; exact ⟨(congrArg (fun z => some (Value.int z)) hv134), N111⟩) (by decide) (by decide)
theorem own_b8 (x : Int32) : (((x.toInt8.toInt32).toInt8.toInt32) &&& (255:Int32)) = (x &&& (255:Int32)) := by
  have e1 : (((x.toInt8.toInt32).toInt8.toInt32) &&& (255:Int32)).toInt = ((x.toInt8.toInt32).toInt8.toInt32).toInt % 2 ^ 8 := Jvm.Kit.i32_mask _ _ (k := 8) (by decide) (by decide)
  have e2 : (x &&& (255:Int32)).toInt = x.toInt % 2 ^ 8 := Jvm.Kit.i32_mask _ _ (k := 8) (by decide) (by decide)
  rw [← Int32.toInt_inj, e1, e2, Int8.toInt_toInt32, Int32.toInt_toInt8, Int8.toInt_toInt32, Int32.toInt_toInt8]
  have h1 : (x.toInt.bmod (2 ^ 8)).bmod (2 ^ 8) % ((2 ^ 8 : Nat) : Int) = (x.toInt.bmod (2 ^ 8)) % ((2 ^ 8 : Nat) : Int) := Int.bmod_emod
  have h2 : (x.toInt.bmod (2 ^ 8)) % ((2 ^ 8 : Nat) : Int) = x.toInt % ((2 ^ 8 : Nat) : Int) := Int.bmod_emod
  exact h1.trans h2
theorem own_u (p : Int32) : (((((p &&& (255:Int32)) % (255:Int32)).toInt8.toInt32).toInt8.toInt32) &&& (255:Int32)) = ((p &&& (255:Int32)) % (255:Int32)) ∧
    (((((((((p &&& (255:Int32)) % (255:Int32)).toInt8.toInt32).toInt8.toInt32) + (1:Int32)).toInt8.toInt32)).toInt8.toInt32) &&& (255:Int32)) = (((p &&& (255:Int32)) % (255:Int32)) + (1:Int32)) := by
  have key : ∀ n : Fin 255, (((((Int32.ofNat n.val).toInt8.toInt32).toInt8.toInt32) &&& (255:Int32)) = (Int32.ofNat n.val)) ∧ ((((((((Int32.ofNat n.val).toInt8.toInt32).toInt8.toInt32) + (1:Int32)).toInt8.toInt32)).toInt8.toInt32) &&& (255:Int32)) = ((Int32.ofNat n.val) + (1:Int32)) := by decide +kernel
  have e1 : (p &&& (255:Int32)).toInt = p.toInt % 2 ^ 8 := Jvm.Kit.i32_mask p _ (k := 8) (by decide) (by decide)
  have l : (255:Int32).toInt = 255 := by decide
  have e2 : ((p &&& (255:Int32)) % (255:Int32)).toInt = (p.toInt % 2 ^ 8) % 255 := by rw [Int32.toInt_mod, e1, l, Int.tmod_eq_emod_of_nonneg (by omega)]
  generalize (p &&& (255:Int32)) % (255:Int32) = u at *
  have e : u = Int32.ofNat u.toInt.toNat := by
    rw [← Int32.toInt_inj, Int32.toInt_ofNat_small (by omega)]; omega
  have := key ⟨u.toInt.toNat, by omega⟩
  rw [← e] at this
  exact this
theorem own_plaina (p0 p1 p2 p3 p4 : Int32) : f0a p0 p1 p2 p3 p4 = 1 := by
  simp only [f0a, if_pos (own_u p1).1, if_pos (own_u p1).2]; rfl
theorem own_plainb (p0 p1 p2 p3 p4 : Int32) : f0b p0 p1 p2 p3 p4 = 1 := by
  have h1 := (own_u p2).1; have h2 := (own_u p2).2; have h3 := own_b8 p1
  simp only [f0b, if_pos h1, if_pos h2, if_pos h3]; rfl
theorem own_plainc (p0 p1 p2 p3 p4 : Int32) : f0c p0 p1 p2 p3 p4 = 1 := by
  have h1 := (own_u p3).1; have h2 := (own_u p3).2; have h3 := own_b8 p1; have h4 := own_b8 p2
  simp only [f0c, if_pos h1, if_pos h2, if_pos h3, if_pos h4]; rfl
theorem own_plaind (p0 p1 p2 p3 p4 : Int32) : f0d p0 p1 p2 p3 p4 = 1 := by
  have h1 := (own_u p4).1; have h2 := (own_u p4).2; have h3 := own_b8 p1; have h4 := own_b8 p2; have h5 := own_b8 p3
  simp only [f0d, if_pos h1, if_pos h2, if_pos h3, if_pos h4, if_pos h5]; rfl
theorem own_len4 (p0 : Int32) : ((p0 &&& (3:Int32)) + (1:Int32)) = (1:Int32) ∨ ((p0 &&& (3:Int32)) + (1:Int32)) = (2:Int32) ∨ ((p0 &&& (3:Int32)) + (1:Int32)) = (3:Int32) ∨ ((p0 &&& (3:Int32)) + (1:Int32)) = (4:Int32) := by
  have e : (p0 &&& (3:Int32)).toInt = p0.toInt % 2 ^ 2 := Jvm.Kit.i32_mask p0 _ (k := 2) (by decide) (by decide)
  have l1 : (1:Int32).toInt = 1 := by decide
  have l2 : (2:Int32).toInt = 2 := by decide
  have l3 : (3:Int32).toInt = 3 := by decide
  have l4 : (4:Int32).toInt = 4 := by decide
  have e2 : ((p0 &&& (3:Int32)) + (1:Int32)).toInt = p0.toInt % 2 ^ 2 + 1 := by rw [Jvm.Kit.i32_add (by rw [e, l1]; omega) (by rw [e, l1]; omega), e, l1]
  simp only [← Int32.toInt_inj, e2, l1, l2, l3, l4]; omega
set_option maxRecDepth 65536 in
set_option maxHeartbeats 40000000 in
theorem comes_1 {Post : Tables → Env → Array Value → State → Outcome → State → Prop} (hpost : ∀ tb e args s v u, (limb_1_1.after args s (.returned v) u = true ∧ limb_1_2.after args s (.returned v) u = true ∧ True) → FrameEnd s (.returned v) u (Jvm.fieldLocs frame_1_writes args s ++ Jvm.arrayLocs frame_1_arrays args s ++ Jvm.staticLocs frame_1_statics s) 16 128 → Post tb e args s (.returned v) u) :
    ArmFor flags0 classFile x code maxLocals ret World_1 tables_1 room_1 Calls_1 rest_1 Pre_1 Post := by
  intro l hfl _ _ p e ha hc hk s m args below hf hA hF happ hP
  obtain ⟨hcalls, hrest, hpre⟩ := hP
  obtain ⟨-, -, -, hnamed, -, -, -, hat⟩ := (Spec.applies_iff hf).mp happ
  obtain ⟨hg, hn⟩ := and_e (Cond.before_iff.mp (show (Jvm.Cond.and given_1 narrow_1).before args s = true from hpre))
  obtain ⟨g2, g3⟩ := and_e hg
  obtain ⟨g4, g5⟩ := and_e g3
  obtain ⟨g6, g7⟩ := and_e g5
  obtain ⟨g8, g9⟩ := and_e g7
  obtain ⟨g10, g11⟩ := and_e g9
  obtain ⟨w0, w1, w2, w3, w4, rfl⟩ : ∃ w0 w1 w2 w3 w4 : Value, args = #[w0, w1, w2, w3, w4] := by
    have hs : args.size = 5 := by simpa [Cond.value, given_1] using g2
    obtain ⟨L⟩ := args
    match L, hs with
    | [w0, w1, w2, w3, w4], _ => exact ⟨w0, w1, w2, w3, w4, rfl⟩
  have hw := fun d (hd : d ∈ tables_1) => atoms_spec (ws := Jvm.Cond.code x code maxLocals ret :: tables_1) hat d (List.mem_cons_of_mem _ hd)
  obtain ⟨i0, ei0⟩ := is_v g4
  obtain rfl : w0 = (.int i0) := Option.some.inj ei0
  obtain ⟨i1, ei1⟩ := is_v g6
  obtain rfl : w1 = (.int i1) := Option.some.inj ei1
  obtain ⟨i2, ei2⟩ := is_v g8
  obtain rfl : w2 = (.int i2) := Option.some.inj ei2
  obtain ⟨i3, ei3⟩ := is_v g10
  obtain rfl : w3 = (.int i3) := Option.some.inj ei3
  obtain ⟨i4, ei4⟩ := is_v g11
  obtain rfl : w4 = (.int i4) := Option.some.inj ei4
  rcases own_len4 i0 with hl | hl | hl | hl
  · obtain ⟨n, o, h1, h2, h3, _, L, rfl, ⟨hv, N⟩, hq⟩ := rm0a l s _ hw tables_1 i0 i1 i2 i3 i4 s.heap s.heap.size (Nat.le_refl _) hl p e ha hc hk s m _ below hf ((Spec.applies_iff_loose hf).mp happ).1 ⟨rfl, State.Warmed39.refl s, rfl⟩ trivial
    rw [own_plaina] at hv
    subst hv
    refine ⟨n, _, h1, h2, h3, hpost _ _ _ _ _ _ ⟨Cond.after_iff.mpr rfl, Cond.after_iff.mpr (eq_i res_at (Term.int_eval (1)) rfl), trivial⟩ ⟨hq.1, hq.2.1, (hq.2.2.sift fun y hy => Or.inr (N y hy)).mono (by decide) (by decide)⟩⟩
  · obtain ⟨n, o, h1, h2, h3, _, L, rfl, ⟨hv, N⟩, hq⟩ := rm0b l s _ hw tables_1 i0 i1 i2 i3 i4 s.heap s.heap.size (Nat.le_refl _) hl p e ha hc hk s m _ below hf ((Spec.applies_iff_loose hf).mp happ).1 ⟨rfl, State.Warmed39.refl s, rfl⟩ trivial
    rw [own_plainb] at hv
    subst hv
    refine ⟨n, _, h1, h2, h3, hpost _ _ _ _ _ _ ⟨Cond.after_iff.mpr rfl, Cond.after_iff.mpr (eq_i res_at (Term.int_eval (1)) rfl), trivial⟩ ⟨hq.1, hq.2.1, (hq.2.2.sift fun y hy => Or.inr (N y hy)).mono (by decide) (by decide)⟩⟩
  · obtain ⟨n, o, h1, h2, h3, _, L, rfl, ⟨hv, N⟩, hq⟩ := rm0c l s _ hw tables_1 i0 i1 i2 i3 i4 s.heap s.heap.size (Nat.le_refl _) hl p e ha hc hk s m _ below hf ((Spec.applies_iff_loose hf).mp happ).1 ⟨rfl, State.Warmed39.refl s, rfl⟩ trivial
    rw [own_plainc] at hv
    subst hv
    refine ⟨n, _, h1, h2, h3, hpost _ _ _ _ _ _ ⟨Cond.after_iff.mpr rfl, Cond.after_iff.mpr (eq_i res_at (Term.int_eval (1)) rfl), trivial⟩ ⟨hq.1, hq.2.1, (hq.2.2.sift fun y hy => Or.inr (N y hy)).mono (by decide) (by decide)⟩⟩
  · obtain ⟨n, o, h1, h2, h3, _, L, rfl, ⟨hv, N⟩, hq⟩ := rm0d l s _ hw tables_1 i0 i1 i2 i3 i4 s.heap s.heap.size (Nat.le_refl _) hl p e ha hc hk s m _ below hf ((Spec.applies_iff_loose hf).mp happ).1 ⟨rfl, State.Warmed39.refl s, rfl⟩ trivial
    rw [own_plaind] at hv
    subst hv
    refine ⟨n, _, h1, h2, h3, hpost _ _ _ _ _ _ ⟨Cond.after_iff.mpr rfl, Cond.after_iff.mpr (eq_i res_at (Term.int_eval (1)) rfl), trivial⟩ ⟨hq.1, hq.2.1, (hq.2.2.sift fun y hy => Or.inr (N y hy)).mono (by decide) (by decide)⟩⟩
theorem main_1_1 : Claimed_1_1 := comes_1 fun _ _ _ _ _ _ h hF => ⟨h.1, hF⟩
theorem main_1_2 : Claimed_1_2 := comes_1 fun _ _ _ _ _ _ h hF => ⟨h.2.1, hF⟩
end Jvm.Pilot.@@N@@
namespace Jvm.Pilot.@@N@@
open Jvm Jvm.ClassFile Sem Op Lib Jvm.Free Jvm.Stand Jvm.Pilot.@@N@@.Jvm.D
/-! MADE BY PROGRAM (witnessworld.py) out of the Statement's table words and the real class files: 9 classes; the members and pool entries that the words name. The judged class is class 1, her method 1. -/
namespace start1
open Jvm.ClassFile
def u (s : String) : CpInfo := .utf8 (stringToUtf16 s)
/-- a pool by its gaps: so many unusable entries, then the entry; so many at the end -/
def gap : Nat → List CpInfo → List CpInfo
  | 0, r => r
  | n + 1, r => .unusable :: gap n r
def poolList (es : List (Nat × CpInfo)) (last : Nat) : List CpInfo := es.foldr (fun e r => gap e.1 (e.2 :: r)) (gap last [])
def pool (es : List (Nat × CpInfo)) (last : Nat) : Array CpInfo := ⟨poolList es last⟩
def fileOf (pool : Array CpInfo) (this : Nat) (attrs : Array Attribute := #[]) (ms : Array MethodInfo := #[]) (fl : Nat := 33) (sup : Nat := 0) (ifs : Array Nat := #[]) (fds : Array FieldInfo := #[]) : ClassFile where
  minorVersion := 0
  majorVersion := 65
  constantPool := pool
  accessFlags := fl
  thisClass := this
  superClass := sup
  interfaces := ifs
  fields := fds
  methods := ms
  attributes := attrs
def plain (name : String) (sup : Option ClassId) : Class where
  name := name
  kind := .ordinary
  loader := none
  accessFlags := 33
  super := sup
  interfaces := #[]
  cf := none
  fields := #[]
  methods := #[]
  instanceTypes := #[]
  staticTypes := #[]
  resolved := #[]
  callSites := []
  init := .initialized
  statics := none
  mirror := none

def pool0 : Array CpInfo := pool [(5, u "<init>"), (0, u "()V"), (1, .class_ 10), (1, u "java/lang/Object"), (85, u "clone"), (0, u "()Ljava/lang/Object;")] 26

def k0m0 : Method := { name := "<init>", desc := "()V", sig := { parameters := [], returnType := none }, accessFlags := 1, code := none }
def k0m1 : Method := { name := "clone", desc := "()Ljava/lang/Object;", sig := { parameters := [], returnType := some (.object "java/lang/Object") }, accessFlags := 260, code := none }
/-- java/lang/Object -/
def k0 : Class := { plain "java/lang/Object" none with
  accessFlags := 33
  interfaces := #[]
  cf := some (fileOf pool0 8 #[] #[{ accessFlags := 1, nameIndex := 5, descriptorIndex := 6, attributes := #[] }, { accessFlags := 260, nameIndex := 96, descriptorIndex := 97, attributes := #[] }] 33 0 #[] #[])
  fields := #[]
  methods := #[k0m0, k0m1]
  instanceTypes := #[]
  staticTypes := #[]
  resolved := Array.replicate 124 none
  statics := none }

def pool1 : Array CpInfo := pool [(2, .class_ 4), (1, u "java/lang/Object"), (0, u "<init>"), (0, u "()V"), (0, .methodref 8 9), (0, .class_ 10), (0, .nameAndType 11 12), (0, u "com/example/lexrow/lexrow/storage/CellKeys"), (0, u "prefixEnd"), (0, u "([B)[B"), (0, .class_ 14), (0, u "com/example/lexrow/lexrow/storage/CellKeysPrefixEndPinLaw"), (2, u "law"), (0, u "(IIIII)Z")] 5

def k1m0 : Method := { name := "<init>", desc := "()V", sig := { parameters := [], returnType := none }, accessFlags := 1, code := none }
def k1c1 : Code := { maxStack := 3, maxLocals := 11, code := code, exceptionTable := #[], attributes := #[] }
def k1m1 : Method := { name := "law", desc := "(IIIII)Z", sig := { parameters := [.int, .int, .int, .int, .int], returnType := some .boolean }, accessFlags := 9, code := some k1c1 }
/-- com/example/lexrow/lexrow/storage/CellKeysPrefixEndPinLaw -/
def k1 : Class := { plain "com/example/lexrow/lexrow/storage/CellKeysPrefixEndPinLaw" (some 0) with
  accessFlags := 49
  interfaces := #[]
  cf := some (fileOf pool1 13 #[] #[{ accessFlags := 1, nameIndex := 5, descriptorIndex := 6, attributes := #[] }, { accessFlags := 9, nameIndex := 17, descriptorIndex := 18, attributes := #[] }] 49 2 #[] #[])
  fields := #[]
  methods := #[k1m0, k1m1]
  instanceTypes := #[]
  staticTypes := #[]
  resolved := Array.replicate 24 none
  statics := none }

def pool2 : Array CpInfo := pool [(2, .class_ 4), (1, u "java/lang/Object"), (0, u "<init>"), (0, u "()V"), (22, .class_ 30), (0, u "com/example/lexrow/lexrow/storage/CellKeys"), (15, .methodref 47 48), (0, .class_ 49), (0, .nameAndType 50 51), (0, u "[B"), (0, u "clone"), (0, u "()Ljava/lang/Object;"), (44, u "([B)[B"), (65, u "ZERO"), (0, u "B"), (2, u "ESCAPED_ZERO"), (1, u "END"), (1, u "ESCAPED_END_LENGTH"), (0, u "I"), (7, u "prefixEnd")] 36

def k2m0 : Method := { name := "<init>", desc := "()V", sig := { parameters := [], returnType := none }, accessFlags := 2, code := none }
def k2c1 : Code := { maxStack := 4, maxLocals := 2, code := prog_51_method_4_code, exceptionTable := #[], attributes := #[] }
def k2m1 : Method := { name := "prefixEnd", desc := "([B)[B", sig := { parameters := [(.array .byte)], returnType := some (.array .byte) }, accessFlags := 8, code := some k2c1 }
/-- com/example/lexrow/lexrow/storage/CellKeys -/
def k2 : Class := { plain "com/example/lexrow/lexrow/storage/CellKeys" (some 0) with
  accessFlags := 32
  interfaces := #[]
  cf := some (fileOf pool2 29 #[] #[{ accessFlags := 2, nameIndex := 5, descriptorIndex := 6, attributes := #[] }, { accessFlags := 8, nameIndex := 179, descriptorIndex := 96, attributes := #[] }] 32 2 #[] #[{ accessFlags := 26, nameIndex := 162, descriptorIndex := 163, attributes := #[] }, { accessFlags := 26, nameIndex := 166, descriptorIndex := 163, attributes := #[] }, { accessFlags := 26, nameIndex := 168, descriptorIndex := 163, attributes := #[] }, { accessFlags := 26, nameIndex := 170, descriptorIndex := 171, attributes := #[] }])
  fields := #[{ name := "ZERO", type := .byte, accessFlags := 26, slot := 0, constantValue := 0 }, { name := "ESCAPED_ZERO", type := .byte, accessFlags := 26, slot := 1, constantValue := 0 }, { name := "END", type := .byte, accessFlags := 26, slot := 2, constantValue := 0 }, { name := "ESCAPED_END_LENGTH", type := .int, accessFlags := 26, slot := 3, constantValue := 0 }]
  methods := #[k2m0, k2m1]
  instanceTypes := #[]
  staticTypes := #[.byte, .byte, .byte, .int]
  resolved := Array.replicate 216 none
  statics := none }

def pool3 : Array CpInfo := pool [(1, .class_ 2), (0, u "java/lang/Cloneable"), (0, .class_ 4), (0, u "java/lang/Object")] 2

/-- java/lang/Cloneable -/
def k3 : Class := { plain "java/lang/Cloneable" (some 0) with
  accessFlags := 1537
  interfaces := #[]
  cf := some (fileOf pool3 1 #[] #[] 1537 3 #[] #[])
  fields := #[]
  methods := #[]
  instanceTypes := #[]
  staticTypes := #[]
  resolved := Array.replicate 7 none
  statics := none }

def pool4 : Array CpInfo := pool [(1, u "java/io/Serializable"), (0, .class_ 1), (0, u "java/lang/Object"), (0, .class_ 3)] 3

/-- java/io/Serializable -/
def k4 : Class := { plain "java/io/Serializable" (some 0) with
  accessFlags := 1537
  interfaces := #[]
  cf := some (fileOf pool4 2 #[] #[] 1537 4 #[] #[])
  fields := #[]
  methods := #[]
  instanceTypes := #[]
  staticTypes := #[]
  resolved := Array.replicate 8 none
  statics := none }

/-- the primitive byte -/
def k5 : Class := { plain "byte" none with kind := .primitive 'B', accessFlags := 0x411 }
/-- [B -/
def k6 : Class := { plain "[B" (some 0) with kind := .array 5 .byte, interfaces := #[3, 4], accessFlags := 1041 }

/-- the primitive int -/
def k7 : Class := { plain "int" none with kind := .primitive 'I', accessFlags := 0x411 }
/-- [I -/
def k8 : Class := { plain "[I" (some 0) with kind := .array 7 .int, interfaces := #[3, 4], accessFlags := 1041 }

def heap : Heap := #[]
def classes : Array Class := #[k0, k1, k2, k3, k4, k5, k6, k7, k8]
def interned : List (Array UInt16 × Addr) := []
def slotsUsed : Nat := 0
def theMethod : MethodId := ⟨1, 1⟩
def args0 : Array Value := #[.int 5, .int 5, .int 5, .int 5, .int 5]
def aboutOver (below : List Frame) : State where
  vm := { classes := classes, interned := interned.toArray }
  heap := heap
  slotsUsed := slotsUsed
  threads := #[{ frames := .invoking theMethod args0 :: below }]
def below0 : List Frame := [.native { method := ⟨0, 0⟩, args := #[] }]
def about1 : State := aboutOver below0
def p0 : Program := .bare "" "" ""
def e0 : Env := launch0.env 0 0 0
theorem w_frames : about1.frames = Frame.invoking theMethod args0 :: below0 := rfl
set_option maxRecDepth 65536 in
theorem w_args : argsFit about1.vm theMethod args0 = true := by decide +kernel
set_option maxRecDepth 65536 in
theorem w_heap : heapFits about1 = true := by decide +kernel
set_option maxRecDepth 65536 in
theorem w_runnable : about1.curStatus? = some .runnable := by decide +kernel
set_option maxRecDepth 65536 in
theorem w_alone : about1.alone = true := by decide +kernel
set_option maxRecDepth 65536 in
theorem w_named : about1.methodNamed? x = some theMethod := by decide +kernel
set_option maxRecDepth 65536 in
theorem w_hears : about1.hears theMethod below0 = true := by decide +kernel
set_option maxRecDepth 65536 in
theorem w_ripe : about1.ripe theMethod args0 below0 = true := by decide +kernel
theorem w_running : about1.status = .running := rfl
set_option maxRecDepth 65536 in
theorem w_room : about1.hasRoom e0.platform room_1 = true :=
  launch0.hasRoom_least _ room_1 (by decide +kernel) (by decide +kernel) (by decide +kernel) (by decide +kernel) (by decide +kernel) (by decide +kernel)
theorem allAtoms_all (ts : List Jvm.Cond) (a : Array Jvm.Value) (st : Jvm.State) : (allAtoms ts).before a st = ts.all (fun c => c.before a st) := by
  induction ts with
  | nil => rfl
  | cons c t ih =>
    show (Jvm.Cond.and c (allAtoms t)).before a st = _
    rw [Jvm.Cond.before_and, ih, List.all_cons]
def words1 : List Jvm.Cond := Jvm.Cond.code x code maxLocals ret :: tables_1
/-- a 'code' word, met by the world's own term for the bytes: nothing is compared byte by byte -/
theorem code_word {y : MethodName} {bytes : ByteArray} {mx : Nat} {rt : Option FieldType} {a : Array Value} {s : State} {m : MethodId} {meth : Method} {c : Code} (h1 : s.methodNamed? y = some m) (h2 : s.vm.method? m = some meth) (h3 : meth.code = some c) (h4 : c.code = bytes)
    (h5 : (c.maxLocals == mx && c.exceptionTable.isEmpty && decide (c.maxStack ≤ mostOperands) && decide (meth.sig.returnType = rt) && !meth.locks && decide (parseMethodDescriptor y.desc = some meth.sig)) = true) : (Jvm.Cond.code y bytes mx rt).before a s = true := by
  simp only [Bool.and_eq_true, beq_iff_eq, Bool.not_eq_true', decide_eq_true_eq] at h5
  obtain ⟨⟨⟨⟨⟨g1, g2⟩, g3⟩, g4⟩, g5⟩, g6⟩ := h5
  simp [Cond.before, Cond.holds, Cond.value, h1, h2, h3, h4, g1, g2, g3, g4, g5, g6]
def isCode : Jvm.Cond → Bool
  | .code _ _ _ _ => true
  | _ => false
theorem all_split {L : List Jvm.Cond} {P : Jvm.Cond → Bool} (h1 : L.all (fun c => isCode c || P c) = true) (h2 : ∀ c ∈ L.filter isCode, P c = true) : L.all P = true := by
  refine List.all_eq_true.mpr fun c hc => ?_
  have h := List.all_eq_true.mp h1 c hc
  rcases Bool.eq_false_or_eq_true (isCode c) with hi | hi
  · exact h2 c (List.mem_filter.mpr ⟨hc, hi⟩)
  · simpa [hi] using h
set_option maxRecDepth 65536 in
theorem w_c0 : (Jvm.Cond.code x code maxLocals ret).before args0 about1 = true := code_word (m := ⟨1, 1⟩) (meth := k1m1) (c := k1c1) (by decide +kernel) rfl rfl rfl (by decide +kernel)
set_option maxRecDepth 65536 in
theorem w_c1 : (Jvm.Cond.code ({ cls := "com/example/lexrow/lexrow/storage/CellKeys", name := "prefixEnd", desc := "([B)[B" } : Jvm.MethodName) prog_51_method_4_code (2 : Nat) (Option.some (Jvm.ClassFile.FieldType.array Jvm.ClassFile.FieldType.byte))).before args0 about1 = true := code_word (m := ⟨2, 1⟩) (meth := k2m1) (c := k2c1) (by decide +kernel) rfl rfl rfl (by decide +kernel)
def codes1 : List Jvm.Cond := [Jvm.Cond.code x code maxLocals ret, Jvm.Cond.code ({ cls := "com/example/lexrow/lexrow/storage/CellKeys", name := "prefixEnd", desc := "([B)[B" } : Jvm.MethodName) prog_51_method_4_code (2 : Nat) (Option.some (Jvm.ClassFile.FieldType.array Jvm.ClassFile.FieldType.byte))]
set_option maxRecDepth 65536 in
theorem codes_eq : words1.filter isCode = codes1 := rfl
theorem w_codes : ∀ c ∈ words1.filter isCode, c.before args0 about1 = true := by
  rw [codes_eq]
  intro c hc
  simp only [codes1, List.mem_cons, List.not_mem_nil, or_false] at hc
  rcases hc with rfl | rfl
  · exact w_c0
  · exact w_c1
set_option maxRecDepth 65536 in
theorem w_t1 : words1.all (fun c => isCode c || c.before args0 about1) = true := by decide +kernel
theorem w_tables : (allAtoms (Jvm.Cond.code x code maxLocals ret :: tables_1)).before args0 about1 = true := by
  rw [allAtoms_all]
  show words1.all (fun c => c.before args0 about1) = true
  refine all_split ?_ w_codes
  rw [w_t1]
set_option maxRecDepth 65536 in
theorem w_case : (Jvm.Cond.and given_1 narrow_1).before args0 about1 = true := by decide +kernel
theorem w_applies : (headSpec (Jvm.Cond.code x code maxLocals ret :: tables_1) room_1).applies x e0.platform about1 = true :=
  (Spec.applies_iff w_frames).mpr ⟨w_running, w_runnable, w_alone, w_named, w_hears, w_ripe, w_room, w_tables⟩
theorem atStart : AtStart classFile x code maxLocals ret World_1 tables_1 room_1 Calls_1 rest_1 Pre_1 launch0 p0 e0 about1 theMethod args0 below0 :=
  ⟨lists_1, trivial, launch0.admits_env _ _ _, launch0.least_env, fairChoices_fair.cas, fairChoices_fair.clock, w_frames, w_args, w_heap, w_applies, trivial, trivial, w_case⟩
end start1
theorem witness_1 : WitnessClaimed_1 := ⟨start1.p0, start1.e0, start1.about1, start1.theMethod, start1.args0, start1.below0, start1.atStart⟩
end Jvm.Pilot.@@N@@
