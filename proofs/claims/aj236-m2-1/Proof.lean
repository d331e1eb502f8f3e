import JvmDerived
import JvmDerived.Pilot.@@N@@Statement
import JvmDerived.Pilot.@@N@@Code
set_option linter.unusedVariables false
set_option linter.unusedSimpArgs false
@@BLOCK:NumsL.lean.txt@@
namespace Jvm.Pilot.@@N@@
open Jvm Jvm.ClassFile Sem Op Lib Jvm.Free Jvm.Stand Jvm.LawKit Jvm.RoadKit Bundle Jvm.Pilot.@@N@@.Jvm.D
def own_Goes (p : Program) (e : Env) (below : List Frame) (s : State) (Q : Option Value → Heap → List Loc → Prop) (ce sl : Nat) (A : State) : Prop :=
  ∃ s₂ o, Steps p.tables e below A s₂ ∧ s₂.status = .running ∧ Ended s₂ below o ∧ ∃ v L, o = .returned v ∧ Q v s₂.heap L ∧ FrameEnd s o s₂ L ce sl
theorem own_pre {p : Program} {e : Env} {below : List Frame} {s : State} {Q : Option Value → Heap → List Loc → Prop} {ce sl : Nat} {A B : State} (h : ∀ t, Steps p.tables e below A t → Steps p.tables e below B t) (G : own_Goes p e below s Q ce sl A) : own_Goes p e below s Q ce sl B := by
  obtain ⟨s₂, o, h1, r⟩ := G
  exact ⟨s₂, o, h _ h1, r⟩
theorem own_end {p : Program} {l : Launch} {e : Env} {R : Room} {s : State} {m : MethodId} {args : Array Value} {below : List Frame} {meth : Method} {c : Code} {T : State} {locs : List Loc} {cells slots : Nat} (X : Stand p l e R s m args below meth c T locs cells slots)
    {v : Option Value} {Q : Option Value → Heap → List Loc → Prop} {ce sl : Nat} {A : State} (hlocks : meth.locks = false) (hv : meth.sig.returnType = none → v = none)
    (hstep : ∀ fs, (∀ (f : JFrame) (acts : List Action), f.method = m → f.locked = none → f.entered = [] → (doReturn e (T.setTop f) acts v).1 = T.setFrames fs) → Steps p.tables e below A (T.setFrames fs))
    (hQ : Q v T.heap locs) (hc : cells ≤ ce) (hs : slots ≤ sl) : own_Goes p e below s Q ce sl A := by
  obtain ⟨fs, hr, hrun, hended, hW, hsame⟩ := X.leave hv hlocks
  exact ⟨_, _, hstep fs hr, hrun, hended, _, _, rfl, hQ, ⟨_, rfl⟩, hW, hsame.mono hc hs⟩
theorem own_lrem_eq (x y : Int64) : x - (x / y) * y = x % y := by
  apply Int64.toInt_inj.mp
  have h1 := Int64.le_toInt (x % y)
  have h2 := Int64.toInt_lt (x % y)
  rw [Int64.toInt_sub, Int64.toInt_mul, Int64.toInt_div, Int.bmod_mul_bmod, Int.sub_bmod_bmod, Int.mul_comm (x.toInt.tdiv y.toInt), ← Int.tmod_def, ← Int64.toInt_mod]
  exact Int.bmod_eq_of_le_mul_two (by omega) (by omega)
theorem own_lrem {tb : Tables} [Ours tb] {e : Env} {below : List Frame} {T target : State} {m : MethodId} {c : Code} {g : JFrame} (h : At T m c below) (hx : tb.exec = Jvm.exec) (hg : g.method = m) {x y : Int64} {rest : List Value} (hd : decode c.code g.pc = .ok (.lrem, 1)) (hs : g.stack = .long y :: .long x :: rest) (hy : y ≠ 0)
    (hr : Steps tb e below (T.setTop { g with pc := g.pc + 1, stack := .long (x % y) :: rest }) target) : Steps tb e below (T.setTop g) target :=
  XS.lrem h hx hg hd hs hy (by rw [own_lrem_eq]; exact hr)
theorem own_h {a0 : Array Value} {Z : State} {L : List Jvm.Cond} (hw : ∀ d ∈ L, d.before a0 Z = true) (i : Nat) {d : Jvm.Cond} (h : L[i]? = some d) : d.before a0 Z = true := hw _ (List.mem_of_getElem? h)
abbrev own_In (j : Int32) (n : Nat) : Prop := 0 ≤ j.toInt ∧ j.toInt < (n : Int)
def own_at (xs : List Int32) (j : Int32) : Int32 := xs.getD j.toNatClampNeg 0
def own_atJ (xs : List Int64) (j : Int32) : Int64 := xs.getD j.toNatClampNeg 0
def own_len {α : Type} (xs : List α) : Int32 := xs.length.toInt32
theorem own_getD (xs : List Int32) (i : Nat) : (xs.map Value.int).getD i (.int 0) = .int (xs.getD i 0) := by
  simp only [List.getD_eq_getElem?_getD, List.getElem?_map]
  cases xs[i]? <;> rfl
theorem own_getDJ (xs : List Int64) (i : Nat) : (xs.map Value.long).getD i (.long 0) = .long (xs.getD i 0) := by
  simp only [List.getD_eq_getElem?_getD, List.getElem?_map]
  cases xs[i]? <;> rfl
theorem own_pad {ty : FieldType} {Z : State} {h : Heap} {a : Addr} {k : ClassId} {n : Int32} {dv : Value} (F : Arv Z h a k ty n [] dv) : Arv Z h a k ty n (List.replicate n.toNatClampNeg dv) dv := F.pad (pad_rep [] dv n.toNatClampNeg)
section OwnArr
variable {p : Program} {l : Launch} {e : Env} {R : Room} {s : State} {m : MethodId} {args : Array Value} {below : List Frame} {meth : Method} {c : Code} {T : State} {locs : List Loc} {cells slots : Nat} {Z : State} {h h' : Heap} {a b : Addr} {sl : Nat} {v d : Value} {ws : List Addr} {ty : FieldType} {vs : List Value}
def own_Arr (ty : FieldType) (d : Value) (Z : State) (h : Heap) (a : Addr) (vs : List Value) : Prop := ∃ k n, Arv Z h a k ty n vs d ∧ n.toNatClampNeg = vs.length
theorem own_Arr.ext (F : own_Arr ty d Z h a vs) (E : Ext h h') : own_Arr ty d Z h' a vs := by obtain ⟨k, n, A, r⟩ := F; exact ⟨k, n, A.ext E, r⟩
theorem own_Arr.other (F : own_Arr ty d Z h b vs) (W : Wr h h' a sl v) (q : b ≠ a) : own_Arr ty d Z h' b vs := by obtain ⟨k, n, A, r⟩ := F; exact ⟨k, n, A.other W q, r⟩
theorem own_Arr.keep (F : own_Arr ty d Z h a vs) (K : Keep h h' ws) (q : a ∉ ws) : own_Arr ty d Z h' a vs := by obtain ⟨k, n, A, r⟩ := F; exact ⟨k, n, A.keep K q, r⟩
theorem own_Arr.lt (F : own_Arr ty d Z h a vs) : a < h.size := by obtain ⟨k, n, A, r⟩ := F; exact A.lt
theorem own_inb {cl : Cell} {n j : Int32} {N : Nat} (S : cl.slots.size = n.toNatClampNeg) (q : n.toNatClampNeg = N) (hj : own_In j N) : ¬ (j < 0 ∨ cl.slots.size ≤ j.toNatClampNeg) := by
  rw [S, q]; obtain ⟨q1, q2⟩ := hj
  have e0 : (0 : Int32).toInt = 0 := rfl
  simp only [Int32.lt_iff_toInt_lt, Int32.toNatClampNeg, e0] at *; omega
theorem own_ixlt {j : Int32} {N : Nat} (hj : own_In j N) : j.toNatClampNeg < N := by obtain ⟨q1, q2⟩ := hj; simp only [Int32.toNatClampNeg]; omega
def own_Ints (Z : State) (h : Heap) (a : Addr) (xs : List Int32) : Prop := own_Arr .int (.int 0) Z h a (xs.map Value.int)
def own_Longs (Z : State) (h : Heap) (a : Addr) (xs : List Int64) : Prop := own_Arr .long (.long 0) Z h a (xs.map Value.long)
def own_Bytes (Z : State) (h : Heap) (a : Addr) (xs : List Int32) : Prop := own_Arr .byte (.int 0) Z h a (xs.map Value.int)
def own_Chars (Z : State) (h : Heap) (a : Addr) (xs : List Int32) : Prop := own_Arr .char (.int 0) Z h a (xs.map Value.int)
theorem own_Ints.ext {xs : List Int32} (F : own_Ints Z h a xs) (E : Ext h h') : own_Ints Z h' a xs := own_Arr.ext F E
theorem own_Ints.other {xs : List Int32} (F : own_Ints Z h b xs) (W : Wr h h' a sl v) (q : b ≠ a) : own_Ints Z h' b xs := own_Arr.other F W q
theorem own_Ints.keep {xs : List Int32} (F : own_Ints Z h a xs) (K : Keep h h' ws) (q : a ∉ ws) : own_Ints Z h' a xs := own_Arr.keep F K q
theorem own_Ints.lt {xs : List Int32} (F : own_Ints Z h a xs) : a < h.size := own_Arr.lt F
theorem own_newI {k : ClassId} {n : Int32} (A : Arr Z h a (newA k .int n) .int) (q : ¬ n < 0) : own_Ints Z h a (List.replicate n.toNatClampNeg 0) := by
  refine ⟨k, n, ?_, by simp⟩
  have := own_pad (Arv.new A q)
  rw [List.map_replicate]
  exact this
theorem own_iaload (X : Stand p l e R s m args below meth c T locs cells slots) (hx : p.tables.exec = Jvm.exec) (hZ : Z.Warmed39 s.vm) (eT : T.heap = h) {xs : List Int32} {j : Int32} (F : own_Ints Z h a xs) (hj : own_In j xs.length) {g : JFrame} (hg : g.method = m) {rest : List Value} (hs : g.stack = .int j :: .ref a :: rest) (hd : decode c.code g.pc = .ok (.iaload, 1)) {target : State}
    (hr : Steps p.tables e below (T.setTop { g with pc := g.pc + 1, stack := .int (own_at xs j) :: rest }) target) : Steps p.tables e below (T.setTop g) target := by
  obtain ⟨k, n, ⟨cl, A, q1, S, q3, H, G⟩, q⟩ := F
  have hin := own_inb S q (by rw [List.length_map]; exact hj)
  exact X.iaload hx (j := j) (v := .int (own_at xs j)) (by rw [eT]; exact A.1) (State.isArrayOf_alike hZ.alike A.2.1) A.2.2 hin (H.at hin (own_getD xs _)) (g := g) hg hs hd _ hr
theorem own_arrlenI (X : Stand p l e R s m args below meth c T locs cells slots) (hx : p.tables.exec = Jvm.exec) (hZ : Z.Warmed39 s.vm) (eT : T.heap = h) {xs : List Int32} (F : own_Ints Z h a xs) {g : JFrame} (hg : g.method = m) {rest : List Value} (hs : g.stack = .ref a :: rest) (hd : decode c.code g.pc = .ok (.arraylength, 1)) {target : State}
    (hr : Steps p.tables e below (T.setTop { g with pc := g.pc + 1, stack := .int (own_len xs) :: rest }) target) : Steps p.tables e below (T.setTop g) target := by
  obtain ⟨k, n, ⟨cl, A, q1, S, q3, H, G⟩, q⟩ := F
  refine X.arraylength hx (by rw [eT]; exact A.1) (State.isArrayOf_alike hZ.alike A.2.1) (g := g) hg hs hd _ ?_
  have e1 : cl.slots.size = xs.length := by rw [S, q, List.length_map]
  rw [e1]
  exact hr
theorem own_iastore (X : Stand p l e R s m args below meth c T locs cells slots) (hx : p.tables.exec = Jvm.exec) (hZ : Z.Warmed39 s.vm) (eT : T.heap = h) {xs : List Int32} {j : Int32} {x : Int32} (F : own_Ints Z h a xs) (hj : own_In j xs.length) {g : JFrame} (hg : g.method = m) {rest : List Value} (hs : g.stack = .int x :: .int j :: .ref a :: rest) (hd : decode c.code g.pc = .ok (.iastore, 1)) :
    ∃ T' h', Stand p l e R s m args below meth c T' (locs ++ [⟨a, j.toNatClampNeg⟩]) cells slots ∧ T'.heap = h' ∧ Wr h h' a j.toNatClampNeg (.int (x)) ∧ own_Ints Z h' a (xs.set j.toNatClampNeg (x)) ∧ ∀ target, Steps p.tables e below (T'.setTop { g with pc := g.pc + 1, stack := rest }) target → Steps p.tables e below (T.setTop g) target := by
  obtain ⟨k, n, ⟨cl, A, q1, S, q3, H, G⟩, q⟩ := F
  have hin := own_inb S q (by rw [List.length_map]; exact hj)
  obtain ⟨T', h', X', e', W, st⟩ := stI X hx hZ eT A (j := j) (x := x) hin (g := g) hg hs hd
  refine ⟨T', h', X', e', W, ⟨k, n, ?_, by rw [q]; simp⟩, st⟩
  rw [List.map_set]
  exact Arv.set A q1 S q3 H G rfl W _ rfl (by rw [List.length_map]; exact own_ixlt hj)
theorem own_Longs.ext {xs : List Int64} (F : own_Longs Z h a xs) (E : Ext h h') : own_Longs Z h' a xs := own_Arr.ext F E
theorem own_Longs.other {xs : List Int64} (F : own_Longs Z h b xs) (W : Wr h h' a sl v) (q : b ≠ a) : own_Longs Z h' b xs := own_Arr.other F W q
theorem own_Longs.keep {xs : List Int64} (F : own_Longs Z h a xs) (K : Keep h h' ws) (q : a ∉ ws) : own_Longs Z h' a xs := own_Arr.keep F K q
theorem own_Longs.lt {xs : List Int64} (F : own_Longs Z h a xs) : a < h.size := own_Arr.lt F
theorem own_newJ {k : ClassId} {n : Int32} (A : Arr Z h a (newA k .long n) .long) (q : ¬ n < 0) : own_Longs Z h a (List.replicate n.toNatClampNeg 0) := by
  refine ⟨k, n, ?_, by simp⟩
  have := own_pad (Arv.new A q)
  rw [List.map_replicate]
  exact this
theorem own_laload (X : Stand p l e R s m args below meth c T locs cells slots) (hx : p.tables.exec = Jvm.exec) (hZ : Z.Warmed39 s.vm) (eT : T.heap = h) {xs : List Int64} {j : Int32} (F : own_Longs Z h a xs) (hj : own_In j xs.length) {g : JFrame} (hg : g.method = m) {rest : List Value} (hs : g.stack = .int j :: .ref a :: rest) (hd : decode c.code g.pc = .ok (.laload, 1)) {target : State}
    (hr : Steps p.tables e below (T.setTop { g with pc := g.pc + 1, stack := .long (own_atJ xs j) :: rest }) target) : Steps p.tables e below (T.setTop g) target := by
  obtain ⟨k, n, ⟨cl, A, q1, S, q3, H, G⟩, q⟩ := F
  have hin := own_inb S q (by rw [List.length_map]; exact hj)
  exact X.laload hx (j := j) (v := .long (own_atJ xs j)) (by rw [eT]; exact A.1) (State.isArrayOf_alike hZ.alike A.2.1) A.2.2 hin (H.at hin (own_getDJ xs _)) (g := g) hg hs hd _ hr
theorem own_arrlenJ (X : Stand p l e R s m args below meth c T locs cells slots) (hx : p.tables.exec = Jvm.exec) (hZ : Z.Warmed39 s.vm) (eT : T.heap = h) {xs : List Int64} (F : own_Longs Z h a xs) {g : JFrame} (hg : g.method = m) {rest : List Value} (hs : g.stack = .ref a :: rest) (hd : decode c.code g.pc = .ok (.arraylength, 1)) {target : State}
    (hr : Steps p.tables e below (T.setTop { g with pc := g.pc + 1, stack := .int (own_len xs) :: rest }) target) : Steps p.tables e below (T.setTop g) target := by
  obtain ⟨k, n, ⟨cl, A, q1, S, q3, H, G⟩, q⟩ := F
  refine X.arraylength hx (by rw [eT]; exact A.1) (State.isArrayOf_alike hZ.alike A.2.1) (g := g) hg hs hd _ ?_
  have e1 : cl.slots.size = xs.length := by rw [S, q, List.length_map]
  rw [e1]
  exact hr
theorem own_lastore (X : Stand p l e R s m args below meth c T locs cells slots) (hx : p.tables.exec = Jvm.exec) (hZ : Z.Warmed39 s.vm) (eT : T.heap = h) {xs : List Int64} {j : Int32} {x : Int64} (F : own_Longs Z h a xs) (hj : own_In j xs.length) {g : JFrame} (hg : g.method = m) {rest : List Value} (hs : g.stack = .long x :: .int j :: .ref a :: rest) (hd : decode c.code g.pc = .ok (.lastore, 1)) :
    ∃ T' h', Stand p l e R s m args below meth c T' (locs ++ [⟨a, j.toNatClampNeg⟩]) cells slots ∧ T'.heap = h' ∧ Wr h h' a j.toNatClampNeg (.long (x)) ∧ own_Longs Z h' a (xs.set j.toNatClampNeg (x)) ∧ ∀ target, Steps p.tables e below (T'.setTop { g with pc := g.pc + 1, stack := rest }) target → Steps p.tables e below (T.setTop g) target := by
  obtain ⟨k, n, ⟨cl, A, q1, S, q3, H, G⟩, q⟩ := F
  have hin := own_inb S q (by rw [List.length_map]; exact hj)
  obtain ⟨T', h', X', e', W, st⟩ := stJ X hx hZ eT A (j := j) (x := x) hin (g := g) hg hs hd
  refine ⟨T', h', X', e', W, ⟨k, n, ?_, by rw [q]; simp⟩, st⟩
  rw [List.map_set]
  exact Arv.set A q1 S q3 H G rfl W _ rfl (by rw [List.length_map]; exact own_ixlt hj)
theorem own_Bytes.ext {xs : List Int32} (F : own_Bytes Z h a xs) (E : Ext h h') : own_Bytes Z h' a xs := own_Arr.ext F E
theorem own_Bytes.other {xs : List Int32} (F : own_Bytes Z h b xs) (W : Wr h h' a sl v) (q : b ≠ a) : own_Bytes Z h' b xs := own_Arr.other F W q
theorem own_Bytes.keep {xs : List Int32} (F : own_Bytes Z h a xs) (K : Keep h h' ws) (q : a ∉ ws) : own_Bytes Z h' a xs := own_Arr.keep F K q
theorem own_Bytes.lt {xs : List Int32} (F : own_Bytes Z h a xs) : a < h.size := own_Arr.lt F
theorem own_newB {k : ClassId} {n : Int32} (A : Arr Z h a (newA k .byte n) .byte) (q : ¬ n < 0) : own_Bytes Z h a (List.replicate n.toNatClampNeg 0) := by
  refine ⟨k, n, ?_, by simp⟩
  have := own_pad (Arv.new A q)
  rw [List.map_replicate]
  exact this
theorem own_baload (X : Stand p l e R s m args below meth c T locs cells slots) (hx : p.tables.exec = Jvm.exec) (hZ : Z.Warmed39 s.vm) (eT : T.heap = h) {xs : List Int32} {j : Int32} (F : own_Bytes Z h a xs) (hj : own_In j xs.length) {g : JFrame} (hg : g.method = m) {rest : List Value} (hs : g.stack = .int j :: .ref a :: rest) (hd : decode c.code g.pc = .ok (.baload, 1)) {target : State}
    (hr : Steps p.tables e below (T.setTop { g with pc := g.pc + 1, stack := .int (own_at xs j) :: rest }) target) : Steps p.tables e below (T.setTop g) target := by
  obtain ⟨k, n, ⟨cl, A, q1, S, q3, H, G⟩, q⟩ := F
  have hin := own_inb S q (by rw [List.length_map]; exact hj)
  exact X.baloadBytes hx (j := j) (v := .int (own_at xs j)) (by rw [eT]; exact A.1) (State.isArrayOf_alike hZ.alike A.2.1) A.2.2 hin (H.at hin (own_getD xs _)) (g := g) hg hs hd _ hr
theorem own_arrlenB (X : Stand p l e R s m args below meth c T locs cells slots) (hx : p.tables.exec = Jvm.exec) (hZ : Z.Warmed39 s.vm) (eT : T.heap = h) {xs : List Int32} (F : own_Bytes Z h a xs) {g : JFrame} (hg : g.method = m) {rest : List Value} (hs : g.stack = .ref a :: rest) (hd : decode c.code g.pc = .ok (.arraylength, 1)) {target : State}
    (hr : Steps p.tables e below (T.setTop { g with pc := g.pc + 1, stack := .int (own_len xs) :: rest }) target) : Steps p.tables e below (T.setTop g) target := by
  obtain ⟨k, n, ⟨cl, A, q1, S, q3, H, G⟩, q⟩ := F
  refine X.arraylength hx (by rw [eT]; exact A.1) (State.isArrayOf_alike hZ.alike A.2.1) (g := g) hg hs hd _ ?_
  have e1 : cl.slots.size = xs.length := by rw [S, q, List.length_map]
  rw [e1]
  exact hr
theorem own_bastore (X : Stand p l e R s m args below meth c T locs cells slots) (hx : p.tables.exec = Jvm.exec) (hZ : Z.Warmed39 s.vm) (eT : T.heap = h) {xs : List Int32} {j : Int32} {x : Int32} (F : own_Bytes Z h a xs) (hj : own_In j xs.length) {g : JFrame} (hg : g.method = m) {rest : List Value} (hs : g.stack = .int x :: .int j :: .ref a :: rest) (hd : decode c.code g.pc = .ok (.bastore, 1)) :
    ∃ T' h', Stand p l e R s m args below meth c T' (locs ++ [⟨a, j.toNatClampNeg⟩]) cells slots ∧ T'.heap = h' ∧ Wr h h' a j.toNatClampNeg (.int (x.toInt8.toInt32)) ∧ own_Bytes Z h' a (xs.set j.toNatClampNeg (x.toInt8.toInt32)) ∧ ∀ target, Steps p.tables e below (T'.setTop { g with pc := g.pc + 1, stack := rest }) target → Steps p.tables e below (T.setTop g) target := by
  obtain ⟨k, n, ⟨cl, A, q1, S, q3, H, G⟩, q⟩ := F
  have hin := own_inb S q (by rw [List.length_map]; exact hj)
  obtain ⟨T', h', X', e', W, st⟩ := stB X hx hZ eT A (j := j) (x := x) hin (g := g) hg hs hd
  refine ⟨T', h', X', e', W, ⟨k, n, ?_, by rw [q]; simp⟩, st⟩
  rw [List.map_set]
  exact Arv.set A q1 S q3 H G (fits_nar_byte x) W _ rfl (by rw [List.length_map]; exact own_ixlt hj)
theorem own_Chars.ext {xs : List Int32} (F : own_Chars Z h a xs) (E : Ext h h') : own_Chars Z h' a xs := own_Arr.ext F E
theorem own_Chars.other {xs : List Int32} (F : own_Chars Z h b xs) (W : Wr h h' a sl v) (q : b ≠ a) : own_Chars Z h' b xs := own_Arr.other F W q
theorem own_Chars.keep {xs : List Int32} (F : own_Chars Z h a xs) (K : Keep h h' ws) (q : a ∉ ws) : own_Chars Z h' a xs := own_Arr.keep F K q
theorem own_Chars.lt {xs : List Int32} (F : own_Chars Z h a xs) : a < h.size := own_Arr.lt F
theorem own_newC {k : ClassId} {n : Int32} (A : Arr Z h a (newA k .char n) .char) (q : ¬ n < 0) : own_Chars Z h a (List.replicate n.toNatClampNeg 0) := by
  refine ⟨k, n, ?_, by simp⟩
  have := own_pad (Arv.new A q)
  rw [List.map_replicate]
  exact this
theorem own_caload (X : Stand p l e R s m args below meth c T locs cells slots) (hx : p.tables.exec = Jvm.exec) (hZ : Z.Warmed39 s.vm) (eT : T.heap = h) {xs : List Int32} {j : Int32} (F : own_Chars Z h a xs) (hj : own_In j xs.length) {g : JFrame} (hg : g.method = m) {rest : List Value} (hs : g.stack = .int j :: .ref a :: rest) (hd : decode c.code g.pc = .ok (.caload, 1)) {target : State}
    (hr : Steps p.tables e below (T.setTop { g with pc := g.pc + 1, stack := .int (own_at xs j) :: rest }) target) : Steps p.tables e below (T.setTop g) target := by
  obtain ⟨k, n, ⟨cl, A, q1, S, q3, H, G⟩, q⟩ := F
  have hin := own_inb S q (by rw [List.length_map]; exact hj)
  exact X.caload hx (j := j) (v := .int (own_at xs j)) (by rw [eT]; exact A.1) (State.isArrayOf_alike hZ.alike A.2.1) A.2.2 hin (H.at hin (own_getD xs _)) (g := g) hg hs hd _ hr
theorem own_arrlenC (X : Stand p l e R s m args below meth c T locs cells slots) (hx : p.tables.exec = Jvm.exec) (hZ : Z.Warmed39 s.vm) (eT : T.heap = h) {xs : List Int32} (F : own_Chars Z h a xs) {g : JFrame} (hg : g.method = m) {rest : List Value} (hs : g.stack = .ref a :: rest) (hd : decode c.code g.pc = .ok (.arraylength, 1)) {target : State}
    (hr : Steps p.tables e below (T.setTop { g with pc := g.pc + 1, stack := .int (own_len xs) :: rest }) target) : Steps p.tables e below (T.setTop g) target := by
  obtain ⟨k, n, ⟨cl, A, q1, S, q3, H, G⟩, q⟩ := F
  refine X.arraylength hx (by rw [eT]; exact A.1) (State.isArrayOf_alike hZ.alike A.2.1) (g := g) hg hs hd _ ?_
  have e1 : cl.slots.size = xs.length := by rw [S, q, List.length_map]
  rw [e1]
  exact hr
theorem own_castore (X : Stand p l e R s m args below meth c T locs cells slots) (hx : p.tables.exec = Jvm.exec) (hZ : Z.Warmed39 s.vm) (eT : T.heap = h) {xs : List Int32} {j : Int32} {x : Int32} (F : own_Chars Z h a xs) (hj : own_In j xs.length) {g : JFrame} (hg : g.method = m) {rest : List Value} (hs : g.stack = .int x :: .int j :: .ref a :: rest) (hd : decode c.code g.pc = .ok (.castore, 1)) :
    ∃ T' h', Stand p l e R s m args below meth c T' (locs ++ [⟨a, j.toNatClampNeg⟩]) cells slots ∧ T'.heap = h' ∧ Wr h h' a j.toNatClampNeg (.int (x.toUInt32.toUInt16.toUInt32.toInt32)) ∧ own_Chars Z h' a (xs.set j.toNatClampNeg (x.toUInt32.toUInt16.toUInt32.toInt32)) ∧ ∀ target, Steps p.tables e below (T'.setTop { g with pc := g.pc + 1, stack := rest }) target → Steps p.tables e below (T.setTop g) target := by
  obtain ⟨k, n, ⟨cl, A, q1, S, q3, H, G⟩, q⟩ := F
  have hin := own_inb S q (by rw [List.length_map]; exact hj)
  obtain ⟨T', h', X', e', W, st⟩ := stC X hx hZ eT A (j := j) (x := x) hin (g := g) hg hs hd
  refine ⟨T', h', X', e', W, ⟨k, n, ?_, by rw [q]; simp⟩, st⟩
  rw [List.map_set]
  exact Arv.set A q1 S q3 H G (fits_nar_char x) W _ rfl (by rw [List.length_map]; exact own_ixlt hj)
end OwnArr
theorem own_lit {j : Int32} {n : Nat} (h : (decide (0 ≤ j.toInt) && decide (j.toInt < (n : Int))) = true) : own_In j n := by
  simp only [Bool.and_eq_true, decide_eq_true_eq] at h; exact h
theorem own_pn0 : plainName "com/example/spare_calculus/sparecalculus/bisim/Partition" = true := by first | (simp [plainName, overriddenIn]; done) | decide +kernel
theorem d1_0 : decode prog_16_method_1_code 0 = .ok (.aload_n 0, 1) := by decide +kernel
theorem d1_1 : decode prog_16_method_1_code 1 = .ok (.invokespecial 1, 3) := by decide +kernel
theorem d1_4 : decode prog_16_method_1_code 4 = .ok (.aload_n 0, 1) := by decide +kernel
theorem d1_5 : decode prog_16_method_1_code 5 = .ok (.iload_n 1, 1) := by decide +kernel
theorem d1_6 : decode prog_16_method_1_code 6 = .ok (.newarray .int, 2) := by decide +kernel
theorem d1_8 : decode prog_16_method_1_code 8 = .ok (.putfield 7, 3) := by decide +kernel
theorem d1_11 : decode prog_16_method_1_code 11 = .ok (.aload_n 0, 1) := by decide +kernel
theorem d1_12 : decode prog_16_method_1_code 12 = .ok (.iload_n 1, 1) := by decide +kernel
theorem d1_13 : decode prog_16_method_1_code 13 = .ok (.newarray .int, 2) := by decide +kernel
theorem d1_15 : decode prog_16_method_1_code 15 = .ok (.putfield 13, 3) := by decide +kernel
theorem d1_18 : decode prog_16_method_1_code 18 = .ok (.iconst 0, 1) := by decide +kernel
theorem d1_19 : decode prog_16_method_1_code 19 = .ok (.istore_n 2, 1) := by decide +kernel
theorem d1_20 : decode prog_16_method_1_code 20 = .ok (.iload_n 2, 1) := by decide +kernel
theorem d1_21 : decode prog_16_method_1_code 21 = .ok (.iload_n 1, 1) := by decide +kernel
theorem d1_22 : decode prog_16_method_1_code 22 = .ok (.if_icmp .ge 23, 3) := by decide +kernel
theorem d1_25 : decode prog_16_method_1_code 25 = .ok (.aload_n 0, 1) := by decide +kernel
theorem d1_26 : decode prog_16_method_1_code 26 = .ok (.getfield 7, 3) := by decide +kernel
theorem d1_29 : decode prog_16_method_1_code 29 = .ok (.iload_n 2, 1) := by decide +kernel
theorem d1_30 : decode prog_16_method_1_code 30 = .ok (.iload_n 2, 1) := by decide +kernel
theorem d1_31 : decode prog_16_method_1_code 31 = .ok (.iastore, 1) := by decide +kernel
theorem d1_32 : decode prog_16_method_1_code 32 = .ok (.aload_n 0, 1) := by decide +kernel
theorem d1_33 : decode prog_16_method_1_code 33 = .ok (.getfield 13, 3) := by decide +kernel
theorem d1_36 : decode prog_16_method_1_code 36 = .ok (.iload_n 2, 1) := by decide +kernel
theorem d1_37 : decode prog_16_method_1_code 37 = .ok (.iload_n 2, 1) := by decide +kernel
theorem d1_38 : decode prog_16_method_1_code 38 = .ok (.iastore, 1) := by decide +kernel
theorem d1_39 : decode prog_16_method_1_code 39 = .ok (.iinc 2 1, 3) := by decide +kernel
theorem d1_42 : decode prog_16_method_1_code 42 = .ok (.goto (-22), 3) := by decide +kernel
theorem d1_45 : decode prog_16_method_1_code 45 = .ok (.aload_n 0, 1) := by decide +kernel
theorem d1_46 : decode prog_16_method_1_code 46 = .ok (.iload_n 1, 1) := by decide +kernel
theorem d1_47 : decode prog_16_method_1_code 47 = .ok (.newarray .int, 2) := by decide +kernel
theorem d1_49 : decode prog_16_method_1_code 49 = .ok (.putfield 16, 3) := by decide +kernel
theorem d1_52 : decode prog_16_method_1_code 52 = .ok (.aload_n 0, 1) := by decide +kernel
theorem d1_53 : decode prog_16_method_1_code 53 = .ok (.iload_n 1, 1) := by decide +kernel
theorem d1_54 : decode prog_16_method_1_code 54 = .ok (.newarray .int, 2) := by decide +kernel
theorem d1_56 : decode prog_16_method_1_code 56 = .ok (.putfield 19, 3) := by decide +kernel
theorem d1_59 : decode prog_16_method_1_code 59 = .ok (.aload_n 0, 1) := by decide +kernel
theorem d1_60 : decode prog_16_method_1_code 60 = .ok (.iload_n 1, 1) := by decide +kernel
theorem d1_61 : decode prog_16_method_1_code 61 = .ok (.newarray .int, 2) := by decide +kernel
theorem d1_63 : decode prog_16_method_1_code 63 = .ok (.putfield 22, 3) := by decide +kernel
theorem d1_66 : decode prog_16_method_1_code 66 = .ok (.aload_n 0, 1) := by decide +kernel
theorem d1_67 : decode prog_16_method_1_code 67 = .ok (.iload_n 1, 1) := by decide +kernel
theorem d1_68 : decode prog_16_method_1_code 68 = .ok (.newarray .int, 2) := by decide +kernel
theorem d1_70 : decode prog_16_method_1_code 70 = .ok (.putfield 25, 3) := by decide +kernel
theorem d1_73 : decode prog_16_method_1_code 73 = .ok (.aload_n 0, 1) := by decide +kernel
theorem d1_74 : decode prog_16_method_1_code 74 = .ok (.iload_n 1, 1) := by decide +kernel
theorem d1_75 : decode prog_16_method_1_code 75 = .ok (.newarray .int, 2) := by decide +kernel
theorem d1_77 : decode prog_16_method_1_code 77 = .ok (.putfield 28, 3) := by decide +kernel
theorem d1_80 : decode prog_16_method_1_code 80 = .ok (.aload_n 0, 1) := by decide +kernel
theorem d1_81 : decode prog_16_method_1_code 81 = .ok (.getfield 22, 3) := by decide +kernel
theorem d1_84 : decode prog_16_method_1_code 84 = .ok (.iconst 0, 1) := by decide +kernel
theorem d1_85 : decode prog_16_method_1_code 85 = .ok (.iload_n 1, 1) := by decide +kernel
theorem d1_86 : decode prog_16_method_1_code 86 = .ok (.iastore, 1) := by decide +kernel
theorem d1_87 : decode prog_16_method_1_code 87 = .ok (.aload_n 0, 1) := by decide +kernel
theorem d1_88 : decode prog_16_method_1_code 88 = .ok (.iconst 1, 1) := by decide +kernel
theorem d1_89 : decode prog_16_method_1_code 89 = .ok (.putfield 31, 3) := by decide +kernel
theorem d1_92 : decode prog_16_method_1_code 92 = .ok (.return_, 1) := by decide +kernel
theorem ef1n4 (m : MethodId) (a0 : Addr) : entryFrame m #[(.ref a0), (.int (4:Int32))] 3 = mkF m 0 #[rv a0, iv (4:Int32), .unset] [] := by first | (simp [entryFrame, mkF, argsToLocals, Value.category]; done) | rfl
def Q1n4 (Z : State) (a0 : Addr)  (h0 : Heap) (n0 : Nat) (v : Option Value) (h : Heap) (L : List Loc) : Prop := v = none ∧ Fr n0 L ∧ Keep h0 h [a0] ∧ ∃ e1 : Addr, ∃ e2 : Addr, ∃ e3 : Addr, ∃ e4 : Addr, ∃ e5 : Addr, ∃ e6 : Addr, ∃ e7 : Addr, h0.size ≤ e1 ∧ h0.size ≤ e2 ∧ h0.size ≤ e3 ∧ h0.size ≤ e4 ∧ h0.size ≤ e5 ∧ h0.size ≤ e6 ∧ h0.size ≤ e7 ∧ e1 ≠ e2 ∧ e1 ≠ e3 ∧ e1 ≠ e4 ∧ e1 ≠ e5 ∧ e1 ≠ e6 ∧ e1 ≠ e7 ∧ e2 ≠ e3 ∧ e2 ≠ e4 ∧ e2 ≠ e5 ∧ e2 ≠ e6 ∧ e2 ≠ e7 ∧ e3 ≠ e4 ∧ e3 ≠ e5 ∧ e3 ≠ e6 ∧ e3 ≠ e7 ∧ e4 ≠ e5 ∧ e4 ≠ e6 ∧ e4 ≠ e7 ∧ e5 ≠ e6 ∧ e5 ≠ e7 ∧ e6 ≠ e7 ∧ Fld Z h a0 "com/example/spare_calculus/sparecalculus/bisim/Partition" "elements" "[I" (.ref e1) ∧ Fld Z h a0 "com/example/spare_calculus/sparecalculus/bisim/Partition" "positions" "[I" (.ref e2) ∧ Fld Z h a0 "com/example/spare_calculus/sparecalculus/bisim/Partition" "blockOf" "[I" (.ref e3) ∧ Fld Z h a0 "com/example/spare_calculus/sparecalculus/bisim/Partition" "blockStart" "[I" (.ref e4) ∧ Fld Z h a0 "com/example/spare_calculus/sparecalculus/bisim/Partition" "blockEnd" "[I" (.ref e5) ∧ Fld Z h a0 "com/example/spare_calculus/sparecalculus/bisim/Partition" "blockMarkedEnd" "[I" (.ref e6) ∧ Fld Z h a0 "com/example/spare_calculus/sparecalculus/bisim/Partition" "touchedBlocks" "[I" (.ref e7) ∧ Fld Z h a0 "com/example/spare_calculus/sparecalculus/bisim/Partition" "blockCount" "I" (.int (1:Int32)) ∧ Fld Z h a0 "com/example/spare_calculus/sparecalculus/bisim/Partition" "touchedBlockCount" "I" (.int (0:Int32)) ∧ own_Ints Z h e1 [(0:Int32), (1:Int32), (2:Int32), (3:Int32)] ∧ own_Ints Z h e2 [(0:Int32), (1:Int32), (2:Int32), (3:Int32)] ∧ own_Ints Z h e3 [(0:Int32), (0:Int32), (0:Int32), (0:Int32)] ∧ own_Ints Z h e4 [(0:Int32), (0:Int32), (0:Int32), (0:Int32)] ∧ own_Ints Z h e5 [(4:Int32), (0:Int32), (0:Int32), (0:Int32)] ∧ own_Ints Z h e6 [(0:Int32), (0:Int32), (0:Int32), (0:Int32)] ∧ own_Ints Z h e7 [(0:Int32), (0:Int32), (0:Int32), (0:Int32)]
set_option maxRecDepth 65536 in
set_option maxHeartbeats 40000000 in
theorem rm1n4 (l : Launch) (Z : State) (aZ : Array Value) (hw : ∀ d ∈ tables_1, d.before aZ Z = true) (ws : List Jvm.Cond) (a0 : Addr)  (h0 : Heap) (n0 : Nat) (Z0 : n0 ≤ h0.size) (P0 : Exa Z h0 a0 "com/example/spare_calculus/sparecalculus/bisim/Partition") (P1 : Fld Z h0 a0 "com/example/spare_calculus/sparecalculus/bisim/Partition" "elements" "[I" .null) (P2 : Fld Z h0 a0 "com/example/spare_calculus/sparecalculus/bisim/Partition" "positions" "[I" .null) (P3 : Fld Z h0 a0 "com/example/spare_calculus/sparecalculus/bisim/Partition" "blockOf" "[I" .null) (P4 : Fld Z h0 a0 "com/example/spare_calculus/sparecalculus/bisim/Partition" "blockStart" "[I" .null) (P5 : Fld Z h0 a0 "com/example/spare_calculus/sparecalculus/bisim/Partition" "blockEnd" "[I" .null) (P6 : Fld Z h0 a0 "com/example/spare_calculus/sparecalculus/bisim/Partition" "blockMarkedEnd" "[I" .null) (P7 : Fld Z h0 a0 "com/example/spare_calculus/sparecalculus/bisim/Partition" "touchedBlocks" "[I" .null) (P8 : Fld Z h0 a0 "com/example/spare_calculus/sparecalculus/bisim/Partition" "blockCount" "I" (.int (0:Int32))) (P9 : Fld Z h0 a0 "com/example/spare_calculus/sparecalculus/bisim/Partition" "touchedBlockCount" "I" (.int (0:Int32))) (gq_a0 : n0 ≤ a0) :
    MetFree l (⟨"com/example/spare_calculus/sparecalculus/bisim/Partition", "<init>", "(I)V"⟩ : MethodName) (head1 (Jvm.Cond.code (⟨"com/example/spare_calculus/sparecalculus/bisim/Partition", "<init>", "(I)V"⟩ : MethodName) prog_16_method_1_code 3 none :: ws) ({ frames := 1, cells := 7, slots := 28, locals := 12 } : Room)) (fun a U => a = #[(.ref a0), (.int (4:Int32))] ∧ Z.Warmed39 U.vm ∧ U.heap = h0) (fun _ _ _ _ _ => True) (fun _ U o U' => ∃ v L, o = .returned v ∧ Q1n4 Z a0 h0 n0 v U'.heap L ∧ FrameEnd U o U' L ({ frames := 1, cells := 7, slots := 28, locals := 12 } : Room).cells ({ frames := 1, cells := 7, slots := 28, locals := 12 } : Room).slots) := by
  refine MetFree.of_bodySF (plainFor_of_name own_pn0) hisR ?_
  intro p e s m args below meth c s₁ Bd hml0 hP hK
  obtain ⟨rfl, hZ, hh⟩ := hP
  have hx := Bd.exec
  have hby := Bd.bytes
  have hml : c.maxLocals = 3 := hml0
  have hown : s.vm.findClass "com/example/spare_calculus/sparecalculus/bisim/Partition" = some m.cls := findClass_of_methodNamed Bd.named
  have hnm := (name_of_methodNamed Bd.named Bd.method).1
  have X0 : Stand p l e ({ frames := 1, cells := 7, slots := 28, locals := 12 } : Room) s m #[(.ref a0), (.int (4:Int32))] below meth c s₁ [] 0 0 := Stand.of_body Bd
  have e0 : s₁.heap = h0 := by rw [← hh, Bd.state]; rfl
  have N0 := Fr.nil n0
  have Kp0 : Keep h0 h0 [a0] := Keep.refl _ _
  show own_Goes p e below s (Q1n4 Z a0 h0 n0) ({ frames := 1, cells := 7, slots := 28, locals := 12 } : Room).cells ({ frames := 1, cells := 7, slots := 28, locals := 12 } : Room).slots _
  refine own_pre (fun t k => castTop (ef1n4 m a0) k) ?_
  refine own_pre (A := s₁.setTop (mkF m 1 #[rv a0, iv (4:Int32), .unset] [(.ref a0)])) (fun t k => ?_) ?_
  · show Steps p.tables e below (s₁.setTop (mkF m 0 #[rv a0, iv (4:Int32), .unset] [])) _
    refine XS.aloadN X0.here hx rfl (hb hby d1_0) rfl rfl ?_
    exact k
  obtain ⟨T1, X1, e1, st1⟩ := initO X0 hx hZ hown (own_h hw 6 rfl) (own_h hw 7 rfl) (own_h hw 8 rfl) e0 (g := (mkF m 1 #[rv a0, iv (4:Int32), .unset] [(.ref a0)])) rfl (by rw [hml]; rfl) rfl (hb hby d1_1) (by decide) (W := 0) (by show 2 * 0 + _ ≤ _; exact Nat.le_of_eq rfl) (by decide)
  refine own_pre st1 ?_
  refine own_pre (A := T1.setTop (mkF m 6 #[rv a0, iv (4:Int32), .unset] [(.int (4:Int32)), (.ref a0)])) (fun t k => ?_) ?_
  · show Steps p.tables e below (T1.setTop (mkF m 4 #[rv a0, iv (4:Int32), .unset] [])) _
    refine XS.aloadN X1.here hx rfl (hb hby d1_4) rfl rfl ?_
    show Steps p.tables e below (T1.setTop (mkF m 5 #[rv a0, iv (4:Int32), .unset] [(.ref a0)])) _
    refine XS.iloadN X1.here hx rfl (hb hby d1_5) rfl ?_
    exact k
  obtain ⟨T2, h2, k2, X2, e2, E2, A2, st2⟩ := newP X1 hx hZ (own_h hw 9 rfl) e1 (g := (mkF m 6 #[rv a0, iv (4:Int32), .unset] [(.int (4:Int32)), (.ref a0)])) rfl (hb hby d1_6) rfl (by decide) (cap := 4) (by decide) (by decide) (by decide) (by decide)
  obtain ⟨b2, g2⟩ : ∃ z, z = h0.size := ⟨_, rfl⟩
  rw [← g2] at A2 st2
  have ge_b2 : n0 ≤ b2 := Nat.le_trans Z0 (Nat.le_of_eq g2.symm)
  have sz_b2 : h0.size ≤ b2 := Nat.le_trans Kp0.1 (Nat.le_of_eq g2.symm)
  have ne_a0_b2 : a0 ≠ b2 := Nat.ne_of_lt (Nat.lt_of_lt_of_le P0.lt (Nat.le_of_eq g2.symm))
  have Kp2 : Keep h0 h2 [a0] := Kp0.ext E2
  have Z3 : n0 ≤ h2.size := Nat.le_trans Z0 E2.1
  have V2 : own_Ints Z h2 b2 [(0:Int32), (0:Int32), (0:Int32), (0:Int32)] := own_newI A2 (by decide)
  refine own_pre st2 ?_
  have F5 := (P0.ext E2)
  have F6 := (P1.ext E2)
  obtain ⟨T4, h4, X4, e4, W4, st4⟩ := putF X2 hx hZ hown (host := "") (Or.inl (own_h hw 10 rfl)) Via.refl e2 F6 F5 (Or.inr ⟨(own_h hw 11 rfl), rfl, hnm⟩) (own_h hw 1 rfl) (ty := (.array .int)) (by decide) rfl rfl (g := (mkF m 8 #[rv a0, iv (4:Int32), .unset] [(.ref b2), (.ref a0)])) rfl rfl (hb hby d1_8)
  have Kp4 : Keep h0 h4 [a0] := Kp2.wr W4 (Or.inl (List.mem_of_getElem? (i := 0) rfl))
  have Z7 : n0 ≤ h4.size := Nat.le_trans Z3 (Nat.le_of_eq W4.size.symm)
  have N4 := Fr.snoc X4 N0 gq_a0
  have Fw4 := F6.same W4
  refine own_pre st4 ?_
  refine own_pre (A := T4.setTop (mkF m 13 #[rv a0, iv (4:Int32), .unset] [(.int (4:Int32)), (.ref a0)])) (fun t k => ?_) ?_
  · show Steps p.tables e below (T4.setTop (mkF m 11 #[rv a0, iv (4:Int32), .unset] [])) _
    refine XS.aloadN X4.here hx rfl (hb hby d1_11) rfl rfl ?_
    show Steps p.tables e below (T4.setTop (mkF m 12 #[rv a0, iv (4:Int32), .unset] [(.ref a0)])) _
    refine XS.iloadN X4.here hx rfl (hb hby d1_12) rfl ?_
    exact k
  have F9 := (F5.wr W4)
  have F10 := (V2.other W4 (Ne.symm ne_a0_b2))
  obtain ⟨T8, h8, k8, X8, e8, E8, A8, st8⟩ := newP X4 hx hZ (own_h hw 9 rfl) e4 (g := (mkF m 13 #[rv a0, iv (4:Int32), .unset] [(.int (4:Int32)), (.ref a0)])) rfl (hb hby d1_13) rfl (by decide) (cap := 4) (by decide) (by decide) (by decide) (by decide)
  obtain ⟨b8, g8⟩ : ∃ z, z = h4.size := ⟨_, rfl⟩
  rw [← g8] at A8 st8
  have ge_b8 : n0 ≤ b8 := Nat.le_trans Z7 (Nat.le_of_eq g8.symm)
  have sz_b8 : h0.size ≤ b8 := Nat.le_trans Kp4.1 (Nat.le_of_eq g8.symm)
  have ne_a0_b8 : a0 ≠ b8 := Nat.ne_of_lt (Nat.lt_of_lt_of_le F9.lt (Nat.le_of_eq g8.symm))
  have ne_b2_b8 : b2 ≠ b8 := Nat.ne_of_lt (Nat.lt_of_lt_of_le F10.lt (Nat.le_of_eq g8.symm))
  have Kp8 : Keep h0 h8 [a0] := Kp4.ext E8
  have Z11 : n0 ≤ h8.size := Nat.le_trans Z7 E8.1
  have V8 : own_Ints Z h8 b8 [(0:Int32), (0:Int32), (0:Int32), (0:Int32)] := own_newI A8 (by decide)
  refine own_pre st8 ?_
  have F13 := (F9.ext E8)
  have F14 := (((P2.ext E2).other W4 (Or.inr (slot_ne (Or.inr (own_h hw 13 rfl)) (Or.inr (own_h hw 11 rfl)) (by decide) (t := (.array .int)) (t' := (.array .int)) (by decide) (by decide)))).ext E8)
  obtain ⟨T12, h12, X12, e12, W12, st12⟩ := putF X8 hx hZ hown (host := "") (Or.inl (own_h hw 12 rfl)) Via.refl e8 F14 F13 (Or.inr ⟨(own_h hw 13 rfl), rfl, hnm⟩) (own_h hw 1 rfl) (ty := (.array .int)) (by decide) rfl rfl (g := (mkF m 15 #[rv a0, iv (4:Int32), .unset] [(.ref b8), (.ref a0)])) rfl rfl (hb hby d1_15)
  have Kp12 : Keep h0 h12 [a0] := Kp8.wr W12 (Or.inl (List.mem_of_getElem? (i := 0) rfl))
  have Z15 : n0 ≤ h12.size := Nat.le_trans Z11 (Nat.le_of_eq W12.size.symm)
  have N12 := Fr.snoc X12 N4 gq_a0
  have Fw12 := F14.same W12
  refine own_pre st12 ?_
  refine own_pre (A := T12.setTop (mkF m 26 #[rv a0, iv (4:Int32), iv (0:Int32)] [(.ref a0)])) (fun t k => ?_) ?_
  · show Steps p.tables e below (T12.setTop (mkF m 18 #[rv a0, iv (4:Int32), .unset] [])) _
    refine XS.iconst X12.here hx rfl (hb hby d1_18) ?_
    show Steps p.tables e below (T12.setTop (mkF m 19 #[rv a0, iv (4:Int32), .unset] [(.int (0:Int32))])) _
    refine XS.istoreN X12.here hx rfl (hb hby d1_19) rfl (l' := #[rv a0, iv (4:Int32), iv (0:Int32)]) rfl ?_
    show Steps p.tables e below (T12.setTop (mkF m 20 #[rv a0, iv (4:Int32), iv (0:Int32)] [])) _
    refine XS.iloadN X12.here hx rfl (hb hby d1_20) rfl ?_
    show Steps p.tables e below (T12.setTop (mkF m 21 #[rv a0, iv (4:Int32), iv (0:Int32)] [(.int (0:Int32))])) _
    refine XS.iloadN X12.here hx rfl (hb hby d1_21) rfl ?_
    show Steps p.tables e below (T12.setTop (mkF m 22 #[rv a0, iv (4:Int32), iv (0:Int32)] [(.int (4:Int32)), (.int (0:Int32))])) _
    refine XS.icmpNo X12.here hx rfl (hb hby d1_22) rfl (XT.ii_ge_f (by decide)) ?_
    show Steps p.tables e below (T12.setTop (mkF m 25 #[rv a0, iv (4:Int32), iv (0:Int32)] [])) _
    refine XS.aloadN X12.here hx rfl (hb hby d1_25) rfl rfl ?_
    exact k
  have F17 := ((Fw4.ext E8).other W12 (Or.inr (slot_ne (Or.inr (own_h hw 11 rfl)) (Or.inr (own_h hw 13 rfl)) (by decide) (t := (.array .int)) (t' := (.array .int)) (by decide) (by decide))))
  obtain ⟨T16, X16, e16, st16⟩ := getF X12 hx hZ hown (host := "") (Or.inl (own_h hw 10 rfl)) Via.refl e12 F17 (g := (mkF m 26 #[rv a0, iv (4:Int32), iv (0:Int32)] [(.ref a0)])) rfl rfl (hb hby d1_26)
  refine own_pre st16 ?_
  refine own_pre (A := T16.setTop (mkF m 31 #[rv a0, iv (4:Int32), iv (0:Int32)] [(.int (0:Int32)), (.int (0:Int32)), (.ref b2)])) (fun t k => ?_) ?_
  · show Steps p.tables e below (T16.setTop (mkF m 29 #[rv a0, iv (4:Int32), iv (0:Int32)] [(.ref b2)])) _
    refine XS.iloadN X16.here hx rfl (hb hby d1_29) rfl ?_
    show Steps p.tables e below (T16.setTop (mkF m 30 #[rv a0, iv (4:Int32), iv (0:Int32)] [(.int (0:Int32)), (.ref b2)])) _
    refine XS.iloadN X16.here hx rfl (hb hby d1_30) rfl ?_
    exact k
  have F19 := ((F10.ext E8).other W12 (Ne.symm ne_a0_b2))
  have hbn20 : own_In (0:Int32) [(0:Int32), (0:Int32), (0:Int32), (0:Int32)].length := own_lit rfl
  obtain ⟨T18, h18, X18, e18, W18, V18, st18⟩ := own_iastore X16 hx hZ e16 F19 (j := (0:Int32)) (x := (0:Int32)) hbn20 (g := (mkF m 31 #[rv a0, iv (4:Int32), iv (0:Int32)] [(.int (0:Int32)), (.int (0:Int32)), (.ref b2)])) rfl rfl (hb hby d1_31)
  have Kp18 : Keep h0 h18 [a0] := Kp12.wr W18 (Or.inr sz_b2)
  have Z21 : n0 ≤ h18.size := Nat.le_trans Z15 (Nat.le_of_eq W18.size.symm)
  have N18 := Fr.snoc X18 N12 ge_b2
  have Vw18 : own_Ints Z h18 b2 [(0:Int32), (0:Int32), (0:Int32), (0:Int32)] := V18
  refine own_pre st18 ?_
  refine own_pre (A := T18.setTop (mkF m 33 #[rv a0, iv (4:Int32), iv (0:Int32)] [(.ref a0)])) (fun t k => ?_) ?_
  · show Steps p.tables e below (T18.setTop (mkF m 32 #[rv a0, iv (4:Int32), iv (0:Int32)] [])) _
    refine XS.aloadN X18.here hx rfl (hb hby d1_32) rfl rfl ?_
    exact k
  have F23 := (Fw12.other W18 (Or.inl ne_a0_b2))
  obtain ⟨T22, X22, e22, st22⟩ := getF X18 hx hZ hown (host := "") (Or.inl (own_h hw 12 rfl)) Via.refl e18 F23 (g := (mkF m 33 #[rv a0, iv (4:Int32), iv (0:Int32)] [(.ref a0)])) rfl rfl (hb hby d1_33)
  refine own_pre st22 ?_
  refine own_pre (A := T22.setTop (mkF m 38 #[rv a0, iv (4:Int32), iv (0:Int32)] [(.int (0:Int32)), (.int (0:Int32)), (.ref b8)])) (fun t k => ?_) ?_
  · show Steps p.tables e below (T22.setTop (mkF m 36 #[rv a0, iv (4:Int32), iv (0:Int32)] [(.ref b8)])) _
    refine XS.iloadN X22.here hx rfl (hb hby d1_36) rfl ?_
    show Steps p.tables e below (T22.setTop (mkF m 37 #[rv a0, iv (4:Int32), iv (0:Int32)] [(.int (0:Int32)), (.ref b8)])) _
    refine XS.iloadN X22.here hx rfl (hb hby d1_37) rfl ?_
    exact k
  have F25 := ((V8.other W12 (Ne.symm ne_a0_b8)).other W18 (Ne.symm ne_b2_b8))
  have hbn26 : own_In (0:Int32) [(0:Int32), (0:Int32), (0:Int32), (0:Int32)].length := own_lit rfl
  obtain ⟨T24, h24, X24, e24, W24, V24, st24⟩ := own_iastore X22 hx hZ e22 F25 (j := (0:Int32)) (x := (0:Int32)) hbn26 (g := (mkF m 38 #[rv a0, iv (4:Int32), iv (0:Int32)] [(.int (0:Int32)), (.int (0:Int32)), (.ref b8)])) rfl rfl (hb hby d1_38)
  have Kp24 : Keep h0 h24 [a0] := Kp18.wr W24 (Or.inr sz_b8)
  have Z27 : n0 ≤ h24.size := Nat.le_trans Z21 (Nat.le_of_eq W24.size.symm)
  have N24 := Fr.snoc X24 N18 ge_b8
  have Vw24 : own_Ints Z h24 b8 [(0:Int32), (0:Int32), (0:Int32), (0:Int32)] := V24
  refine own_pre st24 ?_
  refine own_pre (A := T24.setTop (mkF m 26 #[rv a0, iv (4:Int32), iv (1:Int32)] [(.ref a0)])) (fun t k => ?_) ?_
  · show Steps p.tables e below (T24.setTop (mkF m 39 #[rv a0, iv (4:Int32), iv (0:Int32)] [])) _
    refine XS.iinc X24.here hx rfl (hb hby d1_39) rfl (l' := #[rv a0, iv (4:Int32), iv (1:Int32)]) rfl ?_
    show Steps p.tables e below (T24.setTop (mkF m 42 #[rv a0, iv (4:Int32), iv (1:Int32)] [])) _
    refine XS.goto X24.here hx rfl (pc0 := 42) (pc' := 20) rfl (hb hby d1_42) (by decide) (by decide) ?_
    show Steps p.tables e below (T24.setTop (mkF m 20 #[rv a0, iv (4:Int32), iv (1:Int32)] [])) _
    refine XS.iloadN X24.here hx rfl (hb hby d1_20) rfl ?_
    show Steps p.tables e below (T24.setTop (mkF m 21 #[rv a0, iv (4:Int32), iv (1:Int32)] [(.int (1:Int32))])) _
    refine XS.iloadN X24.here hx rfl (hb hby d1_21) rfl ?_
    show Steps p.tables e below (T24.setTop (mkF m 22 #[rv a0, iv (4:Int32), iv (1:Int32)] [(.int (4:Int32)), (.int (1:Int32))])) _
    refine XS.icmpNo X24.here hx rfl (hb hby d1_22) rfl (XT.ii_ge_f (by decide)) ?_
    show Steps p.tables e below (T24.setTop (mkF m 25 #[rv a0, iv (4:Int32), iv (1:Int32)] [])) _
    refine XS.aloadN X24.here hx rfl (hb hby d1_25) rfl rfl ?_
    exact k
  have F29 := ((F17.other W18 (Or.inl ne_a0_b2)).other W24 (Or.inl ne_a0_b8))
  obtain ⟨T28, X28, e28, st28⟩ := getF X24 hx hZ hown (host := "") (Or.inl (own_h hw 10 rfl)) Via.refl e24 F29 (g := (mkF m 26 #[rv a0, iv (4:Int32), iv (1:Int32)] [(.ref a0)])) rfl rfl (hb hby d1_26)
  refine own_pre st28 ?_
  refine own_pre (A := T28.setTop (mkF m 31 #[rv a0, iv (4:Int32), iv (1:Int32)] [(.int (1:Int32)), (.int (1:Int32)), (.ref b2)])) (fun t k => ?_) ?_
  · show Steps p.tables e below (T28.setTop (mkF m 29 #[rv a0, iv (4:Int32), iv (1:Int32)] [(.ref b2)])) _
    refine XS.iloadN X28.here hx rfl (hb hby d1_29) rfl ?_
    show Steps p.tables e below (T28.setTop (mkF m 30 #[rv a0, iv (4:Int32), iv (1:Int32)] [(.int (1:Int32)), (.ref b2)])) _
    refine XS.iloadN X28.here hx rfl (hb hby d1_30) rfl ?_
    exact k
  have F31 := (Vw18.other W24 ne_b2_b8)
  have hbn32 : own_In (1:Int32) [(0:Int32), (0:Int32), (0:Int32), (0:Int32)].length := own_lit rfl
  obtain ⟨T30, h30, X30, e30, W30, V30, st30⟩ := own_iastore X28 hx hZ e28 F31 (j := (1:Int32)) (x := (1:Int32)) hbn32 (g := (mkF m 31 #[rv a0, iv (4:Int32), iv (1:Int32)] [(.int (1:Int32)), (.int (1:Int32)), (.ref b2)])) rfl rfl (hb hby d1_31)
  have Kp30 : Keep h0 h30 [a0] := Kp24.wr W30 (Or.inr sz_b2)
  have Z33 : n0 ≤ h30.size := Nat.le_trans Z27 (Nat.le_of_eq W30.size.symm)
  have N30 := Fr.snoc X30 N24 ge_b2
  have Vw30 : own_Ints Z h30 b2 [(0:Int32), (1:Int32), (0:Int32), (0:Int32)] := V30
  refine own_pre st30 ?_
  refine own_pre (A := T30.setTop (mkF m 33 #[rv a0, iv (4:Int32), iv (1:Int32)] [(.ref a0)])) (fun t k => ?_) ?_
  · show Steps p.tables e below (T30.setTop (mkF m 32 #[rv a0, iv (4:Int32), iv (1:Int32)] [])) _
    refine XS.aloadN X30.here hx rfl (hb hby d1_32) rfl rfl ?_
    exact k
  have F35 := ((F23.other W24 (Or.inl ne_a0_b8)).other W30 (Or.inl ne_a0_b2))
  obtain ⟨T34, X34, e34, st34⟩ := getF X30 hx hZ hown (host := "") (Or.inl (own_h hw 12 rfl)) Via.refl e30 F35 (g := (mkF m 33 #[rv a0, iv (4:Int32), iv (1:Int32)] [(.ref a0)])) rfl rfl (hb hby d1_33)
  refine own_pre st34 ?_
  refine own_pre (A := T34.setTop (mkF m 38 #[rv a0, iv (4:Int32), iv (1:Int32)] [(.int (1:Int32)), (.int (1:Int32)), (.ref b8)])) (fun t k => ?_) ?_
  · show Steps p.tables e below (T34.setTop (mkF m 36 #[rv a0, iv (4:Int32), iv (1:Int32)] [(.ref b8)])) _
    refine XS.iloadN X34.here hx rfl (hb hby d1_36) rfl ?_
    show Steps p.tables e below (T34.setTop (mkF m 37 #[rv a0, iv (4:Int32), iv (1:Int32)] [(.int (1:Int32)), (.ref b8)])) _
    refine XS.iloadN X34.here hx rfl (hb hby d1_37) rfl ?_
    exact k
  have F37 := (Vw24.other W30 (Ne.symm ne_b2_b8))
  have hbn38 : own_In (1:Int32) [(0:Int32), (0:Int32), (0:Int32), (0:Int32)].length := own_lit rfl
  obtain ⟨T36, h36, X36, e36, W36, V36, st36⟩ := own_iastore X34 hx hZ e34 F37 (j := (1:Int32)) (x := (1:Int32)) hbn38 (g := (mkF m 38 #[rv a0, iv (4:Int32), iv (1:Int32)] [(.int (1:Int32)), (.int (1:Int32)), (.ref b8)])) rfl rfl (hb hby d1_38)
  have Kp36 : Keep h0 h36 [a0] := Kp30.wr W36 (Or.inr sz_b8)
  have Z39 : n0 ≤ h36.size := Nat.le_trans Z33 (Nat.le_of_eq W36.size.symm)
  have N36 := Fr.snoc X36 N30 ge_b8
  have Vw36 : own_Ints Z h36 b8 [(0:Int32), (1:Int32), (0:Int32), (0:Int32)] := V36
  refine own_pre st36 ?_
  refine own_pre (A := T36.setTop (mkF m 26 #[rv a0, iv (4:Int32), iv (2:Int32)] [(.ref a0)])) (fun t k => ?_) ?_
  · show Steps p.tables e below (T36.setTop (mkF m 39 #[rv a0, iv (4:Int32), iv (1:Int32)] [])) _
    refine XS.iinc X36.here hx rfl (hb hby d1_39) rfl (l' := #[rv a0, iv (4:Int32), iv (2:Int32)]) rfl ?_
    show Steps p.tables e below (T36.setTop (mkF m 42 #[rv a0, iv (4:Int32), iv (2:Int32)] [])) _
    refine XS.goto X36.here hx rfl (pc0 := 42) (pc' := 20) rfl (hb hby d1_42) (by decide) (by decide) ?_
    show Steps p.tables e below (T36.setTop (mkF m 20 #[rv a0, iv (4:Int32), iv (2:Int32)] [])) _
    refine XS.iloadN X36.here hx rfl (hb hby d1_20) rfl ?_
    show Steps p.tables e below (T36.setTop (mkF m 21 #[rv a0, iv (4:Int32), iv (2:Int32)] [(.int (2:Int32))])) _
    refine XS.iloadN X36.here hx rfl (hb hby d1_21) rfl ?_
    show Steps p.tables e below (T36.setTop (mkF m 22 #[rv a0, iv (4:Int32), iv (2:Int32)] [(.int (4:Int32)), (.int (2:Int32))])) _
    refine XS.icmpNo X36.here hx rfl (hb hby d1_22) rfl (XT.ii_ge_f (by decide)) ?_
    show Steps p.tables e below (T36.setTop (mkF m 25 #[rv a0, iv (4:Int32), iv (2:Int32)] [])) _
    refine XS.aloadN X36.here hx rfl (hb hby d1_25) rfl rfl ?_
    exact k
  have F41 := ((F29.other W30 (Or.inl ne_a0_b2)).other W36 (Or.inl ne_a0_b8))
  obtain ⟨T40, X40, e40, st40⟩ := getF X36 hx hZ hown (host := "") (Or.inl (own_h hw 10 rfl)) Via.refl e36 F41 (g := (mkF m 26 #[rv a0, iv (4:Int32), iv (2:Int32)] [(.ref a0)])) rfl rfl (hb hby d1_26)
  refine own_pre st40 ?_
  refine own_pre (A := T40.setTop (mkF m 31 #[rv a0, iv (4:Int32), iv (2:Int32)] [(.int (2:Int32)), (.int (2:Int32)), (.ref b2)])) (fun t k => ?_) ?_
  · show Steps p.tables e below (T40.setTop (mkF m 29 #[rv a0, iv (4:Int32), iv (2:Int32)] [(.ref b2)])) _
    refine XS.iloadN X40.here hx rfl (hb hby d1_29) rfl ?_
    show Steps p.tables e below (T40.setTop (mkF m 30 #[rv a0, iv (4:Int32), iv (2:Int32)] [(.int (2:Int32)), (.ref b2)])) _
    refine XS.iloadN X40.here hx rfl (hb hby d1_30) rfl ?_
    exact k
  have F43 := (Vw30.other W36 ne_b2_b8)
  have hbn44 : own_In (2:Int32) [(0:Int32), (1:Int32), (0:Int32), (0:Int32)].length := own_lit rfl
  obtain ⟨T42, h42, X42, e42, W42, V42, st42⟩ := own_iastore X40 hx hZ e40 F43 (j := (2:Int32)) (x := (2:Int32)) hbn44 (g := (mkF m 31 #[rv a0, iv (4:Int32), iv (2:Int32)] [(.int (2:Int32)), (.int (2:Int32)), (.ref b2)])) rfl rfl (hb hby d1_31)
  have Kp42 : Keep h0 h42 [a0] := Kp36.wr W42 (Or.inr sz_b2)
  have Z45 : n0 ≤ h42.size := Nat.le_trans Z39 (Nat.le_of_eq W42.size.symm)
  have N42 := Fr.snoc X42 N36 ge_b2
  have Vw42 : own_Ints Z h42 b2 [(0:Int32), (1:Int32), (2:Int32), (0:Int32)] := V42
  refine own_pre st42 ?_
  refine own_pre (A := T42.setTop (mkF m 33 #[rv a0, iv (4:Int32), iv (2:Int32)] [(.ref a0)])) (fun t k => ?_) ?_
  · show Steps p.tables e below (T42.setTop (mkF m 32 #[rv a0, iv (4:Int32), iv (2:Int32)] [])) _
    refine XS.aloadN X42.here hx rfl (hb hby d1_32) rfl rfl ?_
    exact k
  have F47 := ((F35.other W36 (Or.inl ne_a0_b8)).other W42 (Or.inl ne_a0_b2))
  obtain ⟨T46, X46, e46, st46⟩ := getF X42 hx hZ hown (host := "") (Or.inl (own_h hw 12 rfl)) Via.refl e42 F47 (g := (mkF m 33 #[rv a0, iv (4:Int32), iv (2:Int32)] [(.ref a0)])) rfl rfl (hb hby d1_33)
  refine own_pre st46 ?_
  refine own_pre (A := T46.setTop (mkF m 38 #[rv a0, iv (4:Int32), iv (2:Int32)] [(.int (2:Int32)), (.int (2:Int32)), (.ref b8)])) (fun t k => ?_) ?_
  · show Steps p.tables e below (T46.setTop (mkF m 36 #[rv a0, iv (4:Int32), iv (2:Int32)] [(.ref b8)])) _
    refine XS.iloadN X46.here hx rfl (hb hby d1_36) rfl ?_
    show Steps p.tables e below (T46.setTop (mkF m 37 #[rv a0, iv (4:Int32), iv (2:Int32)] [(.int (2:Int32)), (.ref b8)])) _
    refine XS.iloadN X46.here hx rfl (hb hby d1_37) rfl ?_
    exact k
  have F49 := (Vw36.other W42 (Ne.symm ne_b2_b8))
  have hbn50 : own_In (2:Int32) [(0:Int32), (1:Int32), (0:Int32), (0:Int32)].length := own_lit rfl
  obtain ⟨T48, h48, X48, e48, W48, V48, st48⟩ := own_iastore X46 hx hZ e46 F49 (j := (2:Int32)) (x := (2:Int32)) hbn50 (g := (mkF m 38 #[rv a0, iv (4:Int32), iv (2:Int32)] [(.int (2:Int32)), (.int (2:Int32)), (.ref b8)])) rfl rfl (hb hby d1_38)
  have Kp48 : Keep h0 h48 [a0] := Kp42.wr W48 (Or.inr sz_b8)
  have Z51 : n0 ≤ h48.size := Nat.le_trans Z45 (Nat.le_of_eq W48.size.symm)
  have N48 := Fr.snoc X48 N42 ge_b8
  have Vw48 : own_Ints Z h48 b8 [(0:Int32), (1:Int32), (2:Int32), (0:Int32)] := V48
  refine own_pre st48 ?_
  refine own_pre (A := T48.setTop (mkF m 26 #[rv a0, iv (4:Int32), iv (3:Int32)] [(.ref a0)])) (fun t k => ?_) ?_
  · show Steps p.tables e below (T48.setTop (mkF m 39 #[rv a0, iv (4:Int32), iv (2:Int32)] [])) _
    refine XS.iinc X48.here hx rfl (hb hby d1_39) rfl (l' := #[rv a0, iv (4:Int32), iv (3:Int32)]) rfl ?_
    show Steps p.tables e below (T48.setTop (mkF m 42 #[rv a0, iv (4:Int32), iv (3:Int32)] [])) _
    refine XS.goto X48.here hx rfl (pc0 := 42) (pc' := 20) rfl (hb hby d1_42) (by decide) (by decide) ?_
    show Steps p.tables e below (T48.setTop (mkF m 20 #[rv a0, iv (4:Int32), iv (3:Int32)] [])) _
    refine XS.iloadN X48.here hx rfl (hb hby d1_20) rfl ?_
    show Steps p.tables e below (T48.setTop (mkF m 21 #[rv a0, iv (4:Int32), iv (3:Int32)] [(.int (3:Int32))])) _
    refine XS.iloadN X48.here hx rfl (hb hby d1_21) rfl ?_
    show Steps p.tables e below (T48.setTop (mkF m 22 #[rv a0, iv (4:Int32), iv (3:Int32)] [(.int (4:Int32)), (.int (3:Int32))])) _
    refine XS.icmpNo X48.here hx rfl (hb hby d1_22) rfl (XT.ii_ge_f (by decide)) ?_
    show Steps p.tables e below (T48.setTop (mkF m 25 #[rv a0, iv (4:Int32), iv (3:Int32)] [])) _
    refine XS.aloadN X48.here hx rfl (hb hby d1_25) rfl rfl ?_
    exact k
  have F53 := ((F41.other W42 (Or.inl ne_a0_b2)).other W48 (Or.inl ne_a0_b8))
  obtain ⟨T52, X52, e52, st52⟩ := getF X48 hx hZ hown (host := "") (Or.inl (own_h hw 10 rfl)) Via.refl e48 F53 (g := (mkF m 26 #[rv a0, iv (4:Int32), iv (3:Int32)] [(.ref a0)])) rfl rfl (hb hby d1_26)
  refine own_pre st52 ?_
  refine own_pre (A := T52.setTop (mkF m 31 #[rv a0, iv (4:Int32), iv (3:Int32)] [(.int (3:Int32)), (.int (3:Int32)), (.ref b2)])) (fun t k => ?_) ?_
  · show Steps p.tables e below (T52.setTop (mkF m 29 #[rv a0, iv (4:Int32), iv (3:Int32)] [(.ref b2)])) _
    refine XS.iloadN X52.here hx rfl (hb hby d1_29) rfl ?_
    show Steps p.tables e below (T52.setTop (mkF m 30 #[rv a0, iv (4:Int32), iv (3:Int32)] [(.int (3:Int32)), (.ref b2)])) _
    refine XS.iloadN X52.here hx rfl (hb hby d1_30) rfl ?_
    exact k
  have F55 := (Vw42.other W48 ne_b2_b8)
  have hbn56 : own_In (3:Int32) [(0:Int32), (1:Int32), (2:Int32), (0:Int32)].length := own_lit rfl
  obtain ⟨T54, h54, X54, e54, W54, V54, st54⟩ := own_iastore X52 hx hZ e52 F55 (j := (3:Int32)) (x := (3:Int32)) hbn56 (g := (mkF m 31 #[rv a0, iv (4:Int32), iv (3:Int32)] [(.int (3:Int32)), (.int (3:Int32)), (.ref b2)])) rfl rfl (hb hby d1_31)
  have Kp54 : Keep h0 h54 [a0] := Kp48.wr W54 (Or.inr sz_b2)
  have Z57 : n0 ≤ h54.size := Nat.le_trans Z51 (Nat.le_of_eq W54.size.symm)
  have N54 := Fr.snoc X54 N48 ge_b2
  have Vw54 : own_Ints Z h54 b2 [(0:Int32), (1:Int32), (2:Int32), (3:Int32)] := V54
  refine own_pre st54 ?_
  refine own_pre (A := T54.setTop (mkF m 33 #[rv a0, iv (4:Int32), iv (3:Int32)] [(.ref a0)])) (fun t k => ?_) ?_
  · show Steps p.tables e below (T54.setTop (mkF m 32 #[rv a0, iv (4:Int32), iv (3:Int32)] [])) _
    refine XS.aloadN X54.here hx rfl (hb hby d1_32) rfl rfl ?_
    exact k
  have F59 := ((F47.other W48 (Or.inl ne_a0_b8)).other W54 (Or.inl ne_a0_b2))
  obtain ⟨T58, X58, e58, st58⟩ := getF X54 hx hZ hown (host := "") (Or.inl (own_h hw 12 rfl)) Via.refl e54 F59 (g := (mkF m 33 #[rv a0, iv (4:Int32), iv (3:Int32)] [(.ref a0)])) rfl rfl (hb hby d1_33)
  refine own_pre st58 ?_
  refine own_pre (A := T58.setTop (mkF m 38 #[rv a0, iv (4:Int32), iv (3:Int32)] [(.int (3:Int32)), (.int (3:Int32)), (.ref b8)])) (fun t k => ?_) ?_
  · show Steps p.tables e below (T58.setTop (mkF m 36 #[rv a0, iv (4:Int32), iv (3:Int32)] [(.ref b8)])) _
    refine XS.iloadN X58.here hx rfl (hb hby d1_36) rfl ?_
    show Steps p.tables e below (T58.setTop (mkF m 37 #[rv a0, iv (4:Int32), iv (3:Int32)] [(.int (3:Int32)), (.ref b8)])) _
    refine XS.iloadN X58.here hx rfl (hb hby d1_37) rfl ?_
    exact k
  have F61 := (Vw48.other W54 (Ne.symm ne_b2_b8))
  have hbn62 : own_In (3:Int32) [(0:Int32), (1:Int32), (2:Int32), (0:Int32)].length := own_lit rfl
  obtain ⟨T60, h60, X60, e60, W60, V60, st60⟩ := own_iastore X58 hx hZ e58 F61 (j := (3:Int32)) (x := (3:Int32)) hbn62 (g := (mkF m 38 #[rv a0, iv (4:Int32), iv (3:Int32)] [(.int (3:Int32)), (.int (3:Int32)), (.ref b8)])) rfl rfl (hb hby d1_38)
  have Kp60 : Keep h0 h60 [a0] := Kp54.wr W60 (Or.inr sz_b8)
  have Z63 : n0 ≤ h60.size := Nat.le_trans Z57 (Nat.le_of_eq W60.size.symm)
  have N60 := Fr.snoc X60 N54 ge_b8
  have Vw60 : own_Ints Z h60 b8 [(0:Int32), (1:Int32), (2:Int32), (3:Int32)] := V60
  refine own_pre st60 ?_
  refine own_pre (A := T60.setTop (mkF m 47 #[rv a0, iv (4:Int32), iv (4:Int32)] [(.int (4:Int32)), (.ref a0)])) (fun t k => ?_) ?_
  · show Steps p.tables e below (T60.setTop (mkF m 39 #[rv a0, iv (4:Int32), iv (3:Int32)] [])) _
    refine XS.iinc X60.here hx rfl (hb hby d1_39) rfl (l' := #[rv a0, iv (4:Int32), iv (4:Int32)]) rfl ?_
    show Steps p.tables e below (T60.setTop (mkF m 42 #[rv a0, iv (4:Int32), iv (4:Int32)] [])) _
    refine XS.goto X60.here hx rfl (pc0 := 42) (pc' := 20) rfl (hb hby d1_42) (by decide) (by decide) ?_
    show Steps p.tables e below (T60.setTop (mkF m 20 #[rv a0, iv (4:Int32), iv (4:Int32)] [])) _
    refine XS.iloadN X60.here hx rfl (hb hby d1_20) rfl ?_
    show Steps p.tables e below (T60.setTop (mkF m 21 #[rv a0, iv (4:Int32), iv (4:Int32)] [(.int (4:Int32))])) _
    refine XS.iloadN X60.here hx rfl (hb hby d1_21) rfl ?_
    show Steps p.tables e below (T60.setTop (mkF m 22 #[rv a0, iv (4:Int32), iv (4:Int32)] [(.int (4:Int32)), (.int (4:Int32))])) _
    refine XS.icmpYes X60.here hx rfl (pc0 := 22) (pc' := 45) rfl (hb hby d1_22) rfl (XT.ii_ge_t (by decide)) (by decide) (by decide) ?_
    show Steps p.tables e below (T60.setTop (mkF m 45 #[rv a0, iv (4:Int32), iv (4:Int32)] [])) _
    refine XS.aloadN X60.here hx rfl (hb hby d1_45) rfl rfl ?_
    show Steps p.tables e below (T60.setTop (mkF m 46 #[rv a0, iv (4:Int32), iv (4:Int32)] [(.ref a0)])) _
    refine XS.iloadN X60.here hx rfl (hb hby d1_46) rfl ?_
    exact k
  have F65 := (((((((((F13.wr W12).wr W18).wr W24).wr W30).wr W36).wr W42).wr W48).wr W54).wr W60)
  have F66 := (Vw54.other W60 ne_b2_b8)
  obtain ⟨T64, h64, k64, X64, e64, E64, A64, st64⟩ := newP X60 hx hZ (own_h hw 9 rfl) e60 (g := (mkF m 47 #[rv a0, iv (4:Int32), iv (4:Int32)] [(.int (4:Int32)), (.ref a0)])) rfl (hb hby d1_47) rfl (by decide) (cap := 4) (by decide) (by decide) (by decide) (by decide)
  obtain ⟨b64, g64⟩ : ∃ z, z = h60.size := ⟨_, rfl⟩
  rw [← g64] at A64 st64
  have ge_b64 : n0 ≤ b64 := Nat.le_trans Z63 (Nat.le_of_eq g64.symm)
  have sz_b64 : h0.size ≤ b64 := Nat.le_trans Kp60.1 (Nat.le_of_eq g64.symm)
  have ne_a0_b64 : a0 ≠ b64 := Nat.ne_of_lt (Nat.lt_of_lt_of_le F65.lt (Nat.le_of_eq g64.symm))
  have ne_b2_b64 : b2 ≠ b64 := Nat.ne_of_lt (Nat.lt_of_lt_of_le F66.lt (Nat.le_of_eq g64.symm))
  have ne_b8_b64 : b8 ≠ b64 := Nat.ne_of_lt (Nat.lt_of_lt_of_le Vw60.lt (Nat.le_of_eq g64.symm))
  have Kp64 : Keep h0 h64 [a0] := Kp60.ext E64
  have Z67 : n0 ≤ h64.size := Nat.le_trans Z63 E64.1
  have V64 : own_Ints Z h64 b64 [(0:Int32), (0:Int32), (0:Int32), (0:Int32)] := own_newI A64 (by decide)
  refine own_pre st64 ?_
  have F69 := (F65.ext E64)
  have F70 := (((((((((((((P3.ext E2).other W4 (Or.inr (slot_ne (Or.inr (own_h hw 15 rfl)) (Or.inr (own_h hw 11 rfl)) (by decide) (t := (.array .int)) (t' := (.array .int)) (by decide) (by decide)))).ext E8).other W12 (Or.inr (slot_ne (Or.inr (own_h hw 15 rfl)) (Or.inr (own_h hw 13 rfl)) (by decide) (t := (.array .int)) (t' := (.array .int)) (by decide) (by decide)))).other W18 (Or.inl ne_a0_b2)).other W24 (Or.inl ne_a0_b8)).other W30 (Or.inl ne_a0_b2)).other W36 (Or.inl ne_a0_b8)).other W42 (Or.inl ne_a0_b2)).other W48 (Or.inl ne_a0_b8)).other W54 (Or.inl ne_a0_b2)).other W60 (Or.inl ne_a0_b8)).ext E64)
  obtain ⟨T68, h68, X68, e68, W68, st68⟩ := putF X64 hx hZ hown (host := "") (Or.inl (own_h hw 14 rfl)) Via.refl e64 F70 F69 (Or.inr ⟨(own_h hw 15 rfl), rfl, hnm⟩) (own_h hw 1 rfl) (ty := (.array .int)) (by decide) rfl rfl (g := (mkF m 49 #[rv a0, iv (4:Int32), iv (4:Int32)] [(.ref b64), (.ref a0)])) rfl rfl (hb hby d1_49)
  have Kp68 : Keep h0 h68 [a0] := Kp64.wr W68 (Or.inl (List.mem_of_getElem? (i := 0) rfl))
  have Z71 : n0 ≤ h68.size := Nat.le_trans Z67 (Nat.le_of_eq W68.size.symm)
  have N68 := Fr.snoc X68 N60 gq_a0
  have Fw68 := F70.same W68
  refine own_pre st68 ?_
  refine own_pre (A := T68.setTop (mkF m 54 #[rv a0, iv (4:Int32), iv (4:Int32)] [(.int (4:Int32)), (.ref a0)])) (fun t k => ?_) ?_
  · show Steps p.tables e below (T68.setTop (mkF m 52 #[rv a0, iv (4:Int32), iv (4:Int32)] [])) _
    refine XS.aloadN X68.here hx rfl (hb hby d1_52) rfl rfl ?_
    show Steps p.tables e below (T68.setTop (mkF m 53 #[rv a0, iv (4:Int32), iv (4:Int32)] [(.ref a0)])) _
    refine XS.iloadN X68.here hx rfl (hb hby d1_53) rfl ?_
    exact k
  have F73 := (F69.wr W68)
  have F74 := ((F66.ext E64).other W68 (Ne.symm ne_a0_b2))
  have F75 := (V64.other W68 (Ne.symm ne_a0_b64))
  have F76 := ((Vw60.ext E64).other W68 (Ne.symm ne_a0_b8))
  obtain ⟨T72, h72, k72, X72, e72, E72, A72, st72⟩ := newP X68 hx hZ (own_h hw 9 rfl) e68 (g := (mkF m 54 #[rv a0, iv (4:Int32), iv (4:Int32)] [(.int (4:Int32)), (.ref a0)])) rfl (hb hby d1_54) rfl (by decide) (cap := 4) (by decide) (by decide) (by decide) (by decide)
  obtain ⟨b72, g72⟩ : ∃ z, z = h68.size := ⟨_, rfl⟩
  rw [← g72] at A72 st72
  have ge_b72 : n0 ≤ b72 := Nat.le_trans Z71 (Nat.le_of_eq g72.symm)
  have sz_b72 : h0.size ≤ b72 := Nat.le_trans Kp68.1 (Nat.le_of_eq g72.symm)
  have ne_a0_b72 : a0 ≠ b72 := Nat.ne_of_lt (Nat.lt_of_lt_of_le F73.lt (Nat.le_of_eq g72.symm))
  have ne_b2_b72 : b2 ≠ b72 := Nat.ne_of_lt (Nat.lt_of_lt_of_le F74.lt (Nat.le_of_eq g72.symm))
  have ne_b64_b72 : b64 ≠ b72 := Nat.ne_of_lt (Nat.lt_of_lt_of_le F75.lt (Nat.le_of_eq g72.symm))
  have ne_b8_b72 : b8 ≠ b72 := Nat.ne_of_lt (Nat.lt_of_lt_of_le F76.lt (Nat.le_of_eq g72.symm))
  have Kp72 : Keep h0 h72 [a0] := Kp68.ext E72
  have Z77 : n0 ≤ h72.size := Nat.le_trans Z71 E72.1
  have V72 : own_Ints Z h72 b72 [(0:Int32), (0:Int32), (0:Int32), (0:Int32)] := own_newI A72 (by decide)
  refine own_pre st72 ?_
  have F79 := (F73.ext E72)
  have F80 := (((((((((((((((P4.ext E2).other W4 (Or.inr (slot_ne (Or.inr (own_h hw 17 rfl)) (Or.inr (own_h hw 11 rfl)) (by decide) (t := (.array .int)) (t' := (.array .int)) (by decide) (by decide)))).ext E8).other W12 (Or.inr (slot_ne (Or.inr (own_h hw 17 rfl)) (Or.inr (own_h hw 13 rfl)) (by decide) (t := (.array .int)) (t' := (.array .int)) (by decide) (by decide)))).other W18 (Or.inl ne_a0_b2)).other W24 (Or.inl ne_a0_b8)).other W30 (Or.inl ne_a0_b2)).other W36 (Or.inl ne_a0_b8)).other W42 (Or.inl ne_a0_b2)).other W48 (Or.inl ne_a0_b8)).other W54 (Or.inl ne_a0_b2)).other W60 (Or.inl ne_a0_b8)).ext E64).other W68 (Or.inr (slot_ne (Or.inr (own_h hw 17 rfl)) (Or.inr (own_h hw 15 rfl)) (by decide) (t := (.array .int)) (t' := (.array .int)) (by decide) (by decide)))).ext E72)
  obtain ⟨T78, h78, X78, e78, W78, st78⟩ := putF X72 hx hZ hown (host := "") (Or.inl (own_h hw 16 rfl)) Via.refl e72 F80 F79 (Or.inr ⟨(own_h hw 17 rfl), rfl, hnm⟩) (own_h hw 1 rfl) (ty := (.array .int)) (by decide) rfl rfl (g := (mkF m 56 #[rv a0, iv (4:Int32), iv (4:Int32)] [(.ref b72), (.ref a0)])) rfl rfl (hb hby d1_56)
  have Kp78 : Keep h0 h78 [a0] := Kp72.wr W78 (Or.inl (List.mem_of_getElem? (i := 0) rfl))
  have Z81 : n0 ≤ h78.size := Nat.le_trans Z77 (Nat.le_of_eq W78.size.symm)
  have N78 := Fr.snoc X78 N68 gq_a0
  have Fw78 := F80.same W78
  refine own_pre st78 ?_
  refine own_pre (A := T78.setTop (mkF m 61 #[rv a0, iv (4:Int32), iv (4:Int32)] [(.int (4:Int32)), (.ref a0)])) (fun t k => ?_) ?_
  · show Steps p.tables e below (T78.setTop (mkF m 59 #[rv a0, iv (4:Int32), iv (4:Int32)] [])) _
    refine XS.aloadN X78.here hx rfl (hb hby d1_59) rfl rfl ?_
    show Steps p.tables e below (T78.setTop (mkF m 60 #[rv a0, iv (4:Int32), iv (4:Int32)] [(.ref a0)])) _
    refine XS.iloadN X78.here hx rfl (hb hby d1_60) rfl ?_
    exact k
  have F83 := (F79.wr W78)
  have F84 := ((F74.ext E72).other W78 (Ne.symm ne_a0_b2))
  have F85 := ((F75.ext E72).other W78 (Ne.symm ne_a0_b64))
  have F86 := (V72.other W78 (Ne.symm ne_a0_b72))
  have F87 := ((F76.ext E72).other W78 (Ne.symm ne_a0_b8))
  obtain ⟨T82, h82, k82, X82, e82, E82, A82, st82⟩ := newP X78 hx hZ (own_h hw 9 rfl) e78 (g := (mkF m 61 #[rv a0, iv (4:Int32), iv (4:Int32)] [(.int (4:Int32)), (.ref a0)])) rfl (hb hby d1_61) rfl (by decide) (cap := 4) (by decide) (by decide) (by decide) (by decide)
  obtain ⟨b82, g82⟩ : ∃ z, z = h78.size := ⟨_, rfl⟩
  rw [← g82] at A82 st82
  have ge_b82 : n0 ≤ b82 := Nat.le_trans Z81 (Nat.le_of_eq g82.symm)
  have sz_b82 : h0.size ≤ b82 := Nat.le_trans Kp78.1 (Nat.le_of_eq g82.symm)
  have ne_a0_b82 : a0 ≠ b82 := Nat.ne_of_lt (Nat.lt_of_lt_of_le F83.lt (Nat.le_of_eq g82.symm))
  have ne_b2_b82 : b2 ≠ b82 := Nat.ne_of_lt (Nat.lt_of_lt_of_le F84.lt (Nat.le_of_eq g82.symm))
  have ne_b64_b82 : b64 ≠ b82 := Nat.ne_of_lt (Nat.lt_of_lt_of_le F85.lt (Nat.le_of_eq g82.symm))
  have ne_b72_b82 : b72 ≠ b82 := Nat.ne_of_lt (Nat.lt_of_lt_of_le F86.lt (Nat.le_of_eq g82.symm))
  have ne_b8_b82 : b8 ≠ b82 := Nat.ne_of_lt (Nat.lt_of_lt_of_le F87.lt (Nat.le_of_eq g82.symm))
  have Kp82 : Keep h0 h82 [a0] := Kp78.ext E82
  have Z88 : n0 ≤ h82.size := Nat.le_trans Z81 E82.1
  have V82 : own_Ints Z h82 b82 [(0:Int32), (0:Int32), (0:Int32), (0:Int32)] := own_newI A82 (by decide)
  refine own_pre st82 ?_
  have F90 := (F83.ext E82)
  have F91 := (((((((((((((((((P5.ext E2).other W4 (Or.inr (slot_ne (Or.inr (own_h hw 19 rfl)) (Or.inr (own_h hw 11 rfl)) (by decide) (t := (.array .int)) (t' := (.array .int)) (by decide) (by decide)))).ext E8).other W12 (Or.inr (slot_ne (Or.inr (own_h hw 19 rfl)) (Or.inr (own_h hw 13 rfl)) (by decide) (t := (.array .int)) (t' := (.array .int)) (by decide) (by decide)))).other W18 (Or.inl ne_a0_b2)).other W24 (Or.inl ne_a0_b8)).other W30 (Or.inl ne_a0_b2)).other W36 (Or.inl ne_a0_b8)).other W42 (Or.inl ne_a0_b2)).other W48 (Or.inl ne_a0_b8)).other W54 (Or.inl ne_a0_b2)).other W60 (Or.inl ne_a0_b8)).ext E64).other W68 (Or.inr (slot_ne (Or.inr (own_h hw 19 rfl)) (Or.inr (own_h hw 15 rfl)) (by decide) (t := (.array .int)) (t' := (.array .int)) (by decide) (by decide)))).ext E72).other W78 (Or.inr (slot_ne (Or.inr (own_h hw 19 rfl)) (Or.inr (own_h hw 17 rfl)) (by decide) (t := (.array .int)) (t' := (.array .int)) (by decide) (by decide)))).ext E82)
  obtain ⟨T89, h89, X89, e89, W89, st89⟩ := putF X82 hx hZ hown (host := "") (Or.inl (own_h hw 18 rfl)) Via.refl e82 F91 F90 (Or.inr ⟨(own_h hw 19 rfl), rfl, hnm⟩) (own_h hw 1 rfl) (ty := (.array .int)) (by decide) rfl rfl (g := (mkF m 63 #[rv a0, iv (4:Int32), iv (4:Int32)] [(.ref b82), (.ref a0)])) rfl rfl (hb hby d1_63)
  have Kp89 : Keep h0 h89 [a0] := Kp82.wr W89 (Or.inl (List.mem_of_getElem? (i := 0) rfl))
  have Z92 : n0 ≤ h89.size := Nat.le_trans Z88 (Nat.le_of_eq W89.size.symm)
  have N89 := Fr.snoc X89 N78 gq_a0
  have Fw89 := F91.same W89
  refine own_pre st89 ?_
  refine own_pre (A := T89.setTop (mkF m 68 #[rv a0, iv (4:Int32), iv (4:Int32)] [(.int (4:Int32)), (.ref a0)])) (fun t k => ?_) ?_
  · show Steps p.tables e below (T89.setTop (mkF m 66 #[rv a0, iv (4:Int32), iv (4:Int32)] [])) _
    refine XS.aloadN X89.here hx rfl (hb hby d1_66) rfl rfl ?_
    show Steps p.tables e below (T89.setTop (mkF m 67 #[rv a0, iv (4:Int32), iv (4:Int32)] [(.ref a0)])) _
    refine XS.iloadN X89.here hx rfl (hb hby d1_67) rfl ?_
    exact k
  have F94 := (F90.wr W89)
  have F95 := ((F84.ext E82).other W89 (Ne.symm ne_a0_b2))
  have F96 := ((F85.ext E82).other W89 (Ne.symm ne_a0_b64))
  have F97 := ((F86.ext E82).other W89 (Ne.symm ne_a0_b72))
  have F98 := ((F87.ext E82).other W89 (Ne.symm ne_a0_b8))
  have F99 := (V82.other W89 (Ne.symm ne_a0_b82))
  obtain ⟨T93, h93, k93, X93, e93, E93, A93, st93⟩ := newP X89 hx hZ (own_h hw 9 rfl) e89 (g := (mkF m 68 #[rv a0, iv (4:Int32), iv (4:Int32)] [(.int (4:Int32)), (.ref a0)])) rfl (hb hby d1_68) rfl (by decide) (cap := 4) (by decide) (by decide) (by decide) (by decide)
  obtain ⟨b93, g93⟩ : ∃ z, z = h89.size := ⟨_, rfl⟩
  rw [← g93] at A93 st93
  have ge_b93 : n0 ≤ b93 := Nat.le_trans Z92 (Nat.le_of_eq g93.symm)
  have sz_b93 : h0.size ≤ b93 := Nat.le_trans Kp89.1 (Nat.le_of_eq g93.symm)
  have ne_a0_b93 : a0 ≠ b93 := Nat.ne_of_lt (Nat.lt_of_lt_of_le F94.lt (Nat.le_of_eq g93.symm))
  have ne_b2_b93 : b2 ≠ b93 := Nat.ne_of_lt (Nat.lt_of_lt_of_le F95.lt (Nat.le_of_eq g93.symm))
  have ne_b64_b93 : b64 ≠ b93 := Nat.ne_of_lt (Nat.lt_of_lt_of_le F96.lt (Nat.le_of_eq g93.symm))
  have ne_b72_b93 : b72 ≠ b93 := Nat.ne_of_lt (Nat.lt_of_lt_of_le F97.lt (Nat.le_of_eq g93.symm))
  have ne_b8_b93 : b8 ≠ b93 := Nat.ne_of_lt (Nat.lt_of_lt_of_le F98.lt (Nat.le_of_eq g93.symm))
  have ne_b82_b93 : b82 ≠ b93 := Nat.ne_of_lt (Nat.lt_of_lt_of_le F99.lt (Nat.le_of_eq g93.symm))
  have Kp93 : Keep h0 h93 [a0] := Kp89.ext E93
  have Z100 : n0 ≤ h93.size := Nat.le_trans Z92 E93.1
  have V93 : own_Ints Z h93 b93 [(0:Int32), (0:Int32), (0:Int32), (0:Int32)] := own_newI A93 (by decide)
  refine own_pre st93 ?_
  have F102 := (F94.ext E93)
  have F103 := (((((((((((((((((((P6.ext E2).other W4 (Or.inr (slot_ne (Or.inr (own_h hw 21 rfl)) (Or.inr (own_h hw 11 rfl)) (by decide) (t := (.array .int)) (t' := (.array .int)) (by decide) (by decide)))).ext E8).other W12 (Or.inr (slot_ne (Or.inr (own_h hw 21 rfl)) (Or.inr (own_h hw 13 rfl)) (by decide) (t := (.array .int)) (t' := (.array .int)) (by decide) (by decide)))).other W18 (Or.inl ne_a0_b2)).other W24 (Or.inl ne_a0_b8)).other W30 (Or.inl ne_a0_b2)).other W36 (Or.inl ne_a0_b8)).other W42 (Or.inl ne_a0_b2)).other W48 (Or.inl ne_a0_b8)).other W54 (Or.inl ne_a0_b2)).other W60 (Or.inl ne_a0_b8)).ext E64).other W68 (Or.inr (slot_ne (Or.inr (own_h hw 21 rfl)) (Or.inr (own_h hw 15 rfl)) (by decide) (t := (.array .int)) (t' := (.array .int)) (by decide) (by decide)))).ext E72).other W78 (Or.inr (slot_ne (Or.inr (own_h hw 21 rfl)) (Or.inr (own_h hw 17 rfl)) (by decide) (t := (.array .int)) (t' := (.array .int)) (by decide) (by decide)))).ext E82).other W89 (Or.inr (slot_ne (Or.inr (own_h hw 21 rfl)) (Or.inr (own_h hw 19 rfl)) (by decide) (t := (.array .int)) (t' := (.array .int)) (by decide) (by decide)))).ext E93)
  obtain ⟨T101, h101, X101, e101, W101, st101⟩ := putF X93 hx hZ hown (host := "") (Or.inl (own_h hw 20 rfl)) Via.refl e93 F103 F102 (Or.inr ⟨(own_h hw 21 rfl), rfl, hnm⟩) (own_h hw 1 rfl) (ty := (.array .int)) (by decide) rfl rfl (g := (mkF m 70 #[rv a0, iv (4:Int32), iv (4:Int32)] [(.ref b93), (.ref a0)])) rfl rfl (hb hby d1_70)
  have Kp101 : Keep h0 h101 [a0] := Kp93.wr W101 (Or.inl (List.mem_of_getElem? (i := 0) rfl))
  have Z104 : n0 ≤ h101.size := Nat.le_trans Z100 (Nat.le_of_eq W101.size.symm)
  have N101 := Fr.snoc X101 N89 gq_a0
  have Fw101 := F103.same W101
  refine own_pre st101 ?_
  refine own_pre (A := T101.setTop (mkF m 75 #[rv a0, iv (4:Int32), iv (4:Int32)] [(.int (4:Int32)), (.ref a0)])) (fun t k => ?_) ?_
  · show Steps p.tables e below (T101.setTop (mkF m 73 #[rv a0, iv (4:Int32), iv (4:Int32)] [])) _
    refine XS.aloadN X101.here hx rfl (hb hby d1_73) rfl rfl ?_
    show Steps p.tables e below (T101.setTop (mkF m 74 #[rv a0, iv (4:Int32), iv (4:Int32)] [(.ref a0)])) _
    refine XS.iloadN X101.here hx rfl (hb hby d1_74) rfl ?_
    exact k
  have F106 := (F102.wr W101)
  have F107 := ((F95.ext E93).other W101 (Ne.symm ne_a0_b2))
  have F108 := ((F96.ext E93).other W101 (Ne.symm ne_a0_b64))
  have F109 := ((F97.ext E93).other W101 (Ne.symm ne_a0_b72))
  have F110 := ((F98.ext E93).other W101 (Ne.symm ne_a0_b8))
  have F111 := ((F99.ext E93).other W101 (Ne.symm ne_a0_b82))
  have F112 := (V93.other W101 (Ne.symm ne_a0_b93))
  obtain ⟨T105, h105, k105, X105, e105, E105, A105, st105⟩ := newP X101 hx hZ (own_h hw 9 rfl) e101 (g := (mkF m 75 #[rv a0, iv (4:Int32), iv (4:Int32)] [(.int (4:Int32)), (.ref a0)])) rfl (hb hby d1_75) rfl (by decide) (cap := 4) (by decide) (by decide) (by decide) (by decide)
  obtain ⟨b105, g105⟩ : ∃ z, z = h101.size := ⟨_, rfl⟩
  rw [← g105] at A105 st105
  have ge_b105 : n0 ≤ b105 := Nat.le_trans Z104 (Nat.le_of_eq g105.symm)
  have sz_b105 : h0.size ≤ b105 := Nat.le_trans Kp101.1 (Nat.le_of_eq g105.symm)
  have ne_a0_b105 : a0 ≠ b105 := Nat.ne_of_lt (Nat.lt_of_lt_of_le F106.lt (Nat.le_of_eq g105.symm))
  have ne_b2_b105 : b2 ≠ b105 := Nat.ne_of_lt (Nat.lt_of_lt_of_le F107.lt (Nat.le_of_eq g105.symm))
  have ne_b64_b105 : b64 ≠ b105 := Nat.ne_of_lt (Nat.lt_of_lt_of_le F108.lt (Nat.le_of_eq g105.symm))
  have ne_b72_b105 : b72 ≠ b105 := Nat.ne_of_lt (Nat.lt_of_lt_of_le F109.lt (Nat.le_of_eq g105.symm))
  have ne_b8_b105 : b8 ≠ b105 := Nat.ne_of_lt (Nat.lt_of_lt_of_le F110.lt (Nat.le_of_eq g105.symm))
  have ne_b82_b105 : b82 ≠ b105 := Nat.ne_of_lt (Nat.lt_of_lt_of_le F111.lt (Nat.le_of_eq g105.symm))
  have ne_b93_b105 : b93 ≠ b105 := Nat.ne_of_lt (Nat.lt_of_lt_of_le F112.lt (Nat.le_of_eq g105.symm))
  have Kp105 : Keep h0 h105 [a0] := Kp101.ext E105
  have Z113 : n0 ≤ h105.size := Nat.le_trans Z104 E105.1
  have V105 : own_Ints Z h105 b105 [(0:Int32), (0:Int32), (0:Int32), (0:Int32)] := own_newI A105 (by decide)
  refine own_pre st105 ?_
  have F115 := (F106.ext E105)
  have F116 := (((((((((((((((((((((P7.ext E2).other W4 (Or.inr (slot_ne (Or.inr (own_h hw 23 rfl)) (Or.inr (own_h hw 11 rfl)) (by decide) (t := (.array .int)) (t' := (.array .int)) (by decide) (by decide)))).ext E8).other W12 (Or.inr (slot_ne (Or.inr (own_h hw 23 rfl)) (Or.inr (own_h hw 13 rfl)) (by decide) (t := (.array .int)) (t' := (.array .int)) (by decide) (by decide)))).other W18 (Or.inl ne_a0_b2)).other W24 (Or.inl ne_a0_b8)).other W30 (Or.inl ne_a0_b2)).other W36 (Or.inl ne_a0_b8)).other W42 (Or.inl ne_a0_b2)).other W48 (Or.inl ne_a0_b8)).other W54 (Or.inl ne_a0_b2)).other W60 (Or.inl ne_a0_b8)).ext E64).other W68 (Or.inr (slot_ne (Or.inr (own_h hw 23 rfl)) (Or.inr (own_h hw 15 rfl)) (by decide) (t := (.array .int)) (t' := (.array .int)) (by decide) (by decide)))).ext E72).other W78 (Or.inr (slot_ne (Or.inr (own_h hw 23 rfl)) (Or.inr (own_h hw 17 rfl)) (by decide) (t := (.array .int)) (t' := (.array .int)) (by decide) (by decide)))).ext E82).other W89 (Or.inr (slot_ne (Or.inr (own_h hw 23 rfl)) (Or.inr (own_h hw 19 rfl)) (by decide) (t := (.array .int)) (t' := (.array .int)) (by decide) (by decide)))).ext E93).other W101 (Or.inr (slot_ne (Or.inr (own_h hw 23 rfl)) (Or.inr (own_h hw 21 rfl)) (by decide) (t := (.array .int)) (t' := (.array .int)) (by decide) (by decide)))).ext E105)
  obtain ⟨T114, h114, X114, e114, W114, st114⟩ := putF X105 hx hZ hown (host := "") (Or.inl (own_h hw 22 rfl)) Via.refl e105 F116 F115 (Or.inr ⟨(own_h hw 23 rfl), rfl, hnm⟩) (own_h hw 1 rfl) (ty := (.array .int)) (by decide) rfl rfl (g := (mkF m 77 #[rv a0, iv (4:Int32), iv (4:Int32)] [(.ref b105), (.ref a0)])) rfl rfl (hb hby d1_77)
  have Kp114 : Keep h0 h114 [a0] := Kp105.wr W114 (Or.inl (List.mem_of_getElem? (i := 0) rfl))
  have Z117 : n0 ≤ h114.size := Nat.le_trans Z113 (Nat.le_of_eq W114.size.symm)
  have N114 := Fr.snoc X114 N101 gq_a0
  have Fw114 := F116.same W114
  refine own_pre st114 ?_
  refine own_pre (A := T114.setTop (mkF m 81 #[rv a0, iv (4:Int32), iv (4:Int32)] [(.ref a0)])) (fun t k => ?_) ?_
  · show Steps p.tables e below (T114.setTop (mkF m 80 #[rv a0, iv (4:Int32), iv (4:Int32)] [])) _
    refine XS.aloadN X114.here hx rfl (hb hby d1_80) rfl rfl ?_
    exact k
  have F119 := ((((Fw89.ext E93).other W101 (Or.inr (slot_ne (Or.inr (own_h hw 19 rfl)) (Or.inr (own_h hw 21 rfl)) (by decide) (t := (.array .int)) (t' := (.array .int)) (by decide) (by decide)))).ext E105).other W114 (Or.inr (slot_ne (Or.inr (own_h hw 19 rfl)) (Or.inr (own_h hw 23 rfl)) (by decide) (t := (.array .int)) (t' := (.array .int)) (by decide) (by decide))))
  obtain ⟨T118, X118, e118, st118⟩ := getF X114 hx hZ hown (host := "") (Or.inl (own_h hw 18 rfl)) Via.refl e114 F119 (g := (mkF m 81 #[rv a0, iv (4:Int32), iv (4:Int32)] [(.ref a0)])) rfl rfl (hb hby d1_81)
  refine own_pre st118 ?_
  refine own_pre (A := T118.setTop (mkF m 86 #[rv a0, iv (4:Int32), iv (4:Int32)] [(.int (4:Int32)), (.int (0:Int32)), (.ref b82)])) (fun t k => ?_) ?_
  · show Steps p.tables e below (T118.setTop (mkF m 84 #[rv a0, iv (4:Int32), iv (4:Int32)] [(.ref b82)])) _
    refine XS.iconst X118.here hx rfl (hb hby d1_84) ?_
    show Steps p.tables e below (T118.setTop (mkF m 85 #[rv a0, iv (4:Int32), iv (4:Int32)] [(.int (0:Int32)), (.ref b82)])) _
    refine XS.iloadN X118.here hx rfl (hb hby d1_85) rfl ?_
    exact k
  have F121 := ((F111.ext E105).other W114 (Ne.symm ne_a0_b82))
  have hbn122 : own_In (0:Int32) [(0:Int32), (0:Int32), (0:Int32), (0:Int32)].length := own_lit rfl
  obtain ⟨T120, h120, X120, e120, W120, V120, st120⟩ := own_iastore X118 hx hZ e118 F121 (j := (0:Int32)) (x := (4:Int32)) hbn122 (g := (mkF m 86 #[rv a0, iv (4:Int32), iv (4:Int32)] [(.int (4:Int32)), (.int (0:Int32)), (.ref b82)])) rfl rfl (hb hby d1_86)
  have Kp120 : Keep h0 h120 [a0] := Kp114.wr W120 (Or.inr sz_b82)
  have Z123 : n0 ≤ h120.size := Nat.le_trans Z117 (Nat.le_of_eq W120.size.symm)
  have N120 := Fr.snoc X120 N114 ge_b82
  have Vw120 : own_Ints Z h120 b82 [(4:Int32), (0:Int32), (0:Int32), (0:Int32)] := V120
  refine own_pre st120 ?_
  refine own_pre (A := T120.setTop (mkF m 89 #[rv a0, iv (4:Int32), iv (4:Int32)] [(.int (1:Int32)), (.ref a0)])) (fun t k => ?_) ?_
  · show Steps p.tables e below (T120.setTop (mkF m 87 #[rv a0, iv (4:Int32), iv (4:Int32)] [])) _
    refine XS.aloadN X120.here hx rfl (hb hby d1_87) rfl rfl ?_
    show Steps p.tables e below (T120.setTop (mkF m 88 #[rv a0, iv (4:Int32), iv (4:Int32)] [(.ref a0)])) _
    refine XS.iconst X120.here hx rfl (hb hby d1_88) ?_
    exact k
  have F125 := ((F115.wr W114).wr W120)
  have F126 := (((((((((((((((((((((((P8.ext E2).other W4 (Or.inr (slot_ne (Or.inl (own_h hw 25 rfl)) (Or.inr (own_h hw 11 rfl)) (by decide) (t := .int) (t' := (.array .int)) (by decide) (by decide)))).ext E8).other W12 (Or.inr (slot_ne (Or.inl (own_h hw 25 rfl)) (Or.inr (own_h hw 13 rfl)) (by decide) (t := .int) (t' := (.array .int)) (by decide) (by decide)))).other W18 (Or.inl ne_a0_b2)).other W24 (Or.inl ne_a0_b8)).other W30 (Or.inl ne_a0_b2)).other W36 (Or.inl ne_a0_b8)).other W42 (Or.inl ne_a0_b2)).other W48 (Or.inl ne_a0_b8)).other W54 (Or.inl ne_a0_b2)).other W60 (Or.inl ne_a0_b8)).ext E64).other W68 (Or.inr (slot_ne (Or.inl (own_h hw 25 rfl)) (Or.inr (own_h hw 15 rfl)) (by decide) (t := .int) (t' := (.array .int)) (by decide) (by decide)))).ext E72).other W78 (Or.inr (slot_ne (Or.inl (own_h hw 25 rfl)) (Or.inr (own_h hw 17 rfl)) (by decide) (t := .int) (t' := (.array .int)) (by decide) (by decide)))).ext E82).other W89 (Or.inr (slot_ne (Or.inl (own_h hw 25 rfl)) (Or.inr (own_h hw 19 rfl)) (by decide) (t := .int) (t' := (.array .int)) (by decide) (by decide)))).ext E93).other W101 (Or.inr (slot_ne (Or.inl (own_h hw 25 rfl)) (Or.inr (own_h hw 21 rfl)) (by decide) (t := .int) (t' := (.array .int)) (by decide) (by decide)))).ext E105).other W114 (Or.inr (slot_ne (Or.inl (own_h hw 25 rfl)) (Or.inr (own_h hw 23 rfl)) (by decide) (t := .int) (t' := (.array .int)) (by decide) (by decide)))).other W120 (Or.inl ne_a0_b82))
  obtain ⟨T124, h124, X124, e124, W124, st124⟩ := putF X120 hx hZ hown (host := "") (Or.inl (own_h hw 24 rfl)) Via.refl e120 F126 F125 (Or.inl (own_h hw 25 rfl)) (own_h hw 1 rfl) (ty := .int) (by decide) rfl rfl (g := (mkF m 89 #[rv a0, iv (4:Int32), iv (4:Int32)] [(.int (1:Int32)), (.ref a0)])) rfl rfl (hb hby d1_89)
  have Kp124 : Keep h0 h124 [a0] := Kp120.wr W124 (Or.inl (List.mem_of_getElem? (i := 0) rfl))
  have Z127 : n0 ≤ h124.size := Nat.le_trans Z123 (Nat.le_of_eq W124.size.symm)
  have N124 := Fr.snoc X124 N120 gq_a0
  have Fw124 := F126.same W124
  refine own_pre st124 ?_
  have F128 := ((((((((((((((F53.other W54 (Or.inl ne_a0_b2)).other W60 (Or.inl ne_a0_b8)).ext E64).other W68 (Or.inr (slot_ne (Or.inr (own_h hw 11 rfl)) (Or.inr (own_h hw 15 rfl)) (by decide) (t := (.array .int)) (t' := (.array .int)) (by decide) (by decide)))).ext E72).other W78 (Or.inr (slot_ne (Or.inr (own_h hw 11 rfl)) (Or.inr (own_h hw 17 rfl)) (by decide) (t := (.array .int)) (t' := (.array .int)) (by decide) (by decide)))).ext E82).other W89 (Or.inr (slot_ne (Or.inr (own_h hw 11 rfl)) (Or.inr (own_h hw 19 rfl)) (by decide) (t := (.array .int)) (t' := (.array .int)) (by decide) (by decide)))).ext E93).other W101 (Or.inr (slot_ne (Or.inr (own_h hw 11 rfl)) (Or.inr (own_h hw 21 rfl)) (by decide) (t := (.array .int)) (t' := (.array .int)) (by decide) (by decide)))).ext E105).other W114 (Or.inr (slot_ne (Or.inr (own_h hw 11 rfl)) (Or.inr (own_h hw 23 rfl)) (by decide) (t := (.array .int)) (t' := (.array .int)) (by decide) (by decide)))).other W120 (Or.inl ne_a0_b82)).other W124 (Or.inr (slot_ne (Or.inr (own_h hw 11 rfl)) (Or.inl (own_h hw 25 rfl)) (by decide) (t := (.array .int)) (t' := .int) (by decide) (by decide))))
  have F129 := (((((((((((((F59.other W60 (Or.inl ne_a0_b8)).ext E64).other W68 (Or.inr (slot_ne (Or.inr (own_h hw 13 rfl)) (Or.inr (own_h hw 15 rfl)) (by decide) (t := (.array .int)) (t' := (.array .int)) (by decide) (by decide)))).ext E72).other W78 (Or.inr (slot_ne (Or.inr (own_h hw 13 rfl)) (Or.inr (own_h hw 17 rfl)) (by decide) (t := (.array .int)) (t' := (.array .int)) (by decide) (by decide)))).ext E82).other W89 (Or.inr (slot_ne (Or.inr (own_h hw 13 rfl)) (Or.inr (own_h hw 19 rfl)) (by decide) (t := (.array .int)) (t' := (.array .int)) (by decide) (by decide)))).ext E93).other W101 (Or.inr (slot_ne (Or.inr (own_h hw 13 rfl)) (Or.inr (own_h hw 21 rfl)) (by decide) (t := (.array .int)) (t' := (.array .int)) (by decide) (by decide)))).ext E105).other W114 (Or.inr (slot_ne (Or.inr (own_h hw 13 rfl)) (Or.inr (own_h hw 23 rfl)) (by decide) (t := (.array .int)) (t' := (.array .int)) (by decide) (by decide)))).other W120 (Or.inl ne_a0_b82)).other W124 (Or.inr (slot_ne (Or.inr (own_h hw 13 rfl)) (Or.inl (own_h hw 25 rfl)) (by decide) (t := (.array .int)) (t' := .int) (by decide) (by decide))))
  have F130 := ((((((((((Fw68.ext E72).other W78 (Or.inr (slot_ne (Or.inr (own_h hw 15 rfl)) (Or.inr (own_h hw 17 rfl)) (by decide) (t := (.array .int)) (t' := (.array .int)) (by decide) (by decide)))).ext E82).other W89 (Or.inr (slot_ne (Or.inr (own_h hw 15 rfl)) (Or.inr (own_h hw 19 rfl)) (by decide) (t := (.array .int)) (t' := (.array .int)) (by decide) (by decide)))).ext E93).other W101 (Or.inr (slot_ne (Or.inr (own_h hw 15 rfl)) (Or.inr (own_h hw 21 rfl)) (by decide) (t := (.array .int)) (t' := (.array .int)) (by decide) (by decide)))).ext E105).other W114 (Or.inr (slot_ne (Or.inr (own_h hw 15 rfl)) (Or.inr (own_h hw 23 rfl)) (by decide) (t := (.array .int)) (t' := (.array .int)) (by decide) (by decide)))).other W120 (Or.inl ne_a0_b82)).other W124 (Or.inr (slot_ne (Or.inr (own_h hw 15 rfl)) (Or.inl (own_h hw 25 rfl)) (by decide) (t := (.array .int)) (t' := .int) (by decide) (by decide))))
  have F131 := ((((((((Fw78.ext E82).other W89 (Or.inr (slot_ne (Or.inr (own_h hw 17 rfl)) (Or.inr (own_h hw 19 rfl)) (by decide) (t := (.array .int)) (t' := (.array .int)) (by decide) (by decide)))).ext E93).other W101 (Or.inr (slot_ne (Or.inr (own_h hw 17 rfl)) (Or.inr (own_h hw 21 rfl)) (by decide) (t := (.array .int)) (t' := (.array .int)) (by decide) (by decide)))).ext E105).other W114 (Or.inr (slot_ne (Or.inr (own_h hw 17 rfl)) (Or.inr (own_h hw 23 rfl)) (by decide) (t := (.array .int)) (t' := (.array .int)) (by decide) (by decide)))).other W120 (Or.inl ne_a0_b82)).other W124 (Or.inr (slot_ne (Or.inr (own_h hw 17 rfl)) (Or.inl (own_h hw 25 rfl)) (by decide) (t := (.array .int)) (t' := .int) (by decide) (by decide))))
  have F132 := ((F119.other W120 (Or.inl ne_a0_b82)).other W124 (Or.inr (slot_ne (Or.inr (own_h hw 19 rfl)) (Or.inl (own_h hw 25 rfl)) (by decide) (t := (.array .int)) (t' := .int) (by decide) (by decide))))
  have F133 := ((((Fw101.ext E105).other W114 (Or.inr (slot_ne (Or.inr (own_h hw 21 rfl)) (Or.inr (own_h hw 23 rfl)) (by decide) (t := (.array .int)) (t' := (.array .int)) (by decide) (by decide)))).other W120 (Or.inl ne_a0_b82)).other W124 (Or.inr (slot_ne (Or.inr (own_h hw 21 rfl)) (Or.inl (own_h hw 25 rfl)) (by decide) (t := (.array .int)) (t' := .int) (by decide) (by decide))))
  have F134 := ((Fw114.other W120 (Or.inl ne_a0_b82)).other W124 (Or.inr (slot_ne (Or.inr (own_h hw 23 rfl)) (Or.inl (own_h hw 25 rfl)) (by decide) (t := (.array .int)) (t' := .int) (by decide) (by decide))))
  have F135 := ((((((((((((((((((((((((P9.ext E2).other W4 (Or.inr (slot_ne (Or.inl (own_h hw 39 rfl)) (Or.inr (own_h hw 11 rfl)) (by decide) (t := .int) (t' := (.array .int)) (by decide) (by decide)))).ext E8).other W12 (Or.inr (slot_ne (Or.inl (own_h hw 39 rfl)) (Or.inr (own_h hw 13 rfl)) (by decide) (t := .int) (t' := (.array .int)) (by decide) (by decide)))).other W18 (Or.inl ne_a0_b2)).other W24 (Or.inl ne_a0_b8)).other W30 (Or.inl ne_a0_b2)).other W36 (Or.inl ne_a0_b8)).other W42 (Or.inl ne_a0_b2)).other W48 (Or.inl ne_a0_b8)).other W54 (Or.inl ne_a0_b2)).other W60 (Or.inl ne_a0_b8)).ext E64).other W68 (Or.inr (slot_ne (Or.inl (own_h hw 39 rfl)) (Or.inr (own_h hw 15 rfl)) (by decide) (t := .int) (t' := (.array .int)) (by decide) (by decide)))).ext E72).other W78 (Or.inr (slot_ne (Or.inl (own_h hw 39 rfl)) (Or.inr (own_h hw 17 rfl)) (by decide) (t := .int) (t' := (.array .int)) (by decide) (by decide)))).ext E82).other W89 (Or.inr (slot_ne (Or.inl (own_h hw 39 rfl)) (Or.inr (own_h hw 19 rfl)) (by decide) (t := .int) (t' := (.array .int)) (by decide) (by decide)))).ext E93).other W101 (Or.inr (slot_ne (Or.inl (own_h hw 39 rfl)) (Or.inr (own_h hw 21 rfl)) (by decide) (t := .int) (t' := (.array .int)) (by decide) (by decide)))).ext E105).other W114 (Or.inr (slot_ne (Or.inl (own_h hw 39 rfl)) (Or.inr (own_h hw 23 rfl)) (by decide) (t := .int) (t' := (.array .int)) (by decide) (by decide)))).other W120 (Or.inl ne_a0_b82)).other W124 (Or.inr (slot_ne (Or.inl (own_h hw 39 rfl)) (Or.inl (own_h hw 25 rfl)) (by decide) (t := .int) (t' := .int) (by decide) (by decide))))
  have F136 := ((((F107.ext E105).other W114 (Ne.symm ne_a0_b2)).other W120 ne_b2_b82).other W124 (Ne.symm ne_a0_b2))
  have F137 := ((((F110.ext E105).other W114 (Ne.symm ne_a0_b8)).other W120 ne_b8_b82).other W124 (Ne.symm ne_a0_b8))
  have F138 := ((((F108.ext E105).other W114 (Ne.symm ne_a0_b64)).other W120 ne_b64_b82).other W124 (Ne.symm ne_a0_b64))
  have F139 := ((((F109.ext E105).other W114 (Ne.symm ne_a0_b72)).other W120 ne_b72_b82).other W124 (Ne.symm ne_a0_b72))
  have F140 := (Vw120.other W124 (Ne.symm ne_a0_b82))
  have F141 := ((((F112.ext E105).other W114 (Ne.symm ne_a0_b93)).other W120 (Ne.symm ne_b82_b93)).other W124 (Ne.symm ne_a0_b93))
  have F142 := (((V105.other W114 (Ne.symm ne_a0_b105)).other W120 (Ne.symm ne_b82_b105)).other W124 (Ne.symm ne_a0_b105))
  exact own_end X124 (BodyLoose.notSynchronized Bd) (fun _ => rfl) (v := none) (fun fs hr => X124.returnOut hx Bd.returns (hb hby d1_92) hr) (by show Q1n4 Z a0 h0 n0 _ T124.heap _; rw [e124]; exact ⟨rfl, N124, Kp124, b2, b8, b64, b72, b82, b93, b105, sz_b2, sz_b8, sz_b64, sz_b72, sz_b82, sz_b93, sz_b105, ne_b2_b8, ne_b2_b64, ne_b2_b72, ne_b2_b82, ne_b2_b93, ne_b2_b105, ne_b8_b64, ne_b8_b72, ne_b8_b82, ne_b8_b93, ne_b8_b105, ne_b64_b72, ne_b64_b82, ne_b64_b93, ne_b64_b105, ne_b72_b82, ne_b72_b93, ne_b72_b105, ne_b82_b93, ne_b82_b105, ne_b93_b105, F128, F129, F130, F131, F132, F133, F134, Fw124, F135, F136, F137, F138, F139, F140, F141, F142⟩) (by decide) (by decide)
theorem d5_0 : decode prog_16_method_10_code 0 = .ok (.aload_n 0, 1) := by decide +kernel
theorem d5_1 : decode prog_16_method_10_code 1 = .ok (.getfield 16, 3) := by decide +kernel
theorem d5_4 : decode prog_16_method_10_code 4 = .ok (.iload_n 1, 1) := by decide +kernel
theorem d5_5 : decode prog_16_method_10_code 5 = .ok (.iaload, 1) := by decide +kernel
theorem d5_6 : decode prog_16_method_10_code 6 = .ok (.istore_n 2, 1) := by decide +kernel
theorem d5_7 : decode prog_16_method_10_code 7 = .ok (.aload_n 0, 1) := by decide +kernel
theorem d5_8 : decode prog_16_method_10_code 8 = .ok (.getfield 25, 3) := by decide +kernel
theorem d5_11 : decode prog_16_method_10_code 11 = .ok (.iload_n 2, 1) := by decide +kernel
theorem d5_12 : decode prog_16_method_10_code 12 = .ok (.iaload, 1) := by decide +kernel
theorem d5_13 : decode prog_16_method_10_code 13 = .ok (.istore_n 3, 1) := by decide +kernel
theorem d5_14 : decode prog_16_method_10_code 14 = .ok (.aload_n 0, 1) := by decide +kernel
theorem d5_15 : decode prog_16_method_10_code 15 = .ok (.getfield 13, 3) := by decide +kernel
theorem d5_18 : decode prog_16_method_10_code 18 = .ok (.iload_n 1, 1) := by decide +kernel
theorem d5_19 : decode prog_16_method_10_code 19 = .ok (.iaload, 1) := by decide +kernel
theorem d5_20 : decode prog_16_method_10_code 20 = .ok (.istore 4, 2) := by decide +kernel
theorem d5_22 : decode prog_16_method_10_code 22 = .ok (.iload 4, 2) := by decide +kernel
theorem d5_24 : decode prog_16_method_10_code 24 = .ok (.iload_n 3, 1) := by decide +kernel
theorem d5_25 : decode prog_16_method_10_code 25 = .ok (.if_icmp .lt 82, 3) := by decide +kernel
theorem d5_28 : decode prog_16_method_10_code 28 = .ok (.iload_n 3, 1) := by decide +kernel
theorem d5_29 : decode prog_16_method_10_code 29 = .ok (.aload_n 0, 1) := by decide +kernel
theorem d5_30 : decode prog_16_method_10_code 30 = .ok (.getfield 19, 3) := by decide +kernel
theorem d5_33 : decode prog_16_method_10_code 33 = .ok (.iload_n 2, 1) := by decide +kernel
theorem d5_34 : decode prog_16_method_10_code 34 = .ok (.iaload, 1) := by decide +kernel
theorem d5_35 : decode prog_16_method_10_code 35 = .ok (.if_icmp .ne 23, 3) := by decide +kernel
theorem d5_38 : decode prog_16_method_10_code 38 = .ok (.aload_n 0, 1) := by decide +kernel
theorem d5_39 : decode prog_16_method_10_code 39 = .ok (.getfield 28, 3) := by decide +kernel
theorem d5_42 : decode prog_16_method_10_code 42 = .ok (.aload_n 0, 1) := by decide +kernel
theorem d5_43 : decode prog_16_method_10_code 43 = .ok (.getfield 35, 3) := by decide +kernel
theorem d5_46 : decode prog_16_method_10_code 46 = .ok (.iload_n 2, 1) := by decide +kernel
theorem d5_47 : decode prog_16_method_10_code 47 = .ok (.iastore, 1) := by decide +kernel
theorem d5_48 : decode prog_16_method_10_code 48 = .ok (.aload_n 0, 1) := by decide +kernel
theorem d5_49 : decode prog_16_method_10_code 49 = .ok (.dup, 1) := by decide +kernel
theorem d5_50 : decode prog_16_method_10_code 50 = .ok (.getfield 35, 3) := by decide +kernel
theorem d5_53 : decode prog_16_method_10_code 53 = .ok (.iconst 1, 1) := by decide +kernel
theorem d5_54 : decode prog_16_method_10_code 54 = .ok (.iadd, 1) := by decide +kernel
theorem d5_55 : decode prog_16_method_10_code 55 = .ok (.putfield 35, 3) := by decide +kernel
theorem d5_58 : decode prog_16_method_10_code 58 = .ok (.aload_n 0, 1) := by decide +kernel
theorem d5_59 : decode prog_16_method_10_code 59 = .ok (.getfield 7, 3) := by decide +kernel
theorem d5_62 : decode prog_16_method_10_code 62 = .ok (.iload_n 3, 1) := by decide +kernel
theorem d5_63 : decode prog_16_method_10_code 63 = .ok (.iaload, 1) := by decide +kernel
theorem d5_64 : decode prog_16_method_10_code 64 = .ok (.istore 5, 2) := by decide +kernel
theorem d5_66 : decode prog_16_method_10_code 66 = .ok (.aload_n 0, 1) := by decide +kernel
theorem d5_67 : decode prog_16_method_10_code 67 = .ok (.getfield 7, 3) := by decide +kernel
theorem d5_70 : decode prog_16_method_10_code 70 = .ok (.iload_n 3, 1) := by decide +kernel
theorem d5_71 : decode prog_16_method_10_code 71 = .ok (.iload_n 1, 1) := by decide +kernel
theorem d5_72 : decode prog_16_method_10_code 72 = .ok (.iastore, 1) := by decide +kernel
theorem d5_73 : decode prog_16_method_10_code 73 = .ok (.aload_n 0, 1) := by decide +kernel
theorem d5_74 : decode prog_16_method_10_code 74 = .ok (.getfield 13, 3) := by decide +kernel
theorem d5_77 : decode prog_16_method_10_code 77 = .ok (.iload_n 1, 1) := by decide +kernel
theorem d5_78 : decode prog_16_method_10_code 78 = .ok (.iload_n 3, 1) := by decide +kernel
theorem d5_79 : decode prog_16_method_10_code 79 = .ok (.iastore, 1) := by decide +kernel
theorem d5_80 : decode prog_16_method_10_code 80 = .ok (.aload_n 0, 1) := by decide +kernel
theorem d5_81 : decode prog_16_method_10_code 81 = .ok (.getfield 7, 3) := by decide +kernel
theorem d5_84 : decode prog_16_method_10_code 84 = .ok (.iload 4, 2) := by decide +kernel
theorem d5_86 : decode prog_16_method_10_code 86 = .ok (.iload 5, 2) := by decide +kernel
theorem d5_88 : decode prog_16_method_10_code 88 = .ok (.iastore, 1) := by decide +kernel
theorem d5_89 : decode prog_16_method_10_code 89 = .ok (.aload_n 0, 1) := by decide +kernel
theorem d5_90 : decode prog_16_method_10_code 90 = .ok (.getfield 13, 3) := by decide +kernel
theorem d5_93 : decode prog_16_method_10_code 93 = .ok (.iload 5, 2) := by decide +kernel
theorem d5_95 : decode prog_16_method_10_code 95 = .ok (.iload 4, 2) := by decide +kernel
theorem d5_97 : decode prog_16_method_10_code 97 = .ok (.iastore, 1) := by decide +kernel
theorem d5_98 : decode prog_16_method_10_code 98 = .ok (.aload_n 0, 1) := by decide +kernel
theorem d5_99 : decode prog_16_method_10_code 99 = .ok (.getfield 25, 3) := by decide +kernel
theorem d5_102 : decode prog_16_method_10_code 102 = .ok (.iload_n 2, 1) := by decide +kernel
theorem d5_103 : decode prog_16_method_10_code 103 = .ok (.iload_n 3, 1) := by decide +kernel
theorem d5_104 : decode prog_16_method_10_code 104 = .ok (.iconst 1, 1) := by decide +kernel
theorem d5_105 : decode prog_16_method_10_code 105 = .ok (.iadd, 1) := by decide +kernel
theorem d5_106 : decode prog_16_method_10_code 106 = .ok (.iastore, 1) := by decide +kernel
theorem d5_107 : decode prog_16_method_10_code 107 = .ok (.return_, 1) := by decide +kernel
theorem ef5 (m : MethodId) (a0 : Addr) (p1 : Int32) : entryFrame m #[(.ref a0), (.int p1)] 6 = mkF m 0 #[rv a0, iv p1, .unset, .unset, .unset, .unset] [] := by first | (simp [entryFrame, mkF, argsToLocals, Value.category]; done) | rfl
def g5_tc (p1 : Int32) (el : List Int32) (po : List Int32) (bo : List Int32) (bs : List Int32) (bm : List Int32) (tb : List Int32) (bc : Int32) (tc : Int32) : Int32 := (if (own_at po p1) < (own_at bm (own_at bo p1)) then tc else (if (own_at bm (own_at bo p1)) = (own_at bs (own_at bo p1)) then (tc + (1:Int32)) else tc))
def g5_el (p1 : Int32) (el : List Int32) (po : List Int32) (bo : List Int32) (bs : List Int32) (bm : List Int32) (tb : List Int32) (bc : Int32) (tc : Int32) : List Int32 := (if (own_at po p1) < (own_at bm (own_at bo p1)) then el else ((el.set (own_at bm (own_at bo p1)).toNatClampNeg p1).set (own_at po p1).toNatClampNeg (own_at el (own_at bm (own_at bo p1)))))
def g5_po (p1 : Int32) (el : List Int32) (po : List Int32) (bo : List Int32) (bs : List Int32) (bm : List Int32) (tb : List Int32) (bc : Int32) (tc : Int32) : List Int32 := (if (own_at po p1) < (own_at bm (own_at bo p1)) then po else ((po.set p1.toNatClampNeg (own_at bm (own_at bo p1))).set (own_at el (own_at bm (own_at bo p1))).toNatClampNeg (own_at po p1)))
def g5_bm (p1 : Int32) (el : List Int32) (po : List Int32) (bo : List Int32) (bs : List Int32) (bm : List Int32) (tb : List Int32) (bc : Int32) (tc : Int32) : List Int32 := (if (own_at po p1) < (own_at bm (own_at bo p1)) then bm else (bm.set (own_at bo p1).toNatClampNeg ((own_at bm (own_at bo p1)) + (1:Int32))))
def g5_tb (p1 : Int32) (el : List Int32) (po : List Int32) (bo : List Int32) (bs : List Int32) (bm : List Int32) (tb : List Int32) (bc : Int32) (tc : Int32) : List Int32 := (if (own_at po p1) < (own_at bm (own_at bo p1)) then tb else (if (own_at bm (own_at bo p1)) = (own_at bs (own_at bo p1)) then (tb.set tc.toNatClampNeg (own_at bo p1)) else tb))
def Q5 (Z : State) (a0 : Addr) (p1 : Int32) (e1 : Addr) (e2 : Addr) (e3 : Addr) (e4 : Addr) (e5 : Addr) (e6 : Addr) (e7 : Addr) (el : List Int32) (po : List Int32) (bo : List Int32) (bs : List Int32) (bm : List Int32) (tb : List Int32) (bc : Int32) (tc : Int32) (h0 : Heap) (n0 : Nat) (v : Option Value) (h : Heap) (L : List Loc) : Prop := v = none ∧ Fr n0 L ∧ Keep h0 h [a0, e1, e2, e6, e7] ∧ Fld Z h a0 "com/example/spare_calculus/sparecalculus/bisim/Partition" "elements" "[I" (.ref e1) ∧ Fld Z h a0 "com/example/spare_calculus/sparecalculus/bisim/Partition" "positions" "[I" (.ref e2) ∧ Fld Z h a0 "com/example/spare_calculus/sparecalculus/bisim/Partition" "blockOf" "[I" (.ref e3) ∧ Fld Z h a0 "com/example/spare_calculus/sparecalculus/bisim/Partition" "blockStart" "[I" (.ref e4) ∧ Fld Z h a0 "com/example/spare_calculus/sparecalculus/bisim/Partition" "blockEnd" "[I" (.ref e5) ∧ Fld Z h a0 "com/example/spare_calculus/sparecalculus/bisim/Partition" "blockMarkedEnd" "[I" (.ref e6) ∧ Fld Z h a0 "com/example/spare_calculus/sparecalculus/bisim/Partition" "touchedBlocks" "[I" (.ref e7) ∧ Fld Z h a0 "com/example/spare_calculus/sparecalculus/bisim/Partition" "blockCount" "I" (.int bc) ∧ Fld Z h a0 "com/example/spare_calculus/sparecalculus/bisim/Partition" "touchedBlockCount" "I" (.int (g5_tc p1 el po bo bs bm tb bc tc)) ∧ own_Ints Z h e1 (g5_el p1 el po bo bs bm tb bc tc) ∧ own_Ints Z h e2 (g5_po p1 el po bo bs bm tb bc tc) ∧ own_Ints Z h e6 (g5_bm p1 el po bo bs bm tb bc tc) ∧ own_Ints Z h e7 (g5_tb p1 el po bo bs bm tb bc tc)
set_option maxRecDepth 65536 in
set_option maxHeartbeats 40000000 in
theorem rm5 (l : Launch) (Z : State) (aZ : Array Value) (hw : ∀ d ∈ tables_1, d.before aZ Z = true) (ws : List Jvm.Cond) (a0 : Addr) (p1 : Int32) (e1 : Addr) (e2 : Addr) (e3 : Addr) (e4 : Addr) (e5 : Addr) (e6 : Addr) (e7 : Addr) (el : List Int32) (po : List Int32) (bo : List Int32) (bs : List Int32) (bm : List Int32) (tb : List Int32) (bc : Int32) (tc : Int32) (h0 : Heap) (n0 : Nat) (Z0 : n0 ≤ h0.size) (P0 : Exa Z h0 a0 "com/example/spare_calculus/sparecalculus/bisim/Partition") (P1 : Fld Z h0 a0 "com/example/spare_calculus/sparecalculus/bisim/Partition" "elements" "[I" (.ref e1)) (P2 : Fld Z h0 a0 "com/example/spare_calculus/sparecalculus/bisim/Partition" "positions" "[I" (.ref e2)) (P3 : Fld Z h0 a0 "com/example/spare_calculus/sparecalculus/bisim/Partition" "blockOf" "[I" (.ref e3)) (P4 : Fld Z h0 a0 "com/example/spare_calculus/sparecalculus/bisim/Partition" "blockStart" "[I" (.ref e4)) (P5 : Fld Z h0 a0 "com/example/spare_calculus/sparecalculus/bisim/Partition" "blockEnd" "[I" (.ref e5)) (P6 : Fld Z h0 a0 "com/example/spare_calculus/sparecalculus/bisim/Partition" "blockMarkedEnd" "[I" (.ref e6)) (P7 : Fld Z h0 a0 "com/example/spare_calculus/sparecalculus/bisim/Partition" "touchedBlocks" "[I" (.ref e7)) (P8 : Fld Z h0 a0 "com/example/spare_calculus/sparecalculus/bisim/Partition" "blockCount" "I" (.int bc)) (P9 : Fld Z h0 a0 "com/example/spare_calculus/sparecalculus/bisim/Partition" "touchedBlockCount" "I" (.int tc)) (P10 : own_Ints Z h0 e1 el) (P11 : own_Ints Z h0 e2 po) (P12 : own_Ints Z h0 e3 bo) (P13 : own_Ints Z h0 e4 bs) (P14 : own_Ints Z h0 e6 bm) (P15 : own_Ints Z h0 e7 tb) (nq_a0_e1 : a0 ≠ e1) (nq_a0_e2 : a0 ≠ e2) (nq_a0_e3 : a0 ≠ e3) (nq_a0_e4 : a0 ≠ e4) (nq_a0_e6 : a0 ≠ e6) (nq_a0_e7 : a0 ≠ e7) (nq_e1_e2 : e1 ≠ e2) (nq_e1_e3 : e1 ≠ e3) (nq_e1_e4 : e1 ≠ e4) (nq_e1_e6 : e1 ≠ e6) (nq_e1_e7 : e1 ≠ e7) (nq_e2_e3 : e2 ≠ e3) (nq_e2_e4 : e2 ≠ e4) (nq_e2_e6 : e2 ≠ e6) (nq_e2_e7 : e2 ≠ e7) (nq_e3_e4 : e3 ≠ e4) (nq_e3_e6 : e3 ≠ e6) (nq_e3_e7 : e3 ≠ e7) (nq_e4_e6 : e4 ≠ e6) (nq_e4_e7 : e4 ≠ e7) (nq_e6_e7 : e6 ≠ e7) (gq_a0 : n0 ≤ a0) (gq_e1 : n0 ≤ e1) (gq_e2 : n0 ≤ e2) (gq_e6 : n0 ≤ e6) (gq_e7 : n0 ≤ e7) (hb1 : own_In p1 bo.length) (hb2 : own_In (own_at bo p1) bm.length) (hb3 : own_In p1 po.length) (hb4 : ¬ ((own_at po p1) < (own_at bm (own_at bo p1))) → own_In (own_at bo p1) bs.length) (hb5 : ¬ ((own_at po p1) < (own_at bm (own_at bo p1))) → own_In (own_at bm (own_at bo p1)) el.length) (hb6 : ¬ ((own_at po p1) < (own_at bm (own_at bo p1))) → own_In (own_at po p1) el.length) (hb7 : ¬ ((own_at po p1) < (own_at bm (own_at bo p1))) → own_In (own_at el (own_at bm (own_at bo p1))) po.length) (hb8 : ¬ ((own_at po p1) < (own_at bm (own_at bo p1))) → (own_at bm (own_at bo p1)) = (own_at bs (own_at bo p1)) → own_In tc tb.length) :
    MetFree l (⟨"com/example/spare_calculus/sparecalculus/bisim/Partition", "mark", "(I)V"⟩ : MethodName) (head1 (Jvm.Cond.code (⟨"com/example/spare_calculus/sparecalculus/bisim/Partition", "mark", "(I)V"⟩ : MethodName) prog_16_method_10_code 6 none :: ws) ({ frames := 0, cells := 0, slots := 0, locals := 0 } : Room)) (fun a U => a = #[(.ref a0), (.int p1)] ∧ Z.Warmed39 U.vm ∧ U.heap = h0) (fun _ _ _ _ _ => True) (fun _ U o U' => ∃ v L, o = .returned v ∧ Q5 Z a0 p1 e1 e2 e3 e4 e5 e6 e7 el po bo bs bm tb bc tc h0 n0 v U'.heap L ∧ FrameEnd U o U' L ({ frames := 0, cells := 0, slots := 0, locals := 0 } : Room).cells ({ frames := 0, cells := 0, slots := 0, locals := 0 } : Room).slots) := by
  refine MetFree.of_bodySF (plainFor_of_name own_pn0) hisR ?_
  intro p e s m args below meth c s₁ Bd hml0 hP hK
  obtain ⟨rfl, hZ, hh⟩ := hP
  have hx := Bd.exec
  have hby := Bd.bytes
  have hml : c.maxLocals = 6 := hml0
  have hown : s.vm.findClass "com/example/spare_calculus/sparecalculus/bisim/Partition" = some m.cls := findClass_of_methodNamed Bd.named
  have hnm := (name_of_methodNamed Bd.named Bd.method).1
  have X0 : Stand p l e ({ frames := 0, cells := 0, slots := 0, locals := 0 } : Room) s m #[(.ref a0), (.int p1)] below meth c s₁ [] 0 0 := Stand.of_body Bd
  have e0 : s₁.heap = h0 := by rw [← hh, Bd.state]; rfl
  have N0 := Fr.nil n0
  have Kp0 : Keep h0 h0 [a0, e1, e2, e6, e7] := Keep.refl _ _
  show own_Goes p e below s (Q5 Z a0 p1 e1 e2 e3 e4 e5 e6 e7 el po bo bs bm tb bc tc h0 n0) ({ frames := 0, cells := 0, slots := 0, locals := 0 } : Room).cells ({ frames := 0, cells := 0, slots := 0, locals := 0 } : Room).slots _
  refine own_pre (fun t k => castTop (ef5 m a0 p1) k) ?_
  refine own_pre (A := s₁.setTop (mkF m 1 #[rv a0, iv p1, .unset, .unset, .unset, .unset] [(.ref a0)])) (fun t k => ?_) ?_
  · show Steps p.tables e below (s₁.setTop (mkF m 0 #[rv a0, iv p1, .unset, .unset, .unset, .unset] [])) _
    refine XS.aloadN X0.here hx rfl (hb hby d5_0) rfl rfl ?_
    exact k
  obtain ⟨T143, X143, e143, st143⟩ := getF X0 hx hZ hown (host := "") (Or.inl (own_h hw 14 rfl)) Via.refl e0 P3 (g := (mkF m 1 #[rv a0, iv p1, .unset, .unset, .unset, .unset] [(.ref a0)])) rfl rfl (hb hby d5_1)
  refine own_pre st143 ?_
  have hbn144 : own_In p1 bo.length := hb1
  refine own_pre (A := T143.setTop (mkF m 8 #[rv a0, iv p1, iv (own_at bo p1), .unset, .unset, .unset] [(.ref a0)])) (fun t k => ?_) ?_
  · show Steps p.tables e below (T143.setTop (mkF m 4 #[rv a0, iv p1, .unset, .unset, .unset, .unset] [(.ref e3)])) _
    refine XS.iloadN X143.here hx rfl (hb hby d5_4) rfl ?_
    show Steps p.tables e below (T143.setTop (mkF m 5 #[rv a0, iv p1, .unset, .unset, .unset, .unset] [(.int p1), (.ref e3)])) _
    refine own_iaload X143 hx hZ e143 P12 hbn144 (g := (mkF m 5 #[rv a0, iv p1, .unset, .unset, .unset, .unset] [(.int p1), (.ref e3)])) rfl rfl (hb hby d5_5) ?_
    show Steps p.tables e below (T143.setTop (mkF m 6 #[rv a0, iv p1, .unset, .unset, .unset, .unset] [(.int (own_at bo p1))])) _
    refine XS.istoreN X143.here hx rfl (hb hby d5_6) rfl (l' := #[rv a0, iv p1, iv (own_at bo p1), .unset, .unset, .unset]) rfl ?_
    show Steps p.tables e below (T143.setTop (mkF m 7 #[rv a0, iv p1, iv (own_at bo p1), .unset, .unset, .unset] [])) _
    refine XS.aloadN X143.here hx rfl (hb hby d5_7) rfl rfl ?_
    exact k
  obtain ⟨T145, X145, e145, st145⟩ := getF X143 hx hZ hown (host := "") (Or.inl (own_h hw 20 rfl)) Via.refl e143 P6 (g := (mkF m 8 #[rv a0, iv p1, iv (own_at bo p1), .unset, .unset, .unset] [(.ref a0)])) rfl rfl (hb hby d5_8)
  refine own_pre st145 ?_
  have hbn146 : own_In (own_at bo p1) bm.length := hb2
  refine own_pre (A := T145.setTop (mkF m 15 #[rv a0, iv p1, iv (own_at bo p1), iv (own_at bm (own_at bo p1)), .unset, .unset] [(.ref a0)])) (fun t k => ?_) ?_
  · show Steps p.tables e below (T145.setTop (mkF m 11 #[rv a0, iv p1, iv (own_at bo p1), .unset, .unset, .unset] [(.ref e6)])) _
    refine XS.iloadN X145.here hx rfl (hb hby d5_11) rfl ?_
    show Steps p.tables e below (T145.setTop (mkF m 12 #[rv a0, iv p1, iv (own_at bo p1), .unset, .unset, .unset] [(.int (own_at bo p1)), (.ref e6)])) _
    refine own_iaload X145 hx hZ e145 P14 hbn146 (g := (mkF m 12 #[rv a0, iv p1, iv (own_at bo p1), .unset, .unset, .unset] [(.int (own_at bo p1)), (.ref e6)])) rfl rfl (hb hby d5_12) ?_
    show Steps p.tables e below (T145.setTop (mkF m 13 #[rv a0, iv p1, iv (own_at bo p1), .unset, .unset, .unset] [(.int (own_at bm (own_at bo p1)))])) _
    refine XS.istoreN X145.here hx rfl (hb hby d5_13) rfl (l' := #[rv a0, iv p1, iv (own_at bo p1), iv (own_at bm (own_at bo p1)), .unset, .unset]) rfl ?_
    show Steps p.tables e below (T145.setTop (mkF m 14 #[rv a0, iv p1, iv (own_at bo p1), iv (own_at bm (own_at bo p1)), .unset, .unset] [])) _
    refine XS.aloadN X145.here hx rfl (hb hby d5_14) rfl rfl ?_
    exact k
  obtain ⟨T147, X147, e147, st147⟩ := getF X145 hx hZ hown (host := "") (Or.inl (own_h hw 12 rfl)) Via.refl e145 P2 (g := (mkF m 15 #[rv a0, iv p1, iv (own_at bo p1), iv (own_at bm (own_at bo p1)), .unset, .unset] [(.ref a0)])) rfl rfl (hb hby d5_15)
  refine own_pre st147 ?_
  have hbn148 : own_In p1 po.length := hb3
  refine own_pre (A := T147.setTop (mkF m 25 #[rv a0, iv p1, iv (own_at bo p1), iv (own_at bm (own_at bo p1)), iv (own_at po p1), .unset] [(.int (own_at bm (own_at bo p1))), (.int (own_at po p1))])) (fun t k => ?_) ?_
  · show Steps p.tables e below (T147.setTop (mkF m 18 #[rv a0, iv p1, iv (own_at bo p1), iv (own_at bm (own_at bo p1)), .unset, .unset] [(.ref e2)])) _
    refine XS.iloadN X147.here hx rfl (hb hby d5_18) rfl ?_
    show Steps p.tables e below (T147.setTop (mkF m 19 #[rv a0, iv p1, iv (own_at bo p1), iv (own_at bm (own_at bo p1)), .unset, .unset] [(.int p1), (.ref e2)])) _
    refine own_iaload X147 hx hZ e147 P11 hbn148 (g := (mkF m 19 #[rv a0, iv p1, iv (own_at bo p1), iv (own_at bm (own_at bo p1)), .unset, .unset] [(.int p1), (.ref e2)])) rfl rfl (hb hby d5_19) ?_
    show Steps p.tables e below (T147.setTop (mkF m 20 #[rv a0, iv p1, iv (own_at bo p1), iv (own_at bm (own_at bo p1)), .unset, .unset] [(.int (own_at po p1))])) _
    refine XS.istore X147.here hx rfl (hb hby d5_20) rfl (l' := #[rv a0, iv p1, iv (own_at bo p1), iv (own_at bm (own_at bo p1)), iv (own_at po p1), .unset]) rfl ?_
    show Steps p.tables e below (T147.setTop (mkF m 22 #[rv a0, iv p1, iv (own_at bo p1), iv (own_at bm (own_at bo p1)), iv (own_at po p1), .unset] [])) _
    refine XS.iload X147.here hx rfl (hb hby d5_22) rfl ?_
    show Steps p.tables e below (T147.setTop (mkF m 24 #[rv a0, iv p1, iv (own_at bo p1), iv (own_at bm (own_at bo p1)), iv (own_at po p1), .unset] [(.int (own_at po p1))])) _
    refine XS.iloadN X147.here hx rfl (hb hby d5_24) rfl ?_
    exact k
  by_cases hs25_1 : (own_at po p1) < (own_at bm (own_at bo p1))
  · refine own_pre (A := T147.setTop (mkF m 107 #[rv a0, iv p1, iv (own_at bo p1), iv (own_at bm (own_at bo p1)), iv (own_at po p1), .unset] [])) (fun t k => ?_) ?_
    · show Steps p.tables e below (T147.setTop (mkF m 25 #[rv a0, iv p1, iv (own_at bo p1), iv (own_at bm (own_at bo p1)), iv (own_at po p1), .unset] [(.int (own_at bm (own_at bo p1))), (.int (own_at po p1))])) _
      refine XS.icmpYes X147.here hx rfl (pc0 := 25) (pc' := 107) rfl (hb hby d5_25) rfl (XT.ii_lt_t hs25_1) (by decide) (by decide) ?_
      exact k
    exact own_end X147 (BodyLoose.notSynchronized Bd) (fun _ => rfl) (v := none) (fun fs hr => X147.returnOut hx Bd.returns (hb hby d5_107) hr) (by show Q5 Z a0 p1 e1 e2 e3 e4 e5 e6 e7 el po bo bs bm tb bc tc h0 n0 _ T147.heap _; rw [e147]; exact ⟨rfl, N0, Kp0, (by first | exact P1 | (simp only [if_pos hs25_1]; exact P1)), (by first | exact P2 | (simp only [if_pos hs25_1]; exact P2)), (by first | exact P3 | (simp only [if_pos hs25_1]; exact P3)), (by first | exact P4 | (simp only [if_pos hs25_1]; exact P4)), (by first | exact P5 | (simp only [if_pos hs25_1]; exact P5)), (by first | exact P6 | (simp only [if_pos hs25_1]; exact P6)), (by first | exact P7 | (simp only [if_pos hs25_1]; exact P7)), (by first | exact P8 | (simp only [if_pos hs25_1]; exact P8)), (by simp only [g5_tc, if_pos hs25_1]; exact P9), (by simp only [g5_el, if_pos hs25_1]; exact P10), (by simp only [g5_po, if_pos hs25_1]; exact P11), (by simp only [g5_bm, if_pos hs25_1]; exact P14), (by simp only [g5_tb, if_pos hs25_1]; exact P15)⟩) (by decide) (by decide)
  · refine own_pre (A := T147.setTop (mkF m 30 #[rv a0, iv p1, iv (own_at bo p1), iv (own_at bm (own_at bo p1)), iv (own_at po p1), .unset] [(.ref a0), (.int (own_at bm (own_at bo p1)))])) (fun t k => ?_) ?_
    · show Steps p.tables e below (T147.setTop (mkF m 25 #[rv a0, iv p1, iv (own_at bo p1), iv (own_at bm (own_at bo p1)), iv (own_at po p1), .unset] [(.int (own_at bm (own_at bo p1))), (.int (own_at po p1))])) _
      refine XS.icmpNo X147.here hx rfl (hb hby d5_25) rfl (XT.ii_lt_f hs25_1) ?_
      show Steps p.tables e below (T147.setTop (mkF m 28 #[rv a0, iv p1, iv (own_at bo p1), iv (own_at bm (own_at bo p1)), iv (own_at po p1), .unset] [])) _
      refine XS.iloadN X147.here hx rfl (hb hby d5_28) rfl ?_
      show Steps p.tables e below (T147.setTop (mkF m 29 #[rv a0, iv p1, iv (own_at bo p1), iv (own_at bm (own_at bo p1)), iv (own_at po p1), .unset] [(.int (own_at bm (own_at bo p1)))])) _
      refine XS.aloadN X147.here hx rfl (hb hby d5_29) rfl rfl ?_
      exact k
    obtain ⟨T149, X149, e149, st149⟩ := getF X147 hx hZ hown (host := "") (Or.inl (own_h hw 16 rfl)) Via.refl e147 P4 (g := (mkF m 30 #[rv a0, iv p1, iv (own_at bo p1), iv (own_at bm (own_at bo p1)), iv (own_at po p1), .unset] [(.ref a0), (.int (own_at bm (own_at bo p1)))])) rfl rfl (hb hby d5_30)
    refine own_pre st149 ?_
    have hbn150 : own_In (own_at bo p1) bs.length := hb4 hs25_1
    refine own_pre (A := T149.setTop (mkF m 35 #[rv a0, iv p1, iv (own_at bo p1), iv (own_at bm (own_at bo p1)), iv (own_at po p1), .unset] [(.int (own_at bs (own_at bo p1))), (.int (own_at bm (own_at bo p1)))])) (fun t k => ?_) ?_
    · show Steps p.tables e below (T149.setTop (mkF m 33 #[rv a0, iv p1, iv (own_at bo p1), iv (own_at bm (own_at bo p1)), iv (own_at po p1), .unset] [(.ref e4), (.int (own_at bm (own_at bo p1)))])) _
      refine XS.iloadN X149.here hx rfl (hb hby d5_33) rfl ?_
      show Steps p.tables e below (T149.setTop (mkF m 34 #[rv a0, iv p1, iv (own_at bo p1), iv (own_at bm (own_at bo p1)), iv (own_at po p1), .unset] [(.int (own_at bo p1)), (.ref e4), (.int (own_at bm (own_at bo p1)))])) _
      refine own_iaload X149 hx hZ e149 P13 hbn150 (g := (mkF m 34 #[rv a0, iv p1, iv (own_at bo p1), iv (own_at bm (own_at bo p1)), iv (own_at po p1), .unset] [(.int (own_at bo p1)), (.ref e4), (.int (own_at bm (own_at bo p1)))])) rfl rfl (hb hby d5_34) ?_
      exact k
    by_cases hs35_2 : (own_at bm (own_at bo p1)) = (own_at bs (own_at bo p1))
    · refine own_pre (A := T149.setTop (mkF m 39 #[rv a0, iv p1, iv (own_at bo p1), iv (own_at bm (own_at bo p1)), iv (own_at po p1), .unset] [(.ref a0)])) (fun t k => ?_) ?_
      · show Steps p.tables e below (T149.setTop (mkF m 35 #[rv a0, iv p1, iv (own_at bo p1), iv (own_at bm (own_at bo p1)), iv (own_at po p1), .unset] [(.int (own_at bs (own_at bo p1))), (.int (own_at bm (own_at bo p1)))])) _
        refine XS.icmpNo X149.here hx rfl (hb hby d5_35) rfl (XT.ii_ne_f hs35_2) ?_
        show Steps p.tables e below (T149.setTop (mkF m 38 #[rv a0, iv p1, iv (own_at bo p1), iv (own_at bm (own_at bo p1)), iv (own_at po p1), .unset] [])) _
        refine XS.aloadN X149.here hx rfl (hb hby d5_38) rfl rfl ?_
        exact k
      obtain ⟨T151, X151, e151, st151⟩ := getF X149 hx hZ hown (host := "") (Or.inl (own_h hw 22 rfl)) Via.refl e149 P7 (g := (mkF m 39 #[rv a0, iv p1, iv (own_at bo p1), iv (own_at bm (own_at bo p1)), iv (own_at po p1), .unset] [(.ref a0)])) rfl rfl (hb hby d5_39)
      refine own_pre st151 ?_
      refine own_pre (A := T151.setTop (mkF m 43 #[rv a0, iv p1, iv (own_at bo p1), iv (own_at bm (own_at bo p1)), iv (own_at po p1), .unset] [(.ref a0), (.ref e7)])) (fun t k => ?_) ?_
      · show Steps p.tables e below (T151.setTop (mkF m 42 #[rv a0, iv p1, iv (own_at bo p1), iv (own_at bm (own_at bo p1)), iv (own_at po p1), .unset] [(.ref e7)])) _
        refine XS.aloadN X151.here hx rfl (hb hby d5_42) rfl rfl ?_
        exact k
      obtain ⟨T152, X152, e152, st152⟩ := getF X151 hx hZ hown (host := "") (Or.inl (own_h hw 38 rfl)) Via.refl e151 P9 (g := (mkF m 43 #[rv a0, iv p1, iv (own_at bo p1), iv (own_at bm (own_at bo p1)), iv (own_at po p1), .unset] [(.ref a0), (.ref e7)])) rfl rfl (hb hby d5_43)
      refine own_pre st152 ?_
      refine own_pre (A := T152.setTop (mkF m 47 #[rv a0, iv p1, iv (own_at bo p1), iv (own_at bm (own_at bo p1)), iv (own_at po p1), .unset] [(.int (own_at bo p1)), (.int tc), (.ref e7)])) (fun t k => ?_) ?_
      · show Steps p.tables e below (T152.setTop (mkF m 46 #[rv a0, iv p1, iv (own_at bo p1), iv (own_at bm (own_at bo p1)), iv (own_at po p1), .unset] [(.int tc), (.ref e7)])) _
        refine XS.iloadN X152.here hx rfl (hb hby d5_46) rfl ?_
        exact k
      have hbn154 : own_In tc tb.length := hb8 hs25_1 hs35_2
      obtain ⟨T153, h153, X153, e153, W153, V153, st153⟩ := own_iastore X152 hx hZ e152 P15 (j := tc) (x := (own_at bo p1)) hbn154 (g := (mkF m 47 #[rv a0, iv p1, iv (own_at bo p1), iv (own_at bm (own_at bo p1)), iv (own_at po p1), .unset] [(.int (own_at bo p1)), (.int tc), (.ref e7)])) rfl rfl (hb hby d5_47)
      have Kp153 : Keep h0 h153 [a0, e1, e2, e6, e7] := Kp0.wr W153 (Or.inl (List.mem_of_getElem? (i := 4) rfl))
      have Z155 : n0 ≤ h153.size := Nat.le_trans Z0 (Nat.le_of_eq W153.size.symm)
      have N153 := Fr.snoc X153 N0 gq_e7
      have Vw153 : own_Ints Z h153 e7 (tb.set tc.toNatClampNeg (own_at bo p1)) := V153
      refine own_pre st153 ?_
      refine own_pre (A := T153.setTop (mkF m 50 #[rv a0, iv p1, iv (own_at bo p1), iv (own_at bm (own_at bo p1)), iv (own_at po p1), .unset] [(.ref a0), (.ref a0)])) (fun t k => ?_) ?_
      · show Steps p.tables e below (T153.setTop (mkF m 48 #[rv a0, iv p1, iv (own_at bo p1), iv (own_at bm (own_at bo p1)), iv (own_at po p1), .unset] [])) _
        refine XS.aloadN X153.here hx rfl (hb hby d5_48) rfl rfl ?_
        show Steps p.tables e below (T153.setTop (mkF m 49 #[rv a0, iv p1, iv (own_at bo p1), iv (own_at bm (own_at bo p1)), iv (own_at po p1), .unset] [(.ref a0)])) _
        refine XS.dup X153.here hx rfl (hb hby d5_49) rfl rfl ?_
        exact k
      have F157 := (P9.other W153 (Or.inl nq_a0_e7))
      obtain ⟨T156, X156, e156, st156⟩ := getF X153 hx hZ hown (host := "") (Or.inl (own_h hw 38 rfl)) Via.refl e153 F157 (g := (mkF m 50 #[rv a0, iv p1, iv (own_at bo p1), iv (own_at bm (own_at bo p1)), iv (own_at po p1), .unset] [(.ref a0), (.ref a0)])) rfl rfl (hb hby d5_50)
      refine own_pre st156 ?_
      refine own_pre (A := T156.setTop (mkF m 55 #[rv a0, iv p1, iv (own_at bo p1), iv (own_at bm (own_at bo p1)), iv (own_at po p1), .unset] [(.int (tc + (1:Int32))), (.ref a0)])) (fun t k => ?_) ?_
      · show Steps p.tables e below (T156.setTop (mkF m 53 #[rv a0, iv p1, iv (own_at bo p1), iv (own_at bm (own_at bo p1)), iv (own_at po p1), .unset] [(.int tc), (.ref a0)])) _
        refine XS.iconst X156.here hx rfl (hb hby d5_53) ?_
        show Steps p.tables e below (T156.setTop (mkF m 54 #[rv a0, iv p1, iv (own_at bo p1), iv (own_at bm (own_at bo p1)), iv (own_at po p1), .unset] [(.int (1:Int32)), (.int tc), (.ref a0)])) _
        refine XS.iadd X156.here hx rfl (hb hby d5_54) rfl ?_
        exact k
      have F159 := (P0.wr W153)
      obtain ⟨T158, h158, X158, e158, W158, st158⟩ := putF X156 hx hZ hown (host := "") (Or.inl (own_h hw 38 rfl)) Via.refl e156 F157 F159 (Or.inl (own_h hw 39 rfl)) (own_h hw 1 rfl) (ty := .int) (by decide) rfl rfl (g := (mkF m 55 #[rv a0, iv p1, iv (own_at bo p1), iv (own_at bm (own_at bo p1)), iv (own_at po p1), .unset] [(.int (tc + (1:Int32))), (.ref a0)])) rfl rfl (hb hby d5_55)
      have Kp158 : Keep h0 h158 [a0, e1, e2, e6, e7] := Kp153.wr W158 (Or.inl (List.mem_of_getElem? (i := 0) rfl))
      have Z160 : n0 ≤ h158.size := Nat.le_trans Z155 (Nat.le_of_eq W158.size.symm)
      have N158 := Fr.snoc X158 N153 gq_a0
      have Fw158 := F157.same W158
      refine own_pre st158 ?_
      refine own_pre (A := T158.setTop (mkF m 59 #[rv a0, iv p1, iv (own_at bo p1), iv (own_at bm (own_at bo p1)), iv (own_at po p1), .unset] [(.ref a0)])) (fun t k => ?_) ?_
      · show Steps p.tables e below (T158.setTop (mkF m 58 #[rv a0, iv p1, iv (own_at bo p1), iv (own_at bm (own_at bo p1)), iv (own_at po p1), .unset] [])) _
        refine XS.aloadN X158.here hx rfl (hb hby d5_58) rfl rfl ?_
        exact k
      have F162 := ((P1.other W153 (Or.inl nq_a0_e7)).other W158 (Or.inr (slot_ne (Or.inr (own_h hw 11 rfl)) (Or.inl (own_h hw 39 rfl)) (by decide) (t := (.array .int)) (t' := .int) (by decide) (by decide))))
      obtain ⟨T161, X161, e161, st161⟩ := getF X158 hx hZ hown (host := "") (Or.inl (own_h hw 10 rfl)) Via.refl e158 F162 (g := (mkF m 59 #[rv a0, iv p1, iv (own_at bo p1), iv (own_at bm (own_at bo p1)), iv (own_at po p1), .unset] [(.ref a0)])) rfl rfl (hb hby d5_59)
      refine own_pre st161 ?_
      have F163 := ((P10.other W153 nq_e1_e7).other W158 (Ne.symm nq_a0_e1))
      have hbn164 : own_In (own_at bm (own_at bo p1)) el.length := hb5 hs25_1
      refine own_pre (A := T161.setTop (mkF m 67 #[rv a0, iv p1, iv (own_at bo p1), iv (own_at bm (own_at bo p1)), iv (own_at po p1), iv (own_at el (own_at bm (own_at bo p1)))] [(.ref a0)])) (fun t k => ?_) ?_
      · show Steps p.tables e below (T161.setTop (mkF m 62 #[rv a0, iv p1, iv (own_at bo p1), iv (own_at bm (own_at bo p1)), iv (own_at po p1), .unset] [(.ref e1)])) _
        refine XS.iloadN X161.here hx rfl (hb hby d5_62) rfl ?_
        show Steps p.tables e below (T161.setTop (mkF m 63 #[rv a0, iv p1, iv (own_at bo p1), iv (own_at bm (own_at bo p1)), iv (own_at po p1), .unset] [(.int (own_at bm (own_at bo p1))), (.ref e1)])) _
        refine own_iaload X161 hx hZ e161 F163 hbn164 (g := (mkF m 63 #[rv a0, iv p1, iv (own_at bo p1), iv (own_at bm (own_at bo p1)), iv (own_at po p1), .unset] [(.int (own_at bm (own_at bo p1))), (.ref e1)])) rfl rfl (hb hby d5_63) ?_
        show Steps p.tables e below (T161.setTop (mkF m 64 #[rv a0, iv p1, iv (own_at bo p1), iv (own_at bm (own_at bo p1)), iv (own_at po p1), .unset] [(.int (own_at el (own_at bm (own_at bo p1))))])) _
        refine XS.istore X161.here hx rfl (hb hby d5_64) rfl (l' := #[rv a0, iv p1, iv (own_at bo p1), iv (own_at bm (own_at bo p1)), iv (own_at po p1), iv (own_at el (own_at bm (own_at bo p1)))]) rfl ?_
        show Steps p.tables e below (T161.setTop (mkF m 66 #[rv a0, iv p1, iv (own_at bo p1), iv (own_at bm (own_at bo p1)), iv (own_at po p1), iv (own_at el (own_at bm (own_at bo p1)))] [])) _
        refine XS.aloadN X161.here hx rfl (hb hby d5_66) rfl rfl ?_
        exact k
      obtain ⟨T165, X165, e165, st165⟩ := getF X161 hx hZ hown (host := "") (Or.inl (own_h hw 10 rfl)) Via.refl e161 F162 (g := (mkF m 67 #[rv a0, iv p1, iv (own_at bo p1), iv (own_at bm (own_at bo p1)), iv (own_at po p1), iv (own_at el (own_at bm (own_at bo p1)))] [(.ref a0)])) rfl rfl (hb hby d5_67)
      refine own_pre st165 ?_
      refine own_pre (A := T165.setTop (mkF m 72 #[rv a0, iv p1, iv (own_at bo p1), iv (own_at bm (own_at bo p1)), iv (own_at po p1), iv (own_at el (own_at bm (own_at bo p1)))] [(.int p1), (.int (own_at bm (own_at bo p1))), (.ref e1)])) (fun t k => ?_) ?_
      · show Steps p.tables e below (T165.setTop (mkF m 70 #[rv a0, iv p1, iv (own_at bo p1), iv (own_at bm (own_at bo p1)), iv (own_at po p1), iv (own_at el (own_at bm (own_at bo p1)))] [(.ref e1)])) _
        refine XS.iloadN X165.here hx rfl (hb hby d5_70) rfl ?_
        show Steps p.tables e below (T165.setTop (mkF m 71 #[rv a0, iv p1, iv (own_at bo p1), iv (own_at bm (own_at bo p1)), iv (own_at po p1), iv (own_at el (own_at bm (own_at bo p1)))] [(.int (own_at bm (own_at bo p1))), (.ref e1)])) _
        refine XS.iloadN X165.here hx rfl (hb hby d5_71) rfl ?_
        exact k
      have hbn167 : own_In (own_at bm (own_at bo p1)) el.length := hb5 hs25_1
      obtain ⟨T166, h166, X166, e166, W166, V166, st166⟩ := own_iastore X165 hx hZ e165 F163 (j := (own_at bm (own_at bo p1))) (x := p1) hbn167 (g := (mkF m 72 #[rv a0, iv p1, iv (own_at bo p1), iv (own_at bm (own_at bo p1)), iv (own_at po p1), iv (own_at el (own_at bm (own_at bo p1)))] [(.int p1), (.int (own_at bm (own_at bo p1))), (.ref e1)])) rfl rfl (hb hby d5_72)
      have Kp166 : Keep h0 h166 [a0, e1, e2, e6, e7] := Kp158.wr W166 (Or.inl (List.mem_of_getElem? (i := 1) rfl))
      have Z168 : n0 ≤ h166.size := Nat.le_trans Z160 (Nat.le_of_eq W166.size.symm)
      have N166 := Fr.snoc X166 N158 gq_e1
      have Vw166 : own_Ints Z h166 e1 (el.set (own_at bm (own_at bo p1)).toNatClampNeg p1) := V166
      refine own_pre st166 ?_
      refine own_pre (A := T166.setTop (mkF m 74 #[rv a0, iv p1, iv (own_at bo p1), iv (own_at bm (own_at bo p1)), iv (own_at po p1), iv (own_at el (own_at bm (own_at bo p1)))] [(.ref a0)])) (fun t k => ?_) ?_
      · show Steps p.tables e below (T166.setTop (mkF m 73 #[rv a0, iv p1, iv (own_at bo p1), iv (own_at bm (own_at bo p1)), iv (own_at po p1), iv (own_at el (own_at bm (own_at bo p1)))] [])) _
        refine XS.aloadN X166.here hx rfl (hb hby d5_73) rfl rfl ?_
        exact k
      have F170 := (((P2.other W153 (Or.inl nq_a0_e7)).other W158 (Or.inr (slot_ne (Or.inr (own_h hw 13 rfl)) (Or.inl (own_h hw 39 rfl)) (by decide) (t := (.array .int)) (t' := .int) (by decide) (by decide)))).other W166 (Or.inl nq_a0_e1))
      obtain ⟨T169, X169, e169, st169⟩ := getF X166 hx hZ hown (host := "") (Or.inl (own_h hw 12 rfl)) Via.refl e166 F170 (g := (mkF m 74 #[rv a0, iv p1, iv (own_at bo p1), iv (own_at bm (own_at bo p1)), iv (own_at po p1), iv (own_at el (own_at bm (own_at bo p1)))] [(.ref a0)])) rfl rfl (hb hby d5_74)
      refine own_pre st169 ?_
      refine own_pre (A := T169.setTop (mkF m 79 #[rv a0, iv p1, iv (own_at bo p1), iv (own_at bm (own_at bo p1)), iv (own_at po p1), iv (own_at el (own_at bm (own_at bo p1)))] [(.int (own_at bm (own_at bo p1))), (.int p1), (.ref e2)])) (fun t k => ?_) ?_
      · show Steps p.tables e below (T169.setTop (mkF m 77 #[rv a0, iv p1, iv (own_at bo p1), iv (own_at bm (own_at bo p1)), iv (own_at po p1), iv (own_at el (own_at bm (own_at bo p1)))] [(.ref e2)])) _
        refine XS.iloadN X169.here hx rfl (hb hby d5_77) rfl ?_
        show Steps p.tables e below (T169.setTop (mkF m 78 #[rv a0, iv p1, iv (own_at bo p1), iv (own_at bm (own_at bo p1)), iv (own_at po p1), iv (own_at el (own_at bm (own_at bo p1)))] [(.int p1), (.ref e2)])) _
        refine XS.iloadN X169.here hx rfl (hb hby d5_78) rfl ?_
        exact k
      have F172 := (((P11.other W153 nq_e2_e7).other W158 (Ne.symm nq_a0_e2)).other W166 (Ne.symm nq_e1_e2))
      have hbn173 : own_In p1 po.length := hb3
      obtain ⟨T171, h171, X171, e171, W171, V171, st171⟩ := own_iastore X169 hx hZ e169 F172 (j := p1) (x := (own_at bm (own_at bo p1))) hbn173 (g := (mkF m 79 #[rv a0, iv p1, iv (own_at bo p1), iv (own_at bm (own_at bo p1)), iv (own_at po p1), iv (own_at el (own_at bm (own_at bo p1)))] [(.int (own_at bm (own_at bo p1))), (.int p1), (.ref e2)])) rfl rfl (hb hby d5_79)
      have Kp171 : Keep h0 h171 [a0, e1, e2, e6, e7] := Kp166.wr W171 (Or.inl (List.mem_of_getElem? (i := 2) rfl))
      have Z174 : n0 ≤ h171.size := Nat.le_trans Z168 (Nat.le_of_eq W171.size.symm)
      have N171 := Fr.snoc X171 N166 gq_e2
      have Vw171 : own_Ints Z h171 e2 (po.set p1.toNatClampNeg (own_at bm (own_at bo p1))) := V171
      refine own_pre st171 ?_
      refine own_pre (A := T171.setTop (mkF m 81 #[rv a0, iv p1, iv (own_at bo p1), iv (own_at bm (own_at bo p1)), iv (own_at po p1), iv (own_at el (own_at bm (own_at bo p1)))] [(.ref a0)])) (fun t k => ?_) ?_
      · show Steps p.tables e below (T171.setTop (mkF m 80 #[rv a0, iv p1, iv (own_at bo p1), iv (own_at bm (own_at bo p1)), iv (own_at po p1), iv (own_at el (own_at bm (own_at bo p1)))] [])) _
        refine XS.aloadN X171.here hx rfl (hb hby d5_80) rfl rfl ?_
        exact k
      have F176 := ((F162.other W166 (Or.inl nq_a0_e1)).other W171 (Or.inl nq_a0_e2))
      obtain ⟨T175, X175, e175, st175⟩ := getF X171 hx hZ hown (host := "") (Or.inl (own_h hw 10 rfl)) Via.refl e171 F176 (g := (mkF m 81 #[rv a0, iv p1, iv (own_at bo p1), iv (own_at bm (own_at bo p1)), iv (own_at po p1), iv (own_at el (own_at bm (own_at bo p1)))] [(.ref a0)])) rfl rfl (hb hby d5_81)
      refine own_pre st175 ?_
      refine own_pre (A := T175.setTop (mkF m 88 #[rv a0, iv p1, iv (own_at bo p1), iv (own_at bm (own_at bo p1)), iv (own_at po p1), iv (own_at el (own_at bm (own_at bo p1)))] [(.int (own_at el (own_at bm (own_at bo p1)))), (.int (own_at po p1)), (.ref e1)])) (fun t k => ?_) ?_
      · show Steps p.tables e below (T175.setTop (mkF m 84 #[rv a0, iv p1, iv (own_at bo p1), iv (own_at bm (own_at bo p1)), iv (own_at po p1), iv (own_at el (own_at bm (own_at bo p1)))] [(.ref e1)])) _
        refine XS.iload X175.here hx rfl (hb hby d5_84) rfl ?_
        show Steps p.tables e below (T175.setTop (mkF m 86 #[rv a0, iv p1, iv (own_at bo p1), iv (own_at bm (own_at bo p1)), iv (own_at po p1), iv (own_at el (own_at bm (own_at bo p1)))] [(.int (own_at po p1)), (.ref e1)])) _
        refine XS.iload X175.here hx rfl (hb hby d5_86) rfl ?_
        exact k
      have F178 := (Vw166.other W171 nq_e1_e2)
      have hbn179 : own_In (own_at po p1) (el.set (own_at bm (own_at bo p1)).toNatClampNeg p1).length := (by first | exact hb6 hs25_1 | (simp only [List.length_set]; exact hb6 hs25_1))
      obtain ⟨T177, h177, X177, e177, W177, V177, st177⟩ := own_iastore X175 hx hZ e175 F178 (j := (own_at po p1)) (x := (own_at el (own_at bm (own_at bo p1)))) hbn179 (g := (mkF m 88 #[rv a0, iv p1, iv (own_at bo p1), iv (own_at bm (own_at bo p1)), iv (own_at po p1), iv (own_at el (own_at bm (own_at bo p1)))] [(.int (own_at el (own_at bm (own_at bo p1)))), (.int (own_at po p1)), (.ref e1)])) rfl rfl (hb hby d5_88)
      have Kp177 : Keep h0 h177 [a0, e1, e2, e6, e7] := Kp171.wr W177 (Or.inl (List.mem_of_getElem? (i := 1) rfl))
      have Z180 : n0 ≤ h177.size := Nat.le_trans Z174 (Nat.le_of_eq W177.size.symm)
      have N177 := Fr.snoc X177 N171 gq_e1
      have Vw177 : own_Ints Z h177 e1 ((el.set (own_at bm (own_at bo p1)).toNatClampNeg p1).set (own_at po p1).toNatClampNeg (own_at el (own_at bm (own_at bo p1)))) := V177
      refine own_pre st177 ?_
      refine own_pre (A := T177.setTop (mkF m 90 #[rv a0, iv p1, iv (own_at bo p1), iv (own_at bm (own_at bo p1)), iv (own_at po p1), iv (own_at el (own_at bm (own_at bo p1)))] [(.ref a0)])) (fun t k => ?_) ?_
      · show Steps p.tables e below (T177.setTop (mkF m 89 #[rv a0, iv p1, iv (own_at bo p1), iv (own_at bm (own_at bo p1)), iv (own_at po p1), iv (own_at el (own_at bm (own_at bo p1)))] [])) _
        refine XS.aloadN X177.here hx rfl (hb hby d5_89) rfl rfl ?_
        exact k
      have F182 := ((F170.other W171 (Or.inl nq_a0_e2)).other W177 (Or.inl nq_a0_e1))
      obtain ⟨T181, X181, e181, st181⟩ := getF X177 hx hZ hown (host := "") (Or.inl (own_h hw 12 rfl)) Via.refl e177 F182 (g := (mkF m 90 #[rv a0, iv p1, iv (own_at bo p1), iv (own_at bm (own_at bo p1)), iv (own_at po p1), iv (own_at el (own_at bm (own_at bo p1)))] [(.ref a0)])) rfl rfl (hb hby d5_90)
      refine own_pre st181 ?_
      refine own_pre (A := T181.setTop (mkF m 97 #[rv a0, iv p1, iv (own_at bo p1), iv (own_at bm (own_at bo p1)), iv (own_at po p1), iv (own_at el (own_at bm (own_at bo p1)))] [(.int (own_at po p1)), (.int (own_at el (own_at bm (own_at bo p1)))), (.ref e2)])) (fun t k => ?_) ?_
      · show Steps p.tables e below (T181.setTop (mkF m 93 #[rv a0, iv p1, iv (own_at bo p1), iv (own_at bm (own_at bo p1)), iv (own_at po p1), iv (own_at el (own_at bm (own_at bo p1)))] [(.ref e2)])) _
        refine XS.iload X181.here hx rfl (hb hby d5_93) rfl ?_
        show Steps p.tables e below (T181.setTop (mkF m 95 #[rv a0, iv p1, iv (own_at bo p1), iv (own_at bm (own_at bo p1)), iv (own_at po p1), iv (own_at el (own_at bm (own_at bo p1)))] [(.int (own_at el (own_at bm (own_at bo p1)))), (.ref e2)])) _
        refine XS.iload X181.here hx rfl (hb hby d5_95) rfl ?_
        exact k
      have F184 := (Vw171.other W177 (Ne.symm nq_e1_e2))
      have hbn185 : own_In (own_at el (own_at bm (own_at bo p1))) (po.set p1.toNatClampNeg (own_at bm (own_at bo p1))).length := (by first | exact hb7 hs25_1 | (simp only [List.length_set]; exact hb7 hs25_1))
      obtain ⟨T183, h183, X183, e183, W183, V183, st183⟩ := own_iastore X181 hx hZ e181 F184 (j := (own_at el (own_at bm (own_at bo p1)))) (x := (own_at po p1)) hbn185 (g := (mkF m 97 #[rv a0, iv p1, iv (own_at bo p1), iv (own_at bm (own_at bo p1)), iv (own_at po p1), iv (own_at el (own_at bm (own_at bo p1)))] [(.int (own_at po p1)), (.int (own_at el (own_at bm (own_at bo p1)))), (.ref e2)])) rfl rfl (hb hby d5_97)
      have Kp183 : Keep h0 h183 [a0, e1, e2, e6, e7] := Kp177.wr W183 (Or.inl (List.mem_of_getElem? (i := 2) rfl))
      have Z186 : n0 ≤ h183.size := Nat.le_trans Z180 (Nat.le_of_eq W183.size.symm)
      have N183 := Fr.snoc X183 N177 gq_e2
      have Vw183 : own_Ints Z h183 e2 ((po.set p1.toNatClampNeg (own_at bm (own_at bo p1))).set (own_at el (own_at bm (own_at bo p1))).toNatClampNeg (own_at po p1)) := V183
      refine own_pre st183 ?_
      refine own_pre (A := T183.setTop (mkF m 99 #[rv a0, iv p1, iv (own_at bo p1), iv (own_at bm (own_at bo p1)), iv (own_at po p1), iv (own_at el (own_at bm (own_at bo p1)))] [(.ref a0)])) (fun t k => ?_) ?_
      · show Steps p.tables e below (T183.setTop (mkF m 98 #[rv a0, iv p1, iv (own_at bo p1), iv (own_at bm (own_at bo p1)), iv (own_at po p1), iv (own_at el (own_at bm (own_at bo p1)))] [])) _
        refine XS.aloadN X183.here hx rfl (hb hby d5_98) rfl rfl ?_
        exact k
      have F188 := ((((((P6.other W153 (Or.inl nq_a0_e7)).other W158 (Or.inr (slot_ne (Or.inr (own_h hw 21 rfl)) (Or.inl (own_h hw 39 rfl)) (by decide) (t := (.array .int)) (t' := .int) (by decide) (by decide)))).other W166 (Or.inl nq_a0_e1)).other W171 (Or.inl nq_a0_e2)).other W177 (Or.inl nq_a0_e1)).other W183 (Or.inl nq_a0_e2))
      obtain ⟨T187, X187, e187, st187⟩ := getF X183 hx hZ hown (host := "") (Or.inl (own_h hw 20 rfl)) Via.refl e183 F188 (g := (mkF m 99 #[rv a0, iv p1, iv (own_at bo p1), iv (own_at bm (own_at bo p1)), iv (own_at po p1), iv (own_at el (own_at bm (own_at bo p1)))] [(.ref a0)])) rfl rfl (hb hby d5_99)
      refine own_pre st187 ?_
      refine own_pre (A := T187.setTop (mkF m 106 #[rv a0, iv p1, iv (own_at bo p1), iv (own_at bm (own_at bo p1)), iv (own_at po p1), iv (own_at el (own_at bm (own_at bo p1)))] [(.int ((own_at bm (own_at bo p1)) + (1:Int32))), (.int (own_at bo p1)), (.ref e6)])) (fun t k => ?_) ?_
      · show Steps p.tables e below (T187.setTop (mkF m 102 #[rv a0, iv p1, iv (own_at bo p1), iv (own_at bm (own_at bo p1)), iv (own_at po p1), iv (own_at el (own_at bm (own_at bo p1)))] [(.ref e6)])) _
        refine XS.iloadN X187.here hx rfl (hb hby d5_102) rfl ?_
        show Steps p.tables e below (T187.setTop (mkF m 103 #[rv a0, iv p1, iv (own_at bo p1), iv (own_at bm (own_at bo p1)), iv (own_at po p1), iv (own_at el (own_at bm (own_at bo p1)))] [(.int (own_at bo p1)), (.ref e6)])) _
        refine XS.iloadN X187.here hx rfl (hb hby d5_103) rfl ?_
        show Steps p.tables e below (T187.setTop (mkF m 104 #[rv a0, iv p1, iv (own_at bo p1), iv (own_at bm (own_at bo p1)), iv (own_at po p1), iv (own_at el (own_at bm (own_at bo p1)))] [(.int (own_at bm (own_at bo p1))), (.int (own_at bo p1)), (.ref e6)])) _
        refine XS.iconst X187.here hx rfl (hb hby d5_104) ?_
        show Steps p.tables e below (T187.setTop (mkF m 105 #[rv a0, iv p1, iv (own_at bo p1), iv (own_at bm (own_at bo p1)), iv (own_at po p1), iv (own_at el (own_at bm (own_at bo p1)))] [(.int (1:Int32)), (.int (own_at bm (own_at bo p1))), (.int (own_at bo p1)), (.ref e6)])) _
        refine XS.iadd X187.here hx rfl (hb hby d5_105) rfl ?_
        exact k
      have F190 := ((((((P14.other W153 nq_e6_e7).other W158 (Ne.symm nq_a0_e6)).other W166 (Ne.symm nq_e1_e6)).other W171 (Ne.symm nq_e2_e6)).other W177 (Ne.symm nq_e1_e6)).other W183 (Ne.symm nq_e2_e6))
      have hbn191 : own_In (own_at bo p1) bm.length := hb2
      obtain ⟨T189, h189, X189, e189, W189, V189, st189⟩ := own_iastore X187 hx hZ e187 F190 (j := (own_at bo p1)) (x := ((own_at bm (own_at bo p1)) + (1:Int32))) hbn191 (g := (mkF m 106 #[rv a0, iv p1, iv (own_at bo p1), iv (own_at bm (own_at bo p1)), iv (own_at po p1), iv (own_at el (own_at bm (own_at bo p1)))] [(.int ((own_at bm (own_at bo p1)) + (1:Int32))), (.int (own_at bo p1)), (.ref e6)])) rfl rfl (hb hby d5_106)
      have Kp189 : Keep h0 h189 [a0, e1, e2, e6, e7] := Kp183.wr W189 (Or.inl (List.mem_of_getElem? (i := 3) rfl))
      have Z192 : n0 ≤ h189.size := Nat.le_trans Z186 (Nat.le_of_eq W189.size.symm)
      have N189 := Fr.snoc X189 N183 gq_e6
      have Vw189 : own_Ints Z h189 e6 (bm.set (own_at bo p1).toNatClampNeg ((own_at bm (own_at bo p1)) + (1:Int32))) := V189
      refine own_pre st189 ?_
      have F193 := (((F176.other W177 (Or.inl nq_a0_e1)).other W183 (Or.inl nq_a0_e2)).other W189 (Or.inl nq_a0_e6))
      have F194 := ((F182.other W183 (Or.inl nq_a0_e2)).other W189 (Or.inl nq_a0_e6))
      have F195 := (((((((P3.other W153 (Or.inl nq_a0_e7)).other W158 (Or.inr (slot_ne (Or.inr (own_h hw 15 rfl)) (Or.inl (own_h hw 39 rfl)) (by decide) (t := (.array .int)) (t' := .int) (by decide) (by decide)))).other W166 (Or.inl nq_a0_e1)).other W171 (Or.inl nq_a0_e2)).other W177 (Or.inl nq_a0_e1)).other W183 (Or.inl nq_a0_e2)).other W189 (Or.inl nq_a0_e6))
      have F196 := (((((((P4.other W153 (Or.inl nq_a0_e7)).other W158 (Or.inr (slot_ne (Or.inr (own_h hw 17 rfl)) (Or.inl (own_h hw 39 rfl)) (by decide) (t := (.array .int)) (t' := .int) (by decide) (by decide)))).other W166 (Or.inl nq_a0_e1)).other W171 (Or.inl nq_a0_e2)).other W177 (Or.inl nq_a0_e1)).other W183 (Or.inl nq_a0_e2)).other W189 (Or.inl nq_a0_e6))
      have F197 := (((((((P5.other W153 (Or.inl nq_a0_e7)).other W158 (Or.inr (slot_ne (Or.inr (own_h hw 19 rfl)) (Or.inl (own_h hw 39 rfl)) (by decide) (t := (.array .int)) (t' := .int) (by decide) (by decide)))).other W166 (Or.inl nq_a0_e1)).other W171 (Or.inl nq_a0_e2)).other W177 (Or.inl nq_a0_e1)).other W183 (Or.inl nq_a0_e2)).other W189 (Or.inl nq_a0_e6))
      have F198 := (F188.other W189 (Or.inl nq_a0_e6))
      have F199 := (((((((P7.other W153 (Or.inl nq_a0_e7)).other W158 (Or.inr (slot_ne (Or.inr (own_h hw 23 rfl)) (Or.inl (own_h hw 39 rfl)) (by decide) (t := (.array .int)) (t' := .int) (by decide) (by decide)))).other W166 (Or.inl nq_a0_e1)).other W171 (Or.inl nq_a0_e2)).other W177 (Or.inl nq_a0_e1)).other W183 (Or.inl nq_a0_e2)).other W189 (Or.inl nq_a0_e6))
      have F200 := (((((((P8.other W153 (Or.inl nq_a0_e7)).other W158 (Or.inr (slot_ne (Or.inl (own_h hw 25 rfl)) (Or.inl (own_h hw 39 rfl)) (by decide) (t := .int) (t' := .int) (by decide) (by decide)))).other W166 (Or.inl nq_a0_e1)).other W171 (Or.inl nq_a0_e2)).other W177 (Or.inl nq_a0_e1)).other W183 (Or.inl nq_a0_e2)).other W189 (Or.inl nq_a0_e6))
      have F201 := (((((Fw158.other W166 (Or.inl nq_a0_e1)).other W171 (Or.inl nq_a0_e2)).other W177 (Or.inl nq_a0_e1)).other W183 (Or.inl nq_a0_e2)).other W189 (Or.inl nq_a0_e6))
      have F202 := ((Vw177.other W183 nq_e1_e2).other W189 nq_e1_e6)
      have F203 := (Vw183.other W189 nq_e2_e6)
      have F204 := ((((((Vw153.other W158 (Ne.symm nq_a0_e7)).other W166 (Ne.symm nq_e1_e7)).other W171 (Ne.symm nq_e2_e7)).other W177 (Ne.symm nq_e1_e7)).other W183 (Ne.symm nq_e2_e7)).other W189 (Ne.symm nq_e6_e7))
      exact own_end X189 (BodyLoose.notSynchronized Bd) (fun _ => rfl) (v := none) (fun fs hr => X189.returnOut hx Bd.returns (hb hby d5_107) hr) (by show Q5 Z a0 p1 e1 e2 e3 e4 e5 e6 e7 el po bo bs bm tb bc tc h0 n0 _ T189.heap _; rw [e189]; exact ⟨rfl, N189, Kp189, (by first | exact F193 | (simp only [if_neg hs25_1, if_pos hs35_2]; exact F193)), (by first | exact F194 | (simp only [if_neg hs25_1, if_pos hs35_2]; exact F194)), (by first | exact F195 | (simp only [if_neg hs25_1, if_pos hs35_2]; exact F195)), (by first | exact F196 | (simp only [if_neg hs25_1, if_pos hs35_2]; exact F196)), (by first | exact F197 | (simp only [if_neg hs25_1, if_pos hs35_2]; exact F197)), (by first | exact F198 | (simp only [if_neg hs25_1, if_pos hs35_2]; exact F198)), (by first | exact F199 | (simp only [if_neg hs25_1, if_pos hs35_2]; exact F199)), (by first | exact F200 | (simp only [if_neg hs25_1, if_pos hs35_2]; exact F200)), (by simp only [g5_tc, if_neg hs25_1, if_pos hs35_2]; exact F201), (by simp only [g5_el, if_neg hs25_1, if_pos hs35_2]; exact F202), (by simp only [g5_po, if_neg hs25_1, if_pos hs35_2]; exact F203), (by simp only [g5_bm, if_neg hs25_1, if_pos hs35_2]; exact Vw189), (by simp only [g5_tb, if_neg hs25_1, if_pos hs35_2]; exact F204)⟩) (by decide) (by decide)
    · refine own_pre (A := T149.setTop (mkF m 59 #[rv a0, iv p1, iv (own_at bo p1), iv (own_at bm (own_at bo p1)), iv (own_at po p1), .unset] [(.ref a0)])) (fun t k => ?_) ?_
      · show Steps p.tables e below (T149.setTop (mkF m 35 #[rv a0, iv p1, iv (own_at bo p1), iv (own_at bm (own_at bo p1)), iv (own_at po p1), .unset] [(.int (own_at bs (own_at bo p1))), (.int (own_at bm (own_at bo p1)))])) _
        refine XS.icmpYes X149.here hx rfl (pc0 := 35) (pc' := 58) rfl (hb hby d5_35) rfl (XT.ii_ne_t hs35_2) (by decide) (by decide) ?_
        show Steps p.tables e below (T149.setTop (mkF m 58 #[rv a0, iv p1, iv (own_at bo p1), iv (own_at bm (own_at bo p1)), iv (own_at po p1), .unset] [])) _
        refine XS.aloadN X149.here hx rfl (hb hby d5_58) rfl rfl ?_
        exact k
      obtain ⟨T205, X205, e205, st205⟩ := getF X149 hx hZ hown (host := "") (Or.inl (own_h hw 10 rfl)) Via.refl e149 P1 (g := (mkF m 59 #[rv a0, iv p1, iv (own_at bo p1), iv (own_at bm (own_at bo p1)), iv (own_at po p1), .unset] [(.ref a0)])) rfl rfl (hb hby d5_59)
      refine own_pre st205 ?_
      have hbn206 : own_In (own_at bm (own_at bo p1)) el.length := hb5 hs25_1
      refine own_pre (A := T205.setTop (mkF m 67 #[rv a0, iv p1, iv (own_at bo p1), iv (own_at bm (own_at bo p1)), iv (own_at po p1), iv (own_at el (own_at bm (own_at bo p1)))] [(.ref a0)])) (fun t k => ?_) ?_
      · show Steps p.tables e below (T205.setTop (mkF m 62 #[rv a0, iv p1, iv (own_at bo p1), iv (own_at bm (own_at bo p1)), iv (own_at po p1), .unset] [(.ref e1)])) _
        refine XS.iloadN X205.here hx rfl (hb hby d5_62) rfl ?_
        show Steps p.tables e below (T205.setTop (mkF m 63 #[rv a0, iv p1, iv (own_at bo p1), iv (own_at bm (own_at bo p1)), iv (own_at po p1), .unset] [(.int (own_at bm (own_at bo p1))), (.ref e1)])) _
        refine own_iaload X205 hx hZ e205 P10 hbn206 (g := (mkF m 63 #[rv a0, iv p1, iv (own_at bo p1), iv (own_at bm (own_at bo p1)), iv (own_at po p1), .unset] [(.int (own_at bm (own_at bo p1))), (.ref e1)])) rfl rfl (hb hby d5_63) ?_
        show Steps p.tables e below (T205.setTop (mkF m 64 #[rv a0, iv p1, iv (own_at bo p1), iv (own_at bm (own_at bo p1)), iv (own_at po p1), .unset] [(.int (own_at el (own_at bm (own_at bo p1))))])) _
        refine XS.istore X205.here hx rfl (hb hby d5_64) rfl (l' := #[rv a0, iv p1, iv (own_at bo p1), iv (own_at bm (own_at bo p1)), iv (own_at po p1), iv (own_at el (own_at bm (own_at bo p1)))]) rfl ?_
        show Steps p.tables e below (T205.setTop (mkF m 66 #[rv a0, iv p1, iv (own_at bo p1), iv (own_at bm (own_at bo p1)), iv (own_at po p1), iv (own_at el (own_at bm (own_at bo p1)))] [])) _
        refine XS.aloadN X205.here hx rfl (hb hby d5_66) rfl rfl ?_
        exact k
      obtain ⟨T207, X207, e207, st207⟩ := getF X205 hx hZ hown (host := "") (Or.inl (own_h hw 10 rfl)) Via.refl e205 P1 (g := (mkF m 67 #[rv a0, iv p1, iv (own_at bo p1), iv (own_at bm (own_at bo p1)), iv (own_at po p1), iv (own_at el (own_at bm (own_at bo p1)))] [(.ref a0)])) rfl rfl (hb hby d5_67)
      refine own_pre st207 ?_
      refine own_pre (A := T207.setTop (mkF m 72 #[rv a0, iv p1, iv (own_at bo p1), iv (own_at bm (own_at bo p1)), iv (own_at po p1), iv (own_at el (own_at bm (own_at bo p1)))] [(.int p1), (.int (own_at bm (own_at bo p1))), (.ref e1)])) (fun t k => ?_) ?_
      · show Steps p.tables e below (T207.setTop (mkF m 70 #[rv a0, iv p1, iv (own_at bo p1), iv (own_at bm (own_at bo p1)), iv (own_at po p1), iv (own_at el (own_at bm (own_at bo p1)))] [(.ref e1)])) _
        refine XS.iloadN X207.here hx rfl (hb hby d5_70) rfl ?_
        show Steps p.tables e below (T207.setTop (mkF m 71 #[rv a0, iv p1, iv (own_at bo p1), iv (own_at bm (own_at bo p1)), iv (own_at po p1), iv (own_at el (own_at bm (own_at bo p1)))] [(.int (own_at bm (own_at bo p1))), (.ref e1)])) _
        refine XS.iloadN X207.here hx rfl (hb hby d5_71) rfl ?_
        exact k
      have hbn209 : own_In (own_at bm (own_at bo p1)) el.length := hb5 hs25_1
      obtain ⟨T208, h208, X208, e208, W208, V208, st208⟩ := own_iastore X207 hx hZ e207 P10 (j := (own_at bm (own_at bo p1))) (x := p1) hbn209 (g := (mkF m 72 #[rv a0, iv p1, iv (own_at bo p1), iv (own_at bm (own_at bo p1)), iv (own_at po p1), iv (own_at el (own_at bm (own_at bo p1)))] [(.int p1), (.int (own_at bm (own_at bo p1))), (.ref e1)])) rfl rfl (hb hby d5_72)
      have Kp208 : Keep h0 h208 [a0, e1, e2, e6, e7] := Kp0.wr W208 (Or.inl (List.mem_of_getElem? (i := 1) rfl))
      have Z210 : n0 ≤ h208.size := Nat.le_trans Z0 (Nat.le_of_eq W208.size.symm)
      have N208 := Fr.snoc X208 N0 gq_e1
      have Vw208 : own_Ints Z h208 e1 (el.set (own_at bm (own_at bo p1)).toNatClampNeg p1) := V208
      refine own_pre st208 ?_
      refine own_pre (A := T208.setTop (mkF m 74 #[rv a0, iv p1, iv (own_at bo p1), iv (own_at bm (own_at bo p1)), iv (own_at po p1), iv (own_at el (own_at bm (own_at bo p1)))] [(.ref a0)])) (fun t k => ?_) ?_
      · show Steps p.tables e below (T208.setTop (mkF m 73 #[rv a0, iv p1, iv (own_at bo p1), iv (own_at bm (own_at bo p1)), iv (own_at po p1), iv (own_at el (own_at bm (own_at bo p1)))] [])) _
        refine XS.aloadN X208.here hx rfl (hb hby d5_73) rfl rfl ?_
        exact k
      have F212 := (P2.other W208 (Or.inl nq_a0_e1))
      obtain ⟨T211, X211, e211, st211⟩ := getF X208 hx hZ hown (host := "") (Or.inl (own_h hw 12 rfl)) Via.refl e208 F212 (g := (mkF m 74 #[rv a0, iv p1, iv (own_at bo p1), iv (own_at bm (own_at bo p1)), iv (own_at po p1), iv (own_at el (own_at bm (own_at bo p1)))] [(.ref a0)])) rfl rfl (hb hby d5_74)
      refine own_pre st211 ?_
      refine own_pre (A := T211.setTop (mkF m 79 #[rv a0, iv p1, iv (own_at bo p1), iv (own_at bm (own_at bo p1)), iv (own_at po p1), iv (own_at el (own_at bm (own_at bo p1)))] [(.int (own_at bm (own_at bo p1))), (.int p1), (.ref e2)])) (fun t k => ?_) ?_
      · show Steps p.tables e below (T211.setTop (mkF m 77 #[rv a0, iv p1, iv (own_at bo p1), iv (own_at bm (own_at bo p1)), iv (own_at po p1), iv (own_at el (own_at bm (own_at bo p1)))] [(.ref e2)])) _
        refine XS.iloadN X211.here hx rfl (hb hby d5_77) rfl ?_
        show Steps p.tables e below (T211.setTop (mkF m 78 #[rv a0, iv p1, iv (own_at bo p1), iv (own_at bm (own_at bo p1)), iv (own_at po p1), iv (own_at el (own_at bm (own_at bo p1)))] [(.int p1), (.ref e2)])) _
        refine XS.iloadN X211.here hx rfl (hb hby d5_78) rfl ?_
        exact k
      have F214 := (P11.other W208 (Ne.symm nq_e1_e2))
      have hbn215 : own_In p1 po.length := hb3
      obtain ⟨T213, h213, X213, e213, W213, V213, st213⟩ := own_iastore X211 hx hZ e211 F214 (j := p1) (x := (own_at bm (own_at bo p1))) hbn215 (g := (mkF m 79 #[rv a0, iv p1, iv (own_at bo p1), iv (own_at bm (own_at bo p1)), iv (own_at po p1), iv (own_at el (own_at bm (own_at bo p1)))] [(.int (own_at bm (own_at bo p1))), (.int p1), (.ref e2)])) rfl rfl (hb hby d5_79)
      have Kp213 : Keep h0 h213 [a0, e1, e2, e6, e7] := Kp208.wr W213 (Or.inl (List.mem_of_getElem? (i := 2) rfl))
      have Z216 : n0 ≤ h213.size := Nat.le_trans Z210 (Nat.le_of_eq W213.size.symm)
      have N213 := Fr.snoc X213 N208 gq_e2
      have Vw213 : own_Ints Z h213 e2 (po.set p1.toNatClampNeg (own_at bm (own_at bo p1))) := V213
      refine own_pre st213 ?_
      refine own_pre (A := T213.setTop (mkF m 81 #[rv a0, iv p1, iv (own_at bo p1), iv (own_at bm (own_at bo p1)), iv (own_at po p1), iv (own_at el (own_at bm (own_at bo p1)))] [(.ref a0)])) (fun t k => ?_) ?_
      · show Steps p.tables e below (T213.setTop (mkF m 80 #[rv a0, iv p1, iv (own_at bo p1), iv (own_at bm (own_at bo p1)), iv (own_at po p1), iv (own_at el (own_at bm (own_at bo p1)))] [])) _
        refine XS.aloadN X213.here hx rfl (hb hby d5_80) rfl rfl ?_
        exact k
      have F218 := ((P1.other W208 (Or.inl nq_a0_e1)).other W213 (Or.inl nq_a0_e2))
      obtain ⟨T217, X217, e217, st217⟩ := getF X213 hx hZ hown (host := "") (Or.inl (own_h hw 10 rfl)) Via.refl e213 F218 (g := (mkF m 81 #[rv a0, iv p1, iv (own_at bo p1), iv (own_at bm (own_at bo p1)), iv (own_at po p1), iv (own_at el (own_at bm (own_at bo p1)))] [(.ref a0)])) rfl rfl (hb hby d5_81)
      refine own_pre st217 ?_
      refine own_pre (A := T217.setTop (mkF m 88 #[rv a0, iv p1, iv (own_at bo p1), iv (own_at bm (own_at bo p1)), iv (own_at po p1), iv (own_at el (own_at bm (own_at bo p1)))] [(.int (own_at el (own_at bm (own_at bo p1)))), (.int (own_at po p1)), (.ref e1)])) (fun t k => ?_) ?_
      · show Steps p.tables e below (T217.setTop (mkF m 84 #[rv a0, iv p1, iv (own_at bo p1), iv (own_at bm (own_at bo p1)), iv (own_at po p1), iv (own_at el (own_at bm (own_at bo p1)))] [(.ref e1)])) _
        refine XS.iload X217.here hx rfl (hb hby d5_84) rfl ?_
        show Steps p.tables e below (T217.setTop (mkF m 86 #[rv a0, iv p1, iv (own_at bo p1), iv (own_at bm (own_at bo p1)), iv (own_at po p1), iv (own_at el (own_at bm (own_at bo p1)))] [(.int (own_at po p1)), (.ref e1)])) _
        refine XS.iload X217.here hx rfl (hb hby d5_86) rfl ?_
        exact k
      have F220 := (Vw208.other W213 nq_e1_e2)
      have hbn221 : own_In (own_at po p1) (el.set (own_at bm (own_at bo p1)).toNatClampNeg p1).length := (by first | exact hb6 hs25_1 | (simp only [List.length_set]; exact hb6 hs25_1))
      obtain ⟨T219, h219, X219, e219, W219, V219, st219⟩ := own_iastore X217 hx hZ e217 F220 (j := (own_at po p1)) (x := (own_at el (own_at bm (own_at bo p1)))) hbn221 (g := (mkF m 88 #[rv a0, iv p1, iv (own_at bo p1), iv (own_at bm (own_at bo p1)), iv (own_at po p1), iv (own_at el (own_at bm (own_at bo p1)))] [(.int (own_at el (own_at bm (own_at bo p1)))), (.int (own_at po p1)), (.ref e1)])) rfl rfl (hb hby d5_88)
      have Kp219 : Keep h0 h219 [a0, e1, e2, e6, e7] := Kp213.wr W219 (Or.inl (List.mem_of_getElem? (i := 1) rfl))
      have Z222 : n0 ≤ h219.size := Nat.le_trans Z216 (Nat.le_of_eq W219.size.symm)
      have N219 := Fr.snoc X219 N213 gq_e1
      have Vw219 : own_Ints Z h219 e1 ((el.set (own_at bm (own_at bo p1)).toNatClampNeg p1).set (own_at po p1).toNatClampNeg (own_at el (own_at bm (own_at bo p1)))) := V219
      refine own_pre st219 ?_
      refine own_pre (A := T219.setTop (mkF m 90 #[rv a0, iv p1, iv (own_at bo p1), iv (own_at bm (own_at bo p1)), iv (own_at po p1), iv (own_at el (own_at bm (own_at bo p1)))] [(.ref a0)])) (fun t k => ?_) ?_
      · show Steps p.tables e below (T219.setTop (mkF m 89 #[rv a0, iv p1, iv (own_at bo p1), iv (own_at bm (own_at bo p1)), iv (own_at po p1), iv (own_at el (own_at bm (own_at bo p1)))] [])) _
        refine XS.aloadN X219.here hx rfl (hb hby d5_89) rfl rfl ?_
        exact k
      have F224 := ((F212.other W213 (Or.inl nq_a0_e2)).other W219 (Or.inl nq_a0_e1))
      obtain ⟨T223, X223, e223, st223⟩ := getF X219 hx hZ hown (host := "") (Or.inl (own_h hw 12 rfl)) Via.refl e219 F224 (g := (mkF m 90 #[rv a0, iv p1, iv (own_at bo p1), iv (own_at bm (own_at bo p1)), iv (own_at po p1), iv (own_at el (own_at bm (own_at bo p1)))] [(.ref a0)])) rfl rfl (hb hby d5_90)
      refine own_pre st223 ?_
      refine own_pre (A := T223.setTop (mkF m 97 #[rv a0, iv p1, iv (own_at bo p1), iv (own_at bm (own_at bo p1)), iv (own_at po p1), iv (own_at el (own_at bm (own_at bo p1)))] [(.int (own_at po p1)), (.int (own_at el (own_at bm (own_at bo p1)))), (.ref e2)])) (fun t k => ?_) ?_
      · show Steps p.tables e below (T223.setTop (mkF m 93 #[rv a0, iv p1, iv (own_at bo p1), iv (own_at bm (own_at bo p1)), iv (own_at po p1), iv (own_at el (own_at bm (own_at bo p1)))] [(.ref e2)])) _
        refine XS.iload X223.here hx rfl (hb hby d5_93) rfl ?_
        show Steps p.tables e below (T223.setTop (mkF m 95 #[rv a0, iv p1, iv (own_at bo p1), iv (own_at bm (own_at bo p1)), iv (own_at po p1), iv (own_at el (own_at bm (own_at bo p1)))] [(.int (own_at el (own_at bm (own_at bo p1)))), (.ref e2)])) _
        refine XS.iload X223.here hx rfl (hb hby d5_95) rfl ?_
        exact k
      have F226 := (Vw213.other W219 (Ne.symm nq_e1_e2))
      have hbn227 : own_In (own_at el (own_at bm (own_at bo p1))) (po.set p1.toNatClampNeg (own_at bm (own_at bo p1))).length := (by first | exact hb7 hs25_1 | (simp only [List.length_set]; exact hb7 hs25_1))
      obtain ⟨T225, h225, X225, e225, W225, V225, st225⟩ := own_iastore X223 hx hZ e223 F226 (j := (own_at el (own_at bm (own_at bo p1)))) (x := (own_at po p1)) hbn227 (g := (mkF m 97 #[rv a0, iv p1, iv (own_at bo p1), iv (own_at bm (own_at bo p1)), iv (own_at po p1), iv (own_at el (own_at bm (own_at bo p1)))] [(.int (own_at po p1)), (.int (own_at el (own_at bm (own_at bo p1)))), (.ref e2)])) rfl rfl (hb hby d5_97)
      have Kp225 : Keep h0 h225 [a0, e1, e2, e6, e7] := Kp219.wr W225 (Or.inl (List.mem_of_getElem? (i := 2) rfl))
      have Z228 : n0 ≤ h225.size := Nat.le_trans Z222 (Nat.le_of_eq W225.size.symm)
      have N225 := Fr.snoc X225 N219 gq_e2
      have Vw225 : own_Ints Z h225 e2 ((po.set p1.toNatClampNeg (own_at bm (own_at bo p1))).set (own_at el (own_at bm (own_at bo p1))).toNatClampNeg (own_at po p1)) := V225
      refine own_pre st225 ?_
      refine own_pre (A := T225.setTop (mkF m 99 #[rv a0, iv p1, iv (own_at bo p1), iv (own_at bm (own_at bo p1)), iv (own_at po p1), iv (own_at el (own_at bm (own_at bo p1)))] [(.ref a0)])) (fun t k => ?_) ?_
      · show Steps p.tables e below (T225.setTop (mkF m 98 #[rv a0, iv p1, iv (own_at bo p1), iv (own_at bm (own_at bo p1)), iv (own_at po p1), iv (own_at el (own_at bm (own_at bo p1)))] [])) _
        refine XS.aloadN X225.here hx rfl (hb hby d5_98) rfl rfl ?_
        exact k
      have F230 := ((((P6.other W208 (Or.inl nq_a0_e1)).other W213 (Or.inl nq_a0_e2)).other W219 (Or.inl nq_a0_e1)).other W225 (Or.inl nq_a0_e2))
      obtain ⟨T229, X229, e229, st229⟩ := getF X225 hx hZ hown (host := "") (Or.inl (own_h hw 20 rfl)) Via.refl e225 F230 (g := (mkF m 99 #[rv a0, iv p1, iv (own_at bo p1), iv (own_at bm (own_at bo p1)), iv (own_at po p1), iv (own_at el (own_at bm (own_at bo p1)))] [(.ref a0)])) rfl rfl (hb hby d5_99)
      refine own_pre st229 ?_
      refine own_pre (A := T229.setTop (mkF m 106 #[rv a0, iv p1, iv (own_at bo p1), iv (own_at bm (own_at bo p1)), iv (own_at po p1), iv (own_at el (own_at bm (own_at bo p1)))] [(.int ((own_at bm (own_at bo p1)) + (1:Int32))), (.int (own_at bo p1)), (.ref e6)])) (fun t k => ?_) ?_
      · show Steps p.tables e below (T229.setTop (mkF m 102 #[rv a0, iv p1, iv (own_at bo p1), iv (own_at bm (own_at bo p1)), iv (own_at po p1), iv (own_at el (own_at bm (own_at bo p1)))] [(.ref e6)])) _
        refine XS.iloadN X229.here hx rfl (hb hby d5_102) rfl ?_
        show Steps p.tables e below (T229.setTop (mkF m 103 #[rv a0, iv p1, iv (own_at bo p1), iv (own_at bm (own_at bo p1)), iv (own_at po p1), iv (own_at el (own_at bm (own_at bo p1)))] [(.int (own_at bo p1)), (.ref e6)])) _
        refine XS.iloadN X229.here hx rfl (hb hby d5_103) rfl ?_
        show Steps p.tables e below (T229.setTop (mkF m 104 #[rv a0, iv p1, iv (own_at bo p1), iv (own_at bm (own_at bo p1)), iv (own_at po p1), iv (own_at el (own_at bm (own_at bo p1)))] [(.int (own_at bm (own_at bo p1))), (.int (own_at bo p1)), (.ref e6)])) _
        refine XS.iconst X229.here hx rfl (hb hby d5_104) ?_
        show Steps p.tables e below (T229.setTop (mkF m 105 #[rv a0, iv p1, iv (own_at bo p1), iv (own_at bm (own_at bo p1)), iv (own_at po p1), iv (own_at el (own_at bm (own_at bo p1)))] [(.int (1:Int32)), (.int (own_at bm (own_at bo p1))), (.int (own_at bo p1)), (.ref e6)])) _
        refine XS.iadd X229.here hx rfl (hb hby d5_105) rfl ?_
        exact k
      have F232 := ((((P14.other W208 (Ne.symm nq_e1_e6)).other W213 (Ne.symm nq_e2_e6)).other W219 (Ne.symm nq_e1_e6)).other W225 (Ne.symm nq_e2_e6))
      have hbn233 : own_In (own_at bo p1) bm.length := hb2
      obtain ⟨T231, h231, X231, e231, W231, V231, st231⟩ := own_iastore X229 hx hZ e229 F232 (j := (own_at bo p1)) (x := ((own_at bm (own_at bo p1)) + (1:Int32))) hbn233 (g := (mkF m 106 #[rv a0, iv p1, iv (own_at bo p1), iv (own_at bm (own_at bo p1)), iv (own_at po p1), iv (own_at el (own_at bm (own_at bo p1)))] [(.int ((own_at bm (own_at bo p1)) + (1:Int32))), (.int (own_at bo p1)), (.ref e6)])) rfl rfl (hb hby d5_106)
      have Kp231 : Keep h0 h231 [a0, e1, e2, e6, e7] := Kp225.wr W231 (Or.inl (List.mem_of_getElem? (i := 3) rfl))
      have Z234 : n0 ≤ h231.size := Nat.le_trans Z228 (Nat.le_of_eq W231.size.symm)
      have N231 := Fr.snoc X231 N225 gq_e6
      have Vw231 : own_Ints Z h231 e6 (bm.set (own_at bo p1).toNatClampNeg ((own_at bm (own_at bo p1)) + (1:Int32))) := V231
      refine own_pre st231 ?_
      have F235 := (((F218.other W219 (Or.inl nq_a0_e1)).other W225 (Or.inl nq_a0_e2)).other W231 (Or.inl nq_a0_e6))
      have F236 := ((F224.other W225 (Or.inl nq_a0_e2)).other W231 (Or.inl nq_a0_e6))
      have F237 := (((((P3.other W208 (Or.inl nq_a0_e1)).other W213 (Or.inl nq_a0_e2)).other W219 (Or.inl nq_a0_e1)).other W225 (Or.inl nq_a0_e2)).other W231 (Or.inl nq_a0_e6))
      have F238 := (((((P4.other W208 (Or.inl nq_a0_e1)).other W213 (Or.inl nq_a0_e2)).other W219 (Or.inl nq_a0_e1)).other W225 (Or.inl nq_a0_e2)).other W231 (Or.inl nq_a0_e6))
      have F239 := (((((P5.other W208 (Or.inl nq_a0_e1)).other W213 (Or.inl nq_a0_e2)).other W219 (Or.inl nq_a0_e1)).other W225 (Or.inl nq_a0_e2)).other W231 (Or.inl nq_a0_e6))
      have F240 := (F230.other W231 (Or.inl nq_a0_e6))
      have F241 := (((((P7.other W208 (Or.inl nq_a0_e1)).other W213 (Or.inl nq_a0_e2)).other W219 (Or.inl nq_a0_e1)).other W225 (Or.inl nq_a0_e2)).other W231 (Or.inl nq_a0_e6))
      have F242 := (((((P8.other W208 (Or.inl nq_a0_e1)).other W213 (Or.inl nq_a0_e2)).other W219 (Or.inl nq_a0_e1)).other W225 (Or.inl nq_a0_e2)).other W231 (Or.inl nq_a0_e6))
      have F243 := (((((P9.other W208 (Or.inl nq_a0_e1)).other W213 (Or.inl nq_a0_e2)).other W219 (Or.inl nq_a0_e1)).other W225 (Or.inl nq_a0_e2)).other W231 (Or.inl nq_a0_e6))
      have F244 := ((Vw219.other W225 nq_e1_e2).other W231 nq_e1_e6)
      have F245 := (Vw225.other W231 nq_e2_e6)
      have F246 := (((((P15.other W208 (Ne.symm nq_e1_e7)).other W213 (Ne.symm nq_e2_e7)).other W219 (Ne.symm nq_e1_e7)).other W225 (Ne.symm nq_e2_e7)).other W231 (Ne.symm nq_e6_e7))
      exact own_end X231 (BodyLoose.notSynchronized Bd) (fun _ => rfl) (v := none) (fun fs hr => X231.returnOut hx Bd.returns (hb hby d5_107) hr) (by show Q5 Z a0 p1 e1 e2 e3 e4 e5 e6 e7 el po bo bs bm tb bc tc h0 n0 _ T231.heap _; rw [e231]; exact ⟨rfl, N231, Kp231, (by first | exact F235 | (simp only [if_neg hs25_1, if_neg hs35_2]; exact F235)), (by first | exact F236 | (simp only [if_neg hs25_1, if_neg hs35_2]; exact F236)), (by first | exact F237 | (simp only [if_neg hs25_1, if_neg hs35_2]; exact F237)), (by first | exact F238 | (simp only [if_neg hs25_1, if_neg hs35_2]; exact F238)), (by first | exact F239 | (simp only [if_neg hs25_1, if_neg hs35_2]; exact F239)), (by first | exact F240 | (simp only [if_neg hs25_1, if_neg hs35_2]; exact F240)), (by first | exact F241 | (simp only [if_neg hs25_1, if_neg hs35_2]; exact F241)), (by first | exact F242 | (simp only [if_neg hs25_1, if_neg hs35_2]; exact F242)), (by simp only [g5_tc, if_neg hs25_1, if_neg hs35_2]; exact F243), (by simp only [g5_el, if_neg hs25_1, if_neg hs35_2]; exact F244), (by simp only [g5_po, if_neg hs25_1, if_neg hs35_2]; exact F245), (by simp only [g5_bm, if_neg hs25_1, if_neg hs35_2]; exact Vw231), (by simp only [g5_tb, if_neg hs25_1, if_neg hs35_2]; exact F246)⟩) (by decide) (by decide)
theorem own_pn1 : plainName "com/example/spare_calculus/sparecalculus/bisim/PartitionSplitOffMarkedPinLaw" = true := by first | (simp [plainName, overriddenIn]; done) | decide +kernel
theorem d4_0 : decode method_2_code 0 = .ok (.iload_n 0, 1) := by decide +kernel
theorem d4_1 : decode method_2_code 1 = .ok (.iload_n 1, 1) := by decide +kernel
theorem d4_2 : decode method_2_code 2 = .ok (.iushr, 1) := by decide +kernel
theorem d4_3 : decode method_2_code 3 = .ok (.iconst 1, 1) := by decide +kernel
theorem d4_4 : decode method_2_code 4 = .ok (.iand, 1) := by decide +kernel
theorem d4_5 : decode method_2_code 5 = .ok (.ifCond .eq 7, 3) := by decide +kernel
theorem d4_8 : decode method_2_code 8 = .ok (.iconst 1, 1) := by decide +kernel
theorem d4_9 : decode method_2_code 9 = .ok (.goto 4, 3) := by decide +kernel
theorem d4_12 : decode method_2_code 12 = .ok (.iconst 0, 1) := by decide +kernel
theorem d4_13 : decode method_2_code 13 = .ok (.ireturn, 1) := by decide +kernel
theorem ef4 (m : MethodId) (p0 : Int32) (p1 : Int32) : entryFrame m #[(.int p0), (.int p1)] 2 = mkF m 0 #[iv p0, iv p1] [] := by first | (simp [entryFrame, mkF, argsToLocals, Value.category]; done) | rfl
def f4 (p0 : Int32) (p1 : Int32) : Int32 := (let w4_1 : Int32 := (if (((p0.toUInt32 >>> (p1 &&& 31).toUInt32).toInt32) &&& (1:Int32)) = (0:Int32) then (0:Int32) else (1:Int32)); (w4_1 &&& 1))
def Q4 (Z : State) (p0 : Int32) (p1 : Int32)  (h0 : Heap) (n0 : Nat) (v : Option Value) (h : Heap) (L : List Loc) : Prop := v = some (.int (f4 p0 p1)) ∧ Fr n0 L ∧ h = h0
set_option maxRecDepth 65536 in
set_option maxHeartbeats 40000000 in
theorem rm4 (l : Launch) (Z : State) (aZ : Array Value) (hw : ∀ d ∈ tables_1, d.before aZ Z = true) (ws : List Jvm.Cond) (p0 : Int32) (p1 : Int32)  (h0 : Heap) (n0 : Nat) (Z0 : n0 ≤ h0.size)  :
    MetFree l (⟨"com/example/spare_calculus/sparecalculus/bisim/PartitionSplitOffMarkedPinLaw", "bit", "(II)Z"⟩ : MethodName) (head1 (Jvm.Cond.code (⟨"com/example/spare_calculus/sparecalculus/bisim/PartitionSplitOffMarkedPinLaw", "bit", "(II)Z"⟩ : MethodName) method_2_code 2 (some .boolean) :: ws) ({ frames := 0, cells := 0, slots := 0, locals := 0 } : Room)) (fun a U => a = #[(.int p0), (.int p1)] ∧ Z.Warmed39 U.vm ∧ U.heap = h0) (fun _ _ _ _ _ => True) (fun _ U o U' => ∃ v L, o = .returned v ∧ Q4 Z p0 p1 h0 n0 v U'.heap L ∧ FrameEnd U o U' L ({ frames := 0, cells := 0, slots := 0, locals := 0 } : Room).cells ({ frames := 0, cells := 0, slots := 0, locals := 0 } : Room).slots) := by
  refine MetFree.of_bodySF (plainFor_of_name own_pn1) hisR ?_
  intro p e s m args below meth c s₁ Bd hml0 hP hK
  obtain ⟨rfl, hZ, hh⟩ := hP
  have hx := Bd.exec
  have hby := Bd.bytes
  have hml : c.maxLocals = 2 := hml0
  have hown : s.vm.findClass "com/example/spare_calculus/sparecalculus/bisim/PartitionSplitOffMarkedPinLaw" = some m.cls := findClass_of_methodNamed Bd.named
  have hnm := (name_of_methodNamed Bd.named Bd.method).1
  have X0 : Stand p l e ({ frames := 0, cells := 0, slots := 0, locals := 0 } : Room) s m #[(.int p0), (.int p1)] below meth c s₁ [] 0 0 := Stand.of_body Bd
  have e0 : s₁.heap = h0 := by rw [← hh, Bd.state]; rfl
  have N0 := Fr.nil n0
  show own_Goes p e below s (Q4 Z p0 p1 h0 n0) ({ frames := 0, cells := 0, slots := 0, locals := 0 } : Room).cells ({ frames := 0, cells := 0, slots := 0, locals := 0 } : Room).slots _
  refine own_pre (fun t k => castTop (ef4 m p0 p1) k) ?_
  refine own_pre (A := s₁.setTop (mkF m 5 #[iv p0, iv p1] [(.int (((p0.toUInt32 >>> (p1 &&& 31).toUInt32).toInt32) &&& (1:Int32)))])) (fun t k => ?_) ?_
  · show Steps p.tables e below (s₁.setTop (mkF m 0 #[iv p0, iv p1] [])) _
    refine XS.iloadN X0.here hx rfl (hb hby d4_0) rfl ?_
    show Steps p.tables e below (s₁.setTop (mkF m 1 #[iv p0, iv p1] [(.int p0)])) _
    refine XS.iloadN X0.here hx rfl (hb hby d4_1) rfl ?_
    show Steps p.tables e below (s₁.setTop (mkF m 2 #[iv p0, iv p1] [(.int p1), (.int p0)])) _
    refine XS.iushr X0.here hx rfl (hb hby d4_2) rfl ?_
    show Steps p.tables e below (s₁.setTop (mkF m 3 #[iv p0, iv p1] [(.int ((p0.toUInt32 >>> (p1 &&& 31).toUInt32).toInt32))])) _
    refine XS.iconst X0.here hx rfl (hb hby d4_3) ?_
    show Steps p.tables e below (s₁.setTop (mkF m 4 #[iv p0, iv p1] [(.int (1:Int32)), (.int ((p0.toUInt32 >>> (p1 &&& 31).toUInt32).toInt32))])) _
    refine XS.iand X0.here hx rfl (hb hby d4_4) rfl ?_
    exact k
  obtain ⟨w4_1, hw4_1⟩ : ∃ z : Int32, z = (if (((p0.toUInt32 >>> (p1 &&& 31).toUInt32).toInt32) &&& (1:Int32)) = (0:Int32) then (0:Int32) else (1:Int32)) := ⟨_, rfl⟩
  refine own_pre (A := s₁.setTop (mkF m 13 #[iv p0, iv p1] [(.int w4_1)])) (fun t k => ?_) ?_
  · show Steps p.tables e below (s₁.setTop (mkF m 5 #[iv p0, iv p1] [(.int (((p0.toUInt32 >>> (p1 &&& 31).toUInt32).toInt32) &&& (1:Int32)))])) _
    by_cases hm5_1 : (((p0.toUInt32 >>> (p1 &&& 31).toUInt32).toInt32) &&& (1:Int32)) = (0:Int32)
    · refine XS.ifYes X0.here hx rfl (pc0 := 5) (pc' := 12) rfl (hb hby d4_5) rfl (XT.i0_eq_t hm5_1) (by decide) (by decide) ?_
      show Steps p.tables e below (s₁.setTop (mkF m 12 #[iv p0, iv p1] [])) _
      refine XS.iconst X0.here hx rfl (hb hby d4_12) ?_
      rw [hw4_1.trans (if_pos hm5_1)] at k
      exact k
    · refine XS.ifNo X0.here hx rfl (hb hby d4_5) rfl (XT.i0_eq_f hm5_1) ?_
      show Steps p.tables e below (s₁.setTop (mkF m 8 #[iv p0, iv p1] [])) _
      refine XS.iconst X0.here hx rfl (hb hby d4_8) ?_
      show Steps p.tables e below (s₁.setTop (mkF m 9 #[iv p0, iv p1] [(.int (1:Int32))])) _
      refine XS.goto X0.here hx rfl (pc0 := 9) (pc' := 13) rfl (hb hby d4_9) (by decide) (by decide) ?_
      rw [hw4_1.trans (if_neg hm5_1)] at k
      exact k
  have hv247 : (w4_1 &&& 1) = f4 p0 p1 := by subst hw4_1; rfl
  exact own_end X0 (BodyLoose.notSynchronized Bd) (fun h => by rw [Bd.returns] at h; cases h) (v := some (.int (w4_1 &&& 1))) (fun fs hr => retN X0 hx (t := .boolean) Bd.returns (by simp) (hb hby d4_13) hr) (by show Q4 Z p0 p1 h0 n0 _ s₁.heap _; rw [e0]; exact ⟨(congrArg (fun z => some (Value.int z)) hv247), N0, rfl⟩) (by decide) (by decide)
theorem own_pd0 : parseMethodDescriptor "(II)Z" = some ⟨[.int, .int], some .boolean⟩ := by decide +kernel
theorem own_pd1 : parseMethodDescriptor "(I)V" = some ⟨[.int], none⟩ := by decide +kernel
def own_v268 (el : List Int32) (po : List Int32) (bo : List Int32) (bs : List Int32) (bm : List Int32) (tb : List Int32) (bc : Int32) (tc : Int32) : Int32 := (g5_tc (3:Int32) el po bo bs bm tb bc tc)
def own_v270 (el : List Int32) (po : List Int32) (bo : List Int32) (bs : List Int32) (bm : List Int32) (tb : List Int32) (bc : Int32) (tc : Int32) : List Int32 := (g5_el (3:Int32) el po bo bs bm tb bc tc)
def own_v272 (el : List Int32) (po : List Int32) (bo : List Int32) (bs : List Int32) (bm : List Int32) (tb : List Int32) (bc : Int32) (tc : Int32) : List Int32 := (g5_po (3:Int32) el po bo bs bm tb bc tc)
def own_v274 (el : List Int32) (po : List Int32) (bo : List Int32) (bs : List Int32) (bm : List Int32) (tb : List Int32) (bc : Int32) (tc : Int32) : List Int32 := (g5_bm (3:Int32) el po bo bs bm tb bc tc)
def own_v276 (el : List Int32) (po : List Int32) (bo : List Int32) (bs : List Int32) (bm : List Int32) (tb : List Int32) (bc : Int32) (tc : Int32) : List Int32 := (g5_tb (3:Int32) el po bo bs bm tb bc tc)
def own_v294 (el : List Int32) (po : List Int32) (bo : List Int32) (bs : List Int32) (bm : List Int32) (tb : List Int32) (bc : Int32) (tc : Int32) : Int32 := (g5_tc (2:Int32) el po bo bs bm tb bc tc)
def own_v296 (el : List Int32) (po : List Int32) (bo : List Int32) (bs : List Int32) (bm : List Int32) (tb : List Int32) (bc : Int32) (tc : Int32) : List Int32 := (g5_el (2:Int32) el po bo bs bm tb bc tc)
def own_v298 (el : List Int32) (po : List Int32) (bo : List Int32) (bs : List Int32) (bm : List Int32) (tb : List Int32) (bc : Int32) (tc : Int32) : List Int32 := (g5_po (2:Int32) el po bo bs bm tb bc tc)
def own_v300 (el : List Int32) (po : List Int32) (bo : List Int32) (bs : List Int32) (bm : List Int32) (tb : List Int32) (bc : Int32) (tc : Int32) : List Int32 := (g5_bm (2:Int32) el po bo bs bm tb bc tc)
def own_v302 (el : List Int32) (po : List Int32) (bo : List Int32) (bs : List Int32) (bm : List Int32) (tb : List Int32) (bc : Int32) (tc : Int32) : List Int32 := (g5_tb (2:Int32) el po bo bs bm tb bc tc)
def own_v324 (el : List Int32) (po : List Int32) (bo : List Int32) (bs : List Int32) (bm : List Int32) (tb : List Int32) (bc : Int32) (tc : Int32) : Int32 := (g5_tc (3:Int32) (own_v296 el po bo bs bm tb bc tc) (own_v298 el po bo bs bm tb bc tc) bo bs (own_v300 el po bo bs bm tb bc tc) (own_v302 el po bo bs bm tb bc tc) bc (own_v294 el po bo bs bm tb bc tc))
def own_v326 (el : List Int32) (po : List Int32) (bo : List Int32) (bs : List Int32) (bm : List Int32) (tb : List Int32) (bc : Int32) (tc : Int32) : List Int32 := (g5_el (3:Int32) (own_v296 el po bo bs bm tb bc tc) (own_v298 el po bo bs bm tb bc tc) bo bs (own_v300 el po bo bs bm tb bc tc) (own_v302 el po bo bs bm tb bc tc) bc (own_v294 el po bo bs bm tb bc tc))
def own_v328 (el : List Int32) (po : List Int32) (bo : List Int32) (bs : List Int32) (bm : List Int32) (tb : List Int32) (bc : Int32) (tc : Int32) : List Int32 := (g5_po (3:Int32) (own_v296 el po bo bs bm tb bc tc) (own_v298 el po bo bs bm tb bc tc) bo bs (own_v300 el po bo bs bm tb bc tc) (own_v302 el po bo bs bm tb bc tc) bc (own_v294 el po bo bs bm tb bc tc))
def own_v330 (el : List Int32) (po : List Int32) (bo : List Int32) (bs : List Int32) (bm : List Int32) (tb : List Int32) (bc : Int32) (tc : Int32) : List Int32 := (g5_bm (3:Int32) (own_v296 el po bo bs bm tb bc tc) (own_v298 el po bo bs bm tb bc tc) bo bs (own_v300 el po bo bs bm tb bc tc) (own_v302 el po bo bs bm tb bc tc) bc (own_v294 el po bo bs bm tb bc tc))
def own_v332 (el : List Int32) (po : List Int32) (bo : List Int32) (bs : List Int32) (bm : List Int32) (tb : List Int32) (bc : Int32) (tc : Int32) : List Int32 := (g5_tb (3:Int32) (own_v296 el po bo bs bm tb bc tc) (own_v298 el po bo bs bm tb bc tc) bo bs (own_v300 el po bo bs bm tb bc tc) (own_v302 el po bo bs bm tb bc tc) bc (own_v294 el po bo bs bm tb bc tc))
def own_v350 (el : List Int32) (po : List Int32) (bo : List Int32) (bs : List Int32) (bm : List Int32) (tb : List Int32) (bc : Int32) (tc : Int32) : Int32 := (g5_tc (1:Int32) el po bo bs bm tb bc tc)
def own_v352 (el : List Int32) (po : List Int32) (bo : List Int32) (bs : List Int32) (bm : List Int32) (tb : List Int32) (bc : Int32) (tc : Int32) : List Int32 := (g5_el (1:Int32) el po bo bs bm tb bc tc)
def own_v354 (el : List Int32) (po : List Int32) (bo : List Int32) (bs : List Int32) (bm : List Int32) (tb : List Int32) (bc : Int32) (tc : Int32) : List Int32 := (g5_po (1:Int32) el po bo bs bm tb bc tc)
def own_v356 (el : List Int32) (po : List Int32) (bo : List Int32) (bs : List Int32) (bm : List Int32) (tb : List Int32) (bc : Int32) (tc : Int32) : List Int32 := (g5_bm (1:Int32) el po bo bs bm tb bc tc)
def own_v358 (el : List Int32) (po : List Int32) (bo : List Int32) (bs : List Int32) (bm : List Int32) (tb : List Int32) (bc : Int32) (tc : Int32) : List Int32 := (g5_tb (1:Int32) el po bo bs bm tb bc tc)
def own_v381 (el : List Int32) (po : List Int32) (bo : List Int32) (bs : List Int32) (bm : List Int32) (tb : List Int32) (bc : Int32) (tc : Int32) : Int32 := (g5_tc (3:Int32) (own_v352 el po bo bs bm tb bc tc) (own_v354 el po bo bs bm tb bc tc) bo bs (own_v356 el po bo bs bm tb bc tc) (own_v358 el po bo bs bm tb bc tc) bc (own_v350 el po bo bs bm tb bc tc))
def own_v383 (el : List Int32) (po : List Int32) (bo : List Int32) (bs : List Int32) (bm : List Int32) (tb : List Int32) (bc : Int32) (tc : Int32) : List Int32 := (g5_el (3:Int32) (own_v352 el po bo bs bm tb bc tc) (own_v354 el po bo bs bm tb bc tc) bo bs (own_v356 el po bo bs bm tb bc tc) (own_v358 el po bo bs bm tb bc tc) bc (own_v350 el po bo bs bm tb bc tc))
def own_v385 (el : List Int32) (po : List Int32) (bo : List Int32) (bs : List Int32) (bm : List Int32) (tb : List Int32) (bc : Int32) (tc : Int32) : List Int32 := (g5_po (3:Int32) (own_v352 el po bo bs bm tb bc tc) (own_v354 el po bo bs bm tb bc tc) bo bs (own_v356 el po bo bs bm tb bc tc) (own_v358 el po bo bs bm tb bc tc) bc (own_v350 el po bo bs bm tb bc tc))
def own_v387 (el : List Int32) (po : List Int32) (bo : List Int32) (bs : List Int32) (bm : List Int32) (tb : List Int32) (bc : Int32) (tc : Int32) : List Int32 := (g5_bm (3:Int32) (own_v352 el po bo bs bm tb bc tc) (own_v354 el po bo bs bm tb bc tc) bo bs (own_v356 el po bo bs bm tb bc tc) (own_v358 el po bo bs bm tb bc tc) bc (own_v350 el po bo bs bm tb bc tc))
def own_v389 (el : List Int32) (po : List Int32) (bo : List Int32) (bs : List Int32) (bm : List Int32) (tb : List Int32) (bc : Int32) (tc : Int32) : List Int32 := (g5_tb (3:Int32) (own_v352 el po bo bs bm tb bc tc) (own_v354 el po bo bs bm tb bc tc) bo bs (own_v356 el po bo bs bm tb bc tc) (own_v358 el po bo bs bm tb bc tc) bc (own_v350 el po bo bs bm tb bc tc))
def own_v410 (el : List Int32) (po : List Int32) (bo : List Int32) (bs : List Int32) (bm : List Int32) (tb : List Int32) (bc : Int32) (tc : Int32) : Int32 := (g5_tc (2:Int32) (own_v352 el po bo bs bm tb bc tc) (own_v354 el po bo bs bm tb bc tc) bo bs (own_v356 el po bo bs bm tb bc tc) (own_v358 el po bo bs bm tb bc tc) bc (own_v350 el po bo bs bm tb bc tc))
def own_v412 (el : List Int32) (po : List Int32) (bo : List Int32) (bs : List Int32) (bm : List Int32) (tb : List Int32) (bc : Int32) (tc : Int32) : List Int32 := (g5_el (2:Int32) (own_v352 el po bo bs bm tb bc tc) (own_v354 el po bo bs bm tb bc tc) bo bs (own_v356 el po bo bs bm tb bc tc) (own_v358 el po bo bs bm tb bc tc) bc (own_v350 el po bo bs bm tb bc tc))
def own_v414 (el : List Int32) (po : List Int32) (bo : List Int32) (bs : List Int32) (bm : List Int32) (tb : List Int32) (bc : Int32) (tc : Int32) : List Int32 := (g5_po (2:Int32) (own_v352 el po bo bs bm tb bc tc) (own_v354 el po bo bs bm tb bc tc) bo bs (own_v356 el po bo bs bm tb bc tc) (own_v358 el po bo bs bm tb bc tc) bc (own_v350 el po bo bs bm tb bc tc))
def own_v416 (el : List Int32) (po : List Int32) (bo : List Int32) (bs : List Int32) (bm : List Int32) (tb : List Int32) (bc : Int32) (tc : Int32) : List Int32 := (g5_bm (2:Int32) (own_v352 el po bo bs bm tb bc tc) (own_v354 el po bo bs bm tb bc tc) bo bs (own_v356 el po bo bs bm tb bc tc) (own_v358 el po bo bs bm tb bc tc) bc (own_v350 el po bo bs bm tb bc tc))
def own_v418 (el : List Int32) (po : List Int32) (bo : List Int32) (bs : List Int32) (bm : List Int32) (tb : List Int32) (bc : Int32) (tc : Int32) : List Int32 := (g5_tb (2:Int32) (own_v352 el po bo bs bm tb bc tc) (own_v354 el po bo bs bm tb bc tc) bo bs (own_v356 el po bo bs bm tb bc tc) (own_v358 el po bo bs bm tb bc tc) bc (own_v350 el po bo bs bm tb bc tc))
def own_v440 (el : List Int32) (po : List Int32) (bo : List Int32) (bs : List Int32) (bm : List Int32) (tb : List Int32) (bc : Int32) (tc : Int32) : Int32 := (g5_tc (3:Int32) (own_v412 el po bo bs bm tb bc tc) (own_v414 el po bo bs bm tb bc tc) bo bs (own_v416 el po bo bs bm tb bc tc) (own_v418 el po bo bs bm tb bc tc) bc (own_v410 el po bo bs bm tb bc tc))
def own_v442 (el : List Int32) (po : List Int32) (bo : List Int32) (bs : List Int32) (bm : List Int32) (tb : List Int32) (bc : Int32) (tc : Int32) : List Int32 := (g5_el (3:Int32) (own_v412 el po bo bs bm tb bc tc) (own_v414 el po bo bs bm tb bc tc) bo bs (own_v416 el po bo bs bm tb bc tc) (own_v418 el po bo bs bm tb bc tc) bc (own_v410 el po bo bs bm tb bc tc))
def own_v444 (el : List Int32) (po : List Int32) (bo : List Int32) (bs : List Int32) (bm : List Int32) (tb : List Int32) (bc : Int32) (tc : Int32) : List Int32 := (g5_po (3:Int32) (own_v412 el po bo bs bm tb bc tc) (own_v414 el po bo bs bm tb bc tc) bo bs (own_v416 el po bo bs bm tb bc tc) (own_v418 el po bo bs bm tb bc tc) bc (own_v410 el po bo bs bm tb bc tc))
def own_v446 (el : List Int32) (po : List Int32) (bo : List Int32) (bs : List Int32) (bm : List Int32) (tb : List Int32) (bc : Int32) (tc : Int32) : List Int32 := (g5_bm (3:Int32) (own_v412 el po bo bs bm tb bc tc) (own_v414 el po bo bs bm tb bc tc) bo bs (own_v416 el po bo bs bm tb bc tc) (own_v418 el po bo bs bm tb bc tc) bc (own_v410 el po bo bs bm tb bc tc))
def own_v448 (el : List Int32) (po : List Int32) (bo : List Int32) (bs : List Int32) (bm : List Int32) (tb : List Int32) (bc : Int32) (tc : Int32) : List Int32 := (g5_tb (3:Int32) (own_v412 el po bo bs bm tb bc tc) (own_v414 el po bo bs bm tb bc tc) bo bs (own_v416 el po bo bs bm tb bc tc) (own_v418 el po bo bs bm tb bc tc) bc (own_v410 el po bo bs bm tb bc tc))
def own_v466 (el : List Int32) (po : List Int32) (bo : List Int32) (bs : List Int32) (bm : List Int32) (tb : List Int32) (bc : Int32) (tc : Int32) : Int32 := (g5_tc (0:Int32) el po bo bs bm tb bc tc)
def own_v468 (el : List Int32) (po : List Int32) (bo : List Int32) (bs : List Int32) (bm : List Int32) (tb : List Int32) (bc : Int32) (tc : Int32) : List Int32 := (g5_el (0:Int32) el po bo bs bm tb bc tc)
def own_v470 (el : List Int32) (po : List Int32) (bo : List Int32) (bs : List Int32) (bm : List Int32) (tb : List Int32) (bc : Int32) (tc : Int32) : List Int32 := (g5_po (0:Int32) el po bo bs bm tb bc tc)
def own_v472 (el : List Int32) (po : List Int32) (bo : List Int32) (bs : List Int32) (bm : List Int32) (tb : List Int32) (bc : Int32) (tc : Int32) : List Int32 := (g5_bm (0:Int32) el po bo bs bm tb bc tc)
def own_v474 (el : List Int32) (po : List Int32) (bo : List Int32) (bs : List Int32) (bm : List Int32) (tb : List Int32) (bc : Int32) (tc : Int32) : List Int32 := (g5_tb (0:Int32) el po bo bs bm tb bc tc)
def own_v498 (el : List Int32) (po : List Int32) (bo : List Int32) (bs : List Int32) (bm : List Int32) (tb : List Int32) (bc : Int32) (tc : Int32) : Int32 := (g5_tc (3:Int32) (own_v468 el po bo bs bm tb bc tc) (own_v470 el po bo bs bm tb bc tc) bo bs (own_v472 el po bo bs bm tb bc tc) (own_v474 el po bo bs bm tb bc tc) bc (own_v466 el po bo bs bm tb bc tc))
def own_v500 (el : List Int32) (po : List Int32) (bo : List Int32) (bs : List Int32) (bm : List Int32) (tb : List Int32) (bc : Int32) (tc : Int32) : List Int32 := (g5_el (3:Int32) (own_v468 el po bo bs bm tb bc tc) (own_v470 el po bo bs bm tb bc tc) bo bs (own_v472 el po bo bs bm tb bc tc) (own_v474 el po bo bs bm tb bc tc) bc (own_v466 el po bo bs bm tb bc tc))
def own_v502 (el : List Int32) (po : List Int32) (bo : List Int32) (bs : List Int32) (bm : List Int32) (tb : List Int32) (bc : Int32) (tc : Int32) : List Int32 := (g5_po (3:Int32) (own_v468 el po bo bs bm tb bc tc) (own_v470 el po bo bs bm tb bc tc) bo bs (own_v472 el po bo bs bm tb bc tc) (own_v474 el po bo bs bm tb bc tc) bc (own_v466 el po bo bs bm tb bc tc))
def own_v504 (el : List Int32) (po : List Int32) (bo : List Int32) (bs : List Int32) (bm : List Int32) (tb : List Int32) (bc : Int32) (tc : Int32) : List Int32 := (g5_bm (3:Int32) (own_v468 el po bo bs bm tb bc tc) (own_v470 el po bo bs bm tb bc tc) bo bs (own_v472 el po bo bs bm tb bc tc) (own_v474 el po bo bs bm tb bc tc) bc (own_v466 el po bo bs bm tb bc tc))
def own_v506 (el : List Int32) (po : List Int32) (bo : List Int32) (bs : List Int32) (bm : List Int32) (tb : List Int32) (bc : Int32) (tc : Int32) : List Int32 := (g5_tb (3:Int32) (own_v468 el po bo bs bm tb bc tc) (own_v470 el po bo bs bm tb bc tc) bo bs (own_v472 el po bo bs bm tb bc tc) (own_v474 el po bo bs bm tb bc tc) bc (own_v466 el po bo bs bm tb bc tc))
def own_v527 (el : List Int32) (po : List Int32) (bo : List Int32) (bs : List Int32) (bm : List Int32) (tb : List Int32) (bc : Int32) (tc : Int32) : Int32 := (g5_tc (2:Int32) (own_v468 el po bo bs bm tb bc tc) (own_v470 el po bo bs bm tb bc tc) bo bs (own_v472 el po bo bs bm tb bc tc) (own_v474 el po bo bs bm tb bc tc) bc (own_v466 el po bo bs bm tb bc tc))
def own_v529 (el : List Int32) (po : List Int32) (bo : List Int32) (bs : List Int32) (bm : List Int32) (tb : List Int32) (bc : Int32) (tc : Int32) : List Int32 := (g5_el (2:Int32) (own_v468 el po bo bs bm tb bc tc) (own_v470 el po bo bs bm tb bc tc) bo bs (own_v472 el po bo bs bm tb bc tc) (own_v474 el po bo bs bm tb bc tc) bc (own_v466 el po bo bs bm tb bc tc))
def own_v531 (el : List Int32) (po : List Int32) (bo : List Int32) (bs : List Int32) (bm : List Int32) (tb : List Int32) (bc : Int32) (tc : Int32) : List Int32 := (g5_po (2:Int32) (own_v468 el po bo bs bm tb bc tc) (own_v470 el po bo bs bm tb bc tc) bo bs (own_v472 el po bo bs bm tb bc tc) (own_v474 el po bo bs bm tb bc tc) bc (own_v466 el po bo bs bm tb bc tc))
def own_v533 (el : List Int32) (po : List Int32) (bo : List Int32) (bs : List Int32) (bm : List Int32) (tb : List Int32) (bc : Int32) (tc : Int32) : List Int32 := (g5_bm (2:Int32) (own_v468 el po bo bs bm tb bc tc) (own_v470 el po bo bs bm tb bc tc) bo bs (own_v472 el po bo bs bm tb bc tc) (own_v474 el po bo bs bm tb bc tc) bc (own_v466 el po bo bs bm tb bc tc))
def own_v535 (el : List Int32) (po : List Int32) (bo : List Int32) (bs : List Int32) (bm : List Int32) (tb : List Int32) (bc : Int32) (tc : Int32) : List Int32 := (g5_tb (2:Int32) (own_v468 el po bo bs bm tb bc tc) (own_v470 el po bo bs bm tb bc tc) bo bs (own_v472 el po bo bs bm tb bc tc) (own_v474 el po bo bs bm tb bc tc) bc (own_v466 el po bo bs bm tb bc tc))
def own_v557 (el : List Int32) (po : List Int32) (bo : List Int32) (bs : List Int32) (bm : List Int32) (tb : List Int32) (bc : Int32) (tc : Int32) : Int32 := (g5_tc (3:Int32) (own_v529 el po bo bs bm tb bc tc) (own_v531 el po bo bs bm tb bc tc) bo bs (own_v533 el po bo bs bm tb bc tc) (own_v535 el po bo bs bm tb bc tc) bc (own_v527 el po bo bs bm tb bc tc))
def own_v559 (el : List Int32) (po : List Int32) (bo : List Int32) (bs : List Int32) (bm : List Int32) (tb : List Int32) (bc : Int32) (tc : Int32) : List Int32 := (g5_el (3:Int32) (own_v529 el po bo bs bm tb bc tc) (own_v531 el po bo bs bm tb bc tc) bo bs (own_v533 el po bo bs bm tb bc tc) (own_v535 el po bo bs bm tb bc tc) bc (own_v527 el po bo bs bm tb bc tc))
def own_v561 (el : List Int32) (po : List Int32) (bo : List Int32) (bs : List Int32) (bm : List Int32) (tb : List Int32) (bc : Int32) (tc : Int32) : List Int32 := (g5_po (3:Int32) (own_v529 el po bo bs bm tb bc tc) (own_v531 el po bo bs bm tb bc tc) bo bs (own_v533 el po bo bs bm tb bc tc) (own_v535 el po bo bs bm tb bc tc) bc (own_v527 el po bo bs bm tb bc tc))
def own_v563 (el : List Int32) (po : List Int32) (bo : List Int32) (bs : List Int32) (bm : List Int32) (tb : List Int32) (bc : Int32) (tc : Int32) : List Int32 := (g5_bm (3:Int32) (own_v529 el po bo bs bm tb bc tc) (own_v531 el po bo bs bm tb bc tc) bo bs (own_v533 el po bo bs bm tb bc tc) (own_v535 el po bo bs bm tb bc tc) bc (own_v527 el po bo bs bm tb bc tc))
def own_v565 (el : List Int32) (po : List Int32) (bo : List Int32) (bs : List Int32) (bm : List Int32) (tb : List Int32) (bc : Int32) (tc : Int32) : List Int32 := (g5_tb (3:Int32) (own_v529 el po bo bs bm tb bc tc) (own_v531 el po bo bs bm tb bc tc) bo bs (own_v533 el po bo bs bm tb bc tc) (own_v535 el po bo bs bm tb bc tc) bc (own_v527 el po bo bs bm tb bc tc))
def own_v586 (el : List Int32) (po : List Int32) (bo : List Int32) (bs : List Int32) (bm : List Int32) (tb : List Int32) (bc : Int32) (tc : Int32) : Int32 := (g5_tc (1:Int32) (own_v468 el po bo bs bm tb bc tc) (own_v470 el po bo bs bm tb bc tc) bo bs (own_v472 el po bo bs bm tb bc tc) (own_v474 el po bo bs bm tb bc tc) bc (own_v466 el po bo bs bm tb bc tc))
def own_v588 (el : List Int32) (po : List Int32) (bo : List Int32) (bs : List Int32) (bm : List Int32) (tb : List Int32) (bc : Int32) (tc : Int32) : List Int32 := (g5_el (1:Int32) (own_v468 el po bo bs bm tb bc tc) (own_v470 el po bo bs bm tb bc tc) bo bs (own_v472 el po bo bs bm tb bc tc) (own_v474 el po bo bs bm tb bc tc) bc (own_v466 el po bo bs bm tb bc tc))
def own_v590 (el : List Int32) (po : List Int32) (bo : List Int32) (bs : List Int32) (bm : List Int32) (tb : List Int32) (bc : Int32) (tc : Int32) : List Int32 := (g5_po (1:Int32) (own_v468 el po bo bs bm tb bc tc) (own_v470 el po bo bs bm tb bc tc) bo bs (own_v472 el po bo bs bm tb bc tc) (own_v474 el po bo bs bm tb bc tc) bc (own_v466 el po bo bs bm tb bc tc))
def own_v592 (el : List Int32) (po : List Int32) (bo : List Int32) (bs : List Int32) (bm : List Int32) (tb : List Int32) (bc : Int32) (tc : Int32) : List Int32 := (g5_bm (1:Int32) (own_v468 el po bo bs bm tb bc tc) (own_v470 el po bo bs bm tb bc tc) bo bs (own_v472 el po bo bs bm tb bc tc) (own_v474 el po bo bs bm tb bc tc) bc (own_v466 el po bo bs bm tb bc tc))
def own_v594 (el : List Int32) (po : List Int32) (bo : List Int32) (bs : List Int32) (bm : List Int32) (tb : List Int32) (bc : Int32) (tc : Int32) : List Int32 := (g5_tb (1:Int32) (own_v468 el po bo bs bm tb bc tc) (own_v470 el po bo bs bm tb bc tc) bo bs (own_v472 el po bo bs bm tb bc tc) (own_v474 el po bo bs bm tb bc tc) bc (own_v466 el po bo bs bm tb bc tc))
def own_v617 (el : List Int32) (po : List Int32) (bo : List Int32) (bs : List Int32) (bm : List Int32) (tb : List Int32) (bc : Int32) (tc : Int32) : Int32 := (g5_tc (3:Int32) (own_v588 el po bo bs bm tb bc tc) (own_v590 el po bo bs bm tb bc tc) bo bs (own_v592 el po bo bs bm tb bc tc) (own_v594 el po bo bs bm tb bc tc) bc (own_v586 el po bo bs bm tb bc tc))
def own_v619 (el : List Int32) (po : List Int32) (bo : List Int32) (bs : List Int32) (bm : List Int32) (tb : List Int32) (bc : Int32) (tc : Int32) : List Int32 := (g5_el (3:Int32) (own_v588 el po bo bs bm tb bc tc) (own_v590 el po bo bs bm tb bc tc) bo bs (own_v592 el po bo bs bm tb bc tc) (own_v594 el po bo bs bm tb bc tc) bc (own_v586 el po bo bs bm tb bc tc))
def own_v621 (el : List Int32) (po : List Int32) (bo : List Int32) (bs : List Int32) (bm : List Int32) (tb : List Int32) (bc : Int32) (tc : Int32) : List Int32 := (g5_po (3:Int32) (own_v588 el po bo bs bm tb bc tc) (own_v590 el po bo bs bm tb bc tc) bo bs (own_v592 el po bo bs bm tb bc tc) (own_v594 el po bo bs bm tb bc tc) bc (own_v586 el po bo bs bm tb bc tc))
def own_v623 (el : List Int32) (po : List Int32) (bo : List Int32) (bs : List Int32) (bm : List Int32) (tb : List Int32) (bc : Int32) (tc : Int32) : List Int32 := (g5_bm (3:Int32) (own_v588 el po bo bs bm tb bc tc) (own_v590 el po bo bs bm tb bc tc) bo bs (own_v592 el po bo bs bm tb bc tc) (own_v594 el po bo bs bm tb bc tc) bc (own_v586 el po bo bs bm tb bc tc))
def own_v625 (el : List Int32) (po : List Int32) (bo : List Int32) (bs : List Int32) (bm : List Int32) (tb : List Int32) (bc : Int32) (tc : Int32) : List Int32 := (g5_tb (3:Int32) (own_v588 el po bo bs bm tb bc tc) (own_v590 el po bo bs bm tb bc tc) bo bs (own_v592 el po bo bs bm tb bc tc) (own_v594 el po bo bs bm tb bc tc) bc (own_v586 el po bo bs bm tb bc tc))
def own_v646 (el : List Int32) (po : List Int32) (bo : List Int32) (bs : List Int32) (bm : List Int32) (tb : List Int32) (bc : Int32) (tc : Int32) : Int32 := (g5_tc (2:Int32) (own_v588 el po bo bs bm tb bc tc) (own_v590 el po bo bs bm tb bc tc) bo bs (own_v592 el po bo bs bm tb bc tc) (own_v594 el po bo bs bm tb bc tc) bc (own_v586 el po bo bs bm tb bc tc))
def own_v648 (el : List Int32) (po : List Int32) (bo : List Int32) (bs : List Int32) (bm : List Int32) (tb : List Int32) (bc : Int32) (tc : Int32) : List Int32 := (g5_el (2:Int32) (own_v588 el po bo bs bm tb bc tc) (own_v590 el po bo bs bm tb bc tc) bo bs (own_v592 el po bo bs bm tb bc tc) (own_v594 el po bo bs bm tb bc tc) bc (own_v586 el po bo bs bm tb bc tc))
def own_v650 (el : List Int32) (po : List Int32) (bo : List Int32) (bs : List Int32) (bm : List Int32) (tb : List Int32) (bc : Int32) (tc : Int32) : List Int32 := (g5_po (2:Int32) (own_v588 el po bo bs bm tb bc tc) (own_v590 el po bo bs bm tb bc tc) bo bs (own_v592 el po bo bs bm tb bc tc) (own_v594 el po bo bs bm tb bc tc) bc (own_v586 el po bo bs bm tb bc tc))
def own_v652 (el : List Int32) (po : List Int32) (bo : List Int32) (bs : List Int32) (bm : List Int32) (tb : List Int32) (bc : Int32) (tc : Int32) : List Int32 := (g5_bm (2:Int32) (own_v588 el po bo bs bm tb bc tc) (own_v590 el po bo bs bm tb bc tc) bo bs (own_v592 el po bo bs bm tb bc tc) (own_v594 el po bo bs bm tb bc tc) bc (own_v586 el po bo bs bm tb bc tc))
def own_v654 (el : List Int32) (po : List Int32) (bo : List Int32) (bs : List Int32) (bm : List Int32) (tb : List Int32) (bc : Int32) (tc : Int32) : List Int32 := (g5_tb (2:Int32) (own_v588 el po bo bs bm tb bc tc) (own_v590 el po bo bs bm tb bc tc) bo bs (own_v592 el po bo bs bm tb bc tc) (own_v594 el po bo bs bm tb bc tc) bc (own_v586 el po bo bs bm tb bc tc))
def own_v676 (el : List Int32) (po : List Int32) (bo : List Int32) (bs : List Int32) (bm : List Int32) (tb : List Int32) (bc : Int32) (tc : Int32) : Int32 := (g5_tc (3:Int32) (own_v648 el po bo bs bm tb bc tc) (own_v650 el po bo bs bm tb bc tc) bo bs (own_v652 el po bo bs bm tb bc tc) (own_v654 el po bo bs bm tb bc tc) bc (own_v646 el po bo bs bm tb bc tc))
def own_v678 (el : List Int32) (po : List Int32) (bo : List Int32) (bs : List Int32) (bm : List Int32) (tb : List Int32) (bc : Int32) (tc : Int32) : List Int32 := (g5_el (3:Int32) (own_v648 el po bo bs bm tb bc tc) (own_v650 el po bo bs bm tb bc tc) bo bs (own_v652 el po bo bs bm tb bc tc) (own_v654 el po bo bs bm tb bc tc) bc (own_v646 el po bo bs bm tb bc tc))
def own_v680 (el : List Int32) (po : List Int32) (bo : List Int32) (bs : List Int32) (bm : List Int32) (tb : List Int32) (bc : Int32) (tc : Int32) : List Int32 := (g5_po (3:Int32) (own_v648 el po bo bs bm tb bc tc) (own_v650 el po bo bs bm tb bc tc) bo bs (own_v652 el po bo bs bm tb bc tc) (own_v654 el po bo bs bm tb bc tc) bc (own_v646 el po bo bs bm tb bc tc))
def own_v682 (el : List Int32) (po : List Int32) (bo : List Int32) (bs : List Int32) (bm : List Int32) (tb : List Int32) (bc : Int32) (tc : Int32) : List Int32 := (g5_bm (3:Int32) (own_v648 el po bo bs bm tb bc tc) (own_v650 el po bo bs bm tb bc tc) bo bs (own_v652 el po bo bs bm tb bc tc) (own_v654 el po bo bs bm tb bc tc) bc (own_v646 el po bo bs bm tb bc tc))
def own_v684 (el : List Int32) (po : List Int32) (bo : List Int32) (bs : List Int32) (bm : List Int32) (tb : List Int32) (bc : Int32) (tc : Int32) : List Int32 := (g5_tb (3:Int32) (own_v648 el po bo bs bm tb bc tc) (own_v650 el po bo bs bm tb bc tc) bo bs (own_v652 el po bo bs bm tb bc tc) (own_v654 el po bo bs bm tb bc tc) bc (own_v646 el po bo bs bm tb bc tc))
theorem d3_0 : decode method_4_code 0 = .ok (.iload_n 1, 1) := by decide +kernel
theorem d3_1 : decode method_4_code 1 = .ok (.iconst 0, 1) := by decide +kernel
theorem d3_2 : decode method_4_code 2 = .ok (.invokestatic 7, 3) := by decide +kernel
theorem d3_5 : decode method_4_code 5 = .ok (.ifCond .eq 8, 3) := by decide +kernel
theorem d3_8 : decode method_4_code 8 = .ok (.aload_n 0, 1) := by decide +kernel
theorem d3_9 : decode method_4_code 9 = .ok (.iconst 0, 1) := by decide +kernel
theorem d3_10 : decode method_4_code 10 = .ok (.invokevirtual 13, 3) := by decide +kernel
theorem d3_13 : decode method_4_code 13 = .ok (.iload_n 1, 1) := by decide +kernel
theorem d3_14 : decode method_4_code 14 = .ok (.iconst 1, 1) := by decide +kernel
theorem d3_15 : decode method_4_code 15 = .ok (.invokestatic 7, 3) := by decide +kernel
theorem d3_18 : decode method_4_code 18 = .ok (.ifCond .eq 8, 3) := by decide +kernel
theorem d3_21 : decode method_4_code 21 = .ok (.aload_n 0, 1) := by decide +kernel
theorem d3_22 : decode method_4_code 22 = .ok (.iconst 1, 1) := by decide +kernel
theorem d3_23 : decode method_4_code 23 = .ok (.invokevirtual 13, 3) := by decide +kernel
theorem d3_26 : decode method_4_code 26 = .ok (.iload_n 1, 1) := by decide +kernel
theorem d3_27 : decode method_4_code 27 = .ok (.iconst 2, 1) := by decide +kernel
theorem d3_28 : decode method_4_code 28 = .ok (.invokestatic 7, 3) := by decide +kernel
theorem d3_31 : decode method_4_code 31 = .ok (.ifCond .eq 8, 3) := by decide +kernel
theorem d3_34 : decode method_4_code 34 = .ok (.aload_n 0, 1) := by decide +kernel
theorem d3_35 : decode method_4_code 35 = .ok (.iconst 2, 1) := by decide +kernel
theorem d3_36 : decode method_4_code 36 = .ok (.invokevirtual 13, 3) := by decide +kernel
theorem d3_39 : decode method_4_code 39 = .ok (.iload_n 1, 1) := by decide +kernel
theorem d3_40 : decode method_4_code 40 = .ok (.iconst 3, 1) := by decide +kernel
theorem d3_41 : decode method_4_code 41 = .ok (.invokestatic 7, 3) := by decide +kernel
theorem d3_44 : decode method_4_code 44 = .ok (.ifCond .eq 8, 3) := by decide +kernel
theorem d3_47 : decode method_4_code 47 = .ok (.aload_n 0, 1) := by decide +kernel
theorem d3_48 : decode method_4_code 48 = .ok (.iconst 3, 1) := by decide +kernel
theorem d3_49 : decode method_4_code 49 = .ok (.invokevirtual 13, 3) := by decide +kernel
theorem d3_52 : decode method_4_code 52 = .ok (.return_, 1) := by decide +kernel
theorem ef3 (m : MethodId) (a0 : Addr) (p1 : Int32) : entryFrame m #[(.ref a0), (.int p1)] 2 = mkF m 0 #[rv a0, iv p1] [] := by first | (simp [entryFrame, mkF, argsToLocals, Value.category]; done) | rfl
def g3_tc (p1 : Int32) (el : List Int32) (po : List Int32) (bo : List Int32) (bs : List Int32) (bm : List Int32) (tb : List Int32) (bc : Int32) (tc : Int32) : Int32 := (if (f4 p1 (0:Int32)) = (0:Int32) then (if (f4 p1 (1:Int32)) = (0:Int32) then (if (f4 p1 (2:Int32)) = (0:Int32) then (if (f4 p1 (3:Int32)) = (0:Int32) then tc else (own_v268 el po bo bs bm tb bc tc)) else (if (f4 p1 (3:Int32)) = (0:Int32) then (own_v294 el po bo bs bm tb bc tc) else (own_v324 el po bo bs bm tb bc tc))) else (if (f4 p1 (2:Int32)) = (0:Int32) then (if (f4 p1 (3:Int32)) = (0:Int32) then (own_v350 el po bo bs bm tb bc tc) else (own_v381 el po bo bs bm tb bc tc)) else (if (f4 p1 (3:Int32)) = (0:Int32) then (own_v410 el po bo bs bm tb bc tc) else (own_v440 el po bo bs bm tb bc tc)))) else (if (f4 p1 (1:Int32)) = (0:Int32) then (if (f4 p1 (2:Int32)) = (0:Int32) then (if (f4 p1 (3:Int32)) = (0:Int32) then (own_v466 el po bo bs bm tb bc tc) else (own_v498 el po bo bs bm tb bc tc)) else (if (f4 p1 (3:Int32)) = (0:Int32) then (own_v527 el po bo bs bm tb bc tc) else (own_v557 el po bo bs bm tb bc tc))) else (if (f4 p1 (2:Int32)) = (0:Int32) then (if (f4 p1 (3:Int32)) = (0:Int32) then (own_v586 el po bo bs bm tb bc tc) else (own_v617 el po bo bs bm tb bc tc)) else (if (f4 p1 (3:Int32)) = (0:Int32) then (own_v646 el po bo bs bm tb bc tc) else (own_v676 el po bo bs bm tb bc tc)))))
def g3_el (p1 : Int32) (el : List Int32) (po : List Int32) (bo : List Int32) (bs : List Int32) (bm : List Int32) (tb : List Int32) (bc : Int32) (tc : Int32) : List Int32 := (if (f4 p1 (0:Int32)) = (0:Int32) then (if (f4 p1 (1:Int32)) = (0:Int32) then (if (f4 p1 (2:Int32)) = (0:Int32) then (if (f4 p1 (3:Int32)) = (0:Int32) then el else (own_v270 el po bo bs bm tb bc tc)) else (if (f4 p1 (3:Int32)) = (0:Int32) then (own_v296 el po bo bs bm tb bc tc) else (own_v326 el po bo bs bm tb bc tc))) else (if (f4 p1 (2:Int32)) = (0:Int32) then (if (f4 p1 (3:Int32)) = (0:Int32) then (own_v352 el po bo bs bm tb bc tc) else (own_v383 el po bo bs bm tb bc tc)) else (if (f4 p1 (3:Int32)) = (0:Int32) then (own_v412 el po bo bs bm tb bc tc) else (own_v442 el po bo bs bm tb bc tc)))) else (if (f4 p1 (1:Int32)) = (0:Int32) then (if (f4 p1 (2:Int32)) = (0:Int32) then (if (f4 p1 (3:Int32)) = (0:Int32) then (own_v468 el po bo bs bm tb bc tc) else (own_v500 el po bo bs bm tb bc tc)) else (if (f4 p1 (3:Int32)) = (0:Int32) then (own_v529 el po bo bs bm tb bc tc) else (own_v559 el po bo bs bm tb bc tc))) else (if (f4 p1 (2:Int32)) = (0:Int32) then (if (f4 p1 (3:Int32)) = (0:Int32) then (own_v588 el po bo bs bm tb bc tc) else (own_v619 el po bo bs bm tb bc tc)) else (if (f4 p1 (3:Int32)) = (0:Int32) then (own_v648 el po bo bs bm tb bc tc) else (own_v678 el po bo bs bm tb bc tc)))))
def g3_po (p1 : Int32) (el : List Int32) (po : List Int32) (bo : List Int32) (bs : List Int32) (bm : List Int32) (tb : List Int32) (bc : Int32) (tc : Int32) : List Int32 := (if (f4 p1 (0:Int32)) = (0:Int32) then (if (f4 p1 (1:Int32)) = (0:Int32) then (if (f4 p1 (2:Int32)) = (0:Int32) then (if (f4 p1 (3:Int32)) = (0:Int32) then po else (own_v272 el po bo bs bm tb bc tc)) else (if (f4 p1 (3:Int32)) = (0:Int32) then (own_v298 el po bo bs bm tb bc tc) else (own_v328 el po bo bs bm tb bc tc))) else (if (f4 p1 (2:Int32)) = (0:Int32) then (if (f4 p1 (3:Int32)) = (0:Int32) then (own_v354 el po bo bs bm tb bc tc) else (own_v385 el po bo bs bm tb bc tc)) else (if (f4 p1 (3:Int32)) = (0:Int32) then (own_v414 el po bo bs bm tb bc tc) else (own_v444 el po bo bs bm tb bc tc)))) else (if (f4 p1 (1:Int32)) = (0:Int32) then (if (f4 p1 (2:Int32)) = (0:Int32) then (if (f4 p1 (3:Int32)) = (0:Int32) then (own_v470 el po bo bs bm tb bc tc) else (own_v502 el po bo bs bm tb bc tc)) else (if (f4 p1 (3:Int32)) = (0:Int32) then (own_v531 el po bo bs bm tb bc tc) else (own_v561 el po bo bs bm tb bc tc))) else (if (f4 p1 (2:Int32)) = (0:Int32) then (if (f4 p1 (3:Int32)) = (0:Int32) then (own_v590 el po bo bs bm tb bc tc) else (own_v621 el po bo bs bm tb bc tc)) else (if (f4 p1 (3:Int32)) = (0:Int32) then (own_v650 el po bo bs bm tb bc tc) else (own_v680 el po bo bs bm tb bc tc)))))
def g3_bm (p1 : Int32) (el : List Int32) (po : List Int32) (bo : List Int32) (bs : List Int32) (bm : List Int32) (tb : List Int32) (bc : Int32) (tc : Int32) : List Int32 := (if (f4 p1 (0:Int32)) = (0:Int32) then (if (f4 p1 (1:Int32)) = (0:Int32) then (if (f4 p1 (2:Int32)) = (0:Int32) then (if (f4 p1 (3:Int32)) = (0:Int32) then bm else (own_v274 el po bo bs bm tb bc tc)) else (if (f4 p1 (3:Int32)) = (0:Int32) then (own_v300 el po bo bs bm tb bc tc) else (own_v330 el po bo bs bm tb bc tc))) else (if (f4 p1 (2:Int32)) = (0:Int32) then (if (f4 p1 (3:Int32)) = (0:Int32) then (own_v356 el po bo bs bm tb bc tc) else (own_v387 el po bo bs bm tb bc tc)) else (if (f4 p1 (3:Int32)) = (0:Int32) then (own_v416 el po bo bs bm tb bc tc) else (own_v446 el po bo bs bm tb bc tc)))) else (if (f4 p1 (1:Int32)) = (0:Int32) then (if (f4 p1 (2:Int32)) = (0:Int32) then (if (f4 p1 (3:Int32)) = (0:Int32) then (own_v472 el po bo bs bm tb bc tc) else (own_v504 el po bo bs bm tb bc tc)) else (if (f4 p1 (3:Int32)) = (0:Int32) then (own_v533 el po bo bs bm tb bc tc) else (own_v563 el po bo bs bm tb bc tc))) else (if (f4 p1 (2:Int32)) = (0:Int32) then (if (f4 p1 (3:Int32)) = (0:Int32) then (own_v592 el po bo bs bm tb bc tc) else (own_v623 el po bo bs bm tb bc tc)) else (if (f4 p1 (3:Int32)) = (0:Int32) then (own_v652 el po bo bs bm tb bc tc) else (own_v682 el po bo bs bm tb bc tc)))))
def g3_tb (p1 : Int32) (el : List Int32) (po : List Int32) (bo : List Int32) (bs : List Int32) (bm : List Int32) (tb : List Int32) (bc : Int32) (tc : Int32) : List Int32 := (if (f4 p1 (0:Int32)) = (0:Int32) then (if (f4 p1 (1:Int32)) = (0:Int32) then (if (f4 p1 (2:Int32)) = (0:Int32) then (if (f4 p1 (3:Int32)) = (0:Int32) then tb else (own_v276 el po bo bs bm tb bc tc)) else (if (f4 p1 (3:Int32)) = (0:Int32) then (own_v302 el po bo bs bm tb bc tc) else (own_v332 el po bo bs bm tb bc tc))) else (if (f4 p1 (2:Int32)) = (0:Int32) then (if (f4 p1 (3:Int32)) = (0:Int32) then (own_v358 el po bo bs bm tb bc tc) else (own_v389 el po bo bs bm tb bc tc)) else (if (f4 p1 (3:Int32)) = (0:Int32) then (own_v418 el po bo bs bm tb bc tc) else (own_v448 el po bo bs bm tb bc tc)))) else (if (f4 p1 (1:Int32)) = (0:Int32) then (if (f4 p1 (2:Int32)) = (0:Int32) then (if (f4 p1 (3:Int32)) = (0:Int32) then (own_v474 el po bo bs bm tb bc tc) else (own_v506 el po bo bs bm tb bc tc)) else (if (f4 p1 (3:Int32)) = (0:Int32) then (own_v535 el po bo bs bm tb bc tc) else (own_v565 el po bo bs bm tb bc tc))) else (if (f4 p1 (2:Int32)) = (0:Int32) then (if (f4 p1 (3:Int32)) = (0:Int32) then (own_v594 el po bo bs bm tb bc tc) else (own_v625 el po bo bs bm tb bc tc)) else (if (f4 p1 (3:Int32)) = (0:Int32) then (own_v654 el po bo bs bm tb bc tc) else (own_v684 el po bo bs bm tb bc tc)))))
def Q3 (Z : State) (a0 : Addr) (p1 : Int32) (e1 : Addr) (e2 : Addr) (e3 : Addr) (e4 : Addr) (e5 : Addr) (e6 : Addr) (e7 : Addr) (el : List Int32) (po : List Int32) (bo : List Int32) (bs : List Int32) (bm : List Int32) (tb : List Int32) (bc : Int32) (tc : Int32) (h0 : Heap) (n0 : Nat) (v : Option Value) (h : Heap) (L : List Loc) : Prop := v = none ∧ Fr n0 L ∧ Keep h0 h [a0, e1, e2, e6, e7] ∧ Fld Z h a0 "com/example/spare_calculus/sparecalculus/bisim/Partition" "elements" "[I" (.ref e1) ∧ Fld Z h a0 "com/example/spare_calculus/sparecalculus/bisim/Partition" "positions" "[I" (.ref e2) ∧ Fld Z h a0 "com/example/spare_calculus/sparecalculus/bisim/Partition" "blockOf" "[I" (.ref e3) ∧ Fld Z h a0 "com/example/spare_calculus/sparecalculus/bisim/Partition" "blockStart" "[I" (.ref e4) ∧ Fld Z h a0 "com/example/spare_calculus/sparecalculus/bisim/Partition" "blockEnd" "[I" (.ref e5) ∧ Fld Z h a0 "com/example/spare_calculus/sparecalculus/bisim/Partition" "blockMarkedEnd" "[I" (.ref e6) ∧ Fld Z h a0 "com/example/spare_calculus/sparecalculus/bisim/Partition" "touchedBlocks" "[I" (.ref e7) ∧ Fld Z h a0 "com/example/spare_calculus/sparecalculus/bisim/Partition" "blockCount" "I" (.int bc) ∧ Fld Z h a0 "com/example/spare_calculus/sparecalculus/bisim/Partition" "touchedBlockCount" "I" (.int (g3_tc p1 el po bo bs bm tb bc tc)) ∧ own_Ints Z h e1 (g3_el p1 el po bo bs bm tb bc tc) ∧ own_Ints Z h e2 (g3_po p1 el po bo bs bm tb bc tc) ∧ own_Ints Z h e6 (g3_bm p1 el po bo bs bm tb bc tc) ∧ own_Ints Z h e7 (g3_tb p1 el po bo bs bm tb bc tc)
set_option maxRecDepth 65536 in
set_option maxHeartbeats 40000000 in
theorem rm3 (l : Launch) (Z : State) (aZ : Array Value) (hw : ∀ d ∈ tables_1, d.before aZ Z = true) (ws : List Jvm.Cond) (a0 : Addr) (p1 : Int32) (e1 : Addr) (e2 : Addr) (e3 : Addr) (e4 : Addr) (e5 : Addr) (e6 : Addr) (e7 : Addr) (el : List Int32) (po : List Int32) (bo : List Int32) (bs : List Int32) (bm : List Int32) (tb : List Int32) (bc : Int32) (tc : Int32) (h0 : Heap) (n0 : Nat) (Z0 : n0 ≤ h0.size) (P0 : Exa Z h0 a0 "com/example/spare_calculus/sparecalculus/bisim/Partition") (P1 : Fld Z h0 a0 "com/example/spare_calculus/sparecalculus/bisim/Partition" "elements" "[I" (.ref e1)) (P2 : Fld Z h0 a0 "com/example/spare_calculus/sparecalculus/bisim/Partition" "positions" "[I" (.ref e2)) (P3 : Fld Z h0 a0 "com/example/spare_calculus/sparecalculus/bisim/Partition" "blockOf" "[I" (.ref e3)) (P4 : Fld Z h0 a0 "com/example/spare_calculus/sparecalculus/bisim/Partition" "blockStart" "[I" (.ref e4)) (P5 : Fld Z h0 a0 "com/example/spare_calculus/sparecalculus/bisim/Partition" "blockEnd" "[I" (.ref e5)) (P6 : Fld Z h0 a0 "com/example/spare_calculus/sparecalculus/bisim/Partition" "blockMarkedEnd" "[I" (.ref e6)) (P7 : Fld Z h0 a0 "com/example/spare_calculus/sparecalculus/bisim/Partition" "touchedBlocks" "[I" (.ref e7)) (P8 : Fld Z h0 a0 "com/example/spare_calculus/sparecalculus/bisim/Partition" "blockCount" "I" (.int bc)) (P9 : Fld Z h0 a0 "com/example/spare_calculus/sparecalculus/bisim/Partition" "touchedBlockCount" "I" (.int tc)) (P10 : own_Ints Z h0 e1 el) (P11 : own_Ints Z h0 e2 po) (P12 : own_Ints Z h0 e3 bo) (P13 : own_Ints Z h0 e4 bs) (P14 : own_Ints Z h0 e6 bm) (P15 : own_Ints Z h0 e7 tb) (nq_a0_e1 : a0 ≠ e1) (nq_a0_e2 : a0 ≠ e2) (nq_a0_e3 : a0 ≠ e3) (nq_a0_e4 : a0 ≠ e4) (nq_a0_e6 : a0 ≠ e6) (nq_a0_e7 : a0 ≠ e7) (nq_e1_e2 : e1 ≠ e2) (nq_e1_e3 : e1 ≠ e3) (nq_e1_e4 : e1 ≠ e4) (nq_e1_e6 : e1 ≠ e6) (nq_e1_e7 : e1 ≠ e7) (nq_e2_e3 : e2 ≠ e3) (nq_e2_e4 : e2 ≠ e4) (nq_e2_e6 : e2 ≠ e6) (nq_e2_e7 : e2 ≠ e7) (nq_e3_e4 : e3 ≠ e4) (nq_e3_e6 : e3 ≠ e6) (nq_e3_e7 : e3 ≠ e7) (nq_e4_e6 : e4 ≠ e6) (nq_e4_e7 : e4 ≠ e7) (nq_e6_e7 : e6 ≠ e7) (gq_a0 : n0 ≤ a0) (gq_e1 : n0 ≤ e1) (gq_e2 : n0 ≤ e2) (gq_e6 : n0 ≤ e6) (gq_e7 : n0 ≤ e7) (hl253 : ((f4 p1 (0:Int32)) = (0:Int32)) → ((f4 p1 (1:Int32)) = (0:Int32)) → ((f4 p1 (2:Int32)) = (0:Int32)) → (¬ ((f4 p1 (3:Int32)) = (0:Int32))) → (own_In (3:Int32) bo.length) ∧ (own_In (own_at bo (3:Int32)) bm.length) ∧ (own_In (3:Int32) po.length) ∧ (¬ ((own_at po (3:Int32)) < (own_at bm (own_at bo (3:Int32)))) → own_In (own_at bo (3:Int32)) bs.length) ∧ (¬ ((own_at po (3:Int32)) < (own_at bm (own_at bo (3:Int32)))) → own_In (own_at bm (own_at bo (3:Int32))) el.length) ∧ (¬ ((own_at po (3:Int32)) < (own_at bm (own_at bo (3:Int32)))) → own_In (own_at po (3:Int32)) el.length) ∧ (¬ ((own_at po (3:Int32)) < (own_at bm (own_at bo (3:Int32)))) → own_In (own_at el (own_at bm (own_at bo (3:Int32)))) po.length) ∧ (¬ ((own_at po (3:Int32)) < (own_at bm (own_at bo (3:Int32)))) → (own_at bm (own_at bo (3:Int32))) = (own_at bs (own_at bo (3:Int32))) → own_In tc tb.length)) (hl279 : ((f4 p1 (0:Int32)) = (0:Int32)) → ((f4 p1 (1:Int32)) = (0:Int32)) → (¬ ((f4 p1 (2:Int32)) = (0:Int32))) → (own_In (2:Int32) bo.length) ∧ (own_In (own_at bo (2:Int32)) bm.length) ∧ (own_In (2:Int32) po.length) ∧ (¬ ((own_at po (2:Int32)) < (own_at bm (own_at bo (2:Int32)))) → own_In (own_at bo (2:Int32)) bs.length) ∧ (¬ ((own_at po (2:Int32)) < (own_at bm (own_at bo (2:Int32)))) → own_In (own_at bm (own_at bo (2:Int32))) el.length) ∧ (¬ ((own_at po (2:Int32)) < (own_at bm (own_at bo (2:Int32)))) → own_In (own_at po (2:Int32)) el.length) ∧ (¬ ((own_at po (2:Int32)) < (own_at bm (own_at bo (2:Int32)))) → own_In (own_at el (own_at bm (own_at bo (2:Int32)))) po.length) ∧ (¬ ((own_at po (2:Int32)) < (own_at bm (own_at bo (2:Int32)))) → (own_at bm (own_at bo (2:Int32))) = (own_at bs (own_at bo (2:Int32))) → own_In tc tb.length)) (hl309 : ((f4 p1 (0:Int32)) = (0:Int32)) → ((f4 p1 (1:Int32)) = (0:Int32)) → (¬ ((f4 p1 (2:Int32)) = (0:Int32))) → (¬ ((f4 p1 (3:Int32)) = (0:Int32))) → (own_In (3:Int32) bo.length) ∧ (own_In (own_at bo (3:Int32)) (own_v300 el po bo bs bm tb bc tc).length) ∧ (own_In (3:Int32) (own_v298 el po bo bs bm tb bc tc).length) ∧ (¬ ((own_at (own_v298 el po bo bs bm tb bc tc) (3:Int32)) < (own_at (own_v300 el po bo bs bm tb bc tc) (own_at bo (3:Int32)))) → own_In (own_at bo (3:Int32)) bs.length) ∧ (¬ ((own_at (own_v298 el po bo bs bm tb bc tc) (3:Int32)) < (own_at (own_v300 el po bo bs bm tb bc tc) (own_at bo (3:Int32)))) → own_In (own_at (own_v300 el po bo bs bm tb bc tc) (own_at bo (3:Int32))) (own_v296 el po bo bs bm tb bc tc).length) ∧ (¬ ((own_at (own_v298 el po bo bs bm tb bc tc) (3:Int32)) < (own_at (own_v300 el po bo bs bm tb bc tc) (own_at bo (3:Int32)))) → own_In (own_at (own_v298 el po bo bs bm tb bc tc) (3:Int32)) (own_v296 el po bo bs bm tb bc tc).length) ∧ (¬ ((own_at (own_v298 el po bo bs bm tb bc tc) (3:Int32)) < (own_at (own_v300 el po bo bs bm tb bc tc) (own_at bo (3:Int32)))) → own_In (own_at (own_v296 el po bo bs bm tb bc tc) (own_at (own_v300 el po bo bs bm tb bc tc) (own_at bo (3:Int32)))) (own_v298 el po bo bs bm tb bc tc).length) ∧ (¬ ((own_at (own_v298 el po bo bs bm tb bc tc) (3:Int32)) < (own_at (own_v300 el po bo bs bm tb bc tc) (own_at bo (3:Int32)))) → (own_at (own_v300 el po bo bs bm tb bc tc) (own_at bo (3:Int32))) = (own_at bs (own_at bo (3:Int32))) → own_In (own_v294 el po bo bs bm tb bc tc) (own_v302 el po bo bs bm tb bc tc).length)) (hl335 : ((f4 p1 (0:Int32)) = (0:Int32)) → (¬ ((f4 p1 (1:Int32)) = (0:Int32))) → (own_In (1:Int32) bo.length) ∧ (own_In (own_at bo (1:Int32)) bm.length) ∧ (own_In (1:Int32) po.length) ∧ (¬ ((own_at po (1:Int32)) < (own_at bm (own_at bo (1:Int32)))) → own_In (own_at bo (1:Int32)) bs.length) ∧ (¬ ((own_at po (1:Int32)) < (own_at bm (own_at bo (1:Int32)))) → own_In (own_at bm (own_at bo (1:Int32))) el.length) ∧ (¬ ((own_at po (1:Int32)) < (own_at bm (own_at bo (1:Int32)))) → own_In (own_at po (1:Int32)) el.length) ∧ (¬ ((own_at po (1:Int32)) < (own_at bm (own_at bo (1:Int32)))) → own_In (own_at el (own_at bm (own_at bo (1:Int32)))) po.length) ∧ (¬ ((own_at po (1:Int32)) < (own_at bm (own_at bo (1:Int32)))) → (own_at bm (own_at bo (1:Int32))) = (own_at bs (own_at bo (1:Int32))) → own_In tc tb.length)) (hl366 : ((f4 p1 (0:Int32)) = (0:Int32)) → (¬ ((f4 p1 (1:Int32)) = (0:Int32))) → ((f4 p1 (2:Int32)) = (0:Int32)) → (¬ ((f4 p1 (3:Int32)) = (0:Int32))) → (own_In (3:Int32) bo.length) ∧ (own_In (own_at bo (3:Int32)) (own_v356 el po bo bs bm tb bc tc).length) ∧ (own_In (3:Int32) (own_v354 el po bo bs bm tb bc tc).length) ∧ (¬ ((own_at (own_v354 el po bo bs bm tb bc tc) (3:Int32)) < (own_at (own_v356 el po bo bs bm tb bc tc) (own_at bo (3:Int32)))) → own_In (own_at bo (3:Int32)) bs.length) ∧ (¬ ((own_at (own_v354 el po bo bs bm tb bc tc) (3:Int32)) < (own_at (own_v356 el po bo bs bm tb bc tc) (own_at bo (3:Int32)))) → own_In (own_at (own_v356 el po bo bs bm tb bc tc) (own_at bo (3:Int32))) (own_v352 el po bo bs bm tb bc tc).length) ∧ (¬ ((own_at (own_v354 el po bo bs bm tb bc tc) (3:Int32)) < (own_at (own_v356 el po bo bs bm tb bc tc) (own_at bo (3:Int32)))) → own_In (own_at (own_v354 el po bo bs bm tb bc tc) (3:Int32)) (own_v352 el po bo bs bm tb bc tc).length) ∧ (¬ ((own_at (own_v354 el po bo bs bm tb bc tc) (3:Int32)) < (own_at (own_v356 el po bo bs bm tb bc tc) (own_at bo (3:Int32)))) → own_In (own_at (own_v352 el po bo bs bm tb bc tc) (own_at (own_v356 el po bo bs bm tb bc tc) (own_at bo (3:Int32)))) (own_v354 el po bo bs bm tb bc tc).length) ∧ (¬ ((own_at (own_v354 el po bo bs bm tb bc tc) (3:Int32)) < (own_at (own_v356 el po bo bs bm tb bc tc) (own_at bo (3:Int32)))) → (own_at (own_v356 el po bo bs bm tb bc tc) (own_at bo (3:Int32))) = (own_at bs (own_at bo (3:Int32))) → own_In (own_v350 el po bo bs bm tb bc tc) (own_v358 el po bo bs bm tb bc tc).length)) (hl395 : ((f4 p1 (0:Int32)) = (0:Int32)) → (¬ ((f4 p1 (1:Int32)) = (0:Int32))) → (¬ ((f4 p1 (2:Int32)) = (0:Int32))) → (own_In (2:Int32) bo.length) ∧ (own_In (own_at bo (2:Int32)) (own_v356 el po bo bs bm tb bc tc).length) ∧ (own_In (2:Int32) (own_v354 el po bo bs bm tb bc tc).length) ∧ (¬ ((own_at (own_v354 el po bo bs bm tb bc tc) (2:Int32)) < (own_at (own_v356 el po bo bs bm tb bc tc) (own_at bo (2:Int32)))) → own_In (own_at bo (2:Int32)) bs.length) ∧ (¬ ((own_at (own_v354 el po bo bs bm tb bc tc) (2:Int32)) < (own_at (own_v356 el po bo bs bm tb bc tc) (own_at bo (2:Int32)))) → own_In (own_at (own_v356 el po bo bs bm tb bc tc) (own_at bo (2:Int32))) (own_v352 el po bo bs bm tb bc tc).length) ∧ (¬ ((own_at (own_v354 el po bo bs bm tb bc tc) (2:Int32)) < (own_at (own_v356 el po bo bs bm tb bc tc) (own_at bo (2:Int32)))) → own_In (own_at (own_v354 el po bo bs bm tb bc tc) (2:Int32)) (own_v352 el po bo bs bm tb bc tc).length) ∧ (¬ ((own_at (own_v354 el po bo bs bm tb bc tc) (2:Int32)) < (own_at (own_v356 el po bo bs bm tb bc tc) (own_at bo (2:Int32)))) → own_In (own_at (own_v352 el po bo bs bm tb bc tc) (own_at (own_v356 el po bo bs bm tb bc tc) (own_at bo (2:Int32)))) (own_v354 el po bo bs bm tb bc tc).length) ∧ (¬ ((own_at (own_v354 el po bo bs bm tb bc tc) (2:Int32)) < (own_at (own_v356 el po bo bs bm tb bc tc) (own_at bo (2:Int32)))) → (own_at (own_v356 el po bo bs bm tb bc tc) (own_at bo (2:Int32))) = (own_at bs (own_at bo (2:Int32))) → own_In (own_v350 el po bo bs bm tb bc tc) (own_v358 el po bo bs bm tb bc tc).length)) (hl425 : ((f4 p1 (0:Int32)) = (0:Int32)) → (¬ ((f4 p1 (1:Int32)) = (0:Int32))) → (¬ ((f4 p1 (2:Int32)) = (0:Int32))) → (¬ ((f4 p1 (3:Int32)) = (0:Int32))) → (own_In (3:Int32) bo.length) ∧ (own_In (own_at bo (3:Int32)) (own_v416 el po bo bs bm tb bc tc).length) ∧ (own_In (3:Int32) (own_v414 el po bo bs bm tb bc tc).length) ∧ (¬ ((own_at (own_v414 el po bo bs bm tb bc tc) (3:Int32)) < (own_at (own_v416 el po bo bs bm tb bc tc) (own_at bo (3:Int32)))) → own_In (own_at bo (3:Int32)) bs.length) ∧ (¬ ((own_at (own_v414 el po bo bs bm tb bc tc) (3:Int32)) < (own_at (own_v416 el po bo bs bm tb bc tc) (own_at bo (3:Int32)))) → own_In (own_at (own_v416 el po bo bs bm tb bc tc) (own_at bo (3:Int32))) (own_v412 el po bo bs bm tb bc tc).length) ∧ (¬ ((own_at (own_v414 el po bo bs bm tb bc tc) (3:Int32)) < (own_at (own_v416 el po bo bs bm tb bc tc) (own_at bo (3:Int32)))) → own_In (own_at (own_v414 el po bo bs bm tb bc tc) (3:Int32)) (own_v412 el po bo bs bm tb bc tc).length) ∧ (¬ ((own_at (own_v414 el po bo bs bm tb bc tc) (3:Int32)) < (own_at (own_v416 el po bo bs bm tb bc tc) (own_at bo (3:Int32)))) → own_In (own_at (own_v412 el po bo bs bm tb bc tc) (own_at (own_v416 el po bo bs bm tb bc tc) (own_at bo (3:Int32)))) (own_v414 el po bo bs bm tb bc tc).length) ∧ (¬ ((own_at (own_v414 el po bo bs bm tb bc tc) (3:Int32)) < (own_at (own_v416 el po bo bs bm tb bc tc) (own_at bo (3:Int32)))) → (own_at (own_v416 el po bo bs bm tb bc tc) (own_at bo (3:Int32))) = (own_at bs (own_at bo (3:Int32))) → own_In (own_v410 el po bo bs bm tb bc tc) (own_v418 el po bo bs bm tb bc tc).length)) (hl451 : (¬ ((f4 p1 (0:Int32)) = (0:Int32))) → (own_In (0:Int32) bo.length) ∧ (own_In (own_at bo (0:Int32)) bm.length) ∧ (own_In (0:Int32) po.length) ∧ (¬ ((own_at po (0:Int32)) < (own_at bm (own_at bo (0:Int32)))) → own_In (own_at bo (0:Int32)) bs.length) ∧ (¬ ((own_at po (0:Int32)) < (own_at bm (own_at bo (0:Int32)))) → own_In (own_at bm (own_at bo (0:Int32))) el.length) ∧ (¬ ((own_at po (0:Int32)) < (own_at bm (own_at bo (0:Int32)))) → own_In (own_at po (0:Int32)) el.length) ∧ (¬ ((own_at po (0:Int32)) < (own_at bm (own_at bo (0:Int32)))) → own_In (own_at el (own_at bm (own_at bo (0:Int32)))) po.length) ∧ (¬ ((own_at po (0:Int32)) < (own_at bm (own_at bo (0:Int32)))) → (own_at bm (own_at bo (0:Int32))) = (own_at bs (own_at bo (0:Int32))) → own_In tc tb.length)) (hl483 : (¬ ((f4 p1 (0:Int32)) = (0:Int32))) → ((f4 p1 (1:Int32)) = (0:Int32)) → ((f4 p1 (2:Int32)) = (0:Int32)) → (¬ ((f4 p1 (3:Int32)) = (0:Int32))) → (own_In (3:Int32) bo.length) ∧ (own_In (own_at bo (3:Int32)) (own_v472 el po bo bs bm tb bc tc).length) ∧ (own_In (3:Int32) (own_v470 el po bo bs bm tb bc tc).length) ∧ (¬ ((own_at (own_v470 el po bo bs bm tb bc tc) (3:Int32)) < (own_at (own_v472 el po bo bs bm tb bc tc) (own_at bo (3:Int32)))) → own_In (own_at bo (3:Int32)) bs.length) ∧ (¬ ((own_at (own_v470 el po bo bs bm tb bc tc) (3:Int32)) < (own_at (own_v472 el po bo bs bm tb bc tc) (own_at bo (3:Int32)))) → own_In (own_at (own_v472 el po bo bs bm tb bc tc) (own_at bo (3:Int32))) (own_v468 el po bo bs bm tb bc tc).length) ∧ (¬ ((own_at (own_v470 el po bo bs bm tb bc tc) (3:Int32)) < (own_at (own_v472 el po bo bs bm tb bc tc) (own_at bo (3:Int32)))) → own_In (own_at (own_v470 el po bo bs bm tb bc tc) (3:Int32)) (own_v468 el po bo bs bm tb bc tc).length) ∧ (¬ ((own_at (own_v470 el po bo bs bm tb bc tc) (3:Int32)) < (own_at (own_v472 el po bo bs bm tb bc tc) (own_at bo (3:Int32)))) → own_In (own_at (own_v468 el po bo bs bm tb bc tc) (own_at (own_v472 el po bo bs bm tb bc tc) (own_at bo (3:Int32)))) (own_v470 el po bo bs bm tb bc tc).length) ∧ (¬ ((own_at (own_v470 el po bo bs bm tb bc tc) (3:Int32)) < (own_at (own_v472 el po bo bs bm tb bc tc) (own_at bo (3:Int32)))) → (own_at (own_v472 el po bo bs bm tb bc tc) (own_at bo (3:Int32))) = (own_at bs (own_at bo (3:Int32))) → own_In (own_v466 el po bo bs bm tb bc tc) (own_v474 el po bo bs bm tb bc tc).length)) (hl512 : (¬ ((f4 p1 (0:Int32)) = (0:Int32))) → ((f4 p1 (1:Int32)) = (0:Int32)) → (¬ ((f4 p1 (2:Int32)) = (0:Int32))) → (own_In (2:Int32) bo.length) ∧ (own_In (own_at bo (2:Int32)) (own_v472 el po bo bs bm tb bc tc).length) ∧ (own_In (2:Int32) (own_v470 el po bo bs bm tb bc tc).length) ∧ (¬ ((own_at (own_v470 el po bo bs bm tb bc tc) (2:Int32)) < (own_at (own_v472 el po bo bs bm tb bc tc) (own_at bo (2:Int32)))) → own_In (own_at bo (2:Int32)) bs.length) ∧ (¬ ((own_at (own_v470 el po bo bs bm tb bc tc) (2:Int32)) < (own_at (own_v472 el po bo bs bm tb bc tc) (own_at bo (2:Int32)))) → own_In (own_at (own_v472 el po bo bs bm tb bc tc) (own_at bo (2:Int32))) (own_v468 el po bo bs bm tb bc tc).length) ∧ (¬ ((own_at (own_v470 el po bo bs bm tb bc tc) (2:Int32)) < (own_at (own_v472 el po bo bs bm tb bc tc) (own_at bo (2:Int32)))) → own_In (own_at (own_v470 el po bo bs bm tb bc tc) (2:Int32)) (own_v468 el po bo bs bm tb bc tc).length) ∧ (¬ ((own_at (own_v470 el po bo bs bm tb bc tc) (2:Int32)) < (own_at (own_v472 el po bo bs bm tb bc tc) (own_at bo (2:Int32)))) → own_In (own_at (own_v468 el po bo bs bm tb bc tc) (own_at (own_v472 el po bo bs bm tb bc tc) (own_at bo (2:Int32)))) (own_v470 el po bo bs bm tb bc tc).length) ∧ (¬ ((own_at (own_v470 el po bo bs bm tb bc tc) (2:Int32)) < (own_at (own_v472 el po bo bs bm tb bc tc) (own_at bo (2:Int32)))) → (own_at (own_v472 el po bo bs bm tb bc tc) (own_at bo (2:Int32))) = (own_at bs (own_at bo (2:Int32))) → own_In (own_v466 el po bo bs bm tb bc tc) (own_v474 el po bo bs bm tb bc tc).length)) (hl542 : (¬ ((f4 p1 (0:Int32)) = (0:Int32))) → ((f4 p1 (1:Int32)) = (0:Int32)) → (¬ ((f4 p1 (2:Int32)) = (0:Int32))) → (¬ ((f4 p1 (3:Int32)) = (0:Int32))) → (own_In (3:Int32) bo.length) ∧ (own_In (own_at bo (3:Int32)) (own_v533 el po bo bs bm tb bc tc).length) ∧ (own_In (3:Int32) (own_v531 el po bo bs bm tb bc tc).length) ∧ (¬ ((own_at (own_v531 el po bo bs bm tb bc tc) (3:Int32)) < (own_at (own_v533 el po bo bs bm tb bc tc) (own_at bo (3:Int32)))) → own_In (own_at bo (3:Int32)) bs.length) ∧ (¬ ((own_at (own_v531 el po bo bs bm tb bc tc) (3:Int32)) < (own_at (own_v533 el po bo bs bm tb bc tc) (own_at bo (3:Int32)))) → own_In (own_at (own_v533 el po bo bs bm tb bc tc) (own_at bo (3:Int32))) (own_v529 el po bo bs bm tb bc tc).length) ∧ (¬ ((own_at (own_v531 el po bo bs bm tb bc tc) (3:Int32)) < (own_at (own_v533 el po bo bs bm tb bc tc) (own_at bo (3:Int32)))) → own_In (own_at (own_v531 el po bo bs bm tb bc tc) (3:Int32)) (own_v529 el po bo bs bm tb bc tc).length) ∧ (¬ ((own_at (own_v531 el po bo bs bm tb bc tc) (3:Int32)) < (own_at (own_v533 el po bo bs bm tb bc tc) (own_at bo (3:Int32)))) → own_In (own_at (own_v529 el po bo bs bm tb bc tc) (own_at (own_v533 el po bo bs bm tb bc tc) (own_at bo (3:Int32)))) (own_v531 el po bo bs bm tb bc tc).length) ∧ (¬ ((own_at (own_v531 el po bo bs bm tb bc tc) (3:Int32)) < (own_at (own_v533 el po bo bs bm tb bc tc) (own_at bo (3:Int32)))) → (own_at (own_v533 el po bo bs bm tb bc tc) (own_at bo (3:Int32))) = (own_at bs (own_at bo (3:Int32))) → own_In (own_v527 el po bo bs bm tb bc tc) (own_v535 el po bo bs bm tb bc tc).length)) (hl571 : (¬ ((f4 p1 (0:Int32)) = (0:Int32))) → (¬ ((f4 p1 (1:Int32)) = (0:Int32))) → (own_In (1:Int32) bo.length) ∧ (own_In (own_at bo (1:Int32)) (own_v472 el po bo bs bm tb bc tc).length) ∧ (own_In (1:Int32) (own_v470 el po bo bs bm tb bc tc).length) ∧ (¬ ((own_at (own_v470 el po bo bs bm tb bc tc) (1:Int32)) < (own_at (own_v472 el po bo bs bm tb bc tc) (own_at bo (1:Int32)))) → own_In (own_at bo (1:Int32)) bs.length) ∧ (¬ ((own_at (own_v470 el po bo bs bm tb bc tc) (1:Int32)) < (own_at (own_v472 el po bo bs bm tb bc tc) (own_at bo (1:Int32)))) → own_In (own_at (own_v472 el po bo bs bm tb bc tc) (own_at bo (1:Int32))) (own_v468 el po bo bs bm tb bc tc).length) ∧ (¬ ((own_at (own_v470 el po bo bs bm tb bc tc) (1:Int32)) < (own_at (own_v472 el po bo bs bm tb bc tc) (own_at bo (1:Int32)))) → own_In (own_at (own_v470 el po bo bs bm tb bc tc) (1:Int32)) (own_v468 el po bo bs bm tb bc tc).length) ∧ (¬ ((own_at (own_v470 el po bo bs bm tb bc tc) (1:Int32)) < (own_at (own_v472 el po bo bs bm tb bc tc) (own_at bo (1:Int32)))) → own_In (own_at (own_v468 el po bo bs bm tb bc tc) (own_at (own_v472 el po bo bs bm tb bc tc) (own_at bo (1:Int32)))) (own_v470 el po bo bs bm tb bc tc).length) ∧ (¬ ((own_at (own_v470 el po bo bs bm tb bc tc) (1:Int32)) < (own_at (own_v472 el po bo bs bm tb bc tc) (own_at bo (1:Int32)))) → (own_at (own_v472 el po bo bs bm tb bc tc) (own_at bo (1:Int32))) = (own_at bs (own_at bo (1:Int32))) → own_In (own_v466 el po bo bs bm tb bc tc) (own_v474 el po bo bs bm tb bc tc).length)) (hl602 : (¬ ((f4 p1 (0:Int32)) = (0:Int32))) → (¬ ((f4 p1 (1:Int32)) = (0:Int32))) → ((f4 p1 (2:Int32)) = (0:Int32)) → (¬ ((f4 p1 (3:Int32)) = (0:Int32))) → (own_In (3:Int32) bo.length) ∧ (own_In (own_at bo (3:Int32)) (own_v592 el po bo bs bm tb bc tc).length) ∧ (own_In (3:Int32) (own_v590 el po bo bs bm tb bc tc).length) ∧ (¬ ((own_at (own_v590 el po bo bs bm tb bc tc) (3:Int32)) < (own_at (own_v592 el po bo bs bm tb bc tc) (own_at bo (3:Int32)))) → own_In (own_at bo (3:Int32)) bs.length) ∧ (¬ ((own_at (own_v590 el po bo bs bm tb bc tc) (3:Int32)) < (own_at (own_v592 el po bo bs bm tb bc tc) (own_at bo (3:Int32)))) → own_In (own_at (own_v592 el po bo bs bm tb bc tc) (own_at bo (3:Int32))) (own_v588 el po bo bs bm tb bc tc).length) ∧ (¬ ((own_at (own_v590 el po bo bs bm tb bc tc) (3:Int32)) < (own_at (own_v592 el po bo bs bm tb bc tc) (own_at bo (3:Int32)))) → own_In (own_at (own_v590 el po bo bs bm tb bc tc) (3:Int32)) (own_v588 el po bo bs bm tb bc tc).length) ∧ (¬ ((own_at (own_v590 el po bo bs bm tb bc tc) (3:Int32)) < (own_at (own_v592 el po bo bs bm tb bc tc) (own_at bo (3:Int32)))) → own_In (own_at (own_v588 el po bo bs bm tb bc tc) (own_at (own_v592 el po bo bs bm tb bc tc) (own_at bo (3:Int32)))) (own_v590 el po bo bs bm tb bc tc).length) ∧ (¬ ((own_at (own_v590 el po bo bs bm tb bc tc) (3:Int32)) < (own_at (own_v592 el po bo bs bm tb bc tc) (own_at bo (3:Int32)))) → (own_at (own_v592 el po bo bs bm tb bc tc) (own_at bo (3:Int32))) = (own_at bs (own_at bo (3:Int32))) → own_In (own_v586 el po bo bs bm tb bc tc) (own_v594 el po bo bs bm tb bc tc).length)) (hl631 : (¬ ((f4 p1 (0:Int32)) = (0:Int32))) → (¬ ((f4 p1 (1:Int32)) = (0:Int32))) → (¬ ((f4 p1 (2:Int32)) = (0:Int32))) → (own_In (2:Int32) bo.length) ∧ (own_In (own_at bo (2:Int32)) (own_v592 el po bo bs bm tb bc tc).length) ∧ (own_In (2:Int32) (own_v590 el po bo bs bm tb bc tc).length) ∧ (¬ ((own_at (own_v590 el po bo bs bm tb bc tc) (2:Int32)) < (own_at (own_v592 el po bo bs bm tb bc tc) (own_at bo (2:Int32)))) → own_In (own_at bo (2:Int32)) bs.length) ∧ (¬ ((own_at (own_v590 el po bo bs bm tb bc tc) (2:Int32)) < (own_at (own_v592 el po bo bs bm tb bc tc) (own_at bo (2:Int32)))) → own_In (own_at (own_v592 el po bo bs bm tb bc tc) (own_at bo (2:Int32))) (own_v588 el po bo bs bm tb bc tc).length) ∧ (¬ ((own_at (own_v590 el po bo bs bm tb bc tc) (2:Int32)) < (own_at (own_v592 el po bo bs bm tb bc tc) (own_at bo (2:Int32)))) → own_In (own_at (own_v590 el po bo bs bm tb bc tc) (2:Int32)) (own_v588 el po bo bs bm tb bc tc).length) ∧ (¬ ((own_at (own_v590 el po bo bs bm tb bc tc) (2:Int32)) < (own_at (own_v592 el po bo bs bm tb bc tc) (own_at bo (2:Int32)))) → own_In (own_at (own_v588 el po bo bs bm tb bc tc) (own_at (own_v592 el po bo bs bm tb bc tc) (own_at bo (2:Int32)))) (own_v590 el po bo bs bm tb bc tc).length) ∧ (¬ ((own_at (own_v590 el po bo bs bm tb bc tc) (2:Int32)) < (own_at (own_v592 el po bo bs bm tb bc tc) (own_at bo (2:Int32)))) → (own_at (own_v592 el po bo bs bm tb bc tc) (own_at bo (2:Int32))) = (own_at bs (own_at bo (2:Int32))) → own_In (own_v586 el po bo bs bm tb bc tc) (own_v594 el po bo bs bm tb bc tc).length)) (hl661 : (¬ ((f4 p1 (0:Int32)) = (0:Int32))) → (¬ ((f4 p1 (1:Int32)) = (0:Int32))) → (¬ ((f4 p1 (2:Int32)) = (0:Int32))) → (¬ ((f4 p1 (3:Int32)) = (0:Int32))) → (own_In (3:Int32) bo.length) ∧ (own_In (own_at bo (3:Int32)) (own_v652 el po bo bs bm tb bc tc).length) ∧ (own_In (3:Int32) (own_v650 el po bo bs bm tb bc tc).length) ∧ (¬ ((own_at (own_v650 el po bo bs bm tb bc tc) (3:Int32)) < (own_at (own_v652 el po bo bs bm tb bc tc) (own_at bo (3:Int32)))) → own_In (own_at bo (3:Int32)) bs.length) ∧ (¬ ((own_at (own_v650 el po bo bs bm tb bc tc) (3:Int32)) < (own_at (own_v652 el po bo bs bm tb bc tc) (own_at bo (3:Int32)))) → own_In (own_at (own_v652 el po bo bs bm tb bc tc) (own_at bo (3:Int32))) (own_v648 el po bo bs bm tb bc tc).length) ∧ (¬ ((own_at (own_v650 el po bo bs bm tb bc tc) (3:Int32)) < (own_at (own_v652 el po bo bs bm tb bc tc) (own_at bo (3:Int32)))) → own_In (own_at (own_v650 el po bo bs bm tb bc tc) (3:Int32)) (own_v648 el po bo bs bm tb bc tc).length) ∧ (¬ ((own_at (own_v650 el po bo bs bm tb bc tc) (3:Int32)) < (own_at (own_v652 el po bo bs bm tb bc tc) (own_at bo (3:Int32)))) → own_In (own_at (own_v648 el po bo bs bm tb bc tc) (own_at (own_v652 el po bo bs bm tb bc tc) (own_at bo (3:Int32)))) (own_v650 el po bo bs bm tb bc tc).length) ∧ (¬ ((own_at (own_v650 el po bo bs bm tb bc tc) (3:Int32)) < (own_at (own_v652 el po bo bs bm tb bc tc) (own_at bo (3:Int32)))) → (own_at (own_v652 el po bo bs bm tb bc tc) (own_at bo (3:Int32))) = (own_at bs (own_at bo (3:Int32))) → own_In (own_v646 el po bo bs bm tb bc tc) (own_v654 el po bo bs bm tb bc tc).length)) :
    MetFree l (⟨"com/example/spare_calculus/sparecalculus/bisim/PartitionSplitOffMarkedPinLaw", "markAll", "(Lcom/example/spare_calculus/sparecalculus/bisim/Partition;I)V"⟩ : MethodName) (head1 (Jvm.Cond.code (⟨"com/example/spare_calculus/sparecalculus/bisim/PartitionSplitOffMarkedPinLaw", "markAll", "(Lcom/example/spare_calculus/sparecalculus/bisim/Partition;I)V"⟩ : MethodName) method_4_code 2 none :: ws) ({ frames := 1, cells := 0, slots := 0, locals := 17 } : Room)) (fun a U => a = #[(.ref a0), (.int p1)] ∧ Z.Warmed39 U.vm ∧ U.heap = h0) (fun _ _ _ _ _ => True) (fun _ U o U' => ∃ v L, o = .returned v ∧ Q3 Z a0 p1 e1 e2 e3 e4 e5 e6 e7 el po bo bs bm tb bc tc h0 n0 v U'.heap L ∧ FrameEnd U o U' L ({ frames := 1, cells := 0, slots := 0, locals := 17 } : Room).cells ({ frames := 1, cells := 0, slots := 0, locals := 17 } : Room).slots) := by
  refine MetFree.of_bodySF (plainFor_of_name own_pn1) hisR ?_
  intro p e s m args below meth c s₁ Bd hml0 hP hK
  obtain ⟨rfl, hZ, hh⟩ := hP
  have hx := Bd.exec
  have hby := Bd.bytes
  have hml : c.maxLocals = 2 := hml0
  have hown : s.vm.findClass "com/example/spare_calculus/sparecalculus/bisim/PartitionSplitOffMarkedPinLaw" = some m.cls := findClass_of_methodNamed Bd.named
  have hnm := (name_of_methodNamed Bd.named Bd.method).1
  have X0 : Stand p l e ({ frames := 1, cells := 0, slots := 0, locals := 17 } : Room) s m #[(.ref a0), (.int p1)] below meth c s₁ [] 0 0 := Stand.of_body Bd
  have e0 : s₁.heap = h0 := by rw [← hh, Bd.state]; rfl
  have N0 := Fr.nil n0
  have Kp0 : Keep h0 h0 [a0, e1, e2, e6, e7] := Keep.refl _ _
  show own_Goes p e below s (Q3 Z a0 p1 e1 e2 e3 e4 e5 e6 e7 el po bo bs bm tb bc tc h0 n0) ({ frames := 1, cells := 0, slots := 0, locals := 17 } : Room).cells ({ frames := 1, cells := 0, slots := 0, locals := 17 } : Room).slots _
  refine own_pre (fun t k => castTop (ef3 m a0 p1) k) ?_
  refine own_pre (A := s₁.setTop (mkF m 2 #[rv a0, iv p1] [(.int (0:Int32)), (.int p1)])) (fun t k => ?_) ?_
  · show Steps p.tables e below (s₁.setTop (mkF m 0 #[rv a0, iv p1] [])) _
    refine XS.iloadN X0.here hx rfl (hb hby d3_0) rfl ?_
    show Steps p.tables e below (s₁.setTop (mkF m 1 #[rv a0, iv p1] [(.int p1)])) _
    refine XS.iconst X0.here hx rfl (hb hby d3_1) ?_
    exact k
  obtain ⟨_, _, ⟨T248, L248, k248, n248⟩, -, X248, ⟨Lc248, hQ248, l248, y248, z248⟩, st248⟩ := Jvm.LawKit.callS X0 hx (y := (⟨"com/example/spare_calculus/sparecalculus/bisim/PartitionSplitOffMarkedPinLaw", "bit", "(II)Z"⟩ : MethodName)) hown (mvT hZ (own_h hw 30 rfl)) (mvT hZ (own_h hw 31 rfl)) (mvT hZ (own_h hw 28 rfl)) (mvT hZ (own_h hw 32 rfl)) (by decide) (backOf (W := 0) (rm4 l Z aZ hw [] p1 (0:Int32) h0 n0 Z0 ) hZ (own_h hw 32 rfl) (own_h hw 28 rfl) (by decide) (by decide)) (g := (mkF m 2 #[rv a0, iv p1] [(.int (0:Int32)), (.int p1)])) rfl (by rw [hml]; rfl) (argsL := [(.int p1), (.int (0:Int32))]) (rest := []) (lenOf own_pd0 rfl) rfl (by show 2 * 0 + _ ≤ _; exact Nat.le_of_eq rfl) (hb hby d3_2) (fun _ _ => ⟨rfl, e0, (by decide : 0 + 0 ≤ _), (by decide : 0 + 0 ≤ _)⟩)
  dsimp only [Pt.U, Pt.locs, Pt.cells, Pt.slots] at X248 l248 y248 z248 st248 hQ248
  subst l248 y248 z248
  obtain ⟨rfl, N248q, eh248⟩ := hQ248
  have N248 := Fr.app N0 N248q
  refine own_pre st248 ?_
  by_cases hs5_1 : (f4 p1 (0:Int32)) = (0:Int32)
  · refine own_pre (A := T248.setTop (mkF m 15 #[rv a0, iv p1] [(.int (1:Int32)), (.int p1)])) (fun t k => ?_) ?_
    · show Steps p.tables e below (T248.setTop (mkF m 5 #[rv a0, iv p1] [(.int (f4 p1 (0:Int32)))])) _
      refine XS.ifYes X248.here hx rfl (pc0 := 5) (pc' := 13) rfl (hb hby d3_5) rfl (XT.i0_eq_t hs5_1) (by decide) (by decide) ?_
      show Steps p.tables e below (T248.setTop (mkF m 13 #[rv a0, iv p1] [])) _
      refine XS.iloadN X248.here hx rfl (hb hby d3_13) rfl ?_
      show Steps p.tables e below (T248.setTop (mkF m 14 #[rv a0, iv p1] [(.int p1)])) _
      refine XS.iconst X248.here hx rfl (hb hby d3_14) ?_
      exact k
    obtain ⟨_, _, ⟨T249, L249, k249, n249⟩, -, X249, ⟨Lc249, hQ249, l249, y249, z249⟩, st249⟩ := Jvm.LawKit.callS X248 hx (y := (⟨"com/example/spare_calculus/sparecalculus/bisim/PartitionSplitOffMarkedPinLaw", "bit", "(II)Z"⟩ : MethodName)) hown (mvT hZ (own_h hw 30 rfl)) (mvT hZ (own_h hw 31 rfl)) (mvT hZ (own_h hw 28 rfl)) (mvT hZ (own_h hw 32 rfl)) (by decide) (backOf (W := 0) (rm4 l Z aZ hw [] p1 (1:Int32) h0 n0 Z0 ) hZ (own_h hw 32 rfl) (own_h hw 28 rfl) (by decide) (by decide)) (g := (mkF m 15 #[rv a0, iv p1] [(.int (1:Int32)), (.int p1)])) rfl (by rw [hml]; rfl) (argsL := [(.int p1), (.int (1:Int32))]) (rest := []) (lenOf own_pd0 rfl) rfl (by show 2 * 0 + _ ≤ _; exact Nat.le_of_eq rfl) (hb hby d3_15) (fun _ _ => ⟨rfl, eh248, (by decide : 0 + 0 ≤ _), (by decide : 0 + 0 ≤ _)⟩)
    dsimp only [Pt.U, Pt.locs, Pt.cells, Pt.slots] at X249 l249 y249 z249 st249 hQ249
    subst l249 y249 z249
    obtain ⟨rfl, N249q, eh249⟩ := hQ249
    have N249 := Fr.app N248 N249q
    refine own_pre st249 ?_
    by_cases hs18_2 : (f4 p1 (1:Int32)) = (0:Int32)
    · refine own_pre (A := T249.setTop (mkF m 28 #[rv a0, iv p1] [(.int (2:Int32)), (.int p1)])) (fun t k => ?_) ?_
      · show Steps p.tables e below (T249.setTop (mkF m 18 #[rv a0, iv p1] [(.int (f4 p1 (1:Int32)))])) _
        refine XS.ifYes X249.here hx rfl (pc0 := 18) (pc' := 26) rfl (hb hby d3_18) rfl (XT.i0_eq_t hs18_2) (by decide) (by decide) ?_
        show Steps p.tables e below (T249.setTop (mkF m 26 #[rv a0, iv p1] [])) _
        refine XS.iloadN X249.here hx rfl (hb hby d3_26) rfl ?_
        show Steps p.tables e below (T249.setTop (mkF m 27 #[rv a0, iv p1] [(.int p1)])) _
        refine XS.iconst X249.here hx rfl (hb hby d3_27) ?_
        exact k
      obtain ⟨_, _, ⟨T250, L250, k250, n250⟩, -, X250, ⟨Lc250, hQ250, l250, y250, z250⟩, st250⟩ := Jvm.LawKit.callS X249 hx (y := (⟨"com/example/spare_calculus/sparecalculus/bisim/PartitionSplitOffMarkedPinLaw", "bit", "(II)Z"⟩ : MethodName)) hown (mvT hZ (own_h hw 30 rfl)) (mvT hZ (own_h hw 31 rfl)) (mvT hZ (own_h hw 28 rfl)) (mvT hZ (own_h hw 32 rfl)) (by decide) (backOf (W := 0) (rm4 l Z aZ hw [] p1 (2:Int32) h0 n0 Z0 ) hZ (own_h hw 32 rfl) (own_h hw 28 rfl) (by decide) (by decide)) (g := (mkF m 28 #[rv a0, iv p1] [(.int (2:Int32)), (.int p1)])) rfl (by rw [hml]; rfl) (argsL := [(.int p1), (.int (2:Int32))]) (rest := []) (lenOf own_pd0 rfl) rfl (by show 2 * 0 + _ ≤ _; exact Nat.le_of_eq rfl) (hb hby d3_28) (fun _ _ => ⟨rfl, eh249, (by decide : 0 + 0 ≤ _), (by decide : 0 + 0 ≤ _)⟩)
      dsimp only [Pt.U, Pt.locs, Pt.cells, Pt.slots] at X250 l250 y250 z250 st250 hQ250
      subst l250 y250 z250
      obtain ⟨rfl, N250q, eh250⟩ := hQ250
      have N250 := Fr.app N249 N250q
      refine own_pre st250 ?_
      by_cases hs31_3 : (f4 p1 (2:Int32)) = (0:Int32)
      · refine own_pre (A := T250.setTop (mkF m 41 #[rv a0, iv p1] [(.int (3:Int32)), (.int p1)])) (fun t k => ?_) ?_
        · show Steps p.tables e below (T250.setTop (mkF m 31 #[rv a0, iv p1] [(.int (f4 p1 (2:Int32)))])) _
          refine XS.ifYes X250.here hx rfl (pc0 := 31) (pc' := 39) rfl (hb hby d3_31) rfl (XT.i0_eq_t hs31_3) (by decide) (by decide) ?_
          show Steps p.tables e below (T250.setTop (mkF m 39 #[rv a0, iv p1] [])) _
          refine XS.iloadN X250.here hx rfl (hb hby d3_39) rfl ?_
          show Steps p.tables e below (T250.setTop (mkF m 40 #[rv a0, iv p1] [(.int p1)])) _
          refine XS.iconst X250.here hx rfl (hb hby d3_40) ?_
          exact k
        obtain ⟨_, _, ⟨T251, L251, k251, n251⟩, -, X251, ⟨Lc251, hQ251, l251, y251, z251⟩, st251⟩ := Jvm.LawKit.callS X250 hx (y := (⟨"com/example/spare_calculus/sparecalculus/bisim/PartitionSplitOffMarkedPinLaw", "bit", "(II)Z"⟩ : MethodName)) hown (mvT hZ (own_h hw 30 rfl)) (mvT hZ (own_h hw 31 rfl)) (mvT hZ (own_h hw 28 rfl)) (mvT hZ (own_h hw 32 rfl)) (by decide) (backOf (W := 0) (rm4 l Z aZ hw [] p1 (3:Int32) h0 n0 Z0 ) hZ (own_h hw 32 rfl) (own_h hw 28 rfl) (by decide) (by decide)) (g := (mkF m 41 #[rv a0, iv p1] [(.int (3:Int32)), (.int p1)])) rfl (by rw [hml]; rfl) (argsL := [(.int p1), (.int (3:Int32))]) (rest := []) (lenOf own_pd0 rfl) rfl (by show 2 * 0 + _ ≤ _; exact Nat.le_of_eq rfl) (hb hby d3_41) (fun _ _ => ⟨rfl, eh250, (by decide : 0 + 0 ≤ _), (by decide : 0 + 0 ≤ _)⟩)
        dsimp only [Pt.U, Pt.locs, Pt.cells, Pt.slots] at X251 l251 y251 z251 st251 hQ251
        subst l251 y251 z251
        obtain ⟨rfl, N251q, eh251⟩ := hQ251
        have N251 := Fr.app N250 N251q
        refine own_pre st251 ?_
        by_cases hs44_4 : (f4 p1 (3:Int32)) = (0:Int32)
        · refine own_pre (A := T251.setTop (mkF m 52 #[rv a0, iv p1] [])) (fun t k => ?_) ?_
          · show Steps p.tables e below (T251.setTop (mkF m 44 #[rv a0, iv p1] [(.int (f4 p1 (3:Int32)))])) _
            refine XS.ifYes X251.here hx rfl (pc0 := 44) (pc' := 52) rfl (hb hby d3_44) rfl (XT.i0_eq_t hs44_4) (by decide) (by decide) ?_
            exact k
          exact own_end X251 (BodyLoose.notSynchronized Bd) (fun _ => rfl) (v := none) (fun fs hr => X251.returnOut hx Bd.returns (hb hby d3_52) hr) (by show Q3 Z a0 p1 e1 e2 e3 e4 e5 e6 e7 el po bo bs bm tb bc tc h0 n0 _ T251.heap _; rw [eh251]; exact ⟨rfl, N251, Kp0, (by first | exact P1 | (simp only [if_pos hs5_1, if_pos hs18_2, if_pos hs31_3, if_pos hs44_4]; exact P1)), (by first | exact P2 | (simp only [if_pos hs5_1, if_pos hs18_2, if_pos hs31_3, if_pos hs44_4]; exact P2)), (by first | exact P3 | (simp only [if_pos hs5_1, if_pos hs18_2, if_pos hs31_3, if_pos hs44_4]; exact P3)), (by first | exact P4 | (simp only [if_pos hs5_1, if_pos hs18_2, if_pos hs31_3, if_pos hs44_4]; exact P4)), (by first | exact P5 | (simp only [if_pos hs5_1, if_pos hs18_2, if_pos hs31_3, if_pos hs44_4]; exact P5)), (by first | exact P6 | (simp only [if_pos hs5_1, if_pos hs18_2, if_pos hs31_3, if_pos hs44_4]; exact P6)), (by first | exact P7 | (simp only [if_pos hs5_1, if_pos hs18_2, if_pos hs31_3, if_pos hs44_4]; exact P7)), (by first | exact P8 | (simp only [if_pos hs5_1, if_pos hs18_2, if_pos hs31_3, if_pos hs44_4]; exact P8)), (by simp only [g3_tc, if_pos hs5_1, if_pos hs18_2, if_pos hs31_3, if_pos hs44_4]; exact P9), (by simp only [g3_el, if_pos hs5_1, if_pos hs18_2, if_pos hs31_3, if_pos hs44_4]; exact P10), (by simp only [g3_po, if_pos hs5_1, if_pos hs18_2, if_pos hs31_3, if_pos hs44_4]; exact P11), (by simp only [g3_bm, if_pos hs5_1, if_pos hs18_2, if_pos hs31_3, if_pos hs44_4]; exact P14), (by simp only [g3_tb, if_pos hs5_1, if_pos hs18_2, if_pos hs31_3, if_pos hs44_4]; exact P15)⟩) (by decide) (by decide)
        · refine own_pre (A := T251.setTop (mkF m 49 #[rv a0, iv p1] [(.int (3:Int32)), (.ref a0)])) (fun t k => ?_) ?_
          · show Steps p.tables e below (T251.setTop (mkF m 44 #[rv a0, iv p1] [(.int (f4 p1 (3:Int32)))])) _
            refine XS.ifNo X251.here hx rfl (hb hby d3_44) rfl (XT.i0_eq_f hs44_4) ?_
            show Steps p.tables e below (T251.setTop (mkF m 47 #[rv a0, iv p1] [])) _
            refine XS.aloadN X251.here hx rfl (hb hby d3_47) rfl rfl ?_
            show Steps p.tables e below (T251.setTop (mkF m 48 #[rv a0, iv p1] [(.ref a0)])) _
            refine XS.iconst X251.here hx rfl (hb hby d3_48) ?_
            exact k
          obtain ⟨cq252, kq252, q252a, q252b, q252c⟩ := isOf hZ eh251 P0
          obtain ⟨_, _, ⟨T252, L252, k252, n252⟩, -, X252, ⟨Lc252, hQ252, l252, y252, z252⟩, st252⟩ := X251.virtualBack hx (y := (⟨"com/example/spare_calculus/sparecalculus/bisim/Partition", "mark", "(I)V"⟩ : MethodName)) (z := (⟨"com/example/spare_calculus/sparecalculus/bisim/Partition", "mark", "(I)V"⟩ : MethodName)) hown (mvT hZ (own_h hw 33 rfl)) (mvT hZ (own_h hw 34 rfl)) (notFace_of_selects (args := #[]) (mvT hZ (own_h hw 36 rfl))) (mvT hZ (own_h hw 36 rfl)) (mvT hZ (own_h hw 35 rfl)) (by decide) (backOf (W := 0) (rm5 l Z aZ hw [] a0 (3:Int32) e1 e2 e3 e4 e5 e6 e7 el po bo bs bm tb bc tc h0 n0 Z0 P0 P1 P2 P3 P4 P5 P6 P7 P8 P9 P10 P11 P12 P13 P14 P15 nq_a0_e1 nq_a0_e2 nq_a0_e3 nq_a0_e4 nq_a0_e6 nq_a0_e7 nq_e1_e2 nq_e1_e3 nq_e1_e4 nq_e1_e6 nq_e1_e7 nq_e2_e3 nq_e2_e4 nq_e2_e6 nq_e2_e7 nq_e3_e4 nq_e3_e6 nq_e3_e7 nq_e4_e6 nq_e4_e7 nq_e6_e7 gq_a0 gq_e1 gq_e2 gq_e6 gq_e7 (hl253 hs5_1 hs18_2 hs31_3 hs44_4).1 (hl253 hs5_1 hs18_2 hs31_3 hs44_4).2.1 (hl253 hs5_1 hs18_2 hs31_3 hs44_4).2.2.1 (hl253 hs5_1 hs18_2 hs31_3 hs44_4).2.2.2.1 (hl253 hs5_1 hs18_2 hs31_3 hs44_4).2.2.2.2.1 (hl253 hs5_1 hs18_2 hs31_3 hs44_4).2.2.2.2.2.1 (hl253 hs5_1 hs18_2 hs31_3 hs44_4).2.2.2.2.2.2.1 (hl253 hs5_1 hs18_2 hs31_3 hs44_4).2.2.2.2.2.2.2) hZ (own_h hw 37 rfl) (own_h hw 2 rfl) (by decide) (by decide)) q252a q252c (g := (mkF m 49 #[rv a0, iv p1] [(.int (3:Int32)), (.ref a0)])) rfl (by rw [hml]; rfl) (Steps.refl _) (argsL := [(.int (3:Int32))]) (rest := []) (lenOf own_pd1 rfl) rfl (by show 2 * 0 + _ ≤ _; exact Nat.le_of_eq rfl) (hb hby d3_49) (fun _ _ => ⟨rfl, eh251, (by decide : 0 + 0 ≤ _), (by decide : 0 + 0 ≤ _)⟩)
          dsimp only [Pt.U, Pt.locs, Pt.cells, Pt.slots] at X252 l252 y252 z252 st252 hQ252
          subst l252 y252 z252
          obtain ⟨rfl, N252q, K252, G254, G255, G256, G257, G258, G259, G260, G261, G262, G263, G264, G265, G266⟩ := hQ252
          have N252 := Fr.app N251 N252q
          have Kp252 : Keep h0 T252.heap [a0, e1, e2, e6, e7] := Kp0.trans K252 (allS (Or.inl (List.mem_of_getElem? (i := 0) rfl)) (allS (Or.inl (List.mem_of_getElem? (i := 1) rfl)) (allS (Or.inl (List.mem_of_getElem? (i := 2) rfl)) (allS (Or.inl (List.mem_of_getElem? (i := 3) rfl)) (allS (Or.inl (List.mem_of_getElem? (i := 4) rfl)) all0)))))
          have Z267 : n0 ≤ T252.heap.size := Nat.le_trans Z0 K252.1
          have G269 : Fld Z T252.heap a0 "com/example/spare_calculus/sparecalculus/bisim/Partition" "touchedBlockCount" "I" (.int (own_v268 el po bo bs bm tb bc tc)) := G262
          have G271 : own_Ints Z T252.heap e1 (own_v270 el po bo bs bm tb bc tc) := G263
          have G273 : own_Ints Z T252.heap e2 (own_v272 el po bo bs bm tb bc tc) := G264
          have G275 : own_Ints Z T252.heap e6 (own_v274 el po bo bs bm tb bc tc) := G265
          have G277 : own_Ints Z T252.heap e7 (own_v276 el po bo bs bm tb bc tc) := G266
          refine own_pre (fun _ k => st252.trans k) ?_
          exact own_end X252 (BodyLoose.notSynchronized Bd) (fun _ => rfl) (v := none) (fun fs hr => X252.returnOut hx Bd.returns (hb hby d3_52) hr) (by show Q3 Z a0 p1 e1 e2 e3 e4 e5 e6 e7 el po bo bs bm tb bc tc h0 n0 _ T252.heap _; exact ⟨rfl, N252, Kp252, (by first | exact G254 | (simp only [if_pos hs5_1, if_pos hs18_2, if_pos hs31_3, if_neg hs44_4]; exact G254)), (by first | exact G255 | (simp only [if_pos hs5_1, if_pos hs18_2, if_pos hs31_3, if_neg hs44_4]; exact G255)), (by first | exact G256 | (simp only [if_pos hs5_1, if_pos hs18_2, if_pos hs31_3, if_neg hs44_4]; exact G256)), (by first | exact G257 | (simp only [if_pos hs5_1, if_pos hs18_2, if_pos hs31_3, if_neg hs44_4]; exact G257)), (by first | exact G258 | (simp only [if_pos hs5_1, if_pos hs18_2, if_pos hs31_3, if_neg hs44_4]; exact G258)), (by first | exact G259 | (simp only [if_pos hs5_1, if_pos hs18_2, if_pos hs31_3, if_neg hs44_4]; exact G259)), (by first | exact G260 | (simp only [if_pos hs5_1, if_pos hs18_2, if_pos hs31_3, if_neg hs44_4]; exact G260)), (by first | exact G261 | (simp only [if_pos hs5_1, if_pos hs18_2, if_pos hs31_3, if_neg hs44_4]; exact G261)), (by simp only [g3_tc, if_pos hs5_1, if_pos hs18_2, if_pos hs31_3, if_neg hs44_4]; exact G269), (by simp only [g3_el, if_pos hs5_1, if_pos hs18_2, if_pos hs31_3, if_neg hs44_4]; exact G271), (by simp only [g3_po, if_pos hs5_1, if_pos hs18_2, if_pos hs31_3, if_neg hs44_4]; exact G273), (by simp only [g3_bm, if_pos hs5_1, if_pos hs18_2, if_pos hs31_3, if_neg hs44_4]; exact G275), (by simp only [g3_tb, if_pos hs5_1, if_pos hs18_2, if_pos hs31_3, if_neg hs44_4]; exact G277)⟩) (by decide) (by decide)
      · refine own_pre (A := T250.setTop (mkF m 36 #[rv a0, iv p1] [(.int (2:Int32)), (.ref a0)])) (fun t k => ?_) ?_
        · show Steps p.tables e below (T250.setTop (mkF m 31 #[rv a0, iv p1] [(.int (f4 p1 (2:Int32)))])) _
          refine XS.ifNo X250.here hx rfl (hb hby d3_31) rfl (XT.i0_eq_f hs31_3) ?_
          show Steps p.tables e below (T250.setTop (mkF m 34 #[rv a0, iv p1] [])) _
          refine XS.aloadN X250.here hx rfl (hb hby d3_34) rfl rfl ?_
          show Steps p.tables e below (T250.setTop (mkF m 35 #[rv a0, iv p1] [(.ref a0)])) _
          refine XS.iconst X250.here hx rfl (hb hby d3_35) ?_
          exact k
        obtain ⟨cq278, kq278, q278a, q278b, q278c⟩ := isOf hZ eh250 P0
        obtain ⟨_, _, ⟨T278, L278, k278, n278⟩, -, X278, ⟨Lc278, hQ278, l278, y278, z278⟩, st278⟩ := X250.virtualBack hx (y := (⟨"com/example/spare_calculus/sparecalculus/bisim/Partition", "mark", "(I)V"⟩ : MethodName)) (z := (⟨"com/example/spare_calculus/sparecalculus/bisim/Partition", "mark", "(I)V"⟩ : MethodName)) hown (mvT hZ (own_h hw 33 rfl)) (mvT hZ (own_h hw 34 rfl)) (notFace_of_selects (args := #[]) (mvT hZ (own_h hw 36 rfl))) (mvT hZ (own_h hw 36 rfl)) (mvT hZ (own_h hw 35 rfl)) (by decide) (backOf (W := 0) (rm5 l Z aZ hw [] a0 (2:Int32) e1 e2 e3 e4 e5 e6 e7 el po bo bs bm tb bc tc h0 n0 Z0 P0 P1 P2 P3 P4 P5 P6 P7 P8 P9 P10 P11 P12 P13 P14 P15 nq_a0_e1 nq_a0_e2 nq_a0_e3 nq_a0_e4 nq_a0_e6 nq_a0_e7 nq_e1_e2 nq_e1_e3 nq_e1_e4 nq_e1_e6 nq_e1_e7 nq_e2_e3 nq_e2_e4 nq_e2_e6 nq_e2_e7 nq_e3_e4 nq_e3_e6 nq_e3_e7 nq_e4_e6 nq_e4_e7 nq_e6_e7 gq_a0 gq_e1 gq_e2 gq_e6 gq_e7 (hl279 hs5_1 hs18_2 hs31_3).1 (hl279 hs5_1 hs18_2 hs31_3).2.1 (hl279 hs5_1 hs18_2 hs31_3).2.2.1 (hl279 hs5_1 hs18_2 hs31_3).2.2.2.1 (hl279 hs5_1 hs18_2 hs31_3).2.2.2.2.1 (hl279 hs5_1 hs18_2 hs31_3).2.2.2.2.2.1 (hl279 hs5_1 hs18_2 hs31_3).2.2.2.2.2.2.1 (hl279 hs5_1 hs18_2 hs31_3).2.2.2.2.2.2.2) hZ (own_h hw 37 rfl) (own_h hw 2 rfl) (by decide) (by decide)) q278a q278c (g := (mkF m 36 #[rv a0, iv p1] [(.int (2:Int32)), (.ref a0)])) rfl (by rw [hml]; rfl) (Steps.refl _) (argsL := [(.int (2:Int32))]) (rest := []) (lenOf own_pd1 rfl) rfl (by show 2 * 0 + _ ≤ _; exact Nat.le_of_eq rfl) (hb hby d3_36) (fun _ _ => ⟨rfl, eh250, (by decide : 0 + 0 ≤ _), (by decide : 0 + 0 ≤ _)⟩)
        dsimp only [Pt.U, Pt.locs, Pt.cells, Pt.slots] at X278 l278 y278 z278 st278 hQ278
        subst l278 y278 z278
        obtain ⟨rfl, N278q, K278, G280, G281, G282, G283, G284, G285, G286, G287, G288, G289, G290, G291, G292⟩ := hQ278
        have N278 := Fr.app N250 N278q
        have Kp278 : Keep h0 T278.heap [a0, e1, e2, e6, e7] := Kp0.trans K278 (allS (Or.inl (List.mem_of_getElem? (i := 0) rfl)) (allS (Or.inl (List.mem_of_getElem? (i := 1) rfl)) (allS (Or.inl (List.mem_of_getElem? (i := 2) rfl)) (allS (Or.inl (List.mem_of_getElem? (i := 3) rfl)) (allS (Or.inl (List.mem_of_getElem? (i := 4) rfl)) all0)))))
        have Z293 : n0 ≤ T278.heap.size := Nat.le_trans Z0 K278.1
        have G295 : Fld Z T278.heap a0 "com/example/spare_calculus/sparecalculus/bisim/Partition" "touchedBlockCount" "I" (.int (own_v294 el po bo bs bm tb bc tc)) := G288
        have G297 : own_Ints Z T278.heap e1 (own_v296 el po bo bs bm tb bc tc) := G289
        have G299 : own_Ints Z T278.heap e2 (own_v298 el po bo bs bm tb bc tc) := G290
        have G301 : own_Ints Z T278.heap e6 (own_v300 el po bo bs bm tb bc tc) := G291
        have G303 : own_Ints Z T278.heap e7 (own_v302 el po bo bs bm tb bc tc) := G292
        refine own_pre (fun _ k => st278.trans k) ?_
        refine own_pre (A := T278.setTop (mkF m 41 #[rv a0, iv p1] [(.int (3:Int32)), (.int p1)])) (fun t k => ?_) ?_
        · show Steps p.tables e below (T278.setTop (mkF m 39 #[rv a0, iv p1] [])) _
          refine XS.iloadN X278.here hx rfl (hb hby d3_39) rfl ?_
          show Steps p.tables e below (T278.setTop (mkF m 40 #[rv a0, iv p1] [(.int p1)])) _
          refine XS.iconst X278.here hx rfl (hb hby d3_40) ?_
          exact k
        obtain ⟨_, _, ⟨T304, L304, k304, n304⟩, -, X304, ⟨Lc304, hQ304, l304, y304, z304⟩, st304⟩ := Jvm.LawKit.callS X278 hx (y := (⟨"com/example/spare_calculus/sparecalculus/bisim/PartitionSplitOffMarkedPinLaw", "bit", "(II)Z"⟩ : MethodName)) hown (mvT hZ (own_h hw 30 rfl)) (mvT hZ (own_h hw 31 rfl)) (mvT hZ (own_h hw 28 rfl)) (mvT hZ (own_h hw 32 rfl)) (by decide) (backOf (W := 0) (rm4 l Z aZ hw [] p1 (3:Int32) T278.heap n0 Z293 ) hZ (own_h hw 32 rfl) (own_h hw 28 rfl) (by decide) (by decide)) (g := (mkF m 41 #[rv a0, iv p1] [(.int (3:Int32)), (.int p1)])) rfl (by rw [hml]; rfl) (argsL := [(.int p1), (.int (3:Int32))]) (rest := []) (lenOf own_pd0 rfl) rfl (by show 2 * 0 + _ ≤ _; exact Nat.le_of_eq rfl) (hb hby d3_41) (fun _ _ => ⟨rfl, rfl, (by decide : 0 + 0 ≤ _), (by decide : 0 + 0 ≤ _)⟩)
        dsimp only [Pt.U, Pt.locs, Pt.cells, Pt.slots] at X304 l304 y304 z304 st304 hQ304
        subst l304 y304 z304
        obtain ⟨rfl, N304q, eh304⟩ := hQ304
        have N304 := Fr.app N278 N304q
        refine own_pre st304 ?_
        by_cases hs44_5 : (f4 p1 (3:Int32)) = (0:Int32)
        · refine own_pre (A := T304.setTop (mkF m 52 #[rv a0, iv p1] [])) (fun t k => ?_) ?_
          · show Steps p.tables e below (T304.setTop (mkF m 44 #[rv a0, iv p1] [(.int (f4 p1 (3:Int32)))])) _
            refine XS.ifYes X304.here hx rfl (pc0 := 44) (pc' := 52) rfl (hb hby d3_44) rfl (XT.i0_eq_t hs44_5) (by decide) (by decide) ?_
            exact k
          exact own_end X304 (BodyLoose.notSynchronized Bd) (fun _ => rfl) (v := none) (fun fs hr => X304.returnOut hx Bd.returns (hb hby d3_52) hr) (by show Q3 Z a0 p1 e1 e2 e3 e4 e5 e6 e7 el po bo bs bm tb bc tc h0 n0 _ T304.heap _; rw [eh304]; exact ⟨rfl, N304, Kp278, (by first | exact G280 | (simp only [if_pos hs5_1, if_pos hs18_2, if_neg hs31_3, if_pos hs44_5]; exact G280)), (by first | exact G281 | (simp only [if_pos hs5_1, if_pos hs18_2, if_neg hs31_3, if_pos hs44_5]; exact G281)), (by first | exact G282 | (simp only [if_pos hs5_1, if_pos hs18_2, if_neg hs31_3, if_pos hs44_5]; exact G282)), (by first | exact G283 | (simp only [if_pos hs5_1, if_pos hs18_2, if_neg hs31_3, if_pos hs44_5]; exact G283)), (by first | exact G284 | (simp only [if_pos hs5_1, if_pos hs18_2, if_neg hs31_3, if_pos hs44_5]; exact G284)), (by first | exact G285 | (simp only [if_pos hs5_1, if_pos hs18_2, if_neg hs31_3, if_pos hs44_5]; exact G285)), (by first | exact G286 | (simp only [if_pos hs5_1, if_pos hs18_2, if_neg hs31_3, if_pos hs44_5]; exact G286)), (by first | exact G287 | (simp only [if_pos hs5_1, if_pos hs18_2, if_neg hs31_3, if_pos hs44_5]; exact G287)), (by simp only [g3_tc, if_pos hs5_1, if_pos hs18_2, if_neg hs31_3, if_pos hs44_5]; exact G295), (by simp only [g3_el, if_pos hs5_1, if_pos hs18_2, if_neg hs31_3, if_pos hs44_5]; exact G297), (by simp only [g3_po, if_pos hs5_1, if_pos hs18_2, if_neg hs31_3, if_pos hs44_5]; exact G299), (by simp only [g3_bm, if_pos hs5_1, if_pos hs18_2, if_neg hs31_3, if_pos hs44_5]; exact G301), (by simp only [g3_tb, if_pos hs5_1, if_pos hs18_2, if_neg hs31_3, if_pos hs44_5]; exact G303)⟩) (by decide) (by decide)
        · refine own_pre (A := T304.setTop (mkF m 49 #[rv a0, iv p1] [(.int (3:Int32)), (.ref a0)])) (fun t k => ?_) ?_
          · show Steps p.tables e below (T304.setTop (mkF m 44 #[rv a0, iv p1] [(.int (f4 p1 (3:Int32)))])) _
            refine XS.ifNo X304.here hx rfl (hb hby d3_44) rfl (XT.i0_eq_f hs44_5) ?_
            show Steps p.tables e below (T304.setTop (mkF m 47 #[rv a0, iv p1] [])) _
            refine XS.aloadN X304.here hx rfl (hb hby d3_47) rfl rfl ?_
            show Steps p.tables e below (T304.setTop (mkF m 48 #[rv a0, iv p1] [(.ref a0)])) _
            refine XS.iconst X304.here hx rfl (hb hby d3_48) ?_
            exact k
          have F306 := (P0.keep K278)
          have F307 := (P12.keep K278 (ninS (Ne.symm nq_a0_e3) (ninS (Ne.symm nq_e1_e3) (ninS (Ne.symm nq_e2_e3) (ninS nq_e3_e6 (ninS nq_e3_e7 nin0))))))
          have F308 := (P13.keep K278 (ninS (Ne.symm nq_a0_e4) (ninS (Ne.symm nq_e1_e4) (ninS (Ne.symm nq_e2_e4) (ninS nq_e4_e6 (ninS nq_e4_e7 nin0))))))
          obtain ⟨cq305, kq305, q305a, q305b, q305c⟩ := isOf hZ eh304 F306
          obtain ⟨_, _, ⟨T305, L305, k305, n305⟩, -, X305, ⟨Lc305, hQ305, l305, y305, z305⟩, st305⟩ := X304.virtualBack hx (y := (⟨"com/example/spare_calculus/sparecalculus/bisim/Partition", "mark", "(I)V"⟩ : MethodName)) (z := (⟨"com/example/spare_calculus/sparecalculus/bisim/Partition", "mark", "(I)V"⟩ : MethodName)) hown (mvT hZ (own_h hw 33 rfl)) (mvT hZ (own_h hw 34 rfl)) (notFace_of_selects (args := #[]) (mvT hZ (own_h hw 36 rfl))) (mvT hZ (own_h hw 36 rfl)) (mvT hZ (own_h hw 35 rfl)) (by decide) (backOf (W := 0) (rm5 l Z aZ hw [] a0 (3:Int32) e1 e2 e3 e4 e5 e6 e7 (own_v296 el po bo bs bm tb bc tc) (own_v298 el po bo bs bm tb bc tc) bo bs (own_v300 el po bo bs bm tb bc tc) (own_v302 el po bo bs bm tb bc tc) bc (own_v294 el po bo bs bm tb bc tc) T278.heap n0 Z293 F306 G280 G281 G282 G283 G284 G285 G286 G287 G295 G297 G299 F307 F308 G301 G303 nq_a0_e1 nq_a0_e2 nq_a0_e3 nq_a0_e4 nq_a0_e6 nq_a0_e7 nq_e1_e2 nq_e1_e3 nq_e1_e4 nq_e1_e6 nq_e1_e7 nq_e2_e3 nq_e2_e4 nq_e2_e6 nq_e2_e7 nq_e3_e4 nq_e3_e6 nq_e3_e7 nq_e4_e6 nq_e4_e7 nq_e6_e7 gq_a0 gq_e1 gq_e2 gq_e6 gq_e7 (hl309 hs5_1 hs18_2 hs31_3 hs44_5).1 (hl309 hs5_1 hs18_2 hs31_3 hs44_5).2.1 (hl309 hs5_1 hs18_2 hs31_3 hs44_5).2.2.1 (hl309 hs5_1 hs18_2 hs31_3 hs44_5).2.2.2.1 (hl309 hs5_1 hs18_2 hs31_3 hs44_5).2.2.2.2.1 (hl309 hs5_1 hs18_2 hs31_3 hs44_5).2.2.2.2.2.1 (hl309 hs5_1 hs18_2 hs31_3 hs44_5).2.2.2.2.2.2.1 (hl309 hs5_1 hs18_2 hs31_3 hs44_5).2.2.2.2.2.2.2) hZ (own_h hw 37 rfl) (own_h hw 2 rfl) (by decide) (by decide)) q305a q305c (g := (mkF m 49 #[rv a0, iv p1] [(.int (3:Int32)), (.ref a0)])) rfl (by rw [hml]; rfl) (Steps.refl _) (argsL := [(.int (3:Int32))]) (rest := []) (lenOf own_pd1 rfl) rfl (by show 2 * 0 + _ ≤ _; exact Nat.le_of_eq rfl) (hb hby d3_49) (fun _ _ => ⟨rfl, eh304, (by decide : 0 + 0 ≤ _), (by decide : 0 + 0 ≤ _)⟩)
          dsimp only [Pt.U, Pt.locs, Pt.cells, Pt.slots] at X305 l305 y305 z305 st305 hQ305
          subst l305 y305 z305
          obtain ⟨rfl, N305q, K305, G310, G311, G312, G313, G314, G315, G316, G317, G318, G319, G320, G321, G322⟩ := hQ305
          have N305 := Fr.app N304 N305q
          have Kp305 : Keep h0 T305.heap [a0, e1, e2, e6, e7] := Kp278.trans K305 (allS (Or.inl (List.mem_of_getElem? (i := 0) rfl)) (allS (Or.inl (List.mem_of_getElem? (i := 1) rfl)) (allS (Or.inl (List.mem_of_getElem? (i := 2) rfl)) (allS (Or.inl (List.mem_of_getElem? (i := 3) rfl)) (allS (Or.inl (List.mem_of_getElem? (i := 4) rfl)) all0)))))
          have Z323 : n0 ≤ T305.heap.size := Nat.le_trans Z293 K305.1
          have G325 : Fld Z T305.heap a0 "com/example/spare_calculus/sparecalculus/bisim/Partition" "touchedBlockCount" "I" (.int (own_v324 el po bo bs bm tb bc tc)) := G318
          have G327 : own_Ints Z T305.heap e1 (own_v326 el po bo bs bm tb bc tc) := G319
          have G329 : own_Ints Z T305.heap e2 (own_v328 el po bo bs bm tb bc tc) := G320
          have G331 : own_Ints Z T305.heap e6 (own_v330 el po bo bs bm tb bc tc) := G321
          have G333 : own_Ints Z T305.heap e7 (own_v332 el po bo bs bm tb bc tc) := G322
          refine own_pre (fun _ k => st305.trans k) ?_
          exact own_end X305 (BodyLoose.notSynchronized Bd) (fun _ => rfl) (v := none) (fun fs hr => X305.returnOut hx Bd.returns (hb hby d3_52) hr) (by show Q3 Z a0 p1 e1 e2 e3 e4 e5 e6 e7 el po bo bs bm tb bc tc h0 n0 _ T305.heap _; exact ⟨rfl, N305, Kp305, (by first | exact G310 | (simp only [if_pos hs5_1, if_pos hs18_2, if_neg hs31_3, if_neg hs44_5]; exact G310)), (by first | exact G311 | (simp only [if_pos hs5_1, if_pos hs18_2, if_neg hs31_3, if_neg hs44_5]; exact G311)), (by first | exact G312 | (simp only [if_pos hs5_1, if_pos hs18_2, if_neg hs31_3, if_neg hs44_5]; exact G312)), (by first | exact G313 | (simp only [if_pos hs5_1, if_pos hs18_2, if_neg hs31_3, if_neg hs44_5]; exact G313)), (by first | exact G314 | (simp only [if_pos hs5_1, if_pos hs18_2, if_neg hs31_3, if_neg hs44_5]; exact G314)), (by first | exact G315 | (simp only [if_pos hs5_1, if_pos hs18_2, if_neg hs31_3, if_neg hs44_5]; exact G315)), (by first | exact G316 | (simp only [if_pos hs5_1, if_pos hs18_2, if_neg hs31_3, if_neg hs44_5]; exact G316)), (by first | exact G317 | (simp only [if_pos hs5_1, if_pos hs18_2, if_neg hs31_3, if_neg hs44_5]; exact G317)), (by simp only [g3_tc, if_pos hs5_1, if_pos hs18_2, if_neg hs31_3, if_neg hs44_5]; exact G325), (by simp only [g3_el, if_pos hs5_1, if_pos hs18_2, if_neg hs31_3, if_neg hs44_5]; exact G327), (by simp only [g3_po, if_pos hs5_1, if_pos hs18_2, if_neg hs31_3, if_neg hs44_5]; exact G329), (by simp only [g3_bm, if_pos hs5_1, if_pos hs18_2, if_neg hs31_3, if_neg hs44_5]; exact G331), (by simp only [g3_tb, if_pos hs5_1, if_pos hs18_2, if_neg hs31_3, if_neg hs44_5]; exact G333)⟩) (by decide) (by decide)
    · refine own_pre (A := T249.setTop (mkF m 23 #[rv a0, iv p1] [(.int (1:Int32)), (.ref a0)])) (fun t k => ?_) ?_
      · show Steps p.tables e below (T249.setTop (mkF m 18 #[rv a0, iv p1] [(.int (f4 p1 (1:Int32)))])) _
        refine XS.ifNo X249.here hx rfl (hb hby d3_18) rfl (XT.i0_eq_f hs18_2) ?_
        show Steps p.tables e below (T249.setTop (mkF m 21 #[rv a0, iv p1] [])) _
        refine XS.aloadN X249.here hx rfl (hb hby d3_21) rfl rfl ?_
        show Steps p.tables e below (T249.setTop (mkF m 22 #[rv a0, iv p1] [(.ref a0)])) _
        refine XS.iconst X249.here hx rfl (hb hby d3_22) ?_
        exact k
      obtain ⟨cq334, kq334, q334a, q334b, q334c⟩ := isOf hZ eh249 P0
      obtain ⟨_, _, ⟨T334, L334, k334, n334⟩, -, X334, ⟨Lc334, hQ334, l334, y334, z334⟩, st334⟩ := X249.virtualBack hx (y := (⟨"com/example/spare_calculus/sparecalculus/bisim/Partition", "mark", "(I)V"⟩ : MethodName)) (z := (⟨"com/example/spare_calculus/sparecalculus/bisim/Partition", "mark", "(I)V"⟩ : MethodName)) hown (mvT hZ (own_h hw 33 rfl)) (mvT hZ (own_h hw 34 rfl)) (notFace_of_selects (args := #[]) (mvT hZ (own_h hw 36 rfl))) (mvT hZ (own_h hw 36 rfl)) (mvT hZ (own_h hw 35 rfl)) (by decide) (backOf (W := 0) (rm5 l Z aZ hw [] a0 (1:Int32) e1 e2 e3 e4 e5 e6 e7 el po bo bs bm tb bc tc h0 n0 Z0 P0 P1 P2 P3 P4 P5 P6 P7 P8 P9 P10 P11 P12 P13 P14 P15 nq_a0_e1 nq_a0_e2 nq_a0_e3 nq_a0_e4 nq_a0_e6 nq_a0_e7 nq_e1_e2 nq_e1_e3 nq_e1_e4 nq_e1_e6 nq_e1_e7 nq_e2_e3 nq_e2_e4 nq_e2_e6 nq_e2_e7 nq_e3_e4 nq_e3_e6 nq_e3_e7 nq_e4_e6 nq_e4_e7 nq_e6_e7 gq_a0 gq_e1 gq_e2 gq_e6 gq_e7 (hl335 hs5_1 hs18_2).1 (hl335 hs5_1 hs18_2).2.1 (hl335 hs5_1 hs18_2).2.2.1 (hl335 hs5_1 hs18_2).2.2.2.1 (hl335 hs5_1 hs18_2).2.2.2.2.1 (hl335 hs5_1 hs18_2).2.2.2.2.2.1 (hl335 hs5_1 hs18_2).2.2.2.2.2.2.1 (hl335 hs5_1 hs18_2).2.2.2.2.2.2.2) hZ (own_h hw 37 rfl) (own_h hw 2 rfl) (by decide) (by decide)) q334a q334c (g := (mkF m 23 #[rv a0, iv p1] [(.int (1:Int32)), (.ref a0)])) rfl (by rw [hml]; rfl) (Steps.refl _) (argsL := [(.int (1:Int32))]) (rest := []) (lenOf own_pd1 rfl) rfl (by show 2 * 0 + _ ≤ _; exact Nat.le_of_eq rfl) (hb hby d3_23) (fun _ _ => ⟨rfl, eh249, (by decide : 0 + 0 ≤ _), (by decide : 0 + 0 ≤ _)⟩)
      dsimp only [Pt.U, Pt.locs, Pt.cells, Pt.slots] at X334 l334 y334 z334 st334 hQ334
      subst l334 y334 z334
      obtain ⟨rfl, N334q, K334, G336, G337, G338, G339, G340, G341, G342, G343, G344, G345, G346, G347, G348⟩ := hQ334
      have N334 := Fr.app N249 N334q
      have Kp334 : Keep h0 T334.heap [a0, e1, e2, e6, e7] := Kp0.trans K334 (allS (Or.inl (List.mem_of_getElem? (i := 0) rfl)) (allS (Or.inl (List.mem_of_getElem? (i := 1) rfl)) (allS (Or.inl (List.mem_of_getElem? (i := 2) rfl)) (allS (Or.inl (List.mem_of_getElem? (i := 3) rfl)) (allS (Or.inl (List.mem_of_getElem? (i := 4) rfl)) all0)))))
      have Z349 : n0 ≤ T334.heap.size := Nat.le_trans Z0 K334.1
      have G351 : Fld Z T334.heap a0 "com/example/spare_calculus/sparecalculus/bisim/Partition" "touchedBlockCount" "I" (.int (own_v350 el po bo bs bm tb bc tc)) := G344
      have G353 : own_Ints Z T334.heap e1 (own_v352 el po bo bs bm tb bc tc) := G345
      have G355 : own_Ints Z T334.heap e2 (own_v354 el po bo bs bm tb bc tc) := G346
      have G357 : own_Ints Z T334.heap e6 (own_v356 el po bo bs bm tb bc tc) := G347
      have G359 : own_Ints Z T334.heap e7 (own_v358 el po bo bs bm tb bc tc) := G348
      refine own_pre (fun _ k => st334.trans k) ?_
      refine own_pre (A := T334.setTop (mkF m 28 #[rv a0, iv p1] [(.int (2:Int32)), (.int p1)])) (fun t k => ?_) ?_
      · show Steps p.tables e below (T334.setTop (mkF m 26 #[rv a0, iv p1] [])) _
        refine XS.iloadN X334.here hx rfl (hb hby d3_26) rfl ?_
        show Steps p.tables e below (T334.setTop (mkF m 27 #[rv a0, iv p1] [(.int p1)])) _
        refine XS.iconst X334.here hx rfl (hb hby d3_27) ?_
        exact k
      obtain ⟨_, _, ⟨T360, L360, k360, n360⟩, -, X360, ⟨Lc360, hQ360, l360, y360, z360⟩, st360⟩ := Jvm.LawKit.callS X334 hx (y := (⟨"com/example/spare_calculus/sparecalculus/bisim/PartitionSplitOffMarkedPinLaw", "bit", "(II)Z"⟩ : MethodName)) hown (mvT hZ (own_h hw 30 rfl)) (mvT hZ (own_h hw 31 rfl)) (mvT hZ (own_h hw 28 rfl)) (mvT hZ (own_h hw 32 rfl)) (by decide) (backOf (W := 0) (rm4 l Z aZ hw [] p1 (2:Int32) T334.heap n0 Z349 ) hZ (own_h hw 32 rfl) (own_h hw 28 rfl) (by decide) (by decide)) (g := (mkF m 28 #[rv a0, iv p1] [(.int (2:Int32)), (.int p1)])) rfl (by rw [hml]; rfl) (argsL := [(.int p1), (.int (2:Int32))]) (rest := []) (lenOf own_pd0 rfl) rfl (by show 2 * 0 + _ ≤ _; exact Nat.le_of_eq rfl) (hb hby d3_28) (fun _ _ => ⟨rfl, rfl, (by decide : 0 + 0 ≤ _), (by decide : 0 + 0 ≤ _)⟩)
      dsimp only [Pt.U, Pt.locs, Pt.cells, Pt.slots] at X360 l360 y360 z360 st360 hQ360
      subst l360 y360 z360
      obtain ⟨rfl, N360q, eh360⟩ := hQ360
      have N360 := Fr.app N334 N360q
      refine own_pre st360 ?_
      by_cases hs31_6 : (f4 p1 (2:Int32)) = (0:Int32)
      · refine own_pre (A := T360.setTop (mkF m 41 #[rv a0, iv p1] [(.int (3:Int32)), (.int p1)])) (fun t k => ?_) ?_
        · show Steps p.tables e below (T360.setTop (mkF m 31 #[rv a0, iv p1] [(.int (f4 p1 (2:Int32)))])) _
          refine XS.ifYes X360.here hx rfl (pc0 := 31) (pc' := 39) rfl (hb hby d3_31) rfl (XT.i0_eq_t hs31_6) (by decide) (by decide) ?_
          show Steps p.tables e below (T360.setTop (mkF m 39 #[rv a0, iv p1] [])) _
          refine XS.iloadN X360.here hx rfl (hb hby d3_39) rfl ?_
          show Steps p.tables e below (T360.setTop (mkF m 40 #[rv a0, iv p1] [(.int p1)])) _
          refine XS.iconst X360.here hx rfl (hb hby d3_40) ?_
          exact k
        obtain ⟨_, _, ⟨T361, L361, k361, n361⟩, -, X361, ⟨Lc361, hQ361, l361, y361, z361⟩, st361⟩ := Jvm.LawKit.callS X360 hx (y := (⟨"com/example/spare_calculus/sparecalculus/bisim/PartitionSplitOffMarkedPinLaw", "bit", "(II)Z"⟩ : MethodName)) hown (mvT hZ (own_h hw 30 rfl)) (mvT hZ (own_h hw 31 rfl)) (mvT hZ (own_h hw 28 rfl)) (mvT hZ (own_h hw 32 rfl)) (by decide) (backOf (W := 0) (rm4 l Z aZ hw [] p1 (3:Int32) T334.heap n0 Z349 ) hZ (own_h hw 32 rfl) (own_h hw 28 rfl) (by decide) (by decide)) (g := (mkF m 41 #[rv a0, iv p1] [(.int (3:Int32)), (.int p1)])) rfl (by rw [hml]; rfl) (argsL := [(.int p1), (.int (3:Int32))]) (rest := []) (lenOf own_pd0 rfl) rfl (by show 2 * 0 + _ ≤ _; exact Nat.le_of_eq rfl) (hb hby d3_41) (fun _ _ => ⟨rfl, eh360, (by decide : 0 + 0 ≤ _), (by decide : 0 + 0 ≤ _)⟩)
        dsimp only [Pt.U, Pt.locs, Pt.cells, Pt.slots] at X361 l361 y361 z361 st361 hQ361
        subst l361 y361 z361
        obtain ⟨rfl, N361q, eh361⟩ := hQ361
        have N361 := Fr.app N360 N361q
        refine own_pre st361 ?_
        by_cases hs44_7 : (f4 p1 (3:Int32)) = (0:Int32)
        · refine own_pre (A := T361.setTop (mkF m 52 #[rv a0, iv p1] [])) (fun t k => ?_) ?_
          · show Steps p.tables e below (T361.setTop (mkF m 44 #[rv a0, iv p1] [(.int (f4 p1 (3:Int32)))])) _
            refine XS.ifYes X361.here hx rfl (pc0 := 44) (pc' := 52) rfl (hb hby d3_44) rfl (XT.i0_eq_t hs44_7) (by decide) (by decide) ?_
            exact k
          exact own_end X361 (BodyLoose.notSynchronized Bd) (fun _ => rfl) (v := none) (fun fs hr => X361.returnOut hx Bd.returns (hb hby d3_52) hr) (by show Q3 Z a0 p1 e1 e2 e3 e4 e5 e6 e7 el po bo bs bm tb bc tc h0 n0 _ T361.heap _; rw [eh361]; exact ⟨rfl, N361, Kp334, (by first | exact G336 | (simp only [if_pos hs5_1, if_neg hs18_2, if_pos hs31_6, if_pos hs44_7]; exact G336)), (by first | exact G337 | (simp only [if_pos hs5_1, if_neg hs18_2, if_pos hs31_6, if_pos hs44_7]; exact G337)), (by first | exact G338 | (simp only [if_pos hs5_1, if_neg hs18_2, if_pos hs31_6, if_pos hs44_7]; exact G338)), (by first | exact G339 | (simp only [if_pos hs5_1, if_neg hs18_2, if_pos hs31_6, if_pos hs44_7]; exact G339)), (by first | exact G340 | (simp only [if_pos hs5_1, if_neg hs18_2, if_pos hs31_6, if_pos hs44_7]; exact G340)), (by first | exact G341 | (simp only [if_pos hs5_1, if_neg hs18_2, if_pos hs31_6, if_pos hs44_7]; exact G341)), (by first | exact G342 | (simp only [if_pos hs5_1, if_neg hs18_2, if_pos hs31_6, if_pos hs44_7]; exact G342)), (by first | exact G343 | (simp only [if_pos hs5_1, if_neg hs18_2, if_pos hs31_6, if_pos hs44_7]; exact G343)), (by simp only [g3_tc, if_pos hs5_1, if_neg hs18_2, if_pos hs31_6, if_pos hs44_7]; exact G351), (by simp only [g3_el, if_pos hs5_1, if_neg hs18_2, if_pos hs31_6, if_pos hs44_7]; exact G353), (by simp only [g3_po, if_pos hs5_1, if_neg hs18_2, if_pos hs31_6, if_pos hs44_7]; exact G355), (by simp only [g3_bm, if_pos hs5_1, if_neg hs18_2, if_pos hs31_6, if_pos hs44_7]; exact G357), (by simp only [g3_tb, if_pos hs5_1, if_neg hs18_2, if_pos hs31_6, if_pos hs44_7]; exact G359)⟩) (by decide) (by decide)
        · refine own_pre (A := T361.setTop (mkF m 49 #[rv a0, iv p1] [(.int (3:Int32)), (.ref a0)])) (fun t k => ?_) ?_
          · show Steps p.tables e below (T361.setTop (mkF m 44 #[rv a0, iv p1] [(.int (f4 p1 (3:Int32)))])) _
            refine XS.ifNo X361.here hx rfl (hb hby d3_44) rfl (XT.i0_eq_f hs44_7) ?_
            show Steps p.tables e below (T361.setTop (mkF m 47 #[rv a0, iv p1] [])) _
            refine XS.aloadN X361.here hx rfl (hb hby d3_47) rfl rfl ?_
            show Steps p.tables e below (T361.setTop (mkF m 48 #[rv a0, iv p1] [(.ref a0)])) _
            refine XS.iconst X361.here hx rfl (hb hby d3_48) ?_
            exact k
          have F363 := (P0.keep K334)
          have F364 := (P12.keep K334 (ninS (Ne.symm nq_a0_e3) (ninS (Ne.symm nq_e1_e3) (ninS (Ne.symm nq_e2_e3) (ninS nq_e3_e6 (ninS nq_e3_e7 nin0))))))
          have F365 := (P13.keep K334 (ninS (Ne.symm nq_a0_e4) (ninS (Ne.symm nq_e1_e4) (ninS (Ne.symm nq_e2_e4) (ninS nq_e4_e6 (ninS nq_e4_e7 nin0))))))
          obtain ⟨cq362, kq362, q362a, q362b, q362c⟩ := isOf hZ eh361 F363
          obtain ⟨_, _, ⟨T362, L362, k362, n362⟩, -, X362, ⟨Lc362, hQ362, l362, y362, z362⟩, st362⟩ := X361.virtualBack hx (y := (⟨"com/example/spare_calculus/sparecalculus/bisim/Partition", "mark", "(I)V"⟩ : MethodName)) (z := (⟨"com/example/spare_calculus/sparecalculus/bisim/Partition", "mark", "(I)V"⟩ : MethodName)) hown (mvT hZ (own_h hw 33 rfl)) (mvT hZ (own_h hw 34 rfl)) (notFace_of_selects (args := #[]) (mvT hZ (own_h hw 36 rfl))) (mvT hZ (own_h hw 36 rfl)) (mvT hZ (own_h hw 35 rfl)) (by decide) (backOf (W := 0) (rm5 l Z aZ hw [] a0 (3:Int32) e1 e2 e3 e4 e5 e6 e7 (own_v352 el po bo bs bm tb bc tc) (own_v354 el po bo bs bm tb bc tc) bo bs (own_v356 el po bo bs bm tb bc tc) (own_v358 el po bo bs bm tb bc tc) bc (own_v350 el po bo bs bm tb bc tc) T334.heap n0 Z349 F363 G336 G337 G338 G339 G340 G341 G342 G343 G351 G353 G355 F364 F365 G357 G359 nq_a0_e1 nq_a0_e2 nq_a0_e3 nq_a0_e4 nq_a0_e6 nq_a0_e7 nq_e1_e2 nq_e1_e3 nq_e1_e4 nq_e1_e6 nq_e1_e7 nq_e2_e3 nq_e2_e4 nq_e2_e6 nq_e2_e7 nq_e3_e4 nq_e3_e6 nq_e3_e7 nq_e4_e6 nq_e4_e7 nq_e6_e7 gq_a0 gq_e1 gq_e2 gq_e6 gq_e7 (hl366 hs5_1 hs18_2 hs31_6 hs44_7).1 (hl366 hs5_1 hs18_2 hs31_6 hs44_7).2.1 (hl366 hs5_1 hs18_2 hs31_6 hs44_7).2.2.1 (hl366 hs5_1 hs18_2 hs31_6 hs44_7).2.2.2.1 (hl366 hs5_1 hs18_2 hs31_6 hs44_7).2.2.2.2.1 (hl366 hs5_1 hs18_2 hs31_6 hs44_7).2.2.2.2.2.1 (hl366 hs5_1 hs18_2 hs31_6 hs44_7).2.2.2.2.2.2.1 (hl366 hs5_1 hs18_2 hs31_6 hs44_7).2.2.2.2.2.2.2) hZ (own_h hw 37 rfl) (own_h hw 2 rfl) (by decide) (by decide)) q362a q362c (g := (mkF m 49 #[rv a0, iv p1] [(.int (3:Int32)), (.ref a0)])) rfl (by rw [hml]; rfl) (Steps.refl _) (argsL := [(.int (3:Int32))]) (rest := []) (lenOf own_pd1 rfl) rfl (by show 2 * 0 + _ ≤ _; exact Nat.le_of_eq rfl) (hb hby d3_49) (fun _ _ => ⟨rfl, eh361, (by decide : 0 + 0 ≤ _), (by decide : 0 + 0 ≤ _)⟩)
          dsimp only [Pt.U, Pt.locs, Pt.cells, Pt.slots] at X362 l362 y362 z362 st362 hQ362
          subst l362 y362 z362
          obtain ⟨rfl, N362q, K362, G367, G368, G369, G370, G371, G372, G373, G374, G375, G376, G377, G378, G379⟩ := hQ362
          have N362 := Fr.app N361 N362q
          have Kp362 : Keep h0 T362.heap [a0, e1, e2, e6, e7] := Kp334.trans K362 (allS (Or.inl (List.mem_of_getElem? (i := 0) rfl)) (allS (Or.inl (List.mem_of_getElem? (i := 1) rfl)) (allS (Or.inl (List.mem_of_getElem? (i := 2) rfl)) (allS (Or.inl (List.mem_of_getElem? (i := 3) rfl)) (allS (Or.inl (List.mem_of_getElem? (i := 4) rfl)) all0)))))
          have Z380 : n0 ≤ T362.heap.size := Nat.le_trans Z349 K362.1
          have G382 : Fld Z T362.heap a0 "com/example/spare_calculus/sparecalculus/bisim/Partition" "touchedBlockCount" "I" (.int (own_v381 el po bo bs bm tb bc tc)) := G375
          have G384 : own_Ints Z T362.heap e1 (own_v383 el po bo bs bm tb bc tc) := G376
          have G386 : own_Ints Z T362.heap e2 (own_v385 el po bo bs bm tb bc tc) := G377
          have G388 : own_Ints Z T362.heap e6 (own_v387 el po bo bs bm tb bc tc) := G378
          have G390 : own_Ints Z T362.heap e7 (own_v389 el po bo bs bm tb bc tc) := G379
          refine own_pre (fun _ k => st362.trans k) ?_
          exact own_end X362 (BodyLoose.notSynchronized Bd) (fun _ => rfl) (v := none) (fun fs hr => X362.returnOut hx Bd.returns (hb hby d3_52) hr) (by show Q3 Z a0 p1 e1 e2 e3 e4 e5 e6 e7 el po bo bs bm tb bc tc h0 n0 _ T362.heap _; exact ⟨rfl, N362, Kp362, (by first | exact G367 | (simp only [if_pos hs5_1, if_neg hs18_2, if_pos hs31_6, if_neg hs44_7]; exact G367)), (by first | exact G368 | (simp only [if_pos hs5_1, if_neg hs18_2, if_pos hs31_6, if_neg hs44_7]; exact G368)), (by first | exact G369 | (simp only [if_pos hs5_1, if_neg hs18_2, if_pos hs31_6, if_neg hs44_7]; exact G369)), (by first | exact G370 | (simp only [if_pos hs5_1, if_neg hs18_2, if_pos hs31_6, if_neg hs44_7]; exact G370)), (by first | exact G371 | (simp only [if_pos hs5_1, if_neg hs18_2, if_pos hs31_6, if_neg hs44_7]; exact G371)), (by first | exact G372 | (simp only [if_pos hs5_1, if_neg hs18_2, if_pos hs31_6, if_neg hs44_7]; exact G372)), (by first | exact G373 | (simp only [if_pos hs5_1, if_neg hs18_2, if_pos hs31_6, if_neg hs44_7]; exact G373)), (by first | exact G374 | (simp only [if_pos hs5_1, if_neg hs18_2, if_pos hs31_6, if_neg hs44_7]; exact G374)), (by simp only [g3_tc, if_pos hs5_1, if_neg hs18_2, if_pos hs31_6, if_neg hs44_7]; exact G382), (by simp only [g3_el, if_pos hs5_1, if_neg hs18_2, if_pos hs31_6, if_neg hs44_7]; exact G384), (by simp only [g3_po, if_pos hs5_1, if_neg hs18_2, if_pos hs31_6, if_neg hs44_7]; exact G386), (by simp only [g3_bm, if_pos hs5_1, if_neg hs18_2, if_pos hs31_6, if_neg hs44_7]; exact G388), (by simp only [g3_tb, if_pos hs5_1, if_neg hs18_2, if_pos hs31_6, if_neg hs44_7]; exact G390)⟩) (by decide) (by decide)
      · refine own_pre (A := T360.setTop (mkF m 36 #[rv a0, iv p1] [(.int (2:Int32)), (.ref a0)])) (fun t k => ?_) ?_
        · show Steps p.tables e below (T360.setTop (mkF m 31 #[rv a0, iv p1] [(.int (f4 p1 (2:Int32)))])) _
          refine XS.ifNo X360.here hx rfl (hb hby d3_31) rfl (XT.i0_eq_f hs31_6) ?_
          show Steps p.tables e below (T360.setTop (mkF m 34 #[rv a0, iv p1] [])) _
          refine XS.aloadN X360.here hx rfl (hb hby d3_34) rfl rfl ?_
          show Steps p.tables e below (T360.setTop (mkF m 35 #[rv a0, iv p1] [(.ref a0)])) _
          refine XS.iconst X360.here hx rfl (hb hby d3_35) ?_
          exact k
        have F392 := (P0.keep K334)
        have F393 := (P12.keep K334 (ninS (Ne.symm nq_a0_e3) (ninS (Ne.symm nq_e1_e3) (ninS (Ne.symm nq_e2_e3) (ninS nq_e3_e6 (ninS nq_e3_e7 nin0))))))
        have F394 := (P13.keep K334 (ninS (Ne.symm nq_a0_e4) (ninS (Ne.symm nq_e1_e4) (ninS (Ne.symm nq_e2_e4) (ninS nq_e4_e6 (ninS nq_e4_e7 nin0))))))
        obtain ⟨cq391, kq391, q391a, q391b, q391c⟩ := isOf hZ eh360 F392
        obtain ⟨_, _, ⟨T391, L391, k391, n391⟩, -, X391, ⟨Lc391, hQ391, l391, y391, z391⟩, st391⟩ := X360.virtualBack hx (y := (⟨"com/example/spare_calculus/sparecalculus/bisim/Partition", "mark", "(I)V"⟩ : MethodName)) (z := (⟨"com/example/spare_calculus/sparecalculus/bisim/Partition", "mark", "(I)V"⟩ : MethodName)) hown (mvT hZ (own_h hw 33 rfl)) (mvT hZ (own_h hw 34 rfl)) (notFace_of_selects (args := #[]) (mvT hZ (own_h hw 36 rfl))) (mvT hZ (own_h hw 36 rfl)) (mvT hZ (own_h hw 35 rfl)) (by decide) (backOf (W := 0) (rm5 l Z aZ hw [] a0 (2:Int32) e1 e2 e3 e4 e5 e6 e7 (own_v352 el po bo bs bm tb bc tc) (own_v354 el po bo bs bm tb bc tc) bo bs (own_v356 el po bo bs bm tb bc tc) (own_v358 el po bo bs bm tb bc tc) bc (own_v350 el po bo bs bm tb bc tc) T334.heap n0 Z349 F392 G336 G337 G338 G339 G340 G341 G342 G343 G351 G353 G355 F393 F394 G357 G359 nq_a0_e1 nq_a0_e2 nq_a0_e3 nq_a0_e4 nq_a0_e6 nq_a0_e7 nq_e1_e2 nq_e1_e3 nq_e1_e4 nq_e1_e6 nq_e1_e7 nq_e2_e3 nq_e2_e4 nq_e2_e6 nq_e2_e7 nq_e3_e4 nq_e3_e6 nq_e3_e7 nq_e4_e6 nq_e4_e7 nq_e6_e7 gq_a0 gq_e1 gq_e2 gq_e6 gq_e7 (hl395 hs5_1 hs18_2 hs31_6).1 (hl395 hs5_1 hs18_2 hs31_6).2.1 (hl395 hs5_1 hs18_2 hs31_6).2.2.1 (hl395 hs5_1 hs18_2 hs31_6).2.2.2.1 (hl395 hs5_1 hs18_2 hs31_6).2.2.2.2.1 (hl395 hs5_1 hs18_2 hs31_6).2.2.2.2.2.1 (hl395 hs5_1 hs18_2 hs31_6).2.2.2.2.2.2.1 (hl395 hs5_1 hs18_2 hs31_6).2.2.2.2.2.2.2) hZ (own_h hw 37 rfl) (own_h hw 2 rfl) (by decide) (by decide)) q391a q391c (g := (mkF m 36 #[rv a0, iv p1] [(.int (2:Int32)), (.ref a0)])) rfl (by rw [hml]; rfl) (Steps.refl _) (argsL := [(.int (2:Int32))]) (rest := []) (lenOf own_pd1 rfl) rfl (by show 2 * 0 + _ ≤ _; exact Nat.le_of_eq rfl) (hb hby d3_36) (fun _ _ => ⟨rfl, eh360, (by decide : 0 + 0 ≤ _), (by decide : 0 + 0 ≤ _)⟩)
        dsimp only [Pt.U, Pt.locs, Pt.cells, Pt.slots] at X391 l391 y391 z391 st391 hQ391
        subst l391 y391 z391
        obtain ⟨rfl, N391q, K391, G396, G397, G398, G399, G400, G401, G402, G403, G404, G405, G406, G407, G408⟩ := hQ391
        have N391 := Fr.app N360 N391q
        have Kp391 : Keep h0 T391.heap [a0, e1, e2, e6, e7] := Kp334.trans K391 (allS (Or.inl (List.mem_of_getElem? (i := 0) rfl)) (allS (Or.inl (List.mem_of_getElem? (i := 1) rfl)) (allS (Or.inl (List.mem_of_getElem? (i := 2) rfl)) (allS (Or.inl (List.mem_of_getElem? (i := 3) rfl)) (allS (Or.inl (List.mem_of_getElem? (i := 4) rfl)) all0)))))
        have Z409 : n0 ≤ T391.heap.size := Nat.le_trans Z349 K391.1
        have G411 : Fld Z T391.heap a0 "com/example/spare_calculus/sparecalculus/bisim/Partition" "touchedBlockCount" "I" (.int (own_v410 el po bo bs bm tb bc tc)) := G404
        have G413 : own_Ints Z T391.heap e1 (own_v412 el po bo bs bm tb bc tc) := G405
        have G415 : own_Ints Z T391.heap e2 (own_v414 el po bo bs bm tb bc tc) := G406
        have G417 : own_Ints Z T391.heap e6 (own_v416 el po bo bs bm tb bc tc) := G407
        have G419 : own_Ints Z T391.heap e7 (own_v418 el po bo bs bm tb bc tc) := G408
        refine own_pre (fun _ k => st391.trans k) ?_
        refine own_pre (A := T391.setTop (mkF m 41 #[rv a0, iv p1] [(.int (3:Int32)), (.int p1)])) (fun t k => ?_) ?_
        · show Steps p.tables e below (T391.setTop (mkF m 39 #[rv a0, iv p1] [])) _
          refine XS.iloadN X391.here hx rfl (hb hby d3_39) rfl ?_
          show Steps p.tables e below (T391.setTop (mkF m 40 #[rv a0, iv p1] [(.int p1)])) _
          refine XS.iconst X391.here hx rfl (hb hby d3_40) ?_
          exact k
        obtain ⟨_, _, ⟨T420, L420, k420, n420⟩, -, X420, ⟨Lc420, hQ420, l420, y420, z420⟩, st420⟩ := Jvm.LawKit.callS X391 hx (y := (⟨"com/example/spare_calculus/sparecalculus/bisim/PartitionSplitOffMarkedPinLaw", "bit", "(II)Z"⟩ : MethodName)) hown (mvT hZ (own_h hw 30 rfl)) (mvT hZ (own_h hw 31 rfl)) (mvT hZ (own_h hw 28 rfl)) (mvT hZ (own_h hw 32 rfl)) (by decide) (backOf (W := 0) (rm4 l Z aZ hw [] p1 (3:Int32) T391.heap n0 Z409 ) hZ (own_h hw 32 rfl) (own_h hw 28 rfl) (by decide) (by decide)) (g := (mkF m 41 #[rv a0, iv p1] [(.int (3:Int32)), (.int p1)])) rfl (by rw [hml]; rfl) (argsL := [(.int p1), (.int (3:Int32))]) (rest := []) (lenOf own_pd0 rfl) rfl (by show 2 * 0 + _ ≤ _; exact Nat.le_of_eq rfl) (hb hby d3_41) (fun _ _ => ⟨rfl, rfl, (by decide : 0 + 0 ≤ _), (by decide : 0 + 0 ≤ _)⟩)
        dsimp only [Pt.U, Pt.locs, Pt.cells, Pt.slots] at X420 l420 y420 z420 st420 hQ420
        subst l420 y420 z420
        obtain ⟨rfl, N420q, eh420⟩ := hQ420
        have N420 := Fr.app N391 N420q
        refine own_pre st420 ?_
        by_cases hs44_8 : (f4 p1 (3:Int32)) = (0:Int32)
        · refine own_pre (A := T420.setTop (mkF m 52 #[rv a0, iv p1] [])) (fun t k => ?_) ?_
          · show Steps p.tables e below (T420.setTop (mkF m 44 #[rv a0, iv p1] [(.int (f4 p1 (3:Int32)))])) _
            refine XS.ifYes X420.here hx rfl (pc0 := 44) (pc' := 52) rfl (hb hby d3_44) rfl (XT.i0_eq_t hs44_8) (by decide) (by decide) ?_
            exact k
          exact own_end X420 (BodyLoose.notSynchronized Bd) (fun _ => rfl) (v := none) (fun fs hr => X420.returnOut hx Bd.returns (hb hby d3_52) hr) (by show Q3 Z a0 p1 e1 e2 e3 e4 e5 e6 e7 el po bo bs bm tb bc tc h0 n0 _ T420.heap _; rw [eh420]; exact ⟨rfl, N420, Kp391, (by first | exact G396 | (simp only [if_pos hs5_1, if_neg hs18_2, if_neg hs31_6, if_pos hs44_8]; exact G396)), (by first | exact G397 | (simp only [if_pos hs5_1, if_neg hs18_2, if_neg hs31_6, if_pos hs44_8]; exact G397)), (by first | exact G398 | (simp only [if_pos hs5_1, if_neg hs18_2, if_neg hs31_6, if_pos hs44_8]; exact G398)), (by first | exact G399 | (simp only [if_pos hs5_1, if_neg hs18_2, if_neg hs31_6, if_pos hs44_8]; exact G399)), (by first | exact G400 | (simp only [if_pos hs5_1, if_neg hs18_2, if_neg hs31_6, if_pos hs44_8]; exact G400)), (by first | exact G401 | (simp only [if_pos hs5_1, if_neg hs18_2, if_neg hs31_6, if_pos hs44_8]; exact G401)), (by first | exact G402 | (simp only [if_pos hs5_1, if_neg hs18_2, if_neg hs31_6, if_pos hs44_8]; exact G402)), (by first | exact G403 | (simp only [if_pos hs5_1, if_neg hs18_2, if_neg hs31_6, if_pos hs44_8]; exact G403)), (by simp only [g3_tc, if_pos hs5_1, if_neg hs18_2, if_neg hs31_6, if_pos hs44_8]; exact G411), (by simp only [g3_el, if_pos hs5_1, if_neg hs18_2, if_neg hs31_6, if_pos hs44_8]; exact G413), (by simp only [g3_po, if_pos hs5_1, if_neg hs18_2, if_neg hs31_6, if_pos hs44_8]; exact G415), (by simp only [g3_bm, if_pos hs5_1, if_neg hs18_2, if_neg hs31_6, if_pos hs44_8]; exact G417), (by simp only [g3_tb, if_pos hs5_1, if_neg hs18_2, if_neg hs31_6, if_pos hs44_8]; exact G419)⟩) (by decide) (by decide)
        · refine own_pre (A := T420.setTop (mkF m 49 #[rv a0, iv p1] [(.int (3:Int32)), (.ref a0)])) (fun t k => ?_) ?_
          · show Steps p.tables e below (T420.setTop (mkF m 44 #[rv a0, iv p1] [(.int (f4 p1 (3:Int32)))])) _
            refine XS.ifNo X420.here hx rfl (hb hby d3_44) rfl (XT.i0_eq_f hs44_8) ?_
            show Steps p.tables e below (T420.setTop (mkF m 47 #[rv a0, iv p1] [])) _
            refine XS.aloadN X420.here hx rfl (hb hby d3_47) rfl rfl ?_
            show Steps p.tables e below (T420.setTop (mkF m 48 #[rv a0, iv p1] [(.ref a0)])) _
            refine XS.iconst X420.here hx rfl (hb hby d3_48) ?_
            exact k
          have F422 := (F392.keep K391)
          have F423 := (F393.keep K391 (ninS (Ne.symm nq_a0_e3) (ninS (Ne.symm nq_e1_e3) (ninS (Ne.symm nq_e2_e3) (ninS nq_e3_e6 (ninS nq_e3_e7 nin0))))))
          have F424 := (F394.keep K391 (ninS (Ne.symm nq_a0_e4) (ninS (Ne.symm nq_e1_e4) (ninS (Ne.symm nq_e2_e4) (ninS nq_e4_e6 (ninS nq_e4_e7 nin0))))))
          obtain ⟨cq421, kq421, q421a, q421b, q421c⟩ := isOf hZ eh420 F422
          obtain ⟨_, _, ⟨T421, L421, k421, n421⟩, -, X421, ⟨Lc421, hQ421, l421, y421, z421⟩, st421⟩ := X420.virtualBack hx (y := (⟨"com/example/spare_calculus/sparecalculus/bisim/Partition", "mark", "(I)V"⟩ : MethodName)) (z := (⟨"com/example/spare_calculus/sparecalculus/bisim/Partition", "mark", "(I)V"⟩ : MethodName)) hown (mvT hZ (own_h hw 33 rfl)) (mvT hZ (own_h hw 34 rfl)) (notFace_of_selects (args := #[]) (mvT hZ (own_h hw 36 rfl))) (mvT hZ (own_h hw 36 rfl)) (mvT hZ (own_h hw 35 rfl)) (by decide) (backOf (W := 0) (rm5 l Z aZ hw [] a0 (3:Int32) e1 e2 e3 e4 e5 e6 e7 (own_v412 el po bo bs bm tb bc tc) (own_v414 el po bo bs bm tb bc tc) bo bs (own_v416 el po bo bs bm tb bc tc) (own_v418 el po bo bs bm tb bc tc) bc (own_v410 el po bo bs bm tb bc tc) T391.heap n0 Z409 F422 G396 G397 G398 G399 G400 G401 G402 G403 G411 G413 G415 F423 F424 G417 G419 nq_a0_e1 nq_a0_e2 nq_a0_e3 nq_a0_e4 nq_a0_e6 nq_a0_e7 nq_e1_e2 nq_e1_e3 nq_e1_e4 nq_e1_e6 nq_e1_e7 nq_e2_e3 nq_e2_e4 nq_e2_e6 nq_e2_e7 nq_e3_e4 nq_e3_e6 nq_e3_e7 nq_e4_e6 nq_e4_e7 nq_e6_e7 gq_a0 gq_e1 gq_e2 gq_e6 gq_e7 (hl425 hs5_1 hs18_2 hs31_6 hs44_8).1 (hl425 hs5_1 hs18_2 hs31_6 hs44_8).2.1 (hl425 hs5_1 hs18_2 hs31_6 hs44_8).2.2.1 (hl425 hs5_1 hs18_2 hs31_6 hs44_8).2.2.2.1 (hl425 hs5_1 hs18_2 hs31_6 hs44_8).2.2.2.2.1 (hl425 hs5_1 hs18_2 hs31_6 hs44_8).2.2.2.2.2.1 (hl425 hs5_1 hs18_2 hs31_6 hs44_8).2.2.2.2.2.2.1 (hl425 hs5_1 hs18_2 hs31_6 hs44_8).2.2.2.2.2.2.2) hZ (own_h hw 37 rfl) (own_h hw 2 rfl) (by decide) (by decide)) q421a q421c (g := (mkF m 49 #[rv a0, iv p1] [(.int (3:Int32)), (.ref a0)])) rfl (by rw [hml]; rfl) (Steps.refl _) (argsL := [(.int (3:Int32))]) (rest := []) (lenOf own_pd1 rfl) rfl (by show 2 * 0 + _ ≤ _; exact Nat.le_of_eq rfl) (hb hby d3_49) (fun _ _ => ⟨rfl, eh420, (by decide : 0 + 0 ≤ _), (by decide : 0 + 0 ≤ _)⟩)
          dsimp only [Pt.U, Pt.locs, Pt.cells, Pt.slots] at X421 l421 y421 z421 st421 hQ421
          subst l421 y421 z421
          obtain ⟨rfl, N421q, K421, G426, G427, G428, G429, G430, G431, G432, G433, G434, G435, G436, G437, G438⟩ := hQ421
          have N421 := Fr.app N420 N421q
          have Kp421 : Keep h0 T421.heap [a0, e1, e2, e6, e7] := Kp391.trans K421 (allS (Or.inl (List.mem_of_getElem? (i := 0) rfl)) (allS (Or.inl (List.mem_of_getElem? (i := 1) rfl)) (allS (Or.inl (List.mem_of_getElem? (i := 2) rfl)) (allS (Or.inl (List.mem_of_getElem? (i := 3) rfl)) (allS (Or.inl (List.mem_of_getElem? (i := 4) rfl)) all0)))))
          have Z439 : n0 ≤ T421.heap.size := Nat.le_trans Z409 K421.1
          have G441 : Fld Z T421.heap a0 "com/example/spare_calculus/sparecalculus/bisim/Partition" "touchedBlockCount" "I" (.int (own_v440 el po bo bs bm tb bc tc)) := G434
          have G443 : own_Ints Z T421.heap e1 (own_v442 el po bo bs bm tb bc tc) := G435
          have G445 : own_Ints Z T421.heap e2 (own_v444 el po bo bs bm tb bc tc) := G436
          have G447 : own_Ints Z T421.heap e6 (own_v446 el po bo bs bm tb bc tc) := G437
          have G449 : own_Ints Z T421.heap e7 (own_v448 el po bo bs bm tb bc tc) := G438
          refine own_pre (fun _ k => st421.trans k) ?_
          exact own_end X421 (BodyLoose.notSynchronized Bd) (fun _ => rfl) (v := none) (fun fs hr => X421.returnOut hx Bd.returns (hb hby d3_52) hr) (by show Q3 Z a0 p1 e1 e2 e3 e4 e5 e6 e7 el po bo bs bm tb bc tc h0 n0 _ T421.heap _; exact ⟨rfl, N421, Kp421, (by first | exact G426 | (simp only [if_pos hs5_1, if_neg hs18_2, if_neg hs31_6, if_neg hs44_8]; exact G426)), (by first | exact G427 | (simp only [if_pos hs5_1, if_neg hs18_2, if_neg hs31_6, if_neg hs44_8]; exact G427)), (by first | exact G428 | (simp only [if_pos hs5_1, if_neg hs18_2, if_neg hs31_6, if_neg hs44_8]; exact G428)), (by first | exact G429 | (simp only [if_pos hs5_1, if_neg hs18_2, if_neg hs31_6, if_neg hs44_8]; exact G429)), (by first | exact G430 | (simp only [if_pos hs5_1, if_neg hs18_2, if_neg hs31_6, if_neg hs44_8]; exact G430)), (by first | exact G431 | (simp only [if_pos hs5_1, if_neg hs18_2, if_neg hs31_6, if_neg hs44_8]; exact G431)), (by first | exact G432 | (simp only [if_pos hs5_1, if_neg hs18_2, if_neg hs31_6, if_neg hs44_8]; exact G432)), (by first | exact G433 | (simp only [if_pos hs5_1, if_neg hs18_2, if_neg hs31_6, if_neg hs44_8]; exact G433)), (by simp only [g3_tc, if_pos hs5_1, if_neg hs18_2, if_neg hs31_6, if_neg hs44_8]; exact G441), (by simp only [g3_el, if_pos hs5_1, if_neg hs18_2, if_neg hs31_6, if_neg hs44_8]; exact G443), (by simp only [g3_po, if_pos hs5_1, if_neg hs18_2, if_neg hs31_6, if_neg hs44_8]; exact G445), (by simp only [g3_bm, if_pos hs5_1, if_neg hs18_2, if_neg hs31_6, if_neg hs44_8]; exact G447), (by simp only [g3_tb, if_pos hs5_1, if_neg hs18_2, if_neg hs31_6, if_neg hs44_8]; exact G449)⟩) (by decide) (by decide)
  · refine own_pre (A := T248.setTop (mkF m 10 #[rv a0, iv p1] [(.int (0:Int32)), (.ref a0)])) (fun t k => ?_) ?_
    · show Steps p.tables e below (T248.setTop (mkF m 5 #[rv a0, iv p1] [(.int (f4 p1 (0:Int32)))])) _
      refine XS.ifNo X248.here hx rfl (hb hby d3_5) rfl (XT.i0_eq_f hs5_1) ?_
      show Steps p.tables e below (T248.setTop (mkF m 8 #[rv a0, iv p1] [])) _
      refine XS.aloadN X248.here hx rfl (hb hby d3_8) rfl rfl ?_
      show Steps p.tables e below (T248.setTop (mkF m 9 #[rv a0, iv p1] [(.ref a0)])) _
      refine XS.iconst X248.here hx rfl (hb hby d3_9) ?_
      exact k
    obtain ⟨cq450, kq450, q450a, q450b, q450c⟩ := isOf hZ eh248 P0
    obtain ⟨_, _, ⟨T450, L450, k450, n450⟩, -, X450, ⟨Lc450, hQ450, l450, y450, z450⟩, st450⟩ := X248.virtualBack hx (y := (⟨"com/example/spare_calculus/sparecalculus/bisim/Partition", "mark", "(I)V"⟩ : MethodName)) (z := (⟨"com/example/spare_calculus/sparecalculus/bisim/Partition", "mark", "(I)V"⟩ : MethodName)) hown (mvT hZ (own_h hw 33 rfl)) (mvT hZ (own_h hw 34 rfl)) (notFace_of_selects (args := #[]) (mvT hZ (own_h hw 36 rfl))) (mvT hZ (own_h hw 36 rfl)) (mvT hZ (own_h hw 35 rfl)) (by decide) (backOf (W := 0) (rm5 l Z aZ hw [] a0 (0:Int32) e1 e2 e3 e4 e5 e6 e7 el po bo bs bm tb bc tc h0 n0 Z0 P0 P1 P2 P3 P4 P5 P6 P7 P8 P9 P10 P11 P12 P13 P14 P15 nq_a0_e1 nq_a0_e2 nq_a0_e3 nq_a0_e4 nq_a0_e6 nq_a0_e7 nq_e1_e2 nq_e1_e3 nq_e1_e4 nq_e1_e6 nq_e1_e7 nq_e2_e3 nq_e2_e4 nq_e2_e6 nq_e2_e7 nq_e3_e4 nq_e3_e6 nq_e3_e7 nq_e4_e6 nq_e4_e7 nq_e6_e7 gq_a0 gq_e1 gq_e2 gq_e6 gq_e7 (hl451 hs5_1).1 (hl451 hs5_1).2.1 (hl451 hs5_1).2.2.1 (hl451 hs5_1).2.2.2.1 (hl451 hs5_1).2.2.2.2.1 (hl451 hs5_1).2.2.2.2.2.1 (hl451 hs5_1).2.2.2.2.2.2.1 (hl451 hs5_1).2.2.2.2.2.2.2) hZ (own_h hw 37 rfl) (own_h hw 2 rfl) (by decide) (by decide)) q450a q450c (g := (mkF m 10 #[rv a0, iv p1] [(.int (0:Int32)), (.ref a0)])) rfl (by rw [hml]; rfl) (Steps.refl _) (argsL := [(.int (0:Int32))]) (rest := []) (lenOf own_pd1 rfl) rfl (by show 2 * 0 + _ ≤ _; exact Nat.le_of_eq rfl) (hb hby d3_10) (fun _ _ => ⟨rfl, eh248, (by decide : 0 + 0 ≤ _), (by decide : 0 + 0 ≤ _)⟩)
    dsimp only [Pt.U, Pt.locs, Pt.cells, Pt.slots] at X450 l450 y450 z450 st450 hQ450
    subst l450 y450 z450
    obtain ⟨rfl, N450q, K450, G452, G453, G454, G455, G456, G457, G458, G459, G460, G461, G462, G463, G464⟩ := hQ450
    have N450 := Fr.app N248 N450q
    have Kp450 : Keep h0 T450.heap [a0, e1, e2, e6, e7] := Kp0.trans K450 (allS (Or.inl (List.mem_of_getElem? (i := 0) rfl)) (allS (Or.inl (List.mem_of_getElem? (i := 1) rfl)) (allS (Or.inl (List.mem_of_getElem? (i := 2) rfl)) (allS (Or.inl (List.mem_of_getElem? (i := 3) rfl)) (allS (Or.inl (List.mem_of_getElem? (i := 4) rfl)) all0)))))
    have Z465 : n0 ≤ T450.heap.size := Nat.le_trans Z0 K450.1
    have G467 : Fld Z T450.heap a0 "com/example/spare_calculus/sparecalculus/bisim/Partition" "touchedBlockCount" "I" (.int (own_v466 el po bo bs bm tb bc tc)) := G460
    have G469 : own_Ints Z T450.heap e1 (own_v468 el po bo bs bm tb bc tc) := G461
    have G471 : own_Ints Z T450.heap e2 (own_v470 el po bo bs bm tb bc tc) := G462
    have G473 : own_Ints Z T450.heap e6 (own_v472 el po bo bs bm tb bc tc) := G463
    have G475 : own_Ints Z T450.heap e7 (own_v474 el po bo bs bm tb bc tc) := G464
    refine own_pre (fun _ k => st450.trans k) ?_
    refine own_pre (A := T450.setTop (mkF m 15 #[rv a0, iv p1] [(.int (1:Int32)), (.int p1)])) (fun t k => ?_) ?_
    · show Steps p.tables e below (T450.setTop (mkF m 13 #[rv a0, iv p1] [])) _
      refine XS.iloadN X450.here hx rfl (hb hby d3_13) rfl ?_
      show Steps p.tables e below (T450.setTop (mkF m 14 #[rv a0, iv p1] [(.int p1)])) _
      refine XS.iconst X450.here hx rfl (hb hby d3_14) ?_
      exact k
    obtain ⟨_, _, ⟨T476, L476, k476, n476⟩, -, X476, ⟨Lc476, hQ476, l476, y476, z476⟩, st476⟩ := Jvm.LawKit.callS X450 hx (y := (⟨"com/example/spare_calculus/sparecalculus/bisim/PartitionSplitOffMarkedPinLaw", "bit", "(II)Z"⟩ : MethodName)) hown (mvT hZ (own_h hw 30 rfl)) (mvT hZ (own_h hw 31 rfl)) (mvT hZ (own_h hw 28 rfl)) (mvT hZ (own_h hw 32 rfl)) (by decide) (backOf (W := 0) (rm4 l Z aZ hw [] p1 (1:Int32) T450.heap n0 Z465 ) hZ (own_h hw 32 rfl) (own_h hw 28 rfl) (by decide) (by decide)) (g := (mkF m 15 #[rv a0, iv p1] [(.int (1:Int32)), (.int p1)])) rfl (by rw [hml]; rfl) (argsL := [(.int p1), (.int (1:Int32))]) (rest := []) (lenOf own_pd0 rfl) rfl (by show 2 * 0 + _ ≤ _; exact Nat.le_of_eq rfl) (hb hby d3_15) (fun _ _ => ⟨rfl, rfl, (by decide : 0 + 0 ≤ _), (by decide : 0 + 0 ≤ _)⟩)
    dsimp only [Pt.U, Pt.locs, Pt.cells, Pt.slots] at X476 l476 y476 z476 st476 hQ476
    subst l476 y476 z476
    obtain ⟨rfl, N476q, eh476⟩ := hQ476
    have N476 := Fr.app N450 N476q
    refine own_pre st476 ?_
    by_cases hs18_9 : (f4 p1 (1:Int32)) = (0:Int32)
    · refine own_pre (A := T476.setTop (mkF m 28 #[rv a0, iv p1] [(.int (2:Int32)), (.int p1)])) (fun t k => ?_) ?_
      · show Steps p.tables e below (T476.setTop (mkF m 18 #[rv a0, iv p1] [(.int (f4 p1 (1:Int32)))])) _
        refine XS.ifYes X476.here hx rfl (pc0 := 18) (pc' := 26) rfl (hb hby d3_18) rfl (XT.i0_eq_t hs18_9) (by decide) (by decide) ?_
        show Steps p.tables e below (T476.setTop (mkF m 26 #[rv a0, iv p1] [])) _
        refine XS.iloadN X476.here hx rfl (hb hby d3_26) rfl ?_
        show Steps p.tables e below (T476.setTop (mkF m 27 #[rv a0, iv p1] [(.int p1)])) _
        refine XS.iconst X476.here hx rfl (hb hby d3_27) ?_
        exact k
      obtain ⟨_, _, ⟨T477, L477, k477, n477⟩, -, X477, ⟨Lc477, hQ477, l477, y477, z477⟩, st477⟩ := Jvm.LawKit.callS X476 hx (y := (⟨"com/example/spare_calculus/sparecalculus/bisim/PartitionSplitOffMarkedPinLaw", "bit", "(II)Z"⟩ : MethodName)) hown (mvT hZ (own_h hw 30 rfl)) (mvT hZ (own_h hw 31 rfl)) (mvT hZ (own_h hw 28 rfl)) (mvT hZ (own_h hw 32 rfl)) (by decide) (backOf (W := 0) (rm4 l Z aZ hw [] p1 (2:Int32) T450.heap n0 Z465 ) hZ (own_h hw 32 rfl) (own_h hw 28 rfl) (by decide) (by decide)) (g := (mkF m 28 #[rv a0, iv p1] [(.int (2:Int32)), (.int p1)])) rfl (by rw [hml]; rfl) (argsL := [(.int p1), (.int (2:Int32))]) (rest := []) (lenOf own_pd0 rfl) rfl (by show 2 * 0 + _ ≤ _; exact Nat.le_of_eq rfl) (hb hby d3_28) (fun _ _ => ⟨rfl, eh476, (by decide : 0 + 0 ≤ _), (by decide : 0 + 0 ≤ _)⟩)
      dsimp only [Pt.U, Pt.locs, Pt.cells, Pt.slots] at X477 l477 y477 z477 st477 hQ477
      subst l477 y477 z477
      obtain ⟨rfl, N477q, eh477⟩ := hQ477
      have N477 := Fr.app N476 N477q
      refine own_pre st477 ?_
      by_cases hs31_10 : (f4 p1 (2:Int32)) = (0:Int32)
      · refine own_pre (A := T477.setTop (mkF m 41 #[rv a0, iv p1] [(.int (3:Int32)), (.int p1)])) (fun t k => ?_) ?_
        · show Steps p.tables e below (T477.setTop (mkF m 31 #[rv a0, iv p1] [(.int (f4 p1 (2:Int32)))])) _
          refine XS.ifYes X477.here hx rfl (pc0 := 31) (pc' := 39) rfl (hb hby d3_31) rfl (XT.i0_eq_t hs31_10) (by decide) (by decide) ?_
          show Steps p.tables e below (T477.setTop (mkF m 39 #[rv a0, iv p1] [])) _
          refine XS.iloadN X477.here hx rfl (hb hby d3_39) rfl ?_
          show Steps p.tables e below (T477.setTop (mkF m 40 #[rv a0, iv p1] [(.int p1)])) _
          refine XS.iconst X477.here hx rfl (hb hby d3_40) ?_
          exact k
        obtain ⟨_, _, ⟨T478, L478, k478, n478⟩, -, X478, ⟨Lc478, hQ478, l478, y478, z478⟩, st478⟩ := Jvm.LawKit.callS X477 hx (y := (⟨"com/example/spare_calculus/sparecalculus/bisim/PartitionSplitOffMarkedPinLaw", "bit", "(II)Z"⟩ : MethodName)) hown (mvT hZ (own_h hw 30 rfl)) (mvT hZ (own_h hw 31 rfl)) (mvT hZ (own_h hw 28 rfl)) (mvT hZ (own_h hw 32 rfl)) (by decide) (backOf (W := 0) (rm4 l Z aZ hw [] p1 (3:Int32) T450.heap n0 Z465 ) hZ (own_h hw 32 rfl) (own_h hw 28 rfl) (by decide) (by decide)) (g := (mkF m 41 #[rv a0, iv p1] [(.int (3:Int32)), (.int p1)])) rfl (by rw [hml]; rfl) (argsL := [(.int p1), (.int (3:Int32))]) (rest := []) (lenOf own_pd0 rfl) rfl (by show 2 * 0 + _ ≤ _; exact Nat.le_of_eq rfl) (hb hby d3_41) (fun _ _ => ⟨rfl, eh477, (by decide : 0 + 0 ≤ _), (by decide : 0 + 0 ≤ _)⟩)
        dsimp only [Pt.U, Pt.locs, Pt.cells, Pt.slots] at X478 l478 y478 z478 st478 hQ478
        subst l478 y478 z478
        obtain ⟨rfl, N478q, eh478⟩ := hQ478
        have N478 := Fr.app N477 N478q
        refine own_pre st478 ?_
        by_cases hs44_11 : (f4 p1 (3:Int32)) = (0:Int32)
        · refine own_pre (A := T478.setTop (mkF m 52 #[rv a0, iv p1] [])) (fun t k => ?_) ?_
          · show Steps p.tables e below (T478.setTop (mkF m 44 #[rv a0, iv p1] [(.int (f4 p1 (3:Int32)))])) _
            refine XS.ifYes X478.here hx rfl (pc0 := 44) (pc' := 52) rfl (hb hby d3_44) rfl (XT.i0_eq_t hs44_11) (by decide) (by decide) ?_
            exact k
          exact own_end X478 (BodyLoose.notSynchronized Bd) (fun _ => rfl) (v := none) (fun fs hr => X478.returnOut hx Bd.returns (hb hby d3_52) hr) (by show Q3 Z a0 p1 e1 e2 e3 e4 e5 e6 e7 el po bo bs bm tb bc tc h0 n0 _ T478.heap _; rw [eh478]; exact ⟨rfl, N478, Kp450, (by first | exact G452 | (simp only [if_neg hs5_1, if_pos hs18_9, if_pos hs31_10, if_pos hs44_11]; exact G452)), (by first | exact G453 | (simp only [if_neg hs5_1, if_pos hs18_9, if_pos hs31_10, if_pos hs44_11]; exact G453)), (by first | exact G454 | (simp only [if_neg hs5_1, if_pos hs18_9, if_pos hs31_10, if_pos hs44_11]; exact G454)), (by first | exact G455 | (simp only [if_neg hs5_1, if_pos hs18_9, if_pos hs31_10, if_pos hs44_11]; exact G455)), (by first | exact G456 | (simp only [if_neg hs5_1, if_pos hs18_9, if_pos hs31_10, if_pos hs44_11]; exact G456)), (by first | exact G457 | (simp only [if_neg hs5_1, if_pos hs18_9, if_pos hs31_10, if_pos hs44_11]; exact G457)), (by first | exact G458 | (simp only [if_neg hs5_1, if_pos hs18_9, if_pos hs31_10, if_pos hs44_11]; exact G458)), (by first | exact G459 | (simp only [if_neg hs5_1, if_pos hs18_9, if_pos hs31_10, if_pos hs44_11]; exact G459)), (by simp only [g3_tc, if_neg hs5_1, if_pos hs18_9, if_pos hs31_10, if_pos hs44_11]; exact G467), (by simp only [g3_el, if_neg hs5_1, if_pos hs18_9, if_pos hs31_10, if_pos hs44_11]; exact G469), (by simp only [g3_po, if_neg hs5_1, if_pos hs18_9, if_pos hs31_10, if_pos hs44_11]; exact G471), (by simp only [g3_bm, if_neg hs5_1, if_pos hs18_9, if_pos hs31_10, if_pos hs44_11]; exact G473), (by simp only [g3_tb, if_neg hs5_1, if_pos hs18_9, if_pos hs31_10, if_pos hs44_11]; exact G475)⟩) (by decide) (by decide)
        · refine own_pre (A := T478.setTop (mkF m 49 #[rv a0, iv p1] [(.int (3:Int32)), (.ref a0)])) (fun t k => ?_) ?_
          · show Steps p.tables e below (T478.setTop (mkF m 44 #[rv a0, iv p1] [(.int (f4 p1 (3:Int32)))])) _
            refine XS.ifNo X478.here hx rfl (hb hby d3_44) rfl (XT.i0_eq_f hs44_11) ?_
            show Steps p.tables e below (T478.setTop (mkF m 47 #[rv a0, iv p1] [])) _
            refine XS.aloadN X478.here hx rfl (hb hby d3_47) rfl rfl ?_
            show Steps p.tables e below (T478.setTop (mkF m 48 #[rv a0, iv p1] [(.ref a0)])) _
            refine XS.iconst X478.here hx rfl (hb hby d3_48) ?_
            exact k
          have F480 := (P0.keep K450)
          have F481 := (P12.keep K450 (ninS (Ne.symm nq_a0_e3) (ninS (Ne.symm nq_e1_e3) (ninS (Ne.symm nq_e2_e3) (ninS nq_e3_e6 (ninS nq_e3_e7 nin0))))))
          have F482 := (P13.keep K450 (ninS (Ne.symm nq_a0_e4) (ninS (Ne.symm nq_e1_e4) (ninS (Ne.symm nq_e2_e4) (ninS nq_e4_e6 (ninS nq_e4_e7 nin0))))))
          obtain ⟨cq479, kq479, q479a, q479b, q479c⟩ := isOf hZ eh478 F480
          obtain ⟨_, _, ⟨T479, L479, k479, n479⟩, -, X479, ⟨Lc479, hQ479, l479, y479, z479⟩, st479⟩ := X478.virtualBack hx (y := (⟨"com/example/spare_calculus/sparecalculus/bisim/Partition", "mark", "(I)V"⟩ : MethodName)) (z := (⟨"com/example/spare_calculus/sparecalculus/bisim/Partition", "mark", "(I)V"⟩ : MethodName)) hown (mvT hZ (own_h hw 33 rfl)) (mvT hZ (own_h hw 34 rfl)) (notFace_of_selects (args := #[]) (mvT hZ (own_h hw 36 rfl))) (mvT hZ (own_h hw 36 rfl)) (mvT hZ (own_h hw 35 rfl)) (by decide) (backOf (W := 0) (rm5 l Z aZ hw [] a0 (3:Int32) e1 e2 e3 e4 e5 e6 e7 (own_v468 el po bo bs bm tb bc tc) (own_v470 el po bo bs bm tb bc tc) bo bs (own_v472 el po bo bs bm tb bc tc) (own_v474 el po bo bs bm tb bc tc) bc (own_v466 el po bo bs bm tb bc tc) T450.heap n0 Z465 F480 G452 G453 G454 G455 G456 G457 G458 G459 G467 G469 G471 F481 F482 G473 G475 nq_a0_e1 nq_a0_e2 nq_a0_e3 nq_a0_e4 nq_a0_e6 nq_a0_e7 nq_e1_e2 nq_e1_e3 nq_e1_e4 nq_e1_e6 nq_e1_e7 nq_e2_e3 nq_e2_e4 nq_e2_e6 nq_e2_e7 nq_e3_e4 nq_e3_e6 nq_e3_e7 nq_e4_e6 nq_e4_e7 nq_e6_e7 gq_a0 gq_e1 gq_e2 gq_e6 gq_e7 (hl483 hs5_1 hs18_9 hs31_10 hs44_11).1 (hl483 hs5_1 hs18_9 hs31_10 hs44_11).2.1 (hl483 hs5_1 hs18_9 hs31_10 hs44_11).2.2.1 (hl483 hs5_1 hs18_9 hs31_10 hs44_11).2.2.2.1 (hl483 hs5_1 hs18_9 hs31_10 hs44_11).2.2.2.2.1 (hl483 hs5_1 hs18_9 hs31_10 hs44_11).2.2.2.2.2.1 (hl483 hs5_1 hs18_9 hs31_10 hs44_11).2.2.2.2.2.2.1 (hl483 hs5_1 hs18_9 hs31_10 hs44_11).2.2.2.2.2.2.2) hZ (own_h hw 37 rfl) (own_h hw 2 rfl) (by decide) (by decide)) q479a q479c (g := (mkF m 49 #[rv a0, iv p1] [(.int (3:Int32)), (.ref a0)])) rfl (by rw [hml]; rfl) (Steps.refl _) (argsL := [(.int (3:Int32))]) (rest := []) (lenOf own_pd1 rfl) rfl (by show 2 * 0 + _ ≤ _; exact Nat.le_of_eq rfl) (hb hby d3_49) (fun _ _ => ⟨rfl, eh478, (by decide : 0 + 0 ≤ _), (by decide : 0 + 0 ≤ _)⟩)
          dsimp only [Pt.U, Pt.locs, Pt.cells, Pt.slots] at X479 l479 y479 z479 st479 hQ479
          subst l479 y479 z479
          obtain ⟨rfl, N479q, K479, G484, G485, G486, G487, G488, G489, G490, G491, G492, G493, G494, G495, G496⟩ := hQ479
          have N479 := Fr.app N478 N479q
          have Kp479 : Keep h0 T479.heap [a0, e1, e2, e6, e7] := Kp450.trans K479 (allS (Or.inl (List.mem_of_getElem? (i := 0) rfl)) (allS (Or.inl (List.mem_of_getElem? (i := 1) rfl)) (allS (Or.inl (List.mem_of_getElem? (i := 2) rfl)) (allS (Or.inl (List.mem_of_getElem? (i := 3) rfl)) (allS (Or.inl (List.mem_of_getElem? (i := 4) rfl)) all0)))))
          have Z497 : n0 ≤ T479.heap.size := Nat.le_trans Z465 K479.1
          have G499 : Fld Z T479.heap a0 "com/example/spare_calculus/sparecalculus/bisim/Partition" "touchedBlockCount" "I" (.int (own_v498 el po bo bs bm tb bc tc)) := G492
          have G501 : own_Ints Z T479.heap e1 (own_v500 el po bo bs bm tb bc tc) := G493
          have G503 : own_Ints Z T479.heap e2 (own_v502 el po bo bs bm tb bc tc) := G494
          have G505 : own_Ints Z T479.heap e6 (own_v504 el po bo bs bm tb bc tc) := G495
          have G507 : own_Ints Z T479.heap e7 (own_v506 el po bo bs bm tb bc tc) := G496
          refine own_pre (fun _ k => st479.trans k) ?_
          exact own_end X479 (BodyLoose.notSynchronized Bd) (fun _ => rfl) (v := none) (fun fs hr => X479.returnOut hx Bd.returns (hb hby d3_52) hr) (by show Q3 Z a0 p1 e1 e2 e3 e4 e5 e6 e7 el po bo bs bm tb bc tc h0 n0 _ T479.heap _; exact ⟨rfl, N479, Kp479, (by first | exact G484 | (simp only [if_neg hs5_1, if_pos hs18_9, if_pos hs31_10, if_neg hs44_11]; exact G484)), (by first | exact G485 | (simp only [if_neg hs5_1, if_pos hs18_9, if_pos hs31_10, if_neg hs44_11]; exact G485)), (by first | exact G486 | (simp only [if_neg hs5_1, if_pos hs18_9, if_pos hs31_10, if_neg hs44_11]; exact G486)), (by first | exact G487 | (simp only [if_neg hs5_1, if_pos hs18_9, if_pos hs31_10, if_neg hs44_11]; exact G487)), (by first | exact G488 | (simp only [if_neg hs5_1, if_pos hs18_9, if_pos hs31_10, if_neg hs44_11]; exact G488)), (by first | exact G489 | (simp only [if_neg hs5_1, if_pos hs18_9, if_pos hs31_10, if_neg hs44_11]; exact G489)), (by first | exact G490 | (simp only [if_neg hs5_1, if_pos hs18_9, if_pos hs31_10, if_neg hs44_11]; exact G490)), (by first | exact G491 | (simp only [if_neg hs5_1, if_pos hs18_9, if_pos hs31_10, if_neg hs44_11]; exact G491)), (by simp only [g3_tc, if_neg hs5_1, if_pos hs18_9, if_pos hs31_10, if_neg hs44_11]; exact G499), (by simp only [g3_el, if_neg hs5_1, if_pos hs18_9, if_pos hs31_10, if_neg hs44_11]; exact G501), (by simp only [g3_po, if_neg hs5_1, if_pos hs18_9, if_pos hs31_10, if_neg hs44_11]; exact G503), (by simp only [g3_bm, if_neg hs5_1, if_pos hs18_9, if_pos hs31_10, if_neg hs44_11]; exact G505), (by simp only [g3_tb, if_neg hs5_1, if_pos hs18_9, if_pos hs31_10, if_neg hs44_11]; exact G507)⟩) (by decide) (by decide)
      · refine own_pre (A := T477.setTop (mkF m 36 #[rv a0, iv p1] [(.int (2:Int32)), (.ref a0)])) (fun t k => ?_) ?_
        · show Steps p.tables e below (T477.setTop (mkF m 31 #[rv a0, iv p1] [(.int (f4 p1 (2:Int32)))])) _
          refine XS.ifNo X477.here hx rfl (hb hby d3_31) rfl (XT.i0_eq_f hs31_10) ?_
          show Steps p.tables e below (T477.setTop (mkF m 34 #[rv a0, iv p1] [])) _
          refine XS.aloadN X477.here hx rfl (hb hby d3_34) rfl rfl ?_
          show Steps p.tables e below (T477.setTop (mkF m 35 #[rv a0, iv p1] [(.ref a0)])) _
          refine XS.iconst X477.here hx rfl (hb hby d3_35) ?_
          exact k
        have F509 := (P0.keep K450)
        have F510 := (P12.keep K450 (ninS (Ne.symm nq_a0_e3) (ninS (Ne.symm nq_e1_e3) (ninS (Ne.symm nq_e2_e3) (ninS nq_e3_e6 (ninS nq_e3_e7 nin0))))))
        have F511 := (P13.keep K450 (ninS (Ne.symm nq_a0_e4) (ninS (Ne.symm nq_e1_e4) (ninS (Ne.symm nq_e2_e4) (ninS nq_e4_e6 (ninS nq_e4_e7 nin0))))))
        obtain ⟨cq508, kq508, q508a, q508b, q508c⟩ := isOf hZ eh477 F509
        obtain ⟨_, _, ⟨T508, L508, k508, n508⟩, -, X508, ⟨Lc508, hQ508, l508, y508, z508⟩, st508⟩ := X477.virtualBack hx (y := (⟨"com/example/spare_calculus/sparecalculus/bisim/Partition", "mark", "(I)V"⟩ : MethodName)) (z := (⟨"com/example/spare_calculus/sparecalculus/bisim/Partition", "mark", "(I)V"⟩ : MethodName)) hown (mvT hZ (own_h hw 33 rfl)) (mvT hZ (own_h hw 34 rfl)) (notFace_of_selects (args := #[]) (mvT hZ (own_h hw 36 rfl))) (mvT hZ (own_h hw 36 rfl)) (mvT hZ (own_h hw 35 rfl)) (by decide) (backOf (W := 0) (rm5 l Z aZ hw [] a0 (2:Int32) e1 e2 e3 e4 e5 e6 e7 (own_v468 el po bo bs bm tb bc tc) (own_v470 el po bo bs bm tb bc tc) bo bs (own_v472 el po bo bs bm tb bc tc) (own_v474 el po bo bs bm tb bc tc) bc (own_v466 el po bo bs bm tb bc tc) T450.heap n0 Z465 F509 G452 G453 G454 G455 G456 G457 G458 G459 G467 G469 G471 F510 F511 G473 G475 nq_a0_e1 nq_a0_e2 nq_a0_e3 nq_a0_e4 nq_a0_e6 nq_a0_e7 nq_e1_e2 nq_e1_e3 nq_e1_e4 nq_e1_e6 nq_e1_e7 nq_e2_e3 nq_e2_e4 nq_e2_e6 nq_e2_e7 nq_e3_e4 nq_e3_e6 nq_e3_e7 nq_e4_e6 nq_e4_e7 nq_e6_e7 gq_a0 gq_e1 gq_e2 gq_e6 gq_e7 (hl512 hs5_1 hs18_9 hs31_10).1 (hl512 hs5_1 hs18_9 hs31_10).2.1 (hl512 hs5_1 hs18_9 hs31_10).2.2.1 (hl512 hs5_1 hs18_9 hs31_10).2.2.2.1 (hl512 hs5_1 hs18_9 hs31_10).2.2.2.2.1 (hl512 hs5_1 hs18_9 hs31_10).2.2.2.2.2.1 (hl512 hs5_1 hs18_9 hs31_10).2.2.2.2.2.2.1 (hl512 hs5_1 hs18_9 hs31_10).2.2.2.2.2.2.2) hZ (own_h hw 37 rfl) (own_h hw 2 rfl) (by decide) (by decide)) q508a q508c (g := (mkF m 36 #[rv a0, iv p1] [(.int (2:Int32)), (.ref a0)])) rfl (by rw [hml]; rfl) (Steps.refl _) (argsL := [(.int (2:Int32))]) (rest := []) (lenOf own_pd1 rfl) rfl (by show 2 * 0 + _ ≤ _; exact Nat.le_of_eq rfl) (hb hby d3_36) (fun _ _ => ⟨rfl, eh477, (by decide : 0 + 0 ≤ _), (by decide : 0 + 0 ≤ _)⟩)
        dsimp only [Pt.U, Pt.locs, Pt.cells, Pt.slots] at X508 l508 y508 z508 st508 hQ508
        subst l508 y508 z508
        obtain ⟨rfl, N508q, K508, G513, G514, G515, G516, G517, G518, G519, G520, G521, G522, G523, G524, G525⟩ := hQ508
        have N508 := Fr.app N477 N508q
        have Kp508 : Keep h0 T508.heap [a0, e1, e2, e6, e7] := Kp450.trans K508 (allS (Or.inl (List.mem_of_getElem? (i := 0) rfl)) (allS (Or.inl (List.mem_of_getElem? (i := 1) rfl)) (allS (Or.inl (List.mem_of_getElem? (i := 2) rfl)) (allS (Or.inl (List.mem_of_getElem? (i := 3) rfl)) (allS (Or.inl (List.mem_of_getElem? (i := 4) rfl)) all0)))))
        have Z526 : n0 ≤ T508.heap.size := Nat.le_trans Z465 K508.1
        have G528 : Fld Z T508.heap a0 "com/example/spare_calculus/sparecalculus/bisim/Partition" "touchedBlockCount" "I" (.int (own_v527 el po bo bs bm tb bc tc)) := G521
        have G530 : own_Ints Z T508.heap e1 (own_v529 el po bo bs bm tb bc tc) := G522
        have G532 : own_Ints Z T508.heap e2 (own_v531 el po bo bs bm tb bc tc) := G523
        have G534 : own_Ints Z T508.heap e6 (own_v533 el po bo bs bm tb bc tc) := G524
        have G536 : own_Ints Z T508.heap e7 (own_v535 el po bo bs bm tb bc tc) := G525
        refine own_pre (fun _ k => st508.trans k) ?_
        refine own_pre (A := T508.setTop (mkF m 41 #[rv a0, iv p1] [(.int (3:Int32)), (.int p1)])) (fun t k => ?_) ?_
        · show Steps p.tables e below (T508.setTop (mkF m 39 #[rv a0, iv p1] [])) _
          refine XS.iloadN X508.here hx rfl (hb hby d3_39) rfl ?_
          show Steps p.tables e below (T508.setTop (mkF m 40 #[rv a0, iv p1] [(.int p1)])) _
          refine XS.iconst X508.here hx rfl (hb hby d3_40) ?_
          exact k
        obtain ⟨_, _, ⟨T537, L537, k537, n537⟩, -, X537, ⟨Lc537, hQ537, l537, y537, z537⟩, st537⟩ := Jvm.LawKit.callS X508 hx (y := (⟨"com/example/spare_calculus/sparecalculus/bisim/PartitionSplitOffMarkedPinLaw", "bit", "(II)Z"⟩ : MethodName)) hown (mvT hZ (own_h hw 30 rfl)) (mvT hZ (own_h hw 31 rfl)) (mvT hZ (own_h hw 28 rfl)) (mvT hZ (own_h hw 32 rfl)) (by decide) (backOf (W := 0) (rm4 l Z aZ hw [] p1 (3:Int32) T508.heap n0 Z526 ) hZ (own_h hw 32 rfl) (own_h hw 28 rfl) (by decide) (by decide)) (g := (mkF m 41 #[rv a0, iv p1] [(.int (3:Int32)), (.int p1)])) rfl (by rw [hml]; rfl) (argsL := [(.int p1), (.int (3:Int32))]) (rest := []) (lenOf own_pd0 rfl) rfl (by show 2 * 0 + _ ≤ _; exact Nat.le_of_eq rfl) (hb hby d3_41) (fun _ _ => ⟨rfl, rfl, (by decide : 0 + 0 ≤ _), (by decide : 0 + 0 ≤ _)⟩)
        dsimp only [Pt.U, Pt.locs, Pt.cells, Pt.slots] at X537 l537 y537 z537 st537 hQ537
        subst l537 y537 z537
        obtain ⟨rfl, N537q, eh537⟩ := hQ537
        have N537 := Fr.app N508 N537q
        refine own_pre st537 ?_
        by_cases hs44_12 : (f4 p1 (3:Int32)) = (0:Int32)
        · refine own_pre (A := T537.setTop (mkF m 52 #[rv a0, iv p1] [])) (fun t k => ?_) ?_
          · show Steps p.tables e below (T537.setTop (mkF m 44 #[rv a0, iv p1] [(.int (f4 p1 (3:Int32)))])) _
            refine XS.ifYes X537.here hx rfl (pc0 := 44) (pc' := 52) rfl (hb hby d3_44) rfl (XT.i0_eq_t hs44_12) (by decide) (by decide) ?_
            exact k
          exact own_end X537 (BodyLoose.notSynchronized Bd) (fun _ => rfl) (v := none) (fun fs hr => X537.returnOut hx Bd.returns (hb hby d3_52) hr) (by show Q3 Z a0 p1 e1 e2 e3 e4 e5 e6 e7 el po bo bs bm tb bc tc h0 n0 _ T537.heap _; rw [eh537]; exact ⟨rfl, N537, Kp508, (by first | exact G513 | (simp only [if_neg hs5_1, if_pos hs18_9, if_neg hs31_10, if_pos hs44_12]; exact G513)), (by first | exact G514 | (simp only [if_neg hs5_1, if_pos hs18_9, if_neg hs31_10, if_pos hs44_12]; exact G514)), (by first | exact G515 | (simp only [if_neg hs5_1, if_pos hs18_9, if_neg hs31_10, if_pos hs44_12]; exact G515)), (by first | exact G516 | (simp only [if_neg hs5_1, if_pos hs18_9, if_neg hs31_10, if_pos hs44_12]; exact G516)), (by first | exact G517 | (simp only [if_neg hs5_1, if_pos hs18_9, if_neg hs31_10, if_pos hs44_12]; exact G517)), (by first | exact G518 | (simp only [if_neg hs5_1, if_pos hs18_9, if_neg hs31_10, if_pos hs44_12]; exact G518)), (by first | exact G519 | (simp only [if_neg hs5_1, if_pos hs18_9, if_neg hs31_10, if_pos hs44_12]; exact G519)), (by first | exact G520 | (simp only [if_neg hs5_1, if_pos hs18_9, if_neg hs31_10, if_pos hs44_12]; exact G520)), (by simp only [g3_tc, if_neg hs5_1, if_pos hs18_9, if_neg hs31_10, if_pos hs44_12]; exact G528), (by simp only [g3_el, if_neg hs5_1, if_pos hs18_9, if_neg hs31_10, if_pos hs44_12]; exact G530), (by simp only [g3_po, if_neg hs5_1, if_pos hs18_9, if_neg hs31_10, if_pos hs44_12]; exact G532), (by simp only [g3_bm, if_neg hs5_1, if_pos hs18_9, if_neg hs31_10, if_pos hs44_12]; exact G534), (by simp only [g3_tb, if_neg hs5_1, if_pos hs18_9, if_neg hs31_10, if_pos hs44_12]; exact G536)⟩) (by decide) (by decide)
        · refine own_pre (A := T537.setTop (mkF m 49 #[rv a0, iv p1] [(.int (3:Int32)), (.ref a0)])) (fun t k => ?_) ?_
          · show Steps p.tables e below (T537.setTop (mkF m 44 #[rv a0, iv p1] [(.int (f4 p1 (3:Int32)))])) _
            refine XS.ifNo X537.here hx rfl (hb hby d3_44) rfl (XT.i0_eq_f hs44_12) ?_
            show Steps p.tables e below (T537.setTop (mkF m 47 #[rv a0, iv p1] [])) _
            refine XS.aloadN X537.here hx rfl (hb hby d3_47) rfl rfl ?_
            show Steps p.tables e below (T537.setTop (mkF m 48 #[rv a0, iv p1] [(.ref a0)])) _
            refine XS.iconst X537.here hx rfl (hb hby d3_48) ?_
            exact k
          have F539 := (F509.keep K508)
          have F540 := (F510.keep K508 (ninS (Ne.symm nq_a0_e3) (ninS (Ne.symm nq_e1_e3) (ninS (Ne.symm nq_e2_e3) (ninS nq_e3_e6 (ninS nq_e3_e7 nin0))))))
          have F541 := (F511.keep K508 (ninS (Ne.symm nq_a0_e4) (ninS (Ne.symm nq_e1_e4) (ninS (Ne.symm nq_e2_e4) (ninS nq_e4_e6 (ninS nq_e4_e7 nin0))))))
          obtain ⟨cq538, kq538, q538a, q538b, q538c⟩ := isOf hZ eh537 F539
          obtain ⟨_, _, ⟨T538, L538, k538, n538⟩, -, X538, ⟨Lc538, hQ538, l538, y538, z538⟩, st538⟩ := X537.virtualBack hx (y := (⟨"com/example/spare_calculus/sparecalculus/bisim/Partition", "mark", "(I)V"⟩ : MethodName)) (z := (⟨"com/example/spare_calculus/sparecalculus/bisim/Partition", "mark", "(I)V"⟩ : MethodName)) hown (mvT hZ (own_h hw 33 rfl)) (mvT hZ (own_h hw 34 rfl)) (notFace_of_selects (args := #[]) (mvT hZ (own_h hw 36 rfl))) (mvT hZ (own_h hw 36 rfl)) (mvT hZ (own_h hw 35 rfl)) (by decide) (backOf (W := 0) (rm5 l Z aZ hw [] a0 (3:Int32) e1 e2 e3 e4 e5 e6 e7 (own_v529 el po bo bs bm tb bc tc) (own_v531 el po bo bs bm tb bc tc) bo bs (own_v533 el po bo bs bm tb bc tc) (own_v535 el po bo bs bm tb bc tc) bc (own_v527 el po bo bs bm tb bc tc) T508.heap n0 Z526 F539 G513 G514 G515 G516 G517 G518 G519 G520 G528 G530 G532 F540 F541 G534 G536 nq_a0_e1 nq_a0_e2 nq_a0_e3 nq_a0_e4 nq_a0_e6 nq_a0_e7 nq_e1_e2 nq_e1_e3 nq_e1_e4 nq_e1_e6 nq_e1_e7 nq_e2_e3 nq_e2_e4 nq_e2_e6 nq_e2_e7 nq_e3_e4 nq_e3_e6 nq_e3_e7 nq_e4_e6 nq_e4_e7 nq_e6_e7 gq_a0 gq_e1 gq_e2 gq_e6 gq_e7 (hl542 hs5_1 hs18_9 hs31_10 hs44_12).1 (hl542 hs5_1 hs18_9 hs31_10 hs44_12).2.1 (hl542 hs5_1 hs18_9 hs31_10 hs44_12).2.2.1 (hl542 hs5_1 hs18_9 hs31_10 hs44_12).2.2.2.1 (hl542 hs5_1 hs18_9 hs31_10 hs44_12).2.2.2.2.1 (hl542 hs5_1 hs18_9 hs31_10 hs44_12).2.2.2.2.2.1 (hl542 hs5_1 hs18_9 hs31_10 hs44_12).2.2.2.2.2.2.1 (hl542 hs5_1 hs18_9 hs31_10 hs44_12).2.2.2.2.2.2.2) hZ (own_h hw 37 rfl) (own_h hw 2 rfl) (by decide) (by decide)) q538a q538c (g := (mkF m 49 #[rv a0, iv p1] [(.int (3:Int32)), (.ref a0)])) rfl (by rw [hml]; rfl) (Steps.refl _) (argsL := [(.int (3:Int32))]) (rest := []) (lenOf own_pd1 rfl) rfl (by show 2 * 0 + _ ≤ _; exact Nat.le_of_eq rfl) (hb hby d3_49) (fun _ _ => ⟨rfl, eh537, (by decide : 0 + 0 ≤ _), (by decide : 0 + 0 ≤ _)⟩)
          dsimp only [Pt.U, Pt.locs, Pt.cells, Pt.slots] at X538 l538 y538 z538 st538 hQ538
          subst l538 y538 z538
          obtain ⟨rfl, N538q, K538, G543, G544, G545, G546, G547, G548, G549, G550, G551, G552, G553, G554, G555⟩ := hQ538
          have N538 := Fr.app N537 N538q
          have Kp538 : Keep h0 T538.heap [a0, e1, e2, e6, e7] := Kp508.trans K538 (allS (Or.inl (List.mem_of_getElem? (i := 0) rfl)) (allS (Or.inl (List.mem_of_getElem? (i := 1) rfl)) (allS (Or.inl (List.mem_of_getElem? (i := 2) rfl)) (allS (Or.inl (List.mem_of_getElem? (i := 3) rfl)) (allS (Or.inl (List.mem_of_getElem? (i := 4) rfl)) all0)))))
          have Z556 : n0 ≤ T538.heap.size := Nat.le_trans Z526 K538.1
          have G558 : Fld Z T538.heap a0 "com/example/spare_calculus/sparecalculus/bisim/Partition" "touchedBlockCount" "I" (.int (own_v557 el po bo bs bm tb bc tc)) := G551
          have G560 : own_Ints Z T538.heap e1 (own_v559 el po bo bs bm tb bc tc) := G552
          have G562 : own_Ints Z T538.heap e2 (own_v561 el po bo bs bm tb bc tc) := G553
          have G564 : own_Ints Z T538.heap e6 (own_v563 el po bo bs bm tb bc tc) := G554
          have G566 : own_Ints Z T538.heap e7 (own_v565 el po bo bs bm tb bc tc) := G555
          refine own_pre (fun _ k => st538.trans k) ?_
          exact own_end X538 (BodyLoose.notSynchronized Bd) (fun _ => rfl) (v := none) (fun fs hr => X538.returnOut hx Bd.returns (hb hby d3_52) hr) (by show Q3 Z a0 p1 e1 e2 e3 e4 e5 e6 e7 el po bo bs bm tb bc tc h0 n0 _ T538.heap _; exact ⟨rfl, N538, Kp538, (by first | exact G543 | (simp only [if_neg hs5_1, if_pos hs18_9, if_neg hs31_10, if_neg hs44_12]; exact G543)), (by first | exact G544 | (simp only [if_neg hs5_1, if_pos hs18_9, if_neg hs31_10, if_neg hs44_12]; exact G544)), (by first | exact G545 | (simp only [if_neg hs5_1, if_pos hs18_9, if_neg hs31_10, if_neg hs44_12]; exact G545)), (by first | exact G546 | (simp only [if_neg hs5_1, if_pos hs18_9, if_neg hs31_10, if_neg hs44_12]; exact G546)), (by first | exact G547 | (simp only [if_neg hs5_1, if_pos hs18_9, if_neg hs31_10, if_neg hs44_12]; exact G547)), (by first | exact G548 | (simp only [if_neg hs5_1, if_pos hs18_9, if_neg hs31_10, if_neg hs44_12]; exact G548)), (by first | exact G549 | (simp only [if_neg hs5_1, if_pos hs18_9, if_neg hs31_10, if_neg hs44_12]; exact G549)), (by first | exact G550 | (simp only [if_neg hs5_1, if_pos hs18_9, if_neg hs31_10, if_neg hs44_12]; exact G550)), (by simp only [g3_tc, if_neg hs5_1, if_pos hs18_9, if_neg hs31_10, if_neg hs44_12]; exact G558), (by simp only [g3_el, if_neg hs5_1, if_pos hs18_9, if_neg hs31_10, if_neg hs44_12]; exact G560), (by simp only [g3_po, if_neg hs5_1, if_pos hs18_9, if_neg hs31_10, if_neg hs44_12]; exact G562), (by simp only [g3_bm, if_neg hs5_1, if_pos hs18_9, if_neg hs31_10, if_neg hs44_12]; exact G564), (by simp only [g3_tb, if_neg hs5_1, if_pos hs18_9, if_neg hs31_10, if_neg hs44_12]; exact G566)⟩) (by decide) (by decide)
    · refine own_pre (A := T476.setTop (mkF m 23 #[rv a0, iv p1] [(.int (1:Int32)), (.ref a0)])) (fun t k => ?_) ?_
      · show Steps p.tables e below (T476.setTop (mkF m 18 #[rv a0, iv p1] [(.int (f4 p1 (1:Int32)))])) _
        refine XS.ifNo X476.here hx rfl (hb hby d3_18) rfl (XT.i0_eq_f hs18_9) ?_
        show Steps p.tables e below (T476.setTop (mkF m 21 #[rv a0, iv p1] [])) _
        refine XS.aloadN X476.here hx rfl (hb hby d3_21) rfl rfl ?_
        show Steps p.tables e below (T476.setTop (mkF m 22 #[rv a0, iv p1] [(.ref a0)])) _
        refine XS.iconst X476.here hx rfl (hb hby d3_22) ?_
        exact k
      have F568 := (P0.keep K450)
      have F569 := (P12.keep K450 (ninS (Ne.symm nq_a0_e3) (ninS (Ne.symm nq_e1_e3) (ninS (Ne.symm nq_e2_e3) (ninS nq_e3_e6 (ninS nq_e3_e7 nin0))))))
      have F570 := (P13.keep K450 (ninS (Ne.symm nq_a0_e4) (ninS (Ne.symm nq_e1_e4) (ninS (Ne.symm nq_e2_e4) (ninS nq_e4_e6 (ninS nq_e4_e7 nin0))))))
      obtain ⟨cq567, kq567, q567a, q567b, q567c⟩ := isOf hZ eh476 F568
      obtain ⟨_, _, ⟨T567, L567, k567, n567⟩, -, X567, ⟨Lc567, hQ567, l567, y567, z567⟩, st567⟩ := X476.virtualBack hx (y := (⟨"com/example/spare_calculus/sparecalculus/bisim/Partition", "mark", "(I)V"⟩ : MethodName)) (z := (⟨"com/example/spare_calculus/sparecalculus/bisim/Partition", "mark", "(I)V"⟩ : MethodName)) hown (mvT hZ (own_h hw 33 rfl)) (mvT hZ (own_h hw 34 rfl)) (notFace_of_selects (args := #[]) (mvT hZ (own_h hw 36 rfl))) (mvT hZ (own_h hw 36 rfl)) (mvT hZ (own_h hw 35 rfl)) (by decide) (backOf (W := 0) (rm5 l Z aZ hw [] a0 (1:Int32) e1 e2 e3 e4 e5 e6 e7 (own_v468 el po bo bs bm tb bc tc) (own_v470 el po bo bs bm tb bc tc) bo bs (own_v472 el po bo bs bm tb bc tc) (own_v474 el po bo bs bm tb bc tc) bc (own_v466 el po bo bs bm tb bc tc) T450.heap n0 Z465 F568 G452 G453 G454 G455 G456 G457 G458 G459 G467 G469 G471 F569 F570 G473 G475 nq_a0_e1 nq_a0_e2 nq_a0_e3 nq_a0_e4 nq_a0_e6 nq_a0_e7 nq_e1_e2 nq_e1_e3 nq_e1_e4 nq_e1_e6 nq_e1_e7 nq_e2_e3 nq_e2_e4 nq_e2_e6 nq_e2_e7 nq_e3_e4 nq_e3_e6 nq_e3_e7 nq_e4_e6 nq_e4_e7 nq_e6_e7 gq_a0 gq_e1 gq_e2 gq_e6 gq_e7 (hl571 hs5_1 hs18_9).1 (hl571 hs5_1 hs18_9).2.1 (hl571 hs5_1 hs18_9).2.2.1 (hl571 hs5_1 hs18_9).2.2.2.1 (hl571 hs5_1 hs18_9).2.2.2.2.1 (hl571 hs5_1 hs18_9).2.2.2.2.2.1 (hl571 hs5_1 hs18_9).2.2.2.2.2.2.1 (hl571 hs5_1 hs18_9).2.2.2.2.2.2.2) hZ (own_h hw 37 rfl) (own_h hw 2 rfl) (by decide) (by decide)) q567a q567c (g := (mkF m 23 #[rv a0, iv p1] [(.int (1:Int32)), (.ref a0)])) rfl (by rw [hml]; rfl) (Steps.refl _) (argsL := [(.int (1:Int32))]) (rest := []) (lenOf own_pd1 rfl) rfl (by show 2 * 0 + _ ≤ _; exact Nat.le_of_eq rfl) (hb hby d3_23) (fun _ _ => ⟨rfl, eh476, (by decide : 0 + 0 ≤ _), (by decide : 0 + 0 ≤ _)⟩)
      dsimp only [Pt.U, Pt.locs, Pt.cells, Pt.slots] at X567 l567 y567 z567 st567 hQ567
      subst l567 y567 z567
      obtain ⟨rfl, N567q, K567, G572, G573, G574, G575, G576, G577, G578, G579, G580, G581, G582, G583, G584⟩ := hQ567
      have N567 := Fr.app N476 N567q
      have Kp567 : Keep h0 T567.heap [a0, e1, e2, e6, e7] := Kp450.trans K567 (allS (Or.inl (List.mem_of_getElem? (i := 0) rfl)) (allS (Or.inl (List.mem_of_getElem? (i := 1) rfl)) (allS (Or.inl (List.mem_of_getElem? (i := 2) rfl)) (allS (Or.inl (List.mem_of_getElem? (i := 3) rfl)) (allS (Or.inl (List.mem_of_getElem? (i := 4) rfl)) all0)))))
      have Z585 : n0 ≤ T567.heap.size := Nat.le_trans Z465 K567.1
      have G587 : Fld Z T567.heap a0 "com/example/spare_calculus/sparecalculus/bisim/Partition" "touchedBlockCount" "I" (.int (own_v586 el po bo bs bm tb bc tc)) := G580
      have G589 : own_Ints Z T567.heap e1 (own_v588 el po bo bs bm tb bc tc) := G581
      have G591 : own_Ints Z T567.heap e2 (own_v590 el po bo bs bm tb bc tc) := G582
      have G593 : own_Ints Z T567.heap e6 (own_v592 el po bo bs bm tb bc tc) := G583
      have G595 : own_Ints Z T567.heap e7 (own_v594 el po bo bs bm tb bc tc) := G584
      refine own_pre (fun _ k => st567.trans k) ?_
      refine own_pre (A := T567.setTop (mkF m 28 #[rv a0, iv p1] [(.int (2:Int32)), (.int p1)])) (fun t k => ?_) ?_
      · show Steps p.tables e below (T567.setTop (mkF m 26 #[rv a0, iv p1] [])) _
        refine XS.iloadN X567.here hx rfl (hb hby d3_26) rfl ?_
        show Steps p.tables e below (T567.setTop (mkF m 27 #[rv a0, iv p1] [(.int p1)])) _
        refine XS.iconst X567.here hx rfl (hb hby d3_27) ?_
        exact k
      obtain ⟨_, _, ⟨T596, L596, k596, n596⟩, -, X596, ⟨Lc596, hQ596, l596, y596, z596⟩, st596⟩ := Jvm.LawKit.callS X567 hx (y := (⟨"com/example/spare_calculus/sparecalculus/bisim/PartitionSplitOffMarkedPinLaw", "bit", "(II)Z"⟩ : MethodName)) hown (mvT hZ (own_h hw 30 rfl)) (mvT hZ (own_h hw 31 rfl)) (mvT hZ (own_h hw 28 rfl)) (mvT hZ (own_h hw 32 rfl)) (by decide) (backOf (W := 0) (rm4 l Z aZ hw [] p1 (2:Int32) T567.heap n0 Z585 ) hZ (own_h hw 32 rfl) (own_h hw 28 rfl) (by decide) (by decide)) (g := (mkF m 28 #[rv a0, iv p1] [(.int (2:Int32)), (.int p1)])) rfl (by rw [hml]; rfl) (argsL := [(.int p1), (.int (2:Int32))]) (rest := []) (lenOf own_pd0 rfl) rfl (by show 2 * 0 + _ ≤ _; exact Nat.le_of_eq rfl) (hb hby d3_28) (fun _ _ => ⟨rfl, rfl, (by decide : 0 + 0 ≤ _), (by decide : 0 + 0 ≤ _)⟩)
      dsimp only [Pt.U, Pt.locs, Pt.cells, Pt.slots] at X596 l596 y596 z596 st596 hQ596
      subst l596 y596 z596
      obtain ⟨rfl, N596q, eh596⟩ := hQ596
      have N596 := Fr.app N567 N596q
      refine own_pre st596 ?_
      by_cases hs31_13 : (f4 p1 (2:Int32)) = (0:Int32)
      · refine own_pre (A := T596.setTop (mkF m 41 #[rv a0, iv p1] [(.int (3:Int32)), (.int p1)])) (fun t k => ?_) ?_
        · show Steps p.tables e below (T596.setTop (mkF m 31 #[rv a0, iv p1] [(.int (f4 p1 (2:Int32)))])) _
          refine XS.ifYes X596.here hx rfl (pc0 := 31) (pc' := 39) rfl (hb hby d3_31) rfl (XT.i0_eq_t hs31_13) (by decide) (by decide) ?_
          show Steps p.tables e below (T596.setTop (mkF m 39 #[rv a0, iv p1] [])) _
          refine XS.iloadN X596.here hx rfl (hb hby d3_39) rfl ?_
          show Steps p.tables e below (T596.setTop (mkF m 40 #[rv a0, iv p1] [(.int p1)])) _
          refine XS.iconst X596.here hx rfl (hb hby d3_40) ?_
          exact k
        obtain ⟨_, _, ⟨T597, L597, k597, n597⟩, -, X597, ⟨Lc597, hQ597, l597, y597, z597⟩, st597⟩ := Jvm.LawKit.callS X596 hx (y := (⟨"com/example/spare_calculus/sparecalculus/bisim/PartitionSplitOffMarkedPinLaw", "bit", "(II)Z"⟩ : MethodName)) hown (mvT hZ (own_h hw 30 rfl)) (mvT hZ (own_h hw 31 rfl)) (mvT hZ (own_h hw 28 rfl)) (mvT hZ (own_h hw 32 rfl)) (by decide) (backOf (W := 0) (rm4 l Z aZ hw [] p1 (3:Int32) T567.heap n0 Z585 ) hZ (own_h hw 32 rfl) (own_h hw 28 rfl) (by decide) (by decide)) (g := (mkF m 41 #[rv a0, iv p1] [(.int (3:Int32)), (.int p1)])) rfl (by rw [hml]; rfl) (argsL := [(.int p1), (.int (3:Int32))]) (rest := []) (lenOf own_pd0 rfl) rfl (by show 2 * 0 + _ ≤ _; exact Nat.le_of_eq rfl) (hb hby d3_41) (fun _ _ => ⟨rfl, eh596, (by decide : 0 + 0 ≤ _), (by decide : 0 + 0 ≤ _)⟩)
        dsimp only [Pt.U, Pt.locs, Pt.cells, Pt.slots] at X597 l597 y597 z597 st597 hQ597
        subst l597 y597 z597
        obtain ⟨rfl, N597q, eh597⟩ := hQ597
        have N597 := Fr.app N596 N597q
        refine own_pre st597 ?_
        by_cases hs44_14 : (f4 p1 (3:Int32)) = (0:Int32)
        · refine own_pre (A := T597.setTop (mkF m 52 #[rv a0, iv p1] [])) (fun t k => ?_) ?_
          · show Steps p.tables e below (T597.setTop (mkF m 44 #[rv a0, iv p1] [(.int (f4 p1 (3:Int32)))])) _
            refine XS.ifYes X597.here hx rfl (pc0 := 44) (pc' := 52) rfl (hb hby d3_44) rfl (XT.i0_eq_t hs44_14) (by decide) (by decide) ?_
            exact k
          exact own_end X597 (BodyLoose.notSynchronized Bd) (fun _ => rfl) (v := none) (fun fs hr => X597.returnOut hx Bd.returns (hb hby d3_52) hr) (by show Q3 Z a0 p1 e1 e2 e3 e4 e5 e6 e7 el po bo bs bm tb bc tc h0 n0 _ T597.heap _; rw [eh597]; exact ⟨rfl, N597, Kp567, (by first | exact G572 | (simp only [if_neg hs5_1, if_neg hs18_9, if_pos hs31_13, if_pos hs44_14]; exact G572)), (by first | exact G573 | (simp only [if_neg hs5_1, if_neg hs18_9, if_pos hs31_13, if_pos hs44_14]; exact G573)), (by first | exact G574 | (simp only [if_neg hs5_1, if_neg hs18_9, if_pos hs31_13, if_pos hs44_14]; exact G574)), (by first | exact G575 | (simp only [if_neg hs5_1, if_neg hs18_9, if_pos hs31_13, if_pos hs44_14]; exact G575)), (by first | exact G576 | (simp only [if_neg hs5_1, if_neg hs18_9, if_pos hs31_13, if_pos hs44_14]; exact G576)), (by first | exact G577 | (simp only [if_neg hs5_1, if_neg hs18_9, if_pos hs31_13, if_pos hs44_14]; exact G577)), (by first | exact G578 | (simp only [if_neg hs5_1, if_neg hs18_9, if_pos hs31_13, if_pos hs44_14]; exact G578)), (by first | exact G579 | (simp only [if_neg hs5_1, if_neg hs18_9, if_pos hs31_13, if_pos hs44_14]; exact G579)), (by simp only [g3_tc, if_neg hs5_1, if_neg hs18_9, if_pos hs31_13, if_pos hs44_14]; exact G587), (by simp only [g3_el, if_neg hs5_1, if_neg hs18_9, if_pos hs31_13, if_pos hs44_14]; exact G589), (by simp only [g3_po, if_neg hs5_1, if_neg hs18_9, if_pos hs31_13, if_pos hs44_14]; exact G591), (by simp only [g3_bm, if_neg hs5_1, if_neg hs18_9, if_pos hs31_13, if_pos hs44_14]; exact G593), (by simp only [g3_tb, if_neg hs5_1, if_neg hs18_9, if_pos hs31_13, if_pos hs44_14]; exact G595)⟩) (by decide) (by decide)
        · refine own_pre (A := T597.setTop (mkF m 49 #[rv a0, iv p1] [(.int (3:Int32)), (.ref a0)])) (fun t k => ?_) ?_
          · show Steps p.tables e below (T597.setTop (mkF m 44 #[rv a0, iv p1] [(.int (f4 p1 (3:Int32)))])) _
            refine XS.ifNo X597.here hx rfl (hb hby d3_44) rfl (XT.i0_eq_f hs44_14) ?_
            show Steps p.tables e below (T597.setTop (mkF m 47 #[rv a0, iv p1] [])) _
            refine XS.aloadN X597.here hx rfl (hb hby d3_47) rfl rfl ?_
            show Steps p.tables e below (T597.setTop (mkF m 48 #[rv a0, iv p1] [(.ref a0)])) _
            refine XS.iconst X597.here hx rfl (hb hby d3_48) ?_
            exact k
          have F599 := (F568.keep K567)
          have F600 := (F569.keep K567 (ninS (Ne.symm nq_a0_e3) (ninS (Ne.symm nq_e1_e3) (ninS (Ne.symm nq_e2_e3) (ninS nq_e3_e6 (ninS nq_e3_e7 nin0))))))
          have F601 := (F570.keep K567 (ninS (Ne.symm nq_a0_e4) (ninS (Ne.symm nq_e1_e4) (ninS (Ne.symm nq_e2_e4) (ninS nq_e4_e6 (ninS nq_e4_e7 nin0))))))
          obtain ⟨cq598, kq598, q598a, q598b, q598c⟩ := isOf hZ eh597 F599
          obtain ⟨_, _, ⟨T598, L598, k598, n598⟩, -, X598, ⟨Lc598, hQ598, l598, y598, z598⟩, st598⟩ := X597.virtualBack hx (y := (⟨"com/example/spare_calculus/sparecalculus/bisim/Partition", "mark", "(I)V"⟩ : MethodName)) (z := (⟨"com/example/spare_calculus/sparecalculus/bisim/Partition", "mark", "(I)V"⟩ : MethodName)) hown (mvT hZ (own_h hw 33 rfl)) (mvT hZ (own_h hw 34 rfl)) (notFace_of_selects (args := #[]) (mvT hZ (own_h hw 36 rfl))) (mvT hZ (own_h hw 36 rfl)) (mvT hZ (own_h hw 35 rfl)) (by decide) (backOf (W := 0) (rm5 l Z aZ hw [] a0 (3:Int32) e1 e2 e3 e4 e5 e6 e7 (own_v588 el po bo bs bm tb bc tc) (own_v590 el po bo bs bm tb bc tc) bo bs (own_v592 el po bo bs bm tb bc tc) (own_v594 el po bo bs bm tb bc tc) bc (own_v586 el po bo bs bm tb bc tc) T567.heap n0 Z585 F599 G572 G573 G574 G575 G576 G577 G578 G579 G587 G589 G591 F600 F601 G593 G595 nq_a0_e1 nq_a0_e2 nq_a0_e3 nq_a0_e4 nq_a0_e6 nq_a0_e7 nq_e1_e2 nq_e1_e3 nq_e1_e4 nq_e1_e6 nq_e1_e7 nq_e2_e3 nq_e2_e4 nq_e2_e6 nq_e2_e7 nq_e3_e4 nq_e3_e6 nq_e3_e7 nq_e4_e6 nq_e4_e7 nq_e6_e7 gq_a0 gq_e1 gq_e2 gq_e6 gq_e7 (hl602 hs5_1 hs18_9 hs31_13 hs44_14).1 (hl602 hs5_1 hs18_9 hs31_13 hs44_14).2.1 (hl602 hs5_1 hs18_9 hs31_13 hs44_14).2.2.1 (hl602 hs5_1 hs18_9 hs31_13 hs44_14).2.2.2.1 (hl602 hs5_1 hs18_9 hs31_13 hs44_14).2.2.2.2.1 (hl602 hs5_1 hs18_9 hs31_13 hs44_14).2.2.2.2.2.1 (hl602 hs5_1 hs18_9 hs31_13 hs44_14).2.2.2.2.2.2.1 (hl602 hs5_1 hs18_9 hs31_13 hs44_14).2.2.2.2.2.2.2) hZ (own_h hw 37 rfl) (own_h hw 2 rfl) (by decide) (by decide)) q598a q598c (g := (mkF m 49 #[rv a0, iv p1] [(.int (3:Int32)), (.ref a0)])) rfl (by rw [hml]; rfl) (Steps.refl _) (argsL := [(.int (3:Int32))]) (rest := []) (lenOf own_pd1 rfl) rfl (by show 2 * 0 + _ ≤ _; exact Nat.le_of_eq rfl) (hb hby d3_49) (fun _ _ => ⟨rfl, eh597, (by decide : 0 + 0 ≤ _), (by decide : 0 + 0 ≤ _)⟩)
          dsimp only [Pt.U, Pt.locs, Pt.cells, Pt.slots] at X598 l598 y598 z598 st598 hQ598
          subst l598 y598 z598
          obtain ⟨rfl, N598q, K598, G603, G604, G605, G606, G607, G608, G609, G610, G611, G612, G613, G614, G615⟩ := hQ598
          have N598 := Fr.app N597 N598q
          have Kp598 : Keep h0 T598.heap [a0, e1, e2, e6, e7] := Kp567.trans K598 (allS (Or.inl (List.mem_of_getElem? (i := 0) rfl)) (allS (Or.inl (List.mem_of_getElem? (i := 1) rfl)) (allS (Or.inl (List.mem_of_getElem? (i := 2) rfl)) (allS (Or.inl (List.mem_of_getElem? (i := 3) rfl)) (allS (Or.inl (List.mem_of_getElem? (i := 4) rfl)) all0)))))
          have Z616 : n0 ≤ T598.heap.size := Nat.le_trans Z585 K598.1
          have G618 : Fld Z T598.heap a0 "com/example/spare_calculus/sparecalculus/bisim/Partition" "touchedBlockCount" "I" (.int (own_v617 el po bo bs bm tb bc tc)) := G611
          have G620 : own_Ints Z T598.heap e1 (own_v619 el po bo bs bm tb bc tc) := G612
          have G622 : own_Ints Z T598.heap e2 (own_v621 el po bo bs bm tb bc tc) := G613
          have G624 : own_Ints Z T598.heap e6 (own_v623 el po bo bs bm tb bc tc) := G614
          have G626 : own_Ints Z T598.heap e7 (own_v625 el po bo bs bm tb bc tc) := G615
          refine own_pre (fun _ k => st598.trans k) ?_
          exact own_end X598 (BodyLoose.notSynchronized Bd) (fun _ => rfl) (v := none) (fun fs hr => X598.returnOut hx Bd.returns (hb hby d3_52) hr) (by show Q3 Z a0 p1 e1 e2 e3 e4 e5 e6 e7 el po bo bs bm tb bc tc h0 n0 _ T598.heap _; exact ⟨rfl, N598, Kp598, (by first | exact G603 | (simp only [if_neg hs5_1, if_neg hs18_9, if_pos hs31_13, if_neg hs44_14]; exact G603)), (by first | exact G604 | (simp only [if_neg hs5_1, if_neg hs18_9, if_pos hs31_13, if_neg hs44_14]; exact G604)), (by first | exact G605 | (simp only [if_neg hs5_1, if_neg hs18_9, if_pos hs31_13, if_neg hs44_14]; exact G605)), (by first | exact G606 | (simp only [if_neg hs5_1, if_neg hs18_9, if_pos hs31_13, if_neg hs44_14]; exact G606)), (by first | exact G607 | (simp only [if_neg hs5_1, if_neg hs18_9, if_pos hs31_13, if_neg hs44_14]; exact G607)), (by first | exact G608 | (simp only [if_neg hs5_1, if_neg hs18_9, if_pos hs31_13, if_neg hs44_14]; exact G608)), (by first | exact G609 | (simp only [if_neg hs5_1, if_neg hs18_9, if_pos hs31_13, if_neg hs44_14]; exact G609)), (by first | exact G610 | (simp only [if_neg hs5_1, if_neg hs18_9, if_pos hs31_13, if_neg hs44_14]; exact G610)), (by simp only [g3_tc, if_neg hs5_1, if_neg hs18_9, if_pos hs31_13, if_neg hs44_14]; exact G618), (by simp only [g3_el, if_neg hs5_1, if_neg hs18_9, if_pos hs31_13, if_neg hs44_14]; exact G620), (by simp only [g3_po, if_neg hs5_1, if_neg hs18_9, if_pos hs31_13, if_neg hs44_14]; exact G622), (by simp only [g3_bm, if_neg hs5_1, if_neg hs18_9, if_pos hs31_13, if_neg hs44_14]; exact G624), (by simp only [g3_tb, if_neg hs5_1, if_neg hs18_9, if_pos hs31_13, if_neg hs44_14]; exact G626)⟩) (by decide) (by decide)
      · refine own_pre (A := T596.setTop (mkF m 36 #[rv a0, iv p1] [(.int (2:Int32)), (.ref a0)])) (fun t k => ?_) ?_
        · show Steps p.tables e below (T596.setTop (mkF m 31 #[rv a0, iv p1] [(.int (f4 p1 (2:Int32)))])) _
          refine XS.ifNo X596.here hx rfl (hb hby d3_31) rfl (XT.i0_eq_f hs31_13) ?_
          show Steps p.tables e below (T596.setTop (mkF m 34 #[rv a0, iv p1] [])) _
          refine XS.aloadN X596.here hx rfl (hb hby d3_34) rfl rfl ?_
          show Steps p.tables e below (T596.setTop (mkF m 35 #[rv a0, iv p1] [(.ref a0)])) _
          refine XS.iconst X596.here hx rfl (hb hby d3_35) ?_
          exact k
        have F628 := (F568.keep K567)
        have F629 := (F569.keep K567 (ninS (Ne.symm nq_a0_e3) (ninS (Ne.symm nq_e1_e3) (ninS (Ne.symm nq_e2_e3) (ninS nq_e3_e6 (ninS nq_e3_e7 nin0))))))
        have F630 := (F570.keep K567 (ninS (Ne.symm nq_a0_e4) (ninS (Ne.symm nq_e1_e4) (ninS (Ne.symm nq_e2_e4) (ninS nq_e4_e6 (ninS nq_e4_e7 nin0))))))
        obtain ⟨cq627, kq627, q627a, q627b, q627c⟩ := isOf hZ eh596 F628
        obtain ⟨_, _, ⟨T627, L627, k627, n627⟩, -, X627, ⟨Lc627, hQ627, l627, y627, z627⟩, st627⟩ := X596.virtualBack hx (y := (⟨"com/example/spare_calculus/sparecalculus/bisim/Partition", "mark", "(I)V"⟩ : MethodName)) (z := (⟨"com/example/spare_calculus/sparecalculus/bisim/Partition", "mark", "(I)V"⟩ : MethodName)) hown (mvT hZ (own_h hw 33 rfl)) (mvT hZ (own_h hw 34 rfl)) (notFace_of_selects (args := #[]) (mvT hZ (own_h hw 36 rfl))) (mvT hZ (own_h hw 36 rfl)) (mvT hZ (own_h hw 35 rfl)) (by decide) (backOf (W := 0) (rm5 l Z aZ hw [] a0 (2:Int32) e1 e2 e3 e4 e5 e6 e7 (own_v588 el po bo bs bm tb bc tc) (own_v590 el po bo bs bm tb bc tc) bo bs (own_v592 el po bo bs bm tb bc tc) (own_v594 el po bo bs bm tb bc tc) bc (own_v586 el po bo bs bm tb bc tc) T567.heap n0 Z585 F628 G572 G573 G574 G575 G576 G577 G578 G579 G587 G589 G591 F629 F630 G593 G595 nq_a0_e1 nq_a0_e2 nq_a0_e3 nq_a0_e4 nq_a0_e6 nq_a0_e7 nq_e1_e2 nq_e1_e3 nq_e1_e4 nq_e1_e6 nq_e1_e7 nq_e2_e3 nq_e2_e4 nq_e2_e6 nq_e2_e7 nq_e3_e4 nq_e3_e6 nq_e3_e7 nq_e4_e6 nq_e4_e7 nq_e6_e7 gq_a0 gq_e1 gq_e2 gq_e6 gq_e7 (hl631 hs5_1 hs18_9 hs31_13).1 (hl631 hs5_1 hs18_9 hs31_13).2.1 (hl631 hs5_1 hs18_9 hs31_13).2.2.1 (hl631 hs5_1 hs18_9 hs31_13).2.2.2.1 (hl631 hs5_1 hs18_9 hs31_13).2.2.2.2.1 (hl631 hs5_1 hs18_9 hs31_13).2.2.2.2.2.1 (hl631 hs5_1 hs18_9 hs31_13).2.2.2.2.2.2.1 (hl631 hs5_1 hs18_9 hs31_13).2.2.2.2.2.2.2) hZ (own_h hw 37 rfl) (own_h hw 2 rfl) (by decide) (by decide)) q627a q627c (g := (mkF m 36 #[rv a0, iv p1] [(.int (2:Int32)), (.ref a0)])) rfl (by rw [hml]; rfl) (Steps.refl _) (argsL := [(.int (2:Int32))]) (rest := []) (lenOf own_pd1 rfl) rfl (by show 2 * 0 + _ ≤ _; exact Nat.le_of_eq rfl) (hb hby d3_36) (fun _ _ => ⟨rfl, eh596, (by decide : 0 + 0 ≤ _), (by decide : 0 + 0 ≤ _)⟩)
        dsimp only [Pt.U, Pt.locs, Pt.cells, Pt.slots] at X627 l627 y627 z627 st627 hQ627
        subst l627 y627 z627
        obtain ⟨rfl, N627q, K627, G632, G633, G634, G635, G636, G637, G638, G639, G640, G641, G642, G643, G644⟩ := hQ627
        have N627 := Fr.app N596 N627q
        have Kp627 : Keep h0 T627.heap [a0, e1, e2, e6, e7] := Kp567.trans K627 (allS (Or.inl (List.mem_of_getElem? (i := 0) rfl)) (allS (Or.inl (List.mem_of_getElem? (i := 1) rfl)) (allS (Or.inl (List.mem_of_getElem? (i := 2) rfl)) (allS (Or.inl (List.mem_of_getElem? (i := 3) rfl)) (allS (Or.inl (List.mem_of_getElem? (i := 4) rfl)) all0)))))
        have Z645 : n0 ≤ T627.heap.size := Nat.le_trans Z585 K627.1
        have G647 : Fld Z T627.heap a0 "com/example/spare_calculus/sparecalculus/bisim/Partition" "touchedBlockCount" "I" (.int (own_v646 el po bo bs bm tb bc tc)) := G640
        have G649 : own_Ints Z T627.heap e1 (own_v648 el po bo bs bm tb bc tc) := G641
        have G651 : own_Ints Z T627.heap e2 (own_v650 el po bo bs bm tb bc tc) := G642
        have G653 : own_Ints Z T627.heap e6 (own_v652 el po bo bs bm tb bc tc) := G643
        have G655 : own_Ints Z T627.heap e7 (own_v654 el po bo bs bm tb bc tc) := G644
        refine own_pre (fun _ k => st627.trans k) ?_
        refine own_pre (A := T627.setTop (mkF m 41 #[rv a0, iv p1] [(.int (3:Int32)), (.int p1)])) (fun t k => ?_) ?_
        · show Steps p.tables e below (T627.setTop (mkF m 39 #[rv a0, iv p1] [])) _
          refine XS.iloadN X627.here hx rfl (hb hby d3_39) rfl ?_
          show Steps p.tables e below (T627.setTop (mkF m 40 #[rv a0, iv p1] [(.int p1)])) _
          refine XS.iconst X627.here hx rfl (hb hby d3_40) ?_
          exact k
        obtain ⟨_, _, ⟨T656, L656, k656, n656⟩, -, X656, ⟨Lc656, hQ656, l656, y656, z656⟩, st656⟩ := Jvm.LawKit.callS X627 hx (y := (⟨"com/example/spare_calculus/sparecalculus/bisim/PartitionSplitOffMarkedPinLaw", "bit", "(II)Z"⟩ : MethodName)) hown (mvT hZ (own_h hw 30 rfl)) (mvT hZ (own_h hw 31 rfl)) (mvT hZ (own_h hw 28 rfl)) (mvT hZ (own_h hw 32 rfl)) (by decide) (backOf (W := 0) (rm4 l Z aZ hw [] p1 (3:Int32) T627.heap n0 Z645 ) hZ (own_h hw 32 rfl) (own_h hw 28 rfl) (by decide) (by decide)) (g := (mkF m 41 #[rv a0, iv p1] [(.int (3:Int32)), (.int p1)])) rfl (by rw [hml]; rfl) (argsL := [(.int p1), (.int (3:Int32))]) (rest := []) (lenOf own_pd0 rfl) rfl (by show 2 * 0 + _ ≤ _; exact Nat.le_of_eq rfl) (hb hby d3_41) (fun _ _ => ⟨rfl, rfl, (by decide : 0 + 0 ≤ _), (by decide : 0 + 0 ≤ _)⟩)
        dsimp only [Pt.U, Pt.locs, Pt.cells, Pt.slots] at X656 l656 y656 z656 st656 hQ656
        subst l656 y656 z656
        obtain ⟨rfl, N656q, eh656⟩ := hQ656
        have N656 := Fr.app N627 N656q
        refine own_pre st656 ?_
        by_cases hs44_15 : (f4 p1 (3:Int32)) = (0:Int32)
        · refine own_pre (A := T656.setTop (mkF m 52 #[rv a0, iv p1] [])) (fun t k => ?_) ?_
          · show Steps p.tables e below (T656.setTop (mkF m 44 #[rv a0, iv p1] [(.int (f4 p1 (3:Int32)))])) _
            refine XS.ifYes X656.here hx rfl (pc0 := 44) (pc' := 52) rfl (hb hby d3_44) rfl (XT.i0_eq_t hs44_15) (by decide) (by decide) ?_
            exact k
          exact own_end X656 (BodyLoose.notSynchronized Bd) (fun _ => rfl) (v := none) (fun fs hr => X656.returnOut hx Bd.returns (hb hby d3_52) hr) (by show Q3 Z a0 p1 e1 e2 e3 e4 e5 e6 e7 el po bo bs bm tb bc tc h0 n0 _ T656.heap _; rw [eh656]; exact ⟨rfl, N656, Kp627, (by first | exact G632 | (simp only [if_neg hs5_1, if_neg hs18_9, if_neg hs31_13, if_pos hs44_15]; exact G632)), (by first | exact G633 | (simp only [if_neg hs5_1, if_neg hs18_9, if_neg hs31_13, if_pos hs44_15]; exact G633)), (by first | exact G634 | (simp only [if_neg hs5_1, if_neg hs18_9, if_neg hs31_13, if_pos hs44_15]; exact G634)), (by first | exact G635 | (simp only [if_neg hs5_1, if_neg hs18_9, if_neg hs31_13, if_pos hs44_15]; exact G635)), (by first | exact G636 | (simp only [if_neg hs5_1, if_neg hs18_9, if_neg hs31_13, if_pos hs44_15]; exact G636)), (by first | exact G637 | (simp only [if_neg hs5_1, if_neg hs18_9, if_neg hs31_13, if_pos hs44_15]; exact G637)), (by first | exact G638 | (simp only [if_neg hs5_1, if_neg hs18_9, if_neg hs31_13, if_pos hs44_15]; exact G638)), (by first | exact G639 | (simp only [if_neg hs5_1, if_neg hs18_9, if_neg hs31_13, if_pos hs44_15]; exact G639)), (by simp only [g3_tc, if_neg hs5_1, if_neg hs18_9, if_neg hs31_13, if_pos hs44_15]; exact G647), (by simp only [g3_el, if_neg hs5_1, if_neg hs18_9, if_neg hs31_13, if_pos hs44_15]; exact G649), (by simp only [g3_po, if_neg hs5_1, if_neg hs18_9, if_neg hs31_13, if_pos hs44_15]; exact G651), (by simp only [g3_bm, if_neg hs5_1, if_neg hs18_9, if_neg hs31_13, if_pos hs44_15]; exact G653), (by simp only [g3_tb, if_neg hs5_1, if_neg hs18_9, if_neg hs31_13, if_pos hs44_15]; exact G655)⟩) (by decide) (by decide)
        · refine own_pre (A := T656.setTop (mkF m 49 #[rv a0, iv p1] [(.int (3:Int32)), (.ref a0)])) (fun t k => ?_) ?_
          · show Steps p.tables e below (T656.setTop (mkF m 44 #[rv a0, iv p1] [(.int (f4 p1 (3:Int32)))])) _
            refine XS.ifNo X656.here hx rfl (hb hby d3_44) rfl (XT.i0_eq_f hs44_15) ?_
            show Steps p.tables e below (T656.setTop (mkF m 47 #[rv a0, iv p1] [])) _
            refine XS.aloadN X656.here hx rfl (hb hby d3_47) rfl rfl ?_
            show Steps p.tables e below (T656.setTop (mkF m 48 #[rv a0, iv p1] [(.ref a0)])) _
            refine XS.iconst X656.here hx rfl (hb hby d3_48) ?_
            exact k
          have F658 := (F628.keep K627)
          have F659 := (F629.keep K627 (ninS (Ne.symm nq_a0_e3) (ninS (Ne.symm nq_e1_e3) (ninS (Ne.symm nq_e2_e3) (ninS nq_e3_e6 (ninS nq_e3_e7 nin0))))))
          have F660 := (F630.keep K627 (ninS (Ne.symm nq_a0_e4) (ninS (Ne.symm nq_e1_e4) (ninS (Ne.symm nq_e2_e4) (ninS nq_e4_e6 (ninS nq_e4_e7 nin0))))))
          obtain ⟨cq657, kq657, q657a, q657b, q657c⟩ := isOf hZ eh656 F658
          obtain ⟨_, _, ⟨T657, L657, k657, n657⟩, -, X657, ⟨Lc657, hQ657, l657, y657, z657⟩, st657⟩ := X656.virtualBack hx (y := (⟨"com/example/spare_calculus/sparecalculus/bisim/Partition", "mark", "(I)V"⟩ : MethodName)) (z := (⟨"com/example/spare_calculus/sparecalculus/bisim/Partition", "mark", "(I)V"⟩ : MethodName)) hown (mvT hZ (own_h hw 33 rfl)) (mvT hZ (own_h hw 34 rfl)) (notFace_of_selects (args := #[]) (mvT hZ (own_h hw 36 rfl))) (mvT hZ (own_h hw 36 rfl)) (mvT hZ (own_h hw 35 rfl)) (by decide) (backOf (W := 0) (rm5 l Z aZ hw [] a0 (3:Int32) e1 e2 e3 e4 e5 e6 e7 (own_v648 el po bo bs bm tb bc tc) (own_v650 el po bo bs bm tb bc tc) bo bs (own_v652 el po bo bs bm tb bc tc) (own_v654 el po bo bs bm tb bc tc) bc (own_v646 el po bo bs bm tb bc tc) T627.heap n0 Z645 F658 G632 G633 G634 G635 G636 G637 G638 G639 G647 G649 G651 F659 F660 G653 G655 nq_a0_e1 nq_a0_e2 nq_a0_e3 nq_a0_e4 nq_a0_e6 nq_a0_e7 nq_e1_e2 nq_e1_e3 nq_e1_e4 nq_e1_e6 nq_e1_e7 nq_e2_e3 nq_e2_e4 nq_e2_e6 nq_e2_e7 nq_e3_e4 nq_e3_e6 nq_e3_e7 nq_e4_e6 nq_e4_e7 nq_e6_e7 gq_a0 gq_e1 gq_e2 gq_e6 gq_e7 (hl661 hs5_1 hs18_9 hs31_13 hs44_15).1 (hl661 hs5_1 hs18_9 hs31_13 hs44_15).2.1 (hl661 hs5_1 hs18_9 hs31_13 hs44_15).2.2.1 (hl661 hs5_1 hs18_9 hs31_13 hs44_15).2.2.2.1 (hl661 hs5_1 hs18_9 hs31_13 hs44_15).2.2.2.2.1 (hl661 hs5_1 hs18_9 hs31_13 hs44_15).2.2.2.2.2.1 (hl661 hs5_1 hs18_9 hs31_13 hs44_15).2.2.2.2.2.2.1 (hl661 hs5_1 hs18_9 hs31_13 hs44_15).2.2.2.2.2.2.2) hZ (own_h hw 37 rfl) (own_h hw 2 rfl) (by decide) (by decide)) q657a q657c (g := (mkF m 49 #[rv a0, iv p1] [(.int (3:Int32)), (.ref a0)])) rfl (by rw [hml]; rfl) (Steps.refl _) (argsL := [(.int (3:Int32))]) (rest := []) (lenOf own_pd1 rfl) rfl (by show 2 * 0 + _ ≤ _; exact Nat.le_of_eq rfl) (hb hby d3_49) (fun _ _ => ⟨rfl, eh656, (by decide : 0 + 0 ≤ _), (by decide : 0 + 0 ≤ _)⟩)
          dsimp only [Pt.U, Pt.locs, Pt.cells, Pt.slots] at X657 l657 y657 z657 st657 hQ657
          subst l657 y657 z657
          obtain ⟨rfl, N657q, K657, G662, G663, G664, G665, G666, G667, G668, G669, G670, G671, G672, G673, G674⟩ := hQ657
          have N657 := Fr.app N656 N657q
          have Kp657 : Keep h0 T657.heap [a0, e1, e2, e6, e7] := Kp627.trans K657 (allS (Or.inl (List.mem_of_getElem? (i := 0) rfl)) (allS (Or.inl (List.mem_of_getElem? (i := 1) rfl)) (allS (Or.inl (List.mem_of_getElem? (i := 2) rfl)) (allS (Or.inl (List.mem_of_getElem? (i := 3) rfl)) (allS (Or.inl (List.mem_of_getElem? (i := 4) rfl)) all0)))))
          have Z675 : n0 ≤ T657.heap.size := Nat.le_trans Z645 K657.1
          have G677 : Fld Z T657.heap a0 "com/example/spare_calculus/sparecalculus/bisim/Partition" "touchedBlockCount" "I" (.int (own_v676 el po bo bs bm tb bc tc)) := G670
          have G679 : own_Ints Z T657.heap e1 (own_v678 el po bo bs bm tb bc tc) := G671
          have G681 : own_Ints Z T657.heap e2 (own_v680 el po bo bs bm tb bc tc) := G672
          have G683 : own_Ints Z T657.heap e6 (own_v682 el po bo bs bm tb bc tc) := G673
          have G685 : own_Ints Z T657.heap e7 (own_v684 el po bo bs bm tb bc tc) := G674
          refine own_pre (fun _ k => st657.trans k) ?_
          exact own_end X657 (BodyLoose.notSynchronized Bd) (fun _ => rfl) (v := none) (fun fs hr => X657.returnOut hx Bd.returns (hb hby d3_52) hr) (by show Q3 Z a0 p1 e1 e2 e3 e4 e5 e6 e7 el po bo bs bm tb bc tc h0 n0 _ T657.heap _; exact ⟨rfl, N657, Kp657, (by first | exact G662 | (simp only [if_neg hs5_1, if_neg hs18_9, if_neg hs31_13, if_neg hs44_15]; exact G662)), (by first | exact G663 | (simp only [if_neg hs5_1, if_neg hs18_9, if_neg hs31_13, if_neg hs44_15]; exact G663)), (by first | exact G664 | (simp only [if_neg hs5_1, if_neg hs18_9, if_neg hs31_13, if_neg hs44_15]; exact G664)), (by first | exact G665 | (simp only [if_neg hs5_1, if_neg hs18_9, if_neg hs31_13, if_neg hs44_15]; exact G665)), (by first | exact G666 | (simp only [if_neg hs5_1, if_neg hs18_9, if_neg hs31_13, if_neg hs44_15]; exact G666)), (by first | exact G667 | (simp only [if_neg hs5_1, if_neg hs18_9, if_neg hs31_13, if_neg hs44_15]; exact G667)), (by first | exact G668 | (simp only [if_neg hs5_1, if_neg hs18_9, if_neg hs31_13, if_neg hs44_15]; exact G668)), (by first | exact G669 | (simp only [if_neg hs5_1, if_neg hs18_9, if_neg hs31_13, if_neg hs44_15]; exact G669)), (by simp only [g3_tc, if_neg hs5_1, if_neg hs18_9, if_neg hs31_13, if_neg hs44_15]; exact G677), (by simp only [g3_el, if_neg hs5_1, if_neg hs18_9, if_neg hs31_13, if_neg hs44_15]; exact G679), (by simp only [g3_po, if_neg hs5_1, if_neg hs18_9, if_neg hs31_13, if_neg hs44_15]; exact G681), (by simp only [g3_bm, if_neg hs5_1, if_neg hs18_9, if_neg hs31_13, if_neg hs44_15]; exact G683), (by simp only [g3_tb, if_neg hs5_1, if_neg hs18_9, if_neg hs31_13, if_neg hs44_15]; exact G685)⟩) (by decide) (by decide)
theorem d6_0 : decode prog_16_method_13_code 0 = .ok (.aload_n 0, 1) := by decide +kernel
theorem d6_1 : decode prog_16_method_13_code 1 = .ok (.getfield 19, 3) := by decide +kernel
theorem d6_4 : decode prog_16_method_13_code 4 = .ok (.iload_n 1, 1) := by decide +kernel
theorem d6_5 : decode prog_16_method_13_code 5 = .ok (.iaload, 1) := by decide +kernel
theorem d6_6 : decode prog_16_method_13_code 6 = .ok (.istore_n 2, 1) := by decide +kernel
theorem d6_7 : decode prog_16_method_13_code 7 = .ok (.aload_n 0, 1) := by decide +kernel
theorem d6_8 : decode prog_16_method_13_code 8 = .ok (.getfield 25, 3) := by decide +kernel
theorem d6_11 : decode prog_16_method_13_code 11 = .ok (.iload_n 1, 1) := by decide +kernel
theorem d6_12 : decode prog_16_method_13_code 12 = .ok (.iaload, 1) := by decide +kernel
theorem d6_13 : decode prog_16_method_13_code 13 = .ok (.istore_n 3, 1) := by decide +kernel
theorem d6_14 : decode prog_16_method_13_code 14 = .ok (.iconst (-1), 1) := by decide +kernel
theorem d6_15 : decode prog_16_method_13_code 15 = .ok (.istore 4, 2) := by decide +kernel
theorem d6_17 : decode prog_16_method_13_code 17 = .ok (.iload_n 3, 1) := by decide +kernel
theorem d6_18 : decode prog_16_method_13_code 18 = .ok (.aload_n 0, 1) := by decide +kernel
theorem d6_19 : decode prog_16_method_13_code 19 = .ok (.getfield 22, 3) := by decide +kernel
theorem d6_22 : decode prog_16_method_13_code 22 = .ok (.iload_n 1, 1) := by decide +kernel
theorem d6_23 : decode prog_16_method_13_code 23 = .ok (.iaload, 1) := by decide +kernel
theorem d6_24 : decode prog_16_method_13_code 24 = .ok (.if_icmp .ge 79, 3) := by decide +kernel
theorem d6_27 : decode prog_16_method_13_code 27 = .ok (.aload_n 0, 1) := by decide +kernel
theorem d6_28 : decode prog_16_method_13_code 28 = .ok (.getfield 31, 3) := by decide +kernel
theorem d6_31 : decode prog_16_method_13_code 31 = .ok (.istore 4, 2) := by decide +kernel
theorem d6_33 : decode prog_16_method_13_code 33 = .ok (.aload_n 0, 1) := by decide +kernel
theorem d6_34 : decode prog_16_method_13_code 34 = .ok (.dup, 1) := by decide +kernel
theorem d6_35 : decode prog_16_method_13_code 35 = .ok (.getfield 31, 3) := by decide +kernel
theorem d6_38 : decode prog_16_method_13_code 38 = .ok (.iconst 1, 1) := by decide +kernel
theorem d6_39 : decode prog_16_method_13_code 39 = .ok (.iadd, 1) := by decide +kernel
theorem d6_40 : decode prog_16_method_13_code 40 = .ok (.putfield 31, 3) := by decide +kernel
theorem d6_43 : decode prog_16_method_13_code 43 = .ok (.aload_n 0, 1) := by decide +kernel
theorem d6_44 : decode prog_16_method_13_code 44 = .ok (.getfield 19, 3) := by decide +kernel
theorem d6_47 : decode prog_16_method_13_code 47 = .ok (.iload 4, 2) := by decide +kernel
theorem d6_49 : decode prog_16_method_13_code 49 = .ok (.iload_n 2, 1) := by decide +kernel
theorem d6_50 : decode prog_16_method_13_code 50 = .ok (.iastore, 1) := by decide +kernel
theorem d6_51 : decode prog_16_method_13_code 51 = .ok (.aload_n 0, 1) := by decide +kernel
theorem d6_52 : decode prog_16_method_13_code 52 = .ok (.getfield 22, 3) := by decide +kernel
theorem d6_55 : decode prog_16_method_13_code 55 = .ok (.iload 4, 2) := by decide +kernel
theorem d6_57 : decode prog_16_method_13_code 57 = .ok (.iload_n 3, 1) := by decide +kernel
theorem d6_58 : decode prog_16_method_13_code 58 = .ok (.iastore, 1) := by decide +kernel
theorem d6_59 : decode prog_16_method_13_code 59 = .ok (.aload_n 0, 1) := by decide +kernel
theorem d6_60 : decode prog_16_method_13_code 60 = .ok (.getfield 25, 3) := by decide +kernel
theorem d6_63 : decode prog_16_method_13_code 63 = .ok (.iload 4, 2) := by decide +kernel
theorem d6_65 : decode prog_16_method_13_code 65 = .ok (.iload_n 2, 1) := by decide +kernel
theorem d6_66 : decode prog_16_method_13_code 66 = .ok (.iastore, 1) := by decide +kernel
theorem d6_67 : decode prog_16_method_13_code 67 = .ok (.iload_n 2, 1) := by decide +kernel
theorem d6_68 : decode prog_16_method_13_code 68 = .ok (.istore 5, 2) := by decide +kernel
theorem d6_70 : decode prog_16_method_13_code 70 = .ok (.iload 5, 2) := by decide +kernel
theorem d6_72 : decode prog_16_method_13_code 72 = .ok (.iload_n 3, 1) := by decide +kernel
theorem d6_73 : decode prog_16_method_13_code 73 = .ok (.if_icmp .ge 23, 3) := by decide +kernel
theorem d6_76 : decode prog_16_method_13_code 76 = .ok (.aload_n 0, 1) := by decide +kernel
theorem d6_77 : decode prog_16_method_13_code 77 = .ok (.getfield 16, 3) := by decide +kernel
theorem d6_80 : decode prog_16_method_13_code 80 = .ok (.aload_n 0, 1) := by decide +kernel
theorem d6_81 : decode prog_16_method_13_code 81 = .ok (.getfield 7, 3) := by decide +kernel
theorem d6_84 : decode prog_16_method_13_code 84 = .ok (.iload 5, 2) := by decide +kernel
theorem d6_86 : decode prog_16_method_13_code 86 = .ok (.iaload, 1) := by decide +kernel
theorem d6_87 : decode prog_16_method_13_code 87 = .ok (.iload 4, 2) := by decide +kernel
theorem d6_89 : decode prog_16_method_13_code 89 = .ok (.iastore, 1) := by decide +kernel
theorem d6_90 : decode prog_16_method_13_code 90 = .ok (.iinc 5 1, 3) := by decide +kernel
theorem d6_93 : decode prog_16_method_13_code 93 = .ok (.goto (-23), 3) := by decide +kernel
theorem d6_96 : decode prog_16_method_13_code 96 = .ok (.aload_n 0, 1) := by decide +kernel
theorem d6_97 : decode prog_16_method_13_code 97 = .ok (.getfield 19, 3) := by decide +kernel
theorem d6_100 : decode prog_16_method_13_code 100 = .ok (.iload_n 1, 1) := by decide +kernel
theorem d6_101 : decode prog_16_method_13_code 101 = .ok (.iload_n 3, 1) := by decide +kernel
theorem d6_102 : decode prog_16_method_13_code 102 = .ok (.iastore, 1) := by decide +kernel
theorem d6_103 : decode prog_16_method_13_code 103 = .ok (.aload_n 0, 1) := by decide +kernel
theorem d6_104 : decode prog_16_method_13_code 104 = .ok (.getfield 25, 3) := by decide +kernel
theorem d6_107 : decode prog_16_method_13_code 107 = .ok (.iload_n 1, 1) := by decide +kernel
theorem d6_108 : decode prog_16_method_13_code 108 = .ok (.aload_n 0, 1) := by decide +kernel
theorem d6_109 : decode prog_16_method_13_code 109 = .ok (.getfield 19, 3) := by decide +kernel
theorem d6_112 : decode prog_16_method_13_code 112 = .ok (.iload_n 1, 1) := by decide +kernel
theorem d6_113 : decode prog_16_method_13_code 113 = .ok (.iaload, 1) := by decide +kernel
theorem d6_114 : decode prog_16_method_13_code 114 = .ok (.iastore, 1) := by decide +kernel
theorem d6_115 : decode prog_16_method_13_code 115 = .ok (.iload 4, 2) := by decide +kernel
theorem d6_117 : decode prog_16_method_13_code 117 = .ok (.ireturn, 1) := by decide +kernel
theorem ef6 (m : MethodId) (a0 : Addr) (p1 : Int32) : entryFrame m #[(.ref a0), (.int p1)] 6 = mkF m 0 #[rv a0, iv p1, .unset, .unset, .unset, .unset] [] := by first | (simp [entryFrame, mkF, argsToLocals, Value.category]; done) | rfl
def g6_bc (p1 : Int32) (el : List Int32) (bo : List Int32) (bs : List Int32) (be : List Int32) (bm : List Int32) (bc : Int32) (tc : Int32) : Int32 := (if (own_at bm p1) < (own_at be p1) then (bc + (1:Int32)) else bc)
def g6_bo (p1 : Int32) (el : List Int32) (bo : List Int32) (bs : List Int32) (be : List Int32) (bm : List Int32) (bc : Int32) (tc : Int32) : List Int32 := (if (own_at bm p1) < (own_at be p1) then (if (own_at bs p1) < (own_at bm p1) then (if ((own_at bs p1) + (1:Int32)) < (own_at bm p1) then (if (((own_at bs p1) + (1:Int32)) + (1:Int32)) < (own_at bm p1) then (if ((((own_at bs p1) + (1:Int32)) + (1:Int32)) + (1:Int32)) < (own_at bm p1) then ((((bo.set (own_at el (own_at bs p1)).toNatClampNeg bc).set (own_at el ((own_at bs p1) + (1:Int32))).toNatClampNeg bc).set (own_at el (((own_at bs p1) + (1:Int32)) + (1:Int32))).toNatClampNeg bc).set (own_at el ((((own_at bs p1) + (1:Int32)) + (1:Int32)) + (1:Int32))).toNatClampNeg bc) else (((bo.set (own_at el (own_at bs p1)).toNatClampNeg bc).set (own_at el ((own_at bs p1) + (1:Int32))).toNatClampNeg bc).set (own_at el (((own_at bs p1) + (1:Int32)) + (1:Int32))).toNatClampNeg bc)) else ((bo.set (own_at el (own_at bs p1)).toNatClampNeg bc).set (own_at el ((own_at bs p1) + (1:Int32))).toNatClampNeg bc)) else (bo.set (own_at el (own_at bs p1)).toNatClampNeg bc)) else bo) else bo)
def g6_bs (p1 : Int32) (el : List Int32) (bo : List Int32) (bs : List Int32) (be : List Int32) (bm : List Int32) (bc : Int32) (tc : Int32) : List Int32 := (if (own_at bm p1) < (own_at be p1) then ((bs.set bc.toNatClampNeg (own_at bs p1)).set p1.toNatClampNeg (own_at bm p1)) else bs)
def g6_be (p1 : Int32) (el : List Int32) (bo : List Int32) (bs : List Int32) (be : List Int32) (bm : List Int32) (bc : Int32) (tc : Int32) : List Int32 := (if (own_at bm p1) < (own_at be p1) then (be.set bc.toNatClampNeg (own_at bm p1)) else be)
def g6_bm (p1 : Int32) (el : List Int32) (bo : List Int32) (bs : List Int32) (be : List Int32) (bm : List Int32) (bc : Int32) (tc : Int32) : List Int32 := (if (own_at bm p1) < (own_at be p1) then ((bm.set bc.toNatClampNeg (own_at bs p1)).set p1.toNatClampNeg (own_at ((bs.set bc.toNatClampNeg (own_at bs p1)).set p1.toNatClampNeg (own_at bm p1)) p1)) else (bm.set p1.toNatClampNeg (own_at bs p1)))
def f6 (p1 : Int32) (el : List Int32) (bo : List Int32) (bs : List Int32) (be : List Int32) (bm : List Int32) (bc : Int32) (tc : Int32) : Int32 := (if (own_at bm p1) < (own_at be p1) then bc else (-1:Int32))
def Q6 (Z : State) (a0 : Addr) (p1 : Int32) (e1 : Addr) (e2 : Addr) (e3 : Addr) (e4 : Addr) (e5 : Addr) (e6 : Addr) (e7 : Addr) (el : List Int32) (bo : List Int32) (bs : List Int32) (be : List Int32) (bm : List Int32) (bc : Int32) (tc : Int32) (h0 : Heap) (n0 : Nat) (v : Option Value) (h : Heap) (L : List Loc) : Prop := v = some (.int (f6 p1 el bo bs be bm bc tc)) ∧ Fr n0 L ∧ Keep h0 h [a0, e3, e4, e5, e6] ∧ Fld Z h a0 "com/example/spare_calculus/sparecalculus/bisim/Partition" "elements" "[I" (.ref e1) ∧ Fld Z h a0 "com/example/spare_calculus/sparecalculus/bisim/Partition" "positions" "[I" (.ref e2) ∧ Fld Z h a0 "com/example/spare_calculus/sparecalculus/bisim/Partition" "blockOf" "[I" (.ref e3) ∧ Fld Z h a0 "com/example/spare_calculus/sparecalculus/bisim/Partition" "blockStart" "[I" (.ref e4) ∧ Fld Z h a0 "com/example/spare_calculus/sparecalculus/bisim/Partition" "blockEnd" "[I" (.ref e5) ∧ Fld Z h a0 "com/example/spare_calculus/sparecalculus/bisim/Partition" "blockMarkedEnd" "[I" (.ref e6) ∧ Fld Z h a0 "com/example/spare_calculus/sparecalculus/bisim/Partition" "touchedBlocks" "[I" (.ref e7) ∧ Fld Z h a0 "com/example/spare_calculus/sparecalculus/bisim/Partition" "blockCount" "I" (.int (g6_bc p1 el bo bs be bm bc tc)) ∧ Fld Z h a0 "com/example/spare_calculus/sparecalculus/bisim/Partition" "touchedBlockCount" "I" (.int tc) ∧ own_Ints Z h e3 (g6_bo p1 el bo bs be bm bc tc) ∧ own_Ints Z h e4 (g6_bs p1 el bo bs be bm bc tc) ∧ own_Ints Z h e5 (g6_be p1 el bo bs be bm bc tc) ∧ own_Ints Z h e6 (g6_bm p1 el bo bs be bm bc tc)
set_option maxRecDepth 65536 in
set_option maxHeartbeats 40000000 in
theorem rm6 (l : Launch) (Z : State) (aZ : Array Value) (hw : ∀ d ∈ tables_1, d.before aZ Z = true) (ws : List Jvm.Cond) (a0 : Addr) (p1 : Int32) (e1 : Addr) (e2 : Addr) (e3 : Addr) (e4 : Addr) (e5 : Addr) (e6 : Addr) (e7 : Addr) (el : List Int32) (bo : List Int32) (bs : List Int32) (be : List Int32) (bm : List Int32) (bc : Int32) (tc : Int32) (h0 : Heap) (n0 : Nat) (Z0 : n0 ≤ h0.size) (P0 : Exa Z h0 a0 "com/example/spare_calculus/sparecalculus/bisim/Partition") (P1 : Fld Z h0 a0 "com/example/spare_calculus/sparecalculus/bisim/Partition" "elements" "[I" (.ref e1)) (P2 : Fld Z h0 a0 "com/example/spare_calculus/sparecalculus/bisim/Partition" "positions" "[I" (.ref e2)) (P3 : Fld Z h0 a0 "com/example/spare_calculus/sparecalculus/bisim/Partition" "blockOf" "[I" (.ref e3)) (P4 : Fld Z h0 a0 "com/example/spare_calculus/sparecalculus/bisim/Partition" "blockStart" "[I" (.ref e4)) (P5 : Fld Z h0 a0 "com/example/spare_calculus/sparecalculus/bisim/Partition" "blockEnd" "[I" (.ref e5)) (P6 : Fld Z h0 a0 "com/example/spare_calculus/sparecalculus/bisim/Partition" "blockMarkedEnd" "[I" (.ref e6)) (P7 : Fld Z h0 a0 "com/example/spare_calculus/sparecalculus/bisim/Partition" "touchedBlocks" "[I" (.ref e7)) (P8 : Fld Z h0 a0 "com/example/spare_calculus/sparecalculus/bisim/Partition" "blockCount" "I" (.int bc)) (P9 : Fld Z h0 a0 "com/example/spare_calculus/sparecalculus/bisim/Partition" "touchedBlockCount" "I" (.int tc)) (P10 : own_Ints Z h0 e1 el) (P11 : own_Ints Z h0 e3 bo) (P12 : own_Ints Z h0 e4 bs) (P13 : own_Ints Z h0 e5 be) (P14 : own_Ints Z h0 e6 bm) (nq_a0_e1 : a0 ≠ e1) (nq_a0_e3 : a0 ≠ e3) (nq_a0_e4 : a0 ≠ e4) (nq_a0_e5 : a0 ≠ e5) (nq_a0_e6 : a0 ≠ e6) (nq_e1_e3 : e1 ≠ e3) (nq_e1_e4 : e1 ≠ e4) (nq_e1_e5 : e1 ≠ e5) (nq_e1_e6 : e1 ≠ e6) (nq_e3_e4 : e3 ≠ e4) (nq_e3_e5 : e3 ≠ e5) (nq_e3_e6 : e3 ≠ e6) (nq_e4_e5 : e4 ≠ e5) (nq_e4_e6 : e4 ≠ e6) (nq_e5_e6 : e5 ≠ e6) (gq_a0 : n0 ≤ a0) (gq_e3 : n0 ≤ e3) (gq_e4 : n0 ≤ e4) (gq_e5 : n0 ≤ e5) (gq_e6 : n0 ≤ e6) (hb1 : own_In p1 bs.length) (hb2 : own_In p1 bm.length) (hb3 : own_In p1 be.length) (hb4 : (own_at bm p1) < (own_at be p1) → own_In bc bs.length) (hb5 : (own_at bm p1) < (own_at be p1) → own_In bc be.length) (hb6 : (own_at bm p1) < (own_at be p1) → own_In bc bm.length) (hl0 : (own_at bm p1) < (own_at be p1) → (own_at bs p1) < (own_at bm p1) → own_In (own_at bs p1) el.length) (hm0 : (own_at bm p1) < (own_at be p1) → (own_at bs p1) < (own_at bm p1) → own_In (own_at el (own_at bs p1)) bo.length) (hl1 : (own_at bm p1) < (own_at be p1) → ((own_at bs p1) + (1:Int32)) < (own_at bm p1) → own_In ((own_at bs p1) + (1:Int32)) el.length) (hm1 : (own_at bm p1) < (own_at be p1) → ((own_at bs p1) + (1:Int32)) < (own_at bm p1) → own_In (own_at el ((own_at bs p1) + (1:Int32))) bo.length) (hl2 : (own_at bm p1) < (own_at be p1) → (((own_at bs p1) + (1:Int32)) + (1:Int32)) < (own_at bm p1) → own_In (((own_at bs p1) + (1:Int32)) + (1:Int32)) el.length) (hm2 : (own_at bm p1) < (own_at be p1) → (((own_at bs p1) + (1:Int32)) + (1:Int32)) < (own_at bm p1) → own_In (own_at el (((own_at bs p1) + (1:Int32)) + (1:Int32))) bo.length) (hl3 : (own_at bm p1) < (own_at be p1) → ((((own_at bs p1) + (1:Int32)) + (1:Int32)) + (1:Int32)) < (own_at bm p1) → own_In ((((own_at bs p1) + (1:Int32)) + (1:Int32)) + (1:Int32)) el.length) (hm3 : (own_at bm p1) < (own_at be p1) → ((((own_at bs p1) + (1:Int32)) + (1:Int32)) + (1:Int32)) < (own_at bm p1) → own_In (own_at el ((((own_at bs p1) + (1:Int32)) + (1:Int32)) + (1:Int32))) bo.length) (hend : (own_at bm p1) < (own_at be p1) → ¬ ((((((own_at bs p1) + (1:Int32)) + (1:Int32)) + (1:Int32)) + (1:Int32)) < (own_at bm p1))) :
    MetFree l (⟨"com/example/spare_calculus/sparecalculus/bisim/Partition", "splitOffMarked", "(I)I"⟩ : MethodName) (head1 (Jvm.Cond.code (⟨"com/example/spare_calculus/sparecalculus/bisim/Partition", "splitOffMarked", "(I)I"⟩ : MethodName) prog_16_method_13_code 6 (some .int) :: ws) ({ frames := 0, cells := 0, slots := 0, locals := 0 } : Room)) (fun a U => a = #[(.ref a0), (.int p1)] ∧ Z.Warmed39 U.vm ∧ U.heap = h0) (fun _ _ _ _ _ => True) (fun _ U o U' => ∃ v L, o = .returned v ∧ Q6 Z a0 p1 e1 e2 e3 e4 e5 e6 e7 el bo bs be bm bc tc h0 n0 v U'.heap L ∧ FrameEnd U o U' L ({ frames := 0, cells := 0, slots := 0, locals := 0 } : Room).cells ({ frames := 0, cells := 0, slots := 0, locals := 0 } : Room).slots) := by
  refine MetFree.of_bodySF (plainFor_of_name own_pn0) hisR ?_
  intro p e s m args below meth c s₁ Bd hml0 hP hK
  obtain ⟨rfl, hZ, hh⟩ := hP
  have hx := Bd.exec
  have hby := Bd.bytes
  have hml : c.maxLocals = 6 := hml0
  have hown : s.vm.findClass "com/example/spare_calculus/sparecalculus/bisim/Partition" = some m.cls := findClass_of_methodNamed Bd.named
  have hnm := (name_of_methodNamed Bd.named Bd.method).1
  have X0 : Stand p l e ({ frames := 0, cells := 0, slots := 0, locals := 0 } : Room) s m #[(.ref a0), (.int p1)] below meth c s₁ [] 0 0 := Stand.of_body Bd
  have e0 : s₁.heap = h0 := by rw [← hh, Bd.state]; rfl
  have N0 := Fr.nil n0
  have Kp0 : Keep h0 h0 [a0, e3, e4, e5, e6] := Keep.refl _ _
  show own_Goes p e below s (Q6 Z a0 p1 e1 e2 e3 e4 e5 e6 e7 el bo bs be bm bc tc h0 n0) ({ frames := 0, cells := 0, slots := 0, locals := 0 } : Room).cells ({ frames := 0, cells := 0, slots := 0, locals := 0 } : Room).slots _
  refine own_pre (fun t k => castTop (ef6 m a0 p1) k) ?_
  refine own_pre (A := s₁.setTop (mkF m 1 #[rv a0, iv p1, .unset, .unset, .unset, .unset] [(.ref a0)])) (fun t k => ?_) ?_
  · show Steps p.tables e below (s₁.setTop (mkF m 0 #[rv a0, iv p1, .unset, .unset, .unset, .unset] [])) _
    refine XS.aloadN X0.here hx rfl (hb hby d6_0) rfl rfl ?_
    exact k
  obtain ⟨T686, X686, e686, st686⟩ := getF X0 hx hZ hown (host := "") (Or.inl (own_h hw 16 rfl)) Via.refl e0 P4 (g := (mkF m 1 #[rv a0, iv p1, .unset, .unset, .unset, .unset] [(.ref a0)])) rfl rfl (hb hby d6_1)
  refine own_pre st686 ?_
  have hbn687 : own_In p1 bs.length := hb1
  refine own_pre (A := T686.setTop (mkF m 8 #[rv a0, iv p1, iv (own_at bs p1), .unset, .unset, .unset] [(.ref a0)])) (fun t k => ?_) ?_
  · show Steps p.tables e below (T686.setTop (mkF m 4 #[rv a0, iv p1, .unset, .unset, .unset, .unset] [(.ref e4)])) _
    refine XS.iloadN X686.here hx rfl (hb hby d6_4) rfl ?_
    show Steps p.tables e below (T686.setTop (mkF m 5 #[rv a0, iv p1, .unset, .unset, .unset, .unset] [(.int p1), (.ref e4)])) _
    refine own_iaload X686 hx hZ e686 P12 hbn687 (g := (mkF m 5 #[rv a0, iv p1, .unset, .unset, .unset, .unset] [(.int p1), (.ref e4)])) rfl rfl (hb hby d6_5) ?_
    show Steps p.tables e below (T686.setTop (mkF m 6 #[rv a0, iv p1, .unset, .unset, .unset, .unset] [(.int (own_at bs p1))])) _
    refine XS.istoreN X686.here hx rfl (hb hby d6_6) rfl (l' := #[rv a0, iv p1, iv (own_at bs p1), .unset, .unset, .unset]) rfl ?_
    show Steps p.tables e below (T686.setTop (mkF m 7 #[rv a0, iv p1, iv (own_at bs p1), .unset, .unset, .unset] [])) _
    refine XS.aloadN X686.here hx rfl (hb hby d6_7) rfl rfl ?_
    exact k
  obtain ⟨T688, X688, e688, st688⟩ := getF X686 hx hZ hown (host := "") (Or.inl (own_h hw 20 rfl)) Via.refl e686 P6 (g := (mkF m 8 #[rv a0, iv p1, iv (own_at bs p1), .unset, .unset, .unset] [(.ref a0)])) rfl rfl (hb hby d6_8)
  refine own_pre st688 ?_
  have hbn689 : own_In p1 bm.length := hb2
  refine own_pre (A := T688.setTop (mkF m 19 #[rv a0, iv p1, iv (own_at bs p1), iv (own_at bm p1), iv (-1:Int32), .unset] [(.ref a0), (.int (own_at bm p1))])) (fun t k => ?_) ?_
  · show Steps p.tables e below (T688.setTop (mkF m 11 #[rv a0, iv p1, iv (own_at bs p1), .unset, .unset, .unset] [(.ref e6)])) _
    refine XS.iloadN X688.here hx rfl (hb hby d6_11) rfl ?_
    show Steps p.tables e below (T688.setTop (mkF m 12 #[rv a0, iv p1, iv (own_at bs p1), .unset, .unset, .unset] [(.int p1), (.ref e6)])) _
    refine own_iaload X688 hx hZ e688 P14 hbn689 (g := (mkF m 12 #[rv a0, iv p1, iv (own_at bs p1), .unset, .unset, .unset] [(.int p1), (.ref e6)])) rfl rfl (hb hby d6_12) ?_
    show Steps p.tables e below (T688.setTop (mkF m 13 #[rv a0, iv p1, iv (own_at bs p1), .unset, .unset, .unset] [(.int (own_at bm p1))])) _
    refine XS.istoreN X688.here hx rfl (hb hby d6_13) rfl (l' := #[rv a0, iv p1, iv (own_at bs p1), iv (own_at bm p1), .unset, .unset]) rfl ?_
    show Steps p.tables e below (T688.setTop (mkF m 14 #[rv a0, iv p1, iv (own_at bs p1), iv (own_at bm p1), .unset, .unset] [])) _
    refine XS.iconst X688.here hx rfl (hb hby d6_14) ?_
    show Steps p.tables e below (T688.setTop (mkF m 15 #[rv a0, iv p1, iv (own_at bs p1), iv (own_at bm p1), .unset, .unset] [(.int (-1:Int32))])) _
    refine XS.istore X688.here hx rfl (hb hby d6_15) rfl (l' := #[rv a0, iv p1, iv (own_at bs p1), iv (own_at bm p1), iv (-1:Int32), .unset]) rfl ?_
    show Steps p.tables e below (T688.setTop (mkF m 17 #[rv a0, iv p1, iv (own_at bs p1), iv (own_at bm p1), iv (-1:Int32), .unset] [])) _
    refine XS.iloadN X688.here hx rfl (hb hby d6_17) rfl ?_
    show Steps p.tables e below (T688.setTop (mkF m 18 #[rv a0, iv p1, iv (own_at bs p1), iv (own_at bm p1), iv (-1:Int32), .unset] [(.int (own_at bm p1))])) _
    refine XS.aloadN X688.here hx rfl (hb hby d6_18) rfl rfl ?_
    exact k
  obtain ⟨T690, X690, e690, st690⟩ := getF X688 hx hZ hown (host := "") (Or.inl (own_h hw 18 rfl)) Via.refl e688 P5 (g := (mkF m 19 #[rv a0, iv p1, iv (own_at bs p1), iv (own_at bm p1), iv (-1:Int32), .unset] [(.ref a0), (.int (own_at bm p1))])) rfl rfl (hb hby d6_19)
  refine own_pre st690 ?_
  have hbn691 : own_In p1 be.length := hb3
  refine own_pre (A := T690.setTop (mkF m 24 #[rv a0, iv p1, iv (own_at bs p1), iv (own_at bm p1), iv (-1:Int32), .unset] [(.int (own_at be p1)), (.int (own_at bm p1))])) (fun t k => ?_) ?_
  · show Steps p.tables e below (T690.setTop (mkF m 22 #[rv a0, iv p1, iv (own_at bs p1), iv (own_at bm p1), iv (-1:Int32), .unset] [(.ref e5), (.int (own_at bm p1))])) _
    refine XS.iloadN X690.here hx rfl (hb hby d6_22) rfl ?_
    show Steps p.tables e below (T690.setTop (mkF m 23 #[rv a0, iv p1, iv (own_at bs p1), iv (own_at bm p1), iv (-1:Int32), .unset] [(.int p1), (.ref e5), (.int (own_at bm p1))])) _
    refine own_iaload X690 hx hZ e690 P13 hbn691 (g := (mkF m 23 #[rv a0, iv p1, iv (own_at bs p1), iv (own_at bm p1), iv (-1:Int32), .unset] [(.int p1), (.ref e5), (.int (own_at bm p1))])) rfl rfl (hb hby d6_23) ?_
    exact k
  by_cases hs24_1 : (own_at bm p1) < (own_at be p1)
  · refine own_pre (A := T690.setTop (mkF m 28 #[rv a0, iv p1, iv (own_at bs p1), iv (own_at bm p1), iv (-1:Int32), .unset] [(.ref a0)])) (fun t k => ?_) ?_
    · show Steps p.tables e below (T690.setTop (mkF m 24 #[rv a0, iv p1, iv (own_at bs p1), iv (own_at bm p1), iv (-1:Int32), .unset] [(.int (own_at be p1)), (.int (own_at bm p1))])) _
      refine XS.icmpNo X690.here hx rfl (hb hby d6_24) rfl (XT.ii_ge_f hs24_1) ?_
      show Steps p.tables e below (T690.setTop (mkF m 27 #[rv a0, iv p1, iv (own_at bs p1), iv (own_at bm p1), iv (-1:Int32), .unset] [])) _
      refine XS.aloadN X690.here hx rfl (hb hby d6_27) rfl rfl ?_
      exact k
    obtain ⟨T692, X692, e692, st692⟩ := getF X690 hx hZ hown (host := "") (Or.inl (own_h hw 24 rfl)) Via.refl e690 P8 (g := (mkF m 28 #[rv a0, iv p1, iv (own_at bs p1), iv (own_at bm p1), iv (-1:Int32), .unset] [(.ref a0)])) rfl rfl (hb hby d6_28)
    refine own_pre st692 ?_
    refine own_pre (A := T692.setTop (mkF m 35 #[rv a0, iv p1, iv (own_at bs p1), iv (own_at bm p1), iv bc, .unset] [(.ref a0), (.ref a0)])) (fun t k => ?_) ?_
    · show Steps p.tables e below (T692.setTop (mkF m 31 #[rv a0, iv p1, iv (own_at bs p1), iv (own_at bm p1), iv (-1:Int32), .unset] [(.int bc)])) _
      refine XS.istore X692.here hx rfl (hb hby d6_31) rfl (l' := #[rv a0, iv p1, iv (own_at bs p1), iv (own_at bm p1), iv bc, .unset]) rfl ?_
      show Steps p.tables e below (T692.setTop (mkF m 33 #[rv a0, iv p1, iv (own_at bs p1), iv (own_at bm p1), iv bc, .unset] [])) _
      refine XS.aloadN X692.here hx rfl (hb hby d6_33) rfl rfl ?_
      show Steps p.tables e below (T692.setTop (mkF m 34 #[rv a0, iv p1, iv (own_at bs p1), iv (own_at bm p1), iv bc, .unset] [(.ref a0)])) _
      refine XS.dup X692.here hx rfl (hb hby d6_34) rfl rfl ?_
      exact k
    obtain ⟨T693, X693, e693, st693⟩ := getF X692 hx hZ hown (host := "") (Or.inl (own_h hw 24 rfl)) Via.refl e692 P8 (g := (mkF m 35 #[rv a0, iv p1, iv (own_at bs p1), iv (own_at bm p1), iv bc, .unset] [(.ref a0), (.ref a0)])) rfl rfl (hb hby d6_35)
    refine own_pre st693 ?_
    refine own_pre (A := T693.setTop (mkF m 40 #[rv a0, iv p1, iv (own_at bs p1), iv (own_at bm p1), iv bc, .unset] [(.int (bc + (1:Int32))), (.ref a0)])) (fun t k => ?_) ?_
    · show Steps p.tables e below (T693.setTop (mkF m 38 #[rv a0, iv p1, iv (own_at bs p1), iv (own_at bm p1), iv bc, .unset] [(.int bc), (.ref a0)])) _
      refine XS.iconst X693.here hx rfl (hb hby d6_38) ?_
      show Steps p.tables e below (T693.setTop (mkF m 39 #[rv a0, iv p1, iv (own_at bs p1), iv (own_at bm p1), iv bc, .unset] [(.int (1:Int32)), (.int bc), (.ref a0)])) _
      refine XS.iadd X693.here hx rfl (hb hby d6_39) rfl ?_
      exact k
    obtain ⟨T694, h694, X694, e694, W694, st694⟩ := putF X693 hx hZ hown (host := "") (Or.inl (own_h hw 24 rfl)) Via.refl e693 P8 P0 (Or.inl (own_h hw 25 rfl)) (own_h hw 1 rfl) (ty := .int) (by decide) rfl rfl (g := (mkF m 40 #[rv a0, iv p1, iv (own_at bs p1), iv (own_at bm p1), iv bc, .unset] [(.int (bc + (1:Int32))), (.ref a0)])) rfl rfl (hb hby d6_40)
    have Kp694 : Keep h0 h694 [a0, e3, e4, e5, e6] := Kp0.wr W694 (Or.inl (List.mem_of_getElem? (i := 0) rfl))
    have Z695 : n0 ≤ h694.size := Nat.le_trans Z0 (Nat.le_of_eq W694.size.symm)
    have N694 := Fr.snoc X694 N0 gq_a0
    have Fw694 := P8.same W694
    refine own_pre st694 ?_
    refine own_pre (A := T694.setTop (mkF m 44 #[rv a0, iv p1, iv (own_at bs p1), iv (own_at bm p1), iv bc, .unset] [(.ref a0)])) (fun t k => ?_) ?_
    · show Steps p.tables e below (T694.setTop (mkF m 43 #[rv a0, iv p1, iv (own_at bs p1), iv (own_at bm p1), iv bc, .unset] [])) _
      refine XS.aloadN X694.here hx rfl (hb hby d6_43) rfl rfl ?_
      exact k
    have F697 := (P4.other W694 (Or.inr (slot_ne (Or.inr (own_h hw 17 rfl)) (Or.inl (own_h hw 25 rfl)) (by decide) (t := (.array .int)) (t' := .int) (by decide) (by decide))))
    obtain ⟨T696, X696, e696, st696⟩ := getF X694 hx hZ hown (host := "") (Or.inl (own_h hw 16 rfl)) Via.refl e694 F697 (g := (mkF m 44 #[rv a0, iv p1, iv (own_at bs p1), iv (own_at bm p1), iv bc, .unset] [(.ref a0)])) rfl rfl (hb hby d6_44)
    refine own_pre st696 ?_
    refine own_pre (A := T696.setTop (mkF m 50 #[rv a0, iv p1, iv (own_at bs p1), iv (own_at bm p1), iv bc, .unset] [(.int (own_at bs p1)), (.int bc), (.ref e4)])) (fun t k => ?_) ?_
    · show Steps p.tables e below (T696.setTop (mkF m 47 #[rv a0, iv p1, iv (own_at bs p1), iv (own_at bm p1), iv bc, .unset] [(.ref e4)])) _
      refine XS.iload X696.here hx rfl (hb hby d6_47) rfl ?_
      show Steps p.tables e below (T696.setTop (mkF m 49 #[rv a0, iv p1, iv (own_at bs p1), iv (own_at bm p1), iv bc, .unset] [(.int bc), (.ref e4)])) _
      refine XS.iloadN X696.here hx rfl (hb hby d6_49) rfl ?_
      exact k
    have F699 := (P12.other W694 (Ne.symm nq_a0_e4))
    have hbn700 : own_In bc bs.length := hb4 hs24_1
    obtain ⟨T698, h698, X698, e698, W698, V698, st698⟩ := own_iastore X696 hx hZ e696 F699 (j := bc) (x := (own_at bs p1)) hbn700 (g := (mkF m 50 #[rv a0, iv p1, iv (own_at bs p1), iv (own_at bm p1), iv bc, .unset] [(.int (own_at bs p1)), (.int bc), (.ref e4)])) rfl rfl (hb hby d6_50)
    have Kp698 : Keep h0 h698 [a0, e3, e4, e5, e6] := Kp694.wr W698 (Or.inl (List.mem_of_getElem? (i := 2) rfl))
    have Z701 : n0 ≤ h698.size := Nat.le_trans Z695 (Nat.le_of_eq W698.size.symm)
    have N698 := Fr.snoc X698 N694 gq_e4
    have Vw698 : own_Ints Z h698 e4 (bs.set bc.toNatClampNeg (own_at bs p1)) := V698
    refine own_pre st698 ?_
    refine own_pre (A := T698.setTop (mkF m 52 #[rv a0, iv p1, iv (own_at bs p1), iv (own_at bm p1), iv bc, .unset] [(.ref a0)])) (fun t k => ?_) ?_
    · show Steps p.tables e below (T698.setTop (mkF m 51 #[rv a0, iv p1, iv (own_at bs p1), iv (own_at bm p1), iv bc, .unset] [])) _
      refine XS.aloadN X698.here hx rfl (hb hby d6_51) rfl rfl ?_
      exact k
    have F703 := ((P5.other W694 (Or.inr (slot_ne (Or.inr (own_h hw 19 rfl)) (Or.inl (own_h hw 25 rfl)) (by decide) (t := (.array .int)) (t' := .int) (by decide) (by decide)))).other W698 (Or.inl nq_a0_e4))
    obtain ⟨T702, X702, e702, st702⟩ := getF X698 hx hZ hown (host := "") (Or.inl (own_h hw 18 rfl)) Via.refl e698 F703 (g := (mkF m 52 #[rv a0, iv p1, iv (own_at bs p1), iv (own_at bm p1), iv bc, .unset] [(.ref a0)])) rfl rfl (hb hby d6_52)
    refine own_pre st702 ?_
    refine own_pre (A := T702.setTop (mkF m 58 #[rv a0, iv p1, iv (own_at bs p1), iv (own_at bm p1), iv bc, .unset] [(.int (own_at bm p1)), (.int bc), (.ref e5)])) (fun t k => ?_) ?_
    · show Steps p.tables e below (T702.setTop (mkF m 55 #[rv a0, iv p1, iv (own_at bs p1), iv (own_at bm p1), iv bc, .unset] [(.ref e5)])) _
      refine XS.iload X702.here hx rfl (hb hby d6_55) rfl ?_
      show Steps p.tables e below (T702.setTop (mkF m 57 #[rv a0, iv p1, iv (own_at bs p1), iv (own_at bm p1), iv bc, .unset] [(.int bc), (.ref e5)])) _
      refine XS.iloadN X702.here hx rfl (hb hby d6_57) rfl ?_
      exact k
    have F705 := ((P13.other W694 (Ne.symm nq_a0_e5)).other W698 (Ne.symm nq_e4_e5))
    have hbn706 : own_In bc be.length := hb5 hs24_1
    obtain ⟨T704, h704, X704, e704, W704, V704, st704⟩ := own_iastore X702 hx hZ e702 F705 (j := bc) (x := (own_at bm p1)) hbn706 (g := (mkF m 58 #[rv a0, iv p1, iv (own_at bs p1), iv (own_at bm p1), iv bc, .unset] [(.int (own_at bm p1)), (.int bc), (.ref e5)])) rfl rfl (hb hby d6_58)
    have Kp704 : Keep h0 h704 [a0, e3, e4, e5, e6] := Kp698.wr W704 (Or.inl (List.mem_of_getElem? (i := 3) rfl))
    have Z707 : n0 ≤ h704.size := Nat.le_trans Z701 (Nat.le_of_eq W704.size.symm)
    have N704 := Fr.snoc X704 N698 gq_e5
    have Vw704 : own_Ints Z h704 e5 (be.set bc.toNatClampNeg (own_at bm p1)) := V704
    refine own_pre st704 ?_
    refine own_pre (A := T704.setTop (mkF m 60 #[rv a0, iv p1, iv (own_at bs p1), iv (own_at bm p1), iv bc, .unset] [(.ref a0)])) (fun t k => ?_) ?_
    · show Steps p.tables e below (T704.setTop (mkF m 59 #[rv a0, iv p1, iv (own_at bs p1), iv (own_at bm p1), iv bc, .unset] [])) _
      refine XS.aloadN X704.here hx rfl (hb hby d6_59) rfl rfl ?_
      exact k
    have F709 := (((P6.other W694 (Or.inr (slot_ne (Or.inr (own_h hw 21 rfl)) (Or.inl (own_h hw 25 rfl)) (by decide) (t := (.array .int)) (t' := .int) (by decide) (by decide)))).other W698 (Or.inl nq_a0_e4)).other W704 (Or.inl nq_a0_e5))
    obtain ⟨T708, X708, e708, st708⟩ := getF X704 hx hZ hown (host := "") (Or.inl (own_h hw 20 rfl)) Via.refl e704 F709 (g := (mkF m 60 #[rv a0, iv p1, iv (own_at bs p1), iv (own_at bm p1), iv bc, .unset] [(.ref a0)])) rfl rfl (hb hby d6_60)
    refine own_pre st708 ?_
    refine own_pre (A := T708.setTop (mkF m 66 #[rv a0, iv p1, iv (own_at bs p1), iv (own_at bm p1), iv bc, .unset] [(.int (own_at bs p1)), (.int bc), (.ref e6)])) (fun t k => ?_) ?_
    · show Steps p.tables e below (T708.setTop (mkF m 63 #[rv a0, iv p1, iv (own_at bs p1), iv (own_at bm p1), iv bc, .unset] [(.ref e6)])) _
      refine XS.iload X708.here hx rfl (hb hby d6_63) rfl ?_
      show Steps p.tables e below (T708.setTop (mkF m 65 #[rv a0, iv p1, iv (own_at bs p1), iv (own_at bm p1), iv bc, .unset] [(.int bc), (.ref e6)])) _
      refine XS.iloadN X708.here hx rfl (hb hby d6_65) rfl ?_
      exact k
    have F711 := (((P14.other W694 (Ne.symm nq_a0_e6)).other W698 (Ne.symm nq_e4_e6)).other W704 (Ne.symm nq_e5_e6))
    have hbn712 : own_In bc bm.length := hb6 hs24_1
    obtain ⟨T710, h710, X710, e710, W710, V710, st710⟩ := own_iastore X708 hx hZ e708 F711 (j := bc) (x := (own_at bs p1)) hbn712 (g := (mkF m 66 #[rv a0, iv p1, iv (own_at bs p1), iv (own_at bm p1), iv bc, .unset] [(.int (own_at bs p1)), (.int bc), (.ref e6)])) rfl rfl (hb hby d6_66)
    have Kp710 : Keep h0 h710 [a0, e3, e4, e5, e6] := Kp704.wr W710 (Or.inl (List.mem_of_getElem? (i := 4) rfl))
    have Z713 : n0 ≤ h710.size := Nat.le_trans Z707 (Nat.le_of_eq W710.size.symm)
    have N710 := Fr.snoc X710 N704 gq_e6
    have Vw710 : own_Ints Z h710 e6 (bm.set bc.toNatClampNeg (own_at bs p1)) := V710
    refine own_pre st710 ?_
    refine own_pre (A := T710.setTop (mkF m 73 #[rv a0, iv p1, iv (own_at bs p1), iv (own_at bm p1), iv bc, iv (own_at bs p1)] [(.int (own_at bm p1)), (.int (own_at bs p1))])) (fun t k => ?_) ?_
    · show Steps p.tables e below (T710.setTop (mkF m 67 #[rv a0, iv p1, iv (own_at bs p1), iv (own_at bm p1), iv bc, .unset] [])) _
      refine XS.iloadN X710.here hx rfl (hb hby d6_67) rfl ?_
      show Steps p.tables e below (T710.setTop (mkF m 68 #[rv a0, iv p1, iv (own_at bs p1), iv (own_at bm p1), iv bc, .unset] [(.int (own_at bs p1))])) _
      refine XS.istore X710.here hx rfl (hb hby d6_68) rfl (l' := #[rv a0, iv p1, iv (own_at bs p1), iv (own_at bm p1), iv bc, iv (own_at bs p1)]) rfl ?_
      show Steps p.tables e below (T710.setTop (mkF m 70 #[rv a0, iv p1, iv (own_at bs p1), iv (own_at bm p1), iv bc, iv (own_at bs p1)] [])) _
      refine XS.iload X710.here hx rfl (hb hby d6_70) rfl ?_
      show Steps p.tables e below (T710.setTop (mkF m 72 #[rv a0, iv p1, iv (own_at bs p1), iv (own_at bm p1), iv bc, iv (own_at bs p1)] [(.int (own_at bs p1))])) _
      refine XS.iloadN X710.here hx rfl (hb hby d6_72) rfl ?_
      exact k
    by_cases hs73_2 : (own_at bs p1) < (own_at bm p1)
    · refine own_pre (A := T710.setTop (mkF m 77 #[rv a0, iv p1, iv (own_at bs p1), iv (own_at bm p1), iv bc, iv (own_at bs p1)] [(.ref a0)])) (fun t k => ?_) ?_
      · show Steps p.tables e below (T710.setTop (mkF m 73 #[rv a0, iv p1, iv (own_at bs p1), iv (own_at bm p1), iv bc, iv (own_at bs p1)] [(.int (own_at bm p1)), (.int (own_at bs p1))])) _
        refine XS.icmpNo X710.here hx rfl (hb hby d6_73) rfl (XT.ii_ge_f hs73_2) ?_
        show Steps p.tables e below (T710.setTop (mkF m 76 #[rv a0, iv p1, iv (own_at bs p1), iv (own_at bm p1), iv bc, iv (own_at bs p1)] [])) _
        refine XS.aloadN X710.here hx rfl (hb hby d6_76) rfl rfl ?_
        exact k
      have F715 := ((((P3.other W694 (Or.inr (slot_ne (Or.inr (own_h hw 15 rfl)) (Or.inl (own_h hw 25 rfl)) (by decide) (t := (.array .int)) (t' := .int) (by decide) (by decide)))).other W698 (Or.inl nq_a0_e4)).other W704 (Or.inl nq_a0_e5)).other W710 (Or.inl nq_a0_e6))
      obtain ⟨T714, X714, e714, st714⟩ := getF X710 hx hZ hown (host := "") (Or.inl (own_h hw 14 rfl)) Via.refl e710 F715 (g := (mkF m 77 #[rv a0, iv p1, iv (own_at bs p1), iv (own_at bm p1), iv bc, iv (own_at bs p1)] [(.ref a0)])) rfl rfl (hb hby d6_77)
      refine own_pre st714 ?_
      refine own_pre (A := T714.setTop (mkF m 81 #[rv a0, iv p1, iv (own_at bs p1), iv (own_at bm p1), iv bc, iv (own_at bs p1)] [(.ref a0), (.ref e3)])) (fun t k => ?_) ?_
      · show Steps p.tables e below (T714.setTop (mkF m 80 #[rv a0, iv p1, iv (own_at bs p1), iv (own_at bm p1), iv bc, iv (own_at bs p1)] [(.ref e3)])) _
        refine XS.aloadN X714.here hx rfl (hb hby d6_80) rfl rfl ?_
        exact k
      have F717 := ((((P1.other W694 (Or.inr (slot_ne (Or.inr (own_h hw 11 rfl)) (Or.inl (own_h hw 25 rfl)) (by decide) (t := (.array .int)) (t' := .int) (by decide) (by decide)))).other W698 (Or.inl nq_a0_e4)).other W704 (Or.inl nq_a0_e5)).other W710 (Or.inl nq_a0_e6))
      obtain ⟨T716, X716, e716, st716⟩ := getF X714 hx hZ hown (host := "") (Or.inl (own_h hw 10 rfl)) Via.refl e714 F717 (g := (mkF m 81 #[rv a0, iv p1, iv (own_at bs p1), iv (own_at bm p1), iv bc, iv (own_at bs p1)] [(.ref a0), (.ref e3)])) rfl rfl (hb hby d6_81)
      refine own_pre st716 ?_
      have F718 := ((((P10.other W694 (Ne.symm nq_a0_e1)).other W698 nq_e1_e4).other W704 nq_e1_e5).other W710 nq_e1_e6)
      have hbn719 : own_In (own_at bs p1) el.length := hl0 hs24_1 hs73_2
      refine own_pre (A := T716.setTop (mkF m 89 #[rv a0, iv p1, iv (own_at bs p1), iv (own_at bm p1), iv bc, iv (own_at bs p1)] [(.int bc), (.int (own_at el (own_at bs p1))), (.ref e3)])) (fun t k => ?_) ?_
      · show Steps p.tables e below (T716.setTop (mkF m 84 #[rv a0, iv p1, iv (own_at bs p1), iv (own_at bm p1), iv bc, iv (own_at bs p1)] [(.ref e1), (.ref e3)])) _
        refine XS.iload X716.here hx rfl (hb hby d6_84) rfl ?_
        show Steps p.tables e below (T716.setTop (mkF m 86 #[rv a0, iv p1, iv (own_at bs p1), iv (own_at bm p1), iv bc, iv (own_at bs p1)] [(.int (own_at bs p1)), (.ref e1), (.ref e3)])) _
        refine own_iaload X716 hx hZ e716 F718 hbn719 (g := (mkF m 86 #[rv a0, iv p1, iv (own_at bs p1), iv (own_at bm p1), iv bc, iv (own_at bs p1)] [(.int (own_at bs p1)), (.ref e1), (.ref e3)])) rfl rfl (hb hby d6_86) ?_
        show Steps p.tables e below (T716.setTop (mkF m 87 #[rv a0, iv p1, iv (own_at bs p1), iv (own_at bm p1), iv bc, iv (own_at bs p1)] [(.int (own_at el (own_at bs p1))), (.ref e3)])) _
        refine XS.iload X716.here hx rfl (hb hby d6_87) rfl ?_
        exact k
      have F721 := ((((P11.other W694 (Ne.symm nq_a0_e3)).other W698 nq_e3_e4).other W704 nq_e3_e5).other W710 nq_e3_e6)
      have hbn722 : own_In (own_at el (own_at bs p1)) bo.length := (by first | exact hm0 hs24_1 hs73_2 | (simp only [List.length_set]; exact hm0 hs24_1 hs73_2))
      obtain ⟨T720, h720, X720, e720, W720, V720, st720⟩ := own_iastore X716 hx hZ e716 F721 (j := (own_at el (own_at bs p1))) (x := bc) hbn722 (g := (mkF m 89 #[rv a0, iv p1, iv (own_at bs p1), iv (own_at bm p1), iv bc, iv (own_at bs p1)] [(.int bc), (.int (own_at el (own_at bs p1))), (.ref e3)])) rfl rfl (hb hby d6_89)
      have Kp720 : Keep h0 h720 [a0, e3, e4, e5, e6] := Kp710.wr W720 (Or.inl (List.mem_of_getElem? (i := 1) rfl))
      have Z723 : n0 ≤ h720.size := Nat.le_trans Z713 (Nat.le_of_eq W720.size.symm)
      have N720 := Fr.snoc X720 N710 gq_e3
      have Vw720 : own_Ints Z h720 e3 (bo.set (own_at el (own_at bs p1)).toNatClampNeg bc) := V720
      refine own_pre st720 ?_
      refine own_pre (A := T720.setTop (mkF m 73 #[rv a0, iv p1, iv (own_at bs p1), iv (own_at bm p1), iv bc, iv ((own_at bs p1) + (1:Int32))] [(.int (own_at bm p1)), (.int ((own_at bs p1) + (1:Int32)))])) (fun t k => ?_) ?_
      · show Steps p.tables e below (T720.setTop (mkF m 90 #[rv a0, iv p1, iv (own_at bs p1), iv (own_at bm p1), iv bc, iv (own_at bs p1)] [])) _
        refine XS.iinc X720.here hx rfl (hb hby d6_90) rfl (l' := #[rv a0, iv p1, iv (own_at bs p1), iv (own_at bm p1), iv bc, iv ((own_at bs p1) + (1:Int32))]) rfl ?_
        show Steps p.tables e below (T720.setTop (mkF m 93 #[rv a0, iv p1, iv (own_at bs p1), iv (own_at bm p1), iv bc, iv ((own_at bs p1) + (1:Int32))] [])) _
        refine XS.goto X720.here hx rfl (pc0 := 93) (pc' := 70) rfl (hb hby d6_93) (by decide) (by decide) ?_
        show Steps p.tables e below (T720.setTop (mkF m 70 #[rv a0, iv p1, iv (own_at bs p1), iv (own_at bm p1), iv bc, iv ((own_at bs p1) + (1:Int32))] [])) _
        refine XS.iload X720.here hx rfl (hb hby d6_70) rfl ?_
        show Steps p.tables e below (T720.setTop (mkF m 72 #[rv a0, iv p1, iv (own_at bs p1), iv (own_at bm p1), iv bc, iv ((own_at bs p1) + (1:Int32))] [(.int ((own_at bs p1) + (1:Int32)))])) _
        refine XS.iloadN X720.here hx rfl (hb hby d6_72) rfl ?_
        exact k
      by_cases hs73_3 : ((own_at bs p1) + (1:Int32)) < (own_at bm p1)
      · refine own_pre (A := T720.setTop (mkF m 77 #[rv a0, iv p1, iv (own_at bs p1), iv (own_at bm p1), iv bc, iv ((own_at bs p1) + (1:Int32))] [(.ref a0)])) (fun t k => ?_) ?_
        · show Steps p.tables e below (T720.setTop (mkF m 73 #[rv a0, iv p1, iv (own_at bs p1), iv (own_at bm p1), iv bc, iv ((own_at bs p1) + (1:Int32))] [(.int (own_at bm p1)), (.int ((own_at bs p1) + (1:Int32)))])) _
          refine XS.icmpNo X720.here hx rfl (hb hby d6_73) rfl (XT.ii_ge_f hs73_3) ?_
          show Steps p.tables e below (T720.setTop (mkF m 76 #[rv a0, iv p1, iv (own_at bs p1), iv (own_at bm p1), iv bc, iv ((own_at bs p1) + (1:Int32))] [])) _
          refine XS.aloadN X720.here hx rfl (hb hby d6_76) rfl rfl ?_
          exact k
        have F725 := (F715.other W720 (Or.inl nq_a0_e3))
        obtain ⟨T724, X724, e724, st724⟩ := getF X720 hx hZ hown (host := "") (Or.inl (own_h hw 14 rfl)) Via.refl e720 F725 (g := (mkF m 77 #[rv a0, iv p1, iv (own_at bs p1), iv (own_at bm p1), iv bc, iv ((own_at bs p1) + (1:Int32))] [(.ref a0)])) rfl rfl (hb hby d6_77)
        refine own_pre st724 ?_
        refine own_pre (A := T724.setTop (mkF m 81 #[rv a0, iv p1, iv (own_at bs p1), iv (own_at bm p1), iv bc, iv ((own_at bs p1) + (1:Int32))] [(.ref a0), (.ref e3)])) (fun t k => ?_) ?_
        · show Steps p.tables e below (T724.setTop (mkF m 80 #[rv a0, iv p1, iv (own_at bs p1), iv (own_at bm p1), iv bc, iv ((own_at bs p1) + (1:Int32))] [(.ref e3)])) _
          refine XS.aloadN X724.here hx rfl (hb hby d6_80) rfl rfl ?_
          exact k
        have F727 := (F717.other W720 (Or.inl nq_a0_e3))
        obtain ⟨T726, X726, e726, st726⟩ := getF X724 hx hZ hown (host := "") (Or.inl (own_h hw 10 rfl)) Via.refl e724 F727 (g := (mkF m 81 #[rv a0, iv p1, iv (own_at bs p1), iv (own_at bm p1), iv bc, iv ((own_at bs p1) + (1:Int32))] [(.ref a0), (.ref e3)])) rfl rfl (hb hby d6_81)
        refine own_pre st726 ?_
        have F728 := (F718.other W720 nq_e1_e3)
        have hbn729 : own_In ((own_at bs p1) + (1:Int32)) el.length := hl1 hs24_1 hs73_3
        refine own_pre (A := T726.setTop (mkF m 89 #[rv a0, iv p1, iv (own_at bs p1), iv (own_at bm p1), iv bc, iv ((own_at bs p1) + (1:Int32))] [(.int bc), (.int (own_at el ((own_at bs p1) + (1:Int32)))), (.ref e3)])) (fun t k => ?_) ?_
        · show Steps p.tables e below (T726.setTop (mkF m 84 #[rv a0, iv p1, iv (own_at bs p1), iv (own_at bm p1), iv bc, iv ((own_at bs p1) + (1:Int32))] [(.ref e1), (.ref e3)])) _
          refine XS.iload X726.here hx rfl (hb hby d6_84) rfl ?_
          show Steps p.tables e below (T726.setTop (mkF m 86 #[rv a0, iv p1, iv (own_at bs p1), iv (own_at bm p1), iv bc, iv ((own_at bs p1) + (1:Int32))] [(.int ((own_at bs p1) + (1:Int32))), (.ref e1), (.ref e3)])) _
          refine own_iaload X726 hx hZ e726 F728 hbn729 (g := (mkF m 86 #[rv a0, iv p1, iv (own_at bs p1), iv (own_at bm p1), iv bc, iv ((own_at bs p1) + (1:Int32))] [(.int ((own_at bs p1) + (1:Int32))), (.ref e1), (.ref e3)])) rfl rfl (hb hby d6_86) ?_
          show Steps p.tables e below (T726.setTop (mkF m 87 #[rv a0, iv p1, iv (own_at bs p1), iv (own_at bm p1), iv bc, iv ((own_at bs p1) + (1:Int32))] [(.int (own_at el ((own_at bs p1) + (1:Int32)))), (.ref e3)])) _
          refine XS.iload X726.here hx rfl (hb hby d6_87) rfl ?_
          exact k
        have hbn731 : own_In (own_at el ((own_at bs p1) + (1:Int32))) (bo.set (own_at el (own_at bs p1)).toNatClampNeg bc).length := (by first | exact hm1 hs24_1 hs73_3 | (simp only [List.length_set]; exact hm1 hs24_1 hs73_3))
        obtain ⟨T730, h730, X730, e730, W730, V730, st730⟩ := own_iastore X726 hx hZ e726 Vw720 (j := (own_at el ((own_at bs p1) + (1:Int32)))) (x := bc) hbn731 (g := (mkF m 89 #[rv a0, iv p1, iv (own_at bs p1), iv (own_at bm p1), iv bc, iv ((own_at bs p1) + (1:Int32))] [(.int bc), (.int (own_at el ((own_at bs p1) + (1:Int32)))), (.ref e3)])) rfl rfl (hb hby d6_89)
        have Kp730 : Keep h0 h730 [a0, e3, e4, e5, e6] := Kp720.wr W730 (Or.inl (List.mem_of_getElem? (i := 1) rfl))
        have Z732 : n0 ≤ h730.size := Nat.le_trans Z723 (Nat.le_of_eq W730.size.symm)
        have N730 := Fr.snoc X730 N720 gq_e3
        have Vw730 : own_Ints Z h730 e3 ((bo.set (own_at el (own_at bs p1)).toNatClampNeg bc).set (own_at el ((own_at bs p1) + (1:Int32))).toNatClampNeg bc) := V730
        refine own_pre st730 ?_
        refine own_pre (A := T730.setTop (mkF m 73 #[rv a0, iv p1, iv (own_at bs p1), iv (own_at bm p1), iv bc, iv (((own_at bs p1) + (1:Int32)) + (1:Int32))] [(.int (own_at bm p1)), (.int (((own_at bs p1) + (1:Int32)) + (1:Int32)))])) (fun t k => ?_) ?_
        · show Steps p.tables e below (T730.setTop (mkF m 90 #[rv a0, iv p1, iv (own_at bs p1), iv (own_at bm p1), iv bc, iv ((own_at bs p1) + (1:Int32))] [])) _
          refine XS.iinc X730.here hx rfl (hb hby d6_90) rfl (l' := #[rv a0, iv p1, iv (own_at bs p1), iv (own_at bm p1), iv bc, iv (((own_at bs p1) + (1:Int32)) + (1:Int32))]) rfl ?_
          show Steps p.tables e below (T730.setTop (mkF m 93 #[rv a0, iv p1, iv (own_at bs p1), iv (own_at bm p1), iv bc, iv (((own_at bs p1) + (1:Int32)) + (1:Int32))] [])) _
          refine XS.goto X730.here hx rfl (pc0 := 93) (pc' := 70) rfl (hb hby d6_93) (by decide) (by decide) ?_
          show Steps p.tables e below (T730.setTop (mkF m 70 #[rv a0, iv p1, iv (own_at bs p1), iv (own_at bm p1), iv bc, iv (((own_at bs p1) + (1:Int32)) + (1:Int32))] [])) _
          refine XS.iload X730.here hx rfl (hb hby d6_70) rfl ?_
          show Steps p.tables e below (T730.setTop (mkF m 72 #[rv a0, iv p1, iv (own_at bs p1), iv (own_at bm p1), iv bc, iv (((own_at bs p1) + (1:Int32)) + (1:Int32))] [(.int (((own_at bs p1) + (1:Int32)) + (1:Int32)))])) _
          refine XS.iloadN X730.here hx rfl (hb hby d6_72) rfl ?_
          exact k
        by_cases hs73_4 : (((own_at bs p1) + (1:Int32)) + (1:Int32)) < (own_at bm p1)
        · refine own_pre (A := T730.setTop (mkF m 77 #[rv a0, iv p1, iv (own_at bs p1), iv (own_at bm p1), iv bc, iv (((own_at bs p1) + (1:Int32)) + (1:Int32))] [(.ref a0)])) (fun t k => ?_) ?_
          · show Steps p.tables e below (T730.setTop (mkF m 73 #[rv a0, iv p1, iv (own_at bs p1), iv (own_at bm p1), iv bc, iv (((own_at bs p1) + (1:Int32)) + (1:Int32))] [(.int (own_at bm p1)), (.int (((own_at bs p1) + (1:Int32)) + (1:Int32)))])) _
            refine XS.icmpNo X730.here hx rfl (hb hby d6_73) rfl (XT.ii_ge_f hs73_4) ?_
            show Steps p.tables e below (T730.setTop (mkF m 76 #[rv a0, iv p1, iv (own_at bs p1), iv (own_at bm p1), iv bc, iv (((own_at bs p1) + (1:Int32)) + (1:Int32))] [])) _
            refine XS.aloadN X730.here hx rfl (hb hby d6_76) rfl rfl ?_
            exact k
          have F734 := (F725.other W730 (Or.inl nq_a0_e3))
          obtain ⟨T733, X733, e733, st733⟩ := getF X730 hx hZ hown (host := "") (Or.inl (own_h hw 14 rfl)) Via.refl e730 F734 (g := (mkF m 77 #[rv a0, iv p1, iv (own_at bs p1), iv (own_at bm p1), iv bc, iv (((own_at bs p1) + (1:Int32)) + (1:Int32))] [(.ref a0)])) rfl rfl (hb hby d6_77)
          refine own_pre st733 ?_
          refine own_pre (A := T733.setTop (mkF m 81 #[rv a0, iv p1, iv (own_at bs p1), iv (own_at bm p1), iv bc, iv (((own_at bs p1) + (1:Int32)) + (1:Int32))] [(.ref a0), (.ref e3)])) (fun t k => ?_) ?_
          · show Steps p.tables e below (T733.setTop (mkF m 80 #[rv a0, iv p1, iv (own_at bs p1), iv (own_at bm p1), iv bc, iv (((own_at bs p1) + (1:Int32)) + (1:Int32))] [(.ref e3)])) _
            refine XS.aloadN X733.here hx rfl (hb hby d6_80) rfl rfl ?_
            exact k
          have F736 := (F727.other W730 (Or.inl nq_a0_e3))
          obtain ⟨T735, X735, e735, st735⟩ := getF X733 hx hZ hown (host := "") (Or.inl (own_h hw 10 rfl)) Via.refl e733 F736 (g := (mkF m 81 #[rv a0, iv p1, iv (own_at bs p1), iv (own_at bm p1), iv bc, iv (((own_at bs p1) + (1:Int32)) + (1:Int32))] [(.ref a0), (.ref e3)])) rfl rfl (hb hby d6_81)
          refine own_pre st735 ?_
          have F737 := (F728.other W730 nq_e1_e3)
          have hbn738 : own_In (((own_at bs p1) + (1:Int32)) + (1:Int32)) el.length := hl2 hs24_1 hs73_4
          refine own_pre (A := T735.setTop (mkF m 89 #[rv a0, iv p1, iv (own_at bs p1), iv (own_at bm p1), iv bc, iv (((own_at bs p1) + (1:Int32)) + (1:Int32))] [(.int bc), (.int (own_at el (((own_at bs p1) + (1:Int32)) + (1:Int32)))), (.ref e3)])) (fun t k => ?_) ?_
          · show Steps p.tables e below (T735.setTop (mkF m 84 #[rv a0, iv p1, iv (own_at bs p1), iv (own_at bm p1), iv bc, iv (((own_at bs p1) + (1:Int32)) + (1:Int32))] [(.ref e1), (.ref e3)])) _
            refine XS.iload X735.here hx rfl (hb hby d6_84) rfl ?_
            show Steps p.tables e below (T735.setTop (mkF m 86 #[rv a0, iv p1, iv (own_at bs p1), iv (own_at bm p1), iv bc, iv (((own_at bs p1) + (1:Int32)) + (1:Int32))] [(.int (((own_at bs p1) + (1:Int32)) + (1:Int32))), (.ref e1), (.ref e3)])) _
            refine own_iaload X735 hx hZ e735 F737 hbn738 (g := (mkF m 86 #[rv a0, iv p1, iv (own_at bs p1), iv (own_at bm p1), iv bc, iv (((own_at bs p1) + (1:Int32)) + (1:Int32))] [(.int (((own_at bs p1) + (1:Int32)) + (1:Int32))), (.ref e1), (.ref e3)])) rfl rfl (hb hby d6_86) ?_
            show Steps p.tables e below (T735.setTop (mkF m 87 #[rv a0, iv p1, iv (own_at bs p1), iv (own_at bm p1), iv bc, iv (((own_at bs p1) + (1:Int32)) + (1:Int32))] [(.int (own_at el (((own_at bs p1) + (1:Int32)) + (1:Int32)))), (.ref e3)])) _
            refine XS.iload X735.here hx rfl (hb hby d6_87) rfl ?_
            exact k
          have hbn740 : own_In (own_at el (((own_at bs p1) + (1:Int32)) + (1:Int32))) ((bo.set (own_at el (own_at bs p1)).toNatClampNeg bc).set (own_at el ((own_at bs p1) + (1:Int32))).toNatClampNeg bc).length := (by first | exact hm2 hs24_1 hs73_4 | (simp only [List.length_set]; exact hm2 hs24_1 hs73_4))
          obtain ⟨T739, h739, X739, e739, W739, V739, st739⟩ := own_iastore X735 hx hZ e735 Vw730 (j := (own_at el (((own_at bs p1) + (1:Int32)) + (1:Int32)))) (x := bc) hbn740 (g := (mkF m 89 #[rv a0, iv p1, iv (own_at bs p1), iv (own_at bm p1), iv bc, iv (((own_at bs p1) + (1:Int32)) + (1:Int32))] [(.int bc), (.int (own_at el (((own_at bs p1) + (1:Int32)) + (1:Int32)))), (.ref e3)])) rfl rfl (hb hby d6_89)
          have Kp739 : Keep h0 h739 [a0, e3, e4, e5, e6] := Kp730.wr W739 (Or.inl (List.mem_of_getElem? (i := 1) rfl))
          have Z741 : n0 ≤ h739.size := Nat.le_trans Z732 (Nat.le_of_eq W739.size.symm)
          have N739 := Fr.snoc X739 N730 gq_e3
          have Vw739 : own_Ints Z h739 e3 (((bo.set (own_at el (own_at bs p1)).toNatClampNeg bc).set (own_at el ((own_at bs p1) + (1:Int32))).toNatClampNeg bc).set (own_at el (((own_at bs p1) + (1:Int32)) + (1:Int32))).toNatClampNeg bc) := V739
          refine own_pre st739 ?_
          refine own_pre (A := T739.setTop (mkF m 73 #[rv a0, iv p1, iv (own_at bs p1), iv (own_at bm p1), iv bc, .val (.int ((((own_at bs p1) + (1:Int32)) + (1:Int32)) + (1:Int32)))] [(.int (own_at bm p1)), (.int ((((own_at bs p1) + (1:Int32)) + (1:Int32)) + (1:Int32)))])) (fun t k => ?_) ?_
          · show Steps p.tables e below (T739.setTop (mkF m 90 #[rv a0, iv p1, iv (own_at bs p1), iv (own_at bm p1), iv bc, iv (((own_at bs p1) + (1:Int32)) + (1:Int32))] [])) _
            refine XS.iinc X739.here hx rfl (hb hby d6_90) rfl (l' := #[rv a0, iv p1, iv (own_at bs p1), iv (own_at bm p1), iv bc, .val (.int ((((own_at bs p1) + (1:Int32)) + (1:Int32)) + (1:Int32)))]) rfl ?_
            show Steps p.tables e below (T739.setTop (mkF m 93 #[rv a0, iv p1, iv (own_at bs p1), iv (own_at bm p1), iv bc, .val (.int ((((own_at bs p1) + (1:Int32)) + (1:Int32)) + (1:Int32)))] [])) _
            refine XS.goto X739.here hx rfl (pc0 := 93) (pc' := 70) rfl (hb hby d6_93) (by decide) (by decide) ?_
            show Steps p.tables e below (T739.setTop (mkF m 70 #[rv a0, iv p1, iv (own_at bs p1), iv (own_at bm p1), iv bc, .val (.int ((((own_at bs p1) + (1:Int32)) + (1:Int32)) + (1:Int32)))] [])) _
            refine XS.iload X739.here hx rfl (hb hby d6_70) rfl ?_
            show Steps p.tables e below (T739.setTop (mkF m 72 #[rv a0, iv p1, iv (own_at bs p1), iv (own_at bm p1), iv bc, .val (.int ((((own_at bs p1) + (1:Int32)) + (1:Int32)) + (1:Int32)))] [(.int ((((own_at bs p1) + (1:Int32)) + (1:Int32)) + (1:Int32)))])) _
            refine XS.iloadN X739.here hx rfl (hb hby d6_72) rfl ?_
            exact k
          by_cases hs73_5 : ((((own_at bs p1) + (1:Int32)) + (1:Int32)) + (1:Int32)) < (own_at bm p1)
          · refine own_pre (A := T739.setTop (mkF m 77 #[rv a0, iv p1, iv (own_at bs p1), iv (own_at bm p1), iv bc, .val (.int ((((own_at bs p1) + (1:Int32)) + (1:Int32)) + (1:Int32)))] [(.ref a0)])) (fun t k => ?_) ?_
            · show Steps p.tables e below (T739.setTop (mkF m 73 #[rv a0, iv p1, iv (own_at bs p1), iv (own_at bm p1), iv bc, .val (.int ((((own_at bs p1) + (1:Int32)) + (1:Int32)) + (1:Int32)))] [(.int (own_at bm p1)), (.int ((((own_at bs p1) + (1:Int32)) + (1:Int32)) + (1:Int32)))])) _
              refine XS.icmpNo X739.here hx rfl (hb hby d6_73) rfl (XT.ii_ge_f hs73_5) ?_
              show Steps p.tables e below (T739.setTop (mkF m 76 #[rv a0, iv p1, iv (own_at bs p1), iv (own_at bm p1), iv bc, .val (.int ((((own_at bs p1) + (1:Int32)) + (1:Int32)) + (1:Int32)))] [])) _
              refine XS.aloadN X739.here hx rfl (hb hby d6_76) rfl rfl ?_
              exact k
            have F743 := (F734.other W739 (Or.inl nq_a0_e3))
            obtain ⟨T742, X742, e742, st742⟩ := getF X739 hx hZ hown (host := "") (Or.inl (own_h hw 14 rfl)) Via.refl e739 F743 (g := (mkF m 77 #[rv a0, iv p1, iv (own_at bs p1), iv (own_at bm p1), iv bc, .val (.int ((((own_at bs p1) + (1:Int32)) + (1:Int32)) + (1:Int32)))] [(.ref a0)])) rfl rfl (hb hby d6_77)
            refine own_pre st742 ?_
            refine own_pre (A := T742.setTop (mkF m 81 #[rv a0, iv p1, iv (own_at bs p1), iv (own_at bm p1), iv bc, .val (.int ((((own_at bs p1) + (1:Int32)) + (1:Int32)) + (1:Int32)))] [(.ref a0), (.ref e3)])) (fun t k => ?_) ?_
            · show Steps p.tables e below (T742.setTop (mkF m 80 #[rv a0, iv p1, iv (own_at bs p1), iv (own_at bm p1), iv bc, .val (.int ((((own_at bs p1) + (1:Int32)) + (1:Int32)) + (1:Int32)))] [(.ref e3)])) _
              refine XS.aloadN X742.here hx rfl (hb hby d6_80) rfl rfl ?_
              exact k
            have F745 := (F736.other W739 (Or.inl nq_a0_e3))
            obtain ⟨T744, X744, e744, st744⟩ := getF X742 hx hZ hown (host := "") (Or.inl (own_h hw 10 rfl)) Via.refl e742 F745 (g := (mkF m 81 #[rv a0, iv p1, iv (own_at bs p1), iv (own_at bm p1), iv bc, .val (.int ((((own_at bs p1) + (1:Int32)) + (1:Int32)) + (1:Int32)))] [(.ref a0), (.ref e3)])) rfl rfl (hb hby d6_81)
            refine own_pre st744 ?_
            have F746 := (F737.other W739 nq_e1_e3)
            have hbn747 : own_In ((((own_at bs p1) + (1:Int32)) + (1:Int32)) + (1:Int32)) el.length := hl3 hs24_1 hs73_5
            refine own_pre (A := T744.setTop (mkF m 89 #[rv a0, iv p1, iv (own_at bs p1), iv (own_at bm p1), iv bc, .val (.int ((((own_at bs p1) + (1:Int32)) + (1:Int32)) + (1:Int32)))] [(.int bc), (.int (own_at el ((((own_at bs p1) + (1:Int32)) + (1:Int32)) + (1:Int32)))), (.ref e3)])) (fun t k => ?_) ?_
            · show Steps p.tables e below (T744.setTop (mkF m 84 #[rv a0, iv p1, iv (own_at bs p1), iv (own_at bm p1), iv bc, .val (.int ((((own_at bs p1) + (1:Int32)) + (1:Int32)) + (1:Int32)))] [(.ref e1), (.ref e3)])) _
              refine XS.iload X744.here hx rfl (hb hby d6_84) rfl ?_
              show Steps p.tables e below (T744.setTop (mkF m 86 #[rv a0, iv p1, iv (own_at bs p1), iv (own_at bm p1), iv bc, .val (.int ((((own_at bs p1) + (1:Int32)) + (1:Int32)) + (1:Int32)))] [(.int ((((own_at bs p1) + (1:Int32)) + (1:Int32)) + (1:Int32))), (.ref e1), (.ref e3)])) _
              refine own_iaload X744 hx hZ e744 F746 hbn747 (g := (mkF m 86 #[rv a0, iv p1, iv (own_at bs p1), iv (own_at bm p1), iv bc, .val (.int ((((own_at bs p1) + (1:Int32)) + (1:Int32)) + (1:Int32)))] [(.int ((((own_at bs p1) + (1:Int32)) + (1:Int32)) + (1:Int32))), (.ref e1), (.ref e3)])) rfl rfl (hb hby d6_86) ?_
              show Steps p.tables e below (T744.setTop (mkF m 87 #[rv a0, iv p1, iv (own_at bs p1), iv (own_at bm p1), iv bc, .val (.int ((((own_at bs p1) + (1:Int32)) + (1:Int32)) + (1:Int32)))] [(.int (own_at el ((((own_at bs p1) + (1:Int32)) + (1:Int32)) + (1:Int32)))), (.ref e3)])) _
              refine XS.iload X744.here hx rfl (hb hby d6_87) rfl ?_
              exact k
            have hbn749 : own_In (own_at el ((((own_at bs p1) + (1:Int32)) + (1:Int32)) + (1:Int32))) (((bo.set (own_at el (own_at bs p1)).toNatClampNeg bc).set (own_at el ((own_at bs p1) + (1:Int32))).toNatClampNeg bc).set (own_at el (((own_at bs p1) + (1:Int32)) + (1:Int32))).toNatClampNeg bc).length := (by first | exact hm3 hs24_1 hs73_5 | (simp only [List.length_set]; exact hm3 hs24_1 hs73_5))
            obtain ⟨T748, h748, X748, e748, W748, V748, st748⟩ := own_iastore X744 hx hZ e744 Vw739 (j := (own_at el ((((own_at bs p1) + (1:Int32)) + (1:Int32)) + (1:Int32)))) (x := bc) hbn749 (g := (mkF m 89 #[rv a0, iv p1, iv (own_at bs p1), iv (own_at bm p1), iv bc, .val (.int ((((own_at bs p1) + (1:Int32)) + (1:Int32)) + (1:Int32)))] [(.int bc), (.int (own_at el ((((own_at bs p1) + (1:Int32)) + (1:Int32)) + (1:Int32)))), (.ref e3)])) rfl rfl (hb hby d6_89)
            have Kp748 : Keep h0 h748 [a0, e3, e4, e5, e6] := Kp739.wr W748 (Or.inl (List.mem_of_getElem? (i := 1) rfl))
            have Z750 : n0 ≤ h748.size := Nat.le_trans Z741 (Nat.le_of_eq W748.size.symm)
            have N748 := Fr.snoc X748 N739 gq_e3
            have Vw748 : own_Ints Z h748 e3 ((((bo.set (own_at el (own_at bs p1)).toNatClampNeg bc).set (own_at el ((own_at bs p1) + (1:Int32))).toNatClampNeg bc).set (own_at el (((own_at bs p1) + (1:Int32)) + (1:Int32))).toNatClampNeg bc).set (own_at el ((((own_at bs p1) + (1:Int32)) + (1:Int32)) + (1:Int32))).toNatClampNeg bc) := V748
            refine own_pre st748 ?_
            have hd73_6 : ¬ ((((((own_at bs p1) + (1:Int32)) + (1:Int32)) + (1:Int32)) + (1:Int32)) < (own_at bm p1)) := hend hs24_1
            refine own_pre (A := T748.setTop (mkF m 97 #[rv a0, iv p1, iv (own_at bs p1), iv (own_at bm p1), iv bc, .val (.int (((((own_at bs p1) + (1:Int32)) + (1:Int32)) + (1:Int32)) + (1:Int32)))] [(.ref a0)])) (fun t k => ?_) ?_
            · show Steps p.tables e below (T748.setTop (mkF m 90 #[rv a0, iv p1, iv (own_at bs p1), iv (own_at bm p1), iv bc, .val (.int ((((own_at bs p1) + (1:Int32)) + (1:Int32)) + (1:Int32)))] [])) _
              refine XS.iinc X748.here hx rfl (hb hby d6_90) rfl (l' := #[rv a0, iv p1, iv (own_at bs p1), iv (own_at bm p1), iv bc, .val (.int (((((own_at bs p1) + (1:Int32)) + (1:Int32)) + (1:Int32)) + (1:Int32)))]) rfl ?_
              show Steps p.tables e below (T748.setTop (mkF m 93 #[rv a0, iv p1, iv (own_at bs p1), iv (own_at bm p1), iv bc, .val (.int (((((own_at bs p1) + (1:Int32)) + (1:Int32)) + (1:Int32)) + (1:Int32)))] [])) _
              refine XS.goto X748.here hx rfl (pc0 := 93) (pc' := 70) rfl (hb hby d6_93) (by decide) (by decide) ?_
              show Steps p.tables e below (T748.setTop (mkF m 70 #[rv a0, iv p1, iv (own_at bs p1), iv (own_at bm p1), iv bc, .val (.int (((((own_at bs p1) + (1:Int32)) + (1:Int32)) + (1:Int32)) + (1:Int32)))] [])) _
              refine XS.iload X748.here hx rfl (hb hby d6_70) rfl ?_
              show Steps p.tables e below (T748.setTop (mkF m 72 #[rv a0, iv p1, iv (own_at bs p1), iv (own_at bm p1), iv bc, .val (.int (((((own_at bs p1) + (1:Int32)) + (1:Int32)) + (1:Int32)) + (1:Int32)))] [(.int (((((own_at bs p1) + (1:Int32)) + (1:Int32)) + (1:Int32)) + (1:Int32)))])) _
              refine XS.iloadN X748.here hx rfl (hb hby d6_72) rfl ?_
              show Steps p.tables e below (T748.setTop (mkF m 73 #[rv a0, iv p1, iv (own_at bs p1), iv (own_at bm p1), iv bc, .val (.int (((((own_at bs p1) + (1:Int32)) + (1:Int32)) + (1:Int32)) + (1:Int32)))] [(.int (own_at bm p1)), (.int (((((own_at bs p1) + (1:Int32)) + (1:Int32)) + (1:Int32)) + (1:Int32)))])) _
              refine XS.icmpYes X748.here hx rfl (pc0 := 73) (pc' := 96) rfl (hb hby d6_73) rfl (XT.ii_ge_t hd73_6) (by decide) (by decide) ?_
              show Steps p.tables e below (T748.setTop (mkF m 96 #[rv a0, iv p1, iv (own_at bs p1), iv (own_at bm p1), iv bc, .val (.int (((((own_at bs p1) + (1:Int32)) + (1:Int32)) + (1:Int32)) + (1:Int32)))] [])) _
              refine XS.aloadN X748.here hx rfl (hb hby d6_96) rfl rfl ?_
              exact k
            have F752 := (((((((F697.other W698 (Or.inl nq_a0_e4)).other W704 (Or.inl nq_a0_e5)).other W710 (Or.inl nq_a0_e6)).other W720 (Or.inl nq_a0_e3)).other W730 (Or.inl nq_a0_e3)).other W739 (Or.inl nq_a0_e3)).other W748 (Or.inl nq_a0_e3))
            obtain ⟨T751, X751, e751, st751⟩ := getF X748 hx hZ hown (host := "") (Or.inl (own_h hw 16 rfl)) Via.refl e748 F752 (g := (mkF m 97 #[rv a0, iv p1, iv (own_at bs p1), iv (own_at bm p1), iv bc, .val (.int (((((own_at bs p1) + (1:Int32)) + (1:Int32)) + (1:Int32)) + (1:Int32)))] [(.ref a0)])) rfl rfl (hb hby d6_97)
            refine own_pre st751 ?_
            refine own_pre (A := T751.setTop (mkF m 102 #[rv a0, iv p1, iv (own_at bs p1), iv (own_at bm p1), iv bc, .val (.int (((((own_at bs p1) + (1:Int32)) + (1:Int32)) + (1:Int32)) + (1:Int32)))] [(.int (own_at bm p1)), (.int p1), (.ref e4)])) (fun t k => ?_) ?_
            · show Steps p.tables e below (T751.setTop (mkF m 100 #[rv a0, iv p1, iv (own_at bs p1), iv (own_at bm p1), iv bc, .val (.int (((((own_at bs p1) + (1:Int32)) + (1:Int32)) + (1:Int32)) + (1:Int32)))] [(.ref e4)])) _
              refine XS.iloadN X751.here hx rfl (hb hby d6_100) rfl ?_
              show Steps p.tables e below (T751.setTop (mkF m 101 #[rv a0, iv p1, iv (own_at bs p1), iv (own_at bm p1), iv bc, .val (.int (((((own_at bs p1) + (1:Int32)) + (1:Int32)) + (1:Int32)) + (1:Int32)))] [(.int p1), (.ref e4)])) _
              refine XS.iloadN X751.here hx rfl (hb hby d6_101) rfl ?_
              exact k
            have F754 := ((((((Vw698.other W704 nq_e4_e5).other W710 nq_e4_e6).other W720 (Ne.symm nq_e3_e4)).other W730 (Ne.symm nq_e3_e4)).other W739 (Ne.symm nq_e3_e4)).other W748 (Ne.symm nq_e3_e4))
            have hbn755 : own_In p1 (bs.set bc.toNatClampNeg (own_at bs p1)).length := (by first | exact hb1 | (simp only [List.length_set]; exact hb1))
            obtain ⟨T753, h753, X753, e753, W753, V753, st753⟩ := own_iastore X751 hx hZ e751 F754 (j := p1) (x := (own_at bm p1)) hbn755 (g := (mkF m 102 #[rv a0, iv p1, iv (own_at bs p1), iv (own_at bm p1), iv bc, .val (.int (((((own_at bs p1) + (1:Int32)) + (1:Int32)) + (1:Int32)) + (1:Int32)))] [(.int (own_at bm p1)), (.int p1), (.ref e4)])) rfl rfl (hb hby d6_102)
            have Kp753 : Keep h0 h753 [a0, e3, e4, e5, e6] := Kp748.wr W753 (Or.inl (List.mem_of_getElem? (i := 2) rfl))
            have Z756 : n0 ≤ h753.size := Nat.le_trans Z750 (Nat.le_of_eq W753.size.symm)
            have N753 := Fr.snoc X753 N748 gq_e4
            have Vw753 : own_Ints Z h753 e4 ((bs.set bc.toNatClampNeg (own_at bs p1)).set p1.toNatClampNeg (own_at bm p1)) := V753
            refine own_pre st753 ?_
            refine own_pre (A := T753.setTop (mkF m 104 #[rv a0, iv p1, iv (own_at bs p1), iv (own_at bm p1), iv bc, .val (.int (((((own_at bs p1) + (1:Int32)) + (1:Int32)) + (1:Int32)) + (1:Int32)))] [(.ref a0)])) (fun t k => ?_) ?_
            · show Steps p.tables e below (T753.setTop (mkF m 103 #[rv a0, iv p1, iv (own_at bs p1), iv (own_at bm p1), iv bc, .val (.int (((((own_at bs p1) + (1:Int32)) + (1:Int32)) + (1:Int32)) + (1:Int32)))] [])) _
              refine XS.aloadN X753.here hx rfl (hb hby d6_103) rfl rfl ?_
              exact k
            have F758 := ((((((F709.other W710 (Or.inl nq_a0_e6)).other W720 (Or.inl nq_a0_e3)).other W730 (Or.inl nq_a0_e3)).other W739 (Or.inl nq_a0_e3)).other W748 (Or.inl nq_a0_e3)).other W753 (Or.inl nq_a0_e4))
            obtain ⟨T757, X757, e757, st757⟩ := getF X753 hx hZ hown (host := "") (Or.inl (own_h hw 20 rfl)) Via.refl e753 F758 (g := (mkF m 104 #[rv a0, iv p1, iv (own_at bs p1), iv (own_at bm p1), iv bc, .val (.int (((((own_at bs p1) + (1:Int32)) + (1:Int32)) + (1:Int32)) + (1:Int32)))] [(.ref a0)])) rfl rfl (hb hby d6_104)
            refine own_pre st757 ?_
            refine own_pre (A := T757.setTop (mkF m 109 #[rv a0, iv p1, iv (own_at bs p1), iv (own_at bm p1), iv bc, .val (.int (((((own_at bs p1) + (1:Int32)) + (1:Int32)) + (1:Int32)) + (1:Int32)))] [(.ref a0), (.int p1), (.ref e6)])) (fun t k => ?_) ?_
            · show Steps p.tables e below (T757.setTop (mkF m 107 #[rv a0, iv p1, iv (own_at bs p1), iv (own_at bm p1), iv bc, .val (.int (((((own_at bs p1) + (1:Int32)) + (1:Int32)) + (1:Int32)) + (1:Int32)))] [(.ref e6)])) _
              refine XS.iloadN X757.here hx rfl (hb hby d6_107) rfl ?_
              show Steps p.tables e below (T757.setTop (mkF m 108 #[rv a0, iv p1, iv (own_at bs p1), iv (own_at bm p1), iv bc, .val (.int (((((own_at bs p1) + (1:Int32)) + (1:Int32)) + (1:Int32)) + (1:Int32)))] [(.int p1), (.ref e6)])) _
              refine XS.aloadN X757.here hx rfl (hb hby d6_108) rfl rfl ?_
              exact k
            have F760 := (F752.other W753 (Or.inl nq_a0_e4))
            obtain ⟨T759, X759, e759, st759⟩ := getF X757 hx hZ hown (host := "") (Or.inl (own_h hw 16 rfl)) Via.refl e757 F760 (g := (mkF m 109 #[rv a0, iv p1, iv (own_at bs p1), iv (own_at bm p1), iv bc, .val (.int (((((own_at bs p1) + (1:Int32)) + (1:Int32)) + (1:Int32)) + (1:Int32)))] [(.ref a0), (.int p1), (.ref e6)])) rfl rfl (hb hby d6_109)
            refine own_pre st759 ?_
            have hbn761 : own_In p1 ((bs.set bc.toNatClampNeg (own_at bs p1)).set p1.toNatClampNeg (own_at bm p1)).length := (by first | exact hb1 | (simp only [List.length_set]; exact hb1))
            refine own_pre (A := T759.setTop (mkF m 114 #[rv a0, iv p1, iv (own_at bs p1), iv (own_at bm p1), iv bc, .val (.int (((((own_at bs p1) + (1:Int32)) + (1:Int32)) + (1:Int32)) + (1:Int32)))] [(.int (own_at ((bs.set bc.toNatClampNeg (own_at bs p1)).set p1.toNatClampNeg (own_at bm p1)) p1)), (.int p1), (.ref e6)])) (fun t k => ?_) ?_
            · show Steps p.tables e below (T759.setTop (mkF m 112 #[rv a0, iv p1, iv (own_at bs p1), iv (own_at bm p1), iv bc, .val (.int (((((own_at bs p1) + (1:Int32)) + (1:Int32)) + (1:Int32)) + (1:Int32)))] [(.ref e4), (.int p1), (.ref e6)])) _
              refine XS.iloadN X759.here hx rfl (hb hby d6_112) rfl ?_
              show Steps p.tables e below (T759.setTop (mkF m 113 #[rv a0, iv p1, iv (own_at bs p1), iv (own_at bm p1), iv bc, .val (.int (((((own_at bs p1) + (1:Int32)) + (1:Int32)) + (1:Int32)) + (1:Int32)))] [(.int p1), (.ref e4), (.int p1), (.ref e6)])) _
              refine own_iaload X759 hx hZ e759 Vw753 hbn761 (g := (mkF m 113 #[rv a0, iv p1, iv (own_at bs p1), iv (own_at bm p1), iv bc, .val (.int (((((own_at bs p1) + (1:Int32)) + (1:Int32)) + (1:Int32)) + (1:Int32)))] [(.int p1), (.ref e4), (.int p1), (.ref e6)])) rfl rfl (hb hby d6_113) ?_
              exact k
            have F763 := (((((Vw710.other W720 (Ne.symm nq_e3_e6)).other W730 (Ne.symm nq_e3_e6)).other W739 (Ne.symm nq_e3_e6)).other W748 (Ne.symm nq_e3_e6)).other W753 (Ne.symm nq_e4_e6))
            have hbn764 : own_In p1 (bm.set bc.toNatClampNeg (own_at bs p1)).length := (by first | exact hb2 | (simp only [List.length_set]; exact hb2))
            obtain ⟨T762, h762, X762, e762, W762, V762, st762⟩ := own_iastore X759 hx hZ e759 F763 (j := p1) (x := (own_at ((bs.set bc.toNatClampNeg (own_at bs p1)).set p1.toNatClampNeg (own_at bm p1)) p1)) hbn764 (g := (mkF m 114 #[rv a0, iv p1, iv (own_at bs p1), iv (own_at bm p1), iv bc, .val (.int (((((own_at bs p1) + (1:Int32)) + (1:Int32)) + (1:Int32)) + (1:Int32)))] [(.int (own_at ((bs.set bc.toNatClampNeg (own_at bs p1)).set p1.toNatClampNeg (own_at bm p1)) p1)), (.int p1), (.ref e6)])) rfl rfl (hb hby d6_114)
            have Kp762 : Keep h0 h762 [a0, e3, e4, e5, e6] := Kp753.wr W762 (Or.inl (List.mem_of_getElem? (i := 4) rfl))
            have Z765 : n0 ≤ h762.size := Nat.le_trans Z756 (Nat.le_of_eq W762.size.symm)
            have N762 := Fr.snoc X762 N753 gq_e6
            have Vw762 : own_Ints Z h762 e6 ((bm.set bc.toNatClampNeg (own_at bs p1)).set p1.toNatClampNeg (own_at ((bs.set bc.toNatClampNeg (own_at bs p1)).set p1.toNatClampNeg (own_at bm p1)) p1)) := V762
            refine own_pre st762 ?_
            refine own_pre (A := T762.setTop (mkF m 117 #[rv a0, iv p1, iv (own_at bs p1), iv (own_at bm p1), iv bc, .val (.int (((((own_at bs p1) + (1:Int32)) + (1:Int32)) + (1:Int32)) + (1:Int32)))] [(.int bc)])) (fun t k => ?_) ?_
            · show Steps p.tables e below (T762.setTop (mkF m 115 #[rv a0, iv p1, iv (own_at bs p1), iv (own_at bm p1), iv bc, .val (.int (((((own_at bs p1) + (1:Int32)) + (1:Int32)) + (1:Int32)) + (1:Int32)))] [])) _
              refine XS.iload X762.here hx rfl (hb hby d6_115) rfl ?_
              exact k
            have hv766 : bc = f6 p1 el bo bs be bm bc tc := by simp only [f6, if_pos hs24_1, if_pos hs73_2, if_pos hs73_3, if_pos hs73_4, if_pos hs73_5]
            have F767 := (((F745.other W748 (Or.inl nq_a0_e3)).other W753 (Or.inl nq_a0_e4)).other W762 (Or.inl nq_a0_e6))
            have F768 := ((((((((((P2.other W694 (Or.inr (slot_ne (Or.inr (own_h hw 13 rfl)) (Or.inl (own_h hw 25 rfl)) (by decide) (t := (.array .int)) (t' := .int) (by decide) (by decide)))).other W698 (Or.inl nq_a0_e4)).other W704 (Or.inl nq_a0_e5)).other W710 (Or.inl nq_a0_e6)).other W720 (Or.inl nq_a0_e3)).other W730 (Or.inl nq_a0_e3)).other W739 (Or.inl nq_a0_e3)).other W748 (Or.inl nq_a0_e3)).other W753 (Or.inl nq_a0_e4)).other W762 (Or.inl nq_a0_e6))
            have F769 := (((F743.other W748 (Or.inl nq_a0_e3)).other W753 (Or.inl nq_a0_e4)).other W762 (Or.inl nq_a0_e6))
            have F770 := (F760.other W762 (Or.inl nq_a0_e6))
            have F771 := ((((((((F703.other W704 (Or.inl nq_a0_e5)).other W710 (Or.inl nq_a0_e6)).other W720 (Or.inl nq_a0_e3)).other W730 (Or.inl nq_a0_e3)).other W739 (Or.inl nq_a0_e3)).other W748 (Or.inl nq_a0_e3)).other W753 (Or.inl nq_a0_e4)).other W762 (Or.inl nq_a0_e6))
            have F772 := (F758.other W762 (Or.inl nq_a0_e6))
            have F773 := ((((((((((P7.other W694 (Or.inr (slot_ne (Or.inr (own_h hw 23 rfl)) (Or.inl (own_h hw 25 rfl)) (by decide) (t := (.array .int)) (t' := .int) (by decide) (by decide)))).other W698 (Or.inl nq_a0_e4)).other W704 (Or.inl nq_a0_e5)).other W710 (Or.inl nq_a0_e6)).other W720 (Or.inl nq_a0_e3)).other W730 (Or.inl nq_a0_e3)).other W739 (Or.inl nq_a0_e3)).other W748 (Or.inl nq_a0_e3)).other W753 (Or.inl nq_a0_e4)).other W762 (Or.inl nq_a0_e6))
            have F774 := (((((((((Fw694.other W698 (Or.inl nq_a0_e4)).other W704 (Or.inl nq_a0_e5)).other W710 (Or.inl nq_a0_e6)).other W720 (Or.inl nq_a0_e3)).other W730 (Or.inl nq_a0_e3)).other W739 (Or.inl nq_a0_e3)).other W748 (Or.inl nq_a0_e3)).other W753 (Or.inl nq_a0_e4)).other W762 (Or.inl nq_a0_e6))
            have F775 := ((((((((((P9.other W694 (Or.inr (slot_ne (Or.inl (own_h hw 39 rfl)) (Or.inl (own_h hw 25 rfl)) (by decide) (t := .int) (t' := .int) (by decide) (by decide)))).other W698 (Or.inl nq_a0_e4)).other W704 (Or.inl nq_a0_e5)).other W710 (Or.inl nq_a0_e6)).other W720 (Or.inl nq_a0_e3)).other W730 (Or.inl nq_a0_e3)).other W739 (Or.inl nq_a0_e3)).other W748 (Or.inl nq_a0_e3)).other W753 (Or.inl nq_a0_e4)).other W762 (Or.inl nq_a0_e6))
            have F776 := ((Vw748.other W753 nq_e3_e4).other W762 nq_e3_e6)
            have F777 := (Vw753.other W762 nq_e4_e6)
            have F778 := (((((((Vw704.other W710 nq_e5_e6).other W720 (Ne.symm nq_e3_e5)).other W730 (Ne.symm nq_e3_e5)).other W739 (Ne.symm nq_e3_e5)).other W748 (Ne.symm nq_e3_e5)).other W753 (Ne.symm nq_e4_e5)).other W762 nq_e5_e6)
            exact own_end X762 (BodyLoose.notSynchronized Bd) (fun h => by rw [Bd.returns] at h; cases h) (v := some (.int bc)) (fun fs hr => retOut X762 hx Bd.returns rfl (by simp [Value.isRef, FieldType.isReference]) (hb hby d6_117) hr) (by show Q6 Z a0 p1 e1 e2 e3 e4 e5 e6 e7 el bo bs be bm bc tc h0 n0 _ T762.heap _; rw [e762]; exact ⟨(congrArg (fun z => some (Value.int z)) hv766), N762, Kp762, (by first | exact F767 | (simp only [if_pos hs24_1, if_pos hs73_2, if_pos hs73_3, if_pos hs73_4, if_pos hs73_5]; exact F767)), (by first | exact F768 | (simp only [if_pos hs24_1, if_pos hs73_2, if_pos hs73_3, if_pos hs73_4, if_pos hs73_5]; exact F768)), (by first | exact F769 | (simp only [if_pos hs24_1, if_pos hs73_2, if_pos hs73_3, if_pos hs73_4, if_pos hs73_5]; exact F769)), (by first | exact F770 | (simp only [if_pos hs24_1, if_pos hs73_2, if_pos hs73_3, if_pos hs73_4, if_pos hs73_5]; exact F770)), (by first | exact F771 | (simp only [if_pos hs24_1, if_pos hs73_2, if_pos hs73_3, if_pos hs73_4, if_pos hs73_5]; exact F771)), (by first | exact F772 | (simp only [if_pos hs24_1, if_pos hs73_2, if_pos hs73_3, if_pos hs73_4, if_pos hs73_5]; exact F772)), (by first | exact F773 | (simp only [if_pos hs24_1, if_pos hs73_2, if_pos hs73_3, if_pos hs73_4, if_pos hs73_5]; exact F773)), (by simp only [g6_bc, if_pos hs24_1, if_pos hs73_2, if_pos hs73_3, if_pos hs73_4, if_pos hs73_5]; exact F774), (by first | exact F775 | (simp only [if_pos hs24_1, if_pos hs73_2, if_pos hs73_3, if_pos hs73_4, if_pos hs73_5]; exact F775)), (by simp only [g6_bo, if_pos hs24_1, if_pos hs73_2, if_pos hs73_3, if_pos hs73_4, if_pos hs73_5]; exact F776), (by simp only [g6_bs, if_pos hs24_1, if_pos hs73_2, if_pos hs73_3, if_pos hs73_4, if_pos hs73_5]; exact F777), (by simp only [g6_be, if_pos hs24_1, if_pos hs73_2, if_pos hs73_3, if_pos hs73_4, if_pos hs73_5]; exact F778), (by simp only [g6_bm, if_pos hs24_1, if_pos hs73_2, if_pos hs73_3, if_pos hs73_4, if_pos hs73_5]; exact Vw762)⟩) (by decide) (by decide)
          · refine own_pre (A := T739.setTop (mkF m 97 #[rv a0, iv p1, iv (own_at bs p1), iv (own_at bm p1), iv bc, .val (.int ((((own_at bs p1) + (1:Int32)) + (1:Int32)) + (1:Int32)))] [(.ref a0)])) (fun t k => ?_) ?_
            · show Steps p.tables e below (T739.setTop (mkF m 73 #[rv a0, iv p1, iv (own_at bs p1), iv (own_at bm p1), iv bc, .val (.int ((((own_at bs p1) + (1:Int32)) + (1:Int32)) + (1:Int32)))] [(.int (own_at bm p1)), (.int ((((own_at bs p1) + (1:Int32)) + (1:Int32)) + (1:Int32)))])) _
              refine XS.icmpYes X739.here hx rfl (pc0 := 73) (pc' := 96) rfl (hb hby d6_73) rfl (XT.ii_ge_t hs73_5) (by decide) (by decide) ?_
              show Steps p.tables e below (T739.setTop (mkF m 96 #[rv a0, iv p1, iv (own_at bs p1), iv (own_at bm p1), iv bc, .val (.int ((((own_at bs p1) + (1:Int32)) + (1:Int32)) + (1:Int32)))] [])) _
              refine XS.aloadN X739.here hx rfl (hb hby d6_96) rfl rfl ?_
              exact k
            have F780 := ((((((F697.other W698 (Or.inl nq_a0_e4)).other W704 (Or.inl nq_a0_e5)).other W710 (Or.inl nq_a0_e6)).other W720 (Or.inl nq_a0_e3)).other W730 (Or.inl nq_a0_e3)).other W739 (Or.inl nq_a0_e3))
            obtain ⟨T779, X779, e779, st779⟩ := getF X739 hx hZ hown (host := "") (Or.inl (own_h hw 16 rfl)) Via.refl e739 F780 (g := (mkF m 97 #[rv a0, iv p1, iv (own_at bs p1), iv (own_at bm p1), iv bc, .val (.int ((((own_at bs p1) + (1:Int32)) + (1:Int32)) + (1:Int32)))] [(.ref a0)])) rfl rfl (hb hby d6_97)
            refine own_pre st779 ?_
            refine own_pre (A := T779.setTop (mkF m 102 #[rv a0, iv p1, iv (own_at bs p1), iv (own_at bm p1), iv bc, .val (.int ((((own_at bs p1) + (1:Int32)) + (1:Int32)) + (1:Int32)))] [(.int (own_at bm p1)), (.int p1), (.ref e4)])) (fun t k => ?_) ?_
            · show Steps p.tables e below (T779.setTop (mkF m 100 #[rv a0, iv p1, iv (own_at bs p1), iv (own_at bm p1), iv bc, .val (.int ((((own_at bs p1) + (1:Int32)) + (1:Int32)) + (1:Int32)))] [(.ref e4)])) _
              refine XS.iloadN X779.here hx rfl (hb hby d6_100) rfl ?_
              show Steps p.tables e below (T779.setTop (mkF m 101 #[rv a0, iv p1, iv (own_at bs p1), iv (own_at bm p1), iv bc, .val (.int ((((own_at bs p1) + (1:Int32)) + (1:Int32)) + (1:Int32)))] [(.int p1), (.ref e4)])) _
              refine XS.iloadN X779.here hx rfl (hb hby d6_101) rfl ?_
              exact k
            have F782 := (((((Vw698.other W704 nq_e4_e5).other W710 nq_e4_e6).other W720 (Ne.symm nq_e3_e4)).other W730 (Ne.symm nq_e3_e4)).other W739 (Ne.symm nq_e3_e4))
            have hbn783 : own_In p1 (bs.set bc.toNatClampNeg (own_at bs p1)).length := (by first | exact hb1 | (simp only [List.length_set]; exact hb1))
            obtain ⟨T781, h781, X781, e781, W781, V781, st781⟩ := own_iastore X779 hx hZ e779 F782 (j := p1) (x := (own_at bm p1)) hbn783 (g := (mkF m 102 #[rv a0, iv p1, iv (own_at bs p1), iv (own_at bm p1), iv bc, .val (.int ((((own_at bs p1) + (1:Int32)) + (1:Int32)) + (1:Int32)))] [(.int (own_at bm p1)), (.int p1), (.ref e4)])) rfl rfl (hb hby d6_102)
            have Kp781 : Keep h0 h781 [a0, e3, e4, e5, e6] := Kp739.wr W781 (Or.inl (List.mem_of_getElem? (i := 2) rfl))
            have Z784 : n0 ≤ h781.size := Nat.le_trans Z741 (Nat.le_of_eq W781.size.symm)
            have N781 := Fr.snoc X781 N739 gq_e4
            have Vw781 : own_Ints Z h781 e4 ((bs.set bc.toNatClampNeg (own_at bs p1)).set p1.toNatClampNeg (own_at bm p1)) := V781
            refine own_pre st781 ?_
            refine own_pre (A := T781.setTop (mkF m 104 #[rv a0, iv p1, iv (own_at bs p1), iv (own_at bm p1), iv bc, .val (.int ((((own_at bs p1) + (1:Int32)) + (1:Int32)) + (1:Int32)))] [(.ref a0)])) (fun t k => ?_) ?_
            · show Steps p.tables e below (T781.setTop (mkF m 103 #[rv a0, iv p1, iv (own_at bs p1), iv (own_at bm p1), iv bc, .val (.int ((((own_at bs p1) + (1:Int32)) + (1:Int32)) + (1:Int32)))] [])) _
              refine XS.aloadN X781.here hx rfl (hb hby d6_103) rfl rfl ?_
              exact k
            have F786 := (((((F709.other W710 (Or.inl nq_a0_e6)).other W720 (Or.inl nq_a0_e3)).other W730 (Or.inl nq_a0_e3)).other W739 (Or.inl nq_a0_e3)).other W781 (Or.inl nq_a0_e4))
            obtain ⟨T785, X785, e785, st785⟩ := getF X781 hx hZ hown (host := "") (Or.inl (own_h hw 20 rfl)) Via.refl e781 F786 (g := (mkF m 104 #[rv a0, iv p1, iv (own_at bs p1), iv (own_at bm p1), iv bc, .val (.int ((((own_at bs p1) + (1:Int32)) + (1:Int32)) + (1:Int32)))] [(.ref a0)])) rfl rfl (hb hby d6_104)
            refine own_pre st785 ?_
            refine own_pre (A := T785.setTop (mkF m 109 #[rv a0, iv p1, iv (own_at bs p1), iv (own_at bm p1), iv bc, .val (.int ((((own_at bs p1) + (1:Int32)) + (1:Int32)) + (1:Int32)))] [(.ref a0), (.int p1), (.ref e6)])) (fun t k => ?_) ?_
            · show Steps p.tables e below (T785.setTop (mkF m 107 #[rv a0, iv p1, iv (own_at bs p1), iv (own_at bm p1), iv bc, .val (.int ((((own_at bs p1) + (1:Int32)) + (1:Int32)) + (1:Int32)))] [(.ref e6)])) _
              refine XS.iloadN X785.here hx rfl (hb hby d6_107) rfl ?_
              show Steps p.tables e below (T785.setTop (mkF m 108 #[rv a0, iv p1, iv (own_at bs p1), iv (own_at bm p1), iv bc, .val (.int ((((own_at bs p1) + (1:Int32)) + (1:Int32)) + (1:Int32)))] [(.int p1), (.ref e6)])) _
              refine XS.aloadN X785.here hx rfl (hb hby d6_108) rfl rfl ?_
              exact k
            have F788 := (F780.other W781 (Or.inl nq_a0_e4))
            obtain ⟨T787, X787, e787, st787⟩ := getF X785 hx hZ hown (host := "") (Or.inl (own_h hw 16 rfl)) Via.refl e785 F788 (g := (mkF m 109 #[rv a0, iv p1, iv (own_at bs p1), iv (own_at bm p1), iv bc, .val (.int ((((own_at bs p1) + (1:Int32)) + (1:Int32)) + (1:Int32)))] [(.ref a0), (.int p1), (.ref e6)])) rfl rfl (hb hby d6_109)
            refine own_pre st787 ?_
            have hbn789 : own_In p1 ((bs.set bc.toNatClampNeg (own_at bs p1)).set p1.toNatClampNeg (own_at bm p1)).length := (by first | exact hb1 | (simp only [List.length_set]; exact hb1))
            refine own_pre (A := T787.setTop (mkF m 114 #[rv a0, iv p1, iv (own_at bs p1), iv (own_at bm p1), iv bc, .val (.int ((((own_at bs p1) + (1:Int32)) + (1:Int32)) + (1:Int32)))] [(.int (own_at ((bs.set bc.toNatClampNeg (own_at bs p1)).set p1.toNatClampNeg (own_at bm p1)) p1)), (.int p1), (.ref e6)])) (fun t k => ?_) ?_
            · show Steps p.tables e below (T787.setTop (mkF m 112 #[rv a0, iv p1, iv (own_at bs p1), iv (own_at bm p1), iv bc, .val (.int ((((own_at bs p1) + (1:Int32)) + (1:Int32)) + (1:Int32)))] [(.ref e4), (.int p1), (.ref e6)])) _
              refine XS.iloadN X787.here hx rfl (hb hby d6_112) rfl ?_
              show Steps p.tables e below (T787.setTop (mkF m 113 #[rv a0, iv p1, iv (own_at bs p1), iv (own_at bm p1), iv bc, .val (.int ((((own_at bs p1) + (1:Int32)) + (1:Int32)) + (1:Int32)))] [(.int p1), (.ref e4), (.int p1), (.ref e6)])) _
              refine own_iaload X787 hx hZ e787 Vw781 hbn789 (g := (mkF m 113 #[rv a0, iv p1, iv (own_at bs p1), iv (own_at bm p1), iv bc, .val (.int ((((own_at bs p1) + (1:Int32)) + (1:Int32)) + (1:Int32)))] [(.int p1), (.ref e4), (.int p1), (.ref e6)])) rfl rfl (hb hby d6_113) ?_
              exact k
            have F791 := ((((Vw710.other W720 (Ne.symm nq_e3_e6)).other W730 (Ne.symm nq_e3_e6)).other W739 (Ne.symm nq_e3_e6)).other W781 (Ne.symm nq_e4_e6))
            have hbn792 : own_In p1 (bm.set bc.toNatClampNeg (own_at bs p1)).length := (by first | exact hb2 | (simp only [List.length_set]; exact hb2))
            obtain ⟨T790, h790, X790, e790, W790, V790, st790⟩ := own_iastore X787 hx hZ e787 F791 (j := p1) (x := (own_at ((bs.set bc.toNatClampNeg (own_at bs p1)).set p1.toNatClampNeg (own_at bm p1)) p1)) hbn792 (g := (mkF m 114 #[rv a0, iv p1, iv (own_at bs p1), iv (own_at bm p1), iv bc, .val (.int ((((own_at bs p1) + (1:Int32)) + (1:Int32)) + (1:Int32)))] [(.int (own_at ((bs.set bc.toNatClampNeg (own_at bs p1)).set p1.toNatClampNeg (own_at bm p1)) p1)), (.int p1), (.ref e6)])) rfl rfl (hb hby d6_114)
            have Kp790 : Keep h0 h790 [a0, e3, e4, e5, e6] := Kp781.wr W790 (Or.inl (List.mem_of_getElem? (i := 4) rfl))
            have Z793 : n0 ≤ h790.size := Nat.le_trans Z784 (Nat.le_of_eq W790.size.symm)
            have N790 := Fr.snoc X790 N781 gq_e6
            have Vw790 : own_Ints Z h790 e6 ((bm.set bc.toNatClampNeg (own_at bs p1)).set p1.toNatClampNeg (own_at ((bs.set bc.toNatClampNeg (own_at bs p1)).set p1.toNatClampNeg (own_at bm p1)) p1)) := V790
            refine own_pre st790 ?_
            refine own_pre (A := T790.setTop (mkF m 117 #[rv a0, iv p1, iv (own_at bs p1), iv (own_at bm p1), iv bc, .val (.int ((((own_at bs p1) + (1:Int32)) + (1:Int32)) + (1:Int32)))] [(.int bc)])) (fun t k => ?_) ?_
            · show Steps p.tables e below (T790.setTop (mkF m 115 #[rv a0, iv p1, iv (own_at bs p1), iv (own_at bm p1), iv bc, .val (.int ((((own_at bs p1) + (1:Int32)) + (1:Int32)) + (1:Int32)))] [])) _
              refine XS.iload X790.here hx rfl (hb hby d6_115) rfl ?_
              exact k
            have hv794 : bc = f6 p1 el bo bs be bm bc tc := by simp only [f6, if_pos hs24_1, if_pos hs73_2, if_pos hs73_3, if_pos hs73_4, if_neg hs73_5]
            have F795 := (((F736.other W739 (Or.inl nq_a0_e3)).other W781 (Or.inl nq_a0_e4)).other W790 (Or.inl nq_a0_e6))
            have F796 := (((((((((P2.other W694 (Or.inr (slot_ne (Or.inr (own_h hw 13 rfl)) (Or.inl (own_h hw 25 rfl)) (by decide) (t := (.array .int)) (t' := .int) (by decide) (by decide)))).other W698 (Or.inl nq_a0_e4)).other W704 (Or.inl nq_a0_e5)).other W710 (Or.inl nq_a0_e6)).other W720 (Or.inl nq_a0_e3)).other W730 (Or.inl nq_a0_e3)).other W739 (Or.inl nq_a0_e3)).other W781 (Or.inl nq_a0_e4)).other W790 (Or.inl nq_a0_e6))
            have F797 := (((F734.other W739 (Or.inl nq_a0_e3)).other W781 (Or.inl nq_a0_e4)).other W790 (Or.inl nq_a0_e6))
            have F798 := (F788.other W790 (Or.inl nq_a0_e6))
            have F799 := (((((((F703.other W704 (Or.inl nq_a0_e5)).other W710 (Or.inl nq_a0_e6)).other W720 (Or.inl nq_a0_e3)).other W730 (Or.inl nq_a0_e3)).other W739 (Or.inl nq_a0_e3)).other W781 (Or.inl nq_a0_e4)).other W790 (Or.inl nq_a0_e6))
            have F800 := (F786.other W790 (Or.inl nq_a0_e6))
            have F801 := (((((((((P7.other W694 (Or.inr (slot_ne (Or.inr (own_h hw 23 rfl)) (Or.inl (own_h hw 25 rfl)) (by decide) (t := (.array .int)) (t' := .int) (by decide) (by decide)))).other W698 (Or.inl nq_a0_e4)).other W704 (Or.inl nq_a0_e5)).other W710 (Or.inl nq_a0_e6)).other W720 (Or.inl nq_a0_e3)).other W730 (Or.inl nq_a0_e3)).other W739 (Or.inl nq_a0_e3)).other W781 (Or.inl nq_a0_e4)).other W790 (Or.inl nq_a0_e6))
            have F802 := ((((((((Fw694.other W698 (Or.inl nq_a0_e4)).other W704 (Or.inl nq_a0_e5)).other W710 (Or.inl nq_a0_e6)).other W720 (Or.inl nq_a0_e3)).other W730 (Or.inl nq_a0_e3)).other W739 (Or.inl nq_a0_e3)).other W781 (Or.inl nq_a0_e4)).other W790 (Or.inl nq_a0_e6))
            have F803 := (((((((((P9.other W694 (Or.inr (slot_ne (Or.inl (own_h hw 39 rfl)) (Or.inl (own_h hw 25 rfl)) (by decide) (t := .int) (t' := .int) (by decide) (by decide)))).other W698 (Or.inl nq_a0_e4)).other W704 (Or.inl nq_a0_e5)).other W710 (Or.inl nq_a0_e6)).other W720 (Or.inl nq_a0_e3)).other W730 (Or.inl nq_a0_e3)).other W739 (Or.inl nq_a0_e3)).other W781 (Or.inl nq_a0_e4)).other W790 (Or.inl nq_a0_e6))
            have F804 := ((Vw739.other W781 nq_e3_e4).other W790 nq_e3_e6)
            have F805 := (Vw781.other W790 nq_e4_e6)
            have F806 := ((((((Vw704.other W710 nq_e5_e6).other W720 (Ne.symm nq_e3_e5)).other W730 (Ne.symm nq_e3_e5)).other W739 (Ne.symm nq_e3_e5)).other W781 (Ne.symm nq_e4_e5)).other W790 nq_e5_e6)
            exact own_end X790 (BodyLoose.notSynchronized Bd) (fun h => by rw [Bd.returns] at h; cases h) (v := some (.int bc)) (fun fs hr => retOut X790 hx Bd.returns rfl (by simp [Value.isRef, FieldType.isReference]) (hb hby d6_117) hr) (by show Q6 Z a0 p1 e1 e2 e3 e4 e5 e6 e7 el bo bs be bm bc tc h0 n0 _ T790.heap _; rw [e790]; exact ⟨(congrArg (fun z => some (Value.int z)) hv794), N790, Kp790, (by first | exact F795 | (simp only [if_pos hs24_1, if_pos hs73_2, if_pos hs73_3, if_pos hs73_4, if_neg hs73_5]; exact F795)), (by first | exact F796 | (simp only [if_pos hs24_1, if_pos hs73_2, if_pos hs73_3, if_pos hs73_4, if_neg hs73_5]; exact F796)), (by first | exact F797 | (simp only [if_pos hs24_1, if_pos hs73_2, if_pos hs73_3, if_pos hs73_4, if_neg hs73_5]; exact F797)), (by first | exact F798 | (simp only [if_pos hs24_1, if_pos hs73_2, if_pos hs73_3, if_pos hs73_4, if_neg hs73_5]; exact F798)), (by first | exact F799 | (simp only [if_pos hs24_1, if_pos hs73_2, if_pos hs73_3, if_pos hs73_4, if_neg hs73_5]; exact F799)), (by first | exact F800 | (simp only [if_pos hs24_1, if_pos hs73_2, if_pos hs73_3, if_pos hs73_4, if_neg hs73_5]; exact F800)), (by first | exact F801 | (simp only [if_pos hs24_1, if_pos hs73_2, if_pos hs73_3, if_pos hs73_4, if_neg hs73_5]; exact F801)), (by simp only [g6_bc, if_pos hs24_1, if_pos hs73_2, if_pos hs73_3, if_pos hs73_4, if_neg hs73_5]; exact F802), (by first | exact F803 | (simp only [if_pos hs24_1, if_pos hs73_2, if_pos hs73_3, if_pos hs73_4, if_neg hs73_5]; exact F803)), (by simp only [g6_bo, if_pos hs24_1, if_pos hs73_2, if_pos hs73_3, if_pos hs73_4, if_neg hs73_5]; exact F804), (by simp only [g6_bs, if_pos hs24_1, if_pos hs73_2, if_pos hs73_3, if_pos hs73_4, if_neg hs73_5]; exact F805), (by simp only [g6_be, if_pos hs24_1, if_pos hs73_2, if_pos hs73_3, if_pos hs73_4, if_neg hs73_5]; exact F806), (by simp only [g6_bm, if_pos hs24_1, if_pos hs73_2, if_pos hs73_3, if_pos hs73_4, if_neg hs73_5]; exact Vw790)⟩) (by decide) (by decide)
        · refine own_pre (A := T730.setTop (mkF m 97 #[rv a0, iv p1, iv (own_at bs p1), iv (own_at bm p1), iv bc, iv (((own_at bs p1) + (1:Int32)) + (1:Int32))] [(.ref a0)])) (fun t k => ?_) ?_
          · show Steps p.tables e below (T730.setTop (mkF m 73 #[rv a0, iv p1, iv (own_at bs p1), iv (own_at bm p1), iv bc, iv (((own_at bs p1) + (1:Int32)) + (1:Int32))] [(.int (own_at bm p1)), (.int (((own_at bs p1) + (1:Int32)) + (1:Int32)))])) _
            refine XS.icmpYes X730.here hx rfl (pc0 := 73) (pc' := 96) rfl (hb hby d6_73) rfl (XT.ii_ge_t hs73_4) (by decide) (by decide) ?_
            show Steps p.tables e below (T730.setTop (mkF m 96 #[rv a0, iv p1, iv (own_at bs p1), iv (own_at bm p1), iv bc, iv (((own_at bs p1) + (1:Int32)) + (1:Int32))] [])) _
            refine XS.aloadN X730.here hx rfl (hb hby d6_96) rfl rfl ?_
            exact k
          have F808 := (((((F697.other W698 (Or.inl nq_a0_e4)).other W704 (Or.inl nq_a0_e5)).other W710 (Or.inl nq_a0_e6)).other W720 (Or.inl nq_a0_e3)).other W730 (Or.inl nq_a0_e3))
          obtain ⟨T807, X807, e807, st807⟩ := getF X730 hx hZ hown (host := "") (Or.inl (own_h hw 16 rfl)) Via.refl e730 F808 (g := (mkF m 97 #[rv a0, iv p1, iv (own_at bs p1), iv (own_at bm p1), iv bc, iv (((own_at bs p1) + (1:Int32)) + (1:Int32))] [(.ref a0)])) rfl rfl (hb hby d6_97)
          refine own_pre st807 ?_
          refine own_pre (A := T807.setTop (mkF m 102 #[rv a0, iv p1, iv (own_at bs p1), iv (own_at bm p1), iv bc, iv (((own_at bs p1) + (1:Int32)) + (1:Int32))] [(.int (own_at bm p1)), (.int p1), (.ref e4)])) (fun t k => ?_) ?_
          · show Steps p.tables e below (T807.setTop (mkF m 100 #[rv a0, iv p1, iv (own_at bs p1), iv (own_at bm p1), iv bc, iv (((own_at bs p1) + (1:Int32)) + (1:Int32))] [(.ref e4)])) _
            refine XS.iloadN X807.here hx rfl (hb hby d6_100) rfl ?_
            show Steps p.tables e below (T807.setTop (mkF m 101 #[rv a0, iv p1, iv (own_at bs p1), iv (own_at bm p1), iv bc, iv (((own_at bs p1) + (1:Int32)) + (1:Int32))] [(.int p1), (.ref e4)])) _
            refine XS.iloadN X807.here hx rfl (hb hby d6_101) rfl ?_
            exact k
          have F810 := ((((Vw698.other W704 nq_e4_e5).other W710 nq_e4_e6).other W720 (Ne.symm nq_e3_e4)).other W730 (Ne.symm nq_e3_e4))
          have hbn811 : own_In p1 (bs.set bc.toNatClampNeg (own_at bs p1)).length := (by first | exact hb1 | (simp only [List.length_set]; exact hb1))
          obtain ⟨T809, h809, X809, e809, W809, V809, st809⟩ := own_iastore X807 hx hZ e807 F810 (j := p1) (x := (own_at bm p1)) hbn811 (g := (mkF m 102 #[rv a0, iv p1, iv (own_at bs p1), iv (own_at bm p1), iv bc, iv (((own_at bs p1) + (1:Int32)) + (1:Int32))] [(.int (own_at bm p1)), (.int p1), (.ref e4)])) rfl rfl (hb hby d6_102)
          have Kp809 : Keep h0 h809 [a0, e3, e4, e5, e6] := Kp730.wr W809 (Or.inl (List.mem_of_getElem? (i := 2) rfl))
          have Z812 : n0 ≤ h809.size := Nat.le_trans Z732 (Nat.le_of_eq W809.size.symm)
          have N809 := Fr.snoc X809 N730 gq_e4
          have Vw809 : own_Ints Z h809 e4 ((bs.set bc.toNatClampNeg (own_at bs p1)).set p1.toNatClampNeg (own_at bm p1)) := V809
          refine own_pre st809 ?_
          refine own_pre (A := T809.setTop (mkF m 104 #[rv a0, iv p1, iv (own_at bs p1), iv (own_at bm p1), iv bc, iv (((own_at bs p1) + (1:Int32)) + (1:Int32))] [(.ref a0)])) (fun t k => ?_) ?_
          · show Steps p.tables e below (T809.setTop (mkF m 103 #[rv a0, iv p1, iv (own_at bs p1), iv (own_at bm p1), iv bc, iv (((own_at bs p1) + (1:Int32)) + (1:Int32))] [])) _
            refine XS.aloadN X809.here hx rfl (hb hby d6_103) rfl rfl ?_
            exact k
          have F814 := ((((F709.other W710 (Or.inl nq_a0_e6)).other W720 (Or.inl nq_a0_e3)).other W730 (Or.inl nq_a0_e3)).other W809 (Or.inl nq_a0_e4))
          obtain ⟨T813, X813, e813, st813⟩ := getF X809 hx hZ hown (host := "") (Or.inl (own_h hw 20 rfl)) Via.refl e809 F814 (g := (mkF m 104 #[rv a0, iv p1, iv (own_at bs p1), iv (own_at bm p1), iv bc, iv (((own_at bs p1) + (1:Int32)) + (1:Int32))] [(.ref a0)])) rfl rfl (hb hby d6_104)
          refine own_pre st813 ?_
          refine own_pre (A := T813.setTop (mkF m 109 #[rv a0, iv p1, iv (own_at bs p1), iv (own_at bm p1), iv bc, iv (((own_at bs p1) + (1:Int32)) + (1:Int32))] [(.ref a0), (.int p1), (.ref e6)])) (fun t k => ?_) ?_
          · show Steps p.tables e below (T813.setTop (mkF m 107 #[rv a0, iv p1, iv (own_at bs p1), iv (own_at bm p1), iv bc, iv (((own_at bs p1) + (1:Int32)) + (1:Int32))] [(.ref e6)])) _
            refine XS.iloadN X813.here hx rfl (hb hby d6_107) rfl ?_
            show Steps p.tables e below (T813.setTop (mkF m 108 #[rv a0, iv p1, iv (own_at bs p1), iv (own_at bm p1), iv bc, iv (((own_at bs p1) + (1:Int32)) + (1:Int32))] [(.int p1), (.ref e6)])) _
            refine XS.aloadN X813.here hx rfl (hb hby d6_108) rfl rfl ?_
            exact k
          have F816 := (F808.other W809 (Or.inl nq_a0_e4))
          obtain ⟨T815, X815, e815, st815⟩ := getF X813 hx hZ hown (host := "") (Or.inl (own_h hw 16 rfl)) Via.refl e813 F816 (g := (mkF m 109 #[rv a0, iv p1, iv (own_at bs p1), iv (own_at bm p1), iv bc, iv (((own_at bs p1) + (1:Int32)) + (1:Int32))] [(.ref a0), (.int p1), (.ref e6)])) rfl rfl (hb hby d6_109)
          refine own_pre st815 ?_
          have hbn817 : own_In p1 ((bs.set bc.toNatClampNeg (own_at bs p1)).set p1.toNatClampNeg (own_at bm p1)).length := (by first | exact hb1 | (simp only [List.length_set]; exact hb1))
          refine own_pre (A := T815.setTop (mkF m 114 #[rv a0, iv p1, iv (own_at bs p1), iv (own_at bm p1), iv bc, iv (((own_at bs p1) + (1:Int32)) + (1:Int32))] [(.int (own_at ((bs.set bc.toNatClampNeg (own_at bs p1)).set p1.toNatClampNeg (own_at bm p1)) p1)), (.int p1), (.ref e6)])) (fun t k => ?_) ?_
          · show Steps p.tables e below (T815.setTop (mkF m 112 #[rv a0, iv p1, iv (own_at bs p1), iv (own_at bm p1), iv bc, iv (((own_at bs p1) + (1:Int32)) + (1:Int32))] [(.ref e4), (.int p1), (.ref e6)])) _
            refine XS.iloadN X815.here hx rfl (hb hby d6_112) rfl ?_
            show Steps p.tables e below (T815.setTop (mkF m 113 #[rv a0, iv p1, iv (own_at bs p1), iv (own_at bm p1), iv bc, iv (((own_at bs p1) + (1:Int32)) + (1:Int32))] [(.int p1), (.ref e4), (.int p1), (.ref e6)])) _
            refine own_iaload X815 hx hZ e815 Vw809 hbn817 (g := (mkF m 113 #[rv a0, iv p1, iv (own_at bs p1), iv (own_at bm p1), iv bc, iv (((own_at bs p1) + (1:Int32)) + (1:Int32))] [(.int p1), (.ref e4), (.int p1), (.ref e6)])) rfl rfl (hb hby d6_113) ?_
            exact k
          have F819 := (((Vw710.other W720 (Ne.symm nq_e3_e6)).other W730 (Ne.symm nq_e3_e6)).other W809 (Ne.symm nq_e4_e6))
          have hbn820 : own_In p1 (bm.set bc.toNatClampNeg (own_at bs p1)).length := (by first | exact hb2 | (simp only [List.length_set]; exact hb2))
          obtain ⟨T818, h818, X818, e818, W818, V818, st818⟩ := own_iastore X815 hx hZ e815 F819 (j := p1) (x := (own_at ((bs.set bc.toNatClampNeg (own_at bs p1)).set p1.toNatClampNeg (own_at bm p1)) p1)) hbn820 (g := (mkF m 114 #[rv a0, iv p1, iv (own_at bs p1), iv (own_at bm p1), iv bc, iv (((own_at bs p1) + (1:Int32)) + (1:Int32))] [(.int (own_at ((bs.set bc.toNatClampNeg (own_at bs p1)).set p1.toNatClampNeg (own_at bm p1)) p1)), (.int p1), (.ref e6)])) rfl rfl (hb hby d6_114)
          have Kp818 : Keep h0 h818 [a0, e3, e4, e5, e6] := Kp809.wr W818 (Or.inl (List.mem_of_getElem? (i := 4) rfl))
          have Z821 : n0 ≤ h818.size := Nat.le_trans Z812 (Nat.le_of_eq W818.size.symm)
          have N818 := Fr.snoc X818 N809 gq_e6
          have Vw818 : own_Ints Z h818 e6 ((bm.set bc.toNatClampNeg (own_at bs p1)).set p1.toNatClampNeg (own_at ((bs.set bc.toNatClampNeg (own_at bs p1)).set p1.toNatClampNeg (own_at bm p1)) p1)) := V818
          refine own_pre st818 ?_
          refine own_pre (A := T818.setTop (mkF m 117 #[rv a0, iv p1, iv (own_at bs p1), iv (own_at bm p1), iv bc, iv (((own_at bs p1) + (1:Int32)) + (1:Int32))] [(.int bc)])) (fun t k => ?_) ?_
          · show Steps p.tables e below (T818.setTop (mkF m 115 #[rv a0, iv p1, iv (own_at bs p1), iv (own_at bm p1), iv bc, iv (((own_at bs p1) + (1:Int32)) + (1:Int32))] [])) _
            refine XS.iload X818.here hx rfl (hb hby d6_115) rfl ?_
            exact k
          have hv822 : bc = f6 p1 el bo bs be bm bc tc := by simp only [f6, if_pos hs24_1, if_pos hs73_2, if_pos hs73_3, if_neg hs73_4]
          have F823 := (((F727.other W730 (Or.inl nq_a0_e3)).other W809 (Or.inl nq_a0_e4)).other W818 (Or.inl nq_a0_e6))
          have F824 := ((((((((P2.other W694 (Or.inr (slot_ne (Or.inr (own_h hw 13 rfl)) (Or.inl (own_h hw 25 rfl)) (by decide) (t := (.array .int)) (t' := .int) (by decide) (by decide)))).other W698 (Or.inl nq_a0_e4)).other W704 (Or.inl nq_a0_e5)).other W710 (Or.inl nq_a0_e6)).other W720 (Or.inl nq_a0_e3)).other W730 (Or.inl nq_a0_e3)).other W809 (Or.inl nq_a0_e4)).other W818 (Or.inl nq_a0_e6))
          have F825 := (((F725.other W730 (Or.inl nq_a0_e3)).other W809 (Or.inl nq_a0_e4)).other W818 (Or.inl nq_a0_e6))
          have F826 := (F816.other W818 (Or.inl nq_a0_e6))
          have F827 := ((((((F703.other W704 (Or.inl nq_a0_e5)).other W710 (Or.inl nq_a0_e6)).other W720 (Or.inl nq_a0_e3)).other W730 (Or.inl nq_a0_e3)).other W809 (Or.inl nq_a0_e4)).other W818 (Or.inl nq_a0_e6))
          have F828 := (F814.other W818 (Or.inl nq_a0_e6))
          have F829 := ((((((((P7.other W694 (Or.inr (slot_ne (Or.inr (own_h hw 23 rfl)) (Or.inl (own_h hw 25 rfl)) (by decide) (t := (.array .int)) (t' := .int) (by decide) (by decide)))).other W698 (Or.inl nq_a0_e4)).other W704 (Or.inl nq_a0_e5)).other W710 (Or.inl nq_a0_e6)).other W720 (Or.inl nq_a0_e3)).other W730 (Or.inl nq_a0_e3)).other W809 (Or.inl nq_a0_e4)).other W818 (Or.inl nq_a0_e6))
          have F830 := (((((((Fw694.other W698 (Or.inl nq_a0_e4)).other W704 (Or.inl nq_a0_e5)).other W710 (Or.inl nq_a0_e6)).other W720 (Or.inl nq_a0_e3)).other W730 (Or.inl nq_a0_e3)).other W809 (Or.inl nq_a0_e4)).other W818 (Or.inl nq_a0_e6))
          have F831 := ((((((((P9.other W694 (Or.inr (slot_ne (Or.inl (own_h hw 39 rfl)) (Or.inl (own_h hw 25 rfl)) (by decide) (t := .int) (t' := .int) (by decide) (by decide)))).other W698 (Or.inl nq_a0_e4)).other W704 (Or.inl nq_a0_e5)).other W710 (Or.inl nq_a0_e6)).other W720 (Or.inl nq_a0_e3)).other W730 (Or.inl nq_a0_e3)).other W809 (Or.inl nq_a0_e4)).other W818 (Or.inl nq_a0_e6))
          have F832 := ((Vw730.other W809 nq_e3_e4).other W818 nq_e3_e6)
          have F833 := (Vw809.other W818 nq_e4_e6)
          have F834 := (((((Vw704.other W710 nq_e5_e6).other W720 (Ne.symm nq_e3_e5)).other W730 (Ne.symm nq_e3_e5)).other W809 (Ne.symm nq_e4_e5)).other W818 nq_e5_e6)
          exact own_end X818 (BodyLoose.notSynchronized Bd) (fun h => by rw [Bd.returns] at h; cases h) (v := some (.int bc)) (fun fs hr => retOut X818 hx Bd.returns rfl (by simp [Value.isRef, FieldType.isReference]) (hb hby d6_117) hr) (by show Q6 Z a0 p1 e1 e2 e3 e4 e5 e6 e7 el bo bs be bm bc tc h0 n0 _ T818.heap _; rw [e818]; exact ⟨(congrArg (fun z => some (Value.int z)) hv822), N818, Kp818, (by first | exact F823 | (simp only [if_pos hs24_1, if_pos hs73_2, if_pos hs73_3, if_neg hs73_4]; exact F823)), (by first | exact F824 | (simp only [if_pos hs24_1, if_pos hs73_2, if_pos hs73_3, if_neg hs73_4]; exact F824)), (by first | exact F825 | (simp only [if_pos hs24_1, if_pos hs73_2, if_pos hs73_3, if_neg hs73_4]; exact F825)), (by first | exact F826 | (simp only [if_pos hs24_1, if_pos hs73_2, if_pos hs73_3, if_neg hs73_4]; exact F826)), (by first | exact F827 | (simp only [if_pos hs24_1, if_pos hs73_2, if_pos hs73_3, if_neg hs73_4]; exact F827)), (by first | exact F828 | (simp only [if_pos hs24_1, if_pos hs73_2, if_pos hs73_3, if_neg hs73_4]; exact F828)), (by first | exact F829 | (simp only [if_pos hs24_1, if_pos hs73_2, if_pos hs73_3, if_neg hs73_4]; exact F829)), (by simp only [g6_bc, if_pos hs24_1, if_pos hs73_2, if_pos hs73_3, if_neg hs73_4]; exact F830), (by first | exact F831 | (simp only [if_pos hs24_1, if_pos hs73_2, if_pos hs73_3, if_neg hs73_4]; exact F831)), (by simp only [g6_bo, if_pos hs24_1, if_pos hs73_2, if_pos hs73_3, if_neg hs73_4]; exact F832), (by simp only [g6_bs, if_pos hs24_1, if_pos hs73_2, if_pos hs73_3, if_neg hs73_4]; exact F833), (by simp only [g6_be, if_pos hs24_1, if_pos hs73_2, if_pos hs73_3, if_neg hs73_4]; exact F834), (by simp only [g6_bm, if_pos hs24_1, if_pos hs73_2, if_pos hs73_3, if_neg hs73_4]; exact Vw818)⟩) (by decide) (by decide)
      · refine own_pre (A := T720.setTop (mkF m 97 #[rv a0, iv p1, iv (own_at bs p1), iv (own_at bm p1), iv bc, iv ((own_at bs p1) + (1:Int32))] [(.ref a0)])) (fun t k => ?_) ?_
        · show Steps p.tables e below (T720.setTop (mkF m 73 #[rv a0, iv p1, iv (own_at bs p1), iv (own_at bm p1), iv bc, iv ((own_at bs p1) + (1:Int32))] [(.int (own_at bm p1)), (.int ((own_at bs p1) + (1:Int32)))])) _
          refine XS.icmpYes X720.here hx rfl (pc0 := 73) (pc' := 96) rfl (hb hby d6_73) rfl (XT.ii_ge_t hs73_3) (by decide) (by decide) ?_
          show Steps p.tables e below (T720.setTop (mkF m 96 #[rv a0, iv p1, iv (own_at bs p1), iv (own_at bm p1), iv bc, iv ((own_at bs p1) + (1:Int32))] [])) _
          refine XS.aloadN X720.here hx rfl (hb hby d6_96) rfl rfl ?_
          exact k
        have F836 := ((((F697.other W698 (Or.inl nq_a0_e4)).other W704 (Or.inl nq_a0_e5)).other W710 (Or.inl nq_a0_e6)).other W720 (Or.inl nq_a0_e3))
        obtain ⟨T835, X835, e835, st835⟩ := getF X720 hx hZ hown (host := "") (Or.inl (own_h hw 16 rfl)) Via.refl e720 F836 (g := (mkF m 97 #[rv a0, iv p1, iv (own_at bs p1), iv (own_at bm p1), iv bc, iv ((own_at bs p1) + (1:Int32))] [(.ref a0)])) rfl rfl (hb hby d6_97)
        refine own_pre st835 ?_
        refine own_pre (A := T835.setTop (mkF m 102 #[rv a0, iv p1, iv (own_at bs p1), iv (own_at bm p1), iv bc, iv ((own_at bs p1) + (1:Int32))] [(.int (own_at bm p1)), (.int p1), (.ref e4)])) (fun t k => ?_) ?_
        · show Steps p.tables e below (T835.setTop (mkF m 100 #[rv a0, iv p1, iv (own_at bs p1), iv (own_at bm p1), iv bc, iv ((own_at bs p1) + (1:Int32))] [(.ref e4)])) _
          refine XS.iloadN X835.here hx rfl (hb hby d6_100) rfl ?_
          show Steps p.tables e below (T835.setTop (mkF m 101 #[rv a0, iv p1, iv (own_at bs p1), iv (own_at bm p1), iv bc, iv ((own_at bs p1) + (1:Int32))] [(.int p1), (.ref e4)])) _
          refine XS.iloadN X835.here hx rfl (hb hby d6_101) rfl ?_
          exact k
        have F838 := (((Vw698.other W704 nq_e4_e5).other W710 nq_e4_e6).other W720 (Ne.symm nq_e3_e4))
        have hbn839 : own_In p1 (bs.set bc.toNatClampNeg (own_at bs p1)).length := (by first | exact hb1 | (simp only [List.length_set]; exact hb1))
        obtain ⟨T837, h837, X837, e837, W837, V837, st837⟩ := own_iastore X835 hx hZ e835 F838 (j := p1) (x := (own_at bm p1)) hbn839 (g := (mkF m 102 #[rv a0, iv p1, iv (own_at bs p1), iv (own_at bm p1), iv bc, iv ((own_at bs p1) + (1:Int32))] [(.int (own_at bm p1)), (.int p1), (.ref e4)])) rfl rfl (hb hby d6_102)
        have Kp837 : Keep h0 h837 [a0, e3, e4, e5, e6] := Kp720.wr W837 (Or.inl (List.mem_of_getElem? (i := 2) rfl))
        have Z840 : n0 ≤ h837.size := Nat.le_trans Z723 (Nat.le_of_eq W837.size.symm)
        have N837 := Fr.snoc X837 N720 gq_e4
        have Vw837 : own_Ints Z h837 e4 ((bs.set bc.toNatClampNeg (own_at bs p1)).set p1.toNatClampNeg (own_at bm p1)) := V837
        refine own_pre st837 ?_
        refine own_pre (A := T837.setTop (mkF m 104 #[rv a0, iv p1, iv (own_at bs p1), iv (own_at bm p1), iv bc, iv ((own_at bs p1) + (1:Int32))] [(.ref a0)])) (fun t k => ?_) ?_
        · show Steps p.tables e below (T837.setTop (mkF m 103 #[rv a0, iv p1, iv (own_at bs p1), iv (own_at bm p1), iv bc, iv ((own_at bs p1) + (1:Int32))] [])) _
          refine XS.aloadN X837.here hx rfl (hb hby d6_103) rfl rfl ?_
          exact k
        have F842 := (((F709.other W710 (Or.inl nq_a0_e6)).other W720 (Or.inl nq_a0_e3)).other W837 (Or.inl nq_a0_e4))
        obtain ⟨T841, X841, e841, st841⟩ := getF X837 hx hZ hown (host := "") (Or.inl (own_h hw 20 rfl)) Via.refl e837 F842 (g := (mkF m 104 #[rv a0, iv p1, iv (own_at bs p1), iv (own_at bm p1), iv bc, iv ((own_at bs p1) + (1:Int32))] [(.ref a0)])) rfl rfl (hb hby d6_104)
        refine own_pre st841 ?_
        refine own_pre (A := T841.setTop (mkF m 109 #[rv a0, iv p1, iv (own_at bs p1), iv (own_at bm p1), iv bc, iv ((own_at bs p1) + (1:Int32))] [(.ref a0), (.int p1), (.ref e6)])) (fun t k => ?_) ?_
        · show Steps p.tables e below (T841.setTop (mkF m 107 #[rv a0, iv p1, iv (own_at bs p1), iv (own_at bm p1), iv bc, iv ((own_at bs p1) + (1:Int32))] [(.ref e6)])) _
          refine XS.iloadN X841.here hx rfl (hb hby d6_107) rfl ?_
          show Steps p.tables e below (T841.setTop (mkF m 108 #[rv a0, iv p1, iv (own_at bs p1), iv (own_at bm p1), iv bc, iv ((own_at bs p1) + (1:Int32))] [(.int p1), (.ref e6)])) _
          refine XS.aloadN X841.here hx rfl (hb hby d6_108) rfl rfl ?_
          exact k
        have F844 := (F836.other W837 (Or.inl nq_a0_e4))
        obtain ⟨T843, X843, e843, st843⟩ := getF X841 hx hZ hown (host := "") (Or.inl (own_h hw 16 rfl)) Via.refl e841 F844 (g := (mkF m 109 #[rv a0, iv p1, iv (own_at bs p1), iv (own_at bm p1), iv bc, iv ((own_at bs p1) + (1:Int32))] [(.ref a0), (.int p1), (.ref e6)])) rfl rfl (hb hby d6_109)
        refine own_pre st843 ?_
        have hbn845 : own_In p1 ((bs.set bc.toNatClampNeg (own_at bs p1)).set p1.toNatClampNeg (own_at bm p1)).length := (by first | exact hb1 | (simp only [List.length_set]; exact hb1))
        refine own_pre (A := T843.setTop (mkF m 114 #[rv a0, iv p1, iv (own_at bs p1), iv (own_at bm p1), iv bc, iv ((own_at bs p1) + (1:Int32))] [(.int (own_at ((bs.set bc.toNatClampNeg (own_at bs p1)).set p1.toNatClampNeg (own_at bm p1)) p1)), (.int p1), (.ref e6)])) (fun t k => ?_) ?_
        · show Steps p.tables e below (T843.setTop (mkF m 112 #[rv a0, iv p1, iv (own_at bs p1), iv (own_at bm p1), iv bc, iv ((own_at bs p1) + (1:Int32))] [(.ref e4), (.int p1), (.ref e6)])) _
          refine XS.iloadN X843.here hx rfl (hb hby d6_112) rfl ?_
          show Steps p.tables e below (T843.setTop (mkF m 113 #[rv a0, iv p1, iv (own_at bs p1), iv (own_at bm p1), iv bc, iv ((own_at bs p1) + (1:Int32))] [(.int p1), (.ref e4), (.int p1), (.ref e6)])) _
          refine own_iaload X843 hx hZ e843 Vw837 hbn845 (g := (mkF m 113 #[rv a0, iv p1, iv (own_at bs p1), iv (own_at bm p1), iv bc, iv ((own_at bs p1) + (1:Int32))] [(.int p1), (.ref e4), (.int p1), (.ref e6)])) rfl rfl (hb hby d6_113) ?_
          exact k
        have F847 := ((Vw710.other W720 (Ne.symm nq_e3_e6)).other W837 (Ne.symm nq_e4_e6))
        have hbn848 : own_In p1 (bm.set bc.toNatClampNeg (own_at bs p1)).length := (by first | exact hb2 | (simp only [List.length_set]; exact hb2))
        obtain ⟨T846, h846, X846, e846, W846, V846, st846⟩ := own_iastore X843 hx hZ e843 F847 (j := p1) (x := (own_at ((bs.set bc.toNatClampNeg (own_at bs p1)).set p1.toNatClampNeg (own_at bm p1)) p1)) hbn848 (g := (mkF m 114 #[rv a0, iv p1, iv (own_at bs p1), iv (own_at bm p1), iv bc, iv ((own_at bs p1) + (1:Int32))] [(.int (own_at ((bs.set bc.toNatClampNeg (own_at bs p1)).set p1.toNatClampNeg (own_at bm p1)) p1)), (.int p1), (.ref e6)])) rfl rfl (hb hby d6_114)
        have Kp846 : Keep h0 h846 [a0, e3, e4, e5, e6] := Kp837.wr W846 (Or.inl (List.mem_of_getElem? (i := 4) rfl))
        have Z849 : n0 ≤ h846.size := Nat.le_trans Z840 (Nat.le_of_eq W846.size.symm)
        have N846 := Fr.snoc X846 N837 gq_e6
        have Vw846 : own_Ints Z h846 e6 ((bm.set bc.toNatClampNeg (own_at bs p1)).set p1.toNatClampNeg (own_at ((bs.set bc.toNatClampNeg (own_at bs p1)).set p1.toNatClampNeg (own_at bm p1)) p1)) := V846
        refine own_pre st846 ?_
        refine own_pre (A := T846.setTop (mkF m 117 #[rv a0, iv p1, iv (own_at bs p1), iv (own_at bm p1), iv bc, iv ((own_at bs p1) + (1:Int32))] [(.int bc)])) (fun t k => ?_) ?_
        · show Steps p.tables e below (T846.setTop (mkF m 115 #[rv a0, iv p1, iv (own_at bs p1), iv (own_at bm p1), iv bc, iv ((own_at bs p1) + (1:Int32))] [])) _
          refine XS.iload X846.here hx rfl (hb hby d6_115) rfl ?_
          exact k
        have hv850 : bc = f6 p1 el bo bs be bm bc tc := by simp only [f6, if_pos hs24_1, if_pos hs73_2, if_neg hs73_3]
        have F851 := (((F717.other W720 (Or.inl nq_a0_e3)).other W837 (Or.inl nq_a0_e4)).other W846 (Or.inl nq_a0_e6))
        have F852 := (((((((P2.other W694 (Or.inr (slot_ne (Or.inr (own_h hw 13 rfl)) (Or.inl (own_h hw 25 rfl)) (by decide) (t := (.array .int)) (t' := .int) (by decide) (by decide)))).other W698 (Or.inl nq_a0_e4)).other W704 (Or.inl nq_a0_e5)).other W710 (Or.inl nq_a0_e6)).other W720 (Or.inl nq_a0_e3)).other W837 (Or.inl nq_a0_e4)).other W846 (Or.inl nq_a0_e6))
        have F853 := (((F715.other W720 (Or.inl nq_a0_e3)).other W837 (Or.inl nq_a0_e4)).other W846 (Or.inl nq_a0_e6))
        have F854 := (F844.other W846 (Or.inl nq_a0_e6))
        have F855 := (((((F703.other W704 (Or.inl nq_a0_e5)).other W710 (Or.inl nq_a0_e6)).other W720 (Or.inl nq_a0_e3)).other W837 (Or.inl nq_a0_e4)).other W846 (Or.inl nq_a0_e6))
        have F856 := (F842.other W846 (Or.inl nq_a0_e6))
        have F857 := (((((((P7.other W694 (Or.inr (slot_ne (Or.inr (own_h hw 23 rfl)) (Or.inl (own_h hw 25 rfl)) (by decide) (t := (.array .int)) (t' := .int) (by decide) (by decide)))).other W698 (Or.inl nq_a0_e4)).other W704 (Or.inl nq_a0_e5)).other W710 (Or.inl nq_a0_e6)).other W720 (Or.inl nq_a0_e3)).other W837 (Or.inl nq_a0_e4)).other W846 (Or.inl nq_a0_e6))
        have F858 := ((((((Fw694.other W698 (Or.inl nq_a0_e4)).other W704 (Or.inl nq_a0_e5)).other W710 (Or.inl nq_a0_e6)).other W720 (Or.inl nq_a0_e3)).other W837 (Or.inl nq_a0_e4)).other W846 (Or.inl nq_a0_e6))
        have F859 := (((((((P9.other W694 (Or.inr (slot_ne (Or.inl (own_h hw 39 rfl)) (Or.inl (own_h hw 25 rfl)) (by decide) (t := .int) (t' := .int) (by decide) (by decide)))).other W698 (Or.inl nq_a0_e4)).other W704 (Or.inl nq_a0_e5)).other W710 (Or.inl nq_a0_e6)).other W720 (Or.inl nq_a0_e3)).other W837 (Or.inl nq_a0_e4)).other W846 (Or.inl nq_a0_e6))
        have F860 := ((Vw720.other W837 nq_e3_e4).other W846 nq_e3_e6)
        have F861 := (Vw837.other W846 nq_e4_e6)
        have F862 := ((((Vw704.other W710 nq_e5_e6).other W720 (Ne.symm nq_e3_e5)).other W837 (Ne.symm nq_e4_e5)).other W846 nq_e5_e6)
        exact own_end X846 (BodyLoose.notSynchronized Bd) (fun h => by rw [Bd.returns] at h; cases h) (v := some (.int bc)) (fun fs hr => retOut X846 hx Bd.returns rfl (by simp [Value.isRef, FieldType.isReference]) (hb hby d6_117) hr) (by show Q6 Z a0 p1 e1 e2 e3 e4 e5 e6 e7 el bo bs be bm bc tc h0 n0 _ T846.heap _; rw [e846]; exact ⟨(congrArg (fun z => some (Value.int z)) hv850), N846, Kp846, (by first | exact F851 | (simp only [if_pos hs24_1, if_pos hs73_2, if_neg hs73_3]; exact F851)), (by first | exact F852 | (simp only [if_pos hs24_1, if_pos hs73_2, if_neg hs73_3]; exact F852)), (by first | exact F853 | (simp only [if_pos hs24_1, if_pos hs73_2, if_neg hs73_3]; exact F853)), (by first | exact F854 | (simp only [if_pos hs24_1, if_pos hs73_2, if_neg hs73_3]; exact F854)), (by first | exact F855 | (simp only [if_pos hs24_1, if_pos hs73_2, if_neg hs73_3]; exact F855)), (by first | exact F856 | (simp only [if_pos hs24_1, if_pos hs73_2, if_neg hs73_3]; exact F856)), (by first | exact F857 | (simp only [if_pos hs24_1, if_pos hs73_2, if_neg hs73_3]; exact F857)), (by simp only [g6_bc, if_pos hs24_1, if_pos hs73_2, if_neg hs73_3]; exact F858), (by first | exact F859 | (simp only [if_pos hs24_1, if_pos hs73_2, if_neg hs73_3]; exact F859)), (by simp only [g6_bo, if_pos hs24_1, if_pos hs73_2, if_neg hs73_3]; exact F860), (by simp only [g6_bs, if_pos hs24_1, if_pos hs73_2, if_neg hs73_3]; exact F861), (by simp only [g6_be, if_pos hs24_1, if_pos hs73_2, if_neg hs73_3]; exact F862), (by simp only [g6_bm, if_pos hs24_1, if_pos hs73_2, if_neg hs73_3]; exact Vw846)⟩) (by decide) (by decide)
    · refine own_pre (A := T710.setTop (mkF m 97 #[rv a0, iv p1, iv (own_at bs p1), iv (own_at bm p1), iv bc, iv (own_at bs p1)] [(.ref a0)])) (fun t k => ?_) ?_
      · show Steps p.tables e below (T710.setTop (mkF m 73 #[rv a0, iv p1, iv (own_at bs p1), iv (own_at bm p1), iv bc, iv (own_at bs p1)] [(.int (own_at bm p1)), (.int (own_at bs p1))])) _
        refine XS.icmpYes X710.here hx rfl (pc0 := 73) (pc' := 96) rfl (hb hby d6_73) rfl (XT.ii_ge_t hs73_2) (by decide) (by decide) ?_
        show Steps p.tables e below (T710.setTop (mkF m 96 #[rv a0, iv p1, iv (own_at bs p1), iv (own_at bm p1), iv bc, iv (own_at bs p1)] [])) _
        refine XS.aloadN X710.here hx rfl (hb hby d6_96) rfl rfl ?_
        exact k
      have F864 := (((F697.other W698 (Or.inl nq_a0_e4)).other W704 (Or.inl nq_a0_e5)).other W710 (Or.inl nq_a0_e6))
      obtain ⟨T863, X863, e863, st863⟩ := getF X710 hx hZ hown (host := "") (Or.inl (own_h hw 16 rfl)) Via.refl e710 F864 (g := (mkF m 97 #[rv a0, iv p1, iv (own_at bs p1), iv (own_at bm p1), iv bc, iv (own_at bs p1)] [(.ref a0)])) rfl rfl (hb hby d6_97)
      refine own_pre st863 ?_
      refine own_pre (A := T863.setTop (mkF m 102 #[rv a0, iv p1, iv (own_at bs p1), iv (own_at bm p1), iv bc, iv (own_at bs p1)] [(.int (own_at bm p1)), (.int p1), (.ref e4)])) (fun t k => ?_) ?_
      · show Steps p.tables e below (T863.setTop (mkF m 100 #[rv a0, iv p1, iv (own_at bs p1), iv (own_at bm p1), iv bc, iv (own_at bs p1)] [(.ref e4)])) _
        refine XS.iloadN X863.here hx rfl (hb hby d6_100) rfl ?_
        show Steps p.tables e below (T863.setTop (mkF m 101 #[rv a0, iv p1, iv (own_at bs p1), iv (own_at bm p1), iv bc, iv (own_at bs p1)] [(.int p1), (.ref e4)])) _
        refine XS.iloadN X863.here hx rfl (hb hby d6_101) rfl ?_
        exact k
      have F866 := ((Vw698.other W704 nq_e4_e5).other W710 nq_e4_e6)
      have hbn867 : own_In p1 (bs.set bc.toNatClampNeg (own_at bs p1)).length := (by first | exact hb1 | (simp only [List.length_set]; exact hb1))
      obtain ⟨T865, h865, X865, e865, W865, V865, st865⟩ := own_iastore X863 hx hZ e863 F866 (j := p1) (x := (own_at bm p1)) hbn867 (g := (mkF m 102 #[rv a0, iv p1, iv (own_at bs p1), iv (own_at bm p1), iv bc, iv (own_at bs p1)] [(.int (own_at bm p1)), (.int p1), (.ref e4)])) rfl rfl (hb hby d6_102)
      have Kp865 : Keep h0 h865 [a0, e3, e4, e5, e6] := Kp710.wr W865 (Or.inl (List.mem_of_getElem? (i := 2) rfl))
      have Z868 : n0 ≤ h865.size := Nat.le_trans Z713 (Nat.le_of_eq W865.size.symm)
      have N865 := Fr.snoc X865 N710 gq_e4
      have Vw865 : own_Ints Z h865 e4 ((bs.set bc.toNatClampNeg (own_at bs p1)).set p1.toNatClampNeg (own_at bm p1)) := V865
      refine own_pre st865 ?_
      refine own_pre (A := T865.setTop (mkF m 104 #[rv a0, iv p1, iv (own_at bs p1), iv (own_at bm p1), iv bc, iv (own_at bs p1)] [(.ref a0)])) (fun t k => ?_) ?_
      · show Steps p.tables e below (T865.setTop (mkF m 103 #[rv a0, iv p1, iv (own_at bs p1), iv (own_at bm p1), iv bc, iv (own_at bs p1)] [])) _
        refine XS.aloadN X865.here hx rfl (hb hby d6_103) rfl rfl ?_
        exact k
      have F870 := ((F709.other W710 (Or.inl nq_a0_e6)).other W865 (Or.inl nq_a0_e4))
      obtain ⟨T869, X869, e869, st869⟩ := getF X865 hx hZ hown (host := "") (Or.inl (own_h hw 20 rfl)) Via.refl e865 F870 (g := (mkF m 104 #[rv a0, iv p1, iv (own_at bs p1), iv (own_at bm p1), iv bc, iv (own_at bs p1)] [(.ref a0)])) rfl rfl (hb hby d6_104)
      refine own_pre st869 ?_
      refine own_pre (A := T869.setTop (mkF m 109 #[rv a0, iv p1, iv (own_at bs p1), iv (own_at bm p1), iv bc, iv (own_at bs p1)] [(.ref a0), (.int p1), (.ref e6)])) (fun t k => ?_) ?_
      · show Steps p.tables e below (T869.setTop (mkF m 107 #[rv a0, iv p1, iv (own_at bs p1), iv (own_at bm p1), iv bc, iv (own_at bs p1)] [(.ref e6)])) _
        refine XS.iloadN X869.here hx rfl (hb hby d6_107) rfl ?_
        show Steps p.tables e below (T869.setTop (mkF m 108 #[rv a0, iv p1, iv (own_at bs p1), iv (own_at bm p1), iv bc, iv (own_at bs p1)] [(.int p1), (.ref e6)])) _
        refine XS.aloadN X869.here hx rfl (hb hby d6_108) rfl rfl ?_
        exact k
      have F872 := (F864.other W865 (Or.inl nq_a0_e4))
      obtain ⟨T871, X871, e871, st871⟩ := getF X869 hx hZ hown (host := "") (Or.inl (own_h hw 16 rfl)) Via.refl e869 F872 (g := (mkF m 109 #[rv a0, iv p1, iv (own_at bs p1), iv (own_at bm p1), iv bc, iv (own_at bs p1)] [(.ref a0), (.int p1), (.ref e6)])) rfl rfl (hb hby d6_109)
      refine own_pre st871 ?_
      have hbn873 : own_In p1 ((bs.set bc.toNatClampNeg (own_at bs p1)).set p1.toNatClampNeg (own_at bm p1)).length := (by first | exact hb1 | (simp only [List.length_set]; exact hb1))
      refine own_pre (A := T871.setTop (mkF m 114 #[rv a0, iv p1, iv (own_at bs p1), iv (own_at bm p1), iv bc, iv (own_at bs p1)] [(.int (own_at ((bs.set bc.toNatClampNeg (own_at bs p1)).set p1.toNatClampNeg (own_at bm p1)) p1)), (.int p1), (.ref e6)])) (fun t k => ?_) ?_
      · show Steps p.tables e below (T871.setTop (mkF m 112 #[rv a0, iv p1, iv (own_at bs p1), iv (own_at bm p1), iv bc, iv (own_at bs p1)] [(.ref e4), (.int p1), (.ref e6)])) _
        refine XS.iloadN X871.here hx rfl (hb hby d6_112) rfl ?_
        show Steps p.tables e below (T871.setTop (mkF m 113 #[rv a0, iv p1, iv (own_at bs p1), iv (own_at bm p1), iv bc, iv (own_at bs p1)] [(.int p1), (.ref e4), (.int p1), (.ref e6)])) _
        refine own_iaload X871 hx hZ e871 Vw865 hbn873 (g := (mkF m 113 #[rv a0, iv p1, iv (own_at bs p1), iv (own_at bm p1), iv bc, iv (own_at bs p1)] [(.int p1), (.ref e4), (.int p1), (.ref e6)])) rfl rfl (hb hby d6_113) ?_
        exact k
      have F875 := (Vw710.other W865 (Ne.symm nq_e4_e6))
      have hbn876 : own_In p1 (bm.set bc.toNatClampNeg (own_at bs p1)).length := (by first | exact hb2 | (simp only [List.length_set]; exact hb2))
      obtain ⟨T874, h874, X874, e874, W874, V874, st874⟩ := own_iastore X871 hx hZ e871 F875 (j := p1) (x := (own_at ((bs.set bc.toNatClampNeg (own_at bs p1)).set p1.toNatClampNeg (own_at bm p1)) p1)) hbn876 (g := (mkF m 114 #[rv a0, iv p1, iv (own_at bs p1), iv (own_at bm p1), iv bc, iv (own_at bs p1)] [(.int (own_at ((bs.set bc.toNatClampNeg (own_at bs p1)).set p1.toNatClampNeg (own_at bm p1)) p1)), (.int p1), (.ref e6)])) rfl rfl (hb hby d6_114)
      have Kp874 : Keep h0 h874 [a0, e3, e4, e5, e6] := Kp865.wr W874 (Or.inl (List.mem_of_getElem? (i := 4) rfl))
      have Z877 : n0 ≤ h874.size := Nat.le_trans Z868 (Nat.le_of_eq W874.size.symm)
      have N874 := Fr.snoc X874 N865 gq_e6
      have Vw874 : own_Ints Z h874 e6 ((bm.set bc.toNatClampNeg (own_at bs p1)).set p1.toNatClampNeg (own_at ((bs.set bc.toNatClampNeg (own_at bs p1)).set p1.toNatClampNeg (own_at bm p1)) p1)) := V874
      refine own_pre st874 ?_
      refine own_pre (A := T874.setTop (mkF m 117 #[rv a0, iv p1, iv (own_at bs p1), iv (own_at bm p1), iv bc, iv (own_at bs p1)] [(.int bc)])) (fun t k => ?_) ?_
      · show Steps p.tables e below (T874.setTop (mkF m 115 #[rv a0, iv p1, iv (own_at bs p1), iv (own_at bm p1), iv bc, iv (own_at bs p1)] [])) _
        refine XS.iload X874.here hx rfl (hb hby d6_115) rfl ?_
        exact k
      have hv878 : bc = f6 p1 el bo bs be bm bc tc := by simp only [f6, if_pos hs24_1, if_neg hs73_2]
      have F879 := ((((((P1.other W694 (Or.inr (slot_ne (Or.inr (own_h hw 11 rfl)) (Or.inl (own_h hw 25 rfl)) (by decide) (t := (.array .int)) (t' := .int) (by decide) (by decide)))).other W698 (Or.inl nq_a0_e4)).other W704 (Or.inl nq_a0_e5)).other W710 (Or.inl nq_a0_e6)).other W865 (Or.inl nq_a0_e4)).other W874 (Or.inl nq_a0_e6))
      have F880 := ((((((P2.other W694 (Or.inr (slot_ne (Or.inr (own_h hw 13 rfl)) (Or.inl (own_h hw 25 rfl)) (by decide) (t := (.array .int)) (t' := .int) (by decide) (by decide)))).other W698 (Or.inl nq_a0_e4)).other W704 (Or.inl nq_a0_e5)).other W710 (Or.inl nq_a0_e6)).other W865 (Or.inl nq_a0_e4)).other W874 (Or.inl nq_a0_e6))
      have F881 := ((((((P3.other W694 (Or.inr (slot_ne (Or.inr (own_h hw 15 rfl)) (Or.inl (own_h hw 25 rfl)) (by decide) (t := (.array .int)) (t' := .int) (by decide) (by decide)))).other W698 (Or.inl nq_a0_e4)).other W704 (Or.inl nq_a0_e5)).other W710 (Or.inl nq_a0_e6)).other W865 (Or.inl nq_a0_e4)).other W874 (Or.inl nq_a0_e6))
      have F882 := (F872.other W874 (Or.inl nq_a0_e6))
      have F883 := ((((F703.other W704 (Or.inl nq_a0_e5)).other W710 (Or.inl nq_a0_e6)).other W865 (Or.inl nq_a0_e4)).other W874 (Or.inl nq_a0_e6))
      have F884 := (F870.other W874 (Or.inl nq_a0_e6))
      have F885 := ((((((P7.other W694 (Or.inr (slot_ne (Or.inr (own_h hw 23 rfl)) (Or.inl (own_h hw 25 rfl)) (by decide) (t := (.array .int)) (t' := .int) (by decide) (by decide)))).other W698 (Or.inl nq_a0_e4)).other W704 (Or.inl nq_a0_e5)).other W710 (Or.inl nq_a0_e6)).other W865 (Or.inl nq_a0_e4)).other W874 (Or.inl nq_a0_e6))
      have F886 := (((((Fw694.other W698 (Or.inl nq_a0_e4)).other W704 (Or.inl nq_a0_e5)).other W710 (Or.inl nq_a0_e6)).other W865 (Or.inl nq_a0_e4)).other W874 (Or.inl nq_a0_e6))
      have F887 := ((((((P9.other W694 (Or.inr (slot_ne (Or.inl (own_h hw 39 rfl)) (Or.inl (own_h hw 25 rfl)) (by decide) (t := .int) (t' := .int) (by decide) (by decide)))).other W698 (Or.inl nq_a0_e4)).other W704 (Or.inl nq_a0_e5)).other W710 (Or.inl nq_a0_e6)).other W865 (Or.inl nq_a0_e4)).other W874 (Or.inl nq_a0_e6))
      have F888 := ((((((P11.other W694 (Ne.symm nq_a0_e3)).other W698 nq_e3_e4).other W704 nq_e3_e5).other W710 nq_e3_e6).other W865 nq_e3_e4).other W874 nq_e3_e6)
      have F889 := (Vw865.other W874 nq_e4_e6)
      have F890 := (((Vw704.other W710 nq_e5_e6).other W865 (Ne.symm nq_e4_e5)).other W874 nq_e5_e6)
      exact own_end X874 (BodyLoose.notSynchronized Bd) (fun h => by rw [Bd.returns] at h; cases h) (v := some (.int bc)) (fun fs hr => retOut X874 hx Bd.returns rfl (by simp [Value.isRef, FieldType.isReference]) (hb hby d6_117) hr) (by show Q6 Z a0 p1 e1 e2 e3 e4 e5 e6 e7 el bo bs be bm bc tc h0 n0 _ T874.heap _; rw [e874]; exact ⟨(congrArg (fun z => some (Value.int z)) hv878), N874, Kp874, (by first | exact F879 | (simp only [if_pos hs24_1, if_neg hs73_2]; exact F879)), (by first | exact F880 | (simp only [if_pos hs24_1, if_neg hs73_2]; exact F880)), (by first | exact F881 | (simp only [if_pos hs24_1, if_neg hs73_2]; exact F881)), (by first | exact F882 | (simp only [if_pos hs24_1, if_neg hs73_2]; exact F882)), (by first | exact F883 | (simp only [if_pos hs24_1, if_neg hs73_2]; exact F883)), (by first | exact F884 | (simp only [if_pos hs24_1, if_neg hs73_2]; exact F884)), (by first | exact F885 | (simp only [if_pos hs24_1, if_neg hs73_2]; exact F885)), (by simp only [g6_bc, if_pos hs24_1, if_neg hs73_2]; exact F886), (by first | exact F887 | (simp only [if_pos hs24_1, if_neg hs73_2]; exact F887)), (by simp only [g6_bo, if_pos hs24_1, if_neg hs73_2]; exact F888), (by simp only [g6_bs, if_pos hs24_1, if_neg hs73_2]; exact F889), (by simp only [g6_be, if_pos hs24_1, if_neg hs73_2]; exact F890), (by simp only [g6_bm, if_pos hs24_1, if_neg hs73_2]; exact Vw874)⟩) (by decide) (by decide)
  · refine own_pre (A := T690.setTop (mkF m 104 #[rv a0, iv p1, iv (own_at bs p1), iv (own_at bm p1), iv (-1:Int32), .unset] [(.ref a0)])) (fun t k => ?_) ?_
    · show Steps p.tables e below (T690.setTop (mkF m 24 #[rv a0, iv p1, iv (own_at bs p1), iv (own_at bm p1), iv (-1:Int32), .unset] [(.int (own_at be p1)), (.int (own_at bm p1))])) _
      refine XS.icmpYes X690.here hx rfl (pc0 := 24) (pc' := 103) rfl (hb hby d6_24) rfl (XT.ii_ge_t hs24_1) (by decide) (by decide) ?_
      show Steps p.tables e below (T690.setTop (mkF m 103 #[rv a0, iv p1, iv (own_at bs p1), iv (own_at bm p1), iv (-1:Int32), .unset] [])) _
      refine XS.aloadN X690.here hx rfl (hb hby d6_103) rfl rfl ?_
      exact k
    obtain ⟨T891, X891, e891, st891⟩ := getF X690 hx hZ hown (host := "") (Or.inl (own_h hw 20 rfl)) Via.refl e690 P6 (g := (mkF m 104 #[rv a0, iv p1, iv (own_at bs p1), iv (own_at bm p1), iv (-1:Int32), .unset] [(.ref a0)])) rfl rfl (hb hby d6_104)
    refine own_pre st891 ?_
    refine own_pre (A := T891.setTop (mkF m 109 #[rv a0, iv p1, iv (own_at bs p1), iv (own_at bm p1), iv (-1:Int32), .unset] [(.ref a0), (.int p1), (.ref e6)])) (fun t k => ?_) ?_
    · show Steps p.tables e below (T891.setTop (mkF m 107 #[rv a0, iv p1, iv (own_at bs p1), iv (own_at bm p1), iv (-1:Int32), .unset] [(.ref e6)])) _
      refine XS.iloadN X891.here hx rfl (hb hby d6_107) rfl ?_
      show Steps p.tables e below (T891.setTop (mkF m 108 #[rv a0, iv p1, iv (own_at bs p1), iv (own_at bm p1), iv (-1:Int32), .unset] [(.int p1), (.ref e6)])) _
      refine XS.aloadN X891.here hx rfl (hb hby d6_108) rfl rfl ?_
      exact k
    obtain ⟨T892, X892, e892, st892⟩ := getF X891 hx hZ hown (host := "") (Or.inl (own_h hw 16 rfl)) Via.refl e891 P4 (g := (mkF m 109 #[rv a0, iv p1, iv (own_at bs p1), iv (own_at bm p1), iv (-1:Int32), .unset] [(.ref a0), (.int p1), (.ref e6)])) rfl rfl (hb hby d6_109)
    refine own_pre st892 ?_
    have hbn893 : own_In p1 bs.length := (by first | exact hb1 | (simp only [List.length_set]; exact hb1))
    refine own_pre (A := T892.setTop (mkF m 114 #[rv a0, iv p1, iv (own_at bs p1), iv (own_at bm p1), iv (-1:Int32), .unset] [(.int (own_at bs p1)), (.int p1), (.ref e6)])) (fun t k => ?_) ?_
    · show Steps p.tables e below (T892.setTop (mkF m 112 #[rv a0, iv p1, iv (own_at bs p1), iv (own_at bm p1), iv (-1:Int32), .unset] [(.ref e4), (.int p1), (.ref e6)])) _
      refine XS.iloadN X892.here hx rfl (hb hby d6_112) rfl ?_
      show Steps p.tables e below (T892.setTop (mkF m 113 #[rv a0, iv p1, iv (own_at bs p1), iv (own_at bm p1), iv (-1:Int32), .unset] [(.int p1), (.ref e4), (.int p1), (.ref e6)])) _
      refine own_iaload X892 hx hZ e892 P12 hbn893 (g := (mkF m 113 #[rv a0, iv p1, iv (own_at bs p1), iv (own_at bm p1), iv (-1:Int32), .unset] [(.int p1), (.ref e4), (.int p1), (.ref e6)])) rfl rfl (hb hby d6_113) ?_
      exact k
    have hbn895 : own_In p1 bm.length := (by first | exact hb2 | (simp only [List.length_set]; exact hb2))
    obtain ⟨T894, h894, X894, e894, W894, V894, st894⟩ := own_iastore X892 hx hZ e892 P14 (j := p1) (x := (own_at bs p1)) hbn895 (g := (mkF m 114 #[rv a0, iv p1, iv (own_at bs p1), iv (own_at bm p1), iv (-1:Int32), .unset] [(.int (own_at bs p1)), (.int p1), (.ref e6)])) rfl rfl (hb hby d6_114)
    have Kp894 : Keep h0 h894 [a0, e3, e4, e5, e6] := Kp0.wr W894 (Or.inl (List.mem_of_getElem? (i := 4) rfl))
    have Z896 : n0 ≤ h894.size := Nat.le_trans Z0 (Nat.le_of_eq W894.size.symm)
    have N894 := Fr.snoc X894 N0 gq_e6
    have Vw894 : own_Ints Z h894 e6 (bm.set p1.toNatClampNeg (own_at bs p1)) := V894
    refine own_pre st894 ?_
    refine own_pre (A := T894.setTop (mkF m 117 #[rv a0, iv p1, iv (own_at bs p1), iv (own_at bm p1), iv (-1:Int32), .unset] [(.int (-1:Int32))])) (fun t k => ?_) ?_
    · show Steps p.tables e below (T894.setTop (mkF m 115 #[rv a0, iv p1, iv (own_at bs p1), iv (own_at bm p1), iv (-1:Int32), .unset] [])) _
      refine XS.iload X894.here hx rfl (hb hby d6_115) rfl ?_
      exact k
    have hv897 : (-1:Int32) = f6 p1 el bo bs be bm bc tc := by simp only [f6, if_neg hs24_1]
    have F898 := (P1.other W894 (Or.inl nq_a0_e6))
    have F899 := (P2.other W894 (Or.inl nq_a0_e6))
    have F900 := (P3.other W894 (Or.inl nq_a0_e6))
    have F901 := (P4.other W894 (Or.inl nq_a0_e6))
    have F902 := (P5.other W894 (Or.inl nq_a0_e6))
    have F903 := (P6.other W894 (Or.inl nq_a0_e6))
    have F904 := (P7.other W894 (Or.inl nq_a0_e6))
    have F905 := (P8.other W894 (Or.inl nq_a0_e6))
    have F906 := (P9.other W894 (Or.inl nq_a0_e6))
    have F907 := (P11.other W894 nq_e3_e6)
    have F908 := (P12.other W894 nq_e4_e6)
    have F909 := (P13.other W894 nq_e5_e6)
    exact own_end X894 (BodyLoose.notSynchronized Bd) (fun h => by rw [Bd.returns] at h; cases h) (v := some (.int (-1:Int32))) (fun fs hr => retOut X894 hx Bd.returns rfl (by simp [Value.isRef, FieldType.isReference]) (hb hby d6_117) hr) (by show Q6 Z a0 p1 e1 e2 e3 e4 e5 e6 e7 el bo bs be bm bc tc h0 n0 _ T894.heap _; rw [e894]; exact ⟨(congrArg (fun z => some (Value.int z)) hv897), N894, Kp894, (by first | exact F898 | (simp only [if_neg hs24_1]; exact F898)), (by first | exact F899 | (simp only [if_neg hs24_1]; exact F899)), (by first | exact F900 | (simp only [if_neg hs24_1]; exact F900)), (by first | exact F901 | (simp only [if_neg hs24_1]; exact F901)), (by first | exact F902 | (simp only [if_neg hs24_1]; exact F902)), (by first | exact F903 | (simp only [if_neg hs24_1]; exact F903)), (by first | exact F904 | (simp only [if_neg hs24_1]; exact F904)), (by simp only [g6_bc, if_neg hs24_1]; exact F905), (by first | exact F906 | (simp only [if_neg hs24_1]; exact F906)), (by simp only [g6_bo, if_neg hs24_1]; exact F907), (by simp only [g6_bs, if_neg hs24_1]; exact F908), (by simp only [g6_be, if_neg hs24_1]; exact F909), (by simp only [g6_bm, if_neg hs24_1]; exact Vw894)⟩) (by decide) (by decide)
theorem d7_0 : decode method_3_code 0 = .ok (.iload_n 0, 1) := by decide +kernel
theorem d7_1 : decode method_3_code 1 = .ok (.iconst 1, 1) := by decide +kernel
theorem d7_2 : decode method_3_code 2 = .ok (.iand, 1) := by decide +kernel
theorem d7_3 : decode method_3_code 3 = .ok (.iload_n 0, 1) := by decide +kernel
theorem d7_4 : decode method_3_code 4 = .ok (.iconst 1, 1) := by decide +kernel
theorem d7_5 : decode method_3_code 5 = .ok (.iushr, 1) := by decide +kernel
theorem d7_6 : decode method_3_code 6 = .ok (.iconst 1, 1) := by decide +kernel
theorem d7_7 : decode method_3_code 7 = .ok (.iand, 1) := by decide +kernel
theorem d7_8 : decode method_3_code 8 = .ok (.iadd, 1) := by decide +kernel
theorem d7_9 : decode method_3_code 9 = .ok (.iload_n 0, 1) := by decide +kernel
theorem d7_10 : decode method_3_code 10 = .ok (.iconst 2, 1) := by decide +kernel
theorem d7_11 : decode method_3_code 11 = .ok (.iushr, 1) := by decide +kernel
theorem d7_12 : decode method_3_code 12 = .ok (.iconst 1, 1) := by decide +kernel
theorem d7_13 : decode method_3_code 13 = .ok (.iand, 1) := by decide +kernel
theorem d7_14 : decode method_3_code 14 = .ok (.iadd, 1) := by decide +kernel
theorem d7_15 : decode method_3_code 15 = .ok (.iload_n 0, 1) := by decide +kernel
theorem d7_16 : decode method_3_code 16 = .ok (.iconst 3, 1) := by decide +kernel
theorem d7_17 : decode method_3_code 17 = .ok (.iushr, 1) := by decide +kernel
theorem d7_18 : decode method_3_code 18 = .ok (.iconst 1, 1) := by decide +kernel
theorem d7_19 : decode method_3_code 19 = .ok (.iand, 1) := by decide +kernel
theorem d7_20 : decode method_3_code 20 = .ok (.iadd, 1) := by decide +kernel
theorem d7_21 : decode method_3_code 21 = .ok (.ireturn, 1) := by decide +kernel
theorem ef7 (m : MethodId) (p0 : Int32) : entryFrame m #[(.int p0)] 1 = mkF m 0 #[iv p0] [] := by first | (simp [entryFrame, mkF, argsToLocals, Value.category]; done) | rfl
def f7 (p0 : Int32) : Int32 := ((((p0 &&& (1:Int32)) + (((p0.toUInt32 >>> ((1:Int32) &&& 31).toUInt32).toInt32) &&& (1:Int32))) + (((p0.toUInt32 >>> ((2:Int32) &&& 31).toUInt32).toInt32) &&& (1:Int32))) + (((p0.toUInt32 >>> ((3:Int32) &&& 31).toUInt32).toInt32) &&& (1:Int32)))
def Q7 (Z : State) (p0 : Int32)  (h0 : Heap) (n0 : Nat) (v : Option Value) (h : Heap) (L : List Loc) : Prop := v = some (.int (f7 p0)) ∧ Fr n0 L ∧ h = h0
set_option maxRecDepth 65536 in
set_option maxHeartbeats 40000000 in
theorem rm7 (l : Launch) (Z : State) (aZ : Array Value) (hw : ∀ d ∈ tables_1, d.before aZ Z = true) (ws : List Jvm.Cond) (p0 : Int32)  (h0 : Heap) (n0 : Nat) (Z0 : n0 ≤ h0.size)  :
    MetFree l (⟨"com/example/spare_calculus/sparecalculus/bisim/PartitionSplitOffMarkedPinLaw", "pop", "(I)I"⟩ : MethodName) (head1 (Jvm.Cond.code (⟨"com/example/spare_calculus/sparecalculus/bisim/PartitionSplitOffMarkedPinLaw", "pop", "(I)I"⟩ : MethodName) method_3_code 1 (some .int) :: ws) ({ frames := 0, cells := 0, slots := 0, locals := 0 } : Room)) (fun a U => a = #[(.int p0)] ∧ Z.Warmed39 U.vm ∧ U.heap = h0) (fun _ _ _ _ _ => True) (fun _ U o U' => ∃ v L, o = .returned v ∧ Q7 Z p0 h0 n0 v U'.heap L ∧ FrameEnd U o U' L ({ frames := 0, cells := 0, slots := 0, locals := 0 } : Room).cells ({ frames := 0, cells := 0, slots := 0, locals := 0 } : Room).slots) := by
  refine MetFree.of_bodySF (plainFor_of_name own_pn1) hisR ?_
  intro p e s m args below meth c s₁ Bd hml0 hP hK
  obtain ⟨rfl, hZ, hh⟩ := hP
  have hx := Bd.exec
  have hby := Bd.bytes
  have hml : c.maxLocals = 1 := hml0
  have hown : s.vm.findClass "com/example/spare_calculus/sparecalculus/bisim/PartitionSplitOffMarkedPinLaw" = some m.cls := findClass_of_methodNamed Bd.named
  have hnm := (name_of_methodNamed Bd.named Bd.method).1
  have X0 : Stand p l e ({ frames := 0, cells := 0, slots := 0, locals := 0 } : Room) s m #[(.int p0)] below meth c s₁ [] 0 0 := Stand.of_body Bd
  have e0 : s₁.heap = h0 := by rw [← hh, Bd.state]; rfl
  have N0 := Fr.nil n0
  show own_Goes p e below s (Q7 Z p0 h0 n0) ({ frames := 0, cells := 0, slots := 0, locals := 0 } : Room).cells ({ frames := 0, cells := 0, slots := 0, locals := 0 } : Room).slots _
  refine own_pre (fun t k => castTop (ef7 m p0) k) ?_
  refine own_pre (A := s₁.setTop (mkF m 21 #[iv p0] [(.int ((((p0 &&& (1:Int32)) + (((p0.toUInt32 >>> ((1:Int32) &&& 31).toUInt32).toInt32) &&& (1:Int32))) + (((p0.toUInt32 >>> ((2:Int32) &&& 31).toUInt32).toInt32) &&& (1:Int32))) + (((p0.toUInt32 >>> ((3:Int32) &&& 31).toUInt32).toInt32) &&& (1:Int32))))])) (fun t k => ?_) ?_
  · show Steps p.tables e below (s₁.setTop (mkF m 0 #[iv p0] [])) _
    refine XS.iloadN X0.here hx rfl (hb hby d7_0) rfl ?_
    show Steps p.tables e below (s₁.setTop (mkF m 1 #[iv p0] [(.int p0)])) _
    refine XS.iconst X0.here hx rfl (hb hby d7_1) ?_
    show Steps p.tables e below (s₁.setTop (mkF m 2 #[iv p0] [(.int (1:Int32)), (.int p0)])) _
    refine XS.iand X0.here hx rfl (hb hby d7_2) rfl ?_
    show Steps p.tables e below (s₁.setTop (mkF m 3 #[iv p0] [(.int (p0 &&& (1:Int32)))])) _
    refine XS.iloadN X0.here hx rfl (hb hby d7_3) rfl ?_
    show Steps p.tables e below (s₁.setTop (mkF m 4 #[iv p0] [(.int p0), (.int (p0 &&& (1:Int32)))])) _
    refine XS.iconst X0.here hx rfl (hb hby d7_4) ?_
    show Steps p.tables e below (s₁.setTop (mkF m 5 #[iv p0] [(.int (1:Int32)), (.int p0), (.int (p0 &&& (1:Int32)))])) _
    refine XS.iushr X0.here hx rfl (hb hby d7_5) rfl ?_
    show Steps p.tables e below (s₁.setTop (mkF m 6 #[iv p0] [(.int ((p0.toUInt32 >>> ((1:Int32) &&& 31).toUInt32).toInt32)), (.int (p0 &&& (1:Int32)))])) _
    refine XS.iconst X0.here hx rfl (hb hby d7_6) ?_
    show Steps p.tables e below (s₁.setTop (mkF m 7 #[iv p0] [(.int (1:Int32)), (.int ((p0.toUInt32 >>> ((1:Int32) &&& 31).toUInt32).toInt32)), (.int (p0 &&& (1:Int32)))])) _
    refine XS.iand X0.here hx rfl (hb hby d7_7) rfl ?_
    show Steps p.tables e below (s₁.setTop (mkF m 8 #[iv p0] [(.int (((p0.toUInt32 >>> ((1:Int32) &&& 31).toUInt32).toInt32) &&& (1:Int32))), (.int (p0 &&& (1:Int32)))])) _
    refine XS.iadd X0.here hx rfl (hb hby d7_8) rfl ?_
    show Steps p.tables e below (s₁.setTop (mkF m 9 #[iv p0] [(.int ((p0 &&& (1:Int32)) + (((p0.toUInt32 >>> ((1:Int32) &&& 31).toUInt32).toInt32) &&& (1:Int32))))])) _
    refine XS.iloadN X0.here hx rfl (hb hby d7_9) rfl ?_
    show Steps p.tables e below (s₁.setTop (mkF m 10 #[iv p0] [(.int p0), (.int ((p0 &&& (1:Int32)) + (((p0.toUInt32 >>> ((1:Int32) &&& 31).toUInt32).toInt32) &&& (1:Int32))))])) _
    refine XS.iconst X0.here hx rfl (hb hby d7_10) ?_
    show Steps p.tables e below (s₁.setTop (mkF m 11 #[iv p0] [(.int (2:Int32)), (.int p0), (.int ((p0 &&& (1:Int32)) + (((p0.toUInt32 >>> ((1:Int32) &&& 31).toUInt32).toInt32) &&& (1:Int32))))])) _
    refine XS.iushr X0.here hx rfl (hb hby d7_11) rfl ?_
    show Steps p.tables e below (s₁.setTop (mkF m 12 #[iv p0] [(.int ((p0.toUInt32 >>> ((2:Int32) &&& 31).toUInt32).toInt32)), (.int ((p0 &&& (1:Int32)) + (((p0.toUInt32 >>> ((1:Int32) &&& 31).toUInt32).toInt32) &&& (1:Int32))))])) _
    refine XS.iconst X0.here hx rfl (hb hby d7_12) ?_
    show Steps p.tables e below (s₁.setTop (mkF m 13 #[iv p0] [(.int (1:Int32)), (.int ((p0.toUInt32 >>> ((2:Int32) &&& 31).toUInt32).toInt32)), (.int ((p0 &&& (1:Int32)) + (((p0.toUInt32 >>> ((1:Int32) &&& 31).toUInt32).toInt32) &&& (1:Int32))))])) _
    refine XS.iand X0.here hx rfl (hb hby d7_13) rfl ?_
    show Steps p.tables e below (s₁.setTop (mkF m 14 #[iv p0] [(.int (((p0.toUInt32 >>> ((2:Int32) &&& 31).toUInt32).toInt32) &&& (1:Int32))), (.int ((p0 &&& (1:Int32)) + (((p0.toUInt32 >>> ((1:Int32) &&& 31).toUInt32).toInt32) &&& (1:Int32))))])) _
    refine XS.iadd X0.here hx rfl (hb hby d7_14) rfl ?_
    show Steps p.tables e below (s₁.setTop (mkF m 15 #[iv p0] [(.int (((p0 &&& (1:Int32)) + (((p0.toUInt32 >>> ((1:Int32) &&& 31).toUInt32).toInt32) &&& (1:Int32))) + (((p0.toUInt32 >>> ((2:Int32) &&& 31).toUInt32).toInt32) &&& (1:Int32))))])) _
    refine XS.iloadN X0.here hx rfl (hb hby d7_15) rfl ?_
    show Steps p.tables e below (s₁.setTop (mkF m 16 #[iv p0] [(.int p0), (.int (((p0 &&& (1:Int32)) + (((p0.toUInt32 >>> ((1:Int32) &&& 31).toUInt32).toInt32) &&& (1:Int32))) + (((p0.toUInt32 >>> ((2:Int32) &&& 31).toUInt32).toInt32) &&& (1:Int32))))])) _
    refine XS.iconst X0.here hx rfl (hb hby d7_16) ?_
    show Steps p.tables e below (s₁.setTop (mkF m 17 #[iv p0] [(.int (3:Int32)), (.int p0), (.int (((p0 &&& (1:Int32)) + (((p0.toUInt32 >>> ((1:Int32) &&& 31).toUInt32).toInt32) &&& (1:Int32))) + (((p0.toUInt32 >>> ((2:Int32) &&& 31).toUInt32).toInt32) &&& (1:Int32))))])) _
    refine XS.iushr X0.here hx rfl (hb hby d7_17) rfl ?_
    show Steps p.tables e below (s₁.setTop (mkF m 18 #[iv p0] [(.int ((p0.toUInt32 >>> ((3:Int32) &&& 31).toUInt32).toInt32)), (.int (((p0 &&& (1:Int32)) + (((p0.toUInt32 >>> ((1:Int32) &&& 31).toUInt32).toInt32) &&& (1:Int32))) + (((p0.toUInt32 >>> ((2:Int32) &&& 31).toUInt32).toInt32) &&& (1:Int32))))])) _
    refine XS.iconst X0.here hx rfl (hb hby d7_18) ?_
    show Steps p.tables e below (s₁.setTop (mkF m 19 #[iv p0] [(.int (1:Int32)), (.int ((p0.toUInt32 >>> ((3:Int32) &&& 31).toUInt32).toInt32)), (.int (((p0 &&& (1:Int32)) + (((p0.toUInt32 >>> ((1:Int32) &&& 31).toUInt32).toInt32) &&& (1:Int32))) + (((p0.toUInt32 >>> ((2:Int32) &&& 31).toUInt32).toInt32) &&& (1:Int32))))])) _
    refine XS.iand X0.here hx rfl (hb hby d7_19) rfl ?_
    show Steps p.tables e below (s₁.setTop (mkF m 20 #[iv p0] [(.int (((p0.toUInt32 >>> ((3:Int32) &&& 31).toUInt32).toInt32) &&& (1:Int32))), (.int (((p0 &&& (1:Int32)) + (((p0.toUInt32 >>> ((1:Int32) &&& 31).toUInt32).toInt32) &&& (1:Int32))) + (((p0.toUInt32 >>> ((2:Int32) &&& 31).toUInt32).toInt32) &&& (1:Int32))))])) _
    refine XS.iadd X0.here hx rfl (hb hby d7_20) rfl ?_
    exact k
  have hv910 : ((((p0 &&& (1:Int32)) + (((p0.toUInt32 >>> ((1:Int32) &&& 31).toUInt32).toInt32) &&& (1:Int32))) + (((p0.toUInt32 >>> ((2:Int32) &&& 31).toUInt32).toInt32) &&& (1:Int32))) + (((p0.toUInt32 >>> ((3:Int32) &&& 31).toUInt32).toInt32) &&& (1:Int32))) = f7 p0 := by rfl
  exact own_end X0 (BodyLoose.notSynchronized Bd) (fun h => by rw [Bd.returns] at h; cases h) (v := some (.int ((((p0 &&& (1:Int32)) + (((p0.toUInt32 >>> ((1:Int32) &&& 31).toUInt32).toInt32) &&& (1:Int32))) + (((p0.toUInt32 >>> ((2:Int32) &&& 31).toUInt32).toInt32) &&& (1:Int32))) + (((p0.toUInt32 >>> ((3:Int32) &&& 31).toUInt32).toInt32) &&& (1:Int32))))) (fun fs hr => retOut X0 hx Bd.returns rfl (by simp [Value.isRef, FieldType.isReference]) (hb hby d7_21) hr) (by show Q7 Z p0 h0 n0 _ s₁.heap _; rw [e0]; exact ⟨(congrArg (fun z => some (Value.int z)) hv910), N0, rfl⟩) (by decide) (by decide)
theorem d13_0 : decode method_5_code 0 = .ok (.iload_n 3, 1) := by decide +kernel
theorem d13_1 : decode method_5_code 1 = .ok (.iload_n 0, 1) := by decide +kernel
theorem d13_2 : decode method_5_code 2 = .ok (.invokestatic 7, 3) := by decide +kernel
theorem d13_5 : decode method_5_code 5 = .ok (.ifCond .eq 11, 3) := by decide +kernel
theorem d13_8 : decode method_5_code 8 = .ok (.iload 4, 2) := by decide +kernel
theorem d13_10 : decode method_5_code 10 = .ok (.ifCond .ne 6, 3) := by decide +kernel
theorem d13_13 : decode method_5_code 13 = .ok (.iload 5, 2) := by decide +kernel
theorem d13_15 : decode method_5_code 15 = .ok (.ireturn, 1) := by decide +kernel
theorem d13_16 : decode method_5_code 16 = .ok (.iload_n 1, 1) := by decide +kernel
theorem d13_17 : decode method_5_code 17 = .ok (.iload_n 0, 1) := by decide +kernel
theorem d13_18 : decode method_5_code 18 = .ok (.invokestatic 7, 3) := by decide +kernel
theorem d13_21 : decode method_5_code 21 = .ok (.ifCond .eq 9, 3) := by decide +kernel
theorem d13_24 : decode method_5_code 24 = .ok (.iload_n 2, 1) := by decide +kernel
theorem d13_25 : decode method_5_code 25 = .ok (.ifCond .ne 5, 3) := by decide +kernel
theorem d13_28 : decode method_5_code 28 = .ok (.iconst 1, 1) := by decide +kernel
theorem d13_29 : decode method_5_code 29 = .ok (.ireturn, 1) := by decide +kernel
theorem d13_30 : decode method_5_code 30 = .ok (.iconst 0, 1) := by decide +kernel
theorem d13_31 : decode method_5_code 31 = .ok (.ireturn, 1) := by decide +kernel
theorem ef13 (m : MethodId) (p0 : Int32) (p1 : Int32) (p2 : Int32) (p3 : Int32) (p4 : Int32) (p5 : Int32) : entryFrame m #[(.int p0), (.int p1), (.int p2), (.int p3), (.int p4), (.int p5)] 6 = mkF m 0 #[iv p0, iv p1, iv p2, iv p3, iv p4, iv p5] [] := by first | (simp [entryFrame, mkF, argsToLocals, Value.category]; done) | rfl
def f13 (p0 : Int32) (p1 : Int32) (p2 : Int32) (p3 : Int32) (p4 : Int32) (p5 : Int32) : Int32 := (if (f4 p3 p0) = (0:Int32) then (if (f4 p1 p0) = (0:Int32) then (0:Int32) else (if p2 = (0:Int32) then (1:Int32) else (0:Int32))) else (if p4 = (0:Int32) then p5 else (if (f4 p1 p0) = (0:Int32) then (0:Int32) else (if p2 = (0:Int32) then (1:Int32) else (0:Int32)))))
def Q13 (Z : State) (p0 : Int32) (p1 : Int32) (p2 : Int32) (p3 : Int32) (p4 : Int32) (p5 : Int32)  (h0 : Heap) (n0 : Nat) (v : Option Value) (h : Heap) (L : List Loc) : Prop := v = some (.int (f13 p0 p1 p2 p3 p4 p5)) ∧ Fr n0 L ∧ h = h0
set_option maxRecDepth 65536 in
set_option maxHeartbeats 40000000 in
theorem rm13 (l : Launch) (Z : State) (aZ : Array Value) (hw : ∀ d ∈ tables_1, d.before aZ Z = true) (ws : List Jvm.Cond) (p0 : Int32) (p1 : Int32) (p2 : Int32) (p3 : Int32) (p4 : Int32) (p5 : Int32)  (h0 : Heap) (n0 : Nat) (Z0 : n0 ≤ h0.size)  :
    MetFree l (⟨"com/example/spare_calculus/sparecalculus/bisim/PartitionSplitOffMarkedPinLaw", "expBlock", "(IIZIZI)I"⟩ : MethodName) (head1 (Jvm.Cond.code (⟨"com/example/spare_calculus/sparecalculus/bisim/PartitionSplitOffMarkedPinLaw", "expBlock", "(IIZIZI)I"⟩ : MethodName) method_5_code 6 (some .int) :: ws) ({ frames := 1, cells := 0, slots := 0, locals := 13 } : Room)) (fun a U => a = #[(.int p0), (.int p1), (.int p2), (.int p3), (.int p4), (.int p5)] ∧ Z.Warmed39 U.vm ∧ U.heap = h0) (fun _ _ _ _ _ => True) (fun _ U o U' => ∃ v L, o = .returned v ∧ Q13 Z p0 p1 p2 p3 p4 p5 h0 n0 v U'.heap L ∧ FrameEnd U o U' L ({ frames := 1, cells := 0, slots := 0, locals := 13 } : Room).cells ({ frames := 1, cells := 0, slots := 0, locals := 13 } : Room).slots) := by
  refine MetFree.of_bodySF (plainFor_of_name own_pn1) hisR ?_
  intro p e s m args below meth c s₁ Bd hml0 hP hK
  obtain ⟨rfl, hZ, hh⟩ := hP
  have hx := Bd.exec
  have hby := Bd.bytes
  have hml : c.maxLocals = 6 := hml0
  have hown : s.vm.findClass "com/example/spare_calculus/sparecalculus/bisim/PartitionSplitOffMarkedPinLaw" = some m.cls := findClass_of_methodNamed Bd.named
  have hnm := (name_of_methodNamed Bd.named Bd.method).1
  have X0 : Stand p l e ({ frames := 1, cells := 0, slots := 0, locals := 13 } : Room) s m #[(.int p0), (.int p1), (.int p2), (.int p3), (.int p4), (.int p5)] below meth c s₁ [] 0 0 := Stand.of_body Bd
  have e0 : s₁.heap = h0 := by rw [← hh, Bd.state]; rfl
  have N0 := Fr.nil n0
  show own_Goes p e below s (Q13 Z p0 p1 p2 p3 p4 p5 h0 n0) ({ frames := 1, cells := 0, slots := 0, locals := 13 } : Room).cells ({ frames := 1, cells := 0, slots := 0, locals := 13 } : Room).slots _
  refine own_pre (fun t k => castTop (ef13 m p0 p1 p2 p3 p4 p5) k) ?_
  refine own_pre (A := s₁.setTop (mkF m 2 #[iv p0, iv p1, iv p2, iv p3, iv p4, iv p5] [(.int p0), (.int p3)])) (fun t k => ?_) ?_
  · show Steps p.tables e below (s₁.setTop (mkF m 0 #[iv p0, iv p1, iv p2, iv p3, iv p4, iv p5] [])) _
    refine XS.iloadN X0.here hx rfl (hb hby d13_0) rfl ?_
    show Steps p.tables e below (s₁.setTop (mkF m 1 #[iv p0, iv p1, iv p2, iv p3, iv p4, iv p5] [(.int p3)])) _
    refine XS.iloadN X0.here hx rfl (hb hby d13_1) rfl ?_
    exact k
  obtain ⟨_, _, ⟨T911, L911, k911, n911⟩, -, X911, ⟨Lc911, hQ911, l911, y911, z911⟩, st911⟩ := Jvm.LawKit.callS X0 hx (y := (⟨"com/example/spare_calculus/sparecalculus/bisim/PartitionSplitOffMarkedPinLaw", "bit", "(II)Z"⟩ : MethodName)) hown (mvT hZ (own_h hw 30 rfl)) (mvT hZ (own_h hw 31 rfl)) (mvT hZ (own_h hw 28 rfl)) (mvT hZ (own_h hw 32 rfl)) (by decide) (backOf (W := 0) (rm4 l Z aZ hw [] p3 p0 h0 n0 Z0 ) hZ (own_h hw 32 rfl) (own_h hw 28 rfl) (by decide) (by decide)) (g := (mkF m 2 #[iv p0, iv p1, iv p2, iv p3, iv p4, iv p5] [(.int p0), (.int p3)])) rfl (by rw [hml]; rfl) (argsL := [(.int p3), (.int p0)]) (rest := []) (lenOf own_pd0 rfl) rfl (by show 2 * 0 + _ ≤ _; exact Nat.le_of_eq rfl) (hb hby d13_2) (fun _ _ => ⟨rfl, e0, (by decide : 0 + 0 ≤ _), (by decide : 0 + 0 ≤ _)⟩)
  dsimp only [Pt.U, Pt.locs, Pt.cells, Pt.slots] at X911 l911 y911 z911 st911 hQ911
  subst l911 y911 z911
  obtain ⟨rfl, N911q, eh911⟩ := hQ911
  have N911 := Fr.app N0 N911q
  refine own_pre st911 ?_
  by_cases hs5_1 : (f4 p3 p0) = (0:Int32)
  · refine own_pre (A := T911.setTop (mkF m 18 #[iv p0, iv p1, iv p2, iv p3, iv p4, iv p5] [(.int p0), (.int p1)])) (fun t k => ?_) ?_
    · show Steps p.tables e below (T911.setTop (mkF m 5 #[iv p0, iv p1, iv p2, iv p3, iv p4, iv p5] [(.int (f4 p3 p0))])) _
      refine XS.ifYes X911.here hx rfl (pc0 := 5) (pc' := 16) rfl (hb hby d13_5) rfl (XT.i0_eq_t hs5_1) (by decide) (by decide) ?_
      show Steps p.tables e below (T911.setTop (mkF m 16 #[iv p0, iv p1, iv p2, iv p3, iv p4, iv p5] [])) _
      refine XS.iloadN X911.here hx rfl (hb hby d13_16) rfl ?_
      show Steps p.tables e below (T911.setTop (mkF m 17 #[iv p0, iv p1, iv p2, iv p3, iv p4, iv p5] [(.int p1)])) _
      refine XS.iloadN X911.here hx rfl (hb hby d13_17) rfl ?_
      exact k
    obtain ⟨_, _, ⟨T912, L912, k912, n912⟩, -, X912, ⟨Lc912, hQ912, l912, y912, z912⟩, st912⟩ := Jvm.LawKit.callS X911 hx (y := (⟨"com/example/spare_calculus/sparecalculus/bisim/PartitionSplitOffMarkedPinLaw", "bit", "(II)Z"⟩ : MethodName)) hown (mvT hZ (own_h hw 30 rfl)) (mvT hZ (own_h hw 31 rfl)) (mvT hZ (own_h hw 28 rfl)) (mvT hZ (own_h hw 32 rfl)) (by decide) (backOf (W := 0) (rm4 l Z aZ hw [] p1 p0 h0 n0 Z0 ) hZ (own_h hw 32 rfl) (own_h hw 28 rfl) (by decide) (by decide)) (g := (mkF m 18 #[iv p0, iv p1, iv p2, iv p3, iv p4, iv p5] [(.int p0), (.int p1)])) rfl (by rw [hml]; rfl) (argsL := [(.int p1), (.int p0)]) (rest := []) (lenOf own_pd0 rfl) rfl (by show 2 * 0 + _ ≤ _; exact Nat.le_of_eq rfl) (hb hby d13_18) (fun _ _ => ⟨rfl, eh911, (by decide : 0 + 0 ≤ _), (by decide : 0 + 0 ≤ _)⟩)
    dsimp only [Pt.U, Pt.locs, Pt.cells, Pt.slots] at X912 l912 y912 z912 st912 hQ912
    subst l912 y912 z912
    obtain ⟨rfl, N912q, eh912⟩ := hQ912
    have N912 := Fr.app N911 N912q
    refine own_pre st912 ?_
    by_cases hs21_2 : (f4 p1 p0) = (0:Int32)
    · refine own_pre (A := T912.setTop (mkF m 31 #[iv p0, iv p1, iv p2, iv p3, iv p4, iv p5] [(.int (0:Int32))])) (fun t k => ?_) ?_
      · show Steps p.tables e below (T912.setTop (mkF m 21 #[iv p0, iv p1, iv p2, iv p3, iv p4, iv p5] [(.int (f4 p1 p0))])) _
        refine XS.ifYes X912.here hx rfl (pc0 := 21) (pc' := 30) rfl (hb hby d13_21) rfl (XT.i0_eq_t hs21_2) (by decide) (by decide) ?_
        show Steps p.tables e below (T912.setTop (mkF m 30 #[iv p0, iv p1, iv p2, iv p3, iv p4, iv p5] [])) _
        refine XS.iconst X912.here hx rfl (hb hby d13_30) ?_
        exact k
      have hv913 : (0:Int32) = f13 p0 p1 p2 p3 p4 p5 := by simp only [f13, if_pos hs5_1, if_pos hs21_2]
      exact own_end X912 (BodyLoose.notSynchronized Bd) (fun h => by rw [Bd.returns] at h; cases h) (v := some (.int (0:Int32))) (fun fs hr => retOut X912 hx Bd.returns rfl (by simp [Value.isRef, FieldType.isReference]) (hb hby d13_31) hr) (by show Q13 Z p0 p1 p2 p3 p4 p5 h0 n0 _ T912.heap _; rw [eh912]; exact ⟨(congrArg (fun z => some (Value.int z)) hv913), N912, rfl⟩) (by decide) (by decide)
    · refine own_pre (A := T912.setTop (mkF m 25 #[iv p0, iv p1, iv p2, iv p3, iv p4, iv p5] [(.int p2)])) (fun t k => ?_) ?_
      · show Steps p.tables e below (T912.setTop (mkF m 21 #[iv p0, iv p1, iv p2, iv p3, iv p4, iv p5] [(.int (f4 p1 p0))])) _
        refine XS.ifNo X912.here hx rfl (hb hby d13_21) rfl (XT.i0_eq_f hs21_2) ?_
        show Steps p.tables e below (T912.setTop (mkF m 24 #[iv p0, iv p1, iv p2, iv p3, iv p4, iv p5] [])) _
        refine XS.iloadN X912.here hx rfl (hb hby d13_24) rfl ?_
        exact k
      by_cases hs25_3 : p2 = (0:Int32)
      · refine own_pre (A := T912.setTop (mkF m 29 #[iv p0, iv p1, iv p2, iv p3, iv p4, iv p5] [(.int (1:Int32))])) (fun t k => ?_) ?_
        · show Steps p.tables e below (T912.setTop (mkF m 25 #[iv p0, iv p1, iv p2, iv p3, iv p4, iv p5] [(.int p2)])) _
          refine XS.ifNo X912.here hx rfl (hb hby d13_25) rfl (XT.i0_ne_f hs25_3) ?_
          show Steps p.tables e below (T912.setTop (mkF m 28 #[iv p0, iv p1, iv p2, iv p3, iv p4, iv p5] [])) _
          refine XS.iconst X912.here hx rfl (hb hby d13_28) ?_
          exact k
        have hv914 : (1:Int32) = f13 p0 p1 p2 p3 p4 p5 := by simp only [f13, if_pos hs5_1, if_neg hs21_2, if_pos hs25_3]
        exact own_end X912 (BodyLoose.notSynchronized Bd) (fun h => by rw [Bd.returns] at h; cases h) (v := some (.int (1:Int32))) (fun fs hr => retOut X912 hx Bd.returns rfl (by simp [Value.isRef, FieldType.isReference]) (hb hby d13_29) hr) (by show Q13 Z p0 p1 p2 p3 p4 p5 h0 n0 _ T912.heap _; rw [eh912]; exact ⟨(congrArg (fun z => some (Value.int z)) hv914), N912, rfl⟩) (by decide) (by decide)
      · refine own_pre (A := T912.setTop (mkF m 31 #[iv p0, iv p1, iv p2, iv p3, iv p4, iv p5] [(.int (0:Int32))])) (fun t k => ?_) ?_
        · show Steps p.tables e below (T912.setTop (mkF m 25 #[iv p0, iv p1, iv p2, iv p3, iv p4, iv p5] [(.int p2)])) _
          refine XS.ifYes X912.here hx rfl (pc0 := 25) (pc' := 30) rfl (hb hby d13_25) rfl (XT.i0_ne_t hs25_3) (by decide) (by decide) ?_
          show Steps p.tables e below (T912.setTop (mkF m 30 #[iv p0, iv p1, iv p2, iv p3, iv p4, iv p5] [])) _
          refine XS.iconst X912.here hx rfl (hb hby d13_30) ?_
          exact k
        have hv915 : (0:Int32) = f13 p0 p1 p2 p3 p4 p5 := by simp only [f13, if_pos hs5_1, if_neg hs21_2, if_neg hs25_3]
        exact own_end X912 (BodyLoose.notSynchronized Bd) (fun h => by rw [Bd.returns] at h; cases h) (v := some (.int (0:Int32))) (fun fs hr => retOut X912 hx Bd.returns rfl (by simp [Value.isRef, FieldType.isReference]) (hb hby d13_31) hr) (by show Q13 Z p0 p1 p2 p3 p4 p5 h0 n0 _ T912.heap _; rw [eh912]; exact ⟨(congrArg (fun z => some (Value.int z)) hv915), N912, rfl⟩) (by decide) (by decide)
  · refine own_pre (A := T911.setTop (mkF m 10 #[iv p0, iv p1, iv p2, iv p3, iv p4, iv p5] [(.int p4)])) (fun t k => ?_) ?_
    · show Steps p.tables e below (T911.setTop (mkF m 5 #[iv p0, iv p1, iv p2, iv p3, iv p4, iv p5] [(.int (f4 p3 p0))])) _
      refine XS.ifNo X911.here hx rfl (hb hby d13_5) rfl (XT.i0_eq_f hs5_1) ?_
      show Steps p.tables e below (T911.setTop (mkF m 8 #[iv p0, iv p1, iv p2, iv p3, iv p4, iv p5] [])) _
      refine XS.iload X911.here hx rfl (hb hby d13_8) rfl ?_
      exact k
    by_cases hs10_4 : p4 = (0:Int32)
    · refine own_pre (A := T911.setTop (mkF m 15 #[iv p0, iv p1, iv p2, iv p3, iv p4, iv p5] [(.int p5)])) (fun t k => ?_) ?_
      · show Steps p.tables e below (T911.setTop (mkF m 10 #[iv p0, iv p1, iv p2, iv p3, iv p4, iv p5] [(.int p4)])) _
        refine XS.ifNo X911.here hx rfl (hb hby d13_10) rfl (XT.i0_ne_f hs10_4) ?_
        show Steps p.tables e below (T911.setTop (mkF m 13 #[iv p0, iv p1, iv p2, iv p3, iv p4, iv p5] [])) _
        refine XS.iload X911.here hx rfl (hb hby d13_13) rfl ?_
        exact k
      have hv916 : p5 = f13 p0 p1 p2 p3 p4 p5 := by simp only [f13, if_neg hs5_1, if_pos hs10_4]
      exact own_end X911 (BodyLoose.notSynchronized Bd) (fun h => by rw [Bd.returns] at h; cases h) (v := some (.int p5)) (fun fs hr => retOut X911 hx Bd.returns rfl (by simp [Value.isRef, FieldType.isReference]) (hb hby d13_15) hr) (by show Q13 Z p0 p1 p2 p3 p4 p5 h0 n0 _ T911.heap _; rw [eh911]; exact ⟨(congrArg (fun z => some (Value.int z)) hv916), N911, rfl⟩) (by decide) (by decide)
    · refine own_pre (A := T911.setTop (mkF m 18 #[iv p0, iv p1, iv p2, iv p3, iv p4, iv p5] [(.int p0), (.int p1)])) (fun t k => ?_) ?_
      · show Steps p.tables e below (T911.setTop (mkF m 10 #[iv p0, iv p1, iv p2, iv p3, iv p4, iv p5] [(.int p4)])) _
        refine XS.ifYes X911.here hx rfl (pc0 := 10) (pc' := 16) rfl (hb hby d13_10) rfl (XT.i0_ne_t hs10_4) (by decide) (by decide) ?_
        show Steps p.tables e below (T911.setTop (mkF m 16 #[iv p0, iv p1, iv p2, iv p3, iv p4, iv p5] [])) _
        refine XS.iloadN X911.here hx rfl (hb hby d13_16) rfl ?_
        show Steps p.tables e below (T911.setTop (mkF m 17 #[iv p0, iv p1, iv p2, iv p3, iv p4, iv p5] [(.int p1)])) _
        refine XS.iloadN X911.here hx rfl (hb hby d13_17) rfl ?_
        exact k
      obtain ⟨_, _, ⟨T917, L917, k917, n917⟩, -, X917, ⟨Lc917, hQ917, l917, y917, z917⟩, st917⟩ := Jvm.LawKit.callS X911 hx (y := (⟨"com/example/spare_calculus/sparecalculus/bisim/PartitionSplitOffMarkedPinLaw", "bit", "(II)Z"⟩ : MethodName)) hown (mvT hZ (own_h hw 30 rfl)) (mvT hZ (own_h hw 31 rfl)) (mvT hZ (own_h hw 28 rfl)) (mvT hZ (own_h hw 32 rfl)) (by decide) (backOf (W := 0) (rm4 l Z aZ hw [] p1 p0 h0 n0 Z0 ) hZ (own_h hw 32 rfl) (own_h hw 28 rfl) (by decide) (by decide)) (g := (mkF m 18 #[iv p0, iv p1, iv p2, iv p3, iv p4, iv p5] [(.int p0), (.int p1)])) rfl (by rw [hml]; rfl) (argsL := [(.int p1), (.int p0)]) (rest := []) (lenOf own_pd0 rfl) rfl (by show 2 * 0 + _ ≤ _; exact Nat.le_of_eq rfl) (hb hby d13_18) (fun _ _ => ⟨rfl, eh911, (by decide : 0 + 0 ≤ _), (by decide : 0 + 0 ≤ _)⟩)
      dsimp only [Pt.U, Pt.locs, Pt.cells, Pt.slots] at X917 l917 y917 z917 st917 hQ917
      subst l917 y917 z917
      obtain ⟨rfl, N917q, eh917⟩ := hQ917
      have N917 := Fr.app N911 N917q
      refine own_pre st917 ?_
      by_cases hs21_5 : (f4 p1 p0) = (0:Int32)
      · refine own_pre (A := T917.setTop (mkF m 31 #[iv p0, iv p1, iv p2, iv p3, iv p4, iv p5] [(.int (0:Int32))])) (fun t k => ?_) ?_
        · show Steps p.tables e below (T917.setTop (mkF m 21 #[iv p0, iv p1, iv p2, iv p3, iv p4, iv p5] [(.int (f4 p1 p0))])) _
          refine XS.ifYes X917.here hx rfl (pc0 := 21) (pc' := 30) rfl (hb hby d13_21) rfl (XT.i0_eq_t hs21_5) (by decide) (by decide) ?_
          show Steps p.tables e below (T917.setTop (mkF m 30 #[iv p0, iv p1, iv p2, iv p3, iv p4, iv p5] [])) _
          refine XS.iconst X917.here hx rfl (hb hby d13_30) ?_
          exact k
        have hv918 : (0:Int32) = f13 p0 p1 p2 p3 p4 p5 := by simp only [f13, if_neg hs5_1, if_neg hs10_4, if_pos hs21_5]
        exact own_end X917 (BodyLoose.notSynchronized Bd) (fun h => by rw [Bd.returns] at h; cases h) (v := some (.int (0:Int32))) (fun fs hr => retOut X917 hx Bd.returns rfl (by simp [Value.isRef, FieldType.isReference]) (hb hby d13_31) hr) (by show Q13 Z p0 p1 p2 p3 p4 p5 h0 n0 _ T917.heap _; rw [eh917]; exact ⟨(congrArg (fun z => some (Value.int z)) hv918), N917, rfl⟩) (by decide) (by decide)
      · refine own_pre (A := T917.setTop (mkF m 25 #[iv p0, iv p1, iv p2, iv p3, iv p4, iv p5] [(.int p2)])) (fun t k => ?_) ?_
        · show Steps p.tables e below (T917.setTop (mkF m 21 #[iv p0, iv p1, iv p2, iv p3, iv p4, iv p5] [(.int (f4 p1 p0))])) _
          refine XS.ifNo X917.here hx rfl (hb hby d13_21) rfl (XT.i0_eq_f hs21_5) ?_
          show Steps p.tables e below (T917.setTop (mkF m 24 #[iv p0, iv p1, iv p2, iv p3, iv p4, iv p5] [])) _
          refine XS.iloadN X917.here hx rfl (hb hby d13_24) rfl ?_
          exact k
        by_cases hs25_6 : p2 = (0:Int32)
        · refine own_pre (A := T917.setTop (mkF m 29 #[iv p0, iv p1, iv p2, iv p3, iv p4, iv p5] [(.int (1:Int32))])) (fun t k => ?_) ?_
          · show Steps p.tables e below (T917.setTop (mkF m 25 #[iv p0, iv p1, iv p2, iv p3, iv p4, iv p5] [(.int p2)])) _
            refine XS.ifNo X917.here hx rfl (hb hby d13_25) rfl (XT.i0_ne_f hs25_6) ?_
            show Steps p.tables e below (T917.setTop (mkF m 28 #[iv p0, iv p1, iv p2, iv p3, iv p4, iv p5] [])) _
            refine XS.iconst X917.here hx rfl (hb hby d13_28) ?_
            exact k
          have hv919 : (1:Int32) = f13 p0 p1 p2 p3 p4 p5 := by simp only [f13, if_neg hs5_1, if_neg hs10_4, if_neg hs21_5, if_pos hs25_6]
          exact own_end X917 (BodyLoose.notSynchronized Bd) (fun h => by rw [Bd.returns] at h; cases h) (v := some (.int (1:Int32))) (fun fs hr => retOut X917 hx Bd.returns rfl (by simp [Value.isRef, FieldType.isReference]) (hb hby d13_29) hr) (by show Q13 Z p0 p1 p2 p3 p4 p5 h0 n0 _ T917.heap _; rw [eh917]; exact ⟨(congrArg (fun z => some (Value.int z)) hv919), N917, rfl⟩) (by decide) (by decide)
        · refine own_pre (A := T917.setTop (mkF m 31 #[iv p0, iv p1, iv p2, iv p3, iv p4, iv p5] [(.int (0:Int32))])) (fun t k => ?_) ?_
          · show Steps p.tables e below (T917.setTop (mkF m 25 #[iv p0, iv p1, iv p2, iv p3, iv p4, iv p5] [(.int p2)])) _
            refine XS.ifYes X917.here hx rfl (pc0 := 25) (pc' := 30) rfl (hb hby d13_25) rfl (XT.i0_ne_t hs25_6) (by decide) (by decide) ?_
            show Steps p.tables e below (T917.setTop (mkF m 30 #[iv p0, iv p1, iv p2, iv p3, iv p4, iv p5] [])) _
            refine XS.iconst X917.here hx rfl (hb hby d13_30) ?_
            exact k
          have hv920 : (0:Int32) = f13 p0 p1 p2 p3 p4 p5 := by simp only [f13, if_neg hs5_1, if_neg hs10_4, if_neg hs21_5, if_neg hs25_6]
          exact own_end X917 (BodyLoose.notSynchronized Bd) (fun h => by rw [Bd.returns] at h; cases h) (v := some (.int (0:Int32))) (fun fs hr => retOut X917 hx Bd.returns rfl (by simp [Value.isRef, FieldType.isReference]) (hb hby d13_31) hr) (by show Q13 Z p0 p1 p2 p3 p4 p5 h0 n0 _ T917.heap _; rw [eh917]; exact ⟨(congrArg (fun z => some (Value.int z)) hv920), N917, rfl⟩) (by decide) (by decide)
theorem d8_0 : decode prog_16_method_2_code 0 = .ok (.aload_n 0, 1) := by decide +kernel
theorem d8_1 : decode prog_16_method_2_code 1 = .ok (.getfield 31, 3) := by decide +kernel
theorem d8_4 : decode prog_16_method_2_code 4 = .ok (.ireturn, 1) := by decide +kernel
theorem ef8 (m : MethodId) (a0 : Addr) : entryFrame m #[(.ref a0)] 1 = mkF m 0 #[rv a0] [] := by first | (simp [entryFrame, mkF, argsToLocals, Value.category]; done) | rfl
def f8 (iv : Int32) : Int32 := iv
def Q8 (Z : State) (a0 : Addr) (iv : Int32) (h0 : Heap) (n0 : Nat) (v : Option Value) (h : Heap) (L : List Loc) : Prop := v = some (.int (f8 iv)) ∧ Fr n0 L ∧ h = h0
set_option maxRecDepth 65536 in
set_option maxHeartbeats 40000000 in
theorem rm8 (l : Launch) (Z : State) (aZ : Array Value) (hw : ∀ d ∈ tables_1, d.before aZ Z = true) (ws : List Jvm.Cond) (a0 : Addr) (iv : Int32) (h0 : Heap) (n0 : Nat) (Z0 : n0 ≤ h0.size) (P0 : Fld Z h0 a0 "com/example/spare_calculus/sparecalculus/bisim/Partition" "blockCount" "I" (.int iv)) :
    MetFree l (⟨"com/example/spare_calculus/sparecalculus/bisim/Partition", "blockCount", "()I"⟩ : MethodName) (head1 (Jvm.Cond.code (⟨"com/example/spare_calculus/sparecalculus/bisim/Partition", "blockCount", "()I"⟩ : MethodName) prog_16_method_2_code 1 (some .int) :: ws) ({ frames := 0, cells := 0, slots := 0, locals := 0 } : Room)) (fun a U => a = #[(.ref a0)] ∧ Z.Warmed39 U.vm ∧ U.heap = h0) (fun _ _ _ _ _ => True) (fun _ U o U' => ∃ v L, o = .returned v ∧ Q8 Z a0 iv h0 n0 v U'.heap L ∧ FrameEnd U o U' L ({ frames := 0, cells := 0, slots := 0, locals := 0 } : Room).cells ({ frames := 0, cells := 0, slots := 0, locals := 0 } : Room).slots) := by
  refine MetFree.of_bodySF (plainFor_of_name own_pn0) hisR ?_
  intro p e s m args below meth c s₁ Bd hml0 hP hK
  obtain ⟨rfl, hZ, hh⟩ := hP
  have hx := Bd.exec
  have hby := Bd.bytes
  have hml : c.maxLocals = 1 := hml0
  have hown : s.vm.findClass "com/example/spare_calculus/sparecalculus/bisim/Partition" = some m.cls := findClass_of_methodNamed Bd.named
  have hnm := (name_of_methodNamed Bd.named Bd.method).1
  have X0 : Stand p l e ({ frames := 0, cells := 0, slots := 0, locals := 0 } : Room) s m #[(.ref a0)] below meth c s₁ [] 0 0 := Stand.of_body Bd
  have e0 : s₁.heap = h0 := by rw [← hh, Bd.state]; rfl
  have N0 := Fr.nil n0
  show own_Goes p e below s (Q8 Z a0 iv h0 n0) ({ frames := 0, cells := 0, slots := 0, locals := 0 } : Room).cells ({ frames := 0, cells := 0, slots := 0, locals := 0 } : Room).slots _
  refine own_pre (fun t k => castTop (ef8 m a0) k) ?_
  refine own_pre (A := s₁.setTop (mkF m 1 #[rv a0] [(.ref a0)])) (fun t k => ?_) ?_
  · show Steps p.tables e below (s₁.setTop (mkF m 0 #[rv a0] [])) _
    refine XS.aloadN X0.here hx rfl (hb hby d8_0) rfl rfl ?_
    exact k
  obtain ⟨T921, X921, e921, st921⟩ := getF X0 hx hZ hown (host := "") (Or.inl (own_h hw 24 rfl)) Via.refl e0 P0 (g := (mkF m 1 #[rv a0] [(.ref a0)])) rfl rfl (hb hby d8_1)
  refine own_pre st921 ?_
  have hv922 : iv = f8 iv := by rfl
  exact own_end X921 (BodyLoose.notSynchronized Bd) (fun h => by rw [Bd.returns] at h; cases h) (v := some (.int iv)) (fun fs hr => retOut X921 hx Bd.returns rfl (by simp [Value.isRef, FieldType.isReference]) (hb hby d8_4) hr) (by show Q8 Z a0 iv h0 n0 _ T921.heap _; rw [e921]; exact ⟨(congrArg (fun z => some (Value.int z)) hv922), N0, rfl⟩) (by decide) (by decide)
theorem d9_0 : decode prog_16_method_4_code 0 = .ok (.aload_n 0, 1) := by decide +kernel
theorem d9_1 : decode prog_16_method_4_code 1 = .ok (.getfield 19, 3) := by decide +kernel
theorem d9_4 : decode prog_16_method_4_code 4 = .ok (.iload_n 1, 1) := by decide +kernel
theorem d9_5 : decode prog_16_method_4_code 5 = .ok (.iaload, 1) := by decide +kernel
theorem d9_6 : decode prog_16_method_4_code 6 = .ok (.ireturn, 1) := by decide +kernel
theorem ef9 (m : MethodId) (a0 : Addr) (p1 : Int32) : entryFrame m #[(.ref a0), (.int p1)] 2 = mkF m 0 #[rv a0, iv p1] [] := by first | (simp [entryFrame, mkF, argsToLocals, Value.category]; done) | rfl
def f9 (p1 : Int32) (bs : List Int32) : Int32 := (own_at bs p1)
def Q9 (Z : State) (a0 : Addr) (p1 : Int32) (e4 : Addr) (bs : List Int32) (h0 : Heap) (n0 : Nat) (v : Option Value) (h : Heap) (L : List Loc) : Prop := v = some (.int (f9 p1 bs)) ∧ Fr n0 L ∧ h = h0
set_option maxRecDepth 65536 in
set_option maxHeartbeats 40000000 in
theorem rm9 (l : Launch) (Z : State) (aZ : Array Value) (hw : ∀ d ∈ tables_1, d.before aZ Z = true) (ws : List Jvm.Cond) (a0 : Addr) (p1 : Int32) (e4 : Addr) (bs : List Int32) (h0 : Heap) (n0 : Nat) (Z0 : n0 ≤ h0.size) (P0 : Fld Z h0 a0 "com/example/spare_calculus/sparecalculus/bisim/Partition" "blockStart" "[I" (.ref e4)) (P1 : own_Ints Z h0 e4 bs) (hin : own_In p1 bs.length) :
    MetFree l (⟨"com/example/spare_calculus/sparecalculus/bisim/Partition", "start", "(I)I"⟩ : MethodName) (head1 (Jvm.Cond.code (⟨"com/example/spare_calculus/sparecalculus/bisim/Partition", "start", "(I)I"⟩ : MethodName) prog_16_method_4_code 2 (some .int) :: ws) ({ frames := 0, cells := 0, slots := 0, locals := 0 } : Room)) (fun a U => a = #[(.ref a0), (.int p1)] ∧ Z.Warmed39 U.vm ∧ U.heap = h0) (fun _ _ _ _ _ => True) (fun _ U o U' => ∃ v L, o = .returned v ∧ Q9 Z a0 p1 e4 bs h0 n0 v U'.heap L ∧ FrameEnd U o U' L ({ frames := 0, cells := 0, slots := 0, locals := 0 } : Room).cells ({ frames := 0, cells := 0, slots := 0, locals := 0 } : Room).slots) := by
  refine MetFree.of_bodySF (plainFor_of_name own_pn0) hisR ?_
  intro p e s m args below meth c s₁ Bd hml0 hP hK
  obtain ⟨rfl, hZ, hh⟩ := hP
  have hx := Bd.exec
  have hby := Bd.bytes
  have hml : c.maxLocals = 2 := hml0
  have hown : s.vm.findClass "com/example/spare_calculus/sparecalculus/bisim/Partition" = some m.cls := findClass_of_methodNamed Bd.named
  have hnm := (name_of_methodNamed Bd.named Bd.method).1
  have X0 : Stand p l e ({ frames := 0, cells := 0, slots := 0, locals := 0 } : Room) s m #[(.ref a0), (.int p1)] below meth c s₁ [] 0 0 := Stand.of_body Bd
  have e0 : s₁.heap = h0 := by rw [← hh, Bd.state]; rfl
  have N0 := Fr.nil n0
  show own_Goes p e below s (Q9 Z a0 p1 e4 bs h0 n0) ({ frames := 0, cells := 0, slots := 0, locals := 0 } : Room).cells ({ frames := 0, cells := 0, slots := 0, locals := 0 } : Room).slots _
  refine own_pre (fun t k => castTop (ef9 m a0 p1) k) ?_
  refine own_pre (A := s₁.setTop (mkF m 1 #[rv a0, iv p1] [(.ref a0)])) (fun t k => ?_) ?_
  · show Steps p.tables e below (s₁.setTop (mkF m 0 #[rv a0, iv p1] [])) _
    refine XS.aloadN X0.here hx rfl (hb hby d9_0) rfl rfl ?_
    exact k
  obtain ⟨T923, X923, e923, st923⟩ := getF X0 hx hZ hown (host := "") (Or.inl (own_h hw 16 rfl)) Via.refl e0 P0 (g := (mkF m 1 #[rv a0, iv p1] [(.ref a0)])) rfl rfl (hb hby d9_1)
  refine own_pre st923 ?_
  have hbn924 : own_In p1 bs.length := hin
  refine own_pre (A := T923.setTop (mkF m 6 #[rv a0, iv p1] [(.int (own_at bs p1))])) (fun t k => ?_) ?_
  · show Steps p.tables e below (T923.setTop (mkF m 4 #[rv a0, iv p1] [(.ref e4)])) _
    refine XS.iloadN X923.here hx rfl (hb hby d9_4) rfl ?_
    show Steps p.tables e below (T923.setTop (mkF m 5 #[rv a0, iv p1] [(.int p1), (.ref e4)])) _
    refine own_iaload X923 hx hZ e923 P1 hbn924 (g := (mkF m 5 #[rv a0, iv p1] [(.int p1), (.ref e4)])) rfl rfl (hb hby d9_5) ?_
    exact k
  have hv925 : (own_at bs p1) = f9 p1 bs := by rfl
  exact own_end X923 (BodyLoose.notSynchronized Bd) (fun h => by rw [Bd.returns] at h; cases h) (v := some (.int (own_at bs p1))) (fun fs hr => retOut X923 hx Bd.returns rfl (by simp [Value.isRef, FieldType.isReference]) (hb hby d9_6) hr) (by show Q9 Z a0 p1 e4 bs h0 n0 _ T923.heap _; rw [e923]; exact ⟨(congrArg (fun z => some (Value.int z)) hv925), N0, rfl⟩) (by decide) (by decide)
theorem d10_0 : decode prog_16_method_5_code 0 = .ok (.aload_n 0, 1) := by decide +kernel
theorem d10_1 : decode prog_16_method_5_code 1 = .ok (.getfield 22, 3) := by decide +kernel
theorem d10_4 : decode prog_16_method_5_code 4 = .ok (.iload_n 1, 1) := by decide +kernel
theorem d10_5 : decode prog_16_method_5_code 5 = .ok (.iaload, 1) := by decide +kernel
theorem d10_6 : decode prog_16_method_5_code 6 = .ok (.ireturn, 1) := by decide +kernel
theorem ef10 (m : MethodId) (a0 : Addr) (p1 : Int32) : entryFrame m #[(.ref a0), (.int p1)] 2 = mkF m 0 #[rv a0, iv p1] [] := by first | (simp [entryFrame, mkF, argsToLocals, Value.category]; done) | rfl
def f10 (p1 : Int32) (be : List Int32) : Int32 := (own_at be p1)
def Q10 (Z : State) (a0 : Addr) (p1 : Int32) (e5 : Addr) (be : List Int32) (h0 : Heap) (n0 : Nat) (v : Option Value) (h : Heap) (L : List Loc) : Prop := v = some (.int (f10 p1 be)) ∧ Fr n0 L ∧ h = h0
set_option maxRecDepth 65536 in
set_option maxHeartbeats 40000000 in
theorem rm10 (l : Launch) (Z : State) (aZ : Array Value) (hw : ∀ d ∈ tables_1, d.before aZ Z = true) (ws : List Jvm.Cond) (a0 : Addr) (p1 : Int32) (e5 : Addr) (be : List Int32) (h0 : Heap) (n0 : Nat) (Z0 : n0 ≤ h0.size) (P0 : Fld Z h0 a0 "com/example/spare_calculus/sparecalculus/bisim/Partition" "blockEnd" "[I" (.ref e5)) (P1 : own_Ints Z h0 e5 be) (hin : own_In p1 be.length) :
    MetFree l (⟨"com/example/spare_calculus/sparecalculus/bisim/Partition", "end", "(I)I"⟩ : MethodName) (head1 (Jvm.Cond.code (⟨"com/example/spare_calculus/sparecalculus/bisim/Partition", "end", "(I)I"⟩ : MethodName) prog_16_method_5_code 2 (some .int) :: ws) ({ frames := 0, cells := 0, slots := 0, locals := 0 } : Room)) (fun a U => a = #[(.ref a0), (.int p1)] ∧ Z.Warmed39 U.vm ∧ U.heap = h0) (fun _ _ _ _ _ => True) (fun _ U o U' => ∃ v L, o = .returned v ∧ Q10 Z a0 p1 e5 be h0 n0 v U'.heap L ∧ FrameEnd U o U' L ({ frames := 0, cells := 0, slots := 0, locals := 0 } : Room).cells ({ frames := 0, cells := 0, slots := 0, locals := 0 } : Room).slots) := by
  refine MetFree.of_bodySF (plainFor_of_name own_pn0) hisR ?_
  intro p e s m args below meth c s₁ Bd hml0 hP hK
  obtain ⟨rfl, hZ, hh⟩ := hP
  have hx := Bd.exec
  have hby := Bd.bytes
  have hml : c.maxLocals = 2 := hml0
  have hown : s.vm.findClass "com/example/spare_calculus/sparecalculus/bisim/Partition" = some m.cls := findClass_of_methodNamed Bd.named
  have hnm := (name_of_methodNamed Bd.named Bd.method).1
  have X0 : Stand p l e ({ frames := 0, cells := 0, slots := 0, locals := 0 } : Room) s m #[(.ref a0), (.int p1)] below meth c s₁ [] 0 0 := Stand.of_body Bd
  have e0 : s₁.heap = h0 := by rw [← hh, Bd.state]; rfl
  have N0 := Fr.nil n0
  show own_Goes p e below s (Q10 Z a0 p1 e5 be h0 n0) ({ frames := 0, cells := 0, slots := 0, locals := 0 } : Room).cells ({ frames := 0, cells := 0, slots := 0, locals := 0 } : Room).slots _
  refine own_pre (fun t k => castTop (ef10 m a0 p1) k) ?_
  refine own_pre (A := s₁.setTop (mkF m 1 #[rv a0, iv p1] [(.ref a0)])) (fun t k => ?_) ?_
  · show Steps p.tables e below (s₁.setTop (mkF m 0 #[rv a0, iv p1] [])) _
    refine XS.aloadN X0.here hx rfl (hb hby d10_0) rfl rfl ?_
    exact k
  obtain ⟨T926, X926, e926, st926⟩ := getF X0 hx hZ hown (host := "") (Or.inl (own_h hw 18 rfl)) Via.refl e0 P0 (g := (mkF m 1 #[rv a0, iv p1] [(.ref a0)])) rfl rfl (hb hby d10_1)
  refine own_pre st926 ?_
  have hbn927 : own_In p1 be.length := hin
  refine own_pre (A := T926.setTop (mkF m 6 #[rv a0, iv p1] [(.int (own_at be p1))])) (fun t k => ?_) ?_
  · show Steps p.tables e below (T926.setTop (mkF m 4 #[rv a0, iv p1] [(.ref e5)])) _
    refine XS.iloadN X926.here hx rfl (hb hby d10_4) rfl ?_
    show Steps p.tables e below (T926.setTop (mkF m 5 #[rv a0, iv p1] [(.int p1), (.ref e5)])) _
    refine own_iaload X926 hx hZ e926 P1 hbn927 (g := (mkF m 5 #[rv a0, iv p1] [(.int p1), (.ref e5)])) rfl rfl (hb hby d10_5) ?_
    exact k
  have hv928 : (own_at be p1) = f10 p1 be := by rfl
  exact own_end X926 (BodyLoose.notSynchronized Bd) (fun h => by rw [Bd.returns] at h; cases h) (v := some (.int (own_at be p1))) (fun fs hr => retOut X926 hx Bd.returns rfl (by simp [Value.isRef, FieldType.isReference]) (hb hby d10_6) hr) (by show Q10 Z a0 p1 e5 be h0 n0 _ T926.heap _; rw [e926]; exact ⟨(congrArg (fun z => some (Value.int z)) hv928), N0, rfl⟩) (by decide) (by decide)
theorem d11_0 : decode prog_16_method_8_code 0 = .ok (.aload_n 0, 1) := by decide +kernel
theorem d11_1 : decode prog_16_method_8_code 1 = .ok (.getfield 25, 3) := by decide +kernel
theorem d11_4 : decode prog_16_method_8_code 4 = .ok (.iload_n 1, 1) := by decide +kernel
theorem d11_5 : decode prog_16_method_8_code 5 = .ok (.iaload, 1) := by decide +kernel
theorem d11_6 : decode prog_16_method_8_code 6 = .ok (.ireturn, 1) := by decide +kernel
theorem ef11 (m : MethodId) (a0 : Addr) (p1 : Int32) : entryFrame m #[(.ref a0), (.int p1)] 2 = mkF m 0 #[rv a0, iv p1] [] := by first | (simp [entryFrame, mkF, argsToLocals, Value.category]; done) | rfl
def f11 (p1 : Int32) (bm : List Int32) : Int32 := (own_at bm p1)
def Q11 (Z : State) (a0 : Addr) (p1 : Int32) (e6 : Addr) (bm : List Int32) (h0 : Heap) (n0 : Nat) (v : Option Value) (h : Heap) (L : List Loc) : Prop := v = some (.int (f11 p1 bm)) ∧ Fr n0 L ∧ h = h0
set_option maxRecDepth 65536 in
set_option maxHeartbeats 40000000 in
theorem rm11 (l : Launch) (Z : State) (aZ : Array Value) (hw : ∀ d ∈ tables_1, d.before aZ Z = true) (ws : List Jvm.Cond) (a0 : Addr) (p1 : Int32) (e6 : Addr) (bm : List Int32) (h0 : Heap) (n0 : Nat) (Z0 : n0 ≤ h0.size) (P0 : Fld Z h0 a0 "com/example/spare_calculus/sparecalculus/bisim/Partition" "blockMarkedEnd" "[I" (.ref e6)) (P1 : own_Ints Z h0 e6 bm) (hin : own_In p1 bm.length) :
    MetFree l (⟨"com/example/spare_calculus/sparecalculus/bisim/Partition", "markedEnd", "(I)I"⟩ : MethodName) (head1 (Jvm.Cond.code (⟨"com/example/spare_calculus/sparecalculus/bisim/Partition", "markedEnd", "(I)I"⟩ : MethodName) prog_16_method_8_code 2 (some .int) :: ws) ({ frames := 0, cells := 0, slots := 0, locals := 0 } : Room)) (fun a U => a = #[(.ref a0), (.int p1)] ∧ Z.Warmed39 U.vm ∧ U.heap = h0) (fun _ _ _ _ _ => True) (fun _ U o U' => ∃ v L, o = .returned v ∧ Q11 Z a0 p1 e6 bm h0 n0 v U'.heap L ∧ FrameEnd U o U' L ({ frames := 0, cells := 0, slots := 0, locals := 0 } : Room).cells ({ frames := 0, cells := 0, slots := 0, locals := 0 } : Room).slots) := by
  refine MetFree.of_bodySF (plainFor_of_name own_pn0) hisR ?_
  intro p e s m args below meth c s₁ Bd hml0 hP hK
  obtain ⟨rfl, hZ, hh⟩ := hP
  have hx := Bd.exec
  have hby := Bd.bytes
  have hml : c.maxLocals = 2 := hml0
  have hown : s.vm.findClass "com/example/spare_calculus/sparecalculus/bisim/Partition" = some m.cls := findClass_of_methodNamed Bd.named
  have hnm := (name_of_methodNamed Bd.named Bd.method).1
  have X0 : Stand p l e ({ frames := 0, cells := 0, slots := 0, locals := 0 } : Room) s m #[(.ref a0), (.int p1)] below meth c s₁ [] 0 0 := Stand.of_body Bd
  have e0 : s₁.heap = h0 := by rw [← hh, Bd.state]; rfl
  have N0 := Fr.nil n0
  show own_Goes p e below s (Q11 Z a0 p1 e6 bm h0 n0) ({ frames := 0, cells := 0, slots := 0, locals := 0 } : Room).cells ({ frames := 0, cells := 0, slots := 0, locals := 0 } : Room).slots _
  refine own_pre (fun t k => castTop (ef11 m a0 p1) k) ?_
  refine own_pre (A := s₁.setTop (mkF m 1 #[rv a0, iv p1] [(.ref a0)])) (fun t k => ?_) ?_
  · show Steps p.tables e below (s₁.setTop (mkF m 0 #[rv a0, iv p1] [])) _
    refine XS.aloadN X0.here hx rfl (hb hby d11_0) rfl rfl ?_
    exact k
  obtain ⟨T929, X929, e929, st929⟩ := getF X0 hx hZ hown (host := "") (Or.inl (own_h hw 20 rfl)) Via.refl e0 P0 (g := (mkF m 1 #[rv a0, iv p1] [(.ref a0)])) rfl rfl (hb hby d11_1)
  refine own_pre st929 ?_
  have hbn930 : own_In p1 bm.length := hin
  refine own_pre (A := T929.setTop (mkF m 6 #[rv a0, iv p1] [(.int (own_at bm p1))])) (fun t k => ?_) ?_
  · show Steps p.tables e below (T929.setTop (mkF m 4 #[rv a0, iv p1] [(.ref e6)])) _
    refine XS.iloadN X929.here hx rfl (hb hby d11_4) rfl ?_
    show Steps p.tables e below (T929.setTop (mkF m 5 #[rv a0, iv p1] [(.int p1), (.ref e6)])) _
    refine own_iaload X929 hx hZ e929 P1 hbn930 (g := (mkF m 5 #[rv a0, iv p1] [(.int p1), (.ref e6)])) rfl rfl (hb hby d11_5) ?_
    exact k
  have hv931 : (own_at bm p1) = f11 p1 bm := by rfl
  exact own_end X929 (BodyLoose.notSynchronized Bd) (fun h => by rw [Bd.returns] at h; cases h) (v := some (.int (own_at bm p1))) (fun fs hr => retOut X929 hx Bd.returns rfl (by simp [Value.isRef, FieldType.isReference]) (hb hby d11_6) hr) (by show Q11 Z a0 p1 e6 bm h0 n0 _ T929.heap _; rw [e929]; exact ⟨(congrArg (fun z => some (Value.int z)) hv931), N0, rfl⟩) (by decide) (by decide)
theorem d12_0 : decode prog_16_method_3_code 0 = .ok (.aload_n 0, 1) := by decide +kernel
theorem d12_1 : decode prog_16_method_3_code 1 = .ok (.getfield 16, 3) := by decide +kernel
theorem d12_4 : decode prog_16_method_3_code 4 = .ok (.iload_n 1, 1) := by decide +kernel
theorem d12_5 : decode prog_16_method_3_code 5 = .ok (.iaload, 1) := by decide +kernel
theorem d12_6 : decode prog_16_method_3_code 6 = .ok (.ireturn, 1) := by decide +kernel
theorem ef12 (m : MethodId) (a0 : Addr) (p1 : Int32) : entryFrame m #[(.ref a0), (.int p1)] 2 = mkF m 0 #[rv a0, iv p1] [] := by first | (simp [entryFrame, mkF, argsToLocals, Value.category]; done) | rfl
def f12 (p1 : Int32) (bo : List Int32) : Int32 := (own_at bo p1)
def Q12 (Z : State) (a0 : Addr) (p1 : Int32) (e3 : Addr) (bo : List Int32) (h0 : Heap) (n0 : Nat) (v : Option Value) (h : Heap) (L : List Loc) : Prop := v = some (.int (f12 p1 bo)) ∧ Fr n0 L ∧ h = h0
set_option maxRecDepth 65536 in
set_option maxHeartbeats 40000000 in
theorem rm12 (l : Launch) (Z : State) (aZ : Array Value) (hw : ∀ d ∈ tables_1, d.before aZ Z = true) (ws : List Jvm.Cond) (a0 : Addr) (p1 : Int32) (e3 : Addr) (bo : List Int32) (h0 : Heap) (n0 : Nat) (Z0 : n0 ≤ h0.size) (P0 : Fld Z h0 a0 "com/example/spare_calculus/sparecalculus/bisim/Partition" "blockOf" "[I" (.ref e3)) (P1 : own_Ints Z h0 e3 bo) (hin : own_In p1 bo.length) :
    MetFree l (⟨"com/example/spare_calculus/sparecalculus/bisim/Partition", "blockOf", "(I)I"⟩ : MethodName) (head1 (Jvm.Cond.code (⟨"com/example/spare_calculus/sparecalculus/bisim/Partition", "blockOf", "(I)I"⟩ : MethodName) prog_16_method_3_code 2 (some .int) :: ws) ({ frames := 0, cells := 0, slots := 0, locals := 0 } : Room)) (fun a U => a = #[(.ref a0), (.int p1)] ∧ Z.Warmed39 U.vm ∧ U.heap = h0) (fun _ _ _ _ _ => True) (fun _ U o U' => ∃ v L, o = .returned v ∧ Q12 Z a0 p1 e3 bo h0 n0 v U'.heap L ∧ FrameEnd U o U' L ({ frames := 0, cells := 0, slots := 0, locals := 0 } : Room).cells ({ frames := 0, cells := 0, slots := 0, locals := 0 } : Room).slots) := by
  refine MetFree.of_bodySF (plainFor_of_name own_pn0) hisR ?_
  intro p e s m args below meth c s₁ Bd hml0 hP hK
  obtain ⟨rfl, hZ, hh⟩ := hP
  have hx := Bd.exec
  have hby := Bd.bytes
  have hml : c.maxLocals = 2 := hml0
  have hown : s.vm.findClass "com/example/spare_calculus/sparecalculus/bisim/Partition" = some m.cls := findClass_of_methodNamed Bd.named
  have hnm := (name_of_methodNamed Bd.named Bd.method).1
  have X0 : Stand p l e ({ frames := 0, cells := 0, slots := 0, locals := 0 } : Room) s m #[(.ref a0), (.int p1)] below meth c s₁ [] 0 0 := Stand.of_body Bd
  have e0 : s₁.heap = h0 := by rw [← hh, Bd.state]; rfl
  have N0 := Fr.nil n0
  show own_Goes p e below s (Q12 Z a0 p1 e3 bo h0 n0) ({ frames := 0, cells := 0, slots := 0, locals := 0 } : Room).cells ({ frames := 0, cells := 0, slots := 0, locals := 0 } : Room).slots _
  refine own_pre (fun t k => castTop (ef12 m a0 p1) k) ?_
  refine own_pre (A := s₁.setTop (mkF m 1 #[rv a0, iv p1] [(.ref a0)])) (fun t k => ?_) ?_
  · show Steps p.tables e below (s₁.setTop (mkF m 0 #[rv a0, iv p1] [])) _
    refine XS.aloadN X0.here hx rfl (hb hby d12_0) rfl rfl ?_
    exact k
  obtain ⟨T932, X932, e932, st932⟩ := getF X0 hx hZ hown (host := "") (Or.inl (own_h hw 14 rfl)) Via.refl e0 P0 (g := (mkF m 1 #[rv a0, iv p1] [(.ref a0)])) rfl rfl (hb hby d12_1)
  refine own_pre st932 ?_
  have hbn933 : own_In p1 bo.length := hin
  refine own_pre (A := T932.setTop (mkF m 6 #[rv a0, iv p1] [(.int (own_at bo p1))])) (fun t k => ?_) ?_
  · show Steps p.tables e below (T932.setTop (mkF m 4 #[rv a0, iv p1] [(.ref e3)])) _
    refine XS.iloadN X932.here hx rfl (hb hby d12_4) rfl ?_
    show Steps p.tables e below (T932.setTop (mkF m 5 #[rv a0, iv p1] [(.int p1), (.ref e3)])) _
    refine own_iaload X932 hx hZ e932 P1 hbn933 (g := (mkF m 5 #[rv a0, iv p1] [(.int p1), (.ref e3)])) rfl rfl (hb hby d12_5) ?_
    exact k
  have hv934 : (own_at bo p1) = f12 p1 bo := by rfl
  exact own_end X932 (BodyLoose.notSynchronized Bd) (fun h => by rw [Bd.returns] at h; cases h) (v := some (.int (own_at bo p1))) (fun fs hr => retOut X932 hx Bd.returns rfl (by simp [Value.isRef, FieldType.isReference]) (hb hby d12_6) hr) (by show Q12 Z a0 p1 e3 bo h0 n0 _ T932.heap _; rw [e932]; exact ⟨(congrArg (fun z => some (Value.int z)) hv934), N0, rfl⟩) (by decide) (by decide)
abbrev own_L15 : List Int32 := [(1:Int32), (2:Int32), (3:Int32), (4:Int32), (5:Int32), (6:Int32), (7:Int32), (8:Int32), (9:Int32), (10:Int32), (11:Int32), (12:Int32), (13:Int32), (14:Int32), (15:Int32)]
abbrev own_L2 : List Int32 := [(0:Int32), (1:Int32)]
theorem own_16 (x : Int32) (h0 : 0 ≤ x.toInt) (h1 : x.toInt < 16) : ∃ n : Fin 16, x = Int32.ofNat n.val := by
  refine ⟨⟨x.toInt.toNat, by omega⟩, ?_⟩
  rw [← Int32.toInt_inj, Int32.toInt_ofNat_small (by show x.toInt.toNat < _; omega)]; show _ = (x.toInt.toNat : Int); omega
theorem own_m1 {p w v : Int32} (hw : w = (p &&& (15:Int32))) (hv : v = (if w = (0:Int32) then (15:Int32) else w)) : v ∈ own_L15 := by
  have e : (p &&& (15:Int32)).toInt = p.toInt % 2 ^ 4 := Jvm.Kit.i32_mask p _ (k := 4) (by decide) (by decide)
  have key : ∀ n : Fin 16, (if Int32.ofNat n.val = (0:Int32) then (15:Int32) else Int32.ofNat n.val) ∈ own_L15 := by decide +kernel
  obtain ⟨n, hn⟩ := own_16 w (by rw [hw, e]; omega) (by rw [hw, e]; omega)
  rw [hv, hn]; exact key n
theorem own_mb {p v a b : Int32} (ha : a = (if v = (15:Int32) then (1:Int32) else (0:Int32))) (hb : b = (if a = (0:Int32) then (p &&& (1:Int32)) else (0:Int32))) : b ∈ own_L2 ∧ (v = (15:Int32) → b = (0:Int32)) := by
  have e : (p &&& (1:Int32)).toInt = p.toInt % 2 ^ 1 := Jvm.Kit.i32_mask p _ (k := 1) (by decide) (by decide)
  have l0 : (0:Int32).toInt = 0 := by decide
  have l1 : (1:Int32).toInt = 1 := by decide
  constructor
  · rw [hb]; split
    · simp only [List.mem_cons, List.not_mem_nil, or_false, ← Int32.toInt_inj, e, l0, l1]; omega
    · decide
  · intro q; rw [if_pos q] at ha; rw [hb, ha, if_neg (by decide)]
theorem own_mask (p : Int32) (e : Int32) (h0 : 0 ≤ e.toInt) (h1 : e.toInt < 16) : ∃ n : Fin 16, (p &&& e) = (Int32.ofNat n.val &&& e) ∧ e = e := by
  have m : (p &&& (15:Int32)).toInt = p.toInt % 2 ^ 4 := Jvm.Kit.i32_mask p _ (k := 4) (by decide) (by decide)
  obtain ⟨n, hn⟩ := own_16 (p &&& 15) (by rw [m]; omega) (by rw [m]; omega)
  refine ⟨n, ?_, rfl⟩
  obtain ⟨k, hk⟩ := own_16 e h0 h1
  have key : ∀ k : Fin 16, (15 &&& Int32.ofNat k.val) = Int32.ofNat k.val := by decide +kernel
  rw [← hn, Int32.and_assoc, hk, key k]
theorem own_m2 {p v a b e m : Int32} (hv : v ∈ own_L15) (ha : a = (if v = (15:Int32) then (1:Int32) else (0:Int32))) (hb : b ∈ own_L2) (he : e = (if a = (0:Int32) then (if b = (1:Int32) then v else ((15:Int32) &&& (v ^^^ (-1:Int32)))) else (15:Int32)))
    (hm : m = (if (p &&& e) = (0:Int32) then e else (p &&& e))) : m ∈ own_L15 ∧ (m &&& e) = m := by
  have key : ∀ v ∈ own_L15, ∀ b ∈ own_L2, (if (if v = (15:Int32) then (1:Int32) else (0:Int32)) = (0:Int32) then (if b = (1:Int32) then v else ((15:Int32) &&& (v ^^^ (-1:Int32)))) else (15:Int32)) ∈ own_L15 := by decide +kernel
  have he' : e ∈ own_L15 := by rw [he, ha]; exact key v hv b hb
  have rng : ∀ e ∈ own_L15, 0 ≤ e.toInt ∧ e.toInt < 16 := by decide +kernel
  obtain ⟨n, hn, -⟩ := own_mask p e (rng e he').1 (rng e he').2
  have key2 : ∀ e ∈ own_L15, ∀ n : Fin 16, (if (Int32.ofNat n.val &&& e) = (0:Int32) then e else (Int32.ofNat n.val &&& e)) ∈ own_L15 ∧ ((if (Int32.ofNat n.val &&& e) = (0:Int32) then e else (Int32.ofNat n.val &&& e)) &&& e) = (if (Int32.ofNat n.val &&& e) = (0:Int32) then e else (Int32.ofNat n.val &&& e)) := by decide +kernel
  rw [hm, hn]; exact key2 e he' n
def own_v990  : List Int32 := [(0:Int32), (1:Int32), (2:Int32), (3:Int32)]
def own_v993  : List Int32 := [(0:Int32), (0:Int32), (0:Int32), (0:Int32)]
def own_v996  : List Int32 := [(4:Int32), (0:Int32), (0:Int32), (0:Int32)]
theorem own_fin1016 : ∀ w0_2 ∈ own_L15, ((((f4 w0_2 (0:Int32)) = (0:Int32)) → ((f4 w0_2 (1:Int32)) = (0:Int32)) → ((f4 w0_2 (2:Int32)) = (0:Int32)) → (¬ ((f4 w0_2 (3:Int32)) = (0:Int32))) → (own_In (3:Int32) own_v993.length) ∧ (own_In (own_at own_v993 (3:Int32)) own_v993.length) ∧ (own_In (3:Int32) own_v990.length) ∧ (¬ ((own_at own_v990 (3:Int32)) < (own_at own_v993 (own_at own_v993 (3:Int32)))) → own_In (own_at own_v993 (3:Int32)) own_v993.length) ∧ (¬ ((own_at own_v990 (3:Int32)) < (own_at own_v993 (own_at own_v993 (3:Int32)))) → own_In (own_at own_v993 (own_at own_v993 (3:Int32))) own_v990.length) ∧ (¬ ((own_at own_v990 (3:Int32)) < (own_at own_v993 (own_at own_v993 (3:Int32)))) → own_In (own_at own_v990 (3:Int32)) own_v990.length) ∧ (¬ ((own_at own_v990 (3:Int32)) < (own_at own_v993 (own_at own_v993 (3:Int32)))) → own_In (own_at own_v990 (own_at own_v993 (own_at own_v993 (3:Int32)))) own_v990.length) ∧ (¬ ((own_at own_v990 (3:Int32)) < (own_at own_v993 (own_at own_v993 (3:Int32)))) → (own_at own_v993 (own_at own_v993 (3:Int32))) = (own_at own_v993 (own_at own_v993 (3:Int32))) → own_In (0:Int32) own_v993.length))) := by decide +kernel
theorem own_fin1018 : ∀ w0_2 ∈ own_L15, ((((f4 w0_2 (0:Int32)) = (0:Int32)) → ((f4 w0_2 (1:Int32)) = (0:Int32)) → (¬ ((f4 w0_2 (2:Int32)) = (0:Int32))) → (own_In (2:Int32) own_v993.length) ∧ (own_In (own_at own_v993 (2:Int32)) own_v993.length) ∧ (own_In (2:Int32) own_v990.length) ∧ (¬ ((own_at own_v990 (2:Int32)) < (own_at own_v993 (own_at own_v993 (2:Int32)))) → own_In (own_at own_v993 (2:Int32)) own_v993.length) ∧ (¬ ((own_at own_v990 (2:Int32)) < (own_at own_v993 (own_at own_v993 (2:Int32)))) → own_In (own_at own_v993 (own_at own_v993 (2:Int32))) own_v990.length) ∧ (¬ ((own_at own_v990 (2:Int32)) < (own_at own_v993 (own_at own_v993 (2:Int32)))) → own_In (own_at own_v990 (2:Int32)) own_v990.length) ∧ (¬ ((own_at own_v990 (2:Int32)) < (own_at own_v993 (own_at own_v993 (2:Int32)))) → own_In (own_at own_v990 (own_at own_v993 (own_at own_v993 (2:Int32)))) own_v990.length) ∧ (¬ ((own_at own_v990 (2:Int32)) < (own_at own_v993 (own_at own_v993 (2:Int32)))) → (own_at own_v993 (own_at own_v993 (2:Int32))) = (own_at own_v993 (own_at own_v993 (2:Int32))) → own_In (0:Int32) own_v993.length))) := by decide +kernel
theorem own_fin1020 : ∀ w0_2 ∈ own_L15, ((((f4 w0_2 (0:Int32)) = (0:Int32)) → ((f4 w0_2 (1:Int32)) = (0:Int32)) → (¬ ((f4 w0_2 (2:Int32)) = (0:Int32))) → (¬ ((f4 w0_2 (3:Int32)) = (0:Int32))) → (own_In (3:Int32) own_v993.length) ∧ (own_In (own_at own_v993 (3:Int32)) (own_v300 own_v990 own_v990 own_v993 own_v993 own_v993 own_v993 (1:Int32) (0:Int32)).length) ∧ (own_In (3:Int32) (own_v298 own_v990 own_v990 own_v993 own_v993 own_v993 own_v993 (1:Int32) (0:Int32)).length) ∧ (¬ ((own_at (own_v298 own_v990 own_v990 own_v993 own_v993 own_v993 own_v993 (1:Int32) (0:Int32)) (3:Int32)) < (own_at (own_v300 own_v990 own_v990 own_v993 own_v993 own_v993 own_v993 (1:Int32) (0:Int32)) (own_at own_v993 (3:Int32)))) → own_In (own_at own_v993 (3:Int32)) own_v993.length) ∧ (¬ ((own_at (own_v298 own_v990 own_v990 own_v993 own_v993 own_v993 own_v993 (1:Int32) (0:Int32)) (3:Int32)) < (own_at (own_v300 own_v990 own_v990 own_v993 own_v993 own_v993 own_v993 (1:Int32) (0:Int32)) (own_at own_v993 (3:Int32)))) → own_In (own_at (own_v300 own_v990 own_v990 own_v993 own_v993 own_v993 own_v993 (1:Int32) (0:Int32)) (own_at own_v993 (3:Int32))) (own_v296 own_v990 own_v990 own_v993 own_v993 own_v993 own_v993 (1:Int32) (0:Int32)).length) ∧ (¬ ((own_at (own_v298 own_v990 own_v990 own_v993 own_v993 own_v993 own_v993 (1:Int32) (0:Int32)) (3:Int32)) < (own_at (own_v300 own_v990 own_v990 own_v993 own_v993 own_v993 own_v993 (1:Int32) (0:Int32)) (own_at own_v993 (3:Int32)))) → own_In (own_at (own_v298 own_v990 own_v990 own_v993 own_v993 own_v993 own_v993 (1:Int32) (0:Int32)) (3:Int32)) (own_v296 own_v990 own_v990 own_v993 own_v993 own_v993 own_v993 (1:Int32) (0:Int32)).length) ∧ (¬ ((own_at (own_v298 own_v990 own_v990 own_v993 own_v993 own_v993 own_v993 (1:Int32) (0:Int32)) (3:Int32)) < (own_at (own_v300 own_v990 own_v990 own_v993 own_v993 own_v993 own_v993 (1:Int32) (0:Int32)) (own_at own_v993 (3:Int32)))) → own_In (own_at (own_v296 own_v990 own_v990 own_v993 own_v993 own_v993 own_v993 (1:Int32) (0:Int32)) (own_at (own_v300 own_v990 own_v990 own_v993 own_v993 own_v993 own_v993 (1:Int32) (0:Int32)) (own_at own_v993 (3:Int32)))) (own_v298 own_v990 own_v990 own_v993 own_v993 own_v993 own_v993 (1:Int32) (0:Int32)).length) ∧ (¬ ((own_at (own_v298 own_v990 own_v990 own_v993 own_v993 own_v993 own_v993 (1:Int32) (0:Int32)) (3:Int32)) < (own_at (own_v300 own_v990 own_v990 own_v993 own_v993 own_v993 own_v993 (1:Int32) (0:Int32)) (own_at own_v993 (3:Int32)))) → (own_at (own_v300 own_v990 own_v990 own_v993 own_v993 own_v993 own_v993 (1:Int32) (0:Int32)) (own_at own_v993 (3:Int32))) = (own_at own_v993 (own_at own_v993 (3:Int32))) → own_In (own_v294 own_v990 own_v990 own_v993 own_v993 own_v993 own_v993 (1:Int32) (0:Int32)) (own_v302 own_v990 own_v990 own_v993 own_v993 own_v993 own_v993 (1:Int32) (0:Int32)).length))) := by decide +kernel
theorem own_fin1022 : ∀ w0_2 ∈ own_L15, ((((f4 w0_2 (0:Int32)) = (0:Int32)) → (¬ ((f4 w0_2 (1:Int32)) = (0:Int32))) → (own_In (1:Int32) own_v993.length) ∧ (own_In (own_at own_v993 (1:Int32)) own_v993.length) ∧ (own_In (1:Int32) own_v990.length) ∧ (¬ ((own_at own_v990 (1:Int32)) < (own_at own_v993 (own_at own_v993 (1:Int32)))) → own_In (own_at own_v993 (1:Int32)) own_v993.length) ∧ (¬ ((own_at own_v990 (1:Int32)) < (own_at own_v993 (own_at own_v993 (1:Int32)))) → own_In (own_at own_v993 (own_at own_v993 (1:Int32))) own_v990.length) ∧ (¬ ((own_at own_v990 (1:Int32)) < (own_at own_v993 (own_at own_v993 (1:Int32)))) → own_In (own_at own_v990 (1:Int32)) own_v990.length) ∧ (¬ ((own_at own_v990 (1:Int32)) < (own_at own_v993 (own_at own_v993 (1:Int32)))) → own_In (own_at own_v990 (own_at own_v993 (own_at own_v993 (1:Int32)))) own_v990.length) ∧ (¬ ((own_at own_v990 (1:Int32)) < (own_at own_v993 (own_at own_v993 (1:Int32)))) → (own_at own_v993 (own_at own_v993 (1:Int32))) = (own_at own_v993 (own_at own_v993 (1:Int32))) → own_In (0:Int32) own_v993.length))) := by decide +kernel
theorem own_fin1024 : ∀ w0_2 ∈ own_L15, ((((f4 w0_2 (0:Int32)) = (0:Int32)) → (¬ ((f4 w0_2 (1:Int32)) = (0:Int32))) → ((f4 w0_2 (2:Int32)) = (0:Int32)) → (¬ ((f4 w0_2 (3:Int32)) = (0:Int32))) → (own_In (3:Int32) own_v993.length) ∧ (own_In (own_at own_v993 (3:Int32)) (own_v356 own_v990 own_v990 own_v993 own_v993 own_v993 own_v993 (1:Int32) (0:Int32)).length) ∧ (own_In (3:Int32) (own_v354 own_v990 own_v990 own_v993 own_v993 own_v993 own_v993 (1:Int32) (0:Int32)).length) ∧ (¬ ((own_at (own_v354 own_v990 own_v990 own_v993 own_v993 own_v993 own_v993 (1:Int32) (0:Int32)) (3:Int32)) < (own_at (own_v356 own_v990 own_v990 own_v993 own_v993 own_v993 own_v993 (1:Int32) (0:Int32)) (own_at own_v993 (3:Int32)))) → own_In (own_at own_v993 (3:Int32)) own_v993.length) ∧ (¬ ((own_at (own_v354 own_v990 own_v990 own_v993 own_v993 own_v993 own_v993 (1:Int32) (0:Int32)) (3:Int32)) < (own_at (own_v356 own_v990 own_v990 own_v993 own_v993 own_v993 own_v993 (1:Int32) (0:Int32)) (own_at own_v993 (3:Int32)))) → own_In (own_at (own_v356 own_v990 own_v990 own_v993 own_v993 own_v993 own_v993 (1:Int32) (0:Int32)) (own_at own_v993 (3:Int32))) (own_v352 own_v990 own_v990 own_v993 own_v993 own_v993 own_v993 (1:Int32) (0:Int32)).length) ∧ (¬ ((own_at (own_v354 own_v990 own_v990 own_v993 own_v993 own_v993 own_v993 (1:Int32) (0:Int32)) (3:Int32)) < (own_at (own_v356 own_v990 own_v990 own_v993 own_v993 own_v993 own_v993 (1:Int32) (0:Int32)) (own_at own_v993 (3:Int32)))) → own_In (own_at (own_v354 own_v990 own_v990 own_v993 own_v993 own_v993 own_v993 (1:Int32) (0:Int32)) (3:Int32)) (own_v352 own_v990 own_v990 own_v993 own_v993 own_v993 own_v993 (1:Int32) (0:Int32)).length) ∧ (¬ ((own_at (own_v354 own_v990 own_v990 own_v993 own_v993 own_v993 own_v993 (1:Int32) (0:Int32)) (3:Int32)) < (own_at (own_v356 own_v990 own_v990 own_v993 own_v993 own_v993 own_v993 (1:Int32) (0:Int32)) (own_at own_v993 (3:Int32)))) → own_In (own_at (own_v352 own_v990 own_v990 own_v993 own_v993 own_v993 own_v993 (1:Int32) (0:Int32)) (own_at (own_v356 own_v990 own_v990 own_v993 own_v993 own_v993 own_v993 (1:Int32) (0:Int32)) (own_at own_v993 (3:Int32)))) (own_v354 own_v990 own_v990 own_v993 own_v993 own_v993 own_v993 (1:Int32) (0:Int32)).length) ∧ (¬ ((own_at (own_v354 own_v990 own_v990 own_v993 own_v993 own_v993 own_v993 (1:Int32) (0:Int32)) (3:Int32)) < (own_at (own_v356 own_v990 own_v990 own_v993 own_v993 own_v993 own_v993 (1:Int32) (0:Int32)) (own_at own_v993 (3:Int32)))) → (own_at (own_v356 own_v990 own_v990 own_v993 own_v993 own_v993 own_v993 (1:Int32) (0:Int32)) (own_at own_v993 (3:Int32))) = (own_at own_v993 (own_at own_v993 (3:Int32))) → own_In (own_v350 own_v990 own_v990 own_v993 own_v993 own_v993 own_v993 (1:Int32) (0:Int32)) (own_v358 own_v990 own_v990 own_v993 own_v993 own_v993 own_v993 (1:Int32) (0:Int32)).length))) := by decide +kernel
theorem own_fin1026 : ∀ w0_2 ∈ own_L15, ((((f4 w0_2 (0:Int32)) = (0:Int32)) → (¬ ((f4 w0_2 (1:Int32)) = (0:Int32))) → (¬ ((f4 w0_2 (2:Int32)) = (0:Int32))) → (own_In (2:Int32) own_v993.length) ∧ (own_In (own_at own_v993 (2:Int32)) (own_v356 own_v990 own_v990 own_v993 own_v993 own_v993 own_v993 (1:Int32) (0:Int32)).length) ∧ (own_In (2:Int32) (own_v354 own_v990 own_v990 own_v993 own_v993 own_v993 own_v993 (1:Int32) (0:Int32)).length) ∧ (¬ ((own_at (own_v354 own_v990 own_v990 own_v993 own_v993 own_v993 own_v993 (1:Int32) (0:Int32)) (2:Int32)) < (own_at (own_v356 own_v990 own_v990 own_v993 own_v993 own_v993 own_v993 (1:Int32) (0:Int32)) (own_at own_v993 (2:Int32)))) → own_In (own_at own_v993 (2:Int32)) own_v993.length) ∧ (¬ ((own_at (own_v354 own_v990 own_v990 own_v993 own_v993 own_v993 own_v993 (1:Int32) (0:Int32)) (2:Int32)) < (own_at (own_v356 own_v990 own_v990 own_v993 own_v993 own_v993 own_v993 (1:Int32) (0:Int32)) (own_at own_v993 (2:Int32)))) → own_In (own_at (own_v356 own_v990 own_v990 own_v993 own_v993 own_v993 own_v993 (1:Int32) (0:Int32)) (own_at own_v993 (2:Int32))) (own_v352 own_v990 own_v990 own_v993 own_v993 own_v993 own_v993 (1:Int32) (0:Int32)).length) ∧ (¬ ((own_at (own_v354 own_v990 own_v990 own_v993 own_v993 own_v993 own_v993 (1:Int32) (0:Int32)) (2:Int32)) < (own_at (own_v356 own_v990 own_v990 own_v993 own_v993 own_v993 own_v993 (1:Int32) (0:Int32)) (own_at own_v993 (2:Int32)))) → own_In (own_at (own_v354 own_v990 own_v990 own_v993 own_v993 own_v993 own_v993 (1:Int32) (0:Int32)) (2:Int32)) (own_v352 own_v990 own_v990 own_v993 own_v993 own_v993 own_v993 (1:Int32) (0:Int32)).length) ∧ (¬ ((own_at (own_v354 own_v990 own_v990 own_v993 own_v993 own_v993 own_v993 (1:Int32) (0:Int32)) (2:Int32)) < (own_at (own_v356 own_v990 own_v990 own_v993 own_v993 own_v993 own_v993 (1:Int32) (0:Int32)) (own_at own_v993 (2:Int32)))) → own_In (own_at (own_v352 own_v990 own_v990 own_v993 own_v993 own_v993 own_v993 (1:Int32) (0:Int32)) (own_at (own_v356 own_v990 own_v990 own_v993 own_v993 own_v993 own_v993 (1:Int32) (0:Int32)) (own_at own_v993 (2:Int32)))) (own_v354 own_v990 own_v990 own_v993 own_v993 own_v993 own_v993 (1:Int32) (0:Int32)).length) ∧ (¬ ((own_at (own_v354 own_v990 own_v990 own_v993 own_v993 own_v993 own_v993 (1:Int32) (0:Int32)) (2:Int32)) < (own_at (own_v356 own_v990 own_v990 own_v993 own_v993 own_v993 own_v993 (1:Int32) (0:Int32)) (own_at own_v993 (2:Int32)))) → (own_at (own_v356 own_v990 own_v990 own_v993 own_v993 own_v993 own_v993 (1:Int32) (0:Int32)) (own_at own_v993 (2:Int32))) = (own_at own_v993 (own_at own_v993 (2:Int32))) → own_In (own_v350 own_v990 own_v990 own_v993 own_v993 own_v993 own_v993 (1:Int32) (0:Int32)) (own_v358 own_v990 own_v990 own_v993 own_v993 own_v993 own_v993 (1:Int32) (0:Int32)).length))) := by decide +kernel
theorem own_fin1028 : ∀ w0_2 ∈ own_L15, ((((f4 w0_2 (0:Int32)) = (0:Int32)) → (¬ ((f4 w0_2 (1:Int32)) = (0:Int32))) → (¬ ((f4 w0_2 (2:Int32)) = (0:Int32))) → (¬ ((f4 w0_2 (3:Int32)) = (0:Int32))) → (own_In (3:Int32) own_v993.length) ∧ (own_In (own_at own_v993 (3:Int32)) (own_v416 own_v990 own_v990 own_v993 own_v993 own_v993 own_v993 (1:Int32) (0:Int32)).length) ∧ (own_In (3:Int32) (own_v414 own_v990 own_v990 own_v993 own_v993 own_v993 own_v993 (1:Int32) (0:Int32)).length) ∧ (¬ ((own_at (own_v414 own_v990 own_v990 own_v993 own_v993 own_v993 own_v993 (1:Int32) (0:Int32)) (3:Int32)) < (own_at (own_v416 own_v990 own_v990 own_v993 own_v993 own_v993 own_v993 (1:Int32) (0:Int32)) (own_at own_v993 (3:Int32)))) → own_In (own_at own_v993 (3:Int32)) own_v993.length) ∧ (¬ ((own_at (own_v414 own_v990 own_v990 own_v993 own_v993 own_v993 own_v993 (1:Int32) (0:Int32)) (3:Int32)) < (own_at (own_v416 own_v990 own_v990 own_v993 own_v993 own_v993 own_v993 (1:Int32) (0:Int32)) (own_at own_v993 (3:Int32)))) → own_In (own_at (own_v416 own_v990 own_v990 own_v993 own_v993 own_v993 own_v993 (1:Int32) (0:Int32)) (own_at own_v993 (3:Int32))) (own_v412 own_v990 own_v990 own_v993 own_v993 own_v993 own_v993 (1:Int32) (0:Int32)).length) ∧ (¬ ((own_at (own_v414 own_v990 own_v990 own_v993 own_v993 own_v993 own_v993 (1:Int32) (0:Int32)) (3:Int32)) < (own_at (own_v416 own_v990 own_v990 own_v993 own_v993 own_v993 own_v993 (1:Int32) (0:Int32)) (own_at own_v993 (3:Int32)))) → own_In (own_at (own_v414 own_v990 own_v990 own_v993 own_v993 own_v993 own_v993 (1:Int32) (0:Int32)) (3:Int32)) (own_v412 own_v990 own_v990 own_v993 own_v993 own_v993 own_v993 (1:Int32) (0:Int32)).length) ∧ (¬ ((own_at (own_v414 own_v990 own_v990 own_v993 own_v993 own_v993 own_v993 (1:Int32) (0:Int32)) (3:Int32)) < (own_at (own_v416 own_v990 own_v990 own_v993 own_v993 own_v993 own_v993 (1:Int32) (0:Int32)) (own_at own_v993 (3:Int32)))) → own_In (own_at (own_v412 own_v990 own_v990 own_v993 own_v993 own_v993 own_v993 (1:Int32) (0:Int32)) (own_at (own_v416 own_v990 own_v990 own_v993 own_v993 own_v993 own_v993 (1:Int32) (0:Int32)) (own_at own_v993 (3:Int32)))) (own_v414 own_v990 own_v990 own_v993 own_v993 own_v993 own_v993 (1:Int32) (0:Int32)).length) ∧ (¬ ((own_at (own_v414 own_v990 own_v990 own_v993 own_v993 own_v993 own_v993 (1:Int32) (0:Int32)) (3:Int32)) < (own_at (own_v416 own_v990 own_v990 own_v993 own_v993 own_v993 own_v993 (1:Int32) (0:Int32)) (own_at own_v993 (3:Int32)))) → (own_at (own_v416 own_v990 own_v990 own_v993 own_v993 own_v993 own_v993 (1:Int32) (0:Int32)) (own_at own_v993 (3:Int32))) = (own_at own_v993 (own_at own_v993 (3:Int32))) → own_In (own_v410 own_v990 own_v990 own_v993 own_v993 own_v993 own_v993 (1:Int32) (0:Int32)) (own_v418 own_v990 own_v990 own_v993 own_v993 own_v993 own_v993 (1:Int32) (0:Int32)).length))) := by decide +kernel
theorem own_fin1030 : ∀ w0_2 ∈ own_L15, (((¬ ((f4 w0_2 (0:Int32)) = (0:Int32))) → (own_In (0:Int32) own_v993.length) ∧ (own_In (own_at own_v993 (0:Int32)) own_v993.length) ∧ (own_In (0:Int32) own_v990.length) ∧ (¬ ((own_at own_v990 (0:Int32)) < (own_at own_v993 (own_at own_v993 (0:Int32)))) → own_In (own_at own_v993 (0:Int32)) own_v993.length) ∧ (¬ ((own_at own_v990 (0:Int32)) < (own_at own_v993 (own_at own_v993 (0:Int32)))) → own_In (own_at own_v993 (own_at own_v993 (0:Int32))) own_v990.length) ∧ (¬ ((own_at own_v990 (0:Int32)) < (own_at own_v993 (own_at own_v993 (0:Int32)))) → own_In (own_at own_v990 (0:Int32)) own_v990.length) ∧ (¬ ((own_at own_v990 (0:Int32)) < (own_at own_v993 (own_at own_v993 (0:Int32)))) → own_In (own_at own_v990 (own_at own_v993 (own_at own_v993 (0:Int32)))) own_v990.length) ∧ (¬ ((own_at own_v990 (0:Int32)) < (own_at own_v993 (own_at own_v993 (0:Int32)))) → (own_at own_v993 (own_at own_v993 (0:Int32))) = (own_at own_v993 (own_at own_v993 (0:Int32))) → own_In (0:Int32) own_v993.length))) := by decide +kernel
theorem own_fin1032 : ∀ w0_2 ∈ own_L15, (((¬ ((f4 w0_2 (0:Int32)) = (0:Int32))) → ((f4 w0_2 (1:Int32)) = (0:Int32)) → ((f4 w0_2 (2:Int32)) = (0:Int32)) → (¬ ((f4 w0_2 (3:Int32)) = (0:Int32))) → (own_In (3:Int32) own_v993.length) ∧ (own_In (own_at own_v993 (3:Int32)) (own_v472 own_v990 own_v990 own_v993 own_v993 own_v993 own_v993 (1:Int32) (0:Int32)).length) ∧ (own_In (3:Int32) (own_v470 own_v990 own_v990 own_v993 own_v993 own_v993 own_v993 (1:Int32) (0:Int32)).length) ∧ (¬ ((own_at (own_v470 own_v990 own_v990 own_v993 own_v993 own_v993 own_v993 (1:Int32) (0:Int32)) (3:Int32)) < (own_at (own_v472 own_v990 own_v990 own_v993 own_v993 own_v993 own_v993 (1:Int32) (0:Int32)) (own_at own_v993 (3:Int32)))) → own_In (own_at own_v993 (3:Int32)) own_v993.length) ∧ (¬ ((own_at (own_v470 own_v990 own_v990 own_v993 own_v993 own_v993 own_v993 (1:Int32) (0:Int32)) (3:Int32)) < (own_at (own_v472 own_v990 own_v990 own_v993 own_v993 own_v993 own_v993 (1:Int32) (0:Int32)) (own_at own_v993 (3:Int32)))) → own_In (own_at (own_v472 own_v990 own_v990 own_v993 own_v993 own_v993 own_v993 (1:Int32) (0:Int32)) (own_at own_v993 (3:Int32))) (own_v468 own_v990 own_v990 own_v993 own_v993 own_v993 own_v993 (1:Int32) (0:Int32)).length) ∧ (¬ ((own_at (own_v470 own_v990 own_v990 own_v993 own_v993 own_v993 own_v993 (1:Int32) (0:Int32)) (3:Int32)) < (own_at (own_v472 own_v990 own_v990 own_v993 own_v993 own_v993 own_v993 (1:Int32) (0:Int32)) (own_at own_v993 (3:Int32)))) → own_In (own_at (own_v470 own_v990 own_v990 own_v993 own_v993 own_v993 own_v993 (1:Int32) (0:Int32)) (3:Int32)) (own_v468 own_v990 own_v990 own_v993 own_v993 own_v993 own_v993 (1:Int32) (0:Int32)).length) ∧ (¬ ((own_at (own_v470 own_v990 own_v990 own_v993 own_v993 own_v993 own_v993 (1:Int32) (0:Int32)) (3:Int32)) < (own_at (own_v472 own_v990 own_v990 own_v993 own_v993 own_v993 own_v993 (1:Int32) (0:Int32)) (own_at own_v993 (3:Int32)))) → own_In (own_at (own_v468 own_v990 own_v990 own_v993 own_v993 own_v993 own_v993 (1:Int32) (0:Int32)) (own_at (own_v472 own_v990 own_v990 own_v993 own_v993 own_v993 own_v993 (1:Int32) (0:Int32)) (own_at own_v993 (3:Int32)))) (own_v470 own_v990 own_v990 own_v993 own_v993 own_v993 own_v993 (1:Int32) (0:Int32)).length) ∧ (¬ ((own_at (own_v470 own_v990 own_v990 own_v993 own_v993 own_v993 own_v993 (1:Int32) (0:Int32)) (3:Int32)) < (own_at (own_v472 own_v990 own_v990 own_v993 own_v993 own_v993 own_v993 (1:Int32) (0:Int32)) (own_at own_v993 (3:Int32)))) → (own_at (own_v472 own_v990 own_v990 own_v993 own_v993 own_v993 own_v993 (1:Int32) (0:Int32)) (own_at own_v993 (3:Int32))) = (own_at own_v993 (own_at own_v993 (3:Int32))) → own_In (own_v466 own_v990 own_v990 own_v993 own_v993 own_v993 own_v993 (1:Int32) (0:Int32)) (own_v474 own_v990 own_v990 own_v993 own_v993 own_v993 own_v993 (1:Int32) (0:Int32)).length))) := by decide +kernel
theorem own_fin1034 : ∀ w0_2 ∈ own_L15, (((¬ ((f4 w0_2 (0:Int32)) = (0:Int32))) → ((f4 w0_2 (1:Int32)) = (0:Int32)) → (¬ ((f4 w0_2 (2:Int32)) = (0:Int32))) → (own_In (2:Int32) own_v993.length) ∧ (own_In (own_at own_v993 (2:Int32)) (own_v472 own_v990 own_v990 own_v993 own_v993 own_v993 own_v993 (1:Int32) (0:Int32)).length) ∧ (own_In (2:Int32) (own_v470 own_v990 own_v990 own_v993 own_v993 own_v993 own_v993 (1:Int32) (0:Int32)).length) ∧ (¬ ((own_at (own_v470 own_v990 own_v990 own_v993 own_v993 own_v993 own_v993 (1:Int32) (0:Int32)) (2:Int32)) < (own_at (own_v472 own_v990 own_v990 own_v993 own_v993 own_v993 own_v993 (1:Int32) (0:Int32)) (own_at own_v993 (2:Int32)))) → own_In (own_at own_v993 (2:Int32)) own_v993.length) ∧ (¬ ((own_at (own_v470 own_v990 own_v990 own_v993 own_v993 own_v993 own_v993 (1:Int32) (0:Int32)) (2:Int32)) < (own_at (own_v472 own_v990 own_v990 own_v993 own_v993 own_v993 own_v993 (1:Int32) (0:Int32)) (own_at own_v993 (2:Int32)))) → own_In (own_at (own_v472 own_v990 own_v990 own_v993 own_v993 own_v993 own_v993 (1:Int32) (0:Int32)) (own_at own_v993 (2:Int32))) (own_v468 own_v990 own_v990 own_v993 own_v993 own_v993 own_v993 (1:Int32) (0:Int32)).length) ∧ (¬ ((own_at (own_v470 own_v990 own_v990 own_v993 own_v993 own_v993 own_v993 (1:Int32) (0:Int32)) (2:Int32)) < (own_at (own_v472 own_v990 own_v990 own_v993 own_v993 own_v993 own_v993 (1:Int32) (0:Int32)) (own_at own_v993 (2:Int32)))) → own_In (own_at (own_v470 own_v990 own_v990 own_v993 own_v993 own_v993 own_v993 (1:Int32) (0:Int32)) (2:Int32)) (own_v468 own_v990 own_v990 own_v993 own_v993 own_v993 own_v993 (1:Int32) (0:Int32)).length) ∧ (¬ ((own_at (own_v470 own_v990 own_v990 own_v993 own_v993 own_v993 own_v993 (1:Int32) (0:Int32)) (2:Int32)) < (own_at (own_v472 own_v990 own_v990 own_v993 own_v993 own_v993 own_v993 (1:Int32) (0:Int32)) (own_at own_v993 (2:Int32)))) → own_In (own_at (own_v468 own_v990 own_v990 own_v993 own_v993 own_v993 own_v993 (1:Int32) (0:Int32)) (own_at (own_v472 own_v990 own_v990 own_v993 own_v993 own_v993 own_v993 (1:Int32) (0:Int32)) (own_at own_v993 (2:Int32)))) (own_v470 own_v990 own_v990 own_v993 own_v993 own_v993 own_v993 (1:Int32) (0:Int32)).length) ∧ (¬ ((own_at (own_v470 own_v990 own_v990 own_v993 own_v993 own_v993 own_v993 (1:Int32) (0:Int32)) (2:Int32)) < (own_at (own_v472 own_v990 own_v990 own_v993 own_v993 own_v993 own_v993 (1:Int32) (0:Int32)) (own_at own_v993 (2:Int32)))) → (own_at (own_v472 own_v990 own_v990 own_v993 own_v993 own_v993 own_v993 (1:Int32) (0:Int32)) (own_at own_v993 (2:Int32))) = (own_at own_v993 (own_at own_v993 (2:Int32))) → own_In (own_v466 own_v990 own_v990 own_v993 own_v993 own_v993 own_v993 (1:Int32) (0:Int32)) (own_v474 own_v990 own_v990 own_v993 own_v993 own_v993 own_v993 (1:Int32) (0:Int32)).length))) := by decide +kernel
theorem own_fin1036 : ∀ w0_2 ∈ own_L15, (((¬ ((f4 w0_2 (0:Int32)) = (0:Int32))) → ((f4 w0_2 (1:Int32)) = (0:Int32)) → (¬ ((f4 w0_2 (2:Int32)) = (0:Int32))) → (¬ ((f4 w0_2 (3:Int32)) = (0:Int32))) → (own_In (3:Int32) own_v993.length) ∧ (own_In (own_at own_v993 (3:Int32)) (own_v533 own_v990 own_v990 own_v993 own_v993 own_v993 own_v993 (1:Int32) (0:Int32)).length) ∧ (own_In (3:Int32) (own_v531 own_v990 own_v990 own_v993 own_v993 own_v993 own_v993 (1:Int32) (0:Int32)).length) ∧ (¬ ((own_at (own_v531 own_v990 own_v990 own_v993 own_v993 own_v993 own_v993 (1:Int32) (0:Int32)) (3:Int32)) < (own_at (own_v533 own_v990 own_v990 own_v993 own_v993 own_v993 own_v993 (1:Int32) (0:Int32)) (own_at own_v993 (3:Int32)))) → own_In (own_at own_v993 (3:Int32)) own_v993.length) ∧ (¬ ((own_at (own_v531 own_v990 own_v990 own_v993 own_v993 own_v993 own_v993 (1:Int32) (0:Int32)) (3:Int32)) < (own_at (own_v533 own_v990 own_v990 own_v993 own_v993 own_v993 own_v993 (1:Int32) (0:Int32)) (own_at own_v993 (3:Int32)))) → own_In (own_at (own_v533 own_v990 own_v990 own_v993 own_v993 own_v993 own_v993 (1:Int32) (0:Int32)) (own_at own_v993 (3:Int32))) (own_v529 own_v990 own_v990 own_v993 own_v993 own_v993 own_v993 (1:Int32) (0:Int32)).length) ∧ (¬ ((own_at (own_v531 own_v990 own_v990 own_v993 own_v993 own_v993 own_v993 (1:Int32) (0:Int32)) (3:Int32)) < (own_at (own_v533 own_v990 own_v990 own_v993 own_v993 own_v993 own_v993 (1:Int32) (0:Int32)) (own_at own_v993 (3:Int32)))) → own_In (own_at (own_v531 own_v990 own_v990 own_v993 own_v993 own_v993 own_v993 (1:Int32) (0:Int32)) (3:Int32)) (own_v529 own_v990 own_v990 own_v993 own_v993 own_v993 own_v993 (1:Int32) (0:Int32)).length) ∧ (¬ ((own_at (own_v531 own_v990 own_v990 own_v993 own_v993 own_v993 own_v993 (1:Int32) (0:Int32)) (3:Int32)) < (own_at (own_v533 own_v990 own_v990 own_v993 own_v993 own_v993 own_v993 (1:Int32) (0:Int32)) (own_at own_v993 (3:Int32)))) → own_In (own_at (own_v529 own_v990 own_v990 own_v993 own_v993 own_v993 own_v993 (1:Int32) (0:Int32)) (own_at (own_v533 own_v990 own_v990 own_v993 own_v993 own_v993 own_v993 (1:Int32) (0:Int32)) (own_at own_v993 (3:Int32)))) (own_v531 own_v990 own_v990 own_v993 own_v993 own_v993 own_v993 (1:Int32) (0:Int32)).length) ∧ (¬ ((own_at (own_v531 own_v990 own_v990 own_v993 own_v993 own_v993 own_v993 (1:Int32) (0:Int32)) (3:Int32)) < (own_at (own_v533 own_v990 own_v990 own_v993 own_v993 own_v993 own_v993 (1:Int32) (0:Int32)) (own_at own_v993 (3:Int32)))) → (own_at (own_v533 own_v990 own_v990 own_v993 own_v993 own_v993 own_v993 (1:Int32) (0:Int32)) (own_at own_v993 (3:Int32))) = (own_at own_v993 (own_at own_v993 (3:Int32))) → own_In (own_v527 own_v990 own_v990 own_v993 own_v993 own_v993 own_v993 (1:Int32) (0:Int32)) (own_v535 own_v990 own_v990 own_v993 own_v993 own_v993 own_v993 (1:Int32) (0:Int32)).length))) := by decide +kernel
theorem own_fin1038 : ∀ w0_2 ∈ own_L15, (((¬ ((f4 w0_2 (0:Int32)) = (0:Int32))) → (¬ ((f4 w0_2 (1:Int32)) = (0:Int32))) → (own_In (1:Int32) own_v993.length) ∧ (own_In (own_at own_v993 (1:Int32)) (own_v472 own_v990 own_v990 own_v993 own_v993 own_v993 own_v993 (1:Int32) (0:Int32)).length) ∧ (own_In (1:Int32) (own_v470 own_v990 own_v990 own_v993 own_v993 own_v993 own_v993 (1:Int32) (0:Int32)).length) ∧ (¬ ((own_at (own_v470 own_v990 own_v990 own_v993 own_v993 own_v993 own_v993 (1:Int32) (0:Int32)) (1:Int32)) < (own_at (own_v472 own_v990 own_v990 own_v993 own_v993 own_v993 own_v993 (1:Int32) (0:Int32)) (own_at own_v993 (1:Int32)))) → own_In (own_at own_v993 (1:Int32)) own_v993.length) ∧ (¬ ((own_at (own_v470 own_v990 own_v990 own_v993 own_v993 own_v993 own_v993 (1:Int32) (0:Int32)) (1:Int32)) < (own_at (own_v472 own_v990 own_v990 own_v993 own_v993 own_v993 own_v993 (1:Int32) (0:Int32)) (own_at own_v993 (1:Int32)))) → own_In (own_at (own_v472 own_v990 own_v990 own_v993 own_v993 own_v993 own_v993 (1:Int32) (0:Int32)) (own_at own_v993 (1:Int32))) (own_v468 own_v990 own_v990 own_v993 own_v993 own_v993 own_v993 (1:Int32) (0:Int32)).length) ∧ (¬ ((own_at (own_v470 own_v990 own_v990 own_v993 own_v993 own_v993 own_v993 (1:Int32) (0:Int32)) (1:Int32)) < (own_at (own_v472 own_v990 own_v990 own_v993 own_v993 own_v993 own_v993 (1:Int32) (0:Int32)) (own_at own_v993 (1:Int32)))) → own_In (own_at (own_v470 own_v990 own_v990 own_v993 own_v993 own_v993 own_v993 (1:Int32) (0:Int32)) (1:Int32)) (own_v468 own_v990 own_v990 own_v993 own_v993 own_v993 own_v993 (1:Int32) (0:Int32)).length) ∧ (¬ ((own_at (own_v470 own_v990 own_v990 own_v993 own_v993 own_v993 own_v993 (1:Int32) (0:Int32)) (1:Int32)) < (own_at (own_v472 own_v990 own_v990 own_v993 own_v993 own_v993 own_v993 (1:Int32) (0:Int32)) (own_at own_v993 (1:Int32)))) → own_In (own_at (own_v468 own_v990 own_v990 own_v993 own_v993 own_v993 own_v993 (1:Int32) (0:Int32)) (own_at (own_v472 own_v990 own_v990 own_v993 own_v993 own_v993 own_v993 (1:Int32) (0:Int32)) (own_at own_v993 (1:Int32)))) (own_v470 own_v990 own_v990 own_v993 own_v993 own_v993 own_v993 (1:Int32) (0:Int32)).length) ∧ (¬ ((own_at (own_v470 own_v990 own_v990 own_v993 own_v993 own_v993 own_v993 (1:Int32) (0:Int32)) (1:Int32)) < (own_at (own_v472 own_v990 own_v990 own_v993 own_v993 own_v993 own_v993 (1:Int32) (0:Int32)) (own_at own_v993 (1:Int32)))) → (own_at (own_v472 own_v990 own_v990 own_v993 own_v993 own_v993 own_v993 (1:Int32) (0:Int32)) (own_at own_v993 (1:Int32))) = (own_at own_v993 (own_at own_v993 (1:Int32))) → own_In (own_v466 own_v990 own_v990 own_v993 own_v993 own_v993 own_v993 (1:Int32) (0:Int32)) (own_v474 own_v990 own_v990 own_v993 own_v993 own_v993 own_v993 (1:Int32) (0:Int32)).length))) := by decide +kernel
theorem own_fin1040 : ∀ w0_2 ∈ own_L15, (((¬ ((f4 w0_2 (0:Int32)) = (0:Int32))) → (¬ ((f4 w0_2 (1:Int32)) = (0:Int32))) → ((f4 w0_2 (2:Int32)) = (0:Int32)) → (¬ ((f4 w0_2 (3:Int32)) = (0:Int32))) → (own_In (3:Int32) own_v993.length) ∧ (own_In (own_at own_v993 (3:Int32)) (own_v592 own_v990 own_v990 own_v993 own_v993 own_v993 own_v993 (1:Int32) (0:Int32)).length) ∧ (own_In (3:Int32) (own_v590 own_v990 own_v990 own_v993 own_v993 own_v993 own_v993 (1:Int32) (0:Int32)).length) ∧ (¬ ((own_at (own_v590 own_v990 own_v990 own_v993 own_v993 own_v993 own_v993 (1:Int32) (0:Int32)) (3:Int32)) < (own_at (own_v592 own_v990 own_v990 own_v993 own_v993 own_v993 own_v993 (1:Int32) (0:Int32)) (own_at own_v993 (3:Int32)))) → own_In (own_at own_v993 (3:Int32)) own_v993.length) ∧ (¬ ((own_at (own_v590 own_v990 own_v990 own_v993 own_v993 own_v993 own_v993 (1:Int32) (0:Int32)) (3:Int32)) < (own_at (own_v592 own_v990 own_v990 own_v993 own_v993 own_v993 own_v993 (1:Int32) (0:Int32)) (own_at own_v993 (3:Int32)))) → own_In (own_at (own_v592 own_v990 own_v990 own_v993 own_v993 own_v993 own_v993 (1:Int32) (0:Int32)) (own_at own_v993 (3:Int32))) (own_v588 own_v990 own_v990 own_v993 own_v993 own_v993 own_v993 (1:Int32) (0:Int32)).length) ∧ (¬ ((own_at (own_v590 own_v990 own_v990 own_v993 own_v993 own_v993 own_v993 (1:Int32) (0:Int32)) (3:Int32)) < (own_at (own_v592 own_v990 own_v990 own_v993 own_v993 own_v993 own_v993 (1:Int32) (0:Int32)) (own_at own_v993 (3:Int32)))) → own_In (own_at (own_v590 own_v990 own_v990 own_v993 own_v993 own_v993 own_v993 (1:Int32) (0:Int32)) (3:Int32)) (own_v588 own_v990 own_v990 own_v993 own_v993 own_v993 own_v993 (1:Int32) (0:Int32)).length) ∧ (¬ ((own_at (own_v590 own_v990 own_v990 own_v993 own_v993 own_v993 own_v993 (1:Int32) (0:Int32)) (3:Int32)) < (own_at (own_v592 own_v990 own_v990 own_v993 own_v993 own_v993 own_v993 (1:Int32) (0:Int32)) (own_at own_v993 (3:Int32)))) → own_In (own_at (own_v588 own_v990 own_v990 own_v993 own_v993 own_v993 own_v993 (1:Int32) (0:Int32)) (own_at (own_v592 own_v990 own_v990 own_v993 own_v993 own_v993 own_v993 (1:Int32) (0:Int32)) (own_at own_v993 (3:Int32)))) (own_v590 own_v990 own_v990 own_v993 own_v993 own_v993 own_v993 (1:Int32) (0:Int32)).length) ∧ (¬ ((own_at (own_v590 own_v990 own_v990 own_v993 own_v993 own_v993 own_v993 (1:Int32) (0:Int32)) (3:Int32)) < (own_at (own_v592 own_v990 own_v990 own_v993 own_v993 own_v993 own_v993 (1:Int32) (0:Int32)) (own_at own_v993 (3:Int32)))) → (own_at (own_v592 own_v990 own_v990 own_v993 own_v993 own_v993 own_v993 (1:Int32) (0:Int32)) (own_at own_v993 (3:Int32))) = (own_at own_v993 (own_at own_v993 (3:Int32))) → own_In (own_v586 own_v990 own_v990 own_v993 own_v993 own_v993 own_v993 (1:Int32) (0:Int32)) (own_v594 own_v990 own_v990 own_v993 own_v993 own_v993 own_v993 (1:Int32) (0:Int32)).length))) := by decide +kernel
theorem own_fin1042 : ∀ w0_2 ∈ own_L15, (((¬ ((f4 w0_2 (0:Int32)) = (0:Int32))) → (¬ ((f4 w0_2 (1:Int32)) = (0:Int32))) → (¬ ((f4 w0_2 (2:Int32)) = (0:Int32))) → (own_In (2:Int32) own_v993.length) ∧ (own_In (own_at own_v993 (2:Int32)) (own_v592 own_v990 own_v990 own_v993 own_v993 own_v993 own_v993 (1:Int32) (0:Int32)).length) ∧ (own_In (2:Int32) (own_v590 own_v990 own_v990 own_v993 own_v993 own_v993 own_v993 (1:Int32) (0:Int32)).length) ∧ (¬ ((own_at (own_v590 own_v990 own_v990 own_v993 own_v993 own_v993 own_v993 (1:Int32) (0:Int32)) (2:Int32)) < (own_at (own_v592 own_v990 own_v990 own_v993 own_v993 own_v993 own_v993 (1:Int32) (0:Int32)) (own_at own_v993 (2:Int32)))) → own_In (own_at own_v993 (2:Int32)) own_v993.length) ∧ (¬ ((own_at (own_v590 own_v990 own_v990 own_v993 own_v993 own_v993 own_v993 (1:Int32) (0:Int32)) (2:Int32)) < (own_at (own_v592 own_v990 own_v990 own_v993 own_v993 own_v993 own_v993 (1:Int32) (0:Int32)) (own_at own_v993 (2:Int32)))) → own_In (own_at (own_v592 own_v990 own_v990 own_v993 own_v993 own_v993 own_v993 (1:Int32) (0:Int32)) (own_at own_v993 (2:Int32))) (own_v588 own_v990 own_v990 own_v993 own_v993 own_v993 own_v993 (1:Int32) (0:Int32)).length) ∧ (¬ ((own_at (own_v590 own_v990 own_v990 own_v993 own_v993 own_v993 own_v993 (1:Int32) (0:Int32)) (2:Int32)) < (own_at (own_v592 own_v990 own_v990 own_v993 own_v993 own_v993 own_v993 (1:Int32) (0:Int32)) (own_at own_v993 (2:Int32)))) → own_In (own_at (own_v590 own_v990 own_v990 own_v993 own_v993 own_v993 own_v993 (1:Int32) (0:Int32)) (2:Int32)) (own_v588 own_v990 own_v990 own_v993 own_v993 own_v993 own_v993 (1:Int32) (0:Int32)).length) ∧ (¬ ((own_at (own_v590 own_v990 own_v990 own_v993 own_v993 own_v993 own_v993 (1:Int32) (0:Int32)) (2:Int32)) < (own_at (own_v592 own_v990 own_v990 own_v993 own_v993 own_v993 own_v993 (1:Int32) (0:Int32)) (own_at own_v993 (2:Int32)))) → own_In (own_at (own_v588 own_v990 own_v990 own_v993 own_v993 own_v993 own_v993 (1:Int32) (0:Int32)) (own_at (own_v592 own_v990 own_v990 own_v993 own_v993 own_v993 own_v993 (1:Int32) (0:Int32)) (own_at own_v993 (2:Int32)))) (own_v590 own_v990 own_v990 own_v993 own_v993 own_v993 own_v993 (1:Int32) (0:Int32)).length) ∧ (¬ ((own_at (own_v590 own_v990 own_v990 own_v993 own_v993 own_v993 own_v993 (1:Int32) (0:Int32)) (2:Int32)) < (own_at (own_v592 own_v990 own_v990 own_v993 own_v993 own_v993 own_v993 (1:Int32) (0:Int32)) (own_at own_v993 (2:Int32)))) → (own_at (own_v592 own_v990 own_v990 own_v993 own_v993 own_v993 own_v993 (1:Int32) (0:Int32)) (own_at own_v993 (2:Int32))) = (own_at own_v993 (own_at own_v993 (2:Int32))) → own_In (own_v586 own_v990 own_v990 own_v993 own_v993 own_v993 own_v993 (1:Int32) (0:Int32)) (own_v594 own_v990 own_v990 own_v993 own_v993 own_v993 own_v993 (1:Int32) (0:Int32)).length))) := by decide +kernel
theorem own_fin1044 : ∀ w0_2 ∈ own_L15, (((¬ ((f4 w0_2 (0:Int32)) = (0:Int32))) → (¬ ((f4 w0_2 (1:Int32)) = (0:Int32))) → (¬ ((f4 w0_2 (2:Int32)) = (0:Int32))) → (¬ ((f4 w0_2 (3:Int32)) = (0:Int32))) → (own_In (3:Int32) own_v993.length) ∧ (own_In (own_at own_v993 (3:Int32)) (own_v652 own_v990 own_v990 own_v993 own_v993 own_v993 own_v993 (1:Int32) (0:Int32)).length) ∧ (own_In (3:Int32) (own_v650 own_v990 own_v990 own_v993 own_v993 own_v993 own_v993 (1:Int32) (0:Int32)).length) ∧ (¬ ((own_at (own_v650 own_v990 own_v990 own_v993 own_v993 own_v993 own_v993 (1:Int32) (0:Int32)) (3:Int32)) < (own_at (own_v652 own_v990 own_v990 own_v993 own_v993 own_v993 own_v993 (1:Int32) (0:Int32)) (own_at own_v993 (3:Int32)))) → own_In (own_at own_v993 (3:Int32)) own_v993.length) ∧ (¬ ((own_at (own_v650 own_v990 own_v990 own_v993 own_v993 own_v993 own_v993 (1:Int32) (0:Int32)) (3:Int32)) < (own_at (own_v652 own_v990 own_v990 own_v993 own_v993 own_v993 own_v993 (1:Int32) (0:Int32)) (own_at own_v993 (3:Int32)))) → own_In (own_at (own_v652 own_v990 own_v990 own_v993 own_v993 own_v993 own_v993 (1:Int32) (0:Int32)) (own_at own_v993 (3:Int32))) (own_v648 own_v990 own_v990 own_v993 own_v993 own_v993 own_v993 (1:Int32) (0:Int32)).length) ∧ (¬ ((own_at (own_v650 own_v990 own_v990 own_v993 own_v993 own_v993 own_v993 (1:Int32) (0:Int32)) (3:Int32)) < (own_at (own_v652 own_v990 own_v990 own_v993 own_v993 own_v993 own_v993 (1:Int32) (0:Int32)) (own_at own_v993 (3:Int32)))) → own_In (own_at (own_v650 own_v990 own_v990 own_v993 own_v993 own_v993 own_v993 (1:Int32) (0:Int32)) (3:Int32)) (own_v648 own_v990 own_v990 own_v993 own_v993 own_v993 own_v993 (1:Int32) (0:Int32)).length) ∧ (¬ ((own_at (own_v650 own_v990 own_v990 own_v993 own_v993 own_v993 own_v993 (1:Int32) (0:Int32)) (3:Int32)) < (own_at (own_v652 own_v990 own_v990 own_v993 own_v993 own_v993 own_v993 (1:Int32) (0:Int32)) (own_at own_v993 (3:Int32)))) → own_In (own_at (own_v648 own_v990 own_v990 own_v993 own_v993 own_v993 own_v993 (1:Int32) (0:Int32)) (own_at (own_v652 own_v990 own_v990 own_v993 own_v993 own_v993 own_v993 (1:Int32) (0:Int32)) (own_at own_v993 (3:Int32)))) (own_v650 own_v990 own_v990 own_v993 own_v993 own_v993 own_v993 (1:Int32) (0:Int32)).length) ∧ (¬ ((own_at (own_v650 own_v990 own_v990 own_v993 own_v993 own_v993 own_v993 (1:Int32) (0:Int32)) (3:Int32)) < (own_at (own_v652 own_v990 own_v990 own_v993 own_v993 own_v993 own_v993 (1:Int32) (0:Int32)) (own_at own_v993 (3:Int32)))) → (own_at (own_v652 own_v990 own_v990 own_v993 own_v993 own_v993 own_v993 (1:Int32) (0:Int32)) (own_at own_v993 (3:Int32))) = (own_at own_v993 (own_at own_v993 (3:Int32))) → own_In (own_v646 own_v990 own_v990 own_v993 own_v993 own_v993 own_v993 (1:Int32) (0:Int32)) (own_v654 own_v990 own_v990 own_v993 own_v993 own_v993 own_v993 (1:Int32) (0:Int32)).length))) := by decide +kernel
theorem own_pd2 : parseMethodDescriptor "(Lcom/example/spare_calculus/sparecalculus/bisim/Partition;I)V" = some ⟨[(.object "com/example/spare_calculus/sparecalculus/bisim/Partition"), .int], none⟩ := by decide +kernel
def own_v1060 (w0_2 : Int32) : Int32 := (g3_tc w0_2 own_v990 own_v990 own_v993 own_v993 own_v993 own_v993 (1:Int32) (0:Int32))
def own_v1062 (w0_2 : Int32) : List Int32 := (g3_el w0_2 own_v990 own_v990 own_v993 own_v993 own_v993 own_v993 (1:Int32) (0:Int32))
def own_v1064 (w0_2 : Int32) : List Int32 := (g3_po w0_2 own_v990 own_v990 own_v993 own_v993 own_v993 own_v993 (1:Int32) (0:Int32))
def own_v1066 (w0_2 : Int32) : List Int32 := (g3_bm w0_2 own_v990 own_v990 own_v993 own_v993 own_v993 own_v993 (1:Int32) (0:Int32))
def own_v1068 (w0_2 : Int32) : List Int32 := (g3_tb w0_2 own_v990 own_v990 own_v993 own_v993 own_v993 own_v993 (1:Int32) (0:Int32))
theorem own_fin1075 : ((own_In (0:Int32) own_v993.length)) := by decide +kernel
theorem own_fin1077 : ∀ w0_2 ∈ own_L15, ((own_In (0:Int32) (own_v1066 w0_2).length)) := by decide +kernel
theorem own_fin1079 : ((own_In (0:Int32) own_v996.length)) := by decide +kernel
theorem own_fin1081 : ∀ w0_2 ∈ own_L15, (((own_at (own_v1066 w0_2) (0:Int32)) < (own_at own_v996 (0:Int32)) → own_In (1:Int32) own_v993.length)) := by decide +kernel
theorem own_fin1083 : ∀ w0_2 ∈ own_L15, (((own_at (own_v1066 w0_2) (0:Int32)) < (own_at own_v996 (0:Int32)) → own_In (1:Int32) own_v996.length)) := by decide +kernel
theorem own_fin1085 : ∀ w0_2 ∈ own_L15, (((own_at (own_v1066 w0_2) (0:Int32)) < (own_at own_v996 (0:Int32)) → own_In (1:Int32) (own_v1066 w0_2).length)) := by decide +kernel
theorem own_fin1087 : ∀ w0_2 ∈ own_L15, (((own_at (own_v1066 w0_2) (0:Int32)) < (own_at own_v996 (0:Int32)) → (own_at own_v993 (0:Int32)) < (own_at (own_v1066 w0_2) (0:Int32)) → own_In (own_at own_v993 (0:Int32)) (own_v1062 w0_2).length)) := by decide +kernel
theorem own_fin1089 : ∀ w0_2 ∈ own_L15, (((own_at (own_v1066 w0_2) (0:Int32)) < (own_at own_v996 (0:Int32)) → (own_at own_v993 (0:Int32)) < (own_at (own_v1066 w0_2) (0:Int32)) → own_In (own_at (own_v1062 w0_2) (own_at own_v993 (0:Int32))) own_v993.length)) := by decide +kernel
theorem own_fin1091 : ∀ w0_2 ∈ own_L15, (((own_at (own_v1066 w0_2) (0:Int32)) < (own_at own_v996 (0:Int32)) → ((own_at own_v993 (0:Int32)) + (1:Int32)) < (own_at (own_v1066 w0_2) (0:Int32)) → own_In ((own_at own_v993 (0:Int32)) + (1:Int32)) (own_v1062 w0_2).length)) := by decide +kernel
theorem own_fin1093 : ∀ w0_2 ∈ own_L15, (((own_at (own_v1066 w0_2) (0:Int32)) < (own_at own_v996 (0:Int32)) → ((own_at own_v993 (0:Int32)) + (1:Int32)) < (own_at (own_v1066 w0_2) (0:Int32)) → own_In (own_at (own_v1062 w0_2) ((own_at own_v993 (0:Int32)) + (1:Int32))) own_v993.length)) := by decide +kernel
theorem own_fin1095 : ∀ w0_2 ∈ own_L15, (((own_at (own_v1066 w0_2) (0:Int32)) < (own_at own_v996 (0:Int32)) → (((own_at own_v993 (0:Int32)) + (1:Int32)) + (1:Int32)) < (own_at (own_v1066 w0_2) (0:Int32)) → own_In (((own_at own_v993 (0:Int32)) + (1:Int32)) + (1:Int32)) (own_v1062 w0_2).length)) := by decide +kernel
theorem own_fin1097 : ∀ w0_2 ∈ own_L15, (((own_at (own_v1066 w0_2) (0:Int32)) < (own_at own_v996 (0:Int32)) → (((own_at own_v993 (0:Int32)) + (1:Int32)) + (1:Int32)) < (own_at (own_v1066 w0_2) (0:Int32)) → own_In (own_at (own_v1062 w0_2) (((own_at own_v993 (0:Int32)) + (1:Int32)) + (1:Int32))) own_v993.length)) := by decide +kernel
theorem own_fin1099 : ∀ w0_2 ∈ own_L15, (((own_at (own_v1066 w0_2) (0:Int32)) < (own_at own_v996 (0:Int32)) → ((((own_at own_v993 (0:Int32)) + (1:Int32)) + (1:Int32)) + (1:Int32)) < (own_at (own_v1066 w0_2) (0:Int32)) → own_In ((((own_at own_v993 (0:Int32)) + (1:Int32)) + (1:Int32)) + (1:Int32)) (own_v1062 w0_2).length)) := by decide +kernel
theorem own_fin1101 : ∀ w0_2 ∈ own_L15, (((own_at (own_v1066 w0_2) (0:Int32)) < (own_at own_v996 (0:Int32)) → ((((own_at own_v993 (0:Int32)) + (1:Int32)) + (1:Int32)) + (1:Int32)) < (own_at (own_v1066 w0_2) (0:Int32)) → own_In (own_at (own_v1062 w0_2) ((((own_at own_v993 (0:Int32)) + (1:Int32)) + (1:Int32)) + (1:Int32))) own_v993.length)) := by decide +kernel
theorem own_fin1103 : ∀ w0_2 ∈ own_L15, (((own_at (own_v1066 w0_2) (0:Int32)) < (own_at own_v996 (0:Int32)) → ¬ ((((((own_at own_v993 (0:Int32)) + (1:Int32)) + (1:Int32)) + (1:Int32)) + (1:Int32)) < (own_at (own_v1066 w0_2) (0:Int32))))) := by decide +kernel
theorem own_pd3 : parseMethodDescriptor "(I)I" = some ⟨[.int], some .int⟩ := by decide +kernel
def own_v1119 (w0_2 : Int32) : Int32 := (g6_bc (0:Int32) (own_v1062 w0_2) own_v993 own_v993 own_v996 (own_v1066 w0_2) (1:Int32) (own_v1060 w0_2))
def own_v1121 (w0_2 : Int32) : List Int32 := (g6_bo (0:Int32) (own_v1062 w0_2) own_v993 own_v993 own_v996 (own_v1066 w0_2) (1:Int32) (own_v1060 w0_2))
def own_v1123 (w0_2 : Int32) : List Int32 := (g6_bs (0:Int32) (own_v1062 w0_2) own_v993 own_v993 own_v996 (own_v1066 w0_2) (1:Int32) (own_v1060 w0_2))
def own_v1125 (w0_2 : Int32) : List Int32 := (g6_be (0:Int32) (own_v1062 w0_2) own_v993 own_v993 own_v996 (own_v1066 w0_2) (1:Int32) (own_v1060 w0_2))
def own_v1127 (w0_2 : Int32) : List Int32 := (g6_bm (0:Int32) (own_v1062 w0_2) own_v993 own_v993 own_v996 (own_v1066 w0_2) (1:Int32) (own_v1060 w0_2))
def own_v1129 (w0_2 : Int32) : Int32 := (f6 (0:Int32) (own_v1062 w0_2) own_v993 own_v993 own_v996 (own_v1066 w0_2) (1:Int32) (own_v1060 w0_2))
def own_v1131 (w0_2 : Int32) : Int32 := (if w0_2 = (15:Int32) then (1:Int32) else (0:Int32))
def own_v1137 (w0_2 : Int32) : Int32 := (if (own_v1131 w0_2) = (0:Int32) then (2:Int32) else (1:Int32))
def own_v1138 (w0_2 : Int32) (w0_5 : Int32) : Int32 := (if (own_v1131 w0_2) = (0:Int32) then (if w0_5 = (1:Int32) then w0_2 else ((15:Int32) &&& (w0_2 ^^^ (-1:Int32)))) else (15:Int32))
def own_v1139 (w0_2 : Int32) (w0_5 : Int32) : Int32 := (if (own_v1131 w0_2) = (0:Int32) then (if w0_5 = (1:Int32) then (0:Int32) else (f7 w0_2)) else (0:Int32))
def own_v1140 (w0_2 : Int32) (w0_5 : Int32) : Int32 := (if (own_v1131 w0_2) = (0:Int32) then (if w0_5 = (1:Int32) then (f7 w0_2) else (4:Int32)) else (4:Int32))
theorem own_fin1141 : ∀ w0_2 ∈ own_L15, ∀ w0_5 ∈ own_L2, ∀ w0_9 ∈ own_L15, ((w0_9 &&& (if (if w0_2 = (15:Int32) then (1:Int32) else (0:Int32)) = (0:Int32) then (if w0_5 = (1:Int32) then w0_2 else ((15:Int32) &&& (w0_2 ^^^ (-1:Int32)))) else (15:Int32))) = w0_9) → ((((f4 w0_9 (0:Int32)) = (0:Int32)) → ((f4 w0_9 (1:Int32)) = (0:Int32)) → ((f4 w0_9 (2:Int32)) = (0:Int32)) → (¬ ((f4 w0_9 (3:Int32)) = (0:Int32))) → (own_In (3:Int32) (own_v1121 w0_2).length) ∧ (own_In (own_at (own_v1121 w0_2) (3:Int32)) (own_v1127 w0_2).length) ∧ (own_In (3:Int32) (own_v1064 w0_2).length) ∧ (¬ ((own_at (own_v1064 w0_2) (3:Int32)) < (own_at (own_v1127 w0_2) (own_at (own_v1121 w0_2) (3:Int32)))) → own_In (own_at (own_v1121 w0_2) (3:Int32)) (own_v1123 w0_2).length) ∧ (¬ ((own_at (own_v1064 w0_2) (3:Int32)) < (own_at (own_v1127 w0_2) (own_at (own_v1121 w0_2) (3:Int32)))) → own_In (own_at (own_v1127 w0_2) (own_at (own_v1121 w0_2) (3:Int32))) (own_v1062 w0_2).length) ∧ (¬ ((own_at (own_v1064 w0_2) (3:Int32)) < (own_at (own_v1127 w0_2) (own_at (own_v1121 w0_2) (3:Int32)))) → own_In (own_at (own_v1064 w0_2) (3:Int32)) (own_v1062 w0_2).length) ∧ (¬ ((own_at (own_v1064 w0_2) (3:Int32)) < (own_at (own_v1127 w0_2) (own_at (own_v1121 w0_2) (3:Int32)))) → own_In (own_at (own_v1062 w0_2) (own_at (own_v1127 w0_2) (own_at (own_v1121 w0_2) (3:Int32)))) (own_v1064 w0_2).length) ∧ (¬ ((own_at (own_v1064 w0_2) (3:Int32)) < (own_at (own_v1127 w0_2) (own_at (own_v1121 w0_2) (3:Int32)))) → (own_at (own_v1127 w0_2) (own_at (own_v1121 w0_2) (3:Int32))) = (own_at (own_v1123 w0_2) (own_at (own_v1121 w0_2) (3:Int32))) → own_In (own_v1060 w0_2) (own_v1068 w0_2).length))) := by decide +kernel
theorem own_fin1143 : ∀ w0_2 ∈ own_L15, ∀ w0_5 ∈ own_L2, ∀ w0_9 ∈ own_L15, ((w0_9 &&& (if (if w0_2 = (15:Int32) then (1:Int32) else (0:Int32)) = (0:Int32) then (if w0_5 = (1:Int32) then w0_2 else ((15:Int32) &&& (w0_2 ^^^ (-1:Int32)))) else (15:Int32))) = w0_9) → ((((f4 w0_9 (0:Int32)) = (0:Int32)) → ((f4 w0_9 (1:Int32)) = (0:Int32)) → (¬ ((f4 w0_9 (2:Int32)) = (0:Int32))) → (own_In (2:Int32) (own_v1121 w0_2).length) ∧ (own_In (own_at (own_v1121 w0_2) (2:Int32)) (own_v1127 w0_2).length) ∧ (own_In (2:Int32) (own_v1064 w0_2).length) ∧ (¬ ((own_at (own_v1064 w0_2) (2:Int32)) < (own_at (own_v1127 w0_2) (own_at (own_v1121 w0_2) (2:Int32)))) → own_In (own_at (own_v1121 w0_2) (2:Int32)) (own_v1123 w0_2).length) ∧ (¬ ((own_at (own_v1064 w0_2) (2:Int32)) < (own_at (own_v1127 w0_2) (own_at (own_v1121 w0_2) (2:Int32)))) → own_In (own_at (own_v1127 w0_2) (own_at (own_v1121 w0_2) (2:Int32))) (own_v1062 w0_2).length) ∧ (¬ ((own_at (own_v1064 w0_2) (2:Int32)) < (own_at (own_v1127 w0_2) (own_at (own_v1121 w0_2) (2:Int32)))) → own_In (own_at (own_v1064 w0_2) (2:Int32)) (own_v1062 w0_2).length) ∧ (¬ ((own_at (own_v1064 w0_2) (2:Int32)) < (own_at (own_v1127 w0_2) (own_at (own_v1121 w0_2) (2:Int32)))) → own_In (own_at (own_v1062 w0_2) (own_at (own_v1127 w0_2) (own_at (own_v1121 w0_2) (2:Int32)))) (own_v1064 w0_2).length) ∧ (¬ ((own_at (own_v1064 w0_2) (2:Int32)) < (own_at (own_v1127 w0_2) (own_at (own_v1121 w0_2) (2:Int32)))) → (own_at (own_v1127 w0_2) (own_at (own_v1121 w0_2) (2:Int32))) = (own_at (own_v1123 w0_2) (own_at (own_v1121 w0_2) (2:Int32))) → own_In (own_v1060 w0_2) (own_v1068 w0_2).length))) := by decide +kernel
theorem own_fin1145 : ∀ w0_2 ∈ own_L15, ∀ w0_5 ∈ own_L2, ∀ w0_9 ∈ own_L15, ((w0_9 &&& (if (if w0_2 = (15:Int32) then (1:Int32) else (0:Int32)) = (0:Int32) then (if w0_5 = (1:Int32) then w0_2 else ((15:Int32) &&& (w0_2 ^^^ (-1:Int32)))) else (15:Int32))) = w0_9) → ((((f4 w0_9 (0:Int32)) = (0:Int32)) → ((f4 w0_9 (1:Int32)) = (0:Int32)) → (¬ ((f4 w0_9 (2:Int32)) = (0:Int32))) → (¬ ((f4 w0_9 (3:Int32)) = (0:Int32))) → (own_In (3:Int32) (own_v1121 w0_2).length) ∧ (own_In (own_at (own_v1121 w0_2) (3:Int32)) (own_v300 (own_v1062 w0_2) (own_v1064 w0_2) (own_v1121 w0_2) (own_v1123 w0_2) (own_v1127 w0_2) (own_v1068 w0_2) (own_v1119 w0_2) (own_v1060 w0_2)).length) ∧ (own_In (3:Int32) (own_v298 (own_v1062 w0_2) (own_v1064 w0_2) (own_v1121 w0_2) (own_v1123 w0_2) (own_v1127 w0_2) (own_v1068 w0_2) (own_v1119 w0_2) (own_v1060 w0_2)).length) ∧ (¬ ((own_at (own_v298 (own_v1062 w0_2) (own_v1064 w0_2) (own_v1121 w0_2) (own_v1123 w0_2) (own_v1127 w0_2) (own_v1068 w0_2) (own_v1119 w0_2) (own_v1060 w0_2)) (3:Int32)) < (own_at (own_v300 (own_v1062 w0_2) (own_v1064 w0_2) (own_v1121 w0_2) (own_v1123 w0_2) (own_v1127 w0_2) (own_v1068 w0_2) (own_v1119 w0_2) (own_v1060 w0_2)) (own_at (own_v1121 w0_2) (3:Int32)))) → own_In (own_at (own_v1121 w0_2) (3:Int32)) (own_v1123 w0_2).length) ∧ (¬ ((own_at (own_v298 (own_v1062 w0_2) (own_v1064 w0_2) (own_v1121 w0_2) (own_v1123 w0_2) (own_v1127 w0_2) (own_v1068 w0_2) (own_v1119 w0_2) (own_v1060 w0_2)) (3:Int32)) < (own_at (own_v300 (own_v1062 w0_2) (own_v1064 w0_2) (own_v1121 w0_2) (own_v1123 w0_2) (own_v1127 w0_2) (own_v1068 w0_2) (own_v1119 w0_2) (own_v1060 w0_2)) (own_at (own_v1121 w0_2) (3:Int32)))) → own_In (own_at (own_v300 (own_v1062 w0_2) (own_v1064 w0_2) (own_v1121 w0_2) (own_v1123 w0_2) (own_v1127 w0_2) (own_v1068 w0_2) (own_v1119 w0_2) (own_v1060 w0_2)) (own_at (own_v1121 w0_2) (3:Int32))) (own_v296 (own_v1062 w0_2) (own_v1064 w0_2) (own_v1121 w0_2) (own_v1123 w0_2) (own_v1127 w0_2) (own_v1068 w0_2) (own_v1119 w0_2) (own_v1060 w0_2)).length) ∧ (¬ ((own_at (own_v298 (own_v1062 w0_2) (own_v1064 w0_2) (own_v1121 w0_2) (own_v1123 w0_2) (own_v1127 w0_2) (own_v1068 w0_2) (own_v1119 w0_2) (own_v1060 w0_2)) (3:Int32)) < (own_at (own_v300 (own_v1062 w0_2) (own_v1064 w0_2) (own_v1121 w0_2) (own_v1123 w0_2) (own_v1127 w0_2) (own_v1068 w0_2) (own_v1119 w0_2) (own_v1060 w0_2)) (own_at (own_v1121 w0_2) (3:Int32)))) → own_In (own_at (own_v298 (own_v1062 w0_2) (own_v1064 w0_2) (own_v1121 w0_2) (own_v1123 w0_2) (own_v1127 w0_2) (own_v1068 w0_2) (own_v1119 w0_2) (own_v1060 w0_2)) (3:Int32)) (own_v296 (own_v1062 w0_2) (own_v1064 w0_2) (own_v1121 w0_2) (own_v1123 w0_2) (own_v1127 w0_2) (own_v1068 w0_2) (own_v1119 w0_2) (own_v1060 w0_2)).length) ∧ (¬ ((own_at (own_v298 (own_v1062 w0_2) (own_v1064 w0_2) (own_v1121 w0_2) (own_v1123 w0_2) (own_v1127 w0_2) (own_v1068 w0_2) (own_v1119 w0_2) (own_v1060 w0_2)) (3:Int32)) < (own_at (own_v300 (own_v1062 w0_2) (own_v1064 w0_2) (own_v1121 w0_2) (own_v1123 w0_2) (own_v1127 w0_2) (own_v1068 w0_2) (own_v1119 w0_2) (own_v1060 w0_2)) (own_at (own_v1121 w0_2) (3:Int32)))) → own_In (own_at (own_v296 (own_v1062 w0_2) (own_v1064 w0_2) (own_v1121 w0_2) (own_v1123 w0_2) (own_v1127 w0_2) (own_v1068 w0_2) (own_v1119 w0_2) (own_v1060 w0_2)) (own_at (own_v300 (own_v1062 w0_2) (own_v1064 w0_2) (own_v1121 w0_2) (own_v1123 w0_2) (own_v1127 w0_2) (own_v1068 w0_2) (own_v1119 w0_2) (own_v1060 w0_2)) (own_at (own_v1121 w0_2) (3:Int32)))) (own_v298 (own_v1062 w0_2) (own_v1064 w0_2) (own_v1121 w0_2) (own_v1123 w0_2) (own_v1127 w0_2) (own_v1068 w0_2) (own_v1119 w0_2) (own_v1060 w0_2)).length) ∧ (¬ ((own_at (own_v298 (own_v1062 w0_2) (own_v1064 w0_2) (own_v1121 w0_2) (own_v1123 w0_2) (own_v1127 w0_2) (own_v1068 w0_2) (own_v1119 w0_2) (own_v1060 w0_2)) (3:Int32)) < (own_at (own_v300 (own_v1062 w0_2) (own_v1064 w0_2) (own_v1121 w0_2) (own_v1123 w0_2) (own_v1127 w0_2) (own_v1068 w0_2) (own_v1119 w0_2) (own_v1060 w0_2)) (own_at (own_v1121 w0_2) (3:Int32)))) → (own_at (own_v300 (own_v1062 w0_2) (own_v1064 w0_2) (own_v1121 w0_2) (own_v1123 w0_2) (own_v1127 w0_2) (own_v1068 w0_2) (own_v1119 w0_2) (own_v1060 w0_2)) (own_at (own_v1121 w0_2) (3:Int32))) = (own_at (own_v1123 w0_2) (own_at (own_v1121 w0_2) (3:Int32))) → own_In (own_v294 (own_v1062 w0_2) (own_v1064 w0_2) (own_v1121 w0_2) (own_v1123 w0_2) (own_v1127 w0_2) (own_v1068 w0_2) (own_v1119 w0_2) (own_v1060 w0_2)) (own_v302 (own_v1062 w0_2) (own_v1064 w0_2) (own_v1121 w0_2) (own_v1123 w0_2) (own_v1127 w0_2) (own_v1068 w0_2) (own_v1119 w0_2) (own_v1060 w0_2)).length))) := by decide +kernel
theorem own_fin1147 : ∀ w0_2 ∈ own_L15, ∀ w0_5 ∈ own_L2, ∀ w0_9 ∈ own_L15, ((w0_9 &&& (if (if w0_2 = (15:Int32) then (1:Int32) else (0:Int32)) = (0:Int32) then (if w0_5 = (1:Int32) then w0_2 else ((15:Int32) &&& (w0_2 ^^^ (-1:Int32)))) else (15:Int32))) = w0_9) → ((((f4 w0_9 (0:Int32)) = (0:Int32)) → (¬ ((f4 w0_9 (1:Int32)) = (0:Int32))) → (own_In (1:Int32) (own_v1121 w0_2).length) ∧ (own_In (own_at (own_v1121 w0_2) (1:Int32)) (own_v1127 w0_2).length) ∧ (own_In (1:Int32) (own_v1064 w0_2).length) ∧ (¬ ((own_at (own_v1064 w0_2) (1:Int32)) < (own_at (own_v1127 w0_2) (own_at (own_v1121 w0_2) (1:Int32)))) → own_In (own_at (own_v1121 w0_2) (1:Int32)) (own_v1123 w0_2).length) ∧ (¬ ((own_at (own_v1064 w0_2) (1:Int32)) < (own_at (own_v1127 w0_2) (own_at (own_v1121 w0_2) (1:Int32)))) → own_In (own_at (own_v1127 w0_2) (own_at (own_v1121 w0_2) (1:Int32))) (own_v1062 w0_2).length) ∧ (¬ ((own_at (own_v1064 w0_2) (1:Int32)) < (own_at (own_v1127 w0_2) (own_at (own_v1121 w0_2) (1:Int32)))) → own_In (own_at (own_v1064 w0_2) (1:Int32)) (own_v1062 w0_2).length) ∧ (¬ ((own_at (own_v1064 w0_2) (1:Int32)) < (own_at (own_v1127 w0_2) (own_at (own_v1121 w0_2) (1:Int32)))) → own_In (own_at (own_v1062 w0_2) (own_at (own_v1127 w0_2) (own_at (own_v1121 w0_2) (1:Int32)))) (own_v1064 w0_2).length) ∧ (¬ ((own_at (own_v1064 w0_2) (1:Int32)) < (own_at (own_v1127 w0_2) (own_at (own_v1121 w0_2) (1:Int32)))) → (own_at (own_v1127 w0_2) (own_at (own_v1121 w0_2) (1:Int32))) = (own_at (own_v1123 w0_2) (own_at (own_v1121 w0_2) (1:Int32))) → own_In (own_v1060 w0_2) (own_v1068 w0_2).length))) := by decide +kernel
theorem own_fin1149 : ∀ w0_2 ∈ own_L15, ∀ w0_5 ∈ own_L2, ∀ w0_9 ∈ own_L15, ((w0_9 &&& (if (if w0_2 = (15:Int32) then (1:Int32) else (0:Int32)) = (0:Int32) then (if w0_5 = (1:Int32) then w0_2 else ((15:Int32) &&& (w0_2 ^^^ (-1:Int32)))) else (15:Int32))) = w0_9) → ((((f4 w0_9 (0:Int32)) = (0:Int32)) → (¬ ((f4 w0_9 (1:Int32)) = (0:Int32))) → ((f4 w0_9 (2:Int32)) = (0:Int32)) → (¬ ((f4 w0_9 (3:Int32)) = (0:Int32))) → (own_In (3:Int32) (own_v1121 w0_2).length) ∧ (own_In (own_at (own_v1121 w0_2) (3:Int32)) (own_v356 (own_v1062 w0_2) (own_v1064 w0_2) (own_v1121 w0_2) (own_v1123 w0_2) (own_v1127 w0_2) (own_v1068 w0_2) (own_v1119 w0_2) (own_v1060 w0_2)).length) ∧ (own_In (3:Int32) (own_v354 (own_v1062 w0_2) (own_v1064 w0_2) (own_v1121 w0_2) (own_v1123 w0_2) (own_v1127 w0_2) (own_v1068 w0_2) (own_v1119 w0_2) (own_v1060 w0_2)).length) ∧ (¬ ((own_at (own_v354 (own_v1062 w0_2) (own_v1064 w0_2) (own_v1121 w0_2) (own_v1123 w0_2) (own_v1127 w0_2) (own_v1068 w0_2) (own_v1119 w0_2) (own_v1060 w0_2)) (3:Int32)) < (own_at (own_v356 (own_v1062 w0_2) (own_v1064 w0_2) (own_v1121 w0_2) (own_v1123 w0_2) (own_v1127 w0_2) (own_v1068 w0_2) (own_v1119 w0_2) (own_v1060 w0_2)) (own_at (own_v1121 w0_2) (3:Int32)))) → own_In (own_at (own_v1121 w0_2) (3:Int32)) (own_v1123 w0_2).length) ∧ (¬ ((own_at (own_v354 (own_v1062 w0_2) (own_v1064 w0_2) (own_v1121 w0_2) (own_v1123 w0_2) (own_v1127 w0_2) (own_v1068 w0_2) (own_v1119 w0_2) (own_v1060 w0_2)) (3:Int32)) < (own_at (own_v356 (own_v1062 w0_2) (own_v1064 w0_2) (own_v1121 w0_2) (own_v1123 w0_2) (own_v1127 w0_2) (own_v1068 w0_2) (own_v1119 w0_2) (own_v1060 w0_2)) (own_at (own_v1121 w0_2) (3:Int32)))) → own_In (own_at (own_v356 (own_v1062 w0_2) (own_v1064 w0_2) (own_v1121 w0_2) (own_v1123 w0_2) (own_v1127 w0_2) (own_v1068 w0_2) (own_v1119 w0_2) (own_v1060 w0_2)) (own_at (own_v1121 w0_2) (3:Int32))) (own_v352 (own_v1062 w0_2) (own_v1064 w0_2) (own_v1121 w0_2) (own_v1123 w0_2) (own_v1127 w0_2) (own_v1068 w0_2) (own_v1119 w0_2) (own_v1060 w0_2)).length) ∧ (¬ ((own_at (own_v354 (own_v1062 w0_2) (own_v1064 w0_2) (own_v1121 w0_2) (own_v1123 w0_2) (own_v1127 w0_2) (own_v1068 w0_2) (own_v1119 w0_2) (own_v1060 w0_2)) (3:Int32)) < (own_at (own_v356 (own_v1062 w0_2) (own_v1064 w0_2) (own_v1121 w0_2) (own_v1123 w0_2) (own_v1127 w0_2) (own_v1068 w0_2) (own_v1119 w0_2) (own_v1060 w0_2)) (own_at (own_v1121 w0_2) (3:Int32)))) → own_In (own_at (own_v354 (own_v1062 w0_2) (own_v1064 w0_2) (own_v1121 w0_2) (own_v1123 w0_2) (own_v1127 w0_2) (own_v1068 w0_2) (own_v1119 w0_2) (own_v1060 w0_2)) (3:Int32)) (own_v352 (own_v1062 w0_2) (own_v1064 w0_2) (own_v1121 w0_2) (own_v1123 w0_2) (own_v1127 w0_2) (own_v1068 w0_2) (own_v1119 w0_2) (own_v1060 w0_2)).length) ∧ (¬ ((own_at (own_v354 (own_v1062 w0_2) (own_v1064 w0_2) (own_v1121 w0_2) (own_v1123 w0_2) (own_v1127 w0_2) (own_v1068 w0_2) (own_v1119 w0_2) (own_v1060 w0_2)) (3:Int32)) < (own_at (own_v356 (own_v1062 w0_2) (own_v1064 w0_2) (own_v1121 w0_2) (own_v1123 w0_2) (own_v1127 w0_2) (own_v1068 w0_2) (own_v1119 w0_2) (own_v1060 w0_2)) (own_at (own_v1121 w0_2) (3:Int32)))) → own_In (own_at (own_v352 (own_v1062 w0_2) (own_v1064 w0_2) (own_v1121 w0_2) (own_v1123 w0_2) (own_v1127 w0_2) (own_v1068 w0_2) (own_v1119 w0_2) (own_v1060 w0_2)) (own_at (own_v356 (own_v1062 w0_2) (own_v1064 w0_2) (own_v1121 w0_2) (own_v1123 w0_2) (own_v1127 w0_2) (own_v1068 w0_2) (own_v1119 w0_2) (own_v1060 w0_2)) (own_at (own_v1121 w0_2) (3:Int32)))) (own_v354 (own_v1062 w0_2) (own_v1064 w0_2) (own_v1121 w0_2) (own_v1123 w0_2) (own_v1127 w0_2) (own_v1068 w0_2) (own_v1119 w0_2) (own_v1060 w0_2)).length) ∧ (¬ ((own_at (own_v354 (own_v1062 w0_2) (own_v1064 w0_2) (own_v1121 w0_2) (own_v1123 w0_2) (own_v1127 w0_2) (own_v1068 w0_2) (own_v1119 w0_2) (own_v1060 w0_2)) (3:Int32)) < (own_at (own_v356 (own_v1062 w0_2) (own_v1064 w0_2) (own_v1121 w0_2) (own_v1123 w0_2) (own_v1127 w0_2) (own_v1068 w0_2) (own_v1119 w0_2) (own_v1060 w0_2)) (own_at (own_v1121 w0_2) (3:Int32)))) → (own_at (own_v356 (own_v1062 w0_2) (own_v1064 w0_2) (own_v1121 w0_2) (own_v1123 w0_2) (own_v1127 w0_2) (own_v1068 w0_2) (own_v1119 w0_2) (own_v1060 w0_2)) (own_at (own_v1121 w0_2) (3:Int32))) = (own_at (own_v1123 w0_2) (own_at (own_v1121 w0_2) (3:Int32))) → own_In (own_v350 (own_v1062 w0_2) (own_v1064 w0_2) (own_v1121 w0_2) (own_v1123 w0_2) (own_v1127 w0_2) (own_v1068 w0_2) (own_v1119 w0_2) (own_v1060 w0_2)) (own_v358 (own_v1062 w0_2) (own_v1064 w0_2) (own_v1121 w0_2) (own_v1123 w0_2) (own_v1127 w0_2) (own_v1068 w0_2) (own_v1119 w0_2) (own_v1060 w0_2)).length))) := by decide +kernel
theorem own_fin1151 : ∀ w0_2 ∈ own_L15, ∀ w0_5 ∈ own_L2, ∀ w0_9 ∈ own_L15, ((w0_9 &&& (if (if w0_2 = (15:Int32) then (1:Int32) else (0:Int32)) = (0:Int32) then (if w0_5 = (1:Int32) then w0_2 else ((15:Int32) &&& (w0_2 ^^^ (-1:Int32)))) else (15:Int32))) = w0_9) → ((((f4 w0_9 (0:Int32)) = (0:Int32)) → (¬ ((f4 w0_9 (1:Int32)) = (0:Int32))) → (¬ ((f4 w0_9 (2:Int32)) = (0:Int32))) → (own_In (2:Int32) (own_v1121 w0_2).length) ∧ (own_In (own_at (own_v1121 w0_2) (2:Int32)) (own_v356 (own_v1062 w0_2) (own_v1064 w0_2) (own_v1121 w0_2) (own_v1123 w0_2) (own_v1127 w0_2) (own_v1068 w0_2) (own_v1119 w0_2) (own_v1060 w0_2)).length) ∧ (own_In (2:Int32) (own_v354 (own_v1062 w0_2) (own_v1064 w0_2) (own_v1121 w0_2) (own_v1123 w0_2) (own_v1127 w0_2) (own_v1068 w0_2) (own_v1119 w0_2) (own_v1060 w0_2)).length) ∧ (¬ ((own_at (own_v354 (own_v1062 w0_2) (own_v1064 w0_2) (own_v1121 w0_2) (own_v1123 w0_2) (own_v1127 w0_2) (own_v1068 w0_2) (own_v1119 w0_2) (own_v1060 w0_2)) (2:Int32)) < (own_at (own_v356 (own_v1062 w0_2) (own_v1064 w0_2) (own_v1121 w0_2) (own_v1123 w0_2) (own_v1127 w0_2) (own_v1068 w0_2) (own_v1119 w0_2) (own_v1060 w0_2)) (own_at (own_v1121 w0_2) (2:Int32)))) → own_In (own_at (own_v1121 w0_2) (2:Int32)) (own_v1123 w0_2).length) ∧ (¬ ((own_at (own_v354 (own_v1062 w0_2) (own_v1064 w0_2) (own_v1121 w0_2) (own_v1123 w0_2) (own_v1127 w0_2) (own_v1068 w0_2) (own_v1119 w0_2) (own_v1060 w0_2)) (2:Int32)) < (own_at (own_v356 (own_v1062 w0_2) (own_v1064 w0_2) (own_v1121 w0_2) (own_v1123 w0_2) (own_v1127 w0_2) (own_v1068 w0_2) (own_v1119 w0_2) (own_v1060 w0_2)) (own_at (own_v1121 w0_2) (2:Int32)))) → own_In (own_at (own_v356 (own_v1062 w0_2) (own_v1064 w0_2) (own_v1121 w0_2) (own_v1123 w0_2) (own_v1127 w0_2) (own_v1068 w0_2) (own_v1119 w0_2) (own_v1060 w0_2)) (own_at (own_v1121 w0_2) (2:Int32))) (own_v352 (own_v1062 w0_2) (own_v1064 w0_2) (own_v1121 w0_2) (own_v1123 w0_2) (own_v1127 w0_2) (own_v1068 w0_2) (own_v1119 w0_2) (own_v1060 w0_2)).length) ∧ (¬ ((own_at (own_v354 (own_v1062 w0_2) (own_v1064 w0_2) (own_v1121 w0_2) (own_v1123 w0_2) (own_v1127 w0_2) (own_v1068 w0_2) (own_v1119 w0_2) (own_v1060 w0_2)) (2:Int32)) < (own_at (own_v356 (own_v1062 w0_2) (own_v1064 w0_2) (own_v1121 w0_2) (own_v1123 w0_2) (own_v1127 w0_2) (own_v1068 w0_2) (own_v1119 w0_2) (own_v1060 w0_2)) (own_at (own_v1121 w0_2) (2:Int32)))) → own_In (own_at (own_v354 (own_v1062 w0_2) (own_v1064 w0_2) (own_v1121 w0_2) (own_v1123 w0_2) (own_v1127 w0_2) (own_v1068 w0_2) (own_v1119 w0_2) (own_v1060 w0_2)) (2:Int32)) (own_v352 (own_v1062 w0_2) (own_v1064 w0_2) (own_v1121 w0_2) (own_v1123 w0_2) (own_v1127 w0_2) (own_v1068 w0_2) (own_v1119 w0_2) (own_v1060 w0_2)).length) ∧ (¬ ((own_at (own_v354 (own_v1062 w0_2) (own_v1064 w0_2) (own_v1121 w0_2) (own_v1123 w0_2) (own_v1127 w0_2) (own_v1068 w0_2) (own_v1119 w0_2) (own_v1060 w0_2)) (2:Int32)) < (own_at (own_v356 (own_v1062 w0_2) (own_v1064 w0_2) (own_v1121 w0_2) (own_v1123 w0_2) (own_v1127 w0_2) (own_v1068 w0_2) (own_v1119 w0_2) (own_v1060 w0_2)) (own_at (own_v1121 w0_2) (2:Int32)))) → own_In (own_at (own_v352 (own_v1062 w0_2) (own_v1064 w0_2) (own_v1121 w0_2) (own_v1123 w0_2) (own_v1127 w0_2) (own_v1068 w0_2) (own_v1119 w0_2) (own_v1060 w0_2)) (own_at (own_v356 (own_v1062 w0_2) (own_v1064 w0_2) (own_v1121 w0_2) (own_v1123 w0_2) (own_v1127 w0_2) (own_v1068 w0_2) (own_v1119 w0_2) (own_v1060 w0_2)) (own_at (own_v1121 w0_2) (2:Int32)))) (own_v354 (own_v1062 w0_2) (own_v1064 w0_2) (own_v1121 w0_2) (own_v1123 w0_2) (own_v1127 w0_2) (own_v1068 w0_2) (own_v1119 w0_2) (own_v1060 w0_2)).length) ∧ (¬ ((own_at (own_v354 (own_v1062 w0_2) (own_v1064 w0_2) (own_v1121 w0_2) (own_v1123 w0_2) (own_v1127 w0_2) (own_v1068 w0_2) (own_v1119 w0_2) (own_v1060 w0_2)) (2:Int32)) < (own_at (own_v356 (own_v1062 w0_2) (own_v1064 w0_2) (own_v1121 w0_2) (own_v1123 w0_2) (own_v1127 w0_2) (own_v1068 w0_2) (own_v1119 w0_2) (own_v1060 w0_2)) (own_at (own_v1121 w0_2) (2:Int32)))) → (own_at (own_v356 (own_v1062 w0_2) (own_v1064 w0_2) (own_v1121 w0_2) (own_v1123 w0_2) (own_v1127 w0_2) (own_v1068 w0_2) (own_v1119 w0_2) (own_v1060 w0_2)) (own_at (own_v1121 w0_2) (2:Int32))) = (own_at (own_v1123 w0_2) (own_at (own_v1121 w0_2) (2:Int32))) → own_In (own_v350 (own_v1062 w0_2) (own_v1064 w0_2) (own_v1121 w0_2) (own_v1123 w0_2) (own_v1127 w0_2) (own_v1068 w0_2) (own_v1119 w0_2) (own_v1060 w0_2)) (own_v358 (own_v1062 w0_2) (own_v1064 w0_2) (own_v1121 w0_2) (own_v1123 w0_2) (own_v1127 w0_2) (own_v1068 w0_2) (own_v1119 w0_2) (own_v1060 w0_2)).length))) := by decide +kernel
theorem own_fin1153 : ∀ w0_2 ∈ own_L15, ∀ w0_5 ∈ own_L2, ∀ w0_9 ∈ own_L15, ((w0_9 &&& (if (if w0_2 = (15:Int32) then (1:Int32) else (0:Int32)) = (0:Int32) then (if w0_5 = (1:Int32) then w0_2 else ((15:Int32) &&& (w0_2 ^^^ (-1:Int32)))) else (15:Int32))) = w0_9) → ((((f4 w0_9 (0:Int32)) = (0:Int32)) → (¬ ((f4 w0_9 (1:Int32)) = (0:Int32))) → (¬ ((f4 w0_9 (2:Int32)) = (0:Int32))) → (¬ ((f4 w0_9 (3:Int32)) = (0:Int32))) → (own_In (3:Int32) (own_v1121 w0_2).length) ∧ (own_In (own_at (own_v1121 w0_2) (3:Int32)) (own_v416 (own_v1062 w0_2) (own_v1064 w0_2) (own_v1121 w0_2) (own_v1123 w0_2) (own_v1127 w0_2) (own_v1068 w0_2) (own_v1119 w0_2) (own_v1060 w0_2)).length) ∧ (own_In (3:Int32) (own_v414 (own_v1062 w0_2) (own_v1064 w0_2) (own_v1121 w0_2) (own_v1123 w0_2) (own_v1127 w0_2) (own_v1068 w0_2) (own_v1119 w0_2) (own_v1060 w0_2)).length) ∧ (¬ ((own_at (own_v414 (own_v1062 w0_2) (own_v1064 w0_2) (own_v1121 w0_2) (own_v1123 w0_2) (own_v1127 w0_2) (own_v1068 w0_2) (own_v1119 w0_2) (own_v1060 w0_2)) (3:Int32)) < (own_at (own_v416 (own_v1062 w0_2) (own_v1064 w0_2) (own_v1121 w0_2) (own_v1123 w0_2) (own_v1127 w0_2) (own_v1068 w0_2) (own_v1119 w0_2) (own_v1060 w0_2)) (own_at (own_v1121 w0_2) (3:Int32)))) → own_In (own_at (own_v1121 w0_2) (3:Int32)) (own_v1123 w0_2).length) ∧ (¬ ((own_at (own_v414 (own_v1062 w0_2) (own_v1064 w0_2) (own_v1121 w0_2) (own_v1123 w0_2) (own_v1127 w0_2) (own_v1068 w0_2) (own_v1119 w0_2) (own_v1060 w0_2)) (3:Int32)) < (own_at (own_v416 (own_v1062 w0_2) (own_v1064 w0_2) (own_v1121 w0_2) (own_v1123 w0_2) (own_v1127 w0_2) (own_v1068 w0_2) (own_v1119 w0_2) (own_v1060 w0_2)) (own_at (own_v1121 w0_2) (3:Int32)))) → own_In (own_at (own_v416 (own_v1062 w0_2) (own_v1064 w0_2) (own_v1121 w0_2) (own_v1123 w0_2) (own_v1127 w0_2) (own_v1068 w0_2) (own_v1119 w0_2) (own_v1060 w0_2)) (own_at (own_v1121 w0_2) (3:Int32))) (own_v412 (own_v1062 w0_2) (own_v1064 w0_2) (own_v1121 w0_2) (own_v1123 w0_2) (own_v1127 w0_2) (own_v1068 w0_2) (own_v1119 w0_2) (own_v1060 w0_2)).length) ∧ (¬ ((own_at (own_v414 (own_v1062 w0_2) (own_v1064 w0_2) (own_v1121 w0_2) (own_v1123 w0_2) (own_v1127 w0_2) (own_v1068 w0_2) (own_v1119 w0_2) (own_v1060 w0_2)) (3:Int32)) < (own_at (own_v416 (own_v1062 w0_2) (own_v1064 w0_2) (own_v1121 w0_2) (own_v1123 w0_2) (own_v1127 w0_2) (own_v1068 w0_2) (own_v1119 w0_2) (own_v1060 w0_2)) (own_at (own_v1121 w0_2) (3:Int32)))) → own_In (own_at (own_v414 (own_v1062 w0_2) (own_v1064 w0_2) (own_v1121 w0_2) (own_v1123 w0_2) (own_v1127 w0_2) (own_v1068 w0_2) (own_v1119 w0_2) (own_v1060 w0_2)) (3:Int32)) (own_v412 (own_v1062 w0_2) (own_v1064 w0_2) (own_v1121 w0_2) (own_v1123 w0_2) (own_v1127 w0_2) (own_v1068 w0_2) (own_v1119 w0_2) (own_v1060 w0_2)).length) ∧ (¬ ((own_at (own_v414 (own_v1062 w0_2) (own_v1064 w0_2) (own_v1121 w0_2) (own_v1123 w0_2) (own_v1127 w0_2) (own_v1068 w0_2) (own_v1119 w0_2) (own_v1060 w0_2)) (3:Int32)) < (own_at (own_v416 (own_v1062 w0_2) (own_v1064 w0_2) (own_v1121 w0_2) (own_v1123 w0_2) (own_v1127 w0_2) (own_v1068 w0_2) (own_v1119 w0_2) (own_v1060 w0_2)) (own_at (own_v1121 w0_2) (3:Int32)))) → own_In (own_at (own_v412 (own_v1062 w0_2) (own_v1064 w0_2) (own_v1121 w0_2) (own_v1123 w0_2) (own_v1127 w0_2) (own_v1068 w0_2) (own_v1119 w0_2) (own_v1060 w0_2)) (own_at (own_v416 (own_v1062 w0_2) (own_v1064 w0_2) (own_v1121 w0_2) (own_v1123 w0_2) (own_v1127 w0_2) (own_v1068 w0_2) (own_v1119 w0_2) (own_v1060 w0_2)) (own_at (own_v1121 w0_2) (3:Int32)))) (own_v414 (own_v1062 w0_2) (own_v1064 w0_2) (own_v1121 w0_2) (own_v1123 w0_2) (own_v1127 w0_2) (own_v1068 w0_2) (own_v1119 w0_2) (own_v1060 w0_2)).length) ∧ (¬ ((own_at (own_v414 (own_v1062 w0_2) (own_v1064 w0_2) (own_v1121 w0_2) (own_v1123 w0_2) (own_v1127 w0_2) (own_v1068 w0_2) (own_v1119 w0_2) (own_v1060 w0_2)) (3:Int32)) < (own_at (own_v416 (own_v1062 w0_2) (own_v1064 w0_2) (own_v1121 w0_2) (own_v1123 w0_2) (own_v1127 w0_2) (own_v1068 w0_2) (own_v1119 w0_2) (own_v1060 w0_2)) (own_at (own_v1121 w0_2) (3:Int32)))) → (own_at (own_v416 (own_v1062 w0_2) (own_v1064 w0_2) (own_v1121 w0_2) (own_v1123 w0_2) (own_v1127 w0_2) (own_v1068 w0_2) (own_v1119 w0_2) (own_v1060 w0_2)) (own_at (own_v1121 w0_2) (3:Int32))) = (own_at (own_v1123 w0_2) (own_at (own_v1121 w0_2) (3:Int32))) → own_In (own_v410 (own_v1062 w0_2) (own_v1064 w0_2) (own_v1121 w0_2) (own_v1123 w0_2) (own_v1127 w0_2) (own_v1068 w0_2) (own_v1119 w0_2) (own_v1060 w0_2)) (own_v418 (own_v1062 w0_2) (own_v1064 w0_2) (own_v1121 w0_2) (own_v1123 w0_2) (own_v1127 w0_2) (own_v1068 w0_2) (own_v1119 w0_2) (own_v1060 w0_2)).length))) := by decide +kernel
theorem own_fin1155 : ∀ w0_2 ∈ own_L15, ∀ w0_5 ∈ own_L2, ∀ w0_9 ∈ own_L15, ((w0_9 &&& (if (if w0_2 = (15:Int32) then (1:Int32) else (0:Int32)) = (0:Int32) then (if w0_5 = (1:Int32) then w0_2 else ((15:Int32) &&& (w0_2 ^^^ (-1:Int32)))) else (15:Int32))) = w0_9) → (((¬ ((f4 w0_9 (0:Int32)) = (0:Int32))) → (own_In (0:Int32) (own_v1121 w0_2).length) ∧ (own_In (own_at (own_v1121 w0_2) (0:Int32)) (own_v1127 w0_2).length) ∧ (own_In (0:Int32) (own_v1064 w0_2).length) ∧ (¬ ((own_at (own_v1064 w0_2) (0:Int32)) < (own_at (own_v1127 w0_2) (own_at (own_v1121 w0_2) (0:Int32)))) → own_In (own_at (own_v1121 w0_2) (0:Int32)) (own_v1123 w0_2).length) ∧ (¬ ((own_at (own_v1064 w0_2) (0:Int32)) < (own_at (own_v1127 w0_2) (own_at (own_v1121 w0_2) (0:Int32)))) → own_In (own_at (own_v1127 w0_2) (own_at (own_v1121 w0_2) (0:Int32))) (own_v1062 w0_2).length) ∧ (¬ ((own_at (own_v1064 w0_2) (0:Int32)) < (own_at (own_v1127 w0_2) (own_at (own_v1121 w0_2) (0:Int32)))) → own_In (own_at (own_v1064 w0_2) (0:Int32)) (own_v1062 w0_2).length) ∧ (¬ ((own_at (own_v1064 w0_2) (0:Int32)) < (own_at (own_v1127 w0_2) (own_at (own_v1121 w0_2) (0:Int32)))) → own_In (own_at (own_v1062 w0_2) (own_at (own_v1127 w0_2) (own_at (own_v1121 w0_2) (0:Int32)))) (own_v1064 w0_2).length) ∧ (¬ ((own_at (own_v1064 w0_2) (0:Int32)) < (own_at (own_v1127 w0_2) (own_at (own_v1121 w0_2) (0:Int32)))) → (own_at (own_v1127 w0_2) (own_at (own_v1121 w0_2) (0:Int32))) = (own_at (own_v1123 w0_2) (own_at (own_v1121 w0_2) (0:Int32))) → own_In (own_v1060 w0_2) (own_v1068 w0_2).length))) := by decide +kernel
theorem own_fin1157 : ∀ w0_2 ∈ own_L15, ∀ w0_5 ∈ own_L2, ∀ w0_9 ∈ own_L15, ((w0_9 &&& (if (if w0_2 = (15:Int32) then (1:Int32) else (0:Int32)) = (0:Int32) then (if w0_5 = (1:Int32) then w0_2 else ((15:Int32) &&& (w0_2 ^^^ (-1:Int32)))) else (15:Int32))) = w0_9) → (((¬ ((f4 w0_9 (0:Int32)) = (0:Int32))) → ((f4 w0_9 (1:Int32)) = (0:Int32)) → ((f4 w0_9 (2:Int32)) = (0:Int32)) → (¬ ((f4 w0_9 (3:Int32)) = (0:Int32))) → (own_In (3:Int32) (own_v1121 w0_2).length) ∧ (own_In (own_at (own_v1121 w0_2) (3:Int32)) (own_v472 (own_v1062 w0_2) (own_v1064 w0_2) (own_v1121 w0_2) (own_v1123 w0_2) (own_v1127 w0_2) (own_v1068 w0_2) (own_v1119 w0_2) (own_v1060 w0_2)).length) ∧ (own_In (3:Int32) (own_v470 (own_v1062 w0_2) (own_v1064 w0_2) (own_v1121 w0_2) (own_v1123 w0_2) (own_v1127 w0_2) (own_v1068 w0_2) (own_v1119 w0_2) (own_v1060 w0_2)).length) ∧ (¬ ((own_at (own_v470 (own_v1062 w0_2) (own_v1064 w0_2) (own_v1121 w0_2) (own_v1123 w0_2) (own_v1127 w0_2) (own_v1068 w0_2) (own_v1119 w0_2) (own_v1060 w0_2)) (3:Int32)) < (own_at (own_v472 (own_v1062 w0_2) (own_v1064 w0_2) (own_v1121 w0_2) (own_v1123 w0_2) (own_v1127 w0_2) (own_v1068 w0_2) (own_v1119 w0_2) (own_v1060 w0_2)) (own_at (own_v1121 w0_2) (3:Int32)))) → own_In (own_at (own_v1121 w0_2) (3:Int32)) (own_v1123 w0_2).length) ∧ (¬ ((own_at (own_v470 (own_v1062 w0_2) (own_v1064 w0_2) (own_v1121 w0_2) (own_v1123 w0_2) (own_v1127 w0_2) (own_v1068 w0_2) (own_v1119 w0_2) (own_v1060 w0_2)) (3:Int32)) < (own_at (own_v472 (own_v1062 w0_2) (own_v1064 w0_2) (own_v1121 w0_2) (own_v1123 w0_2) (own_v1127 w0_2) (own_v1068 w0_2) (own_v1119 w0_2) (own_v1060 w0_2)) (own_at (own_v1121 w0_2) (3:Int32)))) → own_In (own_at (own_v472 (own_v1062 w0_2) (own_v1064 w0_2) (own_v1121 w0_2) (own_v1123 w0_2) (own_v1127 w0_2) (own_v1068 w0_2) (own_v1119 w0_2) (own_v1060 w0_2)) (own_at (own_v1121 w0_2) (3:Int32))) (own_v468 (own_v1062 w0_2) (own_v1064 w0_2) (own_v1121 w0_2) (own_v1123 w0_2) (own_v1127 w0_2) (own_v1068 w0_2) (own_v1119 w0_2) (own_v1060 w0_2)).length) ∧ (¬ ((own_at (own_v470 (own_v1062 w0_2) (own_v1064 w0_2) (own_v1121 w0_2) (own_v1123 w0_2) (own_v1127 w0_2) (own_v1068 w0_2) (own_v1119 w0_2) (own_v1060 w0_2)) (3:Int32)) < (own_at (own_v472 (own_v1062 w0_2) (own_v1064 w0_2) (own_v1121 w0_2) (own_v1123 w0_2) (own_v1127 w0_2) (own_v1068 w0_2) (own_v1119 w0_2) (own_v1060 w0_2)) (own_at (own_v1121 w0_2) (3:Int32)))) → own_In (own_at (own_v470 (own_v1062 w0_2) (own_v1064 w0_2) (own_v1121 w0_2) (own_v1123 w0_2) (own_v1127 w0_2) (own_v1068 w0_2) (own_v1119 w0_2) (own_v1060 w0_2)) (3:Int32)) (own_v468 (own_v1062 w0_2) (own_v1064 w0_2) (own_v1121 w0_2) (own_v1123 w0_2) (own_v1127 w0_2) (own_v1068 w0_2) (own_v1119 w0_2) (own_v1060 w0_2)).length) ∧ (¬ ((own_at (own_v470 (own_v1062 w0_2) (own_v1064 w0_2) (own_v1121 w0_2) (own_v1123 w0_2) (own_v1127 w0_2) (own_v1068 w0_2) (own_v1119 w0_2) (own_v1060 w0_2)) (3:Int32)) < (own_at (own_v472 (own_v1062 w0_2) (own_v1064 w0_2) (own_v1121 w0_2) (own_v1123 w0_2) (own_v1127 w0_2) (own_v1068 w0_2) (own_v1119 w0_2) (own_v1060 w0_2)) (own_at (own_v1121 w0_2) (3:Int32)))) → own_In (own_at (own_v468 (own_v1062 w0_2) (own_v1064 w0_2) (own_v1121 w0_2) (own_v1123 w0_2) (own_v1127 w0_2) (own_v1068 w0_2) (own_v1119 w0_2) (own_v1060 w0_2)) (own_at (own_v472 (own_v1062 w0_2) (own_v1064 w0_2) (own_v1121 w0_2) (own_v1123 w0_2) (own_v1127 w0_2) (own_v1068 w0_2) (own_v1119 w0_2) (own_v1060 w0_2)) (own_at (own_v1121 w0_2) (3:Int32)))) (own_v470 (own_v1062 w0_2) (own_v1064 w0_2) (own_v1121 w0_2) (own_v1123 w0_2) (own_v1127 w0_2) (own_v1068 w0_2) (own_v1119 w0_2) (own_v1060 w0_2)).length) ∧ (¬ ((own_at (own_v470 (own_v1062 w0_2) (own_v1064 w0_2) (own_v1121 w0_2) (own_v1123 w0_2) (own_v1127 w0_2) (own_v1068 w0_2) (own_v1119 w0_2) (own_v1060 w0_2)) (3:Int32)) < (own_at (own_v472 (own_v1062 w0_2) (own_v1064 w0_2) (own_v1121 w0_2) (own_v1123 w0_2) (own_v1127 w0_2) (own_v1068 w0_2) (own_v1119 w0_2) (own_v1060 w0_2)) (own_at (own_v1121 w0_2) (3:Int32)))) → (own_at (own_v472 (own_v1062 w0_2) (own_v1064 w0_2) (own_v1121 w0_2) (own_v1123 w0_2) (own_v1127 w0_2) (own_v1068 w0_2) (own_v1119 w0_2) (own_v1060 w0_2)) (own_at (own_v1121 w0_2) (3:Int32))) = (own_at (own_v1123 w0_2) (own_at (own_v1121 w0_2) (3:Int32))) → own_In (own_v466 (own_v1062 w0_2) (own_v1064 w0_2) (own_v1121 w0_2) (own_v1123 w0_2) (own_v1127 w0_2) (own_v1068 w0_2) (own_v1119 w0_2) (own_v1060 w0_2)) (own_v474 (own_v1062 w0_2) (own_v1064 w0_2) (own_v1121 w0_2) (own_v1123 w0_2) (own_v1127 w0_2) (own_v1068 w0_2) (own_v1119 w0_2) (own_v1060 w0_2)).length))) := by decide +kernel
theorem own_fin1159 : ∀ w0_2 ∈ own_L15, ∀ w0_5 ∈ own_L2, ∀ w0_9 ∈ own_L15, ((w0_9 &&& (if (if w0_2 = (15:Int32) then (1:Int32) else (0:Int32)) = (0:Int32) then (if w0_5 = (1:Int32) then w0_2 else ((15:Int32) &&& (w0_2 ^^^ (-1:Int32)))) else (15:Int32))) = w0_9) → (((¬ ((f4 w0_9 (0:Int32)) = (0:Int32))) → ((f4 w0_9 (1:Int32)) = (0:Int32)) → (¬ ((f4 w0_9 (2:Int32)) = (0:Int32))) → (own_In (2:Int32) (own_v1121 w0_2).length) ∧ (own_In (own_at (own_v1121 w0_2) (2:Int32)) (own_v472 (own_v1062 w0_2) (own_v1064 w0_2) (own_v1121 w0_2) (own_v1123 w0_2) (own_v1127 w0_2) (own_v1068 w0_2) (own_v1119 w0_2) (own_v1060 w0_2)).length) ∧ (own_In (2:Int32) (own_v470 (own_v1062 w0_2) (own_v1064 w0_2) (own_v1121 w0_2) (own_v1123 w0_2) (own_v1127 w0_2) (own_v1068 w0_2) (own_v1119 w0_2) (own_v1060 w0_2)).length) ∧ (¬ ((own_at (own_v470 (own_v1062 w0_2) (own_v1064 w0_2) (own_v1121 w0_2) (own_v1123 w0_2) (own_v1127 w0_2) (own_v1068 w0_2) (own_v1119 w0_2) (own_v1060 w0_2)) (2:Int32)) < (own_at (own_v472 (own_v1062 w0_2) (own_v1064 w0_2) (own_v1121 w0_2) (own_v1123 w0_2) (own_v1127 w0_2) (own_v1068 w0_2) (own_v1119 w0_2) (own_v1060 w0_2)) (own_at (own_v1121 w0_2) (2:Int32)))) → own_In (own_at (own_v1121 w0_2) (2:Int32)) (own_v1123 w0_2).length) ∧ (¬ ((own_at (own_v470 (own_v1062 w0_2) (own_v1064 w0_2) (own_v1121 w0_2) (own_v1123 w0_2) (own_v1127 w0_2) (own_v1068 w0_2) (own_v1119 w0_2) (own_v1060 w0_2)) (2:Int32)) < (own_at (own_v472 (own_v1062 w0_2) (own_v1064 w0_2) (own_v1121 w0_2) (own_v1123 w0_2) (own_v1127 w0_2) (own_v1068 w0_2) (own_v1119 w0_2) (own_v1060 w0_2)) (own_at (own_v1121 w0_2) (2:Int32)))) → own_In (own_at (own_v472 (own_v1062 w0_2) (own_v1064 w0_2) (own_v1121 w0_2) (own_v1123 w0_2) (own_v1127 w0_2) (own_v1068 w0_2) (own_v1119 w0_2) (own_v1060 w0_2)) (own_at (own_v1121 w0_2) (2:Int32))) (own_v468 (own_v1062 w0_2) (own_v1064 w0_2) (own_v1121 w0_2) (own_v1123 w0_2) (own_v1127 w0_2) (own_v1068 w0_2) (own_v1119 w0_2) (own_v1060 w0_2)).length) ∧ (¬ ((own_at (own_v470 (own_v1062 w0_2) (own_v1064 w0_2) (own_v1121 w0_2) (own_v1123 w0_2) (own_v1127 w0_2) (own_v1068 w0_2) (own_v1119 w0_2) (own_v1060 w0_2)) (2:Int32)) < (own_at (own_v472 (own_v1062 w0_2) (own_v1064 w0_2) (own_v1121 w0_2) (own_v1123 w0_2) (own_v1127 w0_2) (own_v1068 w0_2) (own_v1119 w0_2) (own_v1060 w0_2)) (own_at (own_v1121 w0_2) (2:Int32)))) → own_In (own_at (own_v470 (own_v1062 w0_2) (own_v1064 w0_2) (own_v1121 w0_2) (own_v1123 w0_2) (own_v1127 w0_2) (own_v1068 w0_2) (own_v1119 w0_2) (own_v1060 w0_2)) (2:Int32)) (own_v468 (own_v1062 w0_2) (own_v1064 w0_2) (own_v1121 w0_2) (own_v1123 w0_2) (own_v1127 w0_2) (own_v1068 w0_2) (own_v1119 w0_2) (own_v1060 w0_2)).length) ∧ (¬ ((own_at (own_v470 (own_v1062 w0_2) (own_v1064 w0_2) (own_v1121 w0_2) (own_v1123 w0_2) (own_v1127 w0_2) (own_v1068 w0_2) (own_v1119 w0_2) (own_v1060 w0_2)) (2:Int32)) < (own_at (own_v472 (own_v1062 w0_2) (own_v1064 w0_2) (own_v1121 w0_2) (own_v1123 w0_2) (own_v1127 w0_2) (own_v1068 w0_2) (own_v1119 w0_2) (own_v1060 w0_2)) (own_at (own_v1121 w0_2) (2:Int32)))) → own_In (own_at (own_v468 (own_v1062 w0_2) (own_v1064 w0_2) (own_v1121 w0_2) (own_v1123 w0_2) (own_v1127 w0_2) (own_v1068 w0_2) (own_v1119 w0_2) (own_v1060 w0_2)) (own_at (own_v472 (own_v1062 w0_2) (own_v1064 w0_2) (own_v1121 w0_2) (own_v1123 w0_2) (own_v1127 w0_2) (own_v1068 w0_2) (own_v1119 w0_2) (own_v1060 w0_2)) (own_at (own_v1121 w0_2) (2:Int32)))) (own_v470 (own_v1062 w0_2) (own_v1064 w0_2) (own_v1121 w0_2) (own_v1123 w0_2) (own_v1127 w0_2) (own_v1068 w0_2) (own_v1119 w0_2) (own_v1060 w0_2)).length) ∧ (¬ ((own_at (own_v470 (own_v1062 w0_2) (own_v1064 w0_2) (own_v1121 w0_2) (own_v1123 w0_2) (own_v1127 w0_2) (own_v1068 w0_2) (own_v1119 w0_2) (own_v1060 w0_2)) (2:Int32)) < (own_at (own_v472 (own_v1062 w0_2) (own_v1064 w0_2) (own_v1121 w0_2) (own_v1123 w0_2) (own_v1127 w0_2) (own_v1068 w0_2) (own_v1119 w0_2) (own_v1060 w0_2)) (own_at (own_v1121 w0_2) (2:Int32)))) → (own_at (own_v472 (own_v1062 w0_2) (own_v1064 w0_2) (own_v1121 w0_2) (own_v1123 w0_2) (own_v1127 w0_2) (own_v1068 w0_2) (own_v1119 w0_2) (own_v1060 w0_2)) (own_at (own_v1121 w0_2) (2:Int32))) = (own_at (own_v1123 w0_2) (own_at (own_v1121 w0_2) (2:Int32))) → own_In (own_v466 (own_v1062 w0_2) (own_v1064 w0_2) (own_v1121 w0_2) (own_v1123 w0_2) (own_v1127 w0_2) (own_v1068 w0_2) (own_v1119 w0_2) (own_v1060 w0_2)) (own_v474 (own_v1062 w0_2) (own_v1064 w0_2) (own_v1121 w0_2) (own_v1123 w0_2) (own_v1127 w0_2) (own_v1068 w0_2) (own_v1119 w0_2) (own_v1060 w0_2)).length))) := by decide +kernel
theorem own_fin1161 : ∀ w0_2 ∈ own_L15, ∀ w0_5 ∈ own_L2, ∀ w0_9 ∈ own_L15, ((w0_9 &&& (if (if w0_2 = (15:Int32) then (1:Int32) else (0:Int32)) = (0:Int32) then (if w0_5 = (1:Int32) then w0_2 else ((15:Int32) &&& (w0_2 ^^^ (-1:Int32)))) else (15:Int32))) = w0_9) → (((¬ ((f4 w0_9 (0:Int32)) = (0:Int32))) → ((f4 w0_9 (1:Int32)) = (0:Int32)) → (¬ ((f4 w0_9 (2:Int32)) = (0:Int32))) → (¬ ((f4 w0_9 (3:Int32)) = (0:Int32))) → (own_In (3:Int32) (own_v1121 w0_2).length) ∧ (own_In (own_at (own_v1121 w0_2) (3:Int32)) (own_v533 (own_v1062 w0_2) (own_v1064 w0_2) (own_v1121 w0_2) (own_v1123 w0_2) (own_v1127 w0_2) (own_v1068 w0_2) (own_v1119 w0_2) (own_v1060 w0_2)).length) ∧ (own_In (3:Int32) (own_v531 (own_v1062 w0_2) (own_v1064 w0_2) (own_v1121 w0_2) (own_v1123 w0_2) (own_v1127 w0_2) (own_v1068 w0_2) (own_v1119 w0_2) (own_v1060 w0_2)).length) ∧ (¬ ((own_at (own_v531 (own_v1062 w0_2) (own_v1064 w0_2) (own_v1121 w0_2) (own_v1123 w0_2) (own_v1127 w0_2) (own_v1068 w0_2) (own_v1119 w0_2) (own_v1060 w0_2)) (3:Int32)) < (own_at (own_v533 (own_v1062 w0_2) (own_v1064 w0_2) (own_v1121 w0_2) (own_v1123 w0_2) (own_v1127 w0_2) (own_v1068 w0_2) (own_v1119 w0_2) (own_v1060 w0_2)) (own_at (own_v1121 w0_2) (3:Int32)))) → own_In (own_at (own_v1121 w0_2) (3:Int32)) (own_v1123 w0_2).length) ∧ (¬ ((own_at (own_v531 (own_v1062 w0_2) (own_v1064 w0_2) (own_v1121 w0_2) (own_v1123 w0_2) (own_v1127 w0_2) (own_v1068 w0_2) (own_v1119 w0_2) (own_v1060 w0_2)) (3:Int32)) < (own_at (own_v533 (own_v1062 w0_2) (own_v1064 w0_2) (own_v1121 w0_2) (own_v1123 w0_2) (own_v1127 w0_2) (own_v1068 w0_2) (own_v1119 w0_2) (own_v1060 w0_2)) (own_at (own_v1121 w0_2) (3:Int32)))) → own_In (own_at (own_v533 (own_v1062 w0_2) (own_v1064 w0_2) (own_v1121 w0_2) (own_v1123 w0_2) (own_v1127 w0_2) (own_v1068 w0_2) (own_v1119 w0_2) (own_v1060 w0_2)) (own_at (own_v1121 w0_2) (3:Int32))) (own_v529 (own_v1062 w0_2) (own_v1064 w0_2) (own_v1121 w0_2) (own_v1123 w0_2) (own_v1127 w0_2) (own_v1068 w0_2) (own_v1119 w0_2) (own_v1060 w0_2)).length) ∧ (¬ ((own_at (own_v531 (own_v1062 w0_2) (own_v1064 w0_2) (own_v1121 w0_2) (own_v1123 w0_2) (own_v1127 w0_2) (own_v1068 w0_2) (own_v1119 w0_2) (own_v1060 w0_2)) (3:Int32)) < (own_at (own_v533 (own_v1062 w0_2) (own_v1064 w0_2) (own_v1121 w0_2) (own_v1123 w0_2) (own_v1127 w0_2) (own_v1068 w0_2) (own_v1119 w0_2) (own_v1060 w0_2)) (own_at (own_v1121 w0_2) (3:Int32)))) → own_In (own_at (own_v531 (own_v1062 w0_2) (own_v1064 w0_2) (own_v1121 w0_2) (own_v1123 w0_2) (own_v1127 w0_2) (own_v1068 w0_2) (own_v1119 w0_2) (own_v1060 w0_2)) (3:Int32)) (own_v529 (own_v1062 w0_2) (own_v1064 w0_2) (own_v1121 w0_2) (own_v1123 w0_2) (own_v1127 w0_2) (own_v1068 w0_2) (own_v1119 w0_2) (own_v1060 w0_2)).length) ∧ (¬ ((own_at (own_v531 (own_v1062 w0_2) (own_v1064 w0_2) (own_v1121 w0_2) (own_v1123 w0_2) (own_v1127 w0_2) (own_v1068 w0_2) (own_v1119 w0_2) (own_v1060 w0_2)) (3:Int32)) < (own_at (own_v533 (own_v1062 w0_2) (own_v1064 w0_2) (own_v1121 w0_2) (own_v1123 w0_2) (own_v1127 w0_2) (own_v1068 w0_2) (own_v1119 w0_2) (own_v1060 w0_2)) (own_at (own_v1121 w0_2) (3:Int32)))) → own_In (own_at (own_v529 (own_v1062 w0_2) (own_v1064 w0_2) (own_v1121 w0_2) (own_v1123 w0_2) (own_v1127 w0_2) (own_v1068 w0_2) (own_v1119 w0_2) (own_v1060 w0_2)) (own_at (own_v533 (own_v1062 w0_2) (own_v1064 w0_2) (own_v1121 w0_2) (own_v1123 w0_2) (own_v1127 w0_2) (own_v1068 w0_2) (own_v1119 w0_2) (own_v1060 w0_2)) (own_at (own_v1121 w0_2) (3:Int32)))) (own_v531 (own_v1062 w0_2) (own_v1064 w0_2) (own_v1121 w0_2) (own_v1123 w0_2) (own_v1127 w0_2) (own_v1068 w0_2) (own_v1119 w0_2) (own_v1060 w0_2)).length) ∧ (¬ ((own_at (own_v531 (own_v1062 w0_2) (own_v1064 w0_2) (own_v1121 w0_2) (own_v1123 w0_2) (own_v1127 w0_2) (own_v1068 w0_2) (own_v1119 w0_2) (own_v1060 w0_2)) (3:Int32)) < (own_at (own_v533 (own_v1062 w0_2) (own_v1064 w0_2) (own_v1121 w0_2) (own_v1123 w0_2) (own_v1127 w0_2) (own_v1068 w0_2) (own_v1119 w0_2) (own_v1060 w0_2)) (own_at (own_v1121 w0_2) (3:Int32)))) → (own_at (own_v533 (own_v1062 w0_2) (own_v1064 w0_2) (own_v1121 w0_2) (own_v1123 w0_2) (own_v1127 w0_2) (own_v1068 w0_2) (own_v1119 w0_2) (own_v1060 w0_2)) (own_at (own_v1121 w0_2) (3:Int32))) = (own_at (own_v1123 w0_2) (own_at (own_v1121 w0_2) (3:Int32))) → own_In (own_v527 (own_v1062 w0_2) (own_v1064 w0_2) (own_v1121 w0_2) (own_v1123 w0_2) (own_v1127 w0_2) (own_v1068 w0_2) (own_v1119 w0_2) (own_v1060 w0_2)) (own_v535 (own_v1062 w0_2) (own_v1064 w0_2) (own_v1121 w0_2) (own_v1123 w0_2) (own_v1127 w0_2) (own_v1068 w0_2) (own_v1119 w0_2) (own_v1060 w0_2)).length))) := by decide +kernel
theorem own_fin1163 : ∀ w0_2 ∈ own_L15, ∀ w0_5 ∈ own_L2, ∀ w0_9 ∈ own_L15, ((w0_9 &&& (if (if w0_2 = (15:Int32) then (1:Int32) else (0:Int32)) = (0:Int32) then (if w0_5 = (1:Int32) then w0_2 else ((15:Int32) &&& (w0_2 ^^^ (-1:Int32)))) else (15:Int32))) = w0_9) → (((¬ ((f4 w0_9 (0:Int32)) = (0:Int32))) → (¬ ((f4 w0_9 (1:Int32)) = (0:Int32))) → (own_In (1:Int32) (own_v1121 w0_2).length) ∧ (own_In (own_at (own_v1121 w0_2) (1:Int32)) (own_v472 (own_v1062 w0_2) (own_v1064 w0_2) (own_v1121 w0_2) (own_v1123 w0_2) (own_v1127 w0_2) (own_v1068 w0_2) (own_v1119 w0_2) (own_v1060 w0_2)).length) ∧ (own_In (1:Int32) (own_v470 (own_v1062 w0_2) (own_v1064 w0_2) (own_v1121 w0_2) (own_v1123 w0_2) (own_v1127 w0_2) (own_v1068 w0_2) (own_v1119 w0_2) (own_v1060 w0_2)).length) ∧ (¬ ((own_at (own_v470 (own_v1062 w0_2) (own_v1064 w0_2) (own_v1121 w0_2) (own_v1123 w0_2) (own_v1127 w0_2) (own_v1068 w0_2) (own_v1119 w0_2) (own_v1060 w0_2)) (1:Int32)) < (own_at (own_v472 (own_v1062 w0_2) (own_v1064 w0_2) (own_v1121 w0_2) (own_v1123 w0_2) (own_v1127 w0_2) (own_v1068 w0_2) (own_v1119 w0_2) (own_v1060 w0_2)) (own_at (own_v1121 w0_2) (1:Int32)))) → own_In (own_at (own_v1121 w0_2) (1:Int32)) (own_v1123 w0_2).length) ∧ (¬ ((own_at (own_v470 (own_v1062 w0_2) (own_v1064 w0_2) (own_v1121 w0_2) (own_v1123 w0_2) (own_v1127 w0_2) (own_v1068 w0_2) (own_v1119 w0_2) (own_v1060 w0_2)) (1:Int32)) < (own_at (own_v472 (own_v1062 w0_2) (own_v1064 w0_2) (own_v1121 w0_2) (own_v1123 w0_2) (own_v1127 w0_2) (own_v1068 w0_2) (own_v1119 w0_2) (own_v1060 w0_2)) (own_at (own_v1121 w0_2) (1:Int32)))) → own_In (own_at (own_v472 (own_v1062 w0_2) (own_v1064 w0_2) (own_v1121 w0_2) (own_v1123 w0_2) (own_v1127 w0_2) (own_v1068 w0_2) (own_v1119 w0_2) (own_v1060 w0_2)) (own_at (own_v1121 w0_2) (1:Int32))) (own_v468 (own_v1062 w0_2) (own_v1064 w0_2) (own_v1121 w0_2) (own_v1123 w0_2) (own_v1127 w0_2) (own_v1068 w0_2) (own_v1119 w0_2) (own_v1060 w0_2)).length) ∧ (¬ ((own_at (own_v470 (own_v1062 w0_2) (own_v1064 w0_2) (own_v1121 w0_2) (own_v1123 w0_2) (own_v1127 w0_2) (own_v1068 w0_2) (own_v1119 w0_2) (own_v1060 w0_2)) (1:Int32)) < (own_at (own_v472 (own_v1062 w0_2) (own_v1064 w0_2) (own_v1121 w0_2) (own_v1123 w0_2) (own_v1127 w0_2) (own_v1068 w0_2) (own_v1119 w0_2) (own_v1060 w0_2)) (own_at (own_v1121 w0_2) (1:Int32)))) → own_In (own_at (own_v470 (own_v1062 w0_2) (own_v1064 w0_2) (own_v1121 w0_2) (own_v1123 w0_2) (own_v1127 w0_2) (own_v1068 w0_2) (own_v1119 w0_2) (own_v1060 w0_2)) (1:Int32)) (own_v468 (own_v1062 w0_2) (own_v1064 w0_2) (own_v1121 w0_2) (own_v1123 w0_2) (own_v1127 w0_2) (own_v1068 w0_2) (own_v1119 w0_2) (own_v1060 w0_2)).length) ∧ (¬ ((own_at (own_v470 (own_v1062 w0_2) (own_v1064 w0_2) (own_v1121 w0_2) (own_v1123 w0_2) (own_v1127 w0_2) (own_v1068 w0_2) (own_v1119 w0_2) (own_v1060 w0_2)) (1:Int32)) < (own_at (own_v472 (own_v1062 w0_2) (own_v1064 w0_2) (own_v1121 w0_2) (own_v1123 w0_2) (own_v1127 w0_2) (own_v1068 w0_2) (own_v1119 w0_2) (own_v1060 w0_2)) (own_at (own_v1121 w0_2) (1:Int32)))) → own_In (own_at (own_v468 (own_v1062 w0_2) (own_v1064 w0_2) (own_v1121 w0_2) (own_v1123 w0_2) (own_v1127 w0_2) (own_v1068 w0_2) (own_v1119 w0_2) (own_v1060 w0_2)) (own_at (own_v472 (own_v1062 w0_2) (own_v1064 w0_2) (own_v1121 w0_2) (own_v1123 w0_2) (own_v1127 w0_2) (own_v1068 w0_2) (own_v1119 w0_2) (own_v1060 w0_2)) (own_at (own_v1121 w0_2) (1:Int32)))) (own_v470 (own_v1062 w0_2) (own_v1064 w0_2) (own_v1121 w0_2) (own_v1123 w0_2) (own_v1127 w0_2) (own_v1068 w0_2) (own_v1119 w0_2) (own_v1060 w0_2)).length) ∧ (¬ ((own_at (own_v470 (own_v1062 w0_2) (own_v1064 w0_2) (own_v1121 w0_2) (own_v1123 w0_2) (own_v1127 w0_2) (own_v1068 w0_2) (own_v1119 w0_2) (own_v1060 w0_2)) (1:Int32)) < (own_at (own_v472 (own_v1062 w0_2) (own_v1064 w0_2) (own_v1121 w0_2) (own_v1123 w0_2) (own_v1127 w0_2) (own_v1068 w0_2) (own_v1119 w0_2) (own_v1060 w0_2)) (own_at (own_v1121 w0_2) (1:Int32)))) → (own_at (own_v472 (own_v1062 w0_2) (own_v1064 w0_2) (own_v1121 w0_2) (own_v1123 w0_2) (own_v1127 w0_2) (own_v1068 w0_2) (own_v1119 w0_2) (own_v1060 w0_2)) (own_at (own_v1121 w0_2) (1:Int32))) = (own_at (own_v1123 w0_2) (own_at (own_v1121 w0_2) (1:Int32))) → own_In (own_v466 (own_v1062 w0_2) (own_v1064 w0_2) (own_v1121 w0_2) (own_v1123 w0_2) (own_v1127 w0_2) (own_v1068 w0_2) (own_v1119 w0_2) (own_v1060 w0_2)) (own_v474 (own_v1062 w0_2) (own_v1064 w0_2) (own_v1121 w0_2) (own_v1123 w0_2) (own_v1127 w0_2) (own_v1068 w0_2) (own_v1119 w0_2) (own_v1060 w0_2)).length))) := by decide +kernel
theorem own_fin1165 : ∀ w0_2 ∈ own_L15, ∀ w0_5 ∈ own_L2, ∀ w0_9 ∈ own_L15, ((w0_9 &&& (if (if w0_2 = (15:Int32) then (1:Int32) else (0:Int32)) = (0:Int32) then (if w0_5 = (1:Int32) then w0_2 else ((15:Int32) &&& (w0_2 ^^^ (-1:Int32)))) else (15:Int32))) = w0_9) → (((¬ ((f4 w0_9 (0:Int32)) = (0:Int32))) → (¬ ((f4 w0_9 (1:Int32)) = (0:Int32))) → ((f4 w0_9 (2:Int32)) = (0:Int32)) → (¬ ((f4 w0_9 (3:Int32)) = (0:Int32))) → (own_In (3:Int32) (own_v1121 w0_2).length) ∧ (own_In (own_at (own_v1121 w0_2) (3:Int32)) (own_v592 (own_v1062 w0_2) (own_v1064 w0_2) (own_v1121 w0_2) (own_v1123 w0_2) (own_v1127 w0_2) (own_v1068 w0_2) (own_v1119 w0_2) (own_v1060 w0_2)).length) ∧ (own_In (3:Int32) (own_v590 (own_v1062 w0_2) (own_v1064 w0_2) (own_v1121 w0_2) (own_v1123 w0_2) (own_v1127 w0_2) (own_v1068 w0_2) (own_v1119 w0_2) (own_v1060 w0_2)).length) ∧ (¬ ((own_at (own_v590 (own_v1062 w0_2) (own_v1064 w0_2) (own_v1121 w0_2) (own_v1123 w0_2) (own_v1127 w0_2) (own_v1068 w0_2) (own_v1119 w0_2) (own_v1060 w0_2)) (3:Int32)) < (own_at (own_v592 (own_v1062 w0_2) (own_v1064 w0_2) (own_v1121 w0_2) (own_v1123 w0_2) (own_v1127 w0_2) (own_v1068 w0_2) (own_v1119 w0_2) (own_v1060 w0_2)) (own_at (own_v1121 w0_2) (3:Int32)))) → own_In (own_at (own_v1121 w0_2) (3:Int32)) (own_v1123 w0_2).length) ∧ (¬ ((own_at (own_v590 (own_v1062 w0_2) (own_v1064 w0_2) (own_v1121 w0_2) (own_v1123 w0_2) (own_v1127 w0_2) (own_v1068 w0_2) (own_v1119 w0_2) (own_v1060 w0_2)) (3:Int32)) < (own_at (own_v592 (own_v1062 w0_2) (own_v1064 w0_2) (own_v1121 w0_2) (own_v1123 w0_2) (own_v1127 w0_2) (own_v1068 w0_2) (own_v1119 w0_2) (own_v1060 w0_2)) (own_at (own_v1121 w0_2) (3:Int32)))) → own_In (own_at (own_v592 (own_v1062 w0_2) (own_v1064 w0_2) (own_v1121 w0_2) (own_v1123 w0_2) (own_v1127 w0_2) (own_v1068 w0_2) (own_v1119 w0_2) (own_v1060 w0_2)) (own_at (own_v1121 w0_2) (3:Int32))) (own_v588 (own_v1062 w0_2) (own_v1064 w0_2) (own_v1121 w0_2) (own_v1123 w0_2) (own_v1127 w0_2) (own_v1068 w0_2) (own_v1119 w0_2) (own_v1060 w0_2)).length) ∧ (¬ ((own_at (own_v590 (own_v1062 w0_2) (own_v1064 w0_2) (own_v1121 w0_2) (own_v1123 w0_2) (own_v1127 w0_2) (own_v1068 w0_2) (own_v1119 w0_2) (own_v1060 w0_2)) (3:Int32)) < (own_at (own_v592 (own_v1062 w0_2) (own_v1064 w0_2) (own_v1121 w0_2) (own_v1123 w0_2) (own_v1127 w0_2) (own_v1068 w0_2) (own_v1119 w0_2) (own_v1060 w0_2)) (own_at (own_v1121 w0_2) (3:Int32)))) → own_In (own_at (own_v590 (own_v1062 w0_2) (own_v1064 w0_2) (own_v1121 w0_2) (own_v1123 w0_2) (own_v1127 w0_2) (own_v1068 w0_2) (own_v1119 w0_2) (own_v1060 w0_2)) (3:Int32)) (own_v588 (own_v1062 w0_2) (own_v1064 w0_2) (own_v1121 w0_2) (own_v1123 w0_2) (own_v1127 w0_2) (own_v1068 w0_2) (own_v1119 w0_2) (own_v1060 w0_2)).length) ∧ (¬ ((own_at (own_v590 (own_v1062 w0_2) (own_v1064 w0_2) (own_v1121 w0_2) (own_v1123 w0_2) (own_v1127 w0_2) (own_v1068 w0_2) (own_v1119 w0_2) (own_v1060 w0_2)) (3:Int32)) < (own_at (own_v592 (own_v1062 w0_2) (own_v1064 w0_2) (own_v1121 w0_2) (own_v1123 w0_2) (own_v1127 w0_2) (own_v1068 w0_2) (own_v1119 w0_2) (own_v1060 w0_2)) (own_at (own_v1121 w0_2) (3:Int32)))) → own_In (own_at (own_v588 (own_v1062 w0_2) (own_v1064 w0_2) (own_v1121 w0_2) (own_v1123 w0_2) (own_v1127 w0_2) (own_v1068 w0_2) (own_v1119 w0_2) (own_v1060 w0_2)) (own_at (own_v592 (own_v1062 w0_2) (own_v1064 w0_2) (own_v1121 w0_2) (own_v1123 w0_2) (own_v1127 w0_2) (own_v1068 w0_2) (own_v1119 w0_2) (own_v1060 w0_2)) (own_at (own_v1121 w0_2) (3:Int32)))) (own_v590 (own_v1062 w0_2) (own_v1064 w0_2) (own_v1121 w0_2) (own_v1123 w0_2) (own_v1127 w0_2) (own_v1068 w0_2) (own_v1119 w0_2) (own_v1060 w0_2)).length) ∧ (¬ ((own_at (own_v590 (own_v1062 w0_2) (own_v1064 w0_2) (own_v1121 w0_2) (own_v1123 w0_2) (own_v1127 w0_2) (own_v1068 w0_2) (own_v1119 w0_2) (own_v1060 w0_2)) (3:Int32)) < (own_at (own_v592 (own_v1062 w0_2) (own_v1064 w0_2) (own_v1121 w0_2) (own_v1123 w0_2) (own_v1127 w0_2) (own_v1068 w0_2) (own_v1119 w0_2) (own_v1060 w0_2)) (own_at (own_v1121 w0_2) (3:Int32)))) → (own_at (own_v592 (own_v1062 w0_2) (own_v1064 w0_2) (own_v1121 w0_2) (own_v1123 w0_2) (own_v1127 w0_2) (own_v1068 w0_2) (own_v1119 w0_2) (own_v1060 w0_2)) (own_at (own_v1121 w0_2) (3:Int32))) = (own_at (own_v1123 w0_2) (own_at (own_v1121 w0_2) (3:Int32))) → own_In (own_v586 (own_v1062 w0_2) (own_v1064 w0_2) (own_v1121 w0_2) (own_v1123 w0_2) (own_v1127 w0_2) (own_v1068 w0_2) (own_v1119 w0_2) (own_v1060 w0_2)) (own_v594 (own_v1062 w0_2) (own_v1064 w0_2) (own_v1121 w0_2) (own_v1123 w0_2) (own_v1127 w0_2) (own_v1068 w0_2) (own_v1119 w0_2) (own_v1060 w0_2)).length))) := by decide +kernel
theorem own_fin1167 : ∀ w0_2 ∈ own_L15, ∀ w0_5 ∈ own_L2, ∀ w0_9 ∈ own_L15, ((w0_9 &&& (if (if w0_2 = (15:Int32) then (1:Int32) else (0:Int32)) = (0:Int32) then (if w0_5 = (1:Int32) then w0_2 else ((15:Int32) &&& (w0_2 ^^^ (-1:Int32)))) else (15:Int32))) = w0_9) → (((¬ ((f4 w0_9 (0:Int32)) = (0:Int32))) → (¬ ((f4 w0_9 (1:Int32)) = (0:Int32))) → (¬ ((f4 w0_9 (2:Int32)) = (0:Int32))) → (own_In (2:Int32) (own_v1121 w0_2).length) ∧ (own_In (own_at (own_v1121 w0_2) (2:Int32)) (own_v592 (own_v1062 w0_2) (own_v1064 w0_2) (own_v1121 w0_2) (own_v1123 w0_2) (own_v1127 w0_2) (own_v1068 w0_2) (own_v1119 w0_2) (own_v1060 w0_2)).length) ∧ (own_In (2:Int32) (own_v590 (own_v1062 w0_2) (own_v1064 w0_2) (own_v1121 w0_2) (own_v1123 w0_2) (own_v1127 w0_2) (own_v1068 w0_2) (own_v1119 w0_2) (own_v1060 w0_2)).length) ∧ (¬ ((own_at (own_v590 (own_v1062 w0_2) (own_v1064 w0_2) (own_v1121 w0_2) (own_v1123 w0_2) (own_v1127 w0_2) (own_v1068 w0_2) (own_v1119 w0_2) (own_v1060 w0_2)) (2:Int32)) < (own_at (own_v592 (own_v1062 w0_2) (own_v1064 w0_2) (own_v1121 w0_2) (own_v1123 w0_2) (own_v1127 w0_2) (own_v1068 w0_2) (own_v1119 w0_2) (own_v1060 w0_2)) (own_at (own_v1121 w0_2) (2:Int32)))) → own_In (own_at (own_v1121 w0_2) (2:Int32)) (own_v1123 w0_2).length) ∧ (¬ ((own_at (own_v590 (own_v1062 w0_2) (own_v1064 w0_2) (own_v1121 w0_2) (own_v1123 w0_2) (own_v1127 w0_2) (own_v1068 w0_2) (own_v1119 w0_2) (own_v1060 w0_2)) (2:Int32)) < (own_at (own_v592 (own_v1062 w0_2) (own_v1064 w0_2) (own_v1121 w0_2) (own_v1123 w0_2) (own_v1127 w0_2) (own_v1068 w0_2) (own_v1119 w0_2) (own_v1060 w0_2)) (own_at (own_v1121 w0_2) (2:Int32)))) → own_In (own_at (own_v592 (own_v1062 w0_2) (own_v1064 w0_2) (own_v1121 w0_2) (own_v1123 w0_2) (own_v1127 w0_2) (own_v1068 w0_2) (own_v1119 w0_2) (own_v1060 w0_2)) (own_at (own_v1121 w0_2) (2:Int32))) (own_v588 (own_v1062 w0_2) (own_v1064 w0_2) (own_v1121 w0_2) (own_v1123 w0_2) (own_v1127 w0_2) (own_v1068 w0_2) (own_v1119 w0_2) (own_v1060 w0_2)).length) ∧ (¬ ((own_at (own_v590 (own_v1062 w0_2) (own_v1064 w0_2) (own_v1121 w0_2) (own_v1123 w0_2) (own_v1127 w0_2) (own_v1068 w0_2) (own_v1119 w0_2) (own_v1060 w0_2)) (2:Int32)) < (own_at (own_v592 (own_v1062 w0_2) (own_v1064 w0_2) (own_v1121 w0_2) (own_v1123 w0_2) (own_v1127 w0_2) (own_v1068 w0_2) (own_v1119 w0_2) (own_v1060 w0_2)) (own_at (own_v1121 w0_2) (2:Int32)))) → own_In (own_at (own_v590 (own_v1062 w0_2) (own_v1064 w0_2) (own_v1121 w0_2) (own_v1123 w0_2) (own_v1127 w0_2) (own_v1068 w0_2) (own_v1119 w0_2) (own_v1060 w0_2)) (2:Int32)) (own_v588 (own_v1062 w0_2) (own_v1064 w0_2) (own_v1121 w0_2) (own_v1123 w0_2) (own_v1127 w0_2) (own_v1068 w0_2) (own_v1119 w0_2) (own_v1060 w0_2)).length) ∧ (¬ ((own_at (own_v590 (own_v1062 w0_2) (own_v1064 w0_2) (own_v1121 w0_2) (own_v1123 w0_2) (own_v1127 w0_2) (own_v1068 w0_2) (own_v1119 w0_2) (own_v1060 w0_2)) (2:Int32)) < (own_at (own_v592 (own_v1062 w0_2) (own_v1064 w0_2) (own_v1121 w0_2) (own_v1123 w0_2) (own_v1127 w0_2) (own_v1068 w0_2) (own_v1119 w0_2) (own_v1060 w0_2)) (own_at (own_v1121 w0_2) (2:Int32)))) → own_In (own_at (own_v588 (own_v1062 w0_2) (own_v1064 w0_2) (own_v1121 w0_2) (own_v1123 w0_2) (own_v1127 w0_2) (own_v1068 w0_2) (own_v1119 w0_2) (own_v1060 w0_2)) (own_at (own_v592 (own_v1062 w0_2) (own_v1064 w0_2) (own_v1121 w0_2) (own_v1123 w0_2) (own_v1127 w0_2) (own_v1068 w0_2) (own_v1119 w0_2) (own_v1060 w0_2)) (own_at (own_v1121 w0_2) (2:Int32)))) (own_v590 (own_v1062 w0_2) (own_v1064 w0_2) (own_v1121 w0_2) (own_v1123 w0_2) (own_v1127 w0_2) (own_v1068 w0_2) (own_v1119 w0_2) (own_v1060 w0_2)).length) ∧ (¬ ((own_at (own_v590 (own_v1062 w0_2) (own_v1064 w0_2) (own_v1121 w0_2) (own_v1123 w0_2) (own_v1127 w0_2) (own_v1068 w0_2) (own_v1119 w0_2) (own_v1060 w0_2)) (2:Int32)) < (own_at (own_v592 (own_v1062 w0_2) (own_v1064 w0_2) (own_v1121 w0_2) (own_v1123 w0_2) (own_v1127 w0_2) (own_v1068 w0_2) (own_v1119 w0_2) (own_v1060 w0_2)) (own_at (own_v1121 w0_2) (2:Int32)))) → (own_at (own_v592 (own_v1062 w0_2) (own_v1064 w0_2) (own_v1121 w0_2) (own_v1123 w0_2) (own_v1127 w0_2) (own_v1068 w0_2) (own_v1119 w0_2) (own_v1060 w0_2)) (own_at (own_v1121 w0_2) (2:Int32))) = (own_at (own_v1123 w0_2) (own_at (own_v1121 w0_2) (2:Int32))) → own_In (own_v586 (own_v1062 w0_2) (own_v1064 w0_2) (own_v1121 w0_2) (own_v1123 w0_2) (own_v1127 w0_2) (own_v1068 w0_2) (own_v1119 w0_2) (own_v1060 w0_2)) (own_v594 (own_v1062 w0_2) (own_v1064 w0_2) (own_v1121 w0_2) (own_v1123 w0_2) (own_v1127 w0_2) (own_v1068 w0_2) (own_v1119 w0_2) (own_v1060 w0_2)).length))) := by decide +kernel
theorem own_fin1169 : ∀ w0_2 ∈ own_L15, ∀ w0_5 ∈ own_L2, ∀ w0_9 ∈ own_L15, ((w0_9 &&& (if (if w0_2 = (15:Int32) then (1:Int32) else (0:Int32)) = (0:Int32) then (if w0_5 = (1:Int32) then w0_2 else ((15:Int32) &&& (w0_2 ^^^ (-1:Int32)))) else (15:Int32))) = w0_9) → (((¬ ((f4 w0_9 (0:Int32)) = (0:Int32))) → (¬ ((f4 w0_9 (1:Int32)) = (0:Int32))) → (¬ ((f4 w0_9 (2:Int32)) = (0:Int32))) → (¬ ((f4 w0_9 (3:Int32)) = (0:Int32))) → (own_In (3:Int32) (own_v1121 w0_2).length) ∧ (own_In (own_at (own_v1121 w0_2) (3:Int32)) (own_v652 (own_v1062 w0_2) (own_v1064 w0_2) (own_v1121 w0_2) (own_v1123 w0_2) (own_v1127 w0_2) (own_v1068 w0_2) (own_v1119 w0_2) (own_v1060 w0_2)).length) ∧ (own_In (3:Int32) (own_v650 (own_v1062 w0_2) (own_v1064 w0_2) (own_v1121 w0_2) (own_v1123 w0_2) (own_v1127 w0_2) (own_v1068 w0_2) (own_v1119 w0_2) (own_v1060 w0_2)).length) ∧ (¬ ((own_at (own_v650 (own_v1062 w0_2) (own_v1064 w0_2) (own_v1121 w0_2) (own_v1123 w0_2) (own_v1127 w0_2) (own_v1068 w0_2) (own_v1119 w0_2) (own_v1060 w0_2)) (3:Int32)) < (own_at (own_v652 (own_v1062 w0_2) (own_v1064 w0_2) (own_v1121 w0_2) (own_v1123 w0_2) (own_v1127 w0_2) (own_v1068 w0_2) (own_v1119 w0_2) (own_v1060 w0_2)) (own_at (own_v1121 w0_2) (3:Int32)))) → own_In (own_at (own_v1121 w0_2) (3:Int32)) (own_v1123 w0_2).length) ∧ (¬ ((own_at (own_v650 (own_v1062 w0_2) (own_v1064 w0_2) (own_v1121 w0_2) (own_v1123 w0_2) (own_v1127 w0_2) (own_v1068 w0_2) (own_v1119 w0_2) (own_v1060 w0_2)) (3:Int32)) < (own_at (own_v652 (own_v1062 w0_2) (own_v1064 w0_2) (own_v1121 w0_2) (own_v1123 w0_2) (own_v1127 w0_2) (own_v1068 w0_2) (own_v1119 w0_2) (own_v1060 w0_2)) (own_at (own_v1121 w0_2) (3:Int32)))) → own_In (own_at (own_v652 (own_v1062 w0_2) (own_v1064 w0_2) (own_v1121 w0_2) (own_v1123 w0_2) (own_v1127 w0_2) (own_v1068 w0_2) (own_v1119 w0_2) (own_v1060 w0_2)) (own_at (own_v1121 w0_2) (3:Int32))) (own_v648 (own_v1062 w0_2) (own_v1064 w0_2) (own_v1121 w0_2) (own_v1123 w0_2) (own_v1127 w0_2) (own_v1068 w0_2) (own_v1119 w0_2) (own_v1060 w0_2)).length) ∧ (¬ ((own_at (own_v650 (own_v1062 w0_2) (own_v1064 w0_2) (own_v1121 w0_2) (own_v1123 w0_2) (own_v1127 w0_2) (own_v1068 w0_2) (own_v1119 w0_2) (own_v1060 w0_2)) (3:Int32)) < (own_at (own_v652 (own_v1062 w0_2) (own_v1064 w0_2) (own_v1121 w0_2) (own_v1123 w0_2) (own_v1127 w0_2) (own_v1068 w0_2) (own_v1119 w0_2) (own_v1060 w0_2)) (own_at (own_v1121 w0_2) (3:Int32)))) → own_In (own_at (own_v650 (own_v1062 w0_2) (own_v1064 w0_2) (own_v1121 w0_2) (own_v1123 w0_2) (own_v1127 w0_2) (own_v1068 w0_2) (own_v1119 w0_2) (own_v1060 w0_2)) (3:Int32)) (own_v648 (own_v1062 w0_2) (own_v1064 w0_2) (own_v1121 w0_2) (own_v1123 w0_2) (own_v1127 w0_2) (own_v1068 w0_2) (own_v1119 w0_2) (own_v1060 w0_2)).length) ∧ (¬ ((own_at (own_v650 (own_v1062 w0_2) (own_v1064 w0_2) (own_v1121 w0_2) (own_v1123 w0_2) (own_v1127 w0_2) (own_v1068 w0_2) (own_v1119 w0_2) (own_v1060 w0_2)) (3:Int32)) < (own_at (own_v652 (own_v1062 w0_2) (own_v1064 w0_2) (own_v1121 w0_2) (own_v1123 w0_2) (own_v1127 w0_2) (own_v1068 w0_2) (own_v1119 w0_2) (own_v1060 w0_2)) (own_at (own_v1121 w0_2) (3:Int32)))) → own_In (own_at (own_v648 (own_v1062 w0_2) (own_v1064 w0_2) (own_v1121 w0_2) (own_v1123 w0_2) (own_v1127 w0_2) (own_v1068 w0_2) (own_v1119 w0_2) (own_v1060 w0_2)) (own_at (own_v652 (own_v1062 w0_2) (own_v1064 w0_2) (own_v1121 w0_2) (own_v1123 w0_2) (own_v1127 w0_2) (own_v1068 w0_2) (own_v1119 w0_2) (own_v1060 w0_2)) (own_at (own_v1121 w0_2) (3:Int32)))) (own_v650 (own_v1062 w0_2) (own_v1064 w0_2) (own_v1121 w0_2) (own_v1123 w0_2) (own_v1127 w0_2) (own_v1068 w0_2) (own_v1119 w0_2) (own_v1060 w0_2)).length) ∧ (¬ ((own_at (own_v650 (own_v1062 w0_2) (own_v1064 w0_2) (own_v1121 w0_2) (own_v1123 w0_2) (own_v1127 w0_2) (own_v1068 w0_2) (own_v1119 w0_2) (own_v1060 w0_2)) (3:Int32)) < (own_at (own_v652 (own_v1062 w0_2) (own_v1064 w0_2) (own_v1121 w0_2) (own_v1123 w0_2) (own_v1127 w0_2) (own_v1068 w0_2) (own_v1119 w0_2) (own_v1060 w0_2)) (own_at (own_v1121 w0_2) (3:Int32)))) → (own_at (own_v652 (own_v1062 w0_2) (own_v1064 w0_2) (own_v1121 w0_2) (own_v1123 w0_2) (own_v1127 w0_2) (own_v1068 w0_2) (own_v1119 w0_2) (own_v1060 w0_2)) (own_at (own_v1121 w0_2) (3:Int32))) = (own_at (own_v1123 w0_2) (own_at (own_v1121 w0_2) (3:Int32))) → own_In (own_v646 (own_v1062 w0_2) (own_v1064 w0_2) (own_v1121 w0_2) (own_v1123 w0_2) (own_v1127 w0_2) (own_v1068 w0_2) (own_v1119 w0_2) (own_v1060 w0_2)) (own_v654 (own_v1062 w0_2) (own_v1064 w0_2) (own_v1121 w0_2) (own_v1123 w0_2) (own_v1127 w0_2) (own_v1068 w0_2) (own_v1119 w0_2) (own_v1060 w0_2)).length))) := by decide +kernel
def own_v1185 (w0_9 : Int32) (w0_2 : Int32) : Int32 := (g3_tc w0_9 (own_v1062 w0_2) (own_v1064 w0_2) (own_v1121 w0_2) (own_v1123 w0_2) (own_v1127 w0_2) (own_v1068 w0_2) (own_v1119 w0_2) (own_v1060 w0_2))
def own_v1187 (w0_9 : Int32) (w0_2 : Int32) : List Int32 := (g3_el w0_9 (own_v1062 w0_2) (own_v1064 w0_2) (own_v1121 w0_2) (own_v1123 w0_2) (own_v1127 w0_2) (own_v1068 w0_2) (own_v1119 w0_2) (own_v1060 w0_2))
def own_v1189 (w0_9 : Int32) (w0_2 : Int32) : List Int32 := (g3_po w0_9 (own_v1062 w0_2) (own_v1064 w0_2) (own_v1121 w0_2) (own_v1123 w0_2) (own_v1127 w0_2) (own_v1068 w0_2) (own_v1119 w0_2) (own_v1060 w0_2))
def own_v1191 (w0_9 : Int32) (w0_2 : Int32) : List Int32 := (g3_bm w0_9 (own_v1062 w0_2) (own_v1064 w0_2) (own_v1121 w0_2) (own_v1123 w0_2) (own_v1127 w0_2) (own_v1068 w0_2) (own_v1119 w0_2) (own_v1060 w0_2))
def own_v1193 (w0_9 : Int32) (w0_2 : Int32) : List Int32 := (g3_tb w0_9 (own_v1062 w0_2) (own_v1064 w0_2) (own_v1121 w0_2) (own_v1123 w0_2) (own_v1127 w0_2) (own_v1068 w0_2) (own_v1119 w0_2) (own_v1060 w0_2))
theorem own_fin1200 : ∀ w0_2 ∈ own_L15, ∀ w0_5 ∈ own_L2, (w0_2 = (15:Int32) → w0_5 = (0:Int32)) → ((own_In w0_5 (own_v1123 w0_2).length)) := by decide +kernel
theorem own_fin1202 : ∀ w0_2 ∈ own_L15, ∀ w0_5 ∈ own_L2, ∀ w0_9 ∈ own_L15, (w0_2 = (15:Int32) → w0_5 = (0:Int32)) → ((w0_9 &&& (if (if w0_2 = (15:Int32) then (1:Int32) else (0:Int32)) = (0:Int32) then (if w0_5 = (1:Int32) then w0_2 else ((15:Int32) &&& (w0_2 ^^^ (-1:Int32)))) else (15:Int32))) = w0_9) → ((own_In w0_5 (own_v1191 w0_9 w0_2).length)) := by decide +kernel
theorem own_fin1204 : ∀ w0_2 ∈ own_L15, ∀ w0_5 ∈ own_L2, (w0_2 = (15:Int32) → w0_5 = (0:Int32)) → ((own_In w0_5 (own_v1125 w0_2).length)) := by decide +kernel
theorem own_fin1206 : ∀ w0_2 ∈ own_L15, ∀ w0_5 ∈ own_L2, ∀ w0_9 ∈ own_L15, (w0_2 = (15:Int32) → w0_5 = (0:Int32)) → ((w0_9 &&& (if (if w0_2 = (15:Int32) then (1:Int32) else (0:Int32)) = (0:Int32) then (if w0_5 = (1:Int32) then w0_2 else ((15:Int32) &&& (w0_2 ^^^ (-1:Int32)))) else (15:Int32))) = w0_9) → (((own_at (own_v1191 w0_9 w0_2) w0_5) < (own_at (own_v1125 w0_2) w0_5) → own_In (own_v1119 w0_2) (own_v1123 w0_2).length)) := by decide +kernel
theorem own_fin1208 : ∀ w0_2 ∈ own_L15, ∀ w0_5 ∈ own_L2, ∀ w0_9 ∈ own_L15, (w0_2 = (15:Int32) → w0_5 = (0:Int32)) → ((w0_9 &&& (if (if w0_2 = (15:Int32) then (1:Int32) else (0:Int32)) = (0:Int32) then (if w0_5 = (1:Int32) then w0_2 else ((15:Int32) &&& (w0_2 ^^^ (-1:Int32)))) else (15:Int32))) = w0_9) → (((own_at (own_v1191 w0_9 w0_2) w0_5) < (own_at (own_v1125 w0_2) w0_5) → own_In (own_v1119 w0_2) (own_v1125 w0_2).length)) := by decide +kernel
theorem own_fin1210 : ∀ w0_2 ∈ own_L15, ∀ w0_5 ∈ own_L2, ∀ w0_9 ∈ own_L15, (w0_2 = (15:Int32) → w0_5 = (0:Int32)) → ((w0_9 &&& (if (if w0_2 = (15:Int32) then (1:Int32) else (0:Int32)) = (0:Int32) then (if w0_5 = (1:Int32) then w0_2 else ((15:Int32) &&& (w0_2 ^^^ (-1:Int32)))) else (15:Int32))) = w0_9) → (((own_at (own_v1191 w0_9 w0_2) w0_5) < (own_at (own_v1125 w0_2) w0_5) → own_In (own_v1119 w0_2) (own_v1191 w0_9 w0_2).length)) := by decide +kernel
theorem own_fin1212 : ∀ w0_2 ∈ own_L15, ∀ w0_5 ∈ own_L2, ∀ w0_9 ∈ own_L15, (w0_2 = (15:Int32) → w0_5 = (0:Int32)) → ((w0_9 &&& (if (if w0_2 = (15:Int32) then (1:Int32) else (0:Int32)) = (0:Int32) then (if w0_5 = (1:Int32) then w0_2 else ((15:Int32) &&& (w0_2 ^^^ (-1:Int32)))) else (15:Int32))) = w0_9) → (((own_at (own_v1191 w0_9 w0_2) w0_5) < (own_at (own_v1125 w0_2) w0_5) → (own_at (own_v1123 w0_2) w0_5) < (own_at (own_v1191 w0_9 w0_2) w0_5) → own_In (own_at (own_v1123 w0_2) w0_5) (own_v1187 w0_9 w0_2).length)) := by decide +kernel
theorem own_fin1214 : ∀ w0_2 ∈ own_L15, ∀ w0_5 ∈ own_L2, ∀ w0_9 ∈ own_L15, (w0_2 = (15:Int32) → w0_5 = (0:Int32)) → ((w0_9 &&& (if (if w0_2 = (15:Int32) then (1:Int32) else (0:Int32)) = (0:Int32) then (if w0_5 = (1:Int32) then w0_2 else ((15:Int32) &&& (w0_2 ^^^ (-1:Int32)))) else (15:Int32))) = w0_9) → (((own_at (own_v1191 w0_9 w0_2) w0_5) < (own_at (own_v1125 w0_2) w0_5) → (own_at (own_v1123 w0_2) w0_5) < (own_at (own_v1191 w0_9 w0_2) w0_5) → own_In (own_at (own_v1187 w0_9 w0_2) (own_at (own_v1123 w0_2) w0_5)) (own_v1121 w0_2).length)) := by decide +kernel
theorem own_fin1216 : ∀ w0_2 ∈ own_L15, ∀ w0_5 ∈ own_L2, ∀ w0_9 ∈ own_L15, (w0_2 = (15:Int32) → w0_5 = (0:Int32)) → ((w0_9 &&& (if (if w0_2 = (15:Int32) then (1:Int32) else (0:Int32)) = (0:Int32) then (if w0_5 = (1:Int32) then w0_2 else ((15:Int32) &&& (w0_2 ^^^ (-1:Int32)))) else (15:Int32))) = w0_9) → (((own_at (own_v1191 w0_9 w0_2) w0_5) < (own_at (own_v1125 w0_2) w0_5) → ((own_at (own_v1123 w0_2) w0_5) + (1:Int32)) < (own_at (own_v1191 w0_9 w0_2) w0_5) → own_In ((own_at (own_v1123 w0_2) w0_5) + (1:Int32)) (own_v1187 w0_9 w0_2).length)) := by decide +kernel
theorem own_fin1218 : ∀ w0_2 ∈ own_L15, ∀ w0_5 ∈ own_L2, ∀ w0_9 ∈ own_L15, (w0_2 = (15:Int32) → w0_5 = (0:Int32)) → ((w0_9 &&& (if (if w0_2 = (15:Int32) then (1:Int32) else (0:Int32)) = (0:Int32) then (if w0_5 = (1:Int32) then w0_2 else ((15:Int32) &&& (w0_2 ^^^ (-1:Int32)))) else (15:Int32))) = w0_9) → (((own_at (own_v1191 w0_9 w0_2) w0_5) < (own_at (own_v1125 w0_2) w0_5) → ((own_at (own_v1123 w0_2) w0_5) + (1:Int32)) < (own_at (own_v1191 w0_9 w0_2) w0_5) → own_In (own_at (own_v1187 w0_9 w0_2) ((own_at (own_v1123 w0_2) w0_5) + (1:Int32))) (own_v1121 w0_2).length)) := by decide +kernel
theorem own_fin1220 : ∀ w0_2 ∈ own_L15, ∀ w0_5 ∈ own_L2, ∀ w0_9 ∈ own_L15, (w0_2 = (15:Int32) → w0_5 = (0:Int32)) → ((w0_9 &&& (if (if w0_2 = (15:Int32) then (1:Int32) else (0:Int32)) = (0:Int32) then (if w0_5 = (1:Int32) then w0_2 else ((15:Int32) &&& (w0_2 ^^^ (-1:Int32)))) else (15:Int32))) = w0_9) → (((own_at (own_v1191 w0_9 w0_2) w0_5) < (own_at (own_v1125 w0_2) w0_5) → (((own_at (own_v1123 w0_2) w0_5) + (1:Int32)) + (1:Int32)) < (own_at (own_v1191 w0_9 w0_2) w0_5) → own_In (((own_at (own_v1123 w0_2) w0_5) + (1:Int32)) + (1:Int32)) (own_v1187 w0_9 w0_2).length)) := by decide +kernel
theorem own_fin1222 : ∀ w0_2 ∈ own_L15, ∀ w0_5 ∈ own_L2, ∀ w0_9 ∈ own_L15, (w0_2 = (15:Int32) → w0_5 = (0:Int32)) → ((w0_9 &&& (if (if w0_2 = (15:Int32) then (1:Int32) else (0:Int32)) = (0:Int32) then (if w0_5 = (1:Int32) then w0_2 else ((15:Int32) &&& (w0_2 ^^^ (-1:Int32)))) else (15:Int32))) = w0_9) → (((own_at (own_v1191 w0_9 w0_2) w0_5) < (own_at (own_v1125 w0_2) w0_5) → (((own_at (own_v1123 w0_2) w0_5) + (1:Int32)) + (1:Int32)) < (own_at (own_v1191 w0_9 w0_2) w0_5) → own_In (own_at (own_v1187 w0_9 w0_2) (((own_at (own_v1123 w0_2) w0_5) + (1:Int32)) + (1:Int32))) (own_v1121 w0_2).length)) := by decide +kernel
theorem own_fin1224 : ∀ w0_2 ∈ own_L15, ∀ w0_5 ∈ own_L2, ∀ w0_9 ∈ own_L15, (w0_2 = (15:Int32) → w0_5 = (0:Int32)) → ((w0_9 &&& (if (if w0_2 = (15:Int32) then (1:Int32) else (0:Int32)) = (0:Int32) then (if w0_5 = (1:Int32) then w0_2 else ((15:Int32) &&& (w0_2 ^^^ (-1:Int32)))) else (15:Int32))) = w0_9) → (((own_at (own_v1191 w0_9 w0_2) w0_5) < (own_at (own_v1125 w0_2) w0_5) → ((((own_at (own_v1123 w0_2) w0_5) + (1:Int32)) + (1:Int32)) + (1:Int32)) < (own_at (own_v1191 w0_9 w0_2) w0_5) → own_In ((((own_at (own_v1123 w0_2) w0_5) + (1:Int32)) + (1:Int32)) + (1:Int32)) (own_v1187 w0_9 w0_2).length)) := by decide +kernel
theorem own_fin1226 : ∀ w0_2 ∈ own_L15, ∀ w0_5 ∈ own_L2, ∀ w0_9 ∈ own_L15, (w0_2 = (15:Int32) → w0_5 = (0:Int32)) → ((w0_9 &&& (if (if w0_2 = (15:Int32) then (1:Int32) else (0:Int32)) = (0:Int32) then (if w0_5 = (1:Int32) then w0_2 else ((15:Int32) &&& (w0_2 ^^^ (-1:Int32)))) else (15:Int32))) = w0_9) → (((own_at (own_v1191 w0_9 w0_2) w0_5) < (own_at (own_v1125 w0_2) w0_5) → ((((own_at (own_v1123 w0_2) w0_5) + (1:Int32)) + (1:Int32)) + (1:Int32)) < (own_at (own_v1191 w0_9 w0_2) w0_5) → own_In (own_at (own_v1187 w0_9 w0_2) ((((own_at (own_v1123 w0_2) w0_5) + (1:Int32)) + (1:Int32)) + (1:Int32))) (own_v1121 w0_2).length)) := by decide +kernel
theorem own_fin1228 : ∀ w0_2 ∈ own_L15, ∀ w0_5 ∈ own_L2, ∀ w0_9 ∈ own_L15, (w0_2 = (15:Int32) → w0_5 = (0:Int32)) → ((w0_9 &&& (if (if w0_2 = (15:Int32) then (1:Int32) else (0:Int32)) = (0:Int32) then (if w0_5 = (1:Int32) then w0_2 else ((15:Int32) &&& (w0_2 ^^^ (-1:Int32)))) else (15:Int32))) = w0_9) → (((own_at (own_v1191 w0_9 w0_2) w0_5) < (own_at (own_v1125 w0_2) w0_5) → ¬ ((((((own_at (own_v1123 w0_2) w0_5) + (1:Int32)) + (1:Int32)) + (1:Int32)) + (1:Int32)) < (own_at (own_v1191 w0_9 w0_2) w0_5)))) := by decide +kernel
def own_v1244 (w0_5 : Int32) (w0_9 : Int32) (w0_2 : Int32) : Int32 := (g6_bc w0_5 (own_v1187 w0_9 w0_2) (own_v1121 w0_2) (own_v1123 w0_2) (own_v1125 w0_2) (own_v1191 w0_9 w0_2) (own_v1119 w0_2) (own_v1185 w0_9 w0_2))
def own_v1246 (w0_5 : Int32) (w0_9 : Int32) (w0_2 : Int32) : List Int32 := (g6_bo w0_5 (own_v1187 w0_9 w0_2) (own_v1121 w0_2) (own_v1123 w0_2) (own_v1125 w0_2) (own_v1191 w0_9 w0_2) (own_v1119 w0_2) (own_v1185 w0_9 w0_2))
def own_v1248 (w0_5 : Int32) (w0_9 : Int32) (w0_2 : Int32) : List Int32 := (g6_bs w0_5 (own_v1187 w0_9 w0_2) (own_v1121 w0_2) (own_v1123 w0_2) (own_v1125 w0_2) (own_v1191 w0_9 w0_2) (own_v1119 w0_2) (own_v1185 w0_9 w0_2))
def own_v1250 (w0_5 : Int32) (w0_9 : Int32) (w0_2 : Int32) : List Int32 := (g6_be w0_5 (own_v1187 w0_9 w0_2) (own_v1121 w0_2) (own_v1123 w0_2) (own_v1125 w0_2) (own_v1191 w0_9 w0_2) (own_v1119 w0_2) (own_v1185 w0_9 w0_2))
def own_v1252 (w0_5 : Int32) (w0_9 : Int32) (w0_2 : Int32) : List Int32 := (g6_bm w0_5 (own_v1187 w0_9 w0_2) (own_v1121 w0_2) (own_v1123 w0_2) (own_v1125 w0_2) (own_v1191 w0_9 w0_2) (own_v1119 w0_2) (own_v1185 w0_9 w0_2))
def own_v1254 (w0_5 : Int32) (w0_9 : Int32) (w0_2 : Int32) : Int32 := (f6 w0_5 (own_v1187 w0_9 w0_2) (own_v1121 w0_2) (own_v1123 w0_2) (own_v1125 w0_2) (own_v1191 w0_9 w0_2) (own_v1119 w0_2) (own_v1185 w0_9 w0_2))
def own_v1256 (w0_9 : Int32) (w0_2 : Int32) (w0_5 : Int32) : Int32 := (if w0_9 = (own_v1138 w0_2 w0_5) then (1:Int32) else (0:Int32))
def own_v1257 (w0_2 : Int32) : Int32 := (if (own_v1131 w0_2) = (0:Int32) then (1:Int32) else (-1:Int32))
def own_v1258 (w0_9 : Int32) (w0_2 : Int32) (w0_5 : Int32) : Int32 := (if (own_v1256 w0_9 w0_2 w0_5) = (0:Int32) then (own_v1137 w0_2) else (-1:Int32))
def own_v1259 (w0_9 : Int32) (w0_2 : Int32) (w0_5 : Int32) : Int32 := (if (own_v1256 w0_9 w0_2 w0_5) = (0:Int32) then ((own_v1137 w0_2) + (1:Int32)) else (own_v1137 w0_2))
theorem own_fin1260 : ∀ w0_2 ∈ own_L15, ((own_v1129 w0_2) = (own_v1257 w0_2)) := by decide +kernel
theorem own_fin1261 : ∀ w0_2 ∈ own_L15, ∀ w0_5 ∈ own_L2, ∀ w0_9 ∈ own_L15, (w0_2 = (15:Int32) → w0_5 = (0:Int32)) → ((w0_9 &&& (if (if w0_2 = (15:Int32) then (1:Int32) else (0:Int32)) = (0:Int32) then (if w0_5 = (1:Int32) then w0_2 else ((15:Int32) &&& (w0_2 ^^^ (-1:Int32)))) else (15:Int32))) = w0_9) → ((own_v1254 w0_5 w0_9 w0_2) = (own_v1258 w0_9 w0_2 w0_5)) := by decide +kernel
theorem own_pd4 : parseMethodDescriptor "()I" = some ⟨[], some .int⟩ := by decide +kernel
theorem own_fin1264 : ∀ w0_2 ∈ own_L15, ∀ w0_5 ∈ own_L2, ∀ w0_9 ∈ own_L15, (w0_2 = (15:Int32) → w0_5 = (0:Int32)) → ((w0_9 &&& (if (if w0_2 = (15:Int32) then (1:Int32) else (0:Int32)) = (0:Int32) then (if w0_5 = (1:Int32) then w0_2 else ((15:Int32) &&& (w0_2 ^^^ (-1:Int32)))) else (15:Int32))) = w0_9) → ((f8 (own_v1244 w0_5 w0_9 w0_2)) = (own_v1259 w0_9 w0_2 w0_5)) := by decide +kernel
def own_v1266 (w0_9 : Int32) (w0_2 : Int32) (w0_5 : Int32) : Int32 := (if (own_v1256 w0_9 w0_2 w0_5) = (0:Int32) then ((own_v1139 w0_2 w0_5) + (f7 w0_9)) else (own_v1139 w0_2 w0_5))
theorem own_fin1267 : ∀ w0_2 ∈ own_L15, ∀ w0_5 ∈ own_L2, ∀ w0_9 ∈ own_L15, (w0_2 = (15:Int32) → w0_5 = (0:Int32)) → ((w0_9 &&& (if (if w0_2 = (15:Int32) then (1:Int32) else (0:Int32)) = (0:Int32) then (if w0_5 = (1:Int32) then w0_2 else ((15:Int32) &&& (w0_2 ^^^ (-1:Int32)))) else (15:Int32))) = w0_9) → ((own_In w0_5 (own_v1248 w0_5 w0_9 w0_2).length)) := by decide +kernel
theorem own_fin1269 : ∀ w0_2 ∈ own_L15, ∀ w0_5 ∈ own_L2, ∀ w0_9 ∈ own_L15, (w0_2 = (15:Int32) → w0_5 = (0:Int32)) → ((w0_9 &&& (if (if w0_2 = (15:Int32) then (1:Int32) else (0:Int32)) = (0:Int32) then (if w0_5 = (1:Int32) then w0_2 else ((15:Int32) &&& (w0_2 ^^^ (-1:Int32)))) else (15:Int32))) = w0_9) → ((f9 w0_5 (own_v1248 w0_5 w0_9 w0_2)) = (own_v1266 w0_9 w0_2 w0_5)) := by decide +kernel
theorem own_fin1271 : ∀ w0_2 ∈ own_L15, ∀ w0_5 ∈ own_L2, ∀ w0_9 ∈ own_L15, (w0_2 = (15:Int32) → w0_5 = (0:Int32)) → ((w0_9 &&& (if (if w0_2 = (15:Int32) then (1:Int32) else (0:Int32)) = (0:Int32) then (if w0_5 = (1:Int32) then w0_2 else ((15:Int32) &&& (w0_2 ^^^ (-1:Int32)))) else (15:Int32))) = w0_9) → ((own_In w0_5 (own_v1250 w0_5 w0_9 w0_2).length)) := by decide +kernel
theorem own_fin1273 : ∀ w0_2 ∈ own_L15, ∀ w0_5 ∈ own_L2, ∀ w0_9 ∈ own_L15, (w0_2 = (15:Int32) → w0_5 = (0:Int32)) → ((w0_9 &&& (if (if w0_2 = (15:Int32) then (1:Int32) else (0:Int32)) = (0:Int32) then (if w0_5 = (1:Int32) then w0_2 else ((15:Int32) &&& (w0_2 ^^^ (-1:Int32)))) else (15:Int32))) = w0_9) → ((f10 w0_5 (own_v1250 w0_5 w0_9 w0_2)) = (own_v1140 w0_2 w0_5)) := by decide +kernel
theorem own_fin1275 : ∀ w0_2 ∈ own_L15, ∀ w0_5 ∈ own_L2, ∀ w0_9 ∈ own_L15, (w0_2 = (15:Int32) → w0_5 = (0:Int32)) → ((w0_9 &&& (if (if w0_2 = (15:Int32) then (1:Int32) else (0:Int32)) = (0:Int32) then (if w0_5 = (1:Int32) then w0_2 else ((15:Int32) &&& (w0_2 ^^^ (-1:Int32)))) else (15:Int32))) = w0_9) → ((own_In w0_5 (own_v1252 w0_5 w0_9 w0_2).length)) := by decide +kernel
theorem own_fin1277 : ∀ w0_2 ∈ own_L15, ∀ w0_5 ∈ own_L2, ∀ w0_9 ∈ own_L15, (w0_2 = (15:Int32) → w0_5 = (0:Int32)) → ((w0_9 &&& (if (if w0_2 = (15:Int32) then (1:Int32) else (0:Int32)) = (0:Int32) then (if w0_5 = (1:Int32) then w0_2 else ((15:Int32) &&& (w0_2 ^^^ (-1:Int32)))) else (15:Int32))) = w0_9) → ((f11 w0_5 (own_v1252 w0_5 w0_9 w0_2)) = (own_v1266 w0_9 w0_2 w0_5)) := by decide +kernel
theorem own_fin1279 : ∀ w0_2 ∈ own_L15, ∀ w0_5 ∈ own_L2, ∀ w0_9 ∈ own_L15, (w0_2 = (15:Int32) → w0_5 = (0:Int32)) → ((w0_9 &&& (if (if w0_2 = (15:Int32) then (1:Int32) else (0:Int32)) = (0:Int32) then (if w0_5 = (1:Int32) then w0_2 else ((15:Int32) &&& (w0_2 ^^^ (-1:Int32)))) else (15:Int32))) = w0_9) → (((own_v1256 w0_9 w0_2 w0_5) = (0:Int32)) → (own_In (own_v1137 w0_2) (own_v1248 w0_5 w0_9 w0_2).length)) := by decide +kernel
theorem own_fin1281 : ∀ w0_2 ∈ own_L15, ∀ w0_5 ∈ own_L2, ∀ w0_9 ∈ own_L15, (w0_2 = (15:Int32) → w0_5 = (0:Int32)) → ((w0_9 &&& (if (if w0_2 = (15:Int32) then (1:Int32) else (0:Int32)) = (0:Int32) then (if w0_5 = (1:Int32) then w0_2 else ((15:Int32) &&& (w0_2 ^^^ (-1:Int32)))) else (15:Int32))) = w0_9) → (((own_v1256 w0_9 w0_2 w0_5) = (0:Int32)) → (f9 (own_v1137 w0_2) (own_v1248 w0_5 w0_9 w0_2)) = (own_v1139 w0_2 w0_5)) := by decide +kernel
theorem own_fin1283 : ∀ w0_2 ∈ own_L15, ∀ w0_5 ∈ own_L2, ∀ w0_9 ∈ own_L15, (w0_2 = (15:Int32) → w0_5 = (0:Int32)) → ((w0_9 &&& (if (if w0_2 = (15:Int32) then (1:Int32) else (0:Int32)) = (0:Int32) then (if w0_5 = (1:Int32) then w0_2 else ((15:Int32) &&& (w0_2 ^^^ (-1:Int32)))) else (15:Int32))) = w0_9) → (((own_v1256 w0_9 w0_2 w0_5) = (0:Int32)) → (own_In (own_v1137 w0_2) (own_v1250 w0_5 w0_9 w0_2).length)) := by decide +kernel
theorem own_fin1285 : ∀ w0_2 ∈ own_L15, ∀ w0_5 ∈ own_L2, ∀ w0_9 ∈ own_L15, (w0_2 = (15:Int32) → w0_5 = (0:Int32)) → ((w0_9 &&& (if (if w0_2 = (15:Int32) then (1:Int32) else (0:Int32)) = (0:Int32) then (if w0_5 = (1:Int32) then w0_2 else ((15:Int32) &&& (w0_2 ^^^ (-1:Int32)))) else (15:Int32))) = w0_9) → (((own_v1256 w0_9 w0_2 w0_5) = (0:Int32)) → (f10 (own_v1137 w0_2) (own_v1250 w0_5 w0_9 w0_2)) = ((own_v1139 w0_2 w0_5) + (f7 w0_9))) := by decide +kernel
theorem own_fin1287 : ∀ w0_2 ∈ own_L15, ∀ w0_5 ∈ own_L2, ∀ w0_9 ∈ own_L15, (w0_2 = (15:Int32) → w0_5 = (0:Int32)) → ((w0_9 &&& (if (if w0_2 = (15:Int32) then (1:Int32) else (0:Int32)) = (0:Int32) then (if w0_5 = (1:Int32) then w0_2 else ((15:Int32) &&& (w0_2 ^^^ (-1:Int32)))) else (15:Int32))) = w0_9) → (((own_v1256 w0_9 w0_2 w0_5) = (0:Int32)) → (own_In (own_v1137 w0_2) (own_v1252 w0_5 w0_9 w0_2).length)) := by decide +kernel
theorem own_fin1289 : ∀ w0_2 ∈ own_L15, ∀ w0_5 ∈ own_L2, ∀ w0_9 ∈ own_L15, (w0_2 = (15:Int32) → w0_5 = (0:Int32)) → ((w0_9 &&& (if (if w0_2 = (15:Int32) then (1:Int32) else (0:Int32)) = (0:Int32) then (if w0_5 = (1:Int32) then w0_2 else ((15:Int32) &&& (w0_2 ^^^ (-1:Int32)))) else (15:Int32))) = w0_9) → (((own_v1256 w0_9 w0_2 w0_5) = (0:Int32)) → (f11 (own_v1137 w0_2) (own_v1252 w0_5 w0_9 w0_2)) = (own_v1139 w0_2 w0_5)) := by decide +kernel
theorem own_fin1291 : ∀ w0_2 ∈ own_L15, ∀ w0_5 ∈ own_L2, ∀ w0_9 ∈ own_L15, (w0_2 = (15:Int32) → w0_5 = (0:Int32)) → ((w0_9 &&& (if (if w0_2 = (15:Int32) then (1:Int32) else (0:Int32)) = (0:Int32) then (if w0_5 = (1:Int32) then w0_2 else ((15:Int32) &&& (w0_2 ^^^ (-1:Int32)))) else (15:Int32))) = w0_9) → (((own_v1256 w0_9 w0_2 w0_5) = (0:Int32)) → (own_In (0:Int32) (own_v1246 w0_5 w0_9 w0_2).length)) := by decide +kernel
def own_v1293 (w0_5 : Int32) (w0_9 : Int32) (w0_2 : Int32) : Int32 := (f12 (0:Int32) (own_v1246 w0_5 w0_9 w0_2))
theorem own_pd5 : parseMethodDescriptor "(IIZIZI)I" = some ⟨[.int, .int, .boolean, .int, .boolean, .int], some .int⟩ := by decide +kernel
def own_v1295 (w0_2 : Int32) (w0_3 : Int32) (w0_9 : Int32) (w0_10 : Int32) (w0_4 : Int32) : Int32 := (f13 (0:Int32) w0_2 w0_3 w0_9 w0_10 w0_4)
theorem own_fin1296 : ∀ w0_2 ∈ own_L15, ∀ w0_5 ∈ own_L2, ∀ w0_9 ∈ own_L15, (w0_2 = (15:Int32) → w0_5 = (0:Int32)) → ((w0_9 &&& (if (if w0_2 = (15:Int32) then (1:Int32) else (0:Int32)) = (0:Int32) then (if w0_5 = (1:Int32) then w0_2 else ((15:Int32) &&& (w0_2 ^^^ (-1:Int32)))) else (15:Int32))) = w0_9) → (((own_v1256 w0_9 w0_2 w0_5) = (0:Int32)) → (own_v1293 w0_5 w0_9 w0_2) = (own_v1295 w0_2 (own_v1131 w0_2) w0_9 (own_v1256 w0_9 w0_2 w0_5) (own_v1137 w0_2))) := by decide +kernel
theorem own_fin1298 : ∀ w0_2 ∈ own_L15, ∀ w0_5 ∈ own_L2, ∀ w0_9 ∈ own_L15, (w0_2 = (15:Int32) → w0_5 = (0:Int32)) → ((w0_9 &&& (if (if w0_2 = (15:Int32) then (1:Int32) else (0:Int32)) = (0:Int32) then (if w0_5 = (1:Int32) then w0_2 else ((15:Int32) &&& (w0_2 ^^^ (-1:Int32)))) else (15:Int32))) = w0_9) → (((own_v1256 w0_9 w0_2 w0_5) = (0:Int32)) → (own_In (1:Int32) (own_v1246 w0_5 w0_9 w0_2).length)) := by decide +kernel
def own_v1300 (w0_5 : Int32) (w0_9 : Int32) (w0_2 : Int32) : Int32 := (f12 (1:Int32) (own_v1246 w0_5 w0_9 w0_2))
def own_v1302 (w0_2 : Int32) (w0_3 : Int32) (w0_9 : Int32) (w0_10 : Int32) (w0_4 : Int32) : Int32 := (f13 (1:Int32) w0_2 w0_3 w0_9 w0_10 w0_4)
theorem own_fin1303 : ∀ w0_2 ∈ own_L15, ∀ w0_5 ∈ own_L2, ∀ w0_9 ∈ own_L15, (w0_2 = (15:Int32) → w0_5 = (0:Int32)) → ((w0_9 &&& (if (if w0_2 = (15:Int32) then (1:Int32) else (0:Int32)) = (0:Int32) then (if w0_5 = (1:Int32) then w0_2 else ((15:Int32) &&& (w0_2 ^^^ (-1:Int32)))) else (15:Int32))) = w0_9) → (((own_v1256 w0_9 w0_2 w0_5) = (0:Int32)) → (own_v1300 w0_5 w0_9 w0_2) = (own_v1302 w0_2 (own_v1131 w0_2) w0_9 (own_v1256 w0_9 w0_2 w0_5) (own_v1137 w0_2))) := by decide +kernel
theorem own_fin1305 : ∀ w0_2 ∈ own_L15, ∀ w0_5 ∈ own_L2, ∀ w0_9 ∈ own_L15, (w0_2 = (15:Int32) → w0_5 = (0:Int32)) → ((w0_9 &&& (if (if w0_2 = (15:Int32) then (1:Int32) else (0:Int32)) = (0:Int32) then (if w0_5 = (1:Int32) then w0_2 else ((15:Int32) &&& (w0_2 ^^^ (-1:Int32)))) else (15:Int32))) = w0_9) → (((own_v1256 w0_9 w0_2 w0_5) = (0:Int32)) → (own_In (2:Int32) (own_v1246 w0_5 w0_9 w0_2).length)) := by decide +kernel
def own_v1307 (w0_5 : Int32) (w0_9 : Int32) (w0_2 : Int32) : Int32 := (f12 (2:Int32) (own_v1246 w0_5 w0_9 w0_2))
def own_v1309 (w0_2 : Int32) (w0_3 : Int32) (w0_9 : Int32) (w0_10 : Int32) (w0_4 : Int32) : Int32 := (f13 (2:Int32) w0_2 w0_3 w0_9 w0_10 w0_4)
theorem own_fin1310 : ∀ w0_2 ∈ own_L15, ∀ w0_5 ∈ own_L2, ∀ w0_9 ∈ own_L15, (w0_2 = (15:Int32) → w0_5 = (0:Int32)) → ((w0_9 &&& (if (if w0_2 = (15:Int32) then (1:Int32) else (0:Int32)) = (0:Int32) then (if w0_5 = (1:Int32) then w0_2 else ((15:Int32) &&& (w0_2 ^^^ (-1:Int32)))) else (15:Int32))) = w0_9) → (((own_v1256 w0_9 w0_2 w0_5) = (0:Int32)) → (own_v1307 w0_5 w0_9 w0_2) = (own_v1309 w0_2 (own_v1131 w0_2) w0_9 (own_v1256 w0_9 w0_2 w0_5) (own_v1137 w0_2))) := by decide +kernel
theorem own_fin1312 : ∀ w0_2 ∈ own_L15, ∀ w0_5 ∈ own_L2, ∀ w0_9 ∈ own_L15, (w0_2 = (15:Int32) → w0_5 = (0:Int32)) → ((w0_9 &&& (if (if w0_2 = (15:Int32) then (1:Int32) else (0:Int32)) = (0:Int32) then (if w0_5 = (1:Int32) then w0_2 else ((15:Int32) &&& (w0_2 ^^^ (-1:Int32)))) else (15:Int32))) = w0_9) → (((own_v1256 w0_9 w0_2 w0_5) = (0:Int32)) → (own_In (3:Int32) (own_v1246 w0_5 w0_9 w0_2).length)) := by decide +kernel
def own_v1314 (w0_5 : Int32) (w0_9 : Int32) (w0_2 : Int32) : Int32 := (f12 (3:Int32) (own_v1246 w0_5 w0_9 w0_2))
def own_v1316 (w0_2 : Int32) (w0_3 : Int32) (w0_9 : Int32) (w0_10 : Int32) (w0_4 : Int32) : Int32 := (f13 (3:Int32) w0_2 w0_3 w0_9 w0_10 w0_4)
theorem own_fin1317 : ∀ w0_2 ∈ own_L15, ∀ w0_5 ∈ own_L2, ∀ w0_9 ∈ own_L15, (w0_2 = (15:Int32) → w0_5 = (0:Int32)) → ((w0_9 &&& (if (if w0_2 = (15:Int32) then (1:Int32) else (0:Int32)) = (0:Int32) then (if w0_5 = (1:Int32) then w0_2 else ((15:Int32) &&& (w0_2 ^^^ (-1:Int32)))) else (15:Int32))) = w0_9) → (((own_v1256 w0_9 w0_2 w0_5) = (0:Int32)) → (own_v1314 w0_5 w0_9 w0_2) = (own_v1316 w0_2 (own_v1131 w0_2) w0_9 (own_v1256 w0_9 w0_2 w0_5) (own_v1137 w0_2))) := by decide +kernel
theorem own_fin1319 : ∀ w0_2 ∈ own_L15, ∀ w0_5 ∈ own_L2, ∀ w0_9 ∈ own_L15, (w0_2 = (15:Int32) → w0_5 = (0:Int32)) → ((w0_9 &&& (if (if w0_2 = (15:Int32) then (1:Int32) else (0:Int32)) = (0:Int32) then (if w0_5 = (1:Int32) then w0_2 else ((15:Int32) &&& (w0_2 ^^^ (-1:Int32)))) else (15:Int32))) = w0_9) → ((¬ ((own_v1256 w0_9 w0_2 w0_5) = (0:Int32))) → (own_In (0:Int32) (own_v1246 w0_5 w0_9 w0_2).length)) := by decide +kernel
theorem own_fin1322 : ∀ w0_2 ∈ own_L15, ∀ w0_5 ∈ own_L2, ∀ w0_9 ∈ own_L15, (w0_2 = (15:Int32) → w0_5 = (0:Int32)) → ((w0_9 &&& (if (if w0_2 = (15:Int32) then (1:Int32) else (0:Int32)) = (0:Int32) then (if w0_5 = (1:Int32) then w0_2 else ((15:Int32) &&& (w0_2 ^^^ (-1:Int32)))) else (15:Int32))) = w0_9) → ((¬ ((own_v1256 w0_9 w0_2 w0_5) = (0:Int32))) → (own_v1293 w0_5 w0_9 w0_2) = (own_v1295 w0_2 (own_v1131 w0_2) w0_9 (own_v1256 w0_9 w0_2 w0_5) (own_v1137 w0_2))) := by decide +kernel
theorem own_fin1324 : ∀ w0_2 ∈ own_L15, ∀ w0_5 ∈ own_L2, ∀ w0_9 ∈ own_L15, (w0_2 = (15:Int32) → w0_5 = (0:Int32)) → ((w0_9 &&& (if (if w0_2 = (15:Int32) then (1:Int32) else (0:Int32)) = (0:Int32) then (if w0_5 = (1:Int32) then w0_2 else ((15:Int32) &&& (w0_2 ^^^ (-1:Int32)))) else (15:Int32))) = w0_9) → ((¬ ((own_v1256 w0_9 w0_2 w0_5) = (0:Int32))) → (own_In (1:Int32) (own_v1246 w0_5 w0_9 w0_2).length)) := by decide +kernel
theorem own_fin1327 : ∀ w0_2 ∈ own_L15, ∀ w0_5 ∈ own_L2, ∀ w0_9 ∈ own_L15, (w0_2 = (15:Int32) → w0_5 = (0:Int32)) → ((w0_9 &&& (if (if w0_2 = (15:Int32) then (1:Int32) else (0:Int32)) = (0:Int32) then (if w0_5 = (1:Int32) then w0_2 else ((15:Int32) &&& (w0_2 ^^^ (-1:Int32)))) else (15:Int32))) = w0_9) → ((¬ ((own_v1256 w0_9 w0_2 w0_5) = (0:Int32))) → (own_v1300 w0_5 w0_9 w0_2) = (own_v1302 w0_2 (own_v1131 w0_2) w0_9 (own_v1256 w0_9 w0_2 w0_5) (own_v1137 w0_2))) := by decide +kernel
theorem own_fin1329 : ∀ w0_2 ∈ own_L15, ∀ w0_5 ∈ own_L2, ∀ w0_9 ∈ own_L15, (w0_2 = (15:Int32) → w0_5 = (0:Int32)) → ((w0_9 &&& (if (if w0_2 = (15:Int32) then (1:Int32) else (0:Int32)) = (0:Int32) then (if w0_5 = (1:Int32) then w0_2 else ((15:Int32) &&& (w0_2 ^^^ (-1:Int32)))) else (15:Int32))) = w0_9) → ((¬ ((own_v1256 w0_9 w0_2 w0_5) = (0:Int32))) → (own_In (2:Int32) (own_v1246 w0_5 w0_9 w0_2).length)) := by decide +kernel
theorem own_fin1332 : ∀ w0_2 ∈ own_L15, ∀ w0_5 ∈ own_L2, ∀ w0_9 ∈ own_L15, (w0_2 = (15:Int32) → w0_5 = (0:Int32)) → ((w0_9 &&& (if (if w0_2 = (15:Int32) then (1:Int32) else (0:Int32)) = (0:Int32) then (if w0_5 = (1:Int32) then w0_2 else ((15:Int32) &&& (w0_2 ^^^ (-1:Int32)))) else (15:Int32))) = w0_9) → ((¬ ((own_v1256 w0_9 w0_2 w0_5) = (0:Int32))) → (own_v1307 w0_5 w0_9 w0_2) = (own_v1309 w0_2 (own_v1131 w0_2) w0_9 (own_v1256 w0_9 w0_2 w0_5) (own_v1137 w0_2))) := by decide +kernel
theorem own_fin1334 : ∀ w0_2 ∈ own_L15, ∀ w0_5 ∈ own_L2, ∀ w0_9 ∈ own_L15, (w0_2 = (15:Int32) → w0_5 = (0:Int32)) → ((w0_9 &&& (if (if w0_2 = (15:Int32) then (1:Int32) else (0:Int32)) = (0:Int32) then (if w0_5 = (1:Int32) then w0_2 else ((15:Int32) &&& (w0_2 ^^^ (-1:Int32)))) else (15:Int32))) = w0_9) → ((¬ ((own_v1256 w0_9 w0_2 w0_5) = (0:Int32))) → (own_In (3:Int32) (own_v1246 w0_5 w0_9 w0_2).length)) := by decide +kernel
theorem own_fin1337 : ∀ w0_2 ∈ own_L15, ∀ w0_5 ∈ own_L2, ∀ w0_9 ∈ own_L15, (w0_2 = (15:Int32) → w0_5 = (0:Int32)) → ((w0_9 &&& (if (if w0_2 = (15:Int32) then (1:Int32) else (0:Int32)) = (0:Int32) then (if w0_5 = (1:Int32) then w0_2 else ((15:Int32) &&& (w0_2 ^^^ (-1:Int32)))) else (15:Int32))) = w0_9) → ((¬ ((own_v1256 w0_9 w0_2 w0_5) = (0:Int32))) → (own_v1314 w0_5 w0_9 w0_2) = (own_v1316 w0_2 (own_v1131 w0_2) w0_9 (own_v1256 w0_9 w0_2 w0_5) (own_v1137 w0_2))) := by decide +kernel
theorem ef0 (m : MethodId) (p0 : Int32) (p1 : Int32) : entryFrame m #[(.int p0), (.int p1)] maxLocals = mkF m 0 #[iv p0, iv p1, .unset, .unset, .unset, .unset, .unset, .unset, .unset, .unset, .unset, .unset, .unset, .unset, .unset, .unset, .unset, .unset, .unset, .unset, .unset, .unset] [] := by first | (simp [entryFrame, mkF, argsToLocals, Value.category, maxLocals]; done) | rfl
def Q0 (Z : State) (p0 : Int32) (p1 : Int32)  (h0 : Heap) (n0 : Nat) (v : Option Value) (h : Heap) (L : List Loc) : Prop := v = some (.int (1:Int32)) ∧ Fr n0 L
set_option maxRecDepth 65536 in
set_option maxHeartbeats 40000000 in
theorem rm0 (l : Launch) (Z : State) (aZ : Array Value) (hw : ∀ d ∈ tables_1, d.before aZ Z = true) (ws : List Jvm.Cond) (p0 : Int32) (p1 : Int32)  (h0 : Heap) (n0 : Nat) (Z0 : n0 ≤ h0.size)  :
    MetFree l x (head1 (Jvm.Cond.code x code maxLocals ret :: ws) room_1) (fun a U => a = #[(.int p0), (.int p1)] ∧ Z.Warmed39 U.vm ∧ U.heap = h0) (fun _ _ _ _ _ => True) (fun _ U o U' => ∃ v L, o = .returned v ∧ Q0 Z p0 p1 h0 n0 v U'.heap L ∧ FrameEnd U o U' L 8 64) := by
  refine MetFree.of_bodySF (plainFor_of_name own_pn1) hisR ?_
  intro p e s m args below meth c s₁ Bd hml0 hP hK
  obtain ⟨rfl, hZ, hh⟩ := hP
  have hx := Bd.exec
  have hby := Bd.bytes
  have hml : c.maxLocals = 22 := hml0
  have hown : s.vm.findClass "com/example/spare_calculus/sparecalculus/bisim/PartitionSplitOffMarkedPinLaw" = some m.cls := findClass_of_methodNamed Bd.named
  have hnm := (name_of_methodNamed Bd.named Bd.method).1
  have X0 : Stand p l e room_1 s m #[(.int p0), (.int p1)] below meth c s₁ [] 0 0 := Stand.of_body Bd
  have e0 : s₁.heap = h0 := by rw [← hh, Bd.state]; rfl
  have N0 := Fr.nil n0
  show own_Goes p e below s (Q0 Z p0 p1 h0 n0) 8 64 _
  refine own_pre (fun t k => castTop (ef0 m p0 p1) k) ?_
  obtain ⟨T935, h935, X935, e935, E935, A935, D935, -, st935⟩ := newO X0 hx hZ hown (own_h hw 0 rfl) (own_h hw 1 rfl) (own_h hw 2 rfl) e0 (g := (mkF m 0 #[iv p0, iv p1, .unset, .unset, .unset, .unset, .unset, .unset, .unset, .unset, .unset, .unset, .unset, .unset, .unset, .unset, .unset, .unset, .unset, .unset, .unset, .unset] [])) rfl (hb hby at_0) (by decide) (by decide)
  obtain ⟨b935, g935⟩ : ∃ z, z = h0.size := ⟨_, rfl⟩
  rw [← g935] at A935 D935 st935
  have ge_b935 : n0 ≤ b935 := Nat.le_trans Z0 (Nat.le_of_eq g935.symm)
  have Z936 : n0 ≤ h935.size := Nat.le_trans Z0 E935.1
  have F935_elements : Fld Z h935 b935 "com/example/spare_calculus/sparecalculus/bisim/Partition" "elements" "[I" .null := D935 (Or.inr (own_h hw 11 rfl)) (ty := (.array .int)) (by decide)
  have F935_positions : Fld Z h935 b935 "com/example/spare_calculus/sparecalculus/bisim/Partition" "positions" "[I" .null := D935 (Or.inr (own_h hw 13 rfl)) (ty := (.array .int)) (by decide)
  have F935_blockOf : Fld Z h935 b935 "com/example/spare_calculus/sparecalculus/bisim/Partition" "blockOf" "[I" .null := D935 (Or.inr (own_h hw 15 rfl)) (ty := (.array .int)) (by decide)
  have F935_blockStart : Fld Z h935 b935 "com/example/spare_calculus/sparecalculus/bisim/Partition" "blockStart" "[I" .null := D935 (Or.inr (own_h hw 17 rfl)) (ty := (.array .int)) (by decide)
  have F935_blockEnd : Fld Z h935 b935 "com/example/spare_calculus/sparecalculus/bisim/Partition" "blockEnd" "[I" .null := D935 (Or.inr (own_h hw 19 rfl)) (ty := (.array .int)) (by decide)
  have F935_blockMarkedEnd : Fld Z h935 b935 "com/example/spare_calculus/sparecalculus/bisim/Partition" "blockMarkedEnd" "[I" .null := D935 (Or.inr (own_h hw 21 rfl)) (ty := (.array .int)) (by decide)
  have F935_touchedBlocks : Fld Z h935 b935 "com/example/spare_calculus/sparecalculus/bisim/Partition" "touchedBlocks" "[I" .null := D935 (Or.inr (own_h hw 23 rfl)) (ty := (.array .int)) (by decide)
  have F935_blockCount : Fld Z h935 b935 "com/example/spare_calculus/sparecalculus/bisim/Partition" "blockCount" "I" (.int (0:Int32)) := D935 (Or.inl (own_h hw 25 rfl)) (ty := .int) (by decide)
  have F935_touchedBlockCount : Fld Z h935 b935 "com/example/spare_calculus/sparecalculus/bisim/Partition" "touchedBlockCount" "I" (.int (0:Int32)) := D935 (Or.inl (own_h hw 39 rfl)) (ty := .int) (by decide)
  refine own_pre st935 ?_
  refine own_pre (A := T935.setTop (mkF m 5 #[iv p0, iv p1, .unset, .unset, .unset, .unset, .unset, .unset, .unset, .unset, .unset, .unset, .unset, .unset, .unset, .unset, .unset, .unset, .unset, .unset, .unset, .unset] [(.int (4:Int32)), (.ref b935), (.ref b935)])) (fun t k => ?_) ?_
  · show Steps p.tables e below (T935.setTop (mkF m 3 #[iv p0, iv p1, .unset, .unset, .unset, .unset, .unset, .unset, .unset, .unset, .unset, .unset, .unset, .unset, .unset, .unset, .unset, .unset, .unset, .unset, .unset, .unset] [(.ref b935)])) _
    refine XS.dup X935.here hx rfl (hb hby at_3) rfl rfl ?_
    show Steps p.tables e below (T935.setTop (mkF m 4 #[iv p0, iv p1, .unset, .unset, .unset, .unset, .unset, .unset, .unset, .unset, .unset, .unset, .unset, .unset, .unset, .unset, .unset, .unset, .unset, .unset, .unset, .unset] [(.ref b935), (.ref b935)])) _
    refine XS.iconst X935.here hx rfl (hb hby at_4) ?_
    exact k
  obtain ⟨_, _, ⟨T937, L937, k937, n937⟩, -, X937, ⟨Lc937, hQ937, l937, y937, z937⟩, st937⟩ := X935.specialBack hx (y := (⟨"com/example/spare_calculus/sparecalculus/bisim/Partition", "<init>", "(I)V"⟩ : MethodName)) rfl hown (mvT hZ (own_h hw 3 rfl)) (mvT hZ (own_h hw 4 rfl)) (mvT hZ (own_h hw 5 rfl)) (by decide) (backOf (W := 1) (rm1n4 l Z aZ hw [] b935 h935 n0 Z936 A935 F935_elements F935_positions F935_blockOf F935_blockStart F935_blockEnd F935_blockMarkedEnd F935_touchedBlocks F935_blockCount F935_touchedBlockCount ge_b935) hZ (own_h hw 5 rfl) (own_h hw 2 rfl) (by decide) (by decide)) (g := (mkF m 5 #[iv p0, iv p1, .unset, .unset, .unset, .unset, .unset, .unset, .unset, .unset, .unset, .unset, .unset, .unset, .unset, .unset, .unset, .unset, .unset, .unset, .unset, .unset] [(.int (4:Int32)), (.ref b935), (.ref b935)])) rfl (by rw [hml]; rfl) (Steps.refl _) (a := b935) (argsL := [(.int (4:Int32))]) (rest := [(.ref b935)]) (lenOf own_pd1 rfl) rfl (by show 2 * 0 + _ ≤ _; exact Nat.le_of_eq rfl) (hb hby at_5) (fun _ _ => ⟨rfl, e935, (by decide : 1 + 7 ≤ _), (by decide : 9 + 28 ≤ _)⟩)
  dsimp only [Pt.U, Pt.locs, Pt.cells, Pt.slots] at X937 l937 y937 z937 st937 hQ937
  subst l937 y937 z937
  obtain ⟨rfl, N937q, K937, e1_938, e2_939, e3_940, e4_941, e5_942, e6_943, e7_944, sz945, sz946, sz947, sz948, sz949, sz950, sz951, ne952, ne953, ne954, ne955, ne956, ne957, ne958, ne959, ne960, ne961, ne962, ne963, ne964, ne965, ne966, ne967, ne968, ne969, ne970, ne971, ne972, G973, G974, G975, G976, G977, G978, G979, G980, G981, G982, G983, G984, G985, G986, G987, G988⟩ := hQ937
  have N937 := Fr.app N0 N937q
  have Z989 : n0 ≤ T937.heap.size := Nat.le_trans Z936 K937.1
  have G991 : own_Ints Z T937.heap e1_938 own_v990 := G982
  have G992 : own_Ints Z T937.heap e2_939 own_v990 := G983
  have G994 : own_Ints Z T937.heap e3_940 own_v993 := G984
  have G995 : own_Ints Z T937.heap e4_941 own_v993 := G985
  have G997 : own_Ints Z T937.heap e5_942 own_v996 := G986
  have G998 : own_Ints Z T937.heap e6_943 own_v993 := G987
  have G999 : own_Ints Z T937.heap e7_944 own_v993 := G988
  have ne1000 : b935 ≠ e1_938 := Nat.ne_of_lt (Nat.lt_of_lt_of_le A935.lt sz945)
  have ge1001 : n0 ≤ e1_938 := Nat.le_trans Z936 sz945
  have ne1002 : b935 ≠ e2_939 := Nat.ne_of_lt (Nat.lt_of_lt_of_le A935.lt sz946)
  have ge1003 : n0 ≤ e2_939 := Nat.le_trans Z936 sz946
  have ne1004 : b935 ≠ e3_940 := Nat.ne_of_lt (Nat.lt_of_lt_of_le A935.lt sz947)
  have ge1005 : n0 ≤ e3_940 := Nat.le_trans Z936 sz947
  have ne1006 : b935 ≠ e4_941 := Nat.ne_of_lt (Nat.lt_of_lt_of_le A935.lt sz948)
  have ge1007 : n0 ≤ e4_941 := Nat.le_trans Z936 sz948
  have ne1008 : b935 ≠ e5_942 := Nat.ne_of_lt (Nat.lt_of_lt_of_le A935.lt sz949)
  have ge1009 : n0 ≤ e5_942 := Nat.le_trans Z936 sz949
  have ne1010 : b935 ≠ e6_943 := Nat.ne_of_lt (Nat.lt_of_lt_of_le A935.lt sz950)
  have ge1011 : n0 ≤ e6_943 := Nat.le_trans Z936 sz950
  have ne1012 : b935 ≠ e7_944 := Nat.ne_of_lt (Nat.lt_of_lt_of_le A935.lt sz951)
  have ge1013 : n0 ≤ e7_944 := Nat.le_trans Z936 sz951
  refine own_pre (fun _ k => st937.trans k) ?_
  obtain ⟨w0_1, hw0_1⟩ : ∃ z : Int32, z = (p0 &&& (15:Int32)) := ⟨_, rfl⟩
  refine own_pre (A := T937.setTop (mkF m 15 #[iv p0, iv p1, rv b935, iv w0_1, .unset, .unset, .unset, .unset, .unset, .unset, .unset, .unset, .unset, .unset, .unset, .unset, .unset, .unset, .unset, .unset, .unset, .unset] [(.int w0_1)])) (fun t k => ?_) ?_
  · show Steps p.tables e below (T937.setTop (mkF m 8 #[iv p0, iv p1, .unset, .unset, .unset, .unset, .unset, .unset, .unset, .unset, .unset, .unset, .unset, .unset, .unset, .unset, .unset, .unset, .unset, .unset, .unset, .unset] [(.ref b935)])) _
    refine XS.astoreN X937.here hx rfl (hb hby at_8) rfl rfl (l' := #[iv p0, iv p1, rv b935, .unset, .unset, .unset, .unset, .unset, .unset, .unset, .unset, .unset, .unset, .unset, .unset, .unset, .unset, .unset, .unset, .unset, .unset, .unset]) rfl ?_
    show Steps p.tables e below (T937.setTop (mkF m 9 #[iv p0, iv p1, rv b935, .unset, .unset, .unset, .unset, .unset, .unset, .unset, .unset, .unset, .unset, .unset, .unset, .unset, .unset, .unset, .unset, .unset, .unset, .unset] [])) _
    refine XS.iloadN X937.here hx rfl (hb hby at_9) rfl ?_
    show Steps p.tables e below (T937.setTop (mkF m 10 #[iv p0, iv p1, rv b935, .unset, .unset, .unset, .unset, .unset, .unset, .unset, .unset, .unset, .unset, .unset, .unset, .unset, .unset, .unset, .unset, .unset, .unset, .unset] [(.int p0)])) _
    refine XS.bipush X937.here hx rfl (hb hby at_10) ?_
    show Steps p.tables e below (T937.setTop (mkF m 12 #[iv p0, iv p1, rv b935, .unset, .unset, .unset, .unset, .unset, .unset, .unset, .unset, .unset, .unset, .unset, .unset, .unset, .unset, .unset, .unset, .unset, .unset, .unset] [(.int (15:Int32)), (.int p0)])) _
    refine XS.iand X937.here hx rfl (hb hby at_12) rfl ?_
    show Steps p.tables e below (T937.setTop (mkF m 13 #[iv p0, iv p1, rv b935, .unset, .unset, .unset, .unset, .unset, .unset, .unset, .unset, .unset, .unset, .unset, .unset, .unset, .unset, .unset, .unset, .unset, .unset, .unset] [(.int (p0 &&& (15:Int32)))])) _
    refine XS.istoreN X937.here hx rfl (hb hby at_13) rfl (l' := #[iv p0, iv p1, rv b935, iv w0_1, .unset, .unset, .unset, .unset, .unset, .unset, .unset, .unset, .unset, .unset, .unset, .unset, .unset, .unset, .unset, .unset, .unset, .unset]) (by rw [hw0_1]; rfl) ?_
    show Steps p.tables e below (T937.setTop (mkF m 14 #[iv p0, iv p1, rv b935, iv w0_1, .unset, .unset, .unset, .unset, .unset, .unset, .unset, .unset, .unset, .unset, .unset, .unset, .unset, .unset, .unset, .unset, .unset, .unset] [])) _
    refine XS.iloadN X937.here hx rfl (hb hby at_14) rfl ?_
    exact k
  obtain ⟨w0_2, hw0_2⟩ : ∃ z : Int32, z = (if w0_1 = (0:Int32) then (15:Int32) else w0_1) := ⟨_, rfl⟩
  have hm1 : w0_2 ∈ own_L15 := own_m1 hw0_1 hw0_2
  refine own_pre (A := T937.setTop (mkF m 21 #[iv p0, iv p1, rv b935, iv w0_2, .unset, .unset, .unset, .unset, .unset, .unset, .unset, .unset, .unset, .unset, .unset, .unset, .unset, .unset, .unset, .unset, .unset, .unset] [])) (fun t k => ?_) ?_
  · show Steps p.tables e below (T937.setTop (mkF m 15 #[iv p0, iv p1, rv b935, iv w0_1, .unset, .unset, .unset, .unset, .unset, .unset, .unset, .unset, .unset, .unset, .unset, .unset, .unset, .unset, .unset, .unset, .unset, .unset] [(.int w0_1)])) _
    by_cases hm15_1 : w0_1 = (0:Int32)
    · refine XS.ifNo X937.here hx rfl (hb hby at_15) rfl (XT.i0_ne_f hm15_1) ?_
      show Steps p.tables e below (T937.setTop (mkF m 18 #[iv p0, iv p1, rv b935, iv w0_1, .unset, .unset, .unset, .unset, .unset, .unset, .unset, .unset, .unset, .unset, .unset, .unset, .unset, .unset, .unset, .unset, .unset, .unset] [])) _
      refine XS.bipush X937.here hx rfl (hb hby at_18) ?_
      show Steps p.tables e below (T937.setTop (mkF m 20 #[iv p0, iv p1, rv b935, iv w0_1, .unset, .unset, .unset, .unset, .unset, .unset, .unset, .unset, .unset, .unset, .unset, .unset, .unset, .unset, .unset, .unset, .unset, .unset] [(.int (15:Int32))])) _
      refine XS.istoreN X937.here hx rfl (hb hby at_20) rfl (l' := #[iv p0, iv p1, rv b935, iv (15:Int32), .unset, .unset, .unset, .unset, .unset, .unset, .unset, .unset, .unset, .unset, .unset, .unset, .unset, .unset, .unset, .unset, .unset, .unset]) rfl ?_
      rw [hw0_2.trans (if_pos hm15_1)] at k
      exact k
    · refine XS.ifYes X937.here hx rfl (pc0 := 15) (pc' := 21) rfl (hb hby at_15) rfl (XT.i0_ne_t hm15_1) (by decide) (by decide) ?_
      rw [hw0_2.trans (if_neg hm15_1)] at k
      exact k
  refine own_pre (A := T937.setTop (mkF m 23 #[iv p0, iv p1, rv b935, iv w0_2, .unset, .unset, .unset, .unset, .unset, .unset, .unset, .unset, .unset, .unset, .unset, .unset, .unset, .unset, .unset, .unset, .unset, .unset] [(.int w0_2), (.ref b935)])) (fun t k => ?_) ?_
  · show Steps p.tables e below (T937.setTop (mkF m 21 #[iv p0, iv p1, rv b935, iv w0_2, .unset, .unset, .unset, .unset, .unset, .unset, .unset, .unset, .unset, .unset, .unset, .unset, .unset, .unset, .unset, .unset, .unset, .unset] [])) _
    refine XS.aloadN X937.here hx rfl (hb hby at_21) rfl rfl ?_
    show Steps p.tables e below (T937.setTop (mkF m 22 #[iv p0, iv p1, rv b935, iv w0_2, .unset, .unset, .unset, .unset, .unset, .unset, .unset, .unset, .unset, .unset, .unset, .unset, .unset, .unset, .unset, .unset, .unset, .unset] [(.ref b935)])) _
    refine XS.iloadN X937.here hx rfl (hb hby at_22) rfl ?_
    exact k
  have F1015 := (A935.keep K937)
  have hf1017 : ((f4 w0_2 (0:Int32)) = (0:Int32)) → ((f4 w0_2 (1:Int32)) = (0:Int32)) → ((f4 w0_2 (2:Int32)) = (0:Int32)) → (¬ ((f4 w0_2 (3:Int32)) = (0:Int32))) → (own_In (3:Int32) own_v993.length) ∧ (own_In (own_at own_v993 (3:Int32)) own_v993.length) ∧ (own_In (3:Int32) own_v990.length) ∧ (¬ ((own_at own_v990 (3:Int32)) < (own_at own_v993 (own_at own_v993 (3:Int32)))) → own_In (own_at own_v993 (3:Int32)) own_v993.length) ∧ (¬ ((own_at own_v990 (3:Int32)) < (own_at own_v993 (own_at own_v993 (3:Int32)))) → own_In (own_at own_v993 (own_at own_v993 (3:Int32))) own_v990.length) ∧ (¬ ((own_at own_v990 (3:Int32)) < (own_at own_v993 (own_at own_v993 (3:Int32)))) → own_In (own_at own_v990 (3:Int32)) own_v990.length) ∧ (¬ ((own_at own_v990 (3:Int32)) < (own_at own_v993 (own_at own_v993 (3:Int32)))) → own_In (own_at own_v990 (own_at own_v993 (own_at own_v993 (3:Int32)))) own_v990.length) ∧ (¬ ((own_at own_v990 (3:Int32)) < (own_at own_v993 (own_at own_v993 (3:Int32)))) → (own_at own_v993 (own_at own_v993 (3:Int32))) = (own_at own_v993 (own_at own_v993 (3:Int32))) → own_In (0:Int32) own_v993.length) := by subst hw0_1; exact own_fin1016 w0_2 hm1
  have hf1019 : ((f4 w0_2 (0:Int32)) = (0:Int32)) → ((f4 w0_2 (1:Int32)) = (0:Int32)) → (¬ ((f4 w0_2 (2:Int32)) = (0:Int32))) → (own_In (2:Int32) own_v993.length) ∧ (own_In (own_at own_v993 (2:Int32)) own_v993.length) ∧ (own_In (2:Int32) own_v990.length) ∧ (¬ ((own_at own_v990 (2:Int32)) < (own_at own_v993 (own_at own_v993 (2:Int32)))) → own_In (own_at own_v993 (2:Int32)) own_v993.length) ∧ (¬ ((own_at own_v990 (2:Int32)) < (own_at own_v993 (own_at own_v993 (2:Int32)))) → own_In (own_at own_v993 (own_at own_v993 (2:Int32))) own_v990.length) ∧ (¬ ((own_at own_v990 (2:Int32)) < (own_at own_v993 (own_at own_v993 (2:Int32)))) → own_In (own_at own_v990 (2:Int32)) own_v990.length) ∧ (¬ ((own_at own_v990 (2:Int32)) < (own_at own_v993 (own_at own_v993 (2:Int32)))) → own_In (own_at own_v990 (own_at own_v993 (own_at own_v993 (2:Int32)))) own_v990.length) ∧ (¬ ((own_at own_v990 (2:Int32)) < (own_at own_v993 (own_at own_v993 (2:Int32)))) → (own_at own_v993 (own_at own_v993 (2:Int32))) = (own_at own_v993 (own_at own_v993 (2:Int32))) → own_In (0:Int32) own_v993.length) := by subst hw0_1; exact own_fin1018 w0_2 hm1
  have hf1021 : ((f4 w0_2 (0:Int32)) = (0:Int32)) → ((f4 w0_2 (1:Int32)) = (0:Int32)) → (¬ ((f4 w0_2 (2:Int32)) = (0:Int32))) → (¬ ((f4 w0_2 (3:Int32)) = (0:Int32))) → (own_In (3:Int32) own_v993.length) ∧ (own_In (own_at own_v993 (3:Int32)) (own_v300 own_v990 own_v990 own_v993 own_v993 own_v993 own_v993 (1:Int32) (0:Int32)).length) ∧ (own_In (3:Int32) (own_v298 own_v990 own_v990 own_v993 own_v993 own_v993 own_v993 (1:Int32) (0:Int32)).length) ∧ (¬ ((own_at (own_v298 own_v990 own_v990 own_v993 own_v993 own_v993 own_v993 (1:Int32) (0:Int32)) (3:Int32)) < (own_at (own_v300 own_v990 own_v990 own_v993 own_v993 own_v993 own_v993 (1:Int32) (0:Int32)) (own_at own_v993 (3:Int32)))) → own_In (own_at own_v993 (3:Int32)) own_v993.length) ∧ (¬ ((own_at (own_v298 own_v990 own_v990 own_v993 own_v993 own_v993 own_v993 (1:Int32) (0:Int32)) (3:Int32)) < (own_at (own_v300 own_v990 own_v990 own_v993 own_v993 own_v993 own_v993 (1:Int32) (0:Int32)) (own_at own_v993 (3:Int32)))) → own_In (own_at (own_v300 own_v990 own_v990 own_v993 own_v993 own_v993 own_v993 (1:Int32) (0:Int32)) (own_at own_v993 (3:Int32))) (own_v296 own_v990 own_v990 own_v993 own_v993 own_v993 own_v993 (1:Int32) (0:Int32)).length) ∧ (¬ ((own_at (own_v298 own_v990 own_v990 own_v993 own_v993 own_v993 own_v993 (1:Int32) (0:Int32)) (3:Int32)) < (own_at (own_v300 own_v990 own_v990 own_v993 own_v993 own_v993 own_v993 (1:Int32) (0:Int32)) (own_at own_v993 (3:Int32)))) → own_In (own_at (own_v298 own_v990 own_v990 own_v993 own_v993 own_v993 own_v993 (1:Int32) (0:Int32)) (3:Int32)) (own_v296 own_v990 own_v990 own_v993 own_v993 own_v993 own_v993 (1:Int32) (0:Int32)).length) ∧ (¬ ((own_at (own_v298 own_v990 own_v990 own_v993 own_v993 own_v993 own_v993 (1:Int32) (0:Int32)) (3:Int32)) < (own_at (own_v300 own_v990 own_v990 own_v993 own_v993 own_v993 own_v993 (1:Int32) (0:Int32)) (own_at own_v993 (3:Int32)))) → own_In (own_at (own_v296 own_v990 own_v990 own_v993 own_v993 own_v993 own_v993 (1:Int32) (0:Int32)) (own_at (own_v300 own_v990 own_v990 own_v993 own_v993 own_v993 own_v993 (1:Int32) (0:Int32)) (own_at own_v993 (3:Int32)))) (own_v298 own_v990 own_v990 own_v993 own_v993 own_v993 own_v993 (1:Int32) (0:Int32)).length) ∧ (¬ ((own_at (own_v298 own_v990 own_v990 own_v993 own_v993 own_v993 own_v993 (1:Int32) (0:Int32)) (3:Int32)) < (own_at (own_v300 own_v990 own_v990 own_v993 own_v993 own_v993 own_v993 (1:Int32) (0:Int32)) (own_at own_v993 (3:Int32)))) → (own_at (own_v300 own_v990 own_v990 own_v993 own_v993 own_v993 own_v993 (1:Int32) (0:Int32)) (own_at own_v993 (3:Int32))) = (own_at own_v993 (own_at own_v993 (3:Int32))) → own_In (own_v294 own_v990 own_v990 own_v993 own_v993 own_v993 own_v993 (1:Int32) (0:Int32)) (own_v302 own_v990 own_v990 own_v993 own_v993 own_v993 own_v993 (1:Int32) (0:Int32)).length) := by subst hw0_1; exact own_fin1020 w0_2 hm1
  have hf1023 : ((f4 w0_2 (0:Int32)) = (0:Int32)) → (¬ ((f4 w0_2 (1:Int32)) = (0:Int32))) → (own_In (1:Int32) own_v993.length) ∧ (own_In (own_at own_v993 (1:Int32)) own_v993.length) ∧ (own_In (1:Int32) own_v990.length) ∧ (¬ ((own_at own_v990 (1:Int32)) < (own_at own_v993 (own_at own_v993 (1:Int32)))) → own_In (own_at own_v993 (1:Int32)) own_v993.length) ∧ (¬ ((own_at own_v990 (1:Int32)) < (own_at own_v993 (own_at own_v993 (1:Int32)))) → own_In (own_at own_v993 (own_at own_v993 (1:Int32))) own_v990.length) ∧ (¬ ((own_at own_v990 (1:Int32)) < (own_at own_v993 (own_at own_v993 (1:Int32)))) → own_In (own_at own_v990 (1:Int32)) own_v990.length) ∧ (¬ ((own_at own_v990 (1:Int32)) < (own_at own_v993 (own_at own_v993 (1:Int32)))) → own_In (own_at own_v990 (own_at own_v993 (own_at own_v993 (1:Int32)))) own_v990.length) ∧ (¬ ((own_at own_v990 (1:Int32)) < (own_at own_v993 (own_at own_v993 (1:Int32)))) → (own_at own_v993 (own_at own_v993 (1:Int32))) = (own_at own_v993 (own_at own_v993 (1:Int32))) → own_In (0:Int32) own_v993.length) := by subst hw0_1; exact own_fin1022 w0_2 hm1
  have hf1025 : ((f4 w0_2 (0:Int32)) = (0:Int32)) → (¬ ((f4 w0_2 (1:Int32)) = (0:Int32))) → ((f4 w0_2 (2:Int32)) = (0:Int32)) → (¬ ((f4 w0_2 (3:Int32)) = (0:Int32))) → (own_In (3:Int32) own_v993.length) ∧ (own_In (own_at own_v993 (3:Int32)) (own_v356 own_v990 own_v990 own_v993 own_v993 own_v993 own_v993 (1:Int32) (0:Int32)).length) ∧ (own_In (3:Int32) (own_v354 own_v990 own_v990 own_v993 own_v993 own_v993 own_v993 (1:Int32) (0:Int32)).length) ∧ (¬ ((own_at (own_v354 own_v990 own_v990 own_v993 own_v993 own_v993 own_v993 (1:Int32) (0:Int32)) (3:Int32)) < (own_at (own_v356 own_v990 own_v990 own_v993 own_v993 own_v993 own_v993 (1:Int32) (0:Int32)) (own_at own_v993 (3:Int32)))) → own_In (own_at own_v993 (3:Int32)) own_v993.length) ∧ (¬ ((own_at (own_v354 own_v990 own_v990 own_v993 own_v993 own_v993 own_v993 (1:Int32) (0:Int32)) (3:Int32)) < (own_at (own_v356 own_v990 own_v990 own_v993 own_v993 own_v993 own_v993 (1:Int32) (0:Int32)) (own_at own_v993 (3:Int32)))) → own_In (own_at (own_v356 own_v990 own_v990 own_v993 own_v993 own_v993 own_v993 (1:Int32) (0:Int32)) (own_at own_v993 (3:Int32))) (own_v352 own_v990 own_v990 own_v993 own_v993 own_v993 own_v993 (1:Int32) (0:Int32)).length) ∧ (¬ ((own_at (own_v354 own_v990 own_v990 own_v993 own_v993 own_v993 own_v993 (1:Int32) (0:Int32)) (3:Int32)) < (own_at (own_v356 own_v990 own_v990 own_v993 own_v993 own_v993 own_v993 (1:Int32) (0:Int32)) (own_at own_v993 (3:Int32)))) → own_In (own_at (own_v354 own_v990 own_v990 own_v993 own_v993 own_v993 own_v993 (1:Int32) (0:Int32)) (3:Int32)) (own_v352 own_v990 own_v990 own_v993 own_v993 own_v993 own_v993 (1:Int32) (0:Int32)).length) ∧ (¬ ((own_at (own_v354 own_v990 own_v990 own_v993 own_v993 own_v993 own_v993 (1:Int32) (0:Int32)) (3:Int32)) < (own_at (own_v356 own_v990 own_v990 own_v993 own_v993 own_v993 own_v993 (1:Int32) (0:Int32)) (own_at own_v993 (3:Int32)))) → own_In (own_at (own_v352 own_v990 own_v990 own_v993 own_v993 own_v993 own_v993 (1:Int32) (0:Int32)) (own_at (own_v356 own_v990 own_v990 own_v993 own_v993 own_v993 own_v993 (1:Int32) (0:Int32)) (own_at own_v993 (3:Int32)))) (own_v354 own_v990 own_v990 own_v993 own_v993 own_v993 own_v993 (1:Int32) (0:Int32)).length) ∧ (¬ ((own_at (own_v354 own_v990 own_v990 own_v993 own_v993 own_v993 own_v993 (1:Int32) (0:Int32)) (3:Int32)) < (own_at (own_v356 own_v990 own_v990 own_v993 own_v993 own_v993 own_v993 (1:Int32) (0:Int32)) (own_at own_v993 (3:Int32)))) → (own_at (own_v356 own_v990 own_v990 own_v993 own_v993 own_v993 own_v993 (1:Int32) (0:Int32)) (own_at own_v993 (3:Int32))) = (own_at own_v993 (own_at own_v993 (3:Int32))) → own_In (own_v350 own_v990 own_v990 own_v993 own_v993 own_v993 own_v993 (1:Int32) (0:Int32)) (own_v358 own_v990 own_v990 own_v993 own_v993 own_v993 own_v993 (1:Int32) (0:Int32)).length) := by subst hw0_1; exact own_fin1024 w0_2 hm1
  have hf1027 : ((f4 w0_2 (0:Int32)) = (0:Int32)) → (¬ ((f4 w0_2 (1:Int32)) = (0:Int32))) → (¬ ((f4 w0_2 (2:Int32)) = (0:Int32))) → (own_In (2:Int32) own_v993.length) ∧ (own_In (own_at own_v993 (2:Int32)) (own_v356 own_v990 own_v990 own_v993 own_v993 own_v993 own_v993 (1:Int32) (0:Int32)).length) ∧ (own_In (2:Int32) (own_v354 own_v990 own_v990 own_v993 own_v993 own_v993 own_v993 (1:Int32) (0:Int32)).length) ∧ (¬ ((own_at (own_v354 own_v990 own_v990 own_v993 own_v993 own_v993 own_v993 (1:Int32) (0:Int32)) (2:Int32)) < (own_at (own_v356 own_v990 own_v990 own_v993 own_v993 own_v993 own_v993 (1:Int32) (0:Int32)) (own_at own_v993 (2:Int32)))) → own_In (own_at own_v993 (2:Int32)) own_v993.length) ∧ (¬ ((own_at (own_v354 own_v990 own_v990 own_v993 own_v993 own_v993 own_v993 (1:Int32) (0:Int32)) (2:Int32)) < (own_at (own_v356 own_v990 own_v990 own_v993 own_v993 own_v993 own_v993 (1:Int32) (0:Int32)) (own_at own_v993 (2:Int32)))) → own_In (own_at (own_v356 own_v990 own_v990 own_v993 own_v993 own_v993 own_v993 (1:Int32) (0:Int32)) (own_at own_v993 (2:Int32))) (own_v352 own_v990 own_v990 own_v993 own_v993 own_v993 own_v993 (1:Int32) (0:Int32)).length) ∧ (¬ ((own_at (own_v354 own_v990 own_v990 own_v993 own_v993 own_v993 own_v993 (1:Int32) (0:Int32)) (2:Int32)) < (own_at (own_v356 own_v990 own_v990 own_v993 own_v993 own_v993 own_v993 (1:Int32) (0:Int32)) (own_at own_v993 (2:Int32)))) → own_In (own_at (own_v354 own_v990 own_v990 own_v993 own_v993 own_v993 own_v993 (1:Int32) (0:Int32)) (2:Int32)) (own_v352 own_v990 own_v990 own_v993 own_v993 own_v993 own_v993 (1:Int32) (0:Int32)).length) ∧ (¬ ((own_at (own_v354 own_v990 own_v990 own_v993 own_v993 own_v993 own_v993 (1:Int32) (0:Int32)) (2:Int32)) < (own_at (own_v356 own_v990 own_v990 own_v993 own_v993 own_v993 own_v993 (1:Int32) (0:Int32)) (own_at own_v993 (2:Int32)))) → own_In (own_at (own_v352 own_v990 own_v990 own_v993 own_v993 own_v993 own_v993 (1:Int32) (0:Int32)) (own_at (own_v356 own_v990 own_v990 own_v993 own_v993 own_v993 own_v993 (1:Int32) (0:Int32)) (own_at own_v993 (2:Int32)))) (own_v354 own_v990 own_v990 own_v993 own_v993 own_v993 own_v993 (1:Int32) (0:Int32)).length) ∧ (¬ ((own_at (own_v354 own_v990 own_v990 own_v993 own_v993 own_v993 own_v993 (1:Int32) (0:Int32)) (2:Int32)) < (own_at (own_v356 own_v990 own_v990 own_v993 own_v993 own_v993 own_v993 (1:Int32) (0:Int32)) (own_at own_v993 (2:Int32)))) → (own_at (own_v356 own_v990 own_v990 own_v993 own_v993 own_v993 own_v993 (1:Int32) (0:Int32)) (own_at own_v993 (2:Int32))) = (own_at own_v993 (own_at own_v993 (2:Int32))) → own_In (own_v350 own_v990 own_v990 own_v993 own_v993 own_v993 own_v993 (1:Int32) (0:Int32)) (own_v358 own_v990 own_v990 own_v993 own_v993 own_v993 own_v993 (1:Int32) (0:Int32)).length) := by subst hw0_1; exact own_fin1026 w0_2 hm1
  have hf1029 : ((f4 w0_2 (0:Int32)) = (0:Int32)) → (¬ ((f4 w0_2 (1:Int32)) = (0:Int32))) → (¬ ((f4 w0_2 (2:Int32)) = (0:Int32))) → (¬ ((f4 w0_2 (3:Int32)) = (0:Int32))) → (own_In (3:Int32) own_v993.length) ∧ (own_In (own_at own_v993 (3:Int32)) (own_v416 own_v990 own_v990 own_v993 own_v993 own_v993 own_v993 (1:Int32) (0:Int32)).length) ∧ (own_In (3:Int32) (own_v414 own_v990 own_v990 own_v993 own_v993 own_v993 own_v993 (1:Int32) (0:Int32)).length) ∧ (¬ ((own_at (own_v414 own_v990 own_v990 own_v993 own_v993 own_v993 own_v993 (1:Int32) (0:Int32)) (3:Int32)) < (own_at (own_v416 own_v990 own_v990 own_v993 own_v993 own_v993 own_v993 (1:Int32) (0:Int32)) (own_at own_v993 (3:Int32)))) → own_In (own_at own_v993 (3:Int32)) own_v993.length) ∧ (¬ ((own_at (own_v414 own_v990 own_v990 own_v993 own_v993 own_v993 own_v993 (1:Int32) (0:Int32)) (3:Int32)) < (own_at (own_v416 own_v990 own_v990 own_v993 own_v993 own_v993 own_v993 (1:Int32) (0:Int32)) (own_at own_v993 (3:Int32)))) → own_In (own_at (own_v416 own_v990 own_v990 own_v993 own_v993 own_v993 own_v993 (1:Int32) (0:Int32)) (own_at own_v993 (3:Int32))) (own_v412 own_v990 own_v990 own_v993 own_v993 own_v993 own_v993 (1:Int32) (0:Int32)).length) ∧ (¬ ((own_at (own_v414 own_v990 own_v990 own_v993 own_v993 own_v993 own_v993 (1:Int32) (0:Int32)) (3:Int32)) < (own_at (own_v416 own_v990 own_v990 own_v993 own_v993 own_v993 own_v993 (1:Int32) (0:Int32)) (own_at own_v993 (3:Int32)))) → own_In (own_at (own_v414 own_v990 own_v990 own_v993 own_v993 own_v993 own_v993 (1:Int32) (0:Int32)) (3:Int32)) (own_v412 own_v990 own_v990 own_v993 own_v993 own_v993 own_v993 (1:Int32) (0:Int32)).length) ∧ (¬ ((own_at (own_v414 own_v990 own_v990 own_v993 own_v993 own_v993 own_v993 (1:Int32) (0:Int32)) (3:Int32)) < (own_at (own_v416 own_v990 own_v990 own_v993 own_v993 own_v993 own_v993 (1:Int32) (0:Int32)) (own_at own_v993 (3:Int32)))) → own_In (own_at (own_v412 own_v990 own_v990 own_v993 own_v993 own_v993 own_v993 (1:Int32) (0:Int32)) (own_at (own_v416 own_v990 own_v990 own_v993 own_v993 own_v993 own_v993 (1:Int32) (0:Int32)) (own_at own_v993 (3:Int32)))) (own_v414 own_v990 own_v990 own_v993 own_v993 own_v993 own_v993 (1:Int32) (0:Int32)).length) ∧ (¬ ((own_at (own_v414 own_v990 own_v990 own_v993 own_v993 own_v993 own_v993 (1:Int32) (0:Int32)) (3:Int32)) < (own_at (own_v416 own_v990 own_v990 own_v993 own_v993 own_v993 own_v993 (1:Int32) (0:Int32)) (own_at own_v993 (3:Int32)))) → (own_at (own_v416 own_v990 own_v990 own_v993 own_v993 own_v993 own_v993 (1:Int32) (0:Int32)) (own_at own_v993 (3:Int32))) = (own_at own_v993 (own_at own_v993 (3:Int32))) → own_In (own_v410 own_v990 own_v990 own_v993 own_v993 own_v993 own_v993 (1:Int32) (0:Int32)) (own_v418 own_v990 own_v990 own_v993 own_v993 own_v993 own_v993 (1:Int32) (0:Int32)).length) := by subst hw0_1; exact own_fin1028 w0_2 hm1
  have hf1031 : (¬ ((f4 w0_2 (0:Int32)) = (0:Int32))) → (own_In (0:Int32) own_v993.length) ∧ (own_In (own_at own_v993 (0:Int32)) own_v993.length) ∧ (own_In (0:Int32) own_v990.length) ∧ (¬ ((own_at own_v990 (0:Int32)) < (own_at own_v993 (own_at own_v993 (0:Int32)))) → own_In (own_at own_v993 (0:Int32)) own_v993.length) ∧ (¬ ((own_at own_v990 (0:Int32)) < (own_at own_v993 (own_at own_v993 (0:Int32)))) → own_In (own_at own_v993 (own_at own_v993 (0:Int32))) own_v990.length) ∧ (¬ ((own_at own_v990 (0:Int32)) < (own_at own_v993 (own_at own_v993 (0:Int32)))) → own_In (own_at own_v990 (0:Int32)) own_v990.length) ∧ (¬ ((own_at own_v990 (0:Int32)) < (own_at own_v993 (own_at own_v993 (0:Int32)))) → own_In (own_at own_v990 (own_at own_v993 (own_at own_v993 (0:Int32)))) own_v990.length) ∧ (¬ ((own_at own_v990 (0:Int32)) < (own_at own_v993 (own_at own_v993 (0:Int32)))) → (own_at own_v993 (own_at own_v993 (0:Int32))) = (own_at own_v993 (own_at own_v993 (0:Int32))) → own_In (0:Int32) own_v993.length) := by subst hw0_1; exact own_fin1030 w0_2 hm1
  have hf1033 : (¬ ((f4 w0_2 (0:Int32)) = (0:Int32))) → ((f4 w0_2 (1:Int32)) = (0:Int32)) → ((f4 w0_2 (2:Int32)) = (0:Int32)) → (¬ ((f4 w0_2 (3:Int32)) = (0:Int32))) → (own_In (3:Int32) own_v993.length) ∧ (own_In (own_at own_v993 (3:Int32)) (own_v472 own_v990 own_v990 own_v993 own_v993 own_v993 own_v993 (1:Int32) (0:Int32)).length) ∧ (own_In (3:Int32) (own_v470 own_v990 own_v990 own_v993 own_v993 own_v993 own_v993 (1:Int32) (0:Int32)).length) ∧ (¬ ((own_at (own_v470 own_v990 own_v990 own_v993 own_v993 own_v993 own_v993 (1:Int32) (0:Int32)) (3:Int32)) < (own_at (own_v472 own_v990 own_v990 own_v993 own_v993 own_v993 own_v993 (1:Int32) (0:Int32)) (own_at own_v993 (3:Int32)))) → own_In (own_at own_v993 (3:Int32)) own_v993.length) ∧ (¬ ((own_at (own_v470 own_v990 own_v990 own_v993 own_v993 own_v993 own_v993 (1:Int32) (0:Int32)) (3:Int32)) < (own_at (own_v472 own_v990 own_v990 own_v993 own_v993 own_v993 own_v993 (1:Int32) (0:Int32)) (own_at own_v993 (3:Int32)))) → own_In (own_at (own_v472 own_v990 own_v990 own_v993 own_v993 own_v993 own_v993 (1:Int32) (0:Int32)) (own_at own_v993 (3:Int32))) (own_v468 own_v990 own_v990 own_v993 own_v993 own_v993 own_v993 (1:Int32) (0:Int32)).length) ∧ (¬ ((own_at (own_v470 own_v990 own_v990 own_v993 own_v993 own_v993 own_v993 (1:Int32) (0:Int32)) (3:Int32)) < (own_at (own_v472 own_v990 own_v990 own_v993 own_v993 own_v993 own_v993 (1:Int32) (0:Int32)) (own_at own_v993 (3:Int32)))) → own_In (own_at (own_v470 own_v990 own_v990 own_v993 own_v993 own_v993 own_v993 (1:Int32) (0:Int32)) (3:Int32)) (own_v468 own_v990 own_v990 own_v993 own_v993 own_v993 own_v993 (1:Int32) (0:Int32)).length) ∧ (¬ ((own_at (own_v470 own_v990 own_v990 own_v993 own_v993 own_v993 own_v993 (1:Int32) (0:Int32)) (3:Int32)) < (own_at (own_v472 own_v990 own_v990 own_v993 own_v993 own_v993 own_v993 (1:Int32) (0:Int32)) (own_at own_v993 (3:Int32)))) → own_In (own_at (own_v468 own_v990 own_v990 own_v993 own_v993 own_v993 own_v993 (1:Int32) (0:Int32)) (own_at (own_v472 own_v990 own_v990 own_v993 own_v993 own_v993 own_v993 (1:Int32) (0:Int32)) (own_at own_v993 (3:Int32)))) (own_v470 own_v990 own_v990 own_v993 own_v993 own_v993 own_v993 (1:Int32) (0:Int32)).length) ∧ (¬ ((own_at (own_v470 own_v990 own_v990 own_v993 own_v993 own_v993 own_v993 (1:Int32) (0:Int32)) (3:Int32)) < (own_at (own_v472 own_v990 own_v990 own_v993 own_v993 own_v993 own_v993 (1:Int32) (0:Int32)) (own_at own_v993 (3:Int32)))) → (own_at (own_v472 own_v990 own_v990 own_v993 own_v993 own_v993 own_v993 (1:Int32) (0:Int32)) (own_at own_v993 (3:Int32))) = (own_at own_v993 (own_at own_v993 (3:Int32))) → own_In (own_v466 own_v990 own_v990 own_v993 own_v993 own_v993 own_v993 (1:Int32) (0:Int32)) (own_v474 own_v990 own_v990 own_v993 own_v993 own_v993 own_v993 (1:Int32) (0:Int32)).length) := by subst hw0_1; exact own_fin1032 w0_2 hm1
  have hf1035 : (¬ ((f4 w0_2 (0:Int32)) = (0:Int32))) → ((f4 w0_2 (1:Int32)) = (0:Int32)) → (¬ ((f4 w0_2 (2:Int32)) = (0:Int32))) → (own_In (2:Int32) own_v993.length) ∧ (own_In (own_at own_v993 (2:Int32)) (own_v472 own_v990 own_v990 own_v993 own_v993 own_v993 own_v993 (1:Int32) (0:Int32)).length) ∧ (own_In (2:Int32) (own_v470 own_v990 own_v990 own_v993 own_v993 own_v993 own_v993 (1:Int32) (0:Int32)).length) ∧ (¬ ((own_at (own_v470 own_v990 own_v990 own_v993 own_v993 own_v993 own_v993 (1:Int32) (0:Int32)) (2:Int32)) < (own_at (own_v472 own_v990 own_v990 own_v993 own_v993 own_v993 own_v993 (1:Int32) (0:Int32)) (own_at own_v993 (2:Int32)))) → own_In (own_at own_v993 (2:Int32)) own_v993.length) ∧ (¬ ((own_at (own_v470 own_v990 own_v990 own_v993 own_v993 own_v993 own_v993 (1:Int32) (0:Int32)) (2:Int32)) < (own_at (own_v472 own_v990 own_v990 own_v993 own_v993 own_v993 own_v993 (1:Int32) (0:Int32)) (own_at own_v993 (2:Int32)))) → own_In (own_at (own_v472 own_v990 own_v990 own_v993 own_v993 own_v993 own_v993 (1:Int32) (0:Int32)) (own_at own_v993 (2:Int32))) (own_v468 own_v990 own_v990 own_v993 own_v993 own_v993 own_v993 (1:Int32) (0:Int32)).length) ∧ (¬ ((own_at (own_v470 own_v990 own_v990 own_v993 own_v993 own_v993 own_v993 (1:Int32) (0:Int32)) (2:Int32)) < (own_at (own_v472 own_v990 own_v990 own_v993 own_v993 own_v993 own_v993 (1:Int32) (0:Int32)) (own_at own_v993 (2:Int32)))) → own_In (own_at (own_v470 own_v990 own_v990 own_v993 own_v993 own_v993 own_v993 (1:Int32) (0:Int32)) (2:Int32)) (own_v468 own_v990 own_v990 own_v993 own_v993 own_v993 own_v993 (1:Int32) (0:Int32)).length) ∧ (¬ ((own_at (own_v470 own_v990 own_v990 own_v993 own_v993 own_v993 own_v993 (1:Int32) (0:Int32)) (2:Int32)) < (own_at (own_v472 own_v990 own_v990 own_v993 own_v993 own_v993 own_v993 (1:Int32) (0:Int32)) (own_at own_v993 (2:Int32)))) → own_In (own_at (own_v468 own_v990 own_v990 own_v993 own_v993 own_v993 own_v993 (1:Int32) (0:Int32)) (own_at (own_v472 own_v990 own_v990 own_v993 own_v993 own_v993 own_v993 (1:Int32) (0:Int32)) (own_at own_v993 (2:Int32)))) (own_v470 own_v990 own_v990 own_v993 own_v993 own_v993 own_v993 (1:Int32) (0:Int32)).length) ∧ (¬ ((own_at (own_v470 own_v990 own_v990 own_v993 own_v993 own_v993 own_v993 (1:Int32) (0:Int32)) (2:Int32)) < (own_at (own_v472 own_v990 own_v990 own_v993 own_v993 own_v993 own_v993 (1:Int32) (0:Int32)) (own_at own_v993 (2:Int32)))) → (own_at (own_v472 own_v990 own_v990 own_v993 own_v993 own_v993 own_v993 (1:Int32) (0:Int32)) (own_at own_v993 (2:Int32))) = (own_at own_v993 (own_at own_v993 (2:Int32))) → own_In (own_v466 own_v990 own_v990 own_v993 own_v993 own_v993 own_v993 (1:Int32) (0:Int32)) (own_v474 own_v990 own_v990 own_v993 own_v993 own_v993 own_v993 (1:Int32) (0:Int32)).length) := by subst hw0_1; exact own_fin1034 w0_2 hm1
  have hf1037 : (¬ ((f4 w0_2 (0:Int32)) = (0:Int32))) → ((f4 w0_2 (1:Int32)) = (0:Int32)) → (¬ ((f4 w0_2 (2:Int32)) = (0:Int32))) → (¬ ((f4 w0_2 (3:Int32)) = (0:Int32))) → (own_In (3:Int32) own_v993.length) ∧ (own_In (own_at own_v993 (3:Int32)) (own_v533 own_v990 own_v990 own_v993 own_v993 own_v993 own_v993 (1:Int32) (0:Int32)).length) ∧ (own_In (3:Int32) (own_v531 own_v990 own_v990 own_v993 own_v993 own_v993 own_v993 (1:Int32) (0:Int32)).length) ∧ (¬ ((own_at (own_v531 own_v990 own_v990 own_v993 own_v993 own_v993 own_v993 (1:Int32) (0:Int32)) (3:Int32)) < (own_at (own_v533 own_v990 own_v990 own_v993 own_v993 own_v993 own_v993 (1:Int32) (0:Int32)) (own_at own_v993 (3:Int32)))) → own_In (own_at own_v993 (3:Int32)) own_v993.length) ∧ (¬ ((own_at (own_v531 own_v990 own_v990 own_v993 own_v993 own_v993 own_v993 (1:Int32) (0:Int32)) (3:Int32)) < (own_at (own_v533 own_v990 own_v990 own_v993 own_v993 own_v993 own_v993 (1:Int32) (0:Int32)) (own_at own_v993 (3:Int32)))) → own_In (own_at (own_v533 own_v990 own_v990 own_v993 own_v993 own_v993 own_v993 (1:Int32) (0:Int32)) (own_at own_v993 (3:Int32))) (own_v529 own_v990 own_v990 own_v993 own_v993 own_v993 own_v993 (1:Int32) (0:Int32)).length) ∧ (¬ ((own_at (own_v531 own_v990 own_v990 own_v993 own_v993 own_v993 own_v993 (1:Int32) (0:Int32)) (3:Int32)) < (own_at (own_v533 own_v990 own_v990 own_v993 own_v993 own_v993 own_v993 (1:Int32) (0:Int32)) (own_at own_v993 (3:Int32)))) → own_In (own_at (own_v531 own_v990 own_v990 own_v993 own_v993 own_v993 own_v993 (1:Int32) (0:Int32)) (3:Int32)) (own_v529 own_v990 own_v990 own_v993 own_v993 own_v993 own_v993 (1:Int32) (0:Int32)).length) ∧ (¬ ((own_at (own_v531 own_v990 own_v990 own_v993 own_v993 own_v993 own_v993 (1:Int32) (0:Int32)) (3:Int32)) < (own_at (own_v533 own_v990 own_v990 own_v993 own_v993 own_v993 own_v993 (1:Int32) (0:Int32)) (own_at own_v993 (3:Int32)))) → own_In (own_at (own_v529 own_v990 own_v990 own_v993 own_v993 own_v993 own_v993 (1:Int32) (0:Int32)) (own_at (own_v533 own_v990 own_v990 own_v993 own_v993 own_v993 own_v993 (1:Int32) (0:Int32)) (own_at own_v993 (3:Int32)))) (own_v531 own_v990 own_v990 own_v993 own_v993 own_v993 own_v993 (1:Int32) (0:Int32)).length) ∧ (¬ ((own_at (own_v531 own_v990 own_v990 own_v993 own_v993 own_v993 own_v993 (1:Int32) (0:Int32)) (3:Int32)) < (own_at (own_v533 own_v990 own_v990 own_v993 own_v993 own_v993 own_v993 (1:Int32) (0:Int32)) (own_at own_v993 (3:Int32)))) → (own_at (own_v533 own_v990 own_v990 own_v993 own_v993 own_v993 own_v993 (1:Int32) (0:Int32)) (own_at own_v993 (3:Int32))) = (own_at own_v993 (own_at own_v993 (3:Int32))) → own_In (own_v527 own_v990 own_v990 own_v993 own_v993 own_v993 own_v993 (1:Int32) (0:Int32)) (own_v535 own_v990 own_v990 own_v993 own_v993 own_v993 own_v993 (1:Int32) (0:Int32)).length) := by subst hw0_1; exact own_fin1036 w0_2 hm1
  have hf1039 : (¬ ((f4 w0_2 (0:Int32)) = (0:Int32))) → (¬ ((f4 w0_2 (1:Int32)) = (0:Int32))) → (own_In (1:Int32) own_v993.length) ∧ (own_In (own_at own_v993 (1:Int32)) (own_v472 own_v990 own_v990 own_v993 own_v993 own_v993 own_v993 (1:Int32) (0:Int32)).length) ∧ (own_In (1:Int32) (own_v470 own_v990 own_v990 own_v993 own_v993 own_v993 own_v993 (1:Int32) (0:Int32)).length) ∧ (¬ ((own_at (own_v470 own_v990 own_v990 own_v993 own_v993 own_v993 own_v993 (1:Int32) (0:Int32)) (1:Int32)) < (own_at (own_v472 own_v990 own_v990 own_v993 own_v993 own_v993 own_v993 (1:Int32) (0:Int32)) (own_at own_v993 (1:Int32)))) → own_In (own_at own_v993 (1:Int32)) own_v993.length) ∧ (¬ ((own_at (own_v470 own_v990 own_v990 own_v993 own_v993 own_v993 own_v993 (1:Int32) (0:Int32)) (1:Int32)) < (own_at (own_v472 own_v990 own_v990 own_v993 own_v993 own_v993 own_v993 (1:Int32) (0:Int32)) (own_at own_v993 (1:Int32)))) → own_In (own_at (own_v472 own_v990 own_v990 own_v993 own_v993 own_v993 own_v993 (1:Int32) (0:Int32)) (own_at own_v993 (1:Int32))) (own_v468 own_v990 own_v990 own_v993 own_v993 own_v993 own_v993 (1:Int32) (0:Int32)).length) ∧ (¬ ((own_at (own_v470 own_v990 own_v990 own_v993 own_v993 own_v993 own_v993 (1:Int32) (0:Int32)) (1:Int32)) < (own_at (own_v472 own_v990 own_v990 own_v993 own_v993 own_v993 own_v993 (1:Int32) (0:Int32)) (own_at own_v993 (1:Int32)))) → own_In (own_at (own_v470 own_v990 own_v990 own_v993 own_v993 own_v993 own_v993 (1:Int32) (0:Int32)) (1:Int32)) (own_v468 own_v990 own_v990 own_v993 own_v993 own_v993 own_v993 (1:Int32) (0:Int32)).length) ∧ (¬ ((own_at (own_v470 own_v990 own_v990 own_v993 own_v993 own_v993 own_v993 (1:Int32) (0:Int32)) (1:Int32)) < (own_at (own_v472 own_v990 own_v990 own_v993 own_v993 own_v993 own_v993 (1:Int32) (0:Int32)) (own_at own_v993 (1:Int32)))) → own_In (own_at (own_v468 own_v990 own_v990 own_v993 own_v993 own_v993 own_v993 (1:Int32) (0:Int32)) (own_at (own_v472 own_v990 own_v990 own_v993 own_v993 own_v993 own_v993 (1:Int32) (0:Int32)) (own_at own_v993 (1:Int32)))) (own_v470 own_v990 own_v990 own_v993 own_v993 own_v993 own_v993 (1:Int32) (0:Int32)).length) ∧ (¬ ((own_at (own_v470 own_v990 own_v990 own_v993 own_v993 own_v993 own_v993 (1:Int32) (0:Int32)) (1:Int32)) < (own_at (own_v472 own_v990 own_v990 own_v993 own_v993 own_v993 own_v993 (1:Int32) (0:Int32)) (own_at own_v993 (1:Int32)))) → (own_at (own_v472 own_v990 own_v990 own_v993 own_v993 own_v993 own_v993 (1:Int32) (0:Int32)) (own_at own_v993 (1:Int32))) = (own_at own_v993 (own_at own_v993 (1:Int32))) → own_In (own_v466 own_v990 own_v990 own_v993 own_v993 own_v993 own_v993 (1:Int32) (0:Int32)) (own_v474 own_v990 own_v990 own_v993 own_v993 own_v993 own_v993 (1:Int32) (0:Int32)).length) := by subst hw0_1; exact own_fin1038 w0_2 hm1
  have hf1041 : (¬ ((f4 w0_2 (0:Int32)) = (0:Int32))) → (¬ ((f4 w0_2 (1:Int32)) = (0:Int32))) → ((f4 w0_2 (2:Int32)) = (0:Int32)) → (¬ ((f4 w0_2 (3:Int32)) = (0:Int32))) → (own_In (3:Int32) own_v993.length) ∧ (own_In (own_at own_v993 (3:Int32)) (own_v592 own_v990 own_v990 own_v993 own_v993 own_v993 own_v993 (1:Int32) (0:Int32)).length) ∧ (own_In (3:Int32) (own_v590 own_v990 own_v990 own_v993 own_v993 own_v993 own_v993 (1:Int32) (0:Int32)).length) ∧ (¬ ((own_at (own_v590 own_v990 own_v990 own_v993 own_v993 own_v993 own_v993 (1:Int32) (0:Int32)) (3:Int32)) < (own_at (own_v592 own_v990 own_v990 own_v993 own_v993 own_v993 own_v993 (1:Int32) (0:Int32)) (own_at own_v993 (3:Int32)))) → own_In (own_at own_v993 (3:Int32)) own_v993.length) ∧ (¬ ((own_at (own_v590 own_v990 own_v990 own_v993 own_v993 own_v993 own_v993 (1:Int32) (0:Int32)) (3:Int32)) < (own_at (own_v592 own_v990 own_v990 own_v993 own_v993 own_v993 own_v993 (1:Int32) (0:Int32)) (own_at own_v993 (3:Int32)))) → own_In (own_at (own_v592 own_v990 own_v990 own_v993 own_v993 own_v993 own_v993 (1:Int32) (0:Int32)) (own_at own_v993 (3:Int32))) (own_v588 own_v990 own_v990 own_v993 own_v993 own_v993 own_v993 (1:Int32) (0:Int32)).length) ∧ (¬ ((own_at (own_v590 own_v990 own_v990 own_v993 own_v993 own_v993 own_v993 (1:Int32) (0:Int32)) (3:Int32)) < (own_at (own_v592 own_v990 own_v990 own_v993 own_v993 own_v993 own_v993 (1:Int32) (0:Int32)) (own_at own_v993 (3:Int32)))) → own_In (own_at (own_v590 own_v990 own_v990 own_v993 own_v993 own_v993 own_v993 (1:Int32) (0:Int32)) (3:Int32)) (own_v588 own_v990 own_v990 own_v993 own_v993 own_v993 own_v993 (1:Int32) (0:Int32)).length) ∧ (¬ ((own_at (own_v590 own_v990 own_v990 own_v993 own_v993 own_v993 own_v993 (1:Int32) (0:Int32)) (3:Int32)) < (own_at (own_v592 own_v990 own_v990 own_v993 own_v993 own_v993 own_v993 (1:Int32) (0:Int32)) (own_at own_v993 (3:Int32)))) → own_In (own_at (own_v588 own_v990 own_v990 own_v993 own_v993 own_v993 own_v993 (1:Int32) (0:Int32)) (own_at (own_v592 own_v990 own_v990 own_v993 own_v993 own_v993 own_v993 (1:Int32) (0:Int32)) (own_at own_v993 (3:Int32)))) (own_v590 own_v990 own_v990 own_v993 own_v993 own_v993 own_v993 (1:Int32) (0:Int32)).length) ∧ (¬ ((own_at (own_v590 own_v990 own_v990 own_v993 own_v993 own_v993 own_v993 (1:Int32) (0:Int32)) (3:Int32)) < (own_at (own_v592 own_v990 own_v990 own_v993 own_v993 own_v993 own_v993 (1:Int32) (0:Int32)) (own_at own_v993 (3:Int32)))) → (own_at (own_v592 own_v990 own_v990 own_v993 own_v993 own_v993 own_v993 (1:Int32) (0:Int32)) (own_at own_v993 (3:Int32))) = (own_at own_v993 (own_at own_v993 (3:Int32))) → own_In (own_v586 own_v990 own_v990 own_v993 own_v993 own_v993 own_v993 (1:Int32) (0:Int32)) (own_v594 own_v990 own_v990 own_v993 own_v993 own_v993 own_v993 (1:Int32) (0:Int32)).length) := by subst hw0_1; exact own_fin1040 w0_2 hm1
  have hf1043 : (¬ ((f4 w0_2 (0:Int32)) = (0:Int32))) → (¬ ((f4 w0_2 (1:Int32)) = (0:Int32))) → (¬ ((f4 w0_2 (2:Int32)) = (0:Int32))) → (own_In (2:Int32) own_v993.length) ∧ (own_In (own_at own_v993 (2:Int32)) (own_v592 own_v990 own_v990 own_v993 own_v993 own_v993 own_v993 (1:Int32) (0:Int32)).length) ∧ (own_In (2:Int32) (own_v590 own_v990 own_v990 own_v993 own_v993 own_v993 own_v993 (1:Int32) (0:Int32)).length) ∧ (¬ ((own_at (own_v590 own_v990 own_v990 own_v993 own_v993 own_v993 own_v993 (1:Int32) (0:Int32)) (2:Int32)) < (own_at (own_v592 own_v990 own_v990 own_v993 own_v993 own_v993 own_v993 (1:Int32) (0:Int32)) (own_at own_v993 (2:Int32)))) → own_In (own_at own_v993 (2:Int32)) own_v993.length) ∧ (¬ ((own_at (own_v590 own_v990 own_v990 own_v993 own_v993 own_v993 own_v993 (1:Int32) (0:Int32)) (2:Int32)) < (own_at (own_v592 own_v990 own_v990 own_v993 own_v993 own_v993 own_v993 (1:Int32) (0:Int32)) (own_at own_v993 (2:Int32)))) → own_In (own_at (own_v592 own_v990 own_v990 own_v993 own_v993 own_v993 own_v993 (1:Int32) (0:Int32)) (own_at own_v993 (2:Int32))) (own_v588 own_v990 own_v990 own_v993 own_v993 own_v993 own_v993 (1:Int32) (0:Int32)).length) ∧ (¬ ((own_at (own_v590 own_v990 own_v990 own_v993 own_v993 own_v993 own_v993 (1:Int32) (0:Int32)) (2:Int32)) < (own_at (own_v592 own_v990 own_v990 own_v993 own_v993 own_v993 own_v993 (1:Int32) (0:Int32)) (own_at own_v993 (2:Int32)))) → own_In (own_at (own_v590 own_v990 own_v990 own_v993 own_v993 own_v993 own_v993 (1:Int32) (0:Int32)) (2:Int32)) (own_v588 own_v990 own_v990 own_v993 own_v993 own_v993 own_v993 (1:Int32) (0:Int32)).length) ∧ (¬ ((own_at (own_v590 own_v990 own_v990 own_v993 own_v993 own_v993 own_v993 (1:Int32) (0:Int32)) (2:Int32)) < (own_at (own_v592 own_v990 own_v990 own_v993 own_v993 own_v993 own_v993 (1:Int32) (0:Int32)) (own_at own_v993 (2:Int32)))) → own_In (own_at (own_v588 own_v990 own_v990 own_v993 own_v993 own_v993 own_v993 (1:Int32) (0:Int32)) (own_at (own_v592 own_v990 own_v990 own_v993 own_v993 own_v993 own_v993 (1:Int32) (0:Int32)) (own_at own_v993 (2:Int32)))) (own_v590 own_v990 own_v990 own_v993 own_v993 own_v993 own_v993 (1:Int32) (0:Int32)).length) ∧ (¬ ((own_at (own_v590 own_v990 own_v990 own_v993 own_v993 own_v993 own_v993 (1:Int32) (0:Int32)) (2:Int32)) < (own_at (own_v592 own_v990 own_v990 own_v993 own_v993 own_v993 own_v993 (1:Int32) (0:Int32)) (own_at own_v993 (2:Int32)))) → (own_at (own_v592 own_v990 own_v990 own_v993 own_v993 own_v993 own_v993 (1:Int32) (0:Int32)) (own_at own_v993 (2:Int32))) = (own_at own_v993 (own_at own_v993 (2:Int32))) → own_In (own_v586 own_v990 own_v990 own_v993 own_v993 own_v993 own_v993 (1:Int32) (0:Int32)) (own_v594 own_v990 own_v990 own_v993 own_v993 own_v993 own_v993 (1:Int32) (0:Int32)).length) := by subst hw0_1; exact own_fin1042 w0_2 hm1
  have hf1045 : (¬ ((f4 w0_2 (0:Int32)) = (0:Int32))) → (¬ ((f4 w0_2 (1:Int32)) = (0:Int32))) → (¬ ((f4 w0_2 (2:Int32)) = (0:Int32))) → (¬ ((f4 w0_2 (3:Int32)) = (0:Int32))) → (own_In (3:Int32) own_v993.length) ∧ (own_In (own_at own_v993 (3:Int32)) (own_v652 own_v990 own_v990 own_v993 own_v993 own_v993 own_v993 (1:Int32) (0:Int32)).length) ∧ (own_In (3:Int32) (own_v650 own_v990 own_v990 own_v993 own_v993 own_v993 own_v993 (1:Int32) (0:Int32)).length) ∧ (¬ ((own_at (own_v650 own_v990 own_v990 own_v993 own_v993 own_v993 own_v993 (1:Int32) (0:Int32)) (3:Int32)) < (own_at (own_v652 own_v990 own_v990 own_v993 own_v993 own_v993 own_v993 (1:Int32) (0:Int32)) (own_at own_v993 (3:Int32)))) → own_In (own_at own_v993 (3:Int32)) own_v993.length) ∧ (¬ ((own_at (own_v650 own_v990 own_v990 own_v993 own_v993 own_v993 own_v993 (1:Int32) (0:Int32)) (3:Int32)) < (own_at (own_v652 own_v990 own_v990 own_v993 own_v993 own_v993 own_v993 (1:Int32) (0:Int32)) (own_at own_v993 (3:Int32)))) → own_In (own_at (own_v652 own_v990 own_v990 own_v993 own_v993 own_v993 own_v993 (1:Int32) (0:Int32)) (own_at own_v993 (3:Int32))) (own_v648 own_v990 own_v990 own_v993 own_v993 own_v993 own_v993 (1:Int32) (0:Int32)).length) ∧ (¬ ((own_at (own_v650 own_v990 own_v990 own_v993 own_v993 own_v993 own_v993 (1:Int32) (0:Int32)) (3:Int32)) < (own_at (own_v652 own_v990 own_v990 own_v993 own_v993 own_v993 own_v993 (1:Int32) (0:Int32)) (own_at own_v993 (3:Int32)))) → own_In (own_at (own_v650 own_v990 own_v990 own_v993 own_v993 own_v993 own_v993 (1:Int32) (0:Int32)) (3:Int32)) (own_v648 own_v990 own_v990 own_v993 own_v993 own_v993 own_v993 (1:Int32) (0:Int32)).length) ∧ (¬ ((own_at (own_v650 own_v990 own_v990 own_v993 own_v993 own_v993 own_v993 (1:Int32) (0:Int32)) (3:Int32)) < (own_at (own_v652 own_v990 own_v990 own_v993 own_v993 own_v993 own_v993 (1:Int32) (0:Int32)) (own_at own_v993 (3:Int32)))) → own_In (own_at (own_v648 own_v990 own_v990 own_v993 own_v993 own_v993 own_v993 (1:Int32) (0:Int32)) (own_at (own_v652 own_v990 own_v990 own_v993 own_v993 own_v993 own_v993 (1:Int32) (0:Int32)) (own_at own_v993 (3:Int32)))) (own_v650 own_v990 own_v990 own_v993 own_v993 own_v993 own_v993 (1:Int32) (0:Int32)).length) ∧ (¬ ((own_at (own_v650 own_v990 own_v990 own_v993 own_v993 own_v993 own_v993 (1:Int32) (0:Int32)) (3:Int32)) < (own_at (own_v652 own_v990 own_v990 own_v993 own_v993 own_v993 own_v993 (1:Int32) (0:Int32)) (own_at own_v993 (3:Int32)))) → (own_at (own_v652 own_v990 own_v990 own_v993 own_v993 own_v993 own_v993 (1:Int32) (0:Int32)) (own_at own_v993 (3:Int32))) = (own_at own_v993 (own_at own_v993 (3:Int32))) → own_In (own_v646 own_v990 own_v990 own_v993 own_v993 own_v993 own_v993 (1:Int32) (0:Int32)) (own_v654 own_v990 own_v990 own_v993 own_v993 own_v993 own_v993 (1:Int32) (0:Int32)).length) := by subst hw0_1; exact own_fin1044 w0_2 hm1
  obtain ⟨_, _, ⟨T1014, L1014, k1014, n1014⟩, -, X1014, ⟨Lc1014, hQ1014, l1014, y1014, z1014⟩, st1014⟩ := Jvm.LawKit.callS X937 hx (y := (⟨"com/example/spare_calculus/sparecalculus/bisim/PartitionSplitOffMarkedPinLaw", "markAll", "(Lcom/example/spare_calculus/sparecalculus/bisim/Partition;I)V"⟩ : MethodName)) hown (mvT hZ (own_h hw 26 rfl)) (mvT hZ (own_h hw 27 rfl)) (mvT hZ (own_h hw 28 rfl)) (mvT hZ (own_h hw 29 rfl)) (by decide) (backOf (W := 0) (rm3 l Z aZ hw [] b935 w0_2 e1_938 e2_939 e3_940 e4_941 e5_942 e6_943 e7_944 own_v990 own_v990 own_v993 own_v993 own_v993 own_v993 (1:Int32) (0:Int32) T937.heap n0 Z989 F1015 G973 G974 G975 G976 G977 G978 G979 G980 G981 G991 G992 G994 G995 G998 G999 ne1000 ne1002 ne1004 ne1006 ne1010 ne1012 ne952 ne953 ne954 ne956 ne957 ne958 ne959 ne961 ne962 ne963 ne965 ne966 ne968 ne969 ne972 ge_b935 ge1001 ge1003 ge1011 ge1013 hf1017 hf1019 hf1021 hf1023 hf1025 hf1027 hf1029 hf1031 hf1033 hf1035 hf1037 hf1039 hf1041 hf1043 hf1045) hZ (own_h hw 29 rfl) (own_h hw 28 rfl) (by decide) (by decide)) (g := (mkF m 23 #[iv p0, iv p1, rv b935, iv w0_2, .unset, .unset, .unset, .unset, .unset, .unset, .unset, .unset, .unset, .unset, .unset, .unset, .unset, .unset, .unset, .unset, .unset, .unset] [(.int w0_2), (.ref b935)])) rfl (by rw [hml]; rfl) (argsL := [(.ref b935), (.int w0_2)]) (rest := []) (lenOf own_pd2 rfl) rfl (by show 2 * 0 + _ ≤ _; exact Nat.le_of_eq rfl) (hb hby at_23) (fun _ _ => ⟨rfl, rfl, (by decide : 8 + 0 ≤ _), (by decide : 37 + 0 ≤ _)⟩)
  dsimp only [Pt.U, Pt.locs, Pt.cells, Pt.slots] at X1014 l1014 y1014 z1014 st1014 hQ1014
  subst l1014 y1014 z1014
  obtain ⟨rfl, N1014q, K1014, G1046, G1047, G1048, G1049, G1050, G1051, G1052, G1053, G1054, G1055, G1056, G1057, G1058⟩ := hQ1014
  have N1014 := Fr.app N937 N1014q
  have Z1059 : n0 ≤ T1014.heap.size := Nat.le_trans Z989 K1014.1
  have G1061 : Fld Z T1014.heap b935 "com/example/spare_calculus/sparecalculus/bisim/Partition" "touchedBlockCount" "I" (.int (own_v1060 w0_2)) := G1054
  have G1063 : own_Ints Z T1014.heap e1_938 (own_v1062 w0_2) := G1055
  have G1065 : own_Ints Z T1014.heap e2_939 (own_v1064 w0_2) := G1056
  have G1067 : own_Ints Z T1014.heap e6_943 (own_v1066 w0_2) := G1057
  have G1069 : own_Ints Z T1014.heap e7_944 (own_v1068 w0_2) := G1058
  refine own_pre st1014 ?_
  refine own_pre (A := T1014.setTop (mkF m 28 #[iv p0, iv p1, rv b935, iv w0_2, .unset, .unset, .unset, .unset, .unset, .unset, .unset, .unset, .unset, .unset, .unset, .unset, .unset, .unset, .unset, .unset, .unset, .unset] [(.int (0:Int32)), (.ref b935)])) (fun t k => ?_) ?_
  · show Steps p.tables e below (T1014.setTop (mkF m 26 #[iv p0, iv p1, rv b935, iv w0_2, .unset, .unset, .unset, .unset, .unset, .unset, .unset, .unset, .unset, .unset, .unset, .unset, .unset, .unset, .unset, .unset, .unset, .unset] [])) _
    refine XS.aloadN X1014.here hx rfl (hb hby at_26) rfl rfl ?_
    show Steps p.tables e below (T1014.setTop (mkF m 27 #[iv p0, iv p1, rv b935, iv w0_2, .unset, .unset, .unset, .unset, .unset, .unset, .unset, .unset, .unset, .unset, .unset, .unset, .unset, .unset, .unset, .unset, .unset, .unset] [(.ref b935)])) _
    refine XS.iconst X1014.here hx rfl (hb hby at_27) ?_
    exact k
  have F1071 := (F1015.keep K1014)
  have F1072 := (G994.keep K1014 (ninS (Ne.symm ne1004) (ninS (Ne.symm ne953) (ninS (Ne.symm ne958) (ninS ne965 (ninS ne966 nin0))))))
  have F1073 := (G995.keep K1014 (ninS (Ne.symm ne1006) (ninS (Ne.symm ne954) (ninS (Ne.symm ne959) (ninS ne968 (ninS ne969 nin0))))))
  have F1074 := (G997.keep K1014 (ninS (Ne.symm ne1008) (ninS (Ne.symm ne955) (ninS (Ne.symm ne960) (ninS ne970 (ninS ne971 nin0))))))
  have hf1076 : own_In (0:Int32) own_v993.length := by subst hw0_1; exact own_fin1075
  have hf1078 : own_In (0:Int32) (own_v1066 w0_2).length := by subst hw0_1; exact own_fin1077 w0_2 hm1
  have hf1080 : own_In (0:Int32) own_v996.length := by subst hw0_1; exact own_fin1079
  have hf1082 : (own_at (own_v1066 w0_2) (0:Int32)) < (own_at own_v996 (0:Int32)) → own_In (1:Int32) own_v993.length := by subst hw0_1; exact own_fin1081 w0_2 hm1
  have hf1084 : (own_at (own_v1066 w0_2) (0:Int32)) < (own_at own_v996 (0:Int32)) → own_In (1:Int32) own_v996.length := by subst hw0_1; exact own_fin1083 w0_2 hm1
  have hf1086 : (own_at (own_v1066 w0_2) (0:Int32)) < (own_at own_v996 (0:Int32)) → own_In (1:Int32) (own_v1066 w0_2).length := by subst hw0_1; exact own_fin1085 w0_2 hm1
  have hf1088 : (own_at (own_v1066 w0_2) (0:Int32)) < (own_at own_v996 (0:Int32)) → (own_at own_v993 (0:Int32)) < (own_at (own_v1066 w0_2) (0:Int32)) → own_In (own_at own_v993 (0:Int32)) (own_v1062 w0_2).length := by subst hw0_1; exact own_fin1087 w0_2 hm1
  have hf1090 : (own_at (own_v1066 w0_2) (0:Int32)) < (own_at own_v996 (0:Int32)) → (own_at own_v993 (0:Int32)) < (own_at (own_v1066 w0_2) (0:Int32)) → own_In (own_at (own_v1062 w0_2) (own_at own_v993 (0:Int32))) own_v993.length := by subst hw0_1; exact own_fin1089 w0_2 hm1
  have hf1092 : (own_at (own_v1066 w0_2) (0:Int32)) < (own_at own_v996 (0:Int32)) → ((own_at own_v993 (0:Int32)) + (1:Int32)) < (own_at (own_v1066 w0_2) (0:Int32)) → own_In ((own_at own_v993 (0:Int32)) + (1:Int32)) (own_v1062 w0_2).length := by subst hw0_1; exact own_fin1091 w0_2 hm1
  have hf1094 : (own_at (own_v1066 w0_2) (0:Int32)) < (own_at own_v996 (0:Int32)) → ((own_at own_v993 (0:Int32)) + (1:Int32)) < (own_at (own_v1066 w0_2) (0:Int32)) → own_In (own_at (own_v1062 w0_2) ((own_at own_v993 (0:Int32)) + (1:Int32))) own_v993.length := by subst hw0_1; exact own_fin1093 w0_2 hm1
  have hf1096 : (own_at (own_v1066 w0_2) (0:Int32)) < (own_at own_v996 (0:Int32)) → (((own_at own_v993 (0:Int32)) + (1:Int32)) + (1:Int32)) < (own_at (own_v1066 w0_2) (0:Int32)) → own_In (((own_at own_v993 (0:Int32)) + (1:Int32)) + (1:Int32)) (own_v1062 w0_2).length := by subst hw0_1; exact own_fin1095 w0_2 hm1
  have hf1098 : (own_at (own_v1066 w0_2) (0:Int32)) < (own_at own_v996 (0:Int32)) → (((own_at own_v993 (0:Int32)) + (1:Int32)) + (1:Int32)) < (own_at (own_v1066 w0_2) (0:Int32)) → own_In (own_at (own_v1062 w0_2) (((own_at own_v993 (0:Int32)) + (1:Int32)) + (1:Int32))) own_v993.length := by subst hw0_1; exact own_fin1097 w0_2 hm1
  have hf1100 : (own_at (own_v1066 w0_2) (0:Int32)) < (own_at own_v996 (0:Int32)) → ((((own_at own_v993 (0:Int32)) + (1:Int32)) + (1:Int32)) + (1:Int32)) < (own_at (own_v1066 w0_2) (0:Int32)) → own_In ((((own_at own_v993 (0:Int32)) + (1:Int32)) + (1:Int32)) + (1:Int32)) (own_v1062 w0_2).length := by subst hw0_1; exact own_fin1099 w0_2 hm1
  have hf1102 : (own_at (own_v1066 w0_2) (0:Int32)) < (own_at own_v996 (0:Int32)) → ((((own_at own_v993 (0:Int32)) + (1:Int32)) + (1:Int32)) + (1:Int32)) < (own_at (own_v1066 w0_2) (0:Int32)) → own_In (own_at (own_v1062 w0_2) ((((own_at own_v993 (0:Int32)) + (1:Int32)) + (1:Int32)) + (1:Int32))) own_v993.length := by subst hw0_1; exact own_fin1101 w0_2 hm1
  have hf1104 : (own_at (own_v1066 w0_2) (0:Int32)) < (own_at own_v996 (0:Int32)) → ¬ ((((((own_at own_v993 (0:Int32)) + (1:Int32)) + (1:Int32)) + (1:Int32)) + (1:Int32)) < (own_at (own_v1066 w0_2) (0:Int32))) := by subst hw0_1; exact own_fin1103 w0_2 hm1
  obtain ⟨cq1070, kq1070, q1070a, q1070b, q1070c⟩ := isOf hZ rfl F1071
  obtain ⟨_, _, ⟨T1070, L1070, k1070, n1070⟩, -, X1070, ⟨Lc1070, hQ1070, l1070, y1070, z1070⟩, st1070⟩ := X1014.virtualBack hx (y := (⟨"com/example/spare_calculus/sparecalculus/bisim/Partition", "splitOffMarked", "(I)I"⟩ : MethodName)) (z := (⟨"com/example/spare_calculus/sparecalculus/bisim/Partition", "splitOffMarked", "(I)I"⟩ : MethodName)) hown (mvT hZ (own_h hw 40 rfl)) (mvT hZ (own_h hw 41 rfl)) (notFace_of_selects (args := #[]) (mvT hZ (own_h hw 43 rfl))) (mvT hZ (own_h hw 43 rfl)) (mvT hZ (own_h hw 42 rfl)) (by decide) (backOf (W := 0) (rm6 l Z aZ hw [] b935 (0:Int32) e1_938 e2_939 e3_940 e4_941 e5_942 e6_943 e7_944 (own_v1062 w0_2) own_v993 own_v993 own_v996 (own_v1066 w0_2) (1:Int32) (own_v1060 w0_2) T1014.heap n0 Z1059 F1071 G1046 G1047 G1048 G1049 G1050 G1051 G1052 G1053 G1061 G1063 F1072 F1073 F1074 G1067 ne1000 ne1004 ne1006 ne1008 ne1010 ne953 ne954 ne955 ne956 ne963 ne964 ne965 ne967 ne968 ne970 ge_b935 ge1005 ge1007 ge1009 ge1011 hf1076 hf1078 hf1080 hf1082 hf1084 hf1086 hf1088 hf1090 hf1092 hf1094 hf1096 hf1098 hf1100 hf1102 hf1104) hZ (own_h hw 44 rfl) (own_h hw 2 rfl) (by decide) (by decide)) q1070a q1070c (g := (mkF m 28 #[iv p0, iv p1, rv b935, iv w0_2, .unset, .unset, .unset, .unset, .unset, .unset, .unset, .unset, .unset, .unset, .unset, .unset, .unset, .unset, .unset, .unset, .unset, .unset] [(.int (0:Int32)), (.ref b935)])) rfl (by rw [hml]; rfl) (Steps.refl _) (argsL := [(.int (0:Int32))]) (rest := []) (lenOf own_pd3 rfl) rfl (by show 2 * 0 + _ ≤ _; exact Nat.le_of_eq rfl) (hb hby at_28) (fun _ _ => ⟨rfl, rfl, (by decide : 8 + 0 ≤ _), (by decide : 37 + 0 ≤ _)⟩)
  dsimp only [Pt.U, Pt.locs, Pt.cells, Pt.slots] at X1070 l1070 y1070 z1070 st1070 hQ1070
  subst l1070 y1070 z1070
  obtain ⟨rfl, N1070q, K1070, G1105, G1106, G1107, G1108, G1109, G1110, G1111, G1112, G1113, G1114, G1115, G1116, G1117⟩ := hQ1070
  have N1070 := Fr.app N1014 N1070q
  have Z1118 : n0 ≤ T1070.heap.size := Nat.le_trans Z1059 K1070.1
  have G1120 : Fld Z T1070.heap b935 "com/example/spare_calculus/sparecalculus/bisim/Partition" "blockCount" "I" (.int (own_v1119 w0_2)) := G1112
  have G1122 : own_Ints Z T1070.heap e3_940 (own_v1121 w0_2) := G1114
  have G1124 : own_Ints Z T1070.heap e4_941 (own_v1123 w0_2) := G1115
  have G1126 : own_Ints Z T1070.heap e5_942 (own_v1125 w0_2) := G1116
  have G1128 : own_Ints Z T1070.heap e6_943 (own_v1127 w0_2) := G1117
  refine own_pre (fun _ k => st1070.trans k) ?_
  refine own_pre (A := T1070.setTop (mkF m 36 #[iv p0, iv p1, rv b935, iv w0_2, iv (own_v1129 w0_2), .unset, .unset, .unset, .unset, .unset, .unset, .unset, .unset, .unset, .unset, .unset, .unset, .unset, .unset, .unset, .unset, .unset] [(.int (15:Int32)), (.int w0_2)])) (fun t k => ?_) ?_
  · show Steps p.tables e below (T1070.setTop (mkF m 31 #[iv p0, iv p1, rv b935, iv w0_2, .unset, .unset, .unset, .unset, .unset, .unset, .unset, .unset, .unset, .unset, .unset, .unset, .unset, .unset, .unset, .unset, .unset, .unset] [(.int (own_v1129 w0_2))])) _
    refine XS.istore X1070.here hx rfl (hb hby at_31) rfl (l' := #[iv p0, iv p1, rv b935, iv w0_2, iv (own_v1129 w0_2), .unset, .unset, .unset, .unset, .unset, .unset, .unset, .unset, .unset, .unset, .unset, .unset, .unset, .unset, .unset, .unset, .unset]) rfl ?_
    show Steps p.tables e below (T1070.setTop (mkF m 33 #[iv p0, iv p1, rv b935, iv w0_2, iv (own_v1129 w0_2), .unset, .unset, .unset, .unset, .unset, .unset, .unset, .unset, .unset, .unset, .unset, .unset, .unset, .unset, .unset, .unset, .unset] [])) _
    refine XS.iloadN X1070.here hx rfl (hb hby at_33) rfl ?_
    show Steps p.tables e below (T1070.setTop (mkF m 34 #[iv p0, iv p1, rv b935, iv w0_2, iv (own_v1129 w0_2), .unset, .unset, .unset, .unset, .unset, .unset, .unset, .unset, .unset, .unset, .unset, .unset, .unset, .unset, .unset, .unset, .unset] [(.int w0_2)])) _
    refine XS.bipush X1070.here hx rfl (hb hby at_34) ?_
    exact k
  obtain ⟨w0_3, hw0_3⟩ : ∃ z : Int32, z = (if w0_2 = (15:Int32) then (1:Int32) else (0:Int32)) := ⟨_, rfl⟩
  refine own_pre (A := T1070.setTop (mkF m 44 #[iv p0, iv p1, rv b935, iv w0_2, iv (own_v1129 w0_2), .unset, .unset, .unset, .unset, .unset, .unset, .unset, .unset, .unset, .unset, .unset, .unset, .unset, .unset, .unset, .unset, .unset] [(.int w0_3)])) (fun t k => ?_) ?_
  · show Steps p.tables e below (T1070.setTop (mkF m 36 #[iv p0, iv p1, rv b935, iv w0_2, iv (own_v1129 w0_2), .unset, .unset, .unset, .unset, .unset, .unset, .unset, .unset, .unset, .unset, .unset, .unset, .unset, .unset, .unset, .unset, .unset] [(.int (15:Int32)), (.int w0_2)])) _
    by_cases hm36_2 : w0_2 = (15:Int32)
    · refine XS.icmpNo X1070.here hx rfl (hb hby at_36) rfl (XT.ii_ne_f hm36_2) ?_
      show Steps p.tables e below (T1070.setTop (mkF m 39 #[iv p0, iv p1, rv b935, iv w0_2, iv (own_v1129 w0_2), .unset, .unset, .unset, .unset, .unset, .unset, .unset, .unset, .unset, .unset, .unset, .unset, .unset, .unset, .unset, .unset, .unset] [])) _
      refine XS.iconst X1070.here hx rfl (hb hby at_39) ?_
      show Steps p.tables e below (T1070.setTop (mkF m 40 #[iv p0, iv p1, rv b935, iv w0_2, iv (own_v1129 w0_2), .unset, .unset, .unset, .unset, .unset, .unset, .unset, .unset, .unset, .unset, .unset, .unset, .unset, .unset, .unset, .unset, .unset] [(.int (1:Int32))])) _
      refine XS.goto X1070.here hx rfl (pc0 := 40) (pc' := 44) rfl (hb hby at_40) (by decide) (by decide) ?_
      rw [hw0_3.trans (if_pos hm36_2)] at k
      exact k
    · refine XS.icmpYes X1070.here hx rfl (pc0 := 36) (pc' := 43) rfl (hb hby at_36) rfl (XT.ii_ne_t hm36_2) (by decide) (by decide) ?_
      show Steps p.tables e below (T1070.setTop (mkF m 43 #[iv p0, iv p1, rv b935, iv w0_2, iv (own_v1129 w0_2), .unset, .unset, .unset, .unset, .unset, .unset, .unset, .unset, .unset, .unset, .unset, .unset, .unset, .unset, .unset, .unset, .unset] [])) _
      refine XS.iconst X1070.here hx rfl (hb hby at_43) ?_
      rw [hw0_3.trans (if_neg hm36_2)] at k
      exact k
  refine own_pre (A := T1070.setTop (mkF m 47 #[iv p0, iv p1, rv b935, iv w0_2, iv (own_v1129 w0_2), iv w0_3, .unset, .unset, .unset, .unset, .unset, .unset, .unset, .unset, .unset, .unset, .unset, .unset, .unset, .unset, .unset, .unset] [(.int w0_2)])) (fun t k => ?_) ?_
  · show Steps p.tables e below (T1070.setTop (mkF m 44 #[iv p0, iv p1, rv b935, iv w0_2, iv (own_v1129 w0_2), .unset, .unset, .unset, .unset, .unset, .unset, .unset, .unset, .unset, .unset, .unset, .unset, .unset, .unset, .unset, .unset, .unset] [(.int w0_3)])) _
    refine XS.istore X1070.here hx rfl (hb hby at_44) rfl (l' := #[iv p0, iv p1, rv b935, iv w0_2, iv (own_v1129 w0_2), iv w0_3, .unset, .unset, .unset, .unset, .unset, .unset, .unset, .unset, .unset, .unset, .unset, .unset, .unset, .unset, .unset, .unset]) rfl ?_
    show Steps p.tables e below (T1070.setTop (mkF m 46 #[iv p0, iv p1, rv b935, iv w0_2, iv (own_v1129 w0_2), iv w0_3, .unset, .unset, .unset, .unset, .unset, .unset, .unset, .unset, .unset, .unset, .unset, .unset, .unset, .unset, .unset, .unset] [])) _
    refine XS.iloadN X1070.here hx rfl (hb hby at_46) rfl ?_
    exact k
  obtain ⟨_, _, ⟨T1130, L1130, k1130, n1130⟩, -, X1130, ⟨Lc1130, hQ1130, l1130, y1130, z1130⟩, st1130⟩ := Jvm.LawKit.callS X1070 hx (y := (⟨"com/example/spare_calculus/sparecalculus/bisim/PartitionSplitOffMarkedPinLaw", "pop", "(I)I"⟩ : MethodName)) hown (mvT hZ (own_h hw 45 rfl)) (mvT hZ (own_h hw 46 rfl)) (mvT hZ (own_h hw 28 rfl)) (mvT hZ (own_h hw 47 rfl)) (by decide) (backOf (W := 0) (rm7 l Z aZ hw [] w0_2 T1070.heap n0 Z1118 ) hZ (own_h hw 47 rfl) (own_h hw 28 rfl) (by decide) (by decide)) (g := (mkF m 47 #[iv p0, iv p1, rv b935, iv w0_2, iv (own_v1129 w0_2), iv w0_3, .unset, .unset, .unset, .unset, .unset, .unset, .unset, .unset, .unset, .unset, .unset, .unset, .unset, .unset, .unset, .unset] [(.int w0_2)])) rfl (by rw [hml]; rfl) (argsL := [(.int w0_2)]) (rest := []) (lenOf own_pd3 rfl) rfl (by show 2 * 0 + _ ≤ _; exact Nat.le_of_eq rfl) (hb hby at_47) (fun _ _ => ⟨rfl, rfl, (by decide : 8 + 0 ≤ _), (by decide : 37 + 0 ≤ _)⟩)
  dsimp only [Pt.U, Pt.locs, Pt.cells, Pt.slots] at X1130 l1130 y1130 z1130 st1130 hQ1130
  subst l1130 y1130 z1130
  obtain ⟨rfl, N1130q, eh1130⟩ := hQ1130
  have N1130 := Fr.app N1070 N1130q
  refine own_pre st1130 ?_
  refine own_pre (A := T1130.setTop (mkF m 54 #[iv p0, iv p1, rv b935, iv w0_2, iv (own_v1129 w0_2), iv w0_3, iv (f7 w0_2), .unset, .unset, .unset, .unset, .unset, .unset, .unset, .unset, .unset, .unset, .unset, .unset, .unset, .unset, .unset] [(.int w0_3)])) (fun t k => ?_) ?_
  · show Steps p.tables e below (T1130.setTop (mkF m 50 #[iv p0, iv p1, rv b935, iv w0_2, iv (own_v1129 w0_2), iv w0_3, .unset, .unset, .unset, .unset, .unset, .unset, .unset, .unset, .unset, .unset, .unset, .unset, .unset, .unset, .unset, .unset] [(.int (f7 w0_2))])) _
    refine XS.istore X1130.here hx rfl (hb hby at_50) rfl (l' := #[iv p0, iv p1, rv b935, iv w0_2, iv (own_v1129 w0_2), iv w0_3, iv (f7 w0_2), .unset, .unset, .unset, .unset, .unset, .unset, .unset, .unset, .unset, .unset, .unset, .unset, .unset, .unset, .unset]) rfl ?_
    show Steps p.tables e below (T1130.setTop (mkF m 52 #[iv p0, iv p1, rv b935, iv w0_2, iv (own_v1129 w0_2), iv w0_3, iv (f7 w0_2), .unset, .unset, .unset, .unset, .unset, .unset, .unset, .unset, .unset, .unset, .unset, .unset, .unset, .unset, .unset] [])) _
    refine XS.iload X1130.here hx rfl (hb hby at_52) rfl ?_
    exact k
  obtain ⟨w0_4, hw0_4⟩ : ∃ z : Int32, z = (if w0_3 = (0:Int32) then (2:Int32) else (1:Int32)) := ⟨_, rfl⟩
  refine own_pre (A := T1130.setTop (mkF m 62 #[iv p0, iv p1, rv b935, iv w0_2, iv (own_v1129 w0_2), iv w0_3, iv (f7 w0_2), .unset, .unset, .unset, .unset, .unset, .unset, .unset, .unset, .unset, .unset, .unset, .unset, .unset, .unset, .unset] [(.int w0_4)])) (fun t k => ?_) ?_
  · show Steps p.tables e below (T1130.setTop (mkF m 54 #[iv p0, iv p1, rv b935, iv w0_2, iv (own_v1129 w0_2), iv w0_3, iv (f7 w0_2), .unset, .unset, .unset, .unset, .unset, .unset, .unset, .unset, .unset, .unset, .unset, .unset, .unset, .unset, .unset] [(.int w0_3)])) _
    by_cases hm54_3 : w0_3 = (0:Int32)
    · refine XS.ifYes X1130.here hx rfl (pc0 := 54) (pc' := 61) rfl (hb hby at_54) rfl (XT.i0_eq_t hm54_3) (by decide) (by decide) ?_
      show Steps p.tables e below (T1130.setTop (mkF m 61 #[iv p0, iv p1, rv b935, iv w0_2, iv (own_v1129 w0_2), iv w0_3, iv (f7 w0_2), .unset, .unset, .unset, .unset, .unset, .unset, .unset, .unset, .unset, .unset, .unset, .unset, .unset, .unset, .unset] [])) _
      refine XS.iconst X1130.here hx rfl (hb hby at_61) ?_
      rw [hw0_4.trans (if_pos hm54_3)] at k
      exact k
    · refine XS.ifNo X1130.here hx rfl (hb hby at_54) rfl (XT.i0_eq_f hm54_3) ?_
      show Steps p.tables e below (T1130.setTop (mkF m 57 #[iv p0, iv p1, rv b935, iv w0_2, iv (own_v1129 w0_2), iv w0_3, iv (f7 w0_2), .unset, .unset, .unset, .unset, .unset, .unset, .unset, .unset, .unset, .unset, .unset, .unset, .unset, .unset, .unset] [])) _
      refine XS.iconst X1130.here hx rfl (hb hby at_57) ?_
      show Steps p.tables e below (T1130.setTop (mkF m 58 #[iv p0, iv p1, rv b935, iv w0_2, iv (own_v1129 w0_2), iv w0_3, iv (f7 w0_2), .unset, .unset, .unset, .unset, .unset, .unset, .unset, .unset, .unset, .unset, .unset, .unset, .unset, .unset, .unset] [(.int (1:Int32))])) _
      refine XS.goto X1130.here hx rfl (pc0 := 58) (pc' := 62) rfl (hb hby at_58) (by decide) (by decide) ?_
      rw [hw0_4.trans (if_neg hm54_3)] at k
      exact k
  refine own_pre (A := T1130.setTop (mkF m 66 #[iv p0, iv p1, rv b935, iv w0_2, iv (own_v1129 w0_2), iv w0_3, iv (f7 w0_2), iv w0_4, .unset, .unset, .unset, .unset, .unset, .unset, .unset, .unset, .unset, .unset, .unset, .unset, .unset, .unset] [(.int w0_3)])) (fun t k => ?_) ?_
  · show Steps p.tables e below (T1130.setTop (mkF m 62 #[iv p0, iv p1, rv b935, iv w0_2, iv (own_v1129 w0_2), iv w0_3, iv (f7 w0_2), .unset, .unset, .unset, .unset, .unset, .unset, .unset, .unset, .unset, .unset, .unset, .unset, .unset, .unset, .unset] [(.int w0_4)])) _
    refine XS.istore X1130.here hx rfl (hb hby at_62) rfl (l' := #[iv p0, iv p1, rv b935, iv w0_2, iv (own_v1129 w0_2), iv w0_3, iv (f7 w0_2), iv w0_4, .unset, .unset, .unset, .unset, .unset, .unset, .unset, .unset, .unset, .unset, .unset, .unset, .unset, .unset]) rfl ?_
    show Steps p.tables e below (T1130.setTop (mkF m 64 #[iv p0, iv p1, rv b935, iv w0_2, iv (own_v1129 w0_2), iv w0_3, iv (f7 w0_2), iv w0_4, .unset, .unset, .unset, .unset, .unset, .unset, .unset, .unset, .unset, .unset, .unset, .unset, .unset, .unset] [])) _
    refine XS.iload X1130.here hx rfl (hb hby at_64) rfl ?_
    exact k
  obtain ⟨w0_5, hw0_5⟩ : ∃ z : Int32, z = (if w0_3 = (0:Int32) then (p1 &&& (1:Int32)) else (0:Int32)) := ⟨_, rfl⟩
  have hmb := own_mb hw0_3 hw0_5
  refine own_pre (A := T1130.setTop (mkF m 76 #[iv p0, iv p1, rv b935, iv w0_2, iv (own_v1129 w0_2), iv w0_3, iv (f7 w0_2), iv w0_4, .unset, .unset, .unset, .unset, .unset, .unset, .unset, .unset, .unset, .unset, .unset, .unset, .unset, .unset] [(.int w0_5)])) (fun t k => ?_) ?_
  · show Steps p.tables e below (T1130.setTop (mkF m 66 #[iv p0, iv p1, rv b935, iv w0_2, iv (own_v1129 w0_2), iv w0_3, iv (f7 w0_2), iv w0_4, .unset, .unset, .unset, .unset, .unset, .unset, .unset, .unset, .unset, .unset, .unset, .unset, .unset, .unset] [(.int w0_3)])) _
    by_cases hm66_4 : w0_3 = (0:Int32)
    · refine XS.ifYes X1130.here hx rfl (pc0 := 66) (pc' := 73) rfl (hb hby at_66) rfl (XT.i0_eq_t hm66_4) (by decide) (by decide) ?_
      show Steps p.tables e below (T1130.setTop (mkF m 73 #[iv p0, iv p1, rv b935, iv w0_2, iv (own_v1129 w0_2), iv w0_3, iv (f7 w0_2), iv w0_4, .unset, .unset, .unset, .unset, .unset, .unset, .unset, .unset, .unset, .unset, .unset, .unset, .unset, .unset] [])) _
      refine XS.iloadN X1130.here hx rfl (hb hby at_73) rfl ?_
      show Steps p.tables e below (T1130.setTop (mkF m 74 #[iv p0, iv p1, rv b935, iv w0_2, iv (own_v1129 w0_2), iv w0_3, iv (f7 w0_2), iv w0_4, .unset, .unset, .unset, .unset, .unset, .unset, .unset, .unset, .unset, .unset, .unset, .unset, .unset, .unset] [(.int p1)])) _
      refine XS.iconst X1130.here hx rfl (hb hby at_74) ?_
      show Steps p.tables e below (T1130.setTop (mkF m 75 #[iv p0, iv p1, rv b935, iv w0_2, iv (own_v1129 w0_2), iv w0_3, iv (f7 w0_2), iv w0_4, .unset, .unset, .unset, .unset, .unset, .unset, .unset, .unset, .unset, .unset, .unset, .unset, .unset, .unset] [(.int (1:Int32)), (.int p1)])) _
      refine XS.iand X1130.here hx rfl (hb hby at_75) rfl ?_
      rw [hw0_5.trans (if_pos hm66_4)] at k
      exact k
    · refine XS.ifNo X1130.here hx rfl (hb hby at_66) rfl (XT.i0_eq_f hm66_4) ?_
      show Steps p.tables e below (T1130.setTop (mkF m 69 #[iv p0, iv p1, rv b935, iv w0_2, iv (own_v1129 w0_2), iv w0_3, iv (f7 w0_2), iv w0_4, .unset, .unset, .unset, .unset, .unset, .unset, .unset, .unset, .unset, .unset, .unset, .unset, .unset, .unset] [])) _
      refine XS.iconst X1130.here hx rfl (hb hby at_69) ?_
      show Steps p.tables e below (T1130.setTop (mkF m 70 #[iv p0, iv p1, rv b935, iv w0_2, iv (own_v1129 w0_2), iv w0_3, iv (f7 w0_2), iv w0_4, .unset, .unset, .unset, .unset, .unset, .unset, .unset, .unset, .unset, .unset, .unset, .unset, .unset, .unset] [(.int (0:Int32))])) _
      refine XS.goto X1130.here hx rfl (pc0 := 70) (pc' := 76) rfl (hb hby at_70) (by decide) (by decide) ?_
      rw [hw0_5.trans (if_neg hm66_4)] at k
      exact k
  refine own_pre (A := T1130.setTop (mkF m 80 #[iv p0, iv p1, rv b935, iv w0_2, iv (own_v1129 w0_2), iv w0_3, iv (f7 w0_2), iv w0_4, iv w0_5, .unset, .unset, .unset, .unset, .unset, .unset, .unset, .unset, .unset, .unset, .unset, .unset, .unset] [(.int w0_3)])) (fun t k => ?_) ?_
  · show Steps p.tables e below (T1130.setTop (mkF m 76 #[iv p0, iv p1, rv b935, iv w0_2, iv (own_v1129 w0_2), iv w0_3, iv (f7 w0_2), iv w0_4, .unset, .unset, .unset, .unset, .unset, .unset, .unset, .unset, .unset, .unset, .unset, .unset, .unset, .unset] [(.int w0_5)])) _
    refine XS.istore X1130.here hx rfl (hb hby at_76) rfl (l' := #[iv p0, iv p1, rv b935, iv w0_2, iv (own_v1129 w0_2), iv w0_3, iv (f7 w0_2), iv w0_4, iv w0_5, .unset, .unset, .unset, .unset, .unset, .unset, .unset, .unset, .unset, .unset, .unset, .unset, .unset]) rfl ?_
    show Steps p.tables e below (T1130.setTop (mkF m 78 #[iv p0, iv p1, rv b935, iv w0_2, iv (own_v1129 w0_2), iv w0_3, iv (f7 w0_2), iv w0_4, iv w0_5, .unset, .unset, .unset, .unset, .unset, .unset, .unset, .unset, .unset, .unset, .unset, .unset, .unset] [])) _
    refine XS.iload X1130.here hx rfl (hb hby at_78) rfl ?_
    exact k
  obtain ⟨w0_6, hw0_6⟩ : ∃ z : Int32, z = (if w0_3 = (0:Int32) then (if w0_5 = (1:Int32) then w0_2 else ((15:Int32) &&& (w0_2 ^^^ (-1:Int32)))) else (15:Int32)) := ⟨_, rfl⟩
  refine own_pre (A := T1130.setTop (mkF m 104 #[iv p0, iv p1, rv b935, iv w0_2, iv (own_v1129 w0_2), iv w0_3, iv (f7 w0_2), iv w0_4, iv w0_5, .unset, .unset, .unset, .unset, .unset, .unset, .unset, .unset, .unset, .unset, .unset, .unset, .unset] [(.int w0_6)])) (fun t k => ?_) ?_
  · show Steps p.tables e below (T1130.setTop (mkF m 80 #[iv p0, iv p1, rv b935, iv w0_2, iv (own_v1129 w0_2), iv w0_3, iv (f7 w0_2), iv w0_4, iv w0_5, .unset, .unset, .unset, .unset, .unset, .unset, .unset, .unset, .unset, .unset, .unset, .unset, .unset] [(.int w0_3)])) _
    by_cases hm80_5 : w0_3 = (0:Int32)
    · refine XS.ifYes X1130.here hx rfl (pc0 := 80) (pc' := 88) rfl (hb hby at_80) rfl (XT.i0_eq_t hm80_5) (by decide) (by decide) ?_
      show Steps p.tables e below (T1130.setTop (mkF m 88 #[iv p0, iv p1, rv b935, iv w0_2, iv (own_v1129 w0_2), iv w0_3, iv (f7 w0_2), iv w0_4, iv w0_5, .unset, .unset, .unset, .unset, .unset, .unset, .unset, .unset, .unset, .unset, .unset, .unset, .unset] [])) _
      refine XS.iload X1130.here hx rfl (hb hby at_88) rfl ?_
      show Steps p.tables e below (T1130.setTop (mkF m 90 #[iv p0, iv p1, rv b935, iv w0_2, iv (own_v1129 w0_2), iv w0_3, iv (f7 w0_2), iv w0_4, iv w0_5, .unset, .unset, .unset, .unset, .unset, .unset, .unset, .unset, .unset, .unset, .unset, .unset, .unset] [(.int w0_5)])) _
      refine XS.iconst X1130.here hx rfl (hb hby at_90) ?_
      show Steps p.tables e below (T1130.setTop (mkF m 91 #[iv p0, iv p1, rv b935, iv w0_2, iv (own_v1129 w0_2), iv w0_3, iv (f7 w0_2), iv w0_4, iv w0_5, .unset, .unset, .unset, .unset, .unset, .unset, .unset, .unset, .unset, .unset, .unset, .unset, .unset] [(.int (1:Int32)), (.int w0_5)])) _
      by_cases hm91_6 : w0_5 = (1:Int32)
      · refine XS.icmpNo X1130.here hx rfl (hb hby at_91) rfl (XT.ii_ne_f hm91_6) ?_
        show Steps p.tables e below (T1130.setTop (mkF m 94 #[iv p0, iv p1, rv b935, iv w0_2, iv (own_v1129 w0_2), iv w0_3, iv (f7 w0_2), iv w0_4, iv w0_5, .unset, .unset, .unset, .unset, .unset, .unset, .unset, .unset, .unset, .unset, .unset, .unset, .unset] [])) _
        refine XS.iloadN X1130.here hx rfl (hb hby at_94) rfl ?_
        show Steps p.tables e below (T1130.setTop (mkF m 95 #[iv p0, iv p1, rv b935, iv w0_2, iv (own_v1129 w0_2), iv w0_3, iv (f7 w0_2), iv w0_4, iv w0_5, .unset, .unset, .unset, .unset, .unset, .unset, .unset, .unset, .unset, .unset, .unset, .unset, .unset] [(.int w0_2)])) _
        refine XS.goto X1130.here hx rfl (pc0 := 95) (pc' := 104) rfl (hb hby at_95) (by decide) (by decide) ?_
        rw [hw0_6.trans ((if_pos hm80_5).trans (if_pos hm91_6))] at k
        exact k
      · refine XS.icmpYes X1130.here hx rfl (pc0 := 91) (pc' := 98) rfl (hb hby at_91) rfl (XT.ii_ne_t hm91_6) (by decide) (by decide) ?_
        show Steps p.tables e below (T1130.setTop (mkF m 98 #[iv p0, iv p1, rv b935, iv w0_2, iv (own_v1129 w0_2), iv w0_3, iv (f7 w0_2), iv w0_4, iv w0_5, .unset, .unset, .unset, .unset, .unset, .unset, .unset, .unset, .unset, .unset, .unset, .unset, .unset] [])) _
        refine XS.bipush X1130.here hx rfl (hb hby at_98) ?_
        show Steps p.tables e below (T1130.setTop (mkF m 100 #[iv p0, iv p1, rv b935, iv w0_2, iv (own_v1129 w0_2), iv w0_3, iv (f7 w0_2), iv w0_4, iv w0_5, .unset, .unset, .unset, .unset, .unset, .unset, .unset, .unset, .unset, .unset, .unset, .unset, .unset] [(.int (15:Int32))])) _
        refine XS.iloadN X1130.here hx rfl (hb hby at_100) rfl ?_
        show Steps p.tables e below (T1130.setTop (mkF m 101 #[iv p0, iv p1, rv b935, iv w0_2, iv (own_v1129 w0_2), iv w0_3, iv (f7 w0_2), iv w0_4, iv w0_5, .unset, .unset, .unset, .unset, .unset, .unset, .unset, .unset, .unset, .unset, .unset, .unset, .unset] [(.int w0_2), (.int (15:Int32))])) _
        refine XS.iconst X1130.here hx rfl (hb hby at_101) ?_
        show Steps p.tables e below (T1130.setTop (mkF m 102 #[iv p0, iv p1, rv b935, iv w0_2, iv (own_v1129 w0_2), iv w0_3, iv (f7 w0_2), iv w0_4, iv w0_5, .unset, .unset, .unset, .unset, .unset, .unset, .unset, .unset, .unset, .unset, .unset, .unset, .unset] [(.int (-1:Int32)), (.int w0_2), (.int (15:Int32))])) _
        refine XS.ixor X1130.here hx rfl (hb hby at_102) rfl ?_
        show Steps p.tables e below (T1130.setTop (mkF m 103 #[iv p0, iv p1, rv b935, iv w0_2, iv (own_v1129 w0_2), iv w0_3, iv (f7 w0_2), iv w0_4, iv w0_5, .unset, .unset, .unset, .unset, .unset, .unset, .unset, .unset, .unset, .unset, .unset, .unset, .unset] [(.int (w0_2 ^^^ (-1:Int32))), (.int (15:Int32))])) _
        refine XS.iand X1130.here hx rfl (hb hby at_103) rfl ?_
        rw [hw0_6.trans ((if_pos hm80_5).trans (if_neg hm91_6))] at k
        exact k
    · refine XS.ifNo X1130.here hx rfl (hb hby at_80) rfl (XT.i0_eq_f hm80_5) ?_
      show Steps p.tables e below (T1130.setTop (mkF m 83 #[iv p0, iv p1, rv b935, iv w0_2, iv (own_v1129 w0_2), iv w0_3, iv (f7 w0_2), iv w0_4, iv w0_5, .unset, .unset, .unset, .unset, .unset, .unset, .unset, .unset, .unset, .unset, .unset, .unset, .unset] [])) _
      refine XS.bipush X1130.here hx rfl (hb hby at_83) ?_
      show Steps p.tables e below (T1130.setTop (mkF m 85 #[iv p0, iv p1, rv b935, iv w0_2, iv (own_v1129 w0_2), iv w0_3, iv (f7 w0_2), iv w0_4, iv w0_5, .unset, .unset, .unset, .unset, .unset, .unset, .unset, .unset, .unset, .unset, .unset, .unset, .unset] [(.int (15:Int32))])) _
      refine XS.goto X1130.here hx rfl (pc0 := 85) (pc' := 104) rfl (hb hby at_85) (by decide) (by decide) ?_
      rw [hw0_6.trans (if_neg hm80_5)] at k
      exact k
  refine own_pre (A := T1130.setTop (mkF m 108 #[iv p0, iv p1, rv b935, iv w0_2, iv (own_v1129 w0_2), iv w0_3, iv (f7 w0_2), iv w0_4, iv w0_5, iv w0_6, .unset, .unset, .unset, .unset, .unset, .unset, .unset, .unset, .unset, .unset, .unset, .unset] [(.int w0_3)])) (fun t k => ?_) ?_
  · show Steps p.tables e below (T1130.setTop (mkF m 104 #[iv p0, iv p1, rv b935, iv w0_2, iv (own_v1129 w0_2), iv w0_3, iv (f7 w0_2), iv w0_4, iv w0_5, .unset, .unset, .unset, .unset, .unset, .unset, .unset, .unset, .unset, .unset, .unset, .unset, .unset] [(.int w0_6)])) _
    refine XS.istore X1130.here hx rfl (hb hby at_104) rfl (l' := #[iv p0, iv p1, rv b935, iv w0_2, iv (own_v1129 w0_2), iv w0_3, iv (f7 w0_2), iv w0_4, iv w0_5, iv w0_6, .unset, .unset, .unset, .unset, .unset, .unset, .unset, .unset, .unset, .unset, .unset, .unset]) rfl ?_
    show Steps p.tables e below (T1130.setTop (mkF m 106 #[iv p0, iv p1, rv b935, iv w0_2, iv (own_v1129 w0_2), iv w0_3, iv (f7 w0_2), iv w0_4, iv w0_5, iv w0_6, .unset, .unset, .unset, .unset, .unset, .unset, .unset, .unset, .unset, .unset, .unset, .unset] [])) _
    refine XS.iload X1130.here hx rfl (hb hby at_106) rfl ?_
    exact k
  obtain ⟨w0_7, hw0_7⟩ : ∃ z : Int32, z = (if w0_3 = (0:Int32) then (if w0_5 = (1:Int32) then (0:Int32) else (f7 w0_2)) else (0:Int32)) := ⟨_, rfl⟩
  refine own_pre (A := T1130.setTop (mkF m 127 #[iv p0, iv p1, rv b935, iv w0_2, iv (own_v1129 w0_2), iv w0_3, iv (f7 w0_2), iv w0_4, iv w0_5, iv w0_6, .unset, .unset, .unset, .unset, .unset, .unset, .unset, .unset, .unset, .unset, .unset, .unset] [(.int w0_7)])) (fun t k => ?_) ?_
  · show Steps p.tables e below (T1130.setTop (mkF m 108 #[iv p0, iv p1, rv b935, iv w0_2, iv (own_v1129 w0_2), iv w0_3, iv (f7 w0_2), iv w0_4, iv w0_5, iv w0_6, .unset, .unset, .unset, .unset, .unset, .unset, .unset, .unset, .unset, .unset, .unset, .unset] [(.int w0_3)])) _
    by_cases hm108_7 : w0_3 = (0:Int32)
    · refine XS.ifYes X1130.here hx rfl (pc0 := 108) (pc' := 115) rfl (hb hby at_108) rfl (XT.i0_eq_t hm108_7) (by decide) (by decide) ?_
      show Steps p.tables e below (T1130.setTop (mkF m 115 #[iv p0, iv p1, rv b935, iv w0_2, iv (own_v1129 w0_2), iv w0_3, iv (f7 w0_2), iv w0_4, iv w0_5, iv w0_6, .unset, .unset, .unset, .unset, .unset, .unset, .unset, .unset, .unset, .unset, .unset, .unset] [])) _
      refine XS.iload X1130.here hx rfl (hb hby at_115) rfl ?_
      show Steps p.tables e below (T1130.setTop (mkF m 117 #[iv p0, iv p1, rv b935, iv w0_2, iv (own_v1129 w0_2), iv w0_3, iv (f7 w0_2), iv w0_4, iv w0_5, iv w0_6, .unset, .unset, .unset, .unset, .unset, .unset, .unset, .unset, .unset, .unset, .unset, .unset] [(.int w0_5)])) _
      refine XS.iconst X1130.here hx rfl (hb hby at_117) ?_
      show Steps p.tables e below (T1130.setTop (mkF m 118 #[iv p0, iv p1, rv b935, iv w0_2, iv (own_v1129 w0_2), iv w0_3, iv (f7 w0_2), iv w0_4, iv w0_5, iv w0_6, .unset, .unset, .unset, .unset, .unset, .unset, .unset, .unset, .unset, .unset, .unset, .unset] [(.int (1:Int32)), (.int w0_5)])) _
      by_cases hm118_8 : w0_5 = (1:Int32)
      · refine XS.icmpNo X1130.here hx rfl (hb hby at_118) rfl (XT.ii_ne_f hm118_8) ?_
        show Steps p.tables e below (T1130.setTop (mkF m 121 #[iv p0, iv p1, rv b935, iv w0_2, iv (own_v1129 w0_2), iv w0_3, iv (f7 w0_2), iv w0_4, iv w0_5, iv w0_6, .unset, .unset, .unset, .unset, .unset, .unset, .unset, .unset, .unset, .unset, .unset, .unset] [])) _
        refine XS.iconst X1130.here hx rfl (hb hby at_121) ?_
        show Steps p.tables e below (T1130.setTop (mkF m 122 #[iv p0, iv p1, rv b935, iv w0_2, iv (own_v1129 w0_2), iv w0_3, iv (f7 w0_2), iv w0_4, iv w0_5, iv w0_6, .unset, .unset, .unset, .unset, .unset, .unset, .unset, .unset, .unset, .unset, .unset, .unset] [(.int (0:Int32))])) _
        refine XS.goto X1130.here hx rfl (pc0 := 122) (pc' := 127) rfl (hb hby at_122) (by decide) (by decide) ?_
        rw [hw0_7.trans ((if_pos hm108_7).trans (if_pos hm118_8))] at k
        exact k
      · refine XS.icmpYes X1130.here hx rfl (pc0 := 118) (pc' := 125) rfl (hb hby at_118) rfl (XT.ii_ne_t hm118_8) (by decide) (by decide) ?_
        show Steps p.tables e below (T1130.setTop (mkF m 125 #[iv p0, iv p1, rv b935, iv w0_2, iv (own_v1129 w0_2), iv w0_3, iv (f7 w0_2), iv w0_4, iv w0_5, iv w0_6, .unset, .unset, .unset, .unset, .unset, .unset, .unset, .unset, .unset, .unset, .unset, .unset] [])) _
        refine XS.iload X1130.here hx rfl (hb hby at_125) rfl ?_
        rw [hw0_7.trans ((if_pos hm108_7).trans (if_neg hm118_8))] at k
        exact k
    · refine XS.ifNo X1130.here hx rfl (hb hby at_108) rfl (XT.i0_eq_f hm108_7) ?_
      show Steps p.tables e below (T1130.setTop (mkF m 111 #[iv p0, iv p1, rv b935, iv w0_2, iv (own_v1129 w0_2), iv w0_3, iv (f7 w0_2), iv w0_4, iv w0_5, iv w0_6, .unset, .unset, .unset, .unset, .unset, .unset, .unset, .unset, .unset, .unset, .unset, .unset] [])) _
      refine XS.iconst X1130.here hx rfl (hb hby at_111) ?_
      show Steps p.tables e below (T1130.setTop (mkF m 112 #[iv p0, iv p1, rv b935, iv w0_2, iv (own_v1129 w0_2), iv w0_3, iv (f7 w0_2), iv w0_4, iv w0_5, iv w0_6, .unset, .unset, .unset, .unset, .unset, .unset, .unset, .unset, .unset, .unset, .unset, .unset] [(.int (0:Int32))])) _
      refine XS.goto X1130.here hx rfl (pc0 := 112) (pc' := 127) rfl (hb hby at_112) (by decide) (by decide) ?_
      rw [hw0_7.trans (if_neg hm108_7)] at k
      exact k
  refine own_pre (A := T1130.setTop (mkF m 131 #[iv p0, iv p1, rv b935, iv w0_2, iv (own_v1129 w0_2), iv w0_3, iv (f7 w0_2), iv w0_4, iv w0_5, iv w0_6, iv w0_7, .unset, .unset, .unset, .unset, .unset, .unset, .unset, .unset, .unset, .unset, .unset] [(.int w0_3)])) (fun t k => ?_) ?_
  · show Steps p.tables e below (T1130.setTop (mkF m 127 #[iv p0, iv p1, rv b935, iv w0_2, iv (own_v1129 w0_2), iv w0_3, iv (f7 w0_2), iv w0_4, iv w0_5, iv w0_6, .unset, .unset, .unset, .unset, .unset, .unset, .unset, .unset, .unset, .unset, .unset, .unset] [(.int w0_7)])) _
    refine XS.istore X1130.here hx rfl (hb hby at_127) rfl (l' := #[iv p0, iv p1, rv b935, iv w0_2, iv (own_v1129 w0_2), iv w0_3, iv (f7 w0_2), iv w0_4, iv w0_5, iv w0_6, iv w0_7, .unset, .unset, .unset, .unset, .unset, .unset, .unset, .unset, .unset, .unset, .unset]) rfl ?_
    show Steps p.tables e below (T1130.setTop (mkF m 129 #[iv p0, iv p1, rv b935, iv w0_2, iv (own_v1129 w0_2), iv w0_3, iv (f7 w0_2), iv w0_4, iv w0_5, iv w0_6, iv w0_7, .unset, .unset, .unset, .unset, .unset, .unset, .unset, .unset, .unset, .unset, .unset] [])) _
    refine XS.iload X1130.here hx rfl (hb hby at_129) rfl ?_
    exact k
  obtain ⟨w0_8, hw0_8⟩ : ∃ z : Int32, z = (if w0_3 = (0:Int32) then (if w0_5 = (1:Int32) then (f7 w0_2) else (4:Int32)) else (4:Int32)) := ⟨_, rfl⟩
  refine own_pre (A := T1130.setTop (mkF m 150 #[iv p0, iv p1, rv b935, iv w0_2, iv (own_v1129 w0_2), iv w0_3, iv (f7 w0_2), iv w0_4, iv w0_5, iv w0_6, iv w0_7, .unset, .unset, .unset, .unset, .unset, .unset, .unset, .unset, .unset, .unset, .unset] [(.int w0_8)])) (fun t k => ?_) ?_
  · show Steps p.tables e below (T1130.setTop (mkF m 131 #[iv p0, iv p1, rv b935, iv w0_2, iv (own_v1129 w0_2), iv w0_3, iv (f7 w0_2), iv w0_4, iv w0_5, iv w0_6, iv w0_7, .unset, .unset, .unset, .unset, .unset, .unset, .unset, .unset, .unset, .unset, .unset] [(.int w0_3)])) _
    by_cases hm131_9 : w0_3 = (0:Int32)
    · refine XS.ifYes X1130.here hx rfl (pc0 := 131) (pc' := 138) rfl (hb hby at_131) rfl (XT.i0_eq_t hm131_9) (by decide) (by decide) ?_
      show Steps p.tables e below (T1130.setTop (mkF m 138 #[iv p0, iv p1, rv b935, iv w0_2, iv (own_v1129 w0_2), iv w0_3, iv (f7 w0_2), iv w0_4, iv w0_5, iv w0_6, iv w0_7, .unset, .unset, .unset, .unset, .unset, .unset, .unset, .unset, .unset, .unset, .unset] [])) _
      refine XS.iload X1130.here hx rfl (hb hby at_138) rfl ?_
      show Steps p.tables e below (T1130.setTop (mkF m 140 #[iv p0, iv p1, rv b935, iv w0_2, iv (own_v1129 w0_2), iv w0_3, iv (f7 w0_2), iv w0_4, iv w0_5, iv w0_6, iv w0_7, .unset, .unset, .unset, .unset, .unset, .unset, .unset, .unset, .unset, .unset, .unset] [(.int w0_5)])) _
      refine XS.iconst X1130.here hx rfl (hb hby at_140) ?_
      show Steps p.tables e below (T1130.setTop (mkF m 141 #[iv p0, iv p1, rv b935, iv w0_2, iv (own_v1129 w0_2), iv w0_3, iv (f7 w0_2), iv w0_4, iv w0_5, iv w0_6, iv w0_7, .unset, .unset, .unset, .unset, .unset, .unset, .unset, .unset, .unset, .unset, .unset] [(.int (1:Int32)), (.int w0_5)])) _
      by_cases hm141_10 : w0_5 = (1:Int32)
      · refine XS.icmpNo X1130.here hx rfl (hb hby at_141) rfl (XT.ii_ne_f hm141_10) ?_
        show Steps p.tables e below (T1130.setTop (mkF m 144 #[iv p0, iv p1, rv b935, iv w0_2, iv (own_v1129 w0_2), iv w0_3, iv (f7 w0_2), iv w0_4, iv w0_5, iv w0_6, iv w0_7, .unset, .unset, .unset, .unset, .unset, .unset, .unset, .unset, .unset, .unset, .unset] [])) _
        refine XS.iload X1130.here hx rfl (hb hby at_144) rfl ?_
        show Steps p.tables e below (T1130.setTop (mkF m 146 #[iv p0, iv p1, rv b935, iv w0_2, iv (own_v1129 w0_2), iv w0_3, iv (f7 w0_2), iv w0_4, iv w0_5, iv w0_6, iv w0_7, .unset, .unset, .unset, .unset, .unset, .unset, .unset, .unset, .unset, .unset, .unset] [(.int (f7 w0_2))])) _
        refine XS.goto X1130.here hx rfl (pc0 := 146) (pc' := 150) rfl (hb hby at_146) (by decide) (by decide) ?_
        rw [hw0_8.trans ((if_pos hm131_9).trans (if_pos hm141_10))] at k
        exact k
      · refine XS.icmpYes X1130.here hx rfl (pc0 := 141) (pc' := 149) rfl (hb hby at_141) rfl (XT.ii_ne_t hm141_10) (by decide) (by decide) ?_
        show Steps p.tables e below (T1130.setTop (mkF m 149 #[iv p0, iv p1, rv b935, iv w0_2, iv (own_v1129 w0_2), iv w0_3, iv (f7 w0_2), iv w0_4, iv w0_5, iv w0_6, iv w0_7, .unset, .unset, .unset, .unset, .unset, .unset, .unset, .unset, .unset, .unset, .unset] [])) _
        refine XS.iconst X1130.here hx rfl (hb hby at_149) ?_
        rw [hw0_8.trans ((if_pos hm131_9).trans (if_neg hm141_10))] at k
        exact k
    · refine XS.ifNo X1130.here hx rfl (hb hby at_131) rfl (XT.i0_eq_f hm131_9) ?_
      show Steps p.tables e below (T1130.setTop (mkF m 134 #[iv p0, iv p1, rv b935, iv w0_2, iv (own_v1129 w0_2), iv w0_3, iv (f7 w0_2), iv w0_4, iv w0_5, iv w0_6, iv w0_7, .unset, .unset, .unset, .unset, .unset, .unset, .unset, .unset, .unset, .unset, .unset] [])) _
      refine XS.iconst X1130.here hx rfl (hb hby at_134) ?_
      show Steps p.tables e below (T1130.setTop (mkF m 135 #[iv p0, iv p1, rv b935, iv w0_2, iv (own_v1129 w0_2), iv w0_3, iv (f7 w0_2), iv w0_4, iv w0_5, iv w0_6, iv w0_7, .unset, .unset, .unset, .unset, .unset, .unset, .unset, .unset, .unset, .unset, .unset] [(.int (4:Int32))])) _
      refine XS.goto X1130.here hx rfl (pc0 := 135) (pc' := 150) rfl (hb hby at_135) (by decide) (by decide) ?_
      rw [hw0_8.trans (if_neg hm131_9)] at k
      exact k
  refine own_pre (A := T1130.setTop (mkF m 162 #[iv p0, iv p1, rv b935, iv w0_2, iv (own_v1129 w0_2), iv w0_3, iv (f7 w0_2), iv w0_4, iv w0_5, iv w0_6, iv w0_7, iv w0_8, .val (.int (((p1.toUInt32 >>> ((1:Int32) &&& 31).toUInt32).toInt32) &&& w0_6)), .unset, .unset, .unset, .unset, .unset, .unset, .unset, .unset, .unset] [(.int (((p1.toUInt32 >>> ((1:Int32) &&& 31).toUInt32).toInt32) &&& w0_6))])) (fun t k => ?_) ?_
  · show Steps p.tables e below (T1130.setTop (mkF m 150 #[iv p0, iv p1, rv b935, iv w0_2, iv (own_v1129 w0_2), iv w0_3, iv (f7 w0_2), iv w0_4, iv w0_5, iv w0_6, iv w0_7, .unset, .unset, .unset, .unset, .unset, .unset, .unset, .unset, .unset, .unset, .unset] [(.int w0_8)])) _
    refine XS.istore X1130.here hx rfl (hb hby at_150) rfl (l' := #[iv p0, iv p1, rv b935, iv w0_2, iv (own_v1129 w0_2), iv w0_3, iv (f7 w0_2), iv w0_4, iv w0_5, iv w0_6, iv w0_7, iv w0_8, .unset, .unset, .unset, .unset, .unset, .unset, .unset, .unset, .unset, .unset]) rfl ?_
    show Steps p.tables e below (T1130.setTop (mkF m 152 #[iv p0, iv p1, rv b935, iv w0_2, iv (own_v1129 w0_2), iv w0_3, iv (f7 w0_2), iv w0_4, iv w0_5, iv w0_6, iv w0_7, iv w0_8, .unset, .unset, .unset, .unset, .unset, .unset, .unset, .unset, .unset, .unset] [])) _
    refine XS.iloadN X1130.here hx rfl (hb hby at_152) rfl ?_
    show Steps p.tables e below (T1130.setTop (mkF m 153 #[iv p0, iv p1, rv b935, iv w0_2, iv (own_v1129 w0_2), iv w0_3, iv (f7 w0_2), iv w0_4, iv w0_5, iv w0_6, iv w0_7, iv w0_8, .unset, .unset, .unset, .unset, .unset, .unset, .unset, .unset, .unset, .unset] [(.int p1)])) _
    refine XS.iconst X1130.here hx rfl (hb hby at_153) ?_
    show Steps p.tables e below (T1130.setTop (mkF m 154 #[iv p0, iv p1, rv b935, iv w0_2, iv (own_v1129 w0_2), iv w0_3, iv (f7 w0_2), iv w0_4, iv w0_5, iv w0_6, iv w0_7, iv w0_8, .unset, .unset, .unset, .unset, .unset, .unset, .unset, .unset, .unset, .unset] [(.int (1:Int32)), (.int p1)])) _
    refine XS.iushr X1130.here hx rfl (hb hby at_154) rfl ?_
    show Steps p.tables e below (T1130.setTop (mkF m 155 #[iv p0, iv p1, rv b935, iv w0_2, iv (own_v1129 w0_2), iv w0_3, iv (f7 w0_2), iv w0_4, iv w0_5, iv w0_6, iv w0_7, iv w0_8, .unset, .unset, .unset, .unset, .unset, .unset, .unset, .unset, .unset, .unset] [(.int ((p1.toUInt32 >>> ((1:Int32) &&& 31).toUInt32).toInt32))])) _
    refine XS.iload X1130.here hx rfl (hb hby at_155) rfl ?_
    show Steps p.tables e below (T1130.setTop (mkF m 157 #[iv p0, iv p1, rv b935, iv w0_2, iv (own_v1129 w0_2), iv w0_3, iv (f7 w0_2), iv w0_4, iv w0_5, iv w0_6, iv w0_7, iv w0_8, .unset, .unset, .unset, .unset, .unset, .unset, .unset, .unset, .unset, .unset] [(.int w0_6), (.int ((p1.toUInt32 >>> ((1:Int32) &&& 31).toUInt32).toInt32))])) _
    refine XS.iand X1130.here hx rfl (hb hby at_157) rfl ?_
    show Steps p.tables e below (T1130.setTop (mkF m 158 #[iv p0, iv p1, rv b935, iv w0_2, iv (own_v1129 w0_2), iv w0_3, iv (f7 w0_2), iv w0_4, iv w0_5, iv w0_6, iv w0_7, iv w0_8, .unset, .unset, .unset, .unset, .unset, .unset, .unset, .unset, .unset, .unset] [(.int (((p1.toUInt32 >>> ((1:Int32) &&& 31).toUInt32).toInt32) &&& w0_6))])) _
    refine XS.istore X1130.here hx rfl (hb hby at_158) rfl (l' := #[iv p0, iv p1, rv b935, iv w0_2, iv (own_v1129 w0_2), iv w0_3, iv (f7 w0_2), iv w0_4, iv w0_5, iv w0_6, iv w0_7, iv w0_8, .val (.int (((p1.toUInt32 >>> ((1:Int32) &&& 31).toUInt32).toInt32) &&& w0_6)), .unset, .unset, .unset, .unset, .unset, .unset, .unset, .unset, .unset]) rfl ?_
    show Steps p.tables e below (T1130.setTop (mkF m 160 #[iv p0, iv p1, rv b935, iv w0_2, iv (own_v1129 w0_2), iv w0_3, iv (f7 w0_2), iv w0_4, iv w0_5, iv w0_6, iv w0_7, iv w0_8, .val (.int (((p1.toUInt32 >>> ((1:Int32) &&& 31).toUInt32).toInt32) &&& w0_6)), .unset, .unset, .unset, .unset, .unset, .unset, .unset, .unset, .unset] [])) _
    refine XS.iload X1130.here hx rfl (hb hby at_160) rfl ?_
    exact k
  obtain ⟨w0_9, hw0_9⟩ : ∃ z : Int32, z = (if (((p1.toUInt32 >>> ((1:Int32) &&& 31).toUInt32).toInt32) &&& w0_6) = (0:Int32) then w0_6 else (((p1.toUInt32 >>> ((1:Int32) &&& 31).toUInt32).toInt32) &&& w0_6)) := ⟨_, rfl⟩
  have hm2 := own_m2 hm1 hw0_3 hmb.1 hw0_6 hw0_9
  refine own_pre (A := T1130.setTop (mkF m 169 #[iv p0, iv p1, rv b935, iv w0_2, iv (own_v1129 w0_2), iv w0_3, iv (f7 w0_2), iv w0_4, iv w0_5, iv w0_6, iv w0_7, iv w0_8, iv w0_9, .unset, .unset, .unset, .unset, .unset, .unset, .unset, .unset, .unset] [])) (fun t k => ?_) ?_
  · show Steps p.tables e below (T1130.setTop (mkF m 162 #[iv p0, iv p1, rv b935, iv w0_2, iv (own_v1129 w0_2), iv w0_3, iv (f7 w0_2), iv w0_4, iv w0_5, iv w0_6, iv w0_7, iv w0_8, .val (.int (((p1.toUInt32 >>> ((1:Int32) &&& 31).toUInt32).toInt32) &&& w0_6)), .unset, .unset, .unset, .unset, .unset, .unset, .unset, .unset, .unset] [(.int (((p1.toUInt32 >>> ((1:Int32) &&& 31).toUInt32).toInt32) &&& w0_6))])) _
    by_cases hm162_11 : (((p1.toUInt32 >>> ((1:Int32) &&& 31).toUInt32).toInt32) &&& w0_6) = (0:Int32)
    · refine XS.ifNo X1130.here hx rfl (hb hby at_162) rfl (XT.i0_ne_f hm162_11) ?_
      show Steps p.tables e below (T1130.setTop (mkF m 165 #[iv p0, iv p1, rv b935, iv w0_2, iv (own_v1129 w0_2), iv w0_3, iv (f7 w0_2), iv w0_4, iv w0_5, iv w0_6, iv w0_7, iv w0_8, .val (.int (((p1.toUInt32 >>> ((1:Int32) &&& 31).toUInt32).toInt32) &&& w0_6)), .unset, .unset, .unset, .unset, .unset, .unset, .unset, .unset, .unset] [])) _
      refine XS.iload X1130.here hx rfl (hb hby at_165) rfl ?_
      show Steps p.tables e below (T1130.setTop (mkF m 167 #[iv p0, iv p1, rv b935, iv w0_2, iv (own_v1129 w0_2), iv w0_3, iv (f7 w0_2), iv w0_4, iv w0_5, iv w0_6, iv w0_7, iv w0_8, .val (.int (((p1.toUInt32 >>> ((1:Int32) &&& 31).toUInt32).toInt32) &&& w0_6)), .unset, .unset, .unset, .unset, .unset, .unset, .unset, .unset, .unset] [(.int w0_6)])) _
      refine XS.istore X1130.here hx rfl (hb hby at_167) rfl (l' := #[iv p0, iv p1, rv b935, iv w0_2, iv (own_v1129 w0_2), iv w0_3, iv (f7 w0_2), iv w0_4, iv w0_5, iv w0_6, iv w0_7, iv w0_8, iv w0_6, .unset, .unset, .unset, .unset, .unset, .unset, .unset, .unset, .unset]) rfl ?_
      rw [hw0_9.trans (if_pos hm162_11)] at k
      exact k
    · refine XS.ifYes X1130.here hx rfl (pc0 := 162) (pc' := 169) rfl (hb hby at_162) rfl (XT.i0_ne_t hm162_11) (by decide) (by decide) ?_
      rw [hw0_9.trans (if_neg hm162_11)] at k
      exact k
  refine own_pre (A := T1130.setTop (mkF m 172 #[iv p0, iv p1, rv b935, iv w0_2, iv (own_v1129 w0_2), iv w0_3, iv (f7 w0_2), iv w0_4, iv w0_5, iv w0_6, iv w0_7, iv w0_8, iv w0_9, .unset, .unset, .unset, .unset, .unset, .unset, .unset, .unset, .unset] [(.int w0_9), (.ref b935)])) (fun t k => ?_) ?_
  · show Steps p.tables e below (T1130.setTop (mkF m 169 #[iv p0, iv p1, rv b935, iv w0_2, iv (own_v1129 w0_2), iv w0_3, iv (f7 w0_2), iv w0_4, iv w0_5, iv w0_6, iv w0_7, iv w0_8, iv w0_9, .unset, .unset, .unset, .unset, .unset, .unset, .unset, .unset, .unset] [])) _
    refine XS.aloadN X1130.here hx rfl (hb hby at_169) rfl rfl ?_
    show Steps p.tables e below (T1130.setTop (mkF m 170 #[iv p0, iv p1, rv b935, iv w0_2, iv (own_v1129 w0_2), iv w0_3, iv (f7 w0_2), iv w0_4, iv w0_5, iv w0_6, iv w0_7, iv w0_8, iv w0_9, .unset, .unset, .unset, .unset, .unset, .unset, .unset, .unset, .unset] [(.ref b935)])) _
    refine XS.iload X1130.here hx rfl (hb hby at_170) rfl ?_
    exact k
  have F1133 := (F1071.keep K1070)
  have F1134 := (G1063.keep K1070 (ninS (Ne.symm ne1000) (ninS ne953 (ninS ne954 (ninS ne955 (ninS ne956 nin0))))))
  have F1135 := (G1065.keep K1070 (ninS (Ne.symm ne1002) (ninS ne958 (ninS ne959 (ninS ne960 (ninS ne961 nin0))))))
  have F1136 := (G1069.keep K1070 (ninS (Ne.symm ne1012) (ninS (Ne.symm ne966) (ninS (Ne.symm ne969) (ninS (Ne.symm ne971) (ninS (Ne.symm ne972) nin0))))))
  have hf1142 : ((f4 w0_9 (0:Int32)) = (0:Int32)) → ((f4 w0_9 (1:Int32)) = (0:Int32)) → ((f4 w0_9 (2:Int32)) = (0:Int32)) → (¬ ((f4 w0_9 (3:Int32)) = (0:Int32))) → (own_In (3:Int32) (own_v1121 w0_2).length) ∧ (own_In (own_at (own_v1121 w0_2) (3:Int32)) (own_v1127 w0_2).length) ∧ (own_In (3:Int32) (own_v1064 w0_2).length) ∧ (¬ ((own_at (own_v1064 w0_2) (3:Int32)) < (own_at (own_v1127 w0_2) (own_at (own_v1121 w0_2) (3:Int32)))) → own_In (own_at (own_v1121 w0_2) (3:Int32)) (own_v1123 w0_2).length) ∧ (¬ ((own_at (own_v1064 w0_2) (3:Int32)) < (own_at (own_v1127 w0_2) (own_at (own_v1121 w0_2) (3:Int32)))) → own_In (own_at (own_v1127 w0_2) (own_at (own_v1121 w0_2) (3:Int32))) (own_v1062 w0_2).length) ∧ (¬ ((own_at (own_v1064 w0_2) (3:Int32)) < (own_at (own_v1127 w0_2) (own_at (own_v1121 w0_2) (3:Int32)))) → own_In (own_at (own_v1064 w0_2) (3:Int32)) (own_v1062 w0_2).length) ∧ (¬ ((own_at (own_v1064 w0_2) (3:Int32)) < (own_at (own_v1127 w0_2) (own_at (own_v1121 w0_2) (3:Int32)))) → own_In (own_at (own_v1062 w0_2) (own_at (own_v1127 w0_2) (own_at (own_v1121 w0_2) (3:Int32)))) (own_v1064 w0_2).length) ∧ (¬ ((own_at (own_v1064 w0_2) (3:Int32)) < (own_at (own_v1127 w0_2) (own_at (own_v1121 w0_2) (3:Int32)))) → (own_at (own_v1127 w0_2) (own_at (own_v1121 w0_2) (3:Int32))) = (own_at (own_v1123 w0_2) (own_at (own_v1121 w0_2) (3:Int32))) → own_In (own_v1060 w0_2) (own_v1068 w0_2).length) := by subst hw0_1 hw0_3 hw0_4 hw0_6 hw0_7 hw0_8; exact own_fin1141 w0_2 hm1 w0_5 hmb.1 w0_9 hm2.1 hm2.2
  have hf1144 : ((f4 w0_9 (0:Int32)) = (0:Int32)) → ((f4 w0_9 (1:Int32)) = (0:Int32)) → (¬ ((f4 w0_9 (2:Int32)) = (0:Int32))) → (own_In (2:Int32) (own_v1121 w0_2).length) ∧ (own_In (own_at (own_v1121 w0_2) (2:Int32)) (own_v1127 w0_2).length) ∧ (own_In (2:Int32) (own_v1064 w0_2).length) ∧ (¬ ((own_at (own_v1064 w0_2) (2:Int32)) < (own_at (own_v1127 w0_2) (own_at (own_v1121 w0_2) (2:Int32)))) → own_In (own_at (own_v1121 w0_2) (2:Int32)) (own_v1123 w0_2).length) ∧ (¬ ((own_at (own_v1064 w0_2) (2:Int32)) < (own_at (own_v1127 w0_2) (own_at (own_v1121 w0_2) (2:Int32)))) → own_In (own_at (own_v1127 w0_2) (own_at (own_v1121 w0_2) (2:Int32))) (own_v1062 w0_2).length) ∧ (¬ ((own_at (own_v1064 w0_2) (2:Int32)) < (own_at (own_v1127 w0_2) (own_at (own_v1121 w0_2) (2:Int32)))) → own_In (own_at (own_v1064 w0_2) (2:Int32)) (own_v1062 w0_2).length) ∧ (¬ ((own_at (own_v1064 w0_2) (2:Int32)) < (own_at (own_v1127 w0_2) (own_at (own_v1121 w0_2) (2:Int32)))) → own_In (own_at (own_v1062 w0_2) (own_at (own_v1127 w0_2) (own_at (own_v1121 w0_2) (2:Int32)))) (own_v1064 w0_2).length) ∧ (¬ ((own_at (own_v1064 w0_2) (2:Int32)) < (own_at (own_v1127 w0_2) (own_at (own_v1121 w0_2) (2:Int32)))) → (own_at (own_v1127 w0_2) (own_at (own_v1121 w0_2) (2:Int32))) = (own_at (own_v1123 w0_2) (own_at (own_v1121 w0_2) (2:Int32))) → own_In (own_v1060 w0_2) (own_v1068 w0_2).length) := by subst hw0_1 hw0_3 hw0_4 hw0_6 hw0_7 hw0_8; exact own_fin1143 w0_2 hm1 w0_5 hmb.1 w0_9 hm2.1 hm2.2
  have hf1146 : ((f4 w0_9 (0:Int32)) = (0:Int32)) → ((f4 w0_9 (1:Int32)) = (0:Int32)) → (¬ ((f4 w0_9 (2:Int32)) = (0:Int32))) → (¬ ((f4 w0_9 (3:Int32)) = (0:Int32))) → (own_In (3:Int32) (own_v1121 w0_2).length) ∧ (own_In (own_at (own_v1121 w0_2) (3:Int32)) (own_v300 (own_v1062 w0_2) (own_v1064 w0_2) (own_v1121 w0_2) (own_v1123 w0_2) (own_v1127 w0_2) (own_v1068 w0_2) (own_v1119 w0_2) (own_v1060 w0_2)).length) ∧ (own_In (3:Int32) (own_v298 (own_v1062 w0_2) (own_v1064 w0_2) (own_v1121 w0_2) (own_v1123 w0_2) (own_v1127 w0_2) (own_v1068 w0_2) (own_v1119 w0_2) (own_v1060 w0_2)).length) ∧ (¬ ((own_at (own_v298 (own_v1062 w0_2) (own_v1064 w0_2) (own_v1121 w0_2) (own_v1123 w0_2) (own_v1127 w0_2) (own_v1068 w0_2) (own_v1119 w0_2) (own_v1060 w0_2)) (3:Int32)) < (own_at (own_v300 (own_v1062 w0_2) (own_v1064 w0_2) (own_v1121 w0_2) (own_v1123 w0_2) (own_v1127 w0_2) (own_v1068 w0_2) (own_v1119 w0_2) (own_v1060 w0_2)) (own_at (own_v1121 w0_2) (3:Int32)))) → own_In (own_at (own_v1121 w0_2) (3:Int32)) (own_v1123 w0_2).length) ∧ (¬ ((own_at (own_v298 (own_v1062 w0_2) (own_v1064 w0_2) (own_v1121 w0_2) (own_v1123 w0_2) (own_v1127 w0_2) (own_v1068 w0_2) (own_v1119 w0_2) (own_v1060 w0_2)) (3:Int32)) < (own_at (own_v300 (own_v1062 w0_2) (own_v1064 w0_2) (own_v1121 w0_2) (own_v1123 w0_2) (own_v1127 w0_2) (own_v1068 w0_2) (own_v1119 w0_2) (own_v1060 w0_2)) (own_at (own_v1121 w0_2) (3:Int32)))) → own_In (own_at (own_v300 (own_v1062 w0_2) (own_v1064 w0_2) (own_v1121 w0_2) (own_v1123 w0_2) (own_v1127 w0_2) (own_v1068 w0_2) (own_v1119 w0_2) (own_v1060 w0_2)) (own_at (own_v1121 w0_2) (3:Int32))) (own_v296 (own_v1062 w0_2) (own_v1064 w0_2) (own_v1121 w0_2) (own_v1123 w0_2) (own_v1127 w0_2) (own_v1068 w0_2) (own_v1119 w0_2) (own_v1060 w0_2)).length) ∧ (¬ ((own_at (own_v298 (own_v1062 w0_2) (own_v1064 w0_2) (own_v1121 w0_2) (own_v1123 w0_2) (own_v1127 w0_2) (own_v1068 w0_2) (own_v1119 w0_2) (own_v1060 w0_2)) (3:Int32)) < (own_at (own_v300 (own_v1062 w0_2) (own_v1064 w0_2) (own_v1121 w0_2) (own_v1123 w0_2) (own_v1127 w0_2) (own_v1068 w0_2) (own_v1119 w0_2) (own_v1060 w0_2)) (own_at (own_v1121 w0_2) (3:Int32)))) → own_In (own_at (own_v298 (own_v1062 w0_2) (own_v1064 w0_2) (own_v1121 w0_2) (own_v1123 w0_2) (own_v1127 w0_2) (own_v1068 w0_2) (own_v1119 w0_2) (own_v1060 w0_2)) (3:Int32)) (own_v296 (own_v1062 w0_2) (own_v1064 w0_2) (own_v1121 w0_2) (own_v1123 w0_2) (own_v1127 w0_2) (own_v1068 w0_2) (own_v1119 w0_2) (own_v1060 w0_2)).length) ∧ (¬ ((own_at (own_v298 (own_v1062 w0_2) (own_v1064 w0_2) (own_v1121 w0_2) (own_v1123 w0_2) (own_v1127 w0_2) (own_v1068 w0_2) (own_v1119 w0_2) (own_v1060 w0_2)) (3:Int32)) < (own_at (own_v300 (own_v1062 w0_2) (own_v1064 w0_2) (own_v1121 w0_2) (own_v1123 w0_2) (own_v1127 w0_2) (own_v1068 w0_2) (own_v1119 w0_2) (own_v1060 w0_2)) (own_at (own_v1121 w0_2) (3:Int32)))) → own_In (own_at (own_v296 (own_v1062 w0_2) (own_v1064 w0_2) (own_v1121 w0_2) (own_v1123 w0_2) (own_v1127 w0_2) (own_v1068 w0_2) (own_v1119 w0_2) (own_v1060 w0_2)) (own_at (own_v300 (own_v1062 w0_2) (own_v1064 w0_2) (own_v1121 w0_2) (own_v1123 w0_2) (own_v1127 w0_2) (own_v1068 w0_2) (own_v1119 w0_2) (own_v1060 w0_2)) (own_at (own_v1121 w0_2) (3:Int32)))) (own_v298 (own_v1062 w0_2) (own_v1064 w0_2) (own_v1121 w0_2) (own_v1123 w0_2) (own_v1127 w0_2) (own_v1068 w0_2) (own_v1119 w0_2) (own_v1060 w0_2)).length) ∧ (¬ ((own_at (own_v298 (own_v1062 w0_2) (own_v1064 w0_2) (own_v1121 w0_2) (own_v1123 w0_2) (own_v1127 w0_2) (own_v1068 w0_2) (own_v1119 w0_2) (own_v1060 w0_2)) (3:Int32)) < (own_at (own_v300 (own_v1062 w0_2) (own_v1064 w0_2) (own_v1121 w0_2) (own_v1123 w0_2) (own_v1127 w0_2) (own_v1068 w0_2) (own_v1119 w0_2) (own_v1060 w0_2)) (own_at (own_v1121 w0_2) (3:Int32)))) → (own_at (own_v300 (own_v1062 w0_2) (own_v1064 w0_2) (own_v1121 w0_2) (own_v1123 w0_2) (own_v1127 w0_2) (own_v1068 w0_2) (own_v1119 w0_2) (own_v1060 w0_2)) (own_at (own_v1121 w0_2) (3:Int32))) = (own_at (own_v1123 w0_2) (own_at (own_v1121 w0_2) (3:Int32))) → own_In (own_v294 (own_v1062 w0_2) (own_v1064 w0_2) (own_v1121 w0_2) (own_v1123 w0_2) (own_v1127 w0_2) (own_v1068 w0_2) (own_v1119 w0_2) (own_v1060 w0_2)) (own_v302 (own_v1062 w0_2) (own_v1064 w0_2) (own_v1121 w0_2) (own_v1123 w0_2) (own_v1127 w0_2) (own_v1068 w0_2) (own_v1119 w0_2) (own_v1060 w0_2)).length) := by subst hw0_1 hw0_3 hw0_4 hw0_6 hw0_7 hw0_8; exact own_fin1145 w0_2 hm1 w0_5 hmb.1 w0_9 hm2.1 hm2.2
  have hf1148 : ((f4 w0_9 (0:Int32)) = (0:Int32)) → (¬ ((f4 w0_9 (1:Int32)) = (0:Int32))) → (own_In (1:Int32) (own_v1121 w0_2).length) ∧ (own_In (own_at (own_v1121 w0_2) (1:Int32)) (own_v1127 w0_2).length) ∧ (own_In (1:Int32) (own_v1064 w0_2).length) ∧ (¬ ((own_at (own_v1064 w0_2) (1:Int32)) < (own_at (own_v1127 w0_2) (own_at (own_v1121 w0_2) (1:Int32)))) → own_In (own_at (own_v1121 w0_2) (1:Int32)) (own_v1123 w0_2).length) ∧ (¬ ((own_at (own_v1064 w0_2) (1:Int32)) < (own_at (own_v1127 w0_2) (own_at (own_v1121 w0_2) (1:Int32)))) → own_In (own_at (own_v1127 w0_2) (own_at (own_v1121 w0_2) (1:Int32))) (own_v1062 w0_2).length) ∧ (¬ ((own_at (own_v1064 w0_2) (1:Int32)) < (own_at (own_v1127 w0_2) (own_at (own_v1121 w0_2) (1:Int32)))) → own_In (own_at (own_v1064 w0_2) (1:Int32)) (own_v1062 w0_2).length) ∧ (¬ ((own_at (own_v1064 w0_2) (1:Int32)) < (own_at (own_v1127 w0_2) (own_at (own_v1121 w0_2) (1:Int32)))) → own_In (own_at (own_v1062 w0_2) (own_at (own_v1127 w0_2) (own_at (own_v1121 w0_2) (1:Int32)))) (own_v1064 w0_2).length) ∧ (¬ ((own_at (own_v1064 w0_2) (1:Int32)) < (own_at (own_v1127 w0_2) (own_at (own_v1121 w0_2) (1:Int32)))) → (own_at (own_v1127 w0_2) (own_at (own_v1121 w0_2) (1:Int32))) = (own_at (own_v1123 w0_2) (own_at (own_v1121 w0_2) (1:Int32))) → own_In (own_v1060 w0_2) (own_v1068 w0_2).length) := by subst hw0_1 hw0_3 hw0_4 hw0_6 hw0_7 hw0_8; exact own_fin1147 w0_2 hm1 w0_5 hmb.1 w0_9 hm2.1 hm2.2
  have hf1150 : ((f4 w0_9 (0:Int32)) = (0:Int32)) → (¬ ((f4 w0_9 (1:Int32)) = (0:Int32))) → ((f4 w0_9 (2:Int32)) = (0:Int32)) → (¬ ((f4 w0_9 (3:Int32)) = (0:Int32))) → (own_In (3:Int32) (own_v1121 w0_2).length) ∧ (own_In (own_at (own_v1121 w0_2) (3:Int32)) (own_v356 (own_v1062 w0_2) (own_v1064 w0_2) (own_v1121 w0_2) (own_v1123 w0_2) (own_v1127 w0_2) (own_v1068 w0_2) (own_v1119 w0_2) (own_v1060 w0_2)).length) ∧ (own_In (3:Int32) (own_v354 (own_v1062 w0_2) (own_v1064 w0_2) (own_v1121 w0_2) (own_v1123 w0_2) (own_v1127 w0_2) (own_v1068 w0_2) (own_v1119 w0_2) (own_v1060 w0_2)).length) ∧ (¬ ((own_at (own_v354 (own_v1062 w0_2) (own_v1064 w0_2) (own_v1121 w0_2) (own_v1123 w0_2) (own_v1127 w0_2) (own_v1068 w0_2) (own_v1119 w0_2) (own_v1060 w0_2)) (3:Int32)) < (own_at (own_v356 (own_v1062 w0_2) (own_v1064 w0_2) (own_v1121 w0_2) (own_v1123 w0_2) (own_v1127 w0_2) (own_v1068 w0_2) (own_v1119 w0_2) (own_v1060 w0_2)) (own_at (own_v1121 w0_2) (3:Int32)))) → own_In (own_at (own_v1121 w0_2) (3:Int32)) (own_v1123 w0_2).length) ∧ (¬ ((own_at (own_v354 (own_v1062 w0_2) (own_v1064 w0_2) (own_v1121 w0_2) (own_v1123 w0_2) (own_v1127 w0_2) (own_v1068 w0_2) (own_v1119 w0_2) (own_v1060 w0_2)) (3:Int32)) < (own_at (own_v356 (own_v1062 w0_2) (own_v1064 w0_2) (own_v1121 w0_2) (own_v1123 w0_2) (own_v1127 w0_2) (own_v1068 w0_2) (own_v1119 w0_2) (own_v1060 w0_2)) (own_at (own_v1121 w0_2) (3:Int32)))) → own_In (own_at (own_v356 (own_v1062 w0_2) (own_v1064 w0_2) (own_v1121 w0_2) (own_v1123 w0_2) (own_v1127 w0_2) (own_v1068 w0_2) (own_v1119 w0_2) (own_v1060 w0_2)) (own_at (own_v1121 w0_2) (3:Int32))) (own_v352 (own_v1062 w0_2) (own_v1064 w0_2) (own_v1121 w0_2) (own_v1123 w0_2) (own_v1127 w0_2) (own_v1068 w0_2) (own_v1119 w0_2) (own_v1060 w0_2)).length) ∧ (¬ ((own_at (own_v354 (own_v1062 w0_2) (own_v1064 w0_2) (own_v1121 w0_2) (own_v1123 w0_2) (own_v1127 w0_2) (own_v1068 w0_2) (own_v1119 w0_2) (own_v1060 w0_2)) (3:Int32)) < (own_at (own_v356 (own_v1062 w0_2) (own_v1064 w0_2) (own_v1121 w0_2) (own_v1123 w0_2) (own_v1127 w0_2) (own_v1068 w0_2) (own_v1119 w0_2) (own_v1060 w0_2)) (own_at (own_v1121 w0_2) (3:Int32)))) → own_In (own_at (own_v354 (own_v1062 w0_2) (own_v1064 w0_2) (own_v1121 w0_2) (own_v1123 w0_2) (own_v1127 w0_2) (own_v1068 w0_2) (own_v1119 w0_2) (own_v1060 w0_2)) (3:Int32)) (own_v352 (own_v1062 w0_2) (own_v1064 w0_2) (own_v1121 w0_2) (own_v1123 w0_2) (own_v1127 w0_2) (own_v1068 w0_2) (own_v1119 w0_2) (own_v1060 w0_2)).length) ∧ (¬ ((own_at (own_v354 (own_v1062 w0_2) (own_v1064 w0_2) (own_v1121 w0_2) (own_v1123 w0_2) (own_v1127 w0_2) (own_v1068 w0_2) (own_v1119 w0_2) (own_v1060 w0_2)) (3:Int32)) < (own_at (own_v356 (own_v1062 w0_2) (own_v1064 w0_2) (own_v1121 w0_2) (own_v1123 w0_2) (own_v1127 w0_2) (own_v1068 w0_2) (own_v1119 w0_2) (own_v1060 w0_2)) (own_at (own_v1121 w0_2) (3:Int32)))) → own_In (own_at (own_v352 (own_v1062 w0_2) (own_v1064 w0_2) (own_v1121 w0_2) (own_v1123 w0_2) (own_v1127 w0_2) (own_v1068 w0_2) (own_v1119 w0_2) (own_v1060 w0_2)) (own_at (own_v356 (own_v1062 w0_2) (own_v1064 w0_2) (own_v1121 w0_2) (own_v1123 w0_2) (own_v1127 w0_2) (own_v1068 w0_2) (own_v1119 w0_2) (own_v1060 w0_2)) (own_at (own_v1121 w0_2) (3:Int32)))) (own_v354 (own_v1062 w0_2) (own_v1064 w0_2) (own_v1121 w0_2) (own_v1123 w0_2) (own_v1127 w0_2) (own_v1068 w0_2) (own_v1119 w0_2) (own_v1060 w0_2)).length) ∧ (¬ ((own_at (own_v354 (own_v1062 w0_2) (own_v1064 w0_2) (own_v1121 w0_2) (own_v1123 w0_2) (own_v1127 w0_2) (own_v1068 w0_2) (own_v1119 w0_2) (own_v1060 w0_2)) (3:Int32)) < (own_at (own_v356 (own_v1062 w0_2) (own_v1064 w0_2) (own_v1121 w0_2) (own_v1123 w0_2) (own_v1127 w0_2) (own_v1068 w0_2) (own_v1119 w0_2) (own_v1060 w0_2)) (own_at (own_v1121 w0_2) (3:Int32)))) → (own_at (own_v356 (own_v1062 w0_2) (own_v1064 w0_2) (own_v1121 w0_2) (own_v1123 w0_2) (own_v1127 w0_2) (own_v1068 w0_2) (own_v1119 w0_2) (own_v1060 w0_2)) (own_at (own_v1121 w0_2) (3:Int32))) = (own_at (own_v1123 w0_2) (own_at (own_v1121 w0_2) (3:Int32))) → own_In (own_v350 (own_v1062 w0_2) (own_v1064 w0_2) (own_v1121 w0_2) (own_v1123 w0_2) (own_v1127 w0_2) (own_v1068 w0_2) (own_v1119 w0_2) (own_v1060 w0_2)) (own_v358 (own_v1062 w0_2) (own_v1064 w0_2) (own_v1121 w0_2) (own_v1123 w0_2) (own_v1127 w0_2) (own_v1068 w0_2) (own_v1119 w0_2) (own_v1060 w0_2)).length) := by subst hw0_1 hw0_3 hw0_4 hw0_6 hw0_7 hw0_8; exact own_fin1149 w0_2 hm1 w0_5 hmb.1 w0_9 hm2.1 hm2.2
  have hf1152 : ((f4 w0_9 (0:Int32)) = (0:Int32)) → (¬ ((f4 w0_9 (1:Int32)) = (0:Int32))) → (¬ ((f4 w0_9 (2:Int32)) = (0:Int32))) → (own_In (2:Int32) (own_v1121 w0_2).length) ∧ (own_In (own_at (own_v1121 w0_2) (2:Int32)) (own_v356 (own_v1062 w0_2) (own_v1064 w0_2) (own_v1121 w0_2) (own_v1123 w0_2) (own_v1127 w0_2) (own_v1068 w0_2) (own_v1119 w0_2) (own_v1060 w0_2)).length) ∧ (own_In (2:Int32) (own_v354 (own_v1062 w0_2) (own_v1064 w0_2) (own_v1121 w0_2) (own_v1123 w0_2) (own_v1127 w0_2) (own_v1068 w0_2) (own_v1119 w0_2) (own_v1060 w0_2)).length) ∧ (¬ ((own_at (own_v354 (own_v1062 w0_2) (own_v1064 w0_2) (own_v1121 w0_2) (own_v1123 w0_2) (own_v1127 w0_2) (own_v1068 w0_2) (own_v1119 w0_2) (own_v1060 w0_2)) (2:Int32)) < (own_at (own_v356 (own_v1062 w0_2) (own_v1064 w0_2) (own_v1121 w0_2) (own_v1123 w0_2) (own_v1127 w0_2) (own_v1068 w0_2) (own_v1119 w0_2) (own_v1060 w0_2)) (own_at (own_v1121 w0_2) (2:Int32)))) → own_In (own_at (own_v1121 w0_2) (2:Int32)) (own_v1123 w0_2).length) ∧ (¬ ((own_at (own_v354 (own_v1062 w0_2) (own_v1064 w0_2) (own_v1121 w0_2) (own_v1123 w0_2) (own_v1127 w0_2) (own_v1068 w0_2) (own_v1119 w0_2) (own_v1060 w0_2)) (2:Int32)) < (own_at (own_v356 (own_v1062 w0_2) (own_v1064 w0_2) (own_v1121 w0_2) (own_v1123 w0_2) (own_v1127 w0_2) (own_v1068 w0_2) (own_v1119 w0_2) (own_v1060 w0_2)) (own_at (own_v1121 w0_2) (2:Int32)))) → own_In (own_at (own_v356 (own_v1062 w0_2) (own_v1064 w0_2) (own_v1121 w0_2) (own_v1123 w0_2) (own_v1127 w0_2) (own_v1068 w0_2) (own_v1119 w0_2) (own_v1060 w0_2)) (own_at (own_v1121 w0_2) (2:Int32))) (own_v352 (own_v1062 w0_2) (own_v1064 w0_2) (own_v1121 w0_2) (own_v1123 w0_2) (own_v1127 w0_2) (own_v1068 w0_2) (own_v1119 w0_2) (own_v1060 w0_2)).length) ∧ (¬ ((own_at (own_v354 (own_v1062 w0_2) (own_v1064 w0_2) (own_v1121 w0_2) (own_v1123 w0_2) (own_v1127 w0_2) (own_v1068 w0_2) (own_v1119 w0_2) (own_v1060 w0_2)) (2:Int32)) < (own_at (own_v356 (own_v1062 w0_2) (own_v1064 w0_2) (own_v1121 w0_2) (own_v1123 w0_2) (own_v1127 w0_2) (own_v1068 w0_2) (own_v1119 w0_2) (own_v1060 w0_2)) (own_at (own_v1121 w0_2) (2:Int32)))) → own_In (own_at (own_v354 (own_v1062 w0_2) (own_v1064 w0_2) (own_v1121 w0_2) (own_v1123 w0_2) (own_v1127 w0_2) (own_v1068 w0_2) (own_v1119 w0_2) (own_v1060 w0_2)) (2:Int32)) (own_v352 (own_v1062 w0_2) (own_v1064 w0_2) (own_v1121 w0_2) (own_v1123 w0_2) (own_v1127 w0_2) (own_v1068 w0_2) (own_v1119 w0_2) (own_v1060 w0_2)).length) ∧ (¬ ((own_at (own_v354 (own_v1062 w0_2) (own_v1064 w0_2) (own_v1121 w0_2) (own_v1123 w0_2) (own_v1127 w0_2) (own_v1068 w0_2) (own_v1119 w0_2) (own_v1060 w0_2)) (2:Int32)) < (own_at (own_v356 (own_v1062 w0_2) (own_v1064 w0_2) (own_v1121 w0_2) (own_v1123 w0_2) (own_v1127 w0_2) (own_v1068 w0_2) (own_v1119 w0_2) (own_v1060 w0_2)) (own_at (own_v1121 w0_2) (2:Int32)))) → own_In (own_at (own_v352 (own_v1062 w0_2) (own_v1064 w0_2) (own_v1121 w0_2) (own_v1123 w0_2) (own_v1127 w0_2) (own_v1068 w0_2) (own_v1119 w0_2) (own_v1060 w0_2)) (own_at (own_v356 (own_v1062 w0_2) (own_v1064 w0_2) (own_v1121 w0_2) (own_v1123 w0_2) (own_v1127 w0_2) (own_v1068 w0_2) (own_v1119 w0_2) (own_v1060 w0_2)) (own_at (own_v1121 w0_2) (2:Int32)))) (own_v354 (own_v1062 w0_2) (own_v1064 w0_2) (own_v1121 w0_2) (own_v1123 w0_2) (own_v1127 w0_2) (own_v1068 w0_2) (own_v1119 w0_2) (own_v1060 w0_2)).length) ∧ (¬ ((own_at (own_v354 (own_v1062 w0_2) (own_v1064 w0_2) (own_v1121 w0_2) (own_v1123 w0_2) (own_v1127 w0_2) (own_v1068 w0_2) (own_v1119 w0_2) (own_v1060 w0_2)) (2:Int32)) < (own_at (own_v356 (own_v1062 w0_2) (own_v1064 w0_2) (own_v1121 w0_2) (own_v1123 w0_2) (own_v1127 w0_2) (own_v1068 w0_2) (own_v1119 w0_2) (own_v1060 w0_2)) (own_at (own_v1121 w0_2) (2:Int32)))) → (own_at (own_v356 (own_v1062 w0_2) (own_v1064 w0_2) (own_v1121 w0_2) (own_v1123 w0_2) (own_v1127 w0_2) (own_v1068 w0_2) (own_v1119 w0_2) (own_v1060 w0_2)) (own_at (own_v1121 w0_2) (2:Int32))) = (own_at (own_v1123 w0_2) (own_at (own_v1121 w0_2) (2:Int32))) → own_In (own_v350 (own_v1062 w0_2) (own_v1064 w0_2) (own_v1121 w0_2) (own_v1123 w0_2) (own_v1127 w0_2) (own_v1068 w0_2) (own_v1119 w0_2) (own_v1060 w0_2)) (own_v358 (own_v1062 w0_2) (own_v1064 w0_2) (own_v1121 w0_2) (own_v1123 w0_2) (own_v1127 w0_2) (own_v1068 w0_2) (own_v1119 w0_2) (own_v1060 w0_2)).length) := by subst hw0_1 hw0_3 hw0_4 hw0_6 hw0_7 hw0_8; exact own_fin1151 w0_2 hm1 w0_5 hmb.1 w0_9 hm2.1 hm2.2
  have hf1154 : ((f4 w0_9 (0:Int32)) = (0:Int32)) → (¬ ((f4 w0_9 (1:Int32)) = (0:Int32))) → (¬ ((f4 w0_9 (2:Int32)) = (0:Int32))) → (¬ ((f4 w0_9 (3:Int32)) = (0:Int32))) → (own_In (3:Int32) (own_v1121 w0_2).length) ∧ (own_In (own_at (own_v1121 w0_2) (3:Int32)) (own_v416 (own_v1062 w0_2) (own_v1064 w0_2) (own_v1121 w0_2) (own_v1123 w0_2) (own_v1127 w0_2) (own_v1068 w0_2) (own_v1119 w0_2) (own_v1060 w0_2)).length) ∧ (own_In (3:Int32) (own_v414 (own_v1062 w0_2) (own_v1064 w0_2) (own_v1121 w0_2) (own_v1123 w0_2) (own_v1127 w0_2) (own_v1068 w0_2) (own_v1119 w0_2) (own_v1060 w0_2)).length) ∧ (¬ ((own_at (own_v414 (own_v1062 w0_2) (own_v1064 w0_2) (own_v1121 w0_2) (own_v1123 w0_2) (own_v1127 w0_2) (own_v1068 w0_2) (own_v1119 w0_2) (own_v1060 w0_2)) (3:Int32)) < (own_at (own_v416 (own_v1062 w0_2) (own_v1064 w0_2) (own_v1121 w0_2) (own_v1123 w0_2) (own_v1127 w0_2) (own_v1068 w0_2) (own_v1119 w0_2) (own_v1060 w0_2)) (own_at (own_v1121 w0_2) (3:Int32)))) → own_In (own_at (own_v1121 w0_2) (3:Int32)) (own_v1123 w0_2).length) ∧ (¬ ((own_at (own_v414 (own_v1062 w0_2) (own_v1064 w0_2) (own_v1121 w0_2) (own_v1123 w0_2) (own_v1127 w0_2) (own_v1068 w0_2) (own_v1119 w0_2) (own_v1060 w0_2)) (3:Int32)) < (own_at (own_v416 (own_v1062 w0_2) (own_v1064 w0_2) (own_v1121 w0_2) (own_v1123 w0_2) (own_v1127 w0_2) (own_v1068 w0_2) (own_v1119 w0_2) (own_v1060 w0_2)) (own_at (own_v1121 w0_2) (3:Int32)))) → own_In (own_at (own_v416 (own_v1062 w0_2) (own_v1064 w0_2) (own_v1121 w0_2) (own_v1123 w0_2) (own_v1127 w0_2) (own_v1068 w0_2) (own_v1119 w0_2) (own_v1060 w0_2)) (own_at (own_v1121 w0_2) (3:Int32))) (own_v412 (own_v1062 w0_2) (own_v1064 w0_2) (own_v1121 w0_2) (own_v1123 w0_2) (own_v1127 w0_2) (own_v1068 w0_2) (own_v1119 w0_2) (own_v1060 w0_2)).length) ∧ (¬ ((own_at (own_v414 (own_v1062 w0_2) (own_v1064 w0_2) (own_v1121 w0_2) (own_v1123 w0_2) (own_v1127 w0_2) (own_v1068 w0_2) (own_v1119 w0_2) (own_v1060 w0_2)) (3:Int32)) < (own_at (own_v416 (own_v1062 w0_2) (own_v1064 w0_2) (own_v1121 w0_2) (own_v1123 w0_2) (own_v1127 w0_2) (own_v1068 w0_2) (own_v1119 w0_2) (own_v1060 w0_2)) (own_at (own_v1121 w0_2) (3:Int32)))) → own_In (own_at (own_v414 (own_v1062 w0_2) (own_v1064 w0_2) (own_v1121 w0_2) (own_v1123 w0_2) (own_v1127 w0_2) (own_v1068 w0_2) (own_v1119 w0_2) (own_v1060 w0_2)) (3:Int32)) (own_v412 (own_v1062 w0_2) (own_v1064 w0_2) (own_v1121 w0_2) (own_v1123 w0_2) (own_v1127 w0_2) (own_v1068 w0_2) (own_v1119 w0_2) (own_v1060 w0_2)).length) ∧ (¬ ((own_at (own_v414 (own_v1062 w0_2) (own_v1064 w0_2) (own_v1121 w0_2) (own_v1123 w0_2) (own_v1127 w0_2) (own_v1068 w0_2) (own_v1119 w0_2) (own_v1060 w0_2)) (3:Int32)) < (own_at (own_v416 (own_v1062 w0_2) (own_v1064 w0_2) (own_v1121 w0_2) (own_v1123 w0_2) (own_v1127 w0_2) (own_v1068 w0_2) (own_v1119 w0_2) (own_v1060 w0_2)) (own_at (own_v1121 w0_2) (3:Int32)))) → own_In (own_at (own_v412 (own_v1062 w0_2) (own_v1064 w0_2) (own_v1121 w0_2) (own_v1123 w0_2) (own_v1127 w0_2) (own_v1068 w0_2) (own_v1119 w0_2) (own_v1060 w0_2)) (own_at (own_v416 (own_v1062 w0_2) (own_v1064 w0_2) (own_v1121 w0_2) (own_v1123 w0_2) (own_v1127 w0_2) (own_v1068 w0_2) (own_v1119 w0_2) (own_v1060 w0_2)) (own_at (own_v1121 w0_2) (3:Int32)))) (own_v414 (own_v1062 w0_2) (own_v1064 w0_2) (own_v1121 w0_2) (own_v1123 w0_2) (own_v1127 w0_2) (own_v1068 w0_2) (own_v1119 w0_2) (own_v1060 w0_2)).length) ∧ (¬ ((own_at (own_v414 (own_v1062 w0_2) (own_v1064 w0_2) (own_v1121 w0_2) (own_v1123 w0_2) (own_v1127 w0_2) (own_v1068 w0_2) (own_v1119 w0_2) (own_v1060 w0_2)) (3:Int32)) < (own_at (own_v416 (own_v1062 w0_2) (own_v1064 w0_2) (own_v1121 w0_2) (own_v1123 w0_2) (own_v1127 w0_2) (own_v1068 w0_2) (own_v1119 w0_2) (own_v1060 w0_2)) (own_at (own_v1121 w0_2) (3:Int32)))) → (own_at (own_v416 (own_v1062 w0_2) (own_v1064 w0_2) (own_v1121 w0_2) (own_v1123 w0_2) (own_v1127 w0_2) (own_v1068 w0_2) (own_v1119 w0_2) (own_v1060 w0_2)) (own_at (own_v1121 w0_2) (3:Int32))) = (own_at (own_v1123 w0_2) (own_at (own_v1121 w0_2) (3:Int32))) → own_In (own_v410 (own_v1062 w0_2) (own_v1064 w0_2) (own_v1121 w0_2) (own_v1123 w0_2) (own_v1127 w0_2) (own_v1068 w0_2) (own_v1119 w0_2) (own_v1060 w0_2)) (own_v418 (own_v1062 w0_2) (own_v1064 w0_2) (own_v1121 w0_2) (own_v1123 w0_2) (own_v1127 w0_2) (own_v1068 w0_2) (own_v1119 w0_2) (own_v1060 w0_2)).length) := by subst hw0_1 hw0_3 hw0_4 hw0_6 hw0_7 hw0_8; exact own_fin1153 w0_2 hm1 w0_5 hmb.1 w0_9 hm2.1 hm2.2
  have hf1156 : (¬ ((f4 w0_9 (0:Int32)) = (0:Int32))) → (own_In (0:Int32) (own_v1121 w0_2).length) ∧ (own_In (own_at (own_v1121 w0_2) (0:Int32)) (own_v1127 w0_2).length) ∧ (own_In (0:Int32) (own_v1064 w0_2).length) ∧ (¬ ((own_at (own_v1064 w0_2) (0:Int32)) < (own_at (own_v1127 w0_2) (own_at (own_v1121 w0_2) (0:Int32)))) → own_In (own_at (own_v1121 w0_2) (0:Int32)) (own_v1123 w0_2).length) ∧ (¬ ((own_at (own_v1064 w0_2) (0:Int32)) < (own_at (own_v1127 w0_2) (own_at (own_v1121 w0_2) (0:Int32)))) → own_In (own_at (own_v1127 w0_2) (own_at (own_v1121 w0_2) (0:Int32))) (own_v1062 w0_2).length) ∧ (¬ ((own_at (own_v1064 w0_2) (0:Int32)) < (own_at (own_v1127 w0_2) (own_at (own_v1121 w0_2) (0:Int32)))) → own_In (own_at (own_v1064 w0_2) (0:Int32)) (own_v1062 w0_2).length) ∧ (¬ ((own_at (own_v1064 w0_2) (0:Int32)) < (own_at (own_v1127 w0_2) (own_at (own_v1121 w0_2) (0:Int32)))) → own_In (own_at (own_v1062 w0_2) (own_at (own_v1127 w0_2) (own_at (own_v1121 w0_2) (0:Int32)))) (own_v1064 w0_2).length) ∧ (¬ ((own_at (own_v1064 w0_2) (0:Int32)) < (own_at (own_v1127 w0_2) (own_at (own_v1121 w0_2) (0:Int32)))) → (own_at (own_v1127 w0_2) (own_at (own_v1121 w0_2) (0:Int32))) = (own_at (own_v1123 w0_2) (own_at (own_v1121 w0_2) (0:Int32))) → own_In (own_v1060 w0_2) (own_v1068 w0_2).length) := by subst hw0_1 hw0_3 hw0_4 hw0_6 hw0_7 hw0_8; exact own_fin1155 w0_2 hm1 w0_5 hmb.1 w0_9 hm2.1 hm2.2
  have hf1158 : (¬ ((f4 w0_9 (0:Int32)) = (0:Int32))) → ((f4 w0_9 (1:Int32)) = (0:Int32)) → ((f4 w0_9 (2:Int32)) = (0:Int32)) → (¬ ((f4 w0_9 (3:Int32)) = (0:Int32))) → (own_In (3:Int32) (own_v1121 w0_2).length) ∧ (own_In (own_at (own_v1121 w0_2) (3:Int32)) (own_v472 (own_v1062 w0_2) (own_v1064 w0_2) (own_v1121 w0_2) (own_v1123 w0_2) (own_v1127 w0_2) (own_v1068 w0_2) (own_v1119 w0_2) (own_v1060 w0_2)).length) ∧ (own_In (3:Int32) (own_v470 (own_v1062 w0_2) (own_v1064 w0_2) (own_v1121 w0_2) (own_v1123 w0_2) (own_v1127 w0_2) (own_v1068 w0_2) (own_v1119 w0_2) (own_v1060 w0_2)).length) ∧ (¬ ((own_at (own_v470 (own_v1062 w0_2) (own_v1064 w0_2) (own_v1121 w0_2) (own_v1123 w0_2) (own_v1127 w0_2) (own_v1068 w0_2) (own_v1119 w0_2) (own_v1060 w0_2)) (3:Int32)) < (own_at (own_v472 (own_v1062 w0_2) (own_v1064 w0_2) (own_v1121 w0_2) (own_v1123 w0_2) (own_v1127 w0_2) (own_v1068 w0_2) (own_v1119 w0_2) (own_v1060 w0_2)) (own_at (own_v1121 w0_2) (3:Int32)))) → own_In (own_at (own_v1121 w0_2) (3:Int32)) (own_v1123 w0_2).length) ∧ (¬ ((own_at (own_v470 (own_v1062 w0_2) (own_v1064 w0_2) (own_v1121 w0_2) (own_v1123 w0_2) (own_v1127 w0_2) (own_v1068 w0_2) (own_v1119 w0_2) (own_v1060 w0_2)) (3:Int32)) < (own_at (own_v472 (own_v1062 w0_2) (own_v1064 w0_2) (own_v1121 w0_2) (own_v1123 w0_2) (own_v1127 w0_2) (own_v1068 w0_2) (own_v1119 w0_2) (own_v1060 w0_2)) (own_at (own_v1121 w0_2) (3:Int32)))) → own_In (own_at (own_v472 (own_v1062 w0_2) (own_v1064 w0_2) (own_v1121 w0_2) (own_v1123 w0_2) (own_v1127 w0_2) (own_v1068 w0_2) (own_v1119 w0_2) (own_v1060 w0_2)) (own_at (own_v1121 w0_2) (3:Int32))) (own_v468 (own_v1062 w0_2) (own_v1064 w0_2) (own_v1121 w0_2) (own_v1123 w0_2) (own_v1127 w0_2) (own_v1068 w0_2) (own_v1119 w0_2) (own_v1060 w0_2)).length) ∧ (¬ ((own_at (own_v470 (own_v1062 w0_2) (own_v1064 w0_2) (own_v1121 w0_2) (own_v1123 w0_2) (own_v1127 w0_2) (own_v1068 w0_2) (own_v1119 w0_2) (own_v1060 w0_2)) (3:Int32)) < (own_at (own_v472 (own_v1062 w0_2) (own_v1064 w0_2) (own_v1121 w0_2) (own_v1123 w0_2) (own_v1127 w0_2) (own_v1068 w0_2) (own_v1119 w0_2) (own_v1060 w0_2)) (own_at (own_v1121 w0_2) (3:Int32)))) → own_In (own_at (own_v470 (own_v1062 w0_2) (own_v1064 w0_2) (own_v1121 w0_2) (own_v1123 w0_2) (own_v1127 w0_2) (own_v1068 w0_2) (own_v1119 w0_2) (own_v1060 w0_2)) (3:Int32)) (own_v468 (own_v1062 w0_2) (own_v1064 w0_2) (own_v1121 w0_2) (own_v1123 w0_2) (own_v1127 w0_2) (own_v1068 w0_2) (own_v1119 w0_2) (own_v1060 w0_2)).length) ∧ (¬ ((own_at (own_v470 (own_v1062 w0_2) (own_v1064 w0_2) (own_v1121 w0_2) (own_v1123 w0_2) (own_v1127 w0_2) (own_v1068 w0_2) (own_v1119 w0_2) (own_v1060 w0_2)) (3:Int32)) < (own_at (own_v472 (own_v1062 w0_2) (own_v1064 w0_2) (own_v1121 w0_2) (own_v1123 w0_2) (own_v1127 w0_2) (own_v1068 w0_2) (own_v1119 w0_2) (own_v1060 w0_2)) (own_at (own_v1121 w0_2) (3:Int32)))) → own_In (own_at (own_v468 (own_v1062 w0_2) (own_v1064 w0_2) (own_v1121 w0_2) (own_v1123 w0_2) (own_v1127 w0_2) (own_v1068 w0_2) (own_v1119 w0_2) (own_v1060 w0_2)) (own_at (own_v472 (own_v1062 w0_2) (own_v1064 w0_2) (own_v1121 w0_2) (own_v1123 w0_2) (own_v1127 w0_2) (own_v1068 w0_2) (own_v1119 w0_2) (own_v1060 w0_2)) (own_at (own_v1121 w0_2) (3:Int32)))) (own_v470 (own_v1062 w0_2) (own_v1064 w0_2) (own_v1121 w0_2) (own_v1123 w0_2) (own_v1127 w0_2) (own_v1068 w0_2) (own_v1119 w0_2) (own_v1060 w0_2)).length) ∧ (¬ ((own_at (own_v470 (own_v1062 w0_2) (own_v1064 w0_2) (own_v1121 w0_2) (own_v1123 w0_2) (own_v1127 w0_2) (own_v1068 w0_2) (own_v1119 w0_2) (own_v1060 w0_2)) (3:Int32)) < (own_at (own_v472 (own_v1062 w0_2) (own_v1064 w0_2) (own_v1121 w0_2) (own_v1123 w0_2) (own_v1127 w0_2) (own_v1068 w0_2) (own_v1119 w0_2) (own_v1060 w0_2)) (own_at (own_v1121 w0_2) (3:Int32)))) → (own_at (own_v472 (own_v1062 w0_2) (own_v1064 w0_2) (own_v1121 w0_2) (own_v1123 w0_2) (own_v1127 w0_2) (own_v1068 w0_2) (own_v1119 w0_2) (own_v1060 w0_2)) (own_at (own_v1121 w0_2) (3:Int32))) = (own_at (own_v1123 w0_2) (own_at (own_v1121 w0_2) (3:Int32))) → own_In (own_v466 (own_v1062 w0_2) (own_v1064 w0_2) (own_v1121 w0_2) (own_v1123 w0_2) (own_v1127 w0_2) (own_v1068 w0_2) (own_v1119 w0_2) (own_v1060 w0_2)) (own_v474 (own_v1062 w0_2) (own_v1064 w0_2) (own_v1121 w0_2) (own_v1123 w0_2) (own_v1127 w0_2) (own_v1068 w0_2) (own_v1119 w0_2) (own_v1060 w0_2)).length) := by subst hw0_1 hw0_3 hw0_4 hw0_6 hw0_7 hw0_8; exact own_fin1157 w0_2 hm1 w0_5 hmb.1 w0_9 hm2.1 hm2.2
  have hf1160 : (¬ ((f4 w0_9 (0:Int32)) = (0:Int32))) → ((f4 w0_9 (1:Int32)) = (0:Int32)) → (¬ ((f4 w0_9 (2:Int32)) = (0:Int32))) → (own_In (2:Int32) (own_v1121 w0_2).length) ∧ (own_In (own_at (own_v1121 w0_2) (2:Int32)) (own_v472 (own_v1062 w0_2) (own_v1064 w0_2) (own_v1121 w0_2) (own_v1123 w0_2) (own_v1127 w0_2) (own_v1068 w0_2) (own_v1119 w0_2) (own_v1060 w0_2)).length) ∧ (own_In (2:Int32) (own_v470 (own_v1062 w0_2) (own_v1064 w0_2) (own_v1121 w0_2) (own_v1123 w0_2) (own_v1127 w0_2) (own_v1068 w0_2) (own_v1119 w0_2) (own_v1060 w0_2)).length) ∧ (¬ ((own_at (own_v470 (own_v1062 w0_2) (own_v1064 w0_2) (own_v1121 w0_2) (own_v1123 w0_2) (own_v1127 w0_2) (own_v1068 w0_2) (own_v1119 w0_2) (own_v1060 w0_2)) (2:Int32)) < (own_at (own_v472 (own_v1062 w0_2) (own_v1064 w0_2) (own_v1121 w0_2) (own_v1123 w0_2) (own_v1127 w0_2) (own_v1068 w0_2) (own_v1119 w0_2) (own_v1060 w0_2)) (own_at (own_v1121 w0_2) (2:Int32)))) → own_In (own_at (own_v1121 w0_2) (2:Int32)) (own_v1123 w0_2).length) ∧ (¬ ((own_at (own_v470 (own_v1062 w0_2) (own_v1064 w0_2) (own_v1121 w0_2) (own_v1123 w0_2) (own_v1127 w0_2) (own_v1068 w0_2) (own_v1119 w0_2) (own_v1060 w0_2)) (2:Int32)) < (own_at (own_v472 (own_v1062 w0_2) (own_v1064 w0_2) (own_v1121 w0_2) (own_v1123 w0_2) (own_v1127 w0_2) (own_v1068 w0_2) (own_v1119 w0_2) (own_v1060 w0_2)) (own_at (own_v1121 w0_2) (2:Int32)))) → own_In (own_at (own_v472 (own_v1062 w0_2) (own_v1064 w0_2) (own_v1121 w0_2) (own_v1123 w0_2) (own_v1127 w0_2) (own_v1068 w0_2) (own_v1119 w0_2) (own_v1060 w0_2)) (own_at (own_v1121 w0_2) (2:Int32))) (own_v468 (own_v1062 w0_2) (own_v1064 w0_2) (own_v1121 w0_2) (own_v1123 w0_2) (own_v1127 w0_2) (own_v1068 w0_2) (own_v1119 w0_2) (own_v1060 w0_2)).length) ∧ (¬ ((own_at (own_v470 (own_v1062 w0_2) (own_v1064 w0_2) (own_v1121 w0_2) (own_v1123 w0_2) (own_v1127 w0_2) (own_v1068 w0_2) (own_v1119 w0_2) (own_v1060 w0_2)) (2:Int32)) < (own_at (own_v472 (own_v1062 w0_2) (own_v1064 w0_2) (own_v1121 w0_2) (own_v1123 w0_2) (own_v1127 w0_2) (own_v1068 w0_2) (own_v1119 w0_2) (own_v1060 w0_2)) (own_at (own_v1121 w0_2) (2:Int32)))) → own_In (own_at (own_v470 (own_v1062 w0_2) (own_v1064 w0_2) (own_v1121 w0_2) (own_v1123 w0_2) (own_v1127 w0_2) (own_v1068 w0_2) (own_v1119 w0_2) (own_v1060 w0_2)) (2:Int32)) (own_v468 (own_v1062 w0_2) (own_v1064 w0_2) (own_v1121 w0_2) (own_v1123 w0_2) (own_v1127 w0_2) (own_v1068 w0_2) (own_v1119 w0_2) (own_v1060 w0_2)).length) ∧ (¬ ((own_at (own_v470 (own_v1062 w0_2) (own_v1064 w0_2) (own_v1121 w0_2) (own_v1123 w0_2) (own_v1127 w0_2) (own_v1068 w0_2) (own_v1119 w0_2) (own_v1060 w0_2)) (2:Int32)) < (own_at (own_v472 (own_v1062 w0_2) (own_v1064 w0_2) (own_v1121 w0_2) (own_v1123 w0_2) (own_v1127 w0_2) (own_v1068 w0_2) (own_v1119 w0_2) (own_v1060 w0_2)) (own_at (own_v1121 w0_2) (2:Int32)))) → own_In (own_at (own_v468 (own_v1062 w0_2) (own_v1064 w0_2) (own_v1121 w0_2) (own_v1123 w0_2) (own_v1127 w0_2) (own_v1068 w0_2) (own_v1119 w0_2) (own_v1060 w0_2)) (own_at (own_v472 (own_v1062 w0_2) (own_v1064 w0_2) (own_v1121 w0_2) (own_v1123 w0_2) (own_v1127 w0_2) (own_v1068 w0_2) (own_v1119 w0_2) (own_v1060 w0_2)) (own_at (own_v1121 w0_2) (2:Int32)))) (own_v470 (own_v1062 w0_2) (own_v1064 w0_2) (own_v1121 w0_2) (own_v1123 w0_2) (own_v1127 w0_2) (own_v1068 w0_2) (own_v1119 w0_2) (own_v1060 w0_2)).length) ∧ (¬ ((own_at (own_v470 (own_v1062 w0_2) (own_v1064 w0_2) (own_v1121 w0_2) (own_v1123 w0_2) (own_v1127 w0_2) (own_v1068 w0_2) (own_v1119 w0_2) (own_v1060 w0_2)) (2:Int32)) < (own_at (own_v472 (own_v1062 w0_2) (own_v1064 w0_2) (own_v1121 w0_2) (own_v1123 w0_2) (own_v1127 w0_2) (own_v1068 w0_2) (own_v1119 w0_2) (own_v1060 w0_2)) (own_at (own_v1121 w0_2) (2:Int32)))) → (own_at (own_v472 (own_v1062 w0_2) (own_v1064 w0_2) (own_v1121 w0_2) (own_v1123 w0_2) (own_v1127 w0_2) (own_v1068 w0_2) (own_v1119 w0_2) (own_v1060 w0_2)) (own_at (own_v1121 w0_2) (2:Int32))) = (own_at (own_v1123 w0_2) (own_at (own_v1121 w0_2) (2:Int32))) → own_In (own_v466 (own_v1062 w0_2) (own_v1064 w0_2) (own_v1121 w0_2) (own_v1123 w0_2) (own_v1127 w0_2) (own_v1068 w0_2) (own_v1119 w0_2) (own_v1060 w0_2)) (own_v474 (own_v1062 w0_2) (own_v1064 w0_2) (own_v1121 w0_2) (own_v1123 w0_2) (own_v1127 w0_2) (own_v1068 w0_2) (own_v1119 w0_2) (own_v1060 w0_2)).length) := by subst hw0_1 hw0_3 hw0_4 hw0_6 hw0_7 hw0_8; exact own_fin1159 w0_2 hm1 w0_5 hmb.1 w0_9 hm2.1 hm2.2
  have hf1162 : (¬ ((f4 w0_9 (0:Int32)) = (0:Int32))) → ((f4 w0_9 (1:Int32)) = (0:Int32)) → (¬ ((f4 w0_9 (2:Int32)) = (0:Int32))) → (¬ ((f4 w0_9 (3:Int32)) = (0:Int32))) → (own_In (3:Int32) (own_v1121 w0_2).length) ∧ (own_In (own_at (own_v1121 w0_2) (3:Int32)) (own_v533 (own_v1062 w0_2) (own_v1064 w0_2) (own_v1121 w0_2) (own_v1123 w0_2) (own_v1127 w0_2) (own_v1068 w0_2) (own_v1119 w0_2) (own_v1060 w0_2)).length) ∧ (own_In (3:Int32) (own_v531 (own_v1062 w0_2) (own_v1064 w0_2) (own_v1121 w0_2) (own_v1123 w0_2) (own_v1127 w0_2) (own_v1068 w0_2) (own_v1119 w0_2) (own_v1060 w0_2)).length) ∧ (¬ ((own_at (own_v531 (own_v1062 w0_2) (own_v1064 w0_2) (own_v1121 w0_2) (own_v1123 w0_2) (own_v1127 w0_2) (own_v1068 w0_2) (own_v1119 w0_2) (own_v1060 w0_2)) (3:Int32)) < (own_at (own_v533 (own_v1062 w0_2) (own_v1064 w0_2) (own_v1121 w0_2) (own_v1123 w0_2) (own_v1127 w0_2) (own_v1068 w0_2) (own_v1119 w0_2) (own_v1060 w0_2)) (own_at (own_v1121 w0_2) (3:Int32)))) → own_In (own_at (own_v1121 w0_2) (3:Int32)) (own_v1123 w0_2).length) ∧ (¬ ((own_at (own_v531 (own_v1062 w0_2) (own_v1064 w0_2) (own_v1121 w0_2) (own_v1123 w0_2) (own_v1127 w0_2) (own_v1068 w0_2) (own_v1119 w0_2) (own_v1060 w0_2)) (3:Int32)) < (own_at (own_v533 (own_v1062 w0_2) (own_v1064 w0_2) (own_v1121 w0_2) (own_v1123 w0_2) (own_v1127 w0_2) (own_v1068 w0_2) (own_v1119 w0_2) (own_v1060 w0_2)) (own_at (own_v1121 w0_2) (3:Int32)))) → own_In (own_at (own_v533 (own_v1062 w0_2) (own_v1064 w0_2) (own_v1121 w0_2) (own_v1123 w0_2) (own_v1127 w0_2) (own_v1068 w0_2) (own_v1119 w0_2) (own_v1060 w0_2)) (own_at (own_v1121 w0_2) (3:Int32))) (own_v529 (own_v1062 w0_2) (own_v1064 w0_2) (own_v1121 w0_2) (own_v1123 w0_2) (own_v1127 w0_2) (own_v1068 w0_2) (own_v1119 w0_2) (own_v1060 w0_2)).length) ∧ (¬ ((own_at (own_v531 (own_v1062 w0_2) (own_v1064 w0_2) (own_v1121 w0_2) (own_v1123 w0_2) (own_v1127 w0_2) (own_v1068 w0_2) (own_v1119 w0_2) (own_v1060 w0_2)) (3:Int32)) < (own_at (own_v533 (own_v1062 w0_2) (own_v1064 w0_2) (own_v1121 w0_2) (own_v1123 w0_2) (own_v1127 w0_2) (own_v1068 w0_2) (own_v1119 w0_2) (own_v1060 w0_2)) (own_at (own_v1121 w0_2) (3:Int32)))) → own_In (own_at (own_v531 (own_v1062 w0_2) (own_v1064 w0_2) (own_v1121 w0_2) (own_v1123 w0_2) (own_v1127 w0_2) (own_v1068 w0_2) (own_v1119 w0_2) (own_v1060 w0_2)) (3:Int32)) (own_v529 (own_v1062 w0_2) (own_v1064 w0_2) (own_v1121 w0_2) (own_v1123 w0_2) (own_v1127 w0_2) (own_v1068 w0_2) (own_v1119 w0_2) (own_v1060 w0_2)).length) ∧ (¬ ((own_at (own_v531 (own_v1062 w0_2) (own_v1064 w0_2) (own_v1121 w0_2) (own_v1123 w0_2) (own_v1127 w0_2) (own_v1068 w0_2) (own_v1119 w0_2) (own_v1060 w0_2)) (3:Int32)) < (own_at (own_v533 (own_v1062 w0_2) (own_v1064 w0_2) (own_v1121 w0_2) (own_v1123 w0_2) (own_v1127 w0_2) (own_v1068 w0_2) (own_v1119 w0_2) (own_v1060 w0_2)) (own_at (own_v1121 w0_2) (3:Int32)))) → own_In (own_at (own_v529 (own_v1062 w0_2) (own_v1064 w0_2) (own_v1121 w0_2) (own_v1123 w0_2) (own_v1127 w0_2) (own_v1068 w0_2) (own_v1119 w0_2) (own_v1060 w0_2)) (own_at (own_v533 (own_v1062 w0_2) (own_v1064 w0_2) (own_v1121 w0_2) (own_v1123 w0_2) (own_v1127 w0_2) (own_v1068 w0_2) (own_v1119 w0_2) (own_v1060 w0_2)) (own_at (own_v1121 w0_2) (3:Int32)))) (own_v531 (own_v1062 w0_2) (own_v1064 w0_2) (own_v1121 w0_2) (own_v1123 w0_2) (own_v1127 w0_2) (own_v1068 w0_2) (own_v1119 w0_2) (own_v1060 w0_2)).length) ∧ (¬ ((own_at (own_v531 (own_v1062 w0_2) (own_v1064 w0_2) (own_v1121 w0_2) (own_v1123 w0_2) (own_v1127 w0_2) (own_v1068 w0_2) (own_v1119 w0_2) (own_v1060 w0_2)) (3:Int32)) < (own_at (own_v533 (own_v1062 w0_2) (own_v1064 w0_2) (own_v1121 w0_2) (own_v1123 w0_2) (own_v1127 w0_2) (own_v1068 w0_2) (own_v1119 w0_2) (own_v1060 w0_2)) (own_at (own_v1121 w0_2) (3:Int32)))) → (own_at (own_v533 (own_v1062 w0_2) (own_v1064 w0_2) (own_v1121 w0_2) (own_v1123 w0_2) (own_v1127 w0_2) (own_v1068 w0_2) (own_v1119 w0_2) (own_v1060 w0_2)) (own_at (own_v1121 w0_2) (3:Int32))) = (own_at (own_v1123 w0_2) (own_at (own_v1121 w0_2) (3:Int32))) → own_In (own_v527 (own_v1062 w0_2) (own_v1064 w0_2) (own_v1121 w0_2) (own_v1123 w0_2) (own_v1127 w0_2) (own_v1068 w0_2) (own_v1119 w0_2) (own_v1060 w0_2)) (own_v535 (own_v1062 w0_2) (own_v1064 w0_2) (own_v1121 w0_2) (own_v1123 w0_2) (own_v1127 w0_2) (own_v1068 w0_2) (own_v1119 w0_2) (own_v1060 w0_2)).length) := by subst hw0_1 hw0_3 hw0_4 hw0_6 hw0_7 hw0_8; exact own_fin1161 w0_2 hm1 w0_5 hmb.1 w0_9 hm2.1 hm2.2
  have hf1164 : (¬ ((f4 w0_9 (0:Int32)) = (0:Int32))) → (¬ ((f4 w0_9 (1:Int32)) = (0:Int32))) → (own_In (1:Int32) (own_v1121 w0_2).length) ∧ (own_In (own_at (own_v1121 w0_2) (1:Int32)) (own_v472 (own_v1062 w0_2) (own_v1064 w0_2) (own_v1121 w0_2) (own_v1123 w0_2) (own_v1127 w0_2) (own_v1068 w0_2) (own_v1119 w0_2) (own_v1060 w0_2)).length) ∧ (own_In (1:Int32) (own_v470 (own_v1062 w0_2) (own_v1064 w0_2) (own_v1121 w0_2) (own_v1123 w0_2) (own_v1127 w0_2) (own_v1068 w0_2) (own_v1119 w0_2) (own_v1060 w0_2)).length) ∧ (¬ ((own_at (own_v470 (own_v1062 w0_2) (own_v1064 w0_2) (own_v1121 w0_2) (own_v1123 w0_2) (own_v1127 w0_2) (own_v1068 w0_2) (own_v1119 w0_2) (own_v1060 w0_2)) (1:Int32)) < (own_at (own_v472 (own_v1062 w0_2) (own_v1064 w0_2) (own_v1121 w0_2) (own_v1123 w0_2) (own_v1127 w0_2) (own_v1068 w0_2) (own_v1119 w0_2) (own_v1060 w0_2)) (own_at (own_v1121 w0_2) (1:Int32)))) → own_In (own_at (own_v1121 w0_2) (1:Int32)) (own_v1123 w0_2).length) ∧ (¬ ((own_at (own_v470 (own_v1062 w0_2) (own_v1064 w0_2) (own_v1121 w0_2) (own_v1123 w0_2) (own_v1127 w0_2) (own_v1068 w0_2) (own_v1119 w0_2) (own_v1060 w0_2)) (1:Int32)) < (own_at (own_v472 (own_v1062 w0_2) (own_v1064 w0_2) (own_v1121 w0_2) (own_v1123 w0_2) (own_v1127 w0_2) (own_v1068 w0_2) (own_v1119 w0_2) (own_v1060 w0_2)) (own_at (own_v1121 w0_2) (1:Int32)))) → own_In (own_at (own_v472 (own_v1062 w0_2) (own_v1064 w0_2) (own_v1121 w0_2) (own_v1123 w0_2) (own_v1127 w0_2) (own_v1068 w0_2) (own_v1119 w0_2) (own_v1060 w0_2)) (own_at (own_v1121 w0_2) (1:Int32))) (own_v468 (own_v1062 w0_2) (own_v1064 w0_2) (own_v1121 w0_2) (own_v1123 w0_2) (own_v1127 w0_2) (own_v1068 w0_2) (own_v1119 w0_2) (own_v1060 w0_2)).length) ∧ (¬ ((own_at (own_v470 (own_v1062 w0_2) (own_v1064 w0_2) (own_v1121 w0_2) (own_v1123 w0_2) (own_v1127 w0_2) (own_v1068 w0_2) (own_v1119 w0_2) (own_v1060 w0_2)) (1:Int32)) < (own_at (own_v472 (own_v1062 w0_2) (own_v1064 w0_2) (own_v1121 w0_2) (own_v1123 w0_2) (own_v1127 w0_2) (own_v1068 w0_2) (own_v1119 w0_2) (own_v1060 w0_2)) (own_at (own_v1121 w0_2) (1:Int32)))) → own_In (own_at (own_v470 (own_v1062 w0_2) (own_v1064 w0_2) (own_v1121 w0_2) (own_v1123 w0_2) (own_v1127 w0_2) (own_v1068 w0_2) (own_v1119 w0_2) (own_v1060 w0_2)) (1:Int32)) (own_v468 (own_v1062 w0_2) (own_v1064 w0_2) (own_v1121 w0_2) (own_v1123 w0_2) (own_v1127 w0_2) (own_v1068 w0_2) (own_v1119 w0_2) (own_v1060 w0_2)).length) ∧ (¬ ((own_at (own_v470 (own_v1062 w0_2) (own_v1064 w0_2) (own_v1121 w0_2) (own_v1123 w0_2) (own_v1127 w0_2) (own_v1068 w0_2) (own_v1119 w0_2) (own_v1060 w0_2)) (1:Int32)) < (own_at (own_v472 (own_v1062 w0_2) (own_v1064 w0_2) (own_v1121 w0_2) (own_v1123 w0_2) (own_v1127 w0_2) (own_v1068 w0_2) (own_v1119 w0_2) (own_v1060 w0_2)) (own_at (own_v1121 w0_2) (1:Int32)))) → own_In (own_at (own_v468 (own_v1062 w0_2) (own_v1064 w0_2) (own_v1121 w0_2) (own_v1123 w0_2) (own_v1127 w0_2) (own_v1068 w0_2) (own_v1119 w0_2) (own_v1060 w0_2)) (own_at (own_v472 (own_v1062 w0_2) (own_v1064 w0_2) (own_v1121 w0_2) (own_v1123 w0_2) (own_v1127 w0_2) (own_v1068 w0_2) (own_v1119 w0_2) (own_v1060 w0_2)) (own_at (own_v1121 w0_2) (1:Int32)))) (own_v470 (own_v1062 w0_2) (own_v1064 w0_2) (own_v1121 w0_2) (own_v1123 w0_2) (own_v1127 w0_2) (own_v1068 w0_2) (own_v1119 w0_2) (own_v1060 w0_2)).length) ∧ (¬ ((own_at (own_v470 (own_v1062 w0_2) (own_v1064 w0_2) (own_v1121 w0_2) (own_v1123 w0_2) (own_v1127 w0_2) (own_v1068 w0_2) (own_v1119 w0_2) (own_v1060 w0_2)) (1:Int32)) < (own_at (own_v472 (own_v1062 w0_2) (own_v1064 w0_2) (own_v1121 w0_2) (own_v1123 w0_2) (own_v1127 w0_2) (own_v1068 w0_2) (own_v1119 w0_2) (own_v1060 w0_2)) (own_at (own_v1121 w0_2) (1:Int32)))) → (own_at (own_v472 (own_v1062 w0_2) (own_v1064 w0_2) (own_v1121 w0_2) (own_v1123 w0_2) (own_v1127 w0_2) (own_v1068 w0_2) (own_v1119 w0_2) (own_v1060 w0_2)) (own_at (own_v1121 w0_2) (1:Int32))) = (own_at (own_v1123 w0_2) (own_at (own_v1121 w0_2) (1:Int32))) → own_In (own_v466 (own_v1062 w0_2) (own_v1064 w0_2) (own_v1121 w0_2) (own_v1123 w0_2) (own_v1127 w0_2) (own_v1068 w0_2) (own_v1119 w0_2) (own_v1060 w0_2)) (own_v474 (own_v1062 w0_2) (own_v1064 w0_2) (own_v1121 w0_2) (own_v1123 w0_2) (own_v1127 w0_2) (own_v1068 w0_2) (own_v1119 w0_2) (own_v1060 w0_2)).length) := by subst hw0_1 hw0_3 hw0_4 hw0_6 hw0_7 hw0_8; exact own_fin1163 w0_2 hm1 w0_5 hmb.1 w0_9 hm2.1 hm2.2
  have hf1166 : (¬ ((f4 w0_9 (0:Int32)) = (0:Int32))) → (¬ ((f4 w0_9 (1:Int32)) = (0:Int32))) → ((f4 w0_9 (2:Int32)) = (0:Int32)) → (¬ ((f4 w0_9 (3:Int32)) = (0:Int32))) → (own_In (3:Int32) (own_v1121 w0_2).length) ∧ (own_In (own_at (own_v1121 w0_2) (3:Int32)) (own_v592 (own_v1062 w0_2) (own_v1064 w0_2) (own_v1121 w0_2) (own_v1123 w0_2) (own_v1127 w0_2) (own_v1068 w0_2) (own_v1119 w0_2) (own_v1060 w0_2)).length) ∧ (own_In (3:Int32) (own_v590 (own_v1062 w0_2) (own_v1064 w0_2) (own_v1121 w0_2) (own_v1123 w0_2) (own_v1127 w0_2) (own_v1068 w0_2) (own_v1119 w0_2) (own_v1060 w0_2)).length) ∧ (¬ ((own_at (own_v590 (own_v1062 w0_2) (own_v1064 w0_2) (own_v1121 w0_2) (own_v1123 w0_2) (own_v1127 w0_2) (own_v1068 w0_2) (own_v1119 w0_2) (own_v1060 w0_2)) (3:Int32)) < (own_at (own_v592 (own_v1062 w0_2) (own_v1064 w0_2) (own_v1121 w0_2) (own_v1123 w0_2) (own_v1127 w0_2) (own_v1068 w0_2) (own_v1119 w0_2) (own_v1060 w0_2)) (own_at (own_v1121 w0_2) (3:Int32)))) → own_In (own_at (own_v1121 w0_2) (3:Int32)) (own_v1123 w0_2).length) ∧ (¬ ((own_at (own_v590 (own_v1062 w0_2) (own_v1064 w0_2) (own_v1121 w0_2) (own_v1123 w0_2) (own_v1127 w0_2) (own_v1068 w0_2) (own_v1119 w0_2) (own_v1060 w0_2)) (3:Int32)) < (own_at (own_v592 (own_v1062 w0_2) (own_v1064 w0_2) (own_v1121 w0_2) (own_v1123 w0_2) (own_v1127 w0_2) (own_v1068 w0_2) (own_v1119 w0_2) (own_v1060 w0_2)) (own_at (own_v1121 w0_2) (3:Int32)))) → own_In (own_at (own_v592 (own_v1062 w0_2) (own_v1064 w0_2) (own_v1121 w0_2) (own_v1123 w0_2) (own_v1127 w0_2) (own_v1068 w0_2) (own_v1119 w0_2) (own_v1060 w0_2)) (own_at (own_v1121 w0_2) (3:Int32))) (own_v588 (own_v1062 w0_2) (own_v1064 w0_2) (own_v1121 w0_2) (own_v1123 w0_2) (own_v1127 w0_2) (own_v1068 w0_2) (own_v1119 w0_2) (own_v1060 w0_2)).length) ∧ (¬ ((own_at (own_v590 (own_v1062 w0_2) (own_v1064 w0_2) (own_v1121 w0_2) (own_v1123 w0_2) (own_v1127 w0_2) (own_v1068 w0_2) (own_v1119 w0_2) (own_v1060 w0_2)) (3:Int32)) < (own_at (own_v592 (own_v1062 w0_2) (own_v1064 w0_2) (own_v1121 w0_2) (own_v1123 w0_2) (own_v1127 w0_2) (own_v1068 w0_2) (own_v1119 w0_2) (own_v1060 w0_2)) (own_at (own_v1121 w0_2) (3:Int32)))) → own_In (own_at (own_v590 (own_v1062 w0_2) (own_v1064 w0_2) (own_v1121 w0_2) (own_v1123 w0_2) (own_v1127 w0_2) (own_v1068 w0_2) (own_v1119 w0_2) (own_v1060 w0_2)) (3:Int32)) (own_v588 (own_v1062 w0_2) (own_v1064 w0_2) (own_v1121 w0_2) (own_v1123 w0_2) (own_v1127 w0_2) (own_v1068 w0_2) (own_v1119 w0_2) (own_v1060 w0_2)).length) ∧ (¬ ((own_at (own_v590 (own_v1062 w0_2) (own_v1064 w0_2) (own_v1121 w0_2) (own_v1123 w0_2) (own_v1127 w0_2) (own_v1068 w0_2) (own_v1119 w0_2) (own_v1060 w0_2)) (3:Int32)) < (own_at (own_v592 (own_v1062 w0_2) (own_v1064 w0_2) (own_v1121 w0_2) (own_v1123 w0_2) (own_v1127 w0_2) (own_v1068 w0_2) (own_v1119 w0_2) (own_v1060 w0_2)) (own_at (own_v1121 w0_2) (3:Int32)))) → own_In (own_at (own_v588 (own_v1062 w0_2) (own_v1064 w0_2) (own_v1121 w0_2) (own_v1123 w0_2) (own_v1127 w0_2) (own_v1068 w0_2) (own_v1119 w0_2) (own_v1060 w0_2)) (own_at (own_v592 (own_v1062 w0_2) (own_v1064 w0_2) (own_v1121 w0_2) (own_v1123 w0_2) (own_v1127 w0_2) (own_v1068 w0_2) (own_v1119 w0_2) (own_v1060 w0_2)) (own_at (own_v1121 w0_2) (3:Int32)))) (own_v590 (own_v1062 w0_2) (own_v1064 w0_2) (own_v1121 w0_2) (own_v1123 w0_2) (own_v1127 w0_2) (own_v1068 w0_2) (own_v1119 w0_2) (own_v1060 w0_2)).length) ∧ (¬ ((own_at (own_v590 (own_v1062 w0_2) (own_v1064 w0_2) (own_v1121 w0_2) (own_v1123 w0_2) (own_v1127 w0_2) (own_v1068 w0_2) (own_v1119 w0_2) (own_v1060 w0_2)) (3:Int32)) < (own_at (own_v592 (own_v1062 w0_2) (own_v1064 w0_2) (own_v1121 w0_2) (own_v1123 w0_2) (own_v1127 w0_2) (own_v1068 w0_2) (own_v1119 w0_2) (own_v1060 w0_2)) (own_at (own_v1121 w0_2) (3:Int32)))) → (own_at (own_v592 (own_v1062 w0_2) (own_v1064 w0_2) (own_v1121 w0_2) (own_v1123 w0_2) (own_v1127 w0_2) (own_v1068 w0_2) (own_v1119 w0_2) (own_v1060 w0_2)) (own_at (own_v1121 w0_2) (3:Int32))) = (own_at (own_v1123 w0_2) (own_at (own_v1121 w0_2) (3:Int32))) → own_In (own_v586 (own_v1062 w0_2) (own_v1064 w0_2) (own_v1121 w0_2) (own_v1123 w0_2) (own_v1127 w0_2) (own_v1068 w0_2) (own_v1119 w0_2) (own_v1060 w0_2)) (own_v594 (own_v1062 w0_2) (own_v1064 w0_2) (own_v1121 w0_2) (own_v1123 w0_2) (own_v1127 w0_2) (own_v1068 w0_2) (own_v1119 w0_2) (own_v1060 w0_2)).length) := by subst hw0_1 hw0_3 hw0_4 hw0_6 hw0_7 hw0_8; exact own_fin1165 w0_2 hm1 w0_5 hmb.1 w0_9 hm2.1 hm2.2
  have hf1168 : (¬ ((f4 w0_9 (0:Int32)) = (0:Int32))) → (¬ ((f4 w0_9 (1:Int32)) = (0:Int32))) → (¬ ((f4 w0_9 (2:Int32)) = (0:Int32))) → (own_In (2:Int32) (own_v1121 w0_2).length) ∧ (own_In (own_at (own_v1121 w0_2) (2:Int32)) (own_v592 (own_v1062 w0_2) (own_v1064 w0_2) (own_v1121 w0_2) (own_v1123 w0_2) (own_v1127 w0_2) (own_v1068 w0_2) (own_v1119 w0_2) (own_v1060 w0_2)).length) ∧ (own_In (2:Int32) (own_v590 (own_v1062 w0_2) (own_v1064 w0_2) (own_v1121 w0_2) (own_v1123 w0_2) (own_v1127 w0_2) (own_v1068 w0_2) (own_v1119 w0_2) (own_v1060 w0_2)).length) ∧ (¬ ((own_at (own_v590 (own_v1062 w0_2) (own_v1064 w0_2) (own_v1121 w0_2) (own_v1123 w0_2) (own_v1127 w0_2) (own_v1068 w0_2) (own_v1119 w0_2) (own_v1060 w0_2)) (2:Int32)) < (own_at (own_v592 (own_v1062 w0_2) (own_v1064 w0_2) (own_v1121 w0_2) (own_v1123 w0_2) (own_v1127 w0_2) (own_v1068 w0_2) (own_v1119 w0_2) (own_v1060 w0_2)) (own_at (own_v1121 w0_2) (2:Int32)))) → own_In (own_at (own_v1121 w0_2) (2:Int32)) (own_v1123 w0_2).length) ∧ (¬ ((own_at (own_v590 (own_v1062 w0_2) (own_v1064 w0_2) (own_v1121 w0_2) (own_v1123 w0_2) (own_v1127 w0_2) (own_v1068 w0_2) (own_v1119 w0_2) (own_v1060 w0_2)) (2:Int32)) < (own_at (own_v592 (own_v1062 w0_2) (own_v1064 w0_2) (own_v1121 w0_2) (own_v1123 w0_2) (own_v1127 w0_2) (own_v1068 w0_2) (own_v1119 w0_2) (own_v1060 w0_2)) (own_at (own_v1121 w0_2) (2:Int32)))) → own_In (own_at (own_v592 (own_v1062 w0_2) (own_v1064 w0_2) (own_v1121 w0_2) (own_v1123 w0_2) (own_v1127 w0_2) (own_v1068 w0_2) (own_v1119 w0_2) (own_v1060 w0_2)) (own_at (own_v1121 w0_2) (2:Int32))) (own_v588 (own_v1062 w0_2) (own_v1064 w0_2) (own_v1121 w0_2) (own_v1123 w0_2) (own_v1127 w0_2) (own_v1068 w0_2) (own_v1119 w0_2) (own_v1060 w0_2)).length) ∧ (¬ ((own_at (own_v590 (own_v1062 w0_2) (own_v1064 w0_2) (own_v1121 w0_2) (own_v1123 w0_2) (own_v1127 w0_2) (own_v1068 w0_2) (own_v1119 w0_2) (own_v1060 w0_2)) (2:Int32)) < (own_at (own_v592 (own_v1062 w0_2) (own_v1064 w0_2) (own_v1121 w0_2) (own_v1123 w0_2) (own_v1127 w0_2) (own_v1068 w0_2) (own_v1119 w0_2) (own_v1060 w0_2)) (own_at (own_v1121 w0_2) (2:Int32)))) → own_In (own_at (own_v590 (own_v1062 w0_2) (own_v1064 w0_2) (own_v1121 w0_2) (own_v1123 w0_2) (own_v1127 w0_2) (own_v1068 w0_2) (own_v1119 w0_2) (own_v1060 w0_2)) (2:Int32)) (own_v588 (own_v1062 w0_2) (own_v1064 w0_2) (own_v1121 w0_2) (own_v1123 w0_2) (own_v1127 w0_2) (own_v1068 w0_2) (own_v1119 w0_2) (own_v1060 w0_2)).length) ∧ (¬ ((own_at (own_v590 (own_v1062 w0_2) (own_v1064 w0_2) (own_v1121 w0_2) (own_v1123 w0_2) (own_v1127 w0_2) (own_v1068 w0_2) (own_v1119 w0_2) (own_v1060 w0_2)) (2:Int32)) < (own_at (own_v592 (own_v1062 w0_2) (own_v1064 w0_2) (own_v1121 w0_2) (own_v1123 w0_2) (own_v1127 w0_2) (own_v1068 w0_2) (own_v1119 w0_2) (own_v1060 w0_2)) (own_at (own_v1121 w0_2) (2:Int32)))) → own_In (own_at (own_v588 (own_v1062 w0_2) (own_v1064 w0_2) (own_v1121 w0_2) (own_v1123 w0_2) (own_v1127 w0_2) (own_v1068 w0_2) (own_v1119 w0_2) (own_v1060 w0_2)) (own_at (own_v592 (own_v1062 w0_2) (own_v1064 w0_2) (own_v1121 w0_2) (own_v1123 w0_2) (own_v1127 w0_2) (own_v1068 w0_2) (own_v1119 w0_2) (own_v1060 w0_2)) (own_at (own_v1121 w0_2) (2:Int32)))) (own_v590 (own_v1062 w0_2) (own_v1064 w0_2) (own_v1121 w0_2) (own_v1123 w0_2) (own_v1127 w0_2) (own_v1068 w0_2) (own_v1119 w0_2) (own_v1060 w0_2)).length) ∧ (¬ ((own_at (own_v590 (own_v1062 w0_2) (own_v1064 w0_2) (own_v1121 w0_2) (own_v1123 w0_2) (own_v1127 w0_2) (own_v1068 w0_2) (own_v1119 w0_2) (own_v1060 w0_2)) (2:Int32)) < (own_at (own_v592 (own_v1062 w0_2) (own_v1064 w0_2) (own_v1121 w0_2) (own_v1123 w0_2) (own_v1127 w0_2) (own_v1068 w0_2) (own_v1119 w0_2) (own_v1060 w0_2)) (own_at (own_v1121 w0_2) (2:Int32)))) → (own_at (own_v592 (own_v1062 w0_2) (own_v1064 w0_2) (own_v1121 w0_2) (own_v1123 w0_2) (own_v1127 w0_2) (own_v1068 w0_2) (own_v1119 w0_2) (own_v1060 w0_2)) (own_at (own_v1121 w0_2) (2:Int32))) = (own_at (own_v1123 w0_2) (own_at (own_v1121 w0_2) (2:Int32))) → own_In (own_v586 (own_v1062 w0_2) (own_v1064 w0_2) (own_v1121 w0_2) (own_v1123 w0_2) (own_v1127 w0_2) (own_v1068 w0_2) (own_v1119 w0_2) (own_v1060 w0_2)) (own_v594 (own_v1062 w0_2) (own_v1064 w0_2) (own_v1121 w0_2) (own_v1123 w0_2) (own_v1127 w0_2) (own_v1068 w0_2) (own_v1119 w0_2) (own_v1060 w0_2)).length) := by subst hw0_1 hw0_3 hw0_4 hw0_6 hw0_7 hw0_8; exact own_fin1167 w0_2 hm1 w0_5 hmb.1 w0_9 hm2.1 hm2.2
  have hf1170 : (¬ ((f4 w0_9 (0:Int32)) = (0:Int32))) → (¬ ((f4 w0_9 (1:Int32)) = (0:Int32))) → (¬ ((f4 w0_9 (2:Int32)) = (0:Int32))) → (¬ ((f4 w0_9 (3:Int32)) = (0:Int32))) → (own_In (3:Int32) (own_v1121 w0_2).length) ∧ (own_In (own_at (own_v1121 w0_2) (3:Int32)) (own_v652 (own_v1062 w0_2) (own_v1064 w0_2) (own_v1121 w0_2) (own_v1123 w0_2) (own_v1127 w0_2) (own_v1068 w0_2) (own_v1119 w0_2) (own_v1060 w0_2)).length) ∧ (own_In (3:Int32) (own_v650 (own_v1062 w0_2) (own_v1064 w0_2) (own_v1121 w0_2) (own_v1123 w0_2) (own_v1127 w0_2) (own_v1068 w0_2) (own_v1119 w0_2) (own_v1060 w0_2)).length) ∧ (¬ ((own_at (own_v650 (own_v1062 w0_2) (own_v1064 w0_2) (own_v1121 w0_2) (own_v1123 w0_2) (own_v1127 w0_2) (own_v1068 w0_2) (own_v1119 w0_2) (own_v1060 w0_2)) (3:Int32)) < (own_at (own_v652 (own_v1062 w0_2) (own_v1064 w0_2) (own_v1121 w0_2) (own_v1123 w0_2) (own_v1127 w0_2) (own_v1068 w0_2) (own_v1119 w0_2) (own_v1060 w0_2)) (own_at (own_v1121 w0_2) (3:Int32)))) → own_In (own_at (own_v1121 w0_2) (3:Int32)) (own_v1123 w0_2).length) ∧ (¬ ((own_at (own_v650 (own_v1062 w0_2) (own_v1064 w0_2) (own_v1121 w0_2) (own_v1123 w0_2) (own_v1127 w0_2) (own_v1068 w0_2) (own_v1119 w0_2) (own_v1060 w0_2)) (3:Int32)) < (own_at (own_v652 (own_v1062 w0_2) (own_v1064 w0_2) (own_v1121 w0_2) (own_v1123 w0_2) (own_v1127 w0_2) (own_v1068 w0_2) (own_v1119 w0_2) (own_v1060 w0_2)) (own_at (own_v1121 w0_2) (3:Int32)))) → own_In (own_at (own_v652 (own_v1062 w0_2) (own_v1064 w0_2) (own_v1121 w0_2) (own_v1123 w0_2) (own_v1127 w0_2) (own_v1068 w0_2) (own_v1119 w0_2) (own_v1060 w0_2)) (own_at (own_v1121 w0_2) (3:Int32))) (own_v648 (own_v1062 w0_2) (own_v1064 w0_2) (own_v1121 w0_2) (own_v1123 w0_2) (own_v1127 w0_2) (own_v1068 w0_2) (own_v1119 w0_2) (own_v1060 w0_2)).length) ∧ (¬ ((own_at (own_v650 (own_v1062 w0_2) (own_v1064 w0_2) (own_v1121 w0_2) (own_v1123 w0_2) (own_v1127 w0_2) (own_v1068 w0_2) (own_v1119 w0_2) (own_v1060 w0_2)) (3:Int32)) < (own_at (own_v652 (own_v1062 w0_2) (own_v1064 w0_2) (own_v1121 w0_2) (own_v1123 w0_2) (own_v1127 w0_2) (own_v1068 w0_2) (own_v1119 w0_2) (own_v1060 w0_2)) (own_at (own_v1121 w0_2) (3:Int32)))) → own_In (own_at (own_v650 (own_v1062 w0_2) (own_v1064 w0_2) (own_v1121 w0_2) (own_v1123 w0_2) (own_v1127 w0_2) (own_v1068 w0_2) (own_v1119 w0_2) (own_v1060 w0_2)) (3:Int32)) (own_v648 (own_v1062 w0_2) (own_v1064 w0_2) (own_v1121 w0_2) (own_v1123 w0_2) (own_v1127 w0_2) (own_v1068 w0_2) (own_v1119 w0_2) (own_v1060 w0_2)).length) ∧ (¬ ((own_at (own_v650 (own_v1062 w0_2) (own_v1064 w0_2) (own_v1121 w0_2) (own_v1123 w0_2) (own_v1127 w0_2) (own_v1068 w0_2) (own_v1119 w0_2) (own_v1060 w0_2)) (3:Int32)) < (own_at (own_v652 (own_v1062 w0_2) (own_v1064 w0_2) (own_v1121 w0_2) (own_v1123 w0_2) (own_v1127 w0_2) (own_v1068 w0_2) (own_v1119 w0_2) (own_v1060 w0_2)) (own_at (own_v1121 w0_2) (3:Int32)))) → own_In (own_at (own_v648 (own_v1062 w0_2) (own_v1064 w0_2) (own_v1121 w0_2) (own_v1123 w0_2) (own_v1127 w0_2) (own_v1068 w0_2) (own_v1119 w0_2) (own_v1060 w0_2)) (own_at (own_v652 (own_v1062 w0_2) (own_v1064 w0_2) (own_v1121 w0_2) (own_v1123 w0_2) (own_v1127 w0_2) (own_v1068 w0_2) (own_v1119 w0_2) (own_v1060 w0_2)) (own_at (own_v1121 w0_2) (3:Int32)))) (own_v650 (own_v1062 w0_2) (own_v1064 w0_2) (own_v1121 w0_2) (own_v1123 w0_2) (own_v1127 w0_2) (own_v1068 w0_2) (own_v1119 w0_2) (own_v1060 w0_2)).length) ∧ (¬ ((own_at (own_v650 (own_v1062 w0_2) (own_v1064 w0_2) (own_v1121 w0_2) (own_v1123 w0_2) (own_v1127 w0_2) (own_v1068 w0_2) (own_v1119 w0_2) (own_v1060 w0_2)) (3:Int32)) < (own_at (own_v652 (own_v1062 w0_2) (own_v1064 w0_2) (own_v1121 w0_2) (own_v1123 w0_2) (own_v1127 w0_2) (own_v1068 w0_2) (own_v1119 w0_2) (own_v1060 w0_2)) (own_at (own_v1121 w0_2) (3:Int32)))) → (own_at (own_v652 (own_v1062 w0_2) (own_v1064 w0_2) (own_v1121 w0_2) (own_v1123 w0_2) (own_v1127 w0_2) (own_v1068 w0_2) (own_v1119 w0_2) (own_v1060 w0_2)) (own_at (own_v1121 w0_2) (3:Int32))) = (own_at (own_v1123 w0_2) (own_at (own_v1121 w0_2) (3:Int32))) → own_In (own_v646 (own_v1062 w0_2) (own_v1064 w0_2) (own_v1121 w0_2) (own_v1123 w0_2) (own_v1127 w0_2) (own_v1068 w0_2) (own_v1119 w0_2) (own_v1060 w0_2)) (own_v654 (own_v1062 w0_2) (own_v1064 w0_2) (own_v1121 w0_2) (own_v1123 w0_2) (own_v1127 w0_2) (own_v1068 w0_2) (own_v1119 w0_2) (own_v1060 w0_2)).length) := by subst hw0_1 hw0_3 hw0_4 hw0_6 hw0_7 hw0_8; exact own_fin1169 w0_2 hm1 w0_5 hmb.1 w0_9 hm2.1 hm2.2
  obtain ⟨_, _, ⟨T1132, L1132, k1132, n1132⟩, -, X1132, ⟨Lc1132, hQ1132, l1132, y1132, z1132⟩, st1132⟩ := Jvm.LawKit.callS X1130 hx (y := (⟨"com/example/spare_calculus/sparecalculus/bisim/PartitionSplitOffMarkedPinLaw", "markAll", "(Lcom/example/spare_calculus/sparecalculus/bisim/Partition;I)V"⟩ : MethodName)) hown (mvT hZ (own_h hw 26 rfl)) (mvT hZ (own_h hw 27 rfl)) (mvT hZ (own_h hw 28 rfl)) (mvT hZ (own_h hw 29 rfl)) (by decide) (backOf (W := 0) (rm3 l Z aZ hw [] b935 w0_9 e1_938 e2_939 e3_940 e4_941 e5_942 e6_943 e7_944 (own_v1062 w0_2) (own_v1064 w0_2) (own_v1121 w0_2) (own_v1123 w0_2) (own_v1127 w0_2) (own_v1068 w0_2) (own_v1119 w0_2) (own_v1060 w0_2) T1070.heap n0 Z1118 F1133 G1105 G1106 G1107 G1108 G1109 G1110 G1111 G1120 G1113 F1134 F1135 G1122 G1124 G1128 F1136 ne1000 ne1002 ne1004 ne1006 ne1010 ne1012 ne952 ne953 ne954 ne956 ne957 ne958 ne959 ne961 ne962 ne963 ne965 ne966 ne968 ne969 ne972 ge_b935 ge1001 ge1003 ge1011 ge1013 hf1142 hf1144 hf1146 hf1148 hf1150 hf1152 hf1154 hf1156 hf1158 hf1160 hf1162 hf1164 hf1166 hf1168 hf1170) hZ (own_h hw 29 rfl) (own_h hw 28 rfl) (by decide) (by decide)) (g := (mkF m 172 #[iv p0, iv p1, rv b935, iv w0_2, iv (own_v1129 w0_2), iv w0_3, iv (f7 w0_2), iv w0_4, iv w0_5, iv w0_6, iv w0_7, iv w0_8, iv w0_9, .unset, .unset, .unset, .unset, .unset, .unset, .unset, .unset, .unset] [(.int w0_9), (.ref b935)])) rfl (by rw [hml]; rfl) (argsL := [(.ref b935), (.int w0_9)]) (rest := []) (lenOf own_pd2 rfl) rfl (by show 2 * 0 + _ ≤ _; exact Nat.le_of_eq rfl) (hb hby at_172) (fun _ _ => ⟨rfl, eh1130, (by decide : 8 + 0 ≤ _), (by decide : 37 + 0 ≤ _)⟩)
  dsimp only [Pt.U, Pt.locs, Pt.cells, Pt.slots] at X1132 l1132 y1132 z1132 st1132 hQ1132
  subst l1132 y1132 z1132
  obtain ⟨rfl, N1132q, K1132, G1171, G1172, G1173, G1174, G1175, G1176, G1177, G1178, G1179, G1180, G1181, G1182, G1183⟩ := hQ1132
  have N1132 := Fr.app N1130 N1132q
  have Z1184 : n0 ≤ T1132.heap.size := Nat.le_trans Z1118 K1132.1
  have G1186 : Fld Z T1132.heap b935 "com/example/spare_calculus/sparecalculus/bisim/Partition" "touchedBlockCount" "I" (.int (own_v1185 w0_9 w0_2)) := G1179
  have G1188 : own_Ints Z T1132.heap e1_938 (own_v1187 w0_9 w0_2) := G1180
  have G1190 : own_Ints Z T1132.heap e2_939 (own_v1189 w0_9 w0_2) := G1181
  have G1192 : own_Ints Z T1132.heap e6_943 (own_v1191 w0_9 w0_2) := G1182
  have G1194 : own_Ints Z T1132.heap e7_944 (own_v1193 w0_9 w0_2) := G1183
  refine own_pre st1132 ?_
  refine own_pre (A := T1132.setTop (mkF m 178 #[iv p0, iv p1, rv b935, iv w0_2, iv (own_v1129 w0_2), iv w0_3, iv (f7 w0_2), iv w0_4, iv w0_5, iv w0_6, iv w0_7, iv w0_8, iv w0_9, .unset, .unset, .unset, .unset, .unset, .unset, .unset, .unset, .unset] [(.int w0_5), (.ref b935)])) (fun t k => ?_) ?_
  · show Steps p.tables e below (T1132.setTop (mkF m 175 #[iv p0, iv p1, rv b935, iv w0_2, iv (own_v1129 w0_2), iv w0_3, iv (f7 w0_2), iv w0_4, iv w0_5, iv w0_6, iv w0_7, iv w0_8, iv w0_9, .unset, .unset, .unset, .unset, .unset, .unset, .unset, .unset, .unset] [])) _
    refine XS.aloadN X1132.here hx rfl (hb hby at_175) rfl rfl ?_
    show Steps p.tables e below (T1132.setTop (mkF m 176 #[iv p0, iv p1, rv b935, iv w0_2, iv (own_v1129 w0_2), iv w0_3, iv (f7 w0_2), iv w0_4, iv w0_5, iv w0_6, iv w0_7, iv w0_8, iv w0_9, .unset, .unset, .unset, .unset, .unset, .unset, .unset, .unset, .unset] [(.ref b935)])) _
    refine XS.iload X1132.here hx rfl (hb hby at_176) rfl ?_
    exact k
  have F1196 := (F1133.keep K1132)
  have F1197 := (G1122.keep K1132 (ninS (Ne.symm ne1004) (ninS (Ne.symm ne953) (ninS (Ne.symm ne958) (ninS ne965 (ninS ne966 nin0))))))
  have F1198 := (G1124.keep K1132 (ninS (Ne.symm ne1006) (ninS (Ne.symm ne954) (ninS (Ne.symm ne959) (ninS ne968 (ninS ne969 nin0))))))
  have F1199 := (G1126.keep K1132 (ninS (Ne.symm ne1008) (ninS (Ne.symm ne955) (ninS (Ne.symm ne960) (ninS ne970 (ninS ne971 nin0))))))
  have hf1201 : own_In w0_5 (own_v1123 w0_2).length := by subst hw0_1 hw0_3 hw0_4 hw0_6 hw0_7 hw0_8; exact own_fin1200 w0_2 hm1 w0_5 hmb.1 hmb.2
  have hf1203 : own_In w0_5 (own_v1191 w0_9 w0_2).length := by subst hw0_1 hw0_3 hw0_4 hw0_6 hw0_7 hw0_8; exact own_fin1202 w0_2 hm1 w0_5 hmb.1 w0_9 hm2.1 hmb.2 hm2.2
  have hf1205 : own_In w0_5 (own_v1125 w0_2).length := by subst hw0_1 hw0_3 hw0_4 hw0_6 hw0_7 hw0_8; exact own_fin1204 w0_2 hm1 w0_5 hmb.1 hmb.2
  have hf1207 : (own_at (own_v1191 w0_9 w0_2) w0_5) < (own_at (own_v1125 w0_2) w0_5) → own_In (own_v1119 w0_2) (own_v1123 w0_2).length := by subst hw0_1 hw0_3 hw0_4 hw0_6 hw0_7 hw0_8; exact own_fin1206 w0_2 hm1 w0_5 hmb.1 w0_9 hm2.1 hmb.2 hm2.2
  have hf1209 : (own_at (own_v1191 w0_9 w0_2) w0_5) < (own_at (own_v1125 w0_2) w0_5) → own_In (own_v1119 w0_2) (own_v1125 w0_2).length := by subst hw0_1 hw0_3 hw0_4 hw0_6 hw0_7 hw0_8; exact own_fin1208 w0_2 hm1 w0_5 hmb.1 w0_9 hm2.1 hmb.2 hm2.2
  have hf1211 : (own_at (own_v1191 w0_9 w0_2) w0_5) < (own_at (own_v1125 w0_2) w0_5) → own_In (own_v1119 w0_2) (own_v1191 w0_9 w0_2).length := by subst hw0_1 hw0_3 hw0_4 hw0_6 hw0_7 hw0_8; exact own_fin1210 w0_2 hm1 w0_5 hmb.1 w0_9 hm2.1 hmb.2 hm2.2
  have hf1213 : (own_at (own_v1191 w0_9 w0_2) w0_5) < (own_at (own_v1125 w0_2) w0_5) → (own_at (own_v1123 w0_2) w0_5) < (own_at (own_v1191 w0_9 w0_2) w0_5) → own_In (own_at (own_v1123 w0_2) w0_5) (own_v1187 w0_9 w0_2).length := by subst hw0_1 hw0_3 hw0_4 hw0_6 hw0_7 hw0_8; exact own_fin1212 w0_2 hm1 w0_5 hmb.1 w0_9 hm2.1 hmb.2 hm2.2
  have hf1215 : (own_at (own_v1191 w0_9 w0_2) w0_5) < (own_at (own_v1125 w0_2) w0_5) → (own_at (own_v1123 w0_2) w0_5) < (own_at (own_v1191 w0_9 w0_2) w0_5) → own_In (own_at (own_v1187 w0_9 w0_2) (own_at (own_v1123 w0_2) w0_5)) (own_v1121 w0_2).length := by subst hw0_1 hw0_3 hw0_4 hw0_6 hw0_7 hw0_8; exact own_fin1214 w0_2 hm1 w0_5 hmb.1 w0_9 hm2.1 hmb.2 hm2.2
  have hf1217 : (own_at (own_v1191 w0_9 w0_2) w0_5) < (own_at (own_v1125 w0_2) w0_5) → ((own_at (own_v1123 w0_2) w0_5) + (1:Int32)) < (own_at (own_v1191 w0_9 w0_2) w0_5) → own_In ((own_at (own_v1123 w0_2) w0_5) + (1:Int32)) (own_v1187 w0_9 w0_2).length := by subst hw0_1 hw0_3 hw0_4 hw0_6 hw0_7 hw0_8; exact own_fin1216 w0_2 hm1 w0_5 hmb.1 w0_9 hm2.1 hmb.2 hm2.2
  have hf1219 : (own_at (own_v1191 w0_9 w0_2) w0_5) < (own_at (own_v1125 w0_2) w0_5) → ((own_at (own_v1123 w0_2) w0_5) + (1:Int32)) < (own_at (own_v1191 w0_9 w0_2) w0_5) → own_In (own_at (own_v1187 w0_9 w0_2) ((own_at (own_v1123 w0_2) w0_5) + (1:Int32))) (own_v1121 w0_2).length := by subst hw0_1 hw0_3 hw0_4 hw0_6 hw0_7 hw0_8; exact own_fin1218 w0_2 hm1 w0_5 hmb.1 w0_9 hm2.1 hmb.2 hm2.2
  have hf1221 : (own_at (own_v1191 w0_9 w0_2) w0_5) < (own_at (own_v1125 w0_2) w0_5) → (((own_at (own_v1123 w0_2) w0_5) + (1:Int32)) + (1:Int32)) < (own_at (own_v1191 w0_9 w0_2) w0_5) → own_In (((own_at (own_v1123 w0_2) w0_5) + (1:Int32)) + (1:Int32)) (own_v1187 w0_9 w0_2).length := by subst hw0_1 hw0_3 hw0_4 hw0_6 hw0_7 hw0_8; exact own_fin1220 w0_2 hm1 w0_5 hmb.1 w0_9 hm2.1 hmb.2 hm2.2
  have hf1223 : (own_at (own_v1191 w0_9 w0_2) w0_5) < (own_at (own_v1125 w0_2) w0_5) → (((own_at (own_v1123 w0_2) w0_5) + (1:Int32)) + (1:Int32)) < (own_at (own_v1191 w0_9 w0_2) w0_5) → own_In (own_at (own_v1187 w0_9 w0_2) (((own_at (own_v1123 w0_2) w0_5) + (1:Int32)) + (1:Int32))) (own_v1121 w0_2).length := by subst hw0_1 hw0_3 hw0_4 hw0_6 hw0_7 hw0_8; exact own_fin1222 w0_2 hm1 w0_5 hmb.1 w0_9 hm2.1 hmb.2 hm2.2
  have hf1225 : (own_at (own_v1191 w0_9 w0_2) w0_5) < (own_at (own_v1125 w0_2) w0_5) → ((((own_at (own_v1123 w0_2) w0_5) + (1:Int32)) + (1:Int32)) + (1:Int32)) < (own_at (own_v1191 w0_9 w0_2) w0_5) → own_In ((((own_at (own_v1123 w0_2) w0_5) + (1:Int32)) + (1:Int32)) + (1:Int32)) (own_v1187 w0_9 w0_2).length := by subst hw0_1 hw0_3 hw0_4 hw0_6 hw0_7 hw0_8; exact own_fin1224 w0_2 hm1 w0_5 hmb.1 w0_9 hm2.1 hmb.2 hm2.2
  have hf1227 : (own_at (own_v1191 w0_9 w0_2) w0_5) < (own_at (own_v1125 w0_2) w0_5) → ((((own_at (own_v1123 w0_2) w0_5) + (1:Int32)) + (1:Int32)) + (1:Int32)) < (own_at (own_v1191 w0_9 w0_2) w0_5) → own_In (own_at (own_v1187 w0_9 w0_2) ((((own_at (own_v1123 w0_2) w0_5) + (1:Int32)) + (1:Int32)) + (1:Int32))) (own_v1121 w0_2).length := by subst hw0_1 hw0_3 hw0_4 hw0_6 hw0_7 hw0_8; exact own_fin1226 w0_2 hm1 w0_5 hmb.1 w0_9 hm2.1 hmb.2 hm2.2
  have hf1229 : (own_at (own_v1191 w0_9 w0_2) w0_5) < (own_at (own_v1125 w0_2) w0_5) → ¬ ((((((own_at (own_v1123 w0_2) w0_5) + (1:Int32)) + (1:Int32)) + (1:Int32)) + (1:Int32)) < (own_at (own_v1191 w0_9 w0_2) w0_5)) := by subst hw0_1 hw0_3 hw0_4 hw0_6 hw0_7 hw0_8; exact own_fin1228 w0_2 hm1 w0_5 hmb.1 w0_9 hm2.1 hmb.2 hm2.2
  obtain ⟨cq1195, kq1195, q1195a, q1195b, q1195c⟩ := isOf hZ rfl F1196
  obtain ⟨_, _, ⟨T1195, L1195, k1195, n1195⟩, -, X1195, ⟨Lc1195, hQ1195, l1195, y1195, z1195⟩, st1195⟩ := X1132.virtualBack hx (y := (⟨"com/example/spare_calculus/sparecalculus/bisim/Partition", "splitOffMarked", "(I)I"⟩ : MethodName)) (z := (⟨"com/example/spare_calculus/sparecalculus/bisim/Partition", "splitOffMarked", "(I)I"⟩ : MethodName)) hown (mvT hZ (own_h hw 40 rfl)) (mvT hZ (own_h hw 41 rfl)) (notFace_of_selects (args := #[]) (mvT hZ (own_h hw 43 rfl))) (mvT hZ (own_h hw 43 rfl)) (mvT hZ (own_h hw 42 rfl)) (by decide) (backOf (W := 0) (rm6 l Z aZ hw [] b935 w0_5 e1_938 e2_939 e3_940 e4_941 e5_942 e6_943 e7_944 (own_v1187 w0_9 w0_2) (own_v1121 w0_2) (own_v1123 w0_2) (own_v1125 w0_2) (own_v1191 w0_9 w0_2) (own_v1119 w0_2) (own_v1185 w0_9 w0_2) T1132.heap n0 Z1184 F1196 G1171 G1172 G1173 G1174 G1175 G1176 G1177 G1178 G1186 G1188 F1197 F1198 F1199 G1192 ne1000 ne1004 ne1006 ne1008 ne1010 ne953 ne954 ne955 ne956 ne963 ne964 ne965 ne967 ne968 ne970 ge_b935 ge1005 ge1007 ge1009 ge1011 hf1201 hf1203 hf1205 hf1207 hf1209 hf1211 hf1213 hf1215 hf1217 hf1219 hf1221 hf1223 hf1225 hf1227 hf1229) hZ (own_h hw 44 rfl) (own_h hw 2 rfl) (by decide) (by decide)) q1195a q1195c (g := (mkF m 178 #[iv p0, iv p1, rv b935, iv w0_2, iv (own_v1129 w0_2), iv w0_3, iv (f7 w0_2), iv w0_4, iv w0_5, iv w0_6, iv w0_7, iv w0_8, iv w0_9, .unset, .unset, .unset, .unset, .unset, .unset, .unset, .unset, .unset] [(.int w0_5), (.ref b935)])) rfl (by rw [hml]; rfl) (Steps.refl _) (argsL := [(.int w0_5)]) (rest := []) (lenOf own_pd3 rfl) rfl (by show 2 * 0 + _ ≤ _; exact Nat.le_of_eq rfl) (hb hby at_178) (fun _ _ => ⟨rfl, rfl, (by decide : 8 + 0 ≤ _), (by decide : 37 + 0 ≤ _)⟩)
  dsimp only [Pt.U, Pt.locs, Pt.cells, Pt.slots] at X1195 l1195 y1195 z1195 st1195 hQ1195
  subst l1195 y1195 z1195
  obtain ⟨rfl, N1195q, K1195, G1230, G1231, G1232, G1233, G1234, G1235, G1236, G1237, G1238, G1239, G1240, G1241, G1242⟩ := hQ1195
  have N1195 := Fr.app N1132 N1195q
  have Z1243 : n0 ≤ T1195.heap.size := Nat.le_trans Z1184 K1195.1
  have G1245 : Fld Z T1195.heap b935 "com/example/spare_calculus/sparecalculus/bisim/Partition" "blockCount" "I" (.int (own_v1244 w0_5 w0_9 w0_2)) := G1237
  have G1247 : own_Ints Z T1195.heap e3_940 (own_v1246 w0_5 w0_9 w0_2) := G1239
  have G1249 : own_Ints Z T1195.heap e4_941 (own_v1248 w0_5 w0_9 w0_2) := G1240
  have G1251 : own_Ints Z T1195.heap e5_942 (own_v1250 w0_5 w0_9 w0_2) := G1241
  have G1253 : own_Ints Z T1195.heap e6_943 (own_v1252 w0_5 w0_9 w0_2) := G1242
  refine own_pre (fun _ k => st1195.trans k) ?_
  refine own_pre (A := T1195.setTop (mkF m 187 #[iv p0, iv p1, rv b935, iv w0_2, iv (own_v1129 w0_2), iv w0_3, iv (f7 w0_2), iv w0_4, iv w0_5, iv w0_6, iv w0_7, iv w0_8, iv w0_9, iv (own_v1254 w0_5 w0_9 w0_2), .unset, .unset, .unset, .unset, .unset, .unset, .unset, .unset] [(.int w0_6), (.int w0_9)])) (fun t k => ?_) ?_
  · show Steps p.tables e below (T1195.setTop (mkF m 181 #[iv p0, iv p1, rv b935, iv w0_2, iv (own_v1129 w0_2), iv w0_3, iv (f7 w0_2), iv w0_4, iv w0_5, iv w0_6, iv w0_7, iv w0_8, iv w0_9, .unset, .unset, .unset, .unset, .unset, .unset, .unset, .unset, .unset] [(.int (own_v1254 w0_5 w0_9 w0_2))])) _
    refine XS.istore X1195.here hx rfl (hb hby at_181) rfl (l' := #[iv p0, iv p1, rv b935, iv w0_2, iv (own_v1129 w0_2), iv w0_3, iv (f7 w0_2), iv w0_4, iv w0_5, iv w0_6, iv w0_7, iv w0_8, iv w0_9, iv (own_v1254 w0_5 w0_9 w0_2), .unset, .unset, .unset, .unset, .unset, .unset, .unset, .unset]) rfl ?_
    show Steps p.tables e below (T1195.setTop (mkF m 183 #[iv p0, iv p1, rv b935, iv w0_2, iv (own_v1129 w0_2), iv w0_3, iv (f7 w0_2), iv w0_4, iv w0_5, iv w0_6, iv w0_7, iv w0_8, iv w0_9, iv (own_v1254 w0_5 w0_9 w0_2), .unset, .unset, .unset, .unset, .unset, .unset, .unset, .unset] [])) _
    refine XS.iload X1195.here hx rfl (hb hby at_183) rfl ?_
    show Steps p.tables e below (T1195.setTop (mkF m 185 #[iv p0, iv p1, rv b935, iv w0_2, iv (own_v1129 w0_2), iv w0_3, iv (f7 w0_2), iv w0_4, iv w0_5, iv w0_6, iv w0_7, iv w0_8, iv w0_9, iv (own_v1254 w0_5 w0_9 w0_2), .unset, .unset, .unset, .unset, .unset, .unset, .unset, .unset] [(.int w0_9)])) _
    refine XS.iload X1195.here hx rfl (hb hby at_185) rfl ?_
    exact k
  obtain ⟨w0_10, hw0_10⟩ : ∃ z : Int32, z = (if w0_9 = w0_6 then (1:Int32) else (0:Int32)) := ⟨_, rfl⟩
  refine own_pre (A := T1195.setTop (mkF m 195 #[iv p0, iv p1, rv b935, iv w0_2, iv (own_v1129 w0_2), iv w0_3, iv (f7 w0_2), iv w0_4, iv w0_5, iv w0_6, iv w0_7, iv w0_8, iv w0_9, iv (own_v1254 w0_5 w0_9 w0_2), .unset, .unset, .unset, .unset, .unset, .unset, .unset, .unset] [(.int w0_10)])) (fun t k => ?_) ?_
  · show Steps p.tables e below (T1195.setTop (mkF m 187 #[iv p0, iv p1, rv b935, iv w0_2, iv (own_v1129 w0_2), iv w0_3, iv (f7 w0_2), iv w0_4, iv w0_5, iv w0_6, iv w0_7, iv w0_8, iv w0_9, iv (own_v1254 w0_5 w0_9 w0_2), .unset, .unset, .unset, .unset, .unset, .unset, .unset, .unset] [(.int w0_6), (.int w0_9)])) _
    by_cases hm187_12 : w0_9 = w0_6
    · refine XS.icmpNo X1195.here hx rfl (hb hby at_187) rfl (XT.ii_ne_f hm187_12) ?_
      show Steps p.tables e below (T1195.setTop (mkF m 190 #[iv p0, iv p1, rv b935, iv w0_2, iv (own_v1129 w0_2), iv w0_3, iv (f7 w0_2), iv w0_4, iv w0_5, iv w0_6, iv w0_7, iv w0_8, iv w0_9, iv (own_v1254 w0_5 w0_9 w0_2), .unset, .unset, .unset, .unset, .unset, .unset, .unset, .unset] [])) _
      refine XS.iconst X1195.here hx rfl (hb hby at_190) ?_
      show Steps p.tables e below (T1195.setTop (mkF m 191 #[iv p0, iv p1, rv b935, iv w0_2, iv (own_v1129 w0_2), iv w0_3, iv (f7 w0_2), iv w0_4, iv w0_5, iv w0_6, iv w0_7, iv w0_8, iv w0_9, iv (own_v1254 w0_5 w0_9 w0_2), .unset, .unset, .unset, .unset, .unset, .unset, .unset, .unset] [(.int (1:Int32))])) _
      refine XS.goto X1195.here hx rfl (pc0 := 191) (pc' := 195) rfl (hb hby at_191) (by decide) (by decide) ?_
      rw [hw0_10.trans (if_pos hm187_12)] at k
      exact k
    · refine XS.icmpYes X1195.here hx rfl (pc0 := 187) (pc' := 194) rfl (hb hby at_187) rfl (XT.ii_ne_t hm187_12) (by decide) (by decide) ?_
      show Steps p.tables e below (T1195.setTop (mkF m 194 #[iv p0, iv p1, rv b935, iv w0_2, iv (own_v1129 w0_2), iv w0_3, iv (f7 w0_2), iv w0_4, iv w0_5, iv w0_6, iv w0_7, iv w0_8, iv w0_9, iv (own_v1254 w0_5 w0_9 w0_2), .unset, .unset, .unset, .unset, .unset, .unset, .unset, .unset] [])) _
      refine XS.iconst X1195.here hx rfl (hb hby at_194) ?_
      rw [hw0_10.trans (if_neg hm187_12)] at k
      exact k
  refine own_pre (A := T1195.setTop (mkF m 199 #[iv p0, iv p1, rv b935, iv w0_2, iv (own_v1129 w0_2), iv w0_3, iv (f7 w0_2), iv w0_4, iv w0_5, iv w0_6, iv w0_7, iv w0_8, iv w0_9, iv (own_v1254 w0_5 w0_9 w0_2), iv w0_10, .unset, .unset, .unset, .unset, .unset, .unset, .unset] [(.int w0_9)])) (fun t k => ?_) ?_
  · show Steps p.tables e below (T1195.setTop (mkF m 195 #[iv p0, iv p1, rv b935, iv w0_2, iv (own_v1129 w0_2), iv w0_3, iv (f7 w0_2), iv w0_4, iv w0_5, iv w0_6, iv w0_7, iv w0_8, iv w0_9, iv (own_v1254 w0_5 w0_9 w0_2), .unset, .unset, .unset, .unset, .unset, .unset, .unset, .unset] [(.int w0_10)])) _
    refine XS.istore X1195.here hx rfl (hb hby at_195) rfl (l' := #[iv p0, iv p1, rv b935, iv w0_2, iv (own_v1129 w0_2), iv w0_3, iv (f7 w0_2), iv w0_4, iv w0_5, iv w0_6, iv w0_7, iv w0_8, iv w0_9, iv (own_v1254 w0_5 w0_9 w0_2), iv w0_10, .unset, .unset, .unset, .unset, .unset, .unset, .unset]) rfl ?_
    show Steps p.tables e below (T1195.setTop (mkF m 197 #[iv p0, iv p1, rv b935, iv w0_2, iv (own_v1129 w0_2), iv w0_3, iv (f7 w0_2), iv w0_4, iv w0_5, iv w0_6, iv w0_7, iv w0_8, iv w0_9, iv (own_v1254 w0_5 w0_9 w0_2), iv w0_10, .unset, .unset, .unset, .unset, .unset, .unset, .unset] [])) _
    refine XS.iload X1195.here hx rfl (hb hby at_197) rfl ?_
    exact k
  obtain ⟨_, _, ⟨T1255, L1255, k1255, n1255⟩, -, X1255, ⟨Lc1255, hQ1255, l1255, y1255, z1255⟩, st1255⟩ := Jvm.LawKit.callS X1195 hx (y := (⟨"com/example/spare_calculus/sparecalculus/bisim/PartitionSplitOffMarkedPinLaw", "pop", "(I)I"⟩ : MethodName)) hown (mvT hZ (own_h hw 45 rfl)) (mvT hZ (own_h hw 46 rfl)) (mvT hZ (own_h hw 28 rfl)) (mvT hZ (own_h hw 47 rfl)) (by decide) (backOf (W := 0) (rm7 l Z aZ hw [] w0_9 T1195.heap n0 Z1243 ) hZ (own_h hw 47 rfl) (own_h hw 28 rfl) (by decide) (by decide)) (g := (mkF m 199 #[iv p0, iv p1, rv b935, iv w0_2, iv (own_v1129 w0_2), iv w0_3, iv (f7 w0_2), iv w0_4, iv w0_5, iv w0_6, iv w0_7, iv w0_8, iv w0_9, iv (own_v1254 w0_5 w0_9 w0_2), iv w0_10, .unset, .unset, .unset, .unset, .unset, .unset, .unset] [(.int w0_9)])) rfl (by rw [hml]; rfl) (argsL := [(.int w0_9)]) (rest := []) (lenOf own_pd3 rfl) rfl (by show 2 * 0 + _ ≤ _; exact Nat.le_of_eq rfl) (hb hby at_199) (fun _ _ => ⟨rfl, rfl, (by decide : 8 + 0 ≤ _), (by decide : 37 + 0 ≤ _)⟩)
  dsimp only [Pt.U, Pt.locs, Pt.cells, Pt.slots] at X1255 l1255 y1255 z1255 st1255 hQ1255
  subst l1255 y1255 z1255
  obtain ⟨rfl, N1255q, eh1255⟩ := hQ1255
  have N1255 := Fr.app N1195 N1255q
  refine own_pre st1255 ?_
  refine own_pre (A := T1255.setTop (mkF m 206 #[iv p0, iv p1, rv b935, iv w0_2, iv (own_v1129 w0_2), iv w0_3, iv (f7 w0_2), iv w0_4, iv w0_5, iv w0_6, iv w0_7, iv w0_8, iv w0_9, iv (own_v1254 w0_5 w0_9 w0_2), iv w0_10, iv (f7 w0_9), .unset, .unset, .unset, .unset, .unset, .unset] [(.int w0_3)])) (fun t k => ?_) ?_
  · show Steps p.tables e below (T1255.setTop (mkF m 202 #[iv p0, iv p1, rv b935, iv w0_2, iv (own_v1129 w0_2), iv w0_3, iv (f7 w0_2), iv w0_4, iv w0_5, iv w0_6, iv w0_7, iv w0_8, iv w0_9, iv (own_v1254 w0_5 w0_9 w0_2), iv w0_10, .unset, .unset, .unset, .unset, .unset, .unset, .unset] [(.int (f7 w0_9))])) _
    refine XS.istore X1255.here hx rfl (hb hby at_202) rfl (l' := #[iv p0, iv p1, rv b935, iv w0_2, iv (own_v1129 w0_2), iv w0_3, iv (f7 w0_2), iv w0_4, iv w0_5, iv w0_6, iv w0_7, iv w0_8, iv w0_9, iv (own_v1254 w0_5 w0_9 w0_2), iv w0_10, iv (f7 w0_9), .unset, .unset, .unset, .unset, .unset, .unset]) rfl ?_
    show Steps p.tables e below (T1255.setTop (mkF m 204 #[iv p0, iv p1, rv b935, iv w0_2, iv (own_v1129 w0_2), iv w0_3, iv (f7 w0_2), iv w0_4, iv w0_5, iv w0_6, iv w0_7, iv w0_8, iv w0_9, iv (own_v1254 w0_5 w0_9 w0_2), iv w0_10, iv (f7 w0_9), .unset, .unset, .unset, .unset, .unset, .unset] [])) _
    refine XS.iload X1255.here hx rfl (hb hby at_204) rfl ?_
    exact k
  obtain ⟨w0_11, hw0_11⟩ : ∃ z : Int32, z = (if w0_3 = (0:Int32) then (1:Int32) else (-1:Int32)) := ⟨_, rfl⟩
  refine own_pre (A := T1255.setTop (mkF m 214 #[iv p0, iv p1, rv b935, iv w0_2, iv (own_v1129 w0_2), iv w0_3, iv (f7 w0_2), iv w0_4, iv w0_5, iv w0_6, iv w0_7, iv w0_8, iv w0_9, iv (own_v1254 w0_5 w0_9 w0_2), iv w0_10, iv (f7 w0_9), .unset, .unset, .unset, .unset, .unset, .unset] [(.int w0_11)])) (fun t k => ?_) ?_
  · show Steps p.tables e below (T1255.setTop (mkF m 206 #[iv p0, iv p1, rv b935, iv w0_2, iv (own_v1129 w0_2), iv w0_3, iv (f7 w0_2), iv w0_4, iv w0_5, iv w0_6, iv w0_7, iv w0_8, iv w0_9, iv (own_v1254 w0_5 w0_9 w0_2), iv w0_10, iv (f7 w0_9), .unset, .unset, .unset, .unset, .unset, .unset] [(.int w0_3)])) _
    by_cases hm206_13 : w0_3 = (0:Int32)
    · refine XS.ifYes X1255.here hx rfl (pc0 := 206) (pc' := 213) rfl (hb hby at_206) rfl (XT.i0_eq_t hm206_13) (by decide) (by decide) ?_
      show Steps p.tables e below (T1255.setTop (mkF m 213 #[iv p0, iv p1, rv b935, iv w0_2, iv (own_v1129 w0_2), iv w0_3, iv (f7 w0_2), iv w0_4, iv w0_5, iv w0_6, iv w0_7, iv w0_8, iv w0_9, iv (own_v1254 w0_5 w0_9 w0_2), iv w0_10, iv (f7 w0_9), .unset, .unset, .unset, .unset, .unset, .unset] [])) _
      refine XS.iconst X1255.here hx rfl (hb hby at_213) ?_
      rw [hw0_11.trans (if_pos hm206_13)] at k
      exact k
    · refine XS.ifNo X1255.here hx rfl (hb hby at_206) rfl (XT.i0_eq_f hm206_13) ?_
      show Steps p.tables e below (T1255.setTop (mkF m 209 #[iv p0, iv p1, rv b935, iv w0_2, iv (own_v1129 w0_2), iv w0_3, iv (f7 w0_2), iv w0_4, iv w0_5, iv w0_6, iv w0_7, iv w0_8, iv w0_9, iv (own_v1254 w0_5 w0_9 w0_2), iv w0_10, iv (f7 w0_9), .unset, .unset, .unset, .unset, .unset, .unset] [])) _
      refine XS.iconst X1255.here hx rfl (hb hby at_209) ?_
      show Steps p.tables e below (T1255.setTop (mkF m 210 #[iv p0, iv p1, rv b935, iv w0_2, iv (own_v1129 w0_2), iv w0_3, iv (f7 w0_2), iv w0_4, iv w0_5, iv w0_6, iv w0_7, iv w0_8, iv w0_9, iv (own_v1254 w0_5 w0_9 w0_2), iv w0_10, iv (f7 w0_9), .unset, .unset, .unset, .unset, .unset, .unset] [(.int (-1:Int32))])) _
      refine XS.goto X1255.here hx rfl (pc0 := 210) (pc' := 214) rfl (hb hby at_210) (by decide) (by decide) ?_
      rw [hw0_11.trans (if_neg hm206_13)] at k
      exact k
  refine own_pre (A := T1255.setTop (mkF m 218 #[iv p0, iv p1, rv b935, iv w0_2, iv (own_v1129 w0_2), iv w0_3, iv (f7 w0_2), iv w0_4, iv w0_5, iv w0_6, iv w0_7, iv w0_8, iv w0_9, iv (own_v1254 w0_5 w0_9 w0_2), iv w0_10, iv (f7 w0_9), iv w0_11, .unset, .unset, .unset, .unset, .unset] [(.int w0_10)])) (fun t k => ?_) ?_
  · show Steps p.tables e below (T1255.setTop (mkF m 214 #[iv p0, iv p1, rv b935, iv w0_2, iv (own_v1129 w0_2), iv w0_3, iv (f7 w0_2), iv w0_4, iv w0_5, iv w0_6, iv w0_7, iv w0_8, iv w0_9, iv (own_v1254 w0_5 w0_9 w0_2), iv w0_10, iv (f7 w0_9), .unset, .unset, .unset, .unset, .unset, .unset] [(.int w0_11)])) _
    refine XS.istore X1255.here hx rfl (hb hby at_214) rfl (l' := #[iv p0, iv p1, rv b935, iv w0_2, iv (own_v1129 w0_2), iv w0_3, iv (f7 w0_2), iv w0_4, iv w0_5, iv w0_6, iv w0_7, iv w0_8, iv w0_9, iv (own_v1254 w0_5 w0_9 w0_2), iv w0_10, iv (f7 w0_9), iv w0_11, .unset, .unset, .unset, .unset, .unset]) rfl ?_
    show Steps p.tables e below (T1255.setTop (mkF m 216 #[iv p0, iv p1, rv b935, iv w0_2, iv (own_v1129 w0_2), iv w0_3, iv (f7 w0_2), iv w0_4, iv w0_5, iv w0_6, iv w0_7, iv w0_8, iv w0_9, iv (own_v1254 w0_5 w0_9 w0_2), iv w0_10, iv (f7 w0_9), iv w0_11, .unset, .unset, .unset, .unset, .unset] [])) _
    refine XS.iload X1255.here hx rfl (hb hby at_216) rfl ?_
    exact k
  obtain ⟨w0_12, hw0_12⟩ : ∃ z : Int32, z = (if w0_10 = (0:Int32) then w0_4 else (-1:Int32)) := ⟨_, rfl⟩
  refine own_pre (A := T1255.setTop (mkF m 227 #[iv p0, iv p1, rv b935, iv w0_2, iv (own_v1129 w0_2), iv w0_3, iv (f7 w0_2), iv w0_4, iv w0_5, iv w0_6, iv w0_7, iv w0_8, iv w0_9, iv (own_v1254 w0_5 w0_9 w0_2), iv w0_10, iv (f7 w0_9), iv w0_11, .unset, .unset, .unset, .unset, .unset] [(.int w0_12)])) (fun t k => ?_) ?_
  · show Steps p.tables e below (T1255.setTop (mkF m 218 #[iv p0, iv p1, rv b935, iv w0_2, iv (own_v1129 w0_2), iv w0_3, iv (f7 w0_2), iv w0_4, iv w0_5, iv w0_6, iv w0_7, iv w0_8, iv w0_9, iv (own_v1254 w0_5 w0_9 w0_2), iv w0_10, iv (f7 w0_9), iv w0_11, .unset, .unset, .unset, .unset, .unset] [(.int w0_10)])) _
    by_cases hm218_14 : w0_10 = (0:Int32)
    · refine XS.ifYes X1255.here hx rfl (pc0 := 218) (pc' := 225) rfl (hb hby at_218) rfl (XT.i0_eq_t hm218_14) (by decide) (by decide) ?_
      show Steps p.tables e below (T1255.setTop (mkF m 225 #[iv p0, iv p1, rv b935, iv w0_2, iv (own_v1129 w0_2), iv w0_3, iv (f7 w0_2), iv w0_4, iv w0_5, iv w0_6, iv w0_7, iv w0_8, iv w0_9, iv (own_v1254 w0_5 w0_9 w0_2), iv w0_10, iv (f7 w0_9), iv w0_11, .unset, .unset, .unset, .unset, .unset] [])) _
      refine XS.iload X1255.here hx rfl (hb hby at_225) rfl ?_
      rw [hw0_12.trans (if_pos hm218_14)] at k
      exact k
    · refine XS.ifNo X1255.here hx rfl (hb hby at_218) rfl (XT.i0_eq_f hm218_14) ?_
      show Steps p.tables e below (T1255.setTop (mkF m 221 #[iv p0, iv p1, rv b935, iv w0_2, iv (own_v1129 w0_2), iv w0_3, iv (f7 w0_2), iv w0_4, iv w0_5, iv w0_6, iv w0_7, iv w0_8, iv w0_9, iv (own_v1254 w0_5 w0_9 w0_2), iv w0_10, iv (f7 w0_9), iv w0_11, .unset, .unset, .unset, .unset, .unset] [])) _
      refine XS.iconst X1255.here hx rfl (hb hby at_221) ?_
      show Steps p.tables e below (T1255.setTop (mkF m 222 #[iv p0, iv p1, rv b935, iv w0_2, iv (own_v1129 w0_2), iv w0_3, iv (f7 w0_2), iv w0_4, iv w0_5, iv w0_6, iv w0_7, iv w0_8, iv w0_9, iv (own_v1254 w0_5 w0_9 w0_2), iv w0_10, iv (f7 w0_9), iv w0_11, .unset, .unset, .unset, .unset, .unset] [(.int (-1:Int32))])) _
      refine XS.goto X1255.here hx rfl (pc0 := 222) (pc' := 227) rfl (hb hby at_222) (by decide) (by decide) ?_
      rw [hw0_12.trans (if_neg hm218_14)] at k
      exact k
  refine own_pre (A := T1255.setTop (mkF m 231 #[iv p0, iv p1, rv b935, iv w0_2, iv (own_v1129 w0_2), iv w0_3, iv (f7 w0_2), iv w0_4, iv w0_5, iv w0_6, iv w0_7, iv w0_8, iv w0_9, iv (own_v1254 w0_5 w0_9 w0_2), iv w0_10, iv (f7 w0_9), iv w0_11, iv w0_12, .unset, .unset, .unset, .unset] [(.int w0_10)])) (fun t k => ?_) ?_
  · show Steps p.tables e below (T1255.setTop (mkF m 227 #[iv p0, iv p1, rv b935, iv w0_2, iv (own_v1129 w0_2), iv w0_3, iv (f7 w0_2), iv w0_4, iv w0_5, iv w0_6, iv w0_7, iv w0_8, iv w0_9, iv (own_v1254 w0_5 w0_9 w0_2), iv w0_10, iv (f7 w0_9), iv w0_11, .unset, .unset, .unset, .unset, .unset] [(.int w0_12)])) _
    refine XS.istore X1255.here hx rfl (hb hby at_227) rfl (l' := #[iv p0, iv p1, rv b935, iv w0_2, iv (own_v1129 w0_2), iv w0_3, iv (f7 w0_2), iv w0_4, iv w0_5, iv w0_6, iv w0_7, iv w0_8, iv w0_9, iv (own_v1254 w0_5 w0_9 w0_2), iv w0_10, iv (f7 w0_9), iv w0_11, iv w0_12, .unset, .unset, .unset, .unset]) rfl ?_
    show Steps p.tables e below (T1255.setTop (mkF m 229 #[iv p0, iv p1, rv b935, iv w0_2, iv (own_v1129 w0_2), iv w0_3, iv (f7 w0_2), iv w0_4, iv w0_5, iv w0_6, iv w0_7, iv w0_8, iv w0_9, iv (own_v1254 w0_5 w0_9 w0_2), iv w0_10, iv (f7 w0_9), iv w0_11, iv w0_12, .unset, .unset, .unset, .unset] [])) _
    refine XS.iload X1255.here hx rfl (hb hby at_229) rfl ?_
    exact k
  obtain ⟨w0_13, hw0_13⟩ : ∃ z : Int32, z = (if w0_10 = (0:Int32) then (w0_4 + (1:Int32)) else w0_4) := ⟨_, rfl⟩
  refine own_pre (A := T1255.setTop (mkF m 243 #[iv p0, iv p1, rv b935, iv w0_2, iv (own_v1129 w0_2), iv w0_3, iv (f7 w0_2), iv w0_4, iv w0_5, iv w0_6, iv w0_7, iv w0_8, iv w0_9, iv (own_v1254 w0_5 w0_9 w0_2), iv w0_10, iv (f7 w0_9), iv w0_11, iv w0_12, .unset, .unset, .unset, .unset] [(.int w0_13)])) (fun t k => ?_) ?_
  · show Steps p.tables e below (T1255.setTop (mkF m 231 #[iv p0, iv p1, rv b935, iv w0_2, iv (own_v1129 w0_2), iv w0_3, iv (f7 w0_2), iv w0_4, iv w0_5, iv w0_6, iv w0_7, iv w0_8, iv w0_9, iv (own_v1254 w0_5 w0_9 w0_2), iv w0_10, iv (f7 w0_9), iv w0_11, iv w0_12, .unset, .unset, .unset, .unset] [(.int w0_10)])) _
    by_cases hm231_15 : w0_10 = (0:Int32)
    · refine XS.ifYes X1255.here hx rfl (pc0 := 231) (pc' := 239) rfl (hb hby at_231) rfl (XT.i0_eq_t hm231_15) (by decide) (by decide) ?_
      show Steps p.tables e below (T1255.setTop (mkF m 239 #[iv p0, iv p1, rv b935, iv w0_2, iv (own_v1129 w0_2), iv w0_3, iv (f7 w0_2), iv w0_4, iv w0_5, iv w0_6, iv w0_7, iv w0_8, iv w0_9, iv (own_v1254 w0_5 w0_9 w0_2), iv w0_10, iv (f7 w0_9), iv w0_11, iv w0_12, .unset, .unset, .unset, .unset] [])) _
      refine XS.iload X1255.here hx rfl (hb hby at_239) rfl ?_
      show Steps p.tables e below (T1255.setTop (mkF m 241 #[iv p0, iv p1, rv b935, iv w0_2, iv (own_v1129 w0_2), iv w0_3, iv (f7 w0_2), iv w0_4, iv w0_5, iv w0_6, iv w0_7, iv w0_8, iv w0_9, iv (own_v1254 w0_5 w0_9 w0_2), iv w0_10, iv (f7 w0_9), iv w0_11, iv w0_12, .unset, .unset, .unset, .unset] [(.int w0_4)])) _
      refine XS.iconst X1255.here hx rfl (hb hby at_241) ?_
      show Steps p.tables e below (T1255.setTop (mkF m 242 #[iv p0, iv p1, rv b935, iv w0_2, iv (own_v1129 w0_2), iv w0_3, iv (f7 w0_2), iv w0_4, iv w0_5, iv w0_6, iv w0_7, iv w0_8, iv w0_9, iv (own_v1254 w0_5 w0_9 w0_2), iv w0_10, iv (f7 w0_9), iv w0_11, iv w0_12, .unset, .unset, .unset, .unset] [(.int (1:Int32)), (.int w0_4)])) _
      refine XS.iadd X1255.here hx rfl (hb hby at_242) rfl ?_
      rw [hw0_13.trans (if_pos hm231_15)] at k
      exact k
    · refine XS.ifNo X1255.here hx rfl (hb hby at_231) rfl (XT.i0_eq_f hm231_15) ?_
      show Steps p.tables e below (T1255.setTop (mkF m 234 #[iv p0, iv p1, rv b935, iv w0_2, iv (own_v1129 w0_2), iv w0_3, iv (f7 w0_2), iv w0_4, iv w0_5, iv w0_6, iv w0_7, iv w0_8, iv w0_9, iv (own_v1254 w0_5 w0_9 w0_2), iv w0_10, iv (f7 w0_9), iv w0_11, iv w0_12, .unset, .unset, .unset, .unset] [])) _
      refine XS.iload X1255.here hx rfl (hb hby at_234) rfl ?_
      show Steps p.tables e below (T1255.setTop (mkF m 236 #[iv p0, iv p1, rv b935, iv w0_2, iv (own_v1129 w0_2), iv w0_3, iv (f7 w0_2), iv w0_4, iv w0_5, iv w0_6, iv w0_7, iv w0_8, iv w0_9, iv (own_v1254 w0_5 w0_9 w0_2), iv w0_10, iv (f7 w0_9), iv w0_11, iv w0_12, .unset, .unset, .unset, .unset] [(.int w0_4)])) _
      refine XS.goto X1255.here hx rfl (pc0 := 236) (pc' := 243) rfl (hb hby at_236) (by decide) (by decide) ?_
      rw [hw0_13.trans (if_neg hm231_15)] at k
      exact k
  have hd249_16 : (own_v1129 w0_2) = w0_11 := (by subst hw0_1 hw0_3 hw0_4 hw0_6 hw0_7 hw0_8 hw0_10 hw0_11 hw0_12 hw0_13; exact own_fin1260 w0_2 hm1)
  have hd256_17 : (own_v1254 w0_5 w0_9 w0_2) = w0_12 := (by subst hw0_1 hw0_3 hw0_4 hw0_6 hw0_7 hw0_8 hw0_10 hw0_11 hw0_12 hw0_13; exact own_fin1261 w0_2 hm1 w0_5 hmb.1 w0_9 hm2.1 hmb.2 hm2.2)
  refine own_pre (A := T1255.setTop (mkF m 260 #[iv p0, iv p1, rv b935, iv w0_2, iv (own_v1129 w0_2), iv w0_3, iv (f7 w0_2), iv w0_4, iv w0_5, iv w0_6, iv w0_7, iv w0_8, iv w0_9, iv (own_v1254 w0_5 w0_9 w0_2), iv w0_10, iv (f7 w0_9), iv w0_11, iv w0_12, iv w0_13, .unset, .unset, .unset] [(.ref b935)])) (fun t k => ?_) ?_
  · show Steps p.tables e below (T1255.setTop (mkF m 243 #[iv p0, iv p1, rv b935, iv w0_2, iv (own_v1129 w0_2), iv w0_3, iv (f7 w0_2), iv w0_4, iv w0_5, iv w0_6, iv w0_7, iv w0_8, iv w0_9, iv (own_v1254 w0_5 w0_9 w0_2), iv w0_10, iv (f7 w0_9), iv w0_11, iv w0_12, .unset, .unset, .unset, .unset] [(.int w0_13)])) _
    refine XS.istore X1255.here hx rfl (hb hby at_243) rfl (l' := #[iv p0, iv p1, rv b935, iv w0_2, iv (own_v1129 w0_2), iv w0_3, iv (f7 w0_2), iv w0_4, iv w0_5, iv w0_6, iv w0_7, iv w0_8, iv w0_9, iv (own_v1254 w0_5 w0_9 w0_2), iv w0_10, iv (f7 w0_9), iv w0_11, iv w0_12, iv w0_13, .unset, .unset, .unset]) rfl ?_
    show Steps p.tables e below (T1255.setTop (mkF m 245 #[iv p0, iv p1, rv b935, iv w0_2, iv (own_v1129 w0_2), iv w0_3, iv (f7 w0_2), iv w0_4, iv w0_5, iv w0_6, iv w0_7, iv w0_8, iv w0_9, iv (own_v1254 w0_5 w0_9 w0_2), iv w0_10, iv (f7 w0_9), iv w0_11, iv w0_12, iv w0_13, .unset, .unset, .unset] [])) _
    refine XS.iload X1255.here hx rfl (hb hby at_245) rfl ?_
    show Steps p.tables e below (T1255.setTop (mkF m 247 #[iv p0, iv p1, rv b935, iv w0_2, iv (own_v1129 w0_2), iv w0_3, iv (f7 w0_2), iv w0_4, iv w0_5, iv w0_6, iv w0_7, iv w0_8, iv w0_9, iv (own_v1254 w0_5 w0_9 w0_2), iv w0_10, iv (f7 w0_9), iv w0_11, iv w0_12, iv w0_13, .unset, .unset, .unset] [(.int (own_v1129 w0_2))])) _
    refine XS.iload X1255.here hx rfl (hb hby at_247) rfl ?_
    show Steps p.tables e below (T1255.setTop (mkF m 249 #[iv p0, iv p1, rv b935, iv w0_2, iv (own_v1129 w0_2), iv w0_3, iv (f7 w0_2), iv w0_4, iv w0_5, iv w0_6, iv w0_7, iv w0_8, iv w0_9, iv (own_v1254 w0_5 w0_9 w0_2), iv w0_10, iv (f7 w0_9), iv w0_11, iv w0_12, iv w0_13, .unset, .unset, .unset] [(.int w0_11), (.int (own_v1129 w0_2))])) _
    refine XS.icmpNo X1255.here hx rfl (hb hby at_249) rfl (XT.ii_ne_f hd249_16) ?_
    show Steps p.tables e below (T1255.setTop (mkF m 252 #[iv p0, iv p1, rv b935, iv w0_2, iv (own_v1129 w0_2), iv w0_3, iv (f7 w0_2), iv w0_4, iv w0_5, iv w0_6, iv w0_7, iv w0_8, iv w0_9, iv (own_v1254 w0_5 w0_9 w0_2), iv w0_10, iv (f7 w0_9), iv w0_11, iv w0_12, iv w0_13, .unset, .unset, .unset] [])) _
    refine XS.iload X1255.here hx rfl (hb hby at_252) rfl ?_
    show Steps p.tables e below (T1255.setTop (mkF m 254 #[iv p0, iv p1, rv b935, iv w0_2, iv (own_v1129 w0_2), iv w0_3, iv (f7 w0_2), iv w0_4, iv w0_5, iv w0_6, iv w0_7, iv w0_8, iv w0_9, iv (own_v1254 w0_5 w0_9 w0_2), iv w0_10, iv (f7 w0_9), iv w0_11, iv w0_12, iv w0_13, .unset, .unset, .unset] [(.int (own_v1254 w0_5 w0_9 w0_2))])) _
    refine XS.iload X1255.here hx rfl (hb hby at_254) rfl ?_
    show Steps p.tables e below (T1255.setTop (mkF m 256 #[iv p0, iv p1, rv b935, iv w0_2, iv (own_v1129 w0_2), iv w0_3, iv (f7 w0_2), iv w0_4, iv w0_5, iv w0_6, iv w0_7, iv w0_8, iv w0_9, iv (own_v1254 w0_5 w0_9 w0_2), iv w0_10, iv (f7 w0_9), iv w0_11, iv w0_12, iv w0_13, .unset, .unset, .unset] [(.int w0_12), (.int (own_v1254 w0_5 w0_9 w0_2))])) _
    refine XS.icmpNo X1255.here hx rfl (hb hby at_256) rfl (XT.ii_ne_f hd256_17) ?_
    show Steps p.tables e below (T1255.setTop (mkF m 259 #[iv p0, iv p1, rv b935, iv w0_2, iv (own_v1129 w0_2), iv w0_3, iv (f7 w0_2), iv w0_4, iv w0_5, iv w0_6, iv w0_7, iv w0_8, iv w0_9, iv (own_v1254 w0_5 w0_9 w0_2), iv w0_10, iv (f7 w0_9), iv w0_11, iv w0_12, iv w0_13, .unset, .unset, .unset] [])) _
    refine XS.aloadN X1255.here hx rfl (hb hby at_259) rfl rfl ?_
    exact k
  have F1263 := (F1196.keep K1195)
  obtain ⟨cq1262, kq1262, q1262a, q1262b, q1262c⟩ := isOf hZ eh1255 F1263
  obtain ⟨_, _, ⟨T1262, L1262, k1262, n1262⟩, -, X1262, ⟨Lc1262, hQ1262, l1262, y1262, z1262⟩, st1262⟩ := X1255.virtualBack hx (y := (⟨"com/example/spare_calculus/sparecalculus/bisim/Partition", "blockCount", "()I"⟩ : MethodName)) (z := (⟨"com/example/spare_calculus/sparecalculus/bisim/Partition", "blockCount", "()I"⟩ : MethodName)) hown (mvT hZ (own_h hw 48 rfl)) (mvT hZ (own_h hw 49 rfl)) (notFace_of_selects (args := #[]) (mvT hZ (own_h hw 51 rfl))) (mvT hZ (own_h hw 51 rfl)) (mvT hZ (own_h hw 50 rfl)) (by decide) (backOf (W := 0) (rm8 l Z aZ hw [] b935 (own_v1244 w0_5 w0_9 w0_2) T1195.heap n0 Z1243 G1245) hZ (own_h hw 52 rfl) (own_h hw 2 rfl) (by decide) (by decide)) q1262a q1262c (g := (mkF m 260 #[iv p0, iv p1, rv b935, iv w0_2, iv (own_v1129 w0_2), iv w0_3, iv (f7 w0_2), iv w0_4, iv w0_5, iv w0_6, iv w0_7, iv w0_8, iv w0_9, iv (own_v1254 w0_5 w0_9 w0_2), iv w0_10, iv (f7 w0_9), iv w0_11, iv w0_12, iv w0_13, .unset, .unset, .unset] [(.ref b935)])) rfl (by rw [hml]; rfl) (Steps.refl _) (argsL := []) (rest := []) (lenOf own_pd4 rfl) rfl (by show 2 * 0 + _ ≤ _; exact Nat.le_of_eq rfl) (hb hby at_260) (fun _ _ => ⟨rfl, eh1255, (by decide : 8 + 0 ≤ _), (by decide : 37 + 0 ≤ _)⟩)
  dsimp only [Pt.U, Pt.locs, Pt.cells, Pt.slots] at X1262 l1262 y1262 z1262 st1262 hQ1262
  subst l1262 y1262 z1262
  obtain ⟨rfl, N1262q, eh1262⟩ := hQ1262
  have N1262 := Fr.app N1255 N1262q
  refine own_pre (fun _ k => st1262.trans k) ?_
  have hd265_18 : (f8 (own_v1244 w0_5 w0_9 w0_2)) = w0_13 := (by subst hw0_1 hw0_3 hw0_4 hw0_6 hw0_7 hw0_8 hw0_10 hw0_11 hw0_12 hw0_13; exact own_fin1264 w0_2 hm1 w0_5 hmb.1 w0_9 hm2.1 hmb.2 hm2.2)
  refine own_pre (A := T1262.setTop (mkF m 277 #[iv p0, iv p1, rv b935, iv w0_2, iv (own_v1129 w0_2), iv w0_3, iv (f7 w0_2), iv w0_4, iv w0_5, iv w0_6, iv w0_7, iv w0_8, iv w0_9, iv (own_v1254 w0_5 w0_9 w0_2), iv w0_10, iv (f7 w0_9), iv w0_11, iv w0_12, iv w0_13, iv (1:Int32), .unset, .unset] [(.int w0_10)])) (fun t k => ?_) ?_
  · show Steps p.tables e below (T1262.setTop (mkF m 263 #[iv p0, iv p1, rv b935, iv w0_2, iv (own_v1129 w0_2), iv w0_3, iv (f7 w0_2), iv w0_4, iv w0_5, iv w0_6, iv w0_7, iv w0_8, iv w0_9, iv (own_v1254 w0_5 w0_9 w0_2), iv w0_10, iv (f7 w0_9), iv w0_11, iv w0_12, iv w0_13, .unset, .unset, .unset] [(.int (f8 (own_v1244 w0_5 w0_9 w0_2)))])) _
    refine XS.iload X1262.here hx rfl (hb hby at_263) rfl ?_
    show Steps p.tables e below (T1262.setTop (mkF m 265 #[iv p0, iv p1, rv b935, iv w0_2, iv (own_v1129 w0_2), iv w0_3, iv (f7 w0_2), iv w0_4, iv w0_5, iv w0_6, iv w0_7, iv w0_8, iv w0_9, iv (own_v1254 w0_5 w0_9 w0_2), iv w0_10, iv (f7 w0_9), iv w0_11, iv w0_12, iv w0_13, .unset, .unset, .unset] [(.int w0_13), (.int (f8 (own_v1244 w0_5 w0_9 w0_2)))])) _
    refine XS.icmpNo X1262.here hx rfl (hb hby at_265) rfl (XT.ii_ne_f hd265_18) ?_
    show Steps p.tables e below (T1262.setTop (mkF m 268 #[iv p0, iv p1, rv b935, iv w0_2, iv (own_v1129 w0_2), iv w0_3, iv (f7 w0_2), iv w0_4, iv w0_5, iv w0_6, iv w0_7, iv w0_8, iv w0_9, iv (own_v1254 w0_5 w0_9 w0_2), iv w0_10, iv (f7 w0_9), iv w0_11, iv w0_12, iv w0_13, .unset, .unset, .unset] [])) _
    refine XS.iconst X1262.here hx rfl (hb hby at_268) ?_
    show Steps p.tables e below (T1262.setTop (mkF m 269 #[iv p0, iv p1, rv b935, iv w0_2, iv (own_v1129 w0_2), iv w0_3, iv (f7 w0_2), iv w0_4, iv w0_5, iv w0_6, iv w0_7, iv w0_8, iv w0_9, iv (own_v1254 w0_5 w0_9 w0_2), iv w0_10, iv (f7 w0_9), iv w0_11, iv w0_12, iv w0_13, .unset, .unset, .unset] [(.int (1:Int32))])) _
    refine XS.goto X1262.here hx rfl (pc0 := 269) (pc' := 273) rfl (hb hby at_269) (by decide) (by decide) ?_
    show Steps p.tables e below (T1262.setTop (mkF m 273 #[iv p0, iv p1, rv b935, iv w0_2, iv (own_v1129 w0_2), iv w0_3, iv (f7 w0_2), iv w0_4, iv w0_5, iv w0_6, iv w0_7, iv w0_8, iv w0_9, iv (own_v1254 w0_5 w0_9 w0_2), iv w0_10, iv (f7 w0_9), iv w0_11, iv w0_12, iv w0_13, .unset, .unset, .unset] [(.int (1:Int32))])) _
    refine XS.istore X1262.here hx rfl (hb hby at_273) rfl (l' := #[iv p0, iv p1, rv b935, iv w0_2, iv (own_v1129 w0_2), iv w0_3, iv (f7 w0_2), iv w0_4, iv w0_5, iv w0_6, iv w0_7, iv w0_8, iv w0_9, iv (own_v1254 w0_5 w0_9 w0_2), iv w0_10, iv (f7 w0_9), iv w0_11, iv w0_12, iv w0_13, iv (1:Int32), .unset, .unset]) rfl ?_
    show Steps p.tables e below (T1262.setTop (mkF m 275 #[iv p0, iv p1, rv b935, iv w0_2, iv (own_v1129 w0_2), iv w0_3, iv (f7 w0_2), iv w0_4, iv w0_5, iv w0_6, iv w0_7, iv w0_8, iv w0_9, iv (own_v1254 w0_5 w0_9 w0_2), iv w0_10, iv (f7 w0_9), iv w0_11, iv w0_12, iv w0_13, iv (1:Int32), .unset, .unset] [])) _
    refine XS.iload X1262.here hx rfl (hb hby at_275) rfl ?_
    exact k
  obtain ⟨w0_14, hw0_14⟩ : ∃ z : Int32, z = (if w0_10 = (0:Int32) then (w0_7 + (f7 w0_9)) else w0_7) := ⟨_, rfl⟩
  refine own_pre (A := T1262.setTop (mkF m 290 #[iv p0, iv p1, rv b935, iv w0_2, iv (own_v1129 w0_2), iv w0_3, iv (f7 w0_2), iv w0_4, iv w0_5, iv w0_6, iv w0_7, iv w0_8, iv w0_9, iv (own_v1254 w0_5 w0_9 w0_2), iv w0_10, iv (f7 w0_9), iv w0_11, iv w0_12, iv w0_13, iv (1:Int32), .unset, .unset] [(.int w0_14)])) (fun t k => ?_) ?_
  · show Steps p.tables e below (T1262.setTop (mkF m 277 #[iv p0, iv p1, rv b935, iv w0_2, iv (own_v1129 w0_2), iv w0_3, iv (f7 w0_2), iv w0_4, iv w0_5, iv w0_6, iv w0_7, iv w0_8, iv w0_9, iv (own_v1254 w0_5 w0_9 w0_2), iv w0_10, iv (f7 w0_9), iv w0_11, iv w0_12, iv w0_13, iv (1:Int32), .unset, .unset] [(.int w0_10)])) _
    by_cases hm277_19 : w0_10 = (0:Int32)
    · refine XS.ifYes X1262.here hx rfl (pc0 := 277) (pc' := 285) rfl (hb hby at_277) rfl (XT.i0_eq_t hm277_19) (by decide) (by decide) ?_
      show Steps p.tables e below (T1262.setTop (mkF m 285 #[iv p0, iv p1, rv b935, iv w0_2, iv (own_v1129 w0_2), iv w0_3, iv (f7 w0_2), iv w0_4, iv w0_5, iv w0_6, iv w0_7, iv w0_8, iv w0_9, iv (own_v1254 w0_5 w0_9 w0_2), iv w0_10, iv (f7 w0_9), iv w0_11, iv w0_12, iv w0_13, iv (1:Int32), .unset, .unset] [])) _
      refine XS.iload X1262.here hx rfl (hb hby at_285) rfl ?_
      show Steps p.tables e below (T1262.setTop (mkF m 287 #[iv p0, iv p1, rv b935, iv w0_2, iv (own_v1129 w0_2), iv w0_3, iv (f7 w0_2), iv w0_4, iv w0_5, iv w0_6, iv w0_7, iv w0_8, iv w0_9, iv (own_v1254 w0_5 w0_9 w0_2), iv w0_10, iv (f7 w0_9), iv w0_11, iv w0_12, iv w0_13, iv (1:Int32), .unset, .unset] [(.int w0_7)])) _
      refine XS.iload X1262.here hx rfl (hb hby at_287) rfl ?_
      show Steps p.tables e below (T1262.setTop (mkF m 289 #[iv p0, iv p1, rv b935, iv w0_2, iv (own_v1129 w0_2), iv w0_3, iv (f7 w0_2), iv w0_4, iv w0_5, iv w0_6, iv w0_7, iv w0_8, iv w0_9, iv (own_v1254 w0_5 w0_9 w0_2), iv w0_10, iv (f7 w0_9), iv w0_11, iv w0_12, iv w0_13, iv (1:Int32), .unset, .unset] [(.int (f7 w0_9)), (.int w0_7)])) _
      refine XS.iadd X1262.here hx rfl (hb hby at_289) rfl ?_
      rw [hw0_14.trans (if_pos hm277_19)] at k
      exact k
    · refine XS.ifNo X1262.here hx rfl (hb hby at_277) rfl (XT.i0_eq_f hm277_19) ?_
      show Steps p.tables e below (T1262.setTop (mkF m 280 #[iv p0, iv p1, rv b935, iv w0_2, iv (own_v1129 w0_2), iv w0_3, iv (f7 w0_2), iv w0_4, iv w0_5, iv w0_6, iv w0_7, iv w0_8, iv w0_9, iv (own_v1254 w0_5 w0_9 w0_2), iv w0_10, iv (f7 w0_9), iv w0_11, iv w0_12, iv w0_13, iv (1:Int32), .unset, .unset] [])) _
      refine XS.iload X1262.here hx rfl (hb hby at_280) rfl ?_
      show Steps p.tables e below (T1262.setTop (mkF m 282 #[iv p0, iv p1, rv b935, iv w0_2, iv (own_v1129 w0_2), iv w0_3, iv (f7 w0_2), iv w0_4, iv w0_5, iv w0_6, iv w0_7, iv w0_8, iv w0_9, iv (own_v1254 w0_5 w0_9 w0_2), iv w0_10, iv (f7 w0_9), iv w0_11, iv w0_12, iv w0_13, iv (1:Int32), .unset, .unset] [(.int w0_7)])) _
      refine XS.goto X1262.here hx rfl (pc0 := 282) (pc' := 290) rfl (hb hby at_282) (by decide) (by decide) ?_
      rw [hw0_14.trans (if_neg hm277_19)] at k
      exact k
  refine own_pre (A := T1262.setTop (mkF m 300 #[iv p0, iv p1, rv b935, iv w0_2, iv (own_v1129 w0_2), iv w0_3, iv (f7 w0_2), iv w0_4, iv w0_5, iv w0_6, iv w0_7, iv w0_8, iv w0_9, iv (own_v1254 w0_5 w0_9 w0_2), iv w0_10, iv (f7 w0_9), iv w0_11, iv w0_12, iv w0_13, iv (1:Int32), iv w0_14, .unset] [(.int w0_5), (.ref b935)])) (fun t k => ?_) ?_
  · show Steps p.tables e below (T1262.setTop (mkF m 290 #[iv p0, iv p1, rv b935, iv w0_2, iv (own_v1129 w0_2), iv w0_3, iv (f7 w0_2), iv w0_4, iv w0_5, iv w0_6, iv w0_7, iv w0_8, iv w0_9, iv (own_v1254 w0_5 w0_9 w0_2), iv w0_10, iv (f7 w0_9), iv w0_11, iv w0_12, iv w0_13, iv (1:Int32), .unset, .unset] [(.int w0_14)])) _
    refine XS.istore X1262.here hx rfl (hb hby at_290) rfl (l' := #[iv p0, iv p1, rv b935, iv w0_2, iv (own_v1129 w0_2), iv w0_3, iv (f7 w0_2), iv w0_4, iv w0_5, iv w0_6, iv w0_7, iv w0_8, iv w0_9, iv (own_v1254 w0_5 w0_9 w0_2), iv w0_10, iv (f7 w0_9), iv w0_11, iv w0_12, iv w0_13, iv (1:Int32), iv w0_14, .unset]) rfl ?_
    show Steps p.tables e below (T1262.setTop (mkF m 292 #[iv p0, iv p1, rv b935, iv w0_2, iv (own_v1129 w0_2), iv w0_3, iv (f7 w0_2), iv w0_4, iv w0_5, iv w0_6, iv w0_7, iv w0_8, iv w0_9, iv (own_v1254 w0_5 w0_9 w0_2), iv w0_10, iv (f7 w0_9), iv w0_11, iv w0_12, iv w0_13, iv (1:Int32), iv w0_14, .unset] [])) _
    refine XS.iload X1262.here hx rfl (hb hby at_292) rfl ?_
    show Steps p.tables e below (T1262.setTop (mkF m 294 #[iv p0, iv p1, rv b935, iv w0_2, iv (own_v1129 w0_2), iv w0_3, iv (f7 w0_2), iv w0_4, iv w0_5, iv w0_6, iv w0_7, iv w0_8, iv w0_9, iv (own_v1254 w0_5 w0_9 w0_2), iv w0_10, iv (f7 w0_9), iv w0_11, iv w0_12, iv w0_13, iv (1:Int32), iv w0_14, .unset] [(.int (1:Int32))])) _
    refine XS.ifNo X1262.here hx rfl (hb hby at_294) rfl (XT.i0_eq_f (by decide)) ?_
    show Steps p.tables e below (T1262.setTop (mkF m 297 #[iv p0, iv p1, rv b935, iv w0_2, iv (own_v1129 w0_2), iv w0_3, iv (f7 w0_2), iv w0_4, iv w0_5, iv w0_6, iv w0_7, iv w0_8, iv w0_9, iv (own_v1254 w0_5 w0_9 w0_2), iv w0_10, iv (f7 w0_9), iv w0_11, iv w0_12, iv w0_13, iv (1:Int32), iv w0_14, .unset] [])) _
    refine XS.aloadN X1262.here hx rfl (hb hby at_297) rfl rfl ?_
    show Steps p.tables e below (T1262.setTop (mkF m 298 #[iv p0, iv p1, rv b935, iv w0_2, iv (own_v1129 w0_2), iv w0_3, iv (f7 w0_2), iv w0_4, iv w0_5, iv w0_6, iv w0_7, iv w0_8, iv w0_9, iv (own_v1254 w0_5 w0_9 w0_2), iv w0_10, iv (f7 w0_9), iv w0_11, iv w0_12, iv w0_13, iv (1:Int32), iv w0_14, .unset] [(.ref b935)])) _
    refine XS.iload X1262.here hx rfl (hb hby at_298) rfl ?_
    exact k
  have hf1268 : own_In w0_5 (own_v1248 w0_5 w0_9 w0_2).length := by subst hw0_1 hw0_3 hw0_4 hw0_6 hw0_7 hw0_8 hw0_10 hw0_11 hw0_12 hw0_13 hw0_14; exact own_fin1267 w0_2 hm1 w0_5 hmb.1 w0_9 hm2.1 hmb.2 hm2.2
  obtain ⟨cq1265, kq1265, q1265a, q1265b, q1265c⟩ := isOf hZ eh1262 F1263
  obtain ⟨_, _, ⟨T1265, L1265, k1265, n1265⟩, -, X1265, ⟨Lc1265, hQ1265, l1265, y1265, z1265⟩, st1265⟩ := X1262.virtualBack hx (y := (⟨"com/example/spare_calculus/sparecalculus/bisim/Partition", "start", "(I)I"⟩ : MethodName)) (z := (⟨"com/example/spare_calculus/sparecalculus/bisim/Partition", "start", "(I)I"⟩ : MethodName)) hown (mvT hZ (own_h hw 53 rfl)) (mvT hZ (own_h hw 54 rfl)) (notFace_of_selects (args := #[]) (mvT hZ (own_h hw 56 rfl))) (mvT hZ (own_h hw 56 rfl)) (mvT hZ (own_h hw 55 rfl)) (by decide) (backOf (W := 0) (rm9 l Z aZ hw [] b935 w0_5 e4_941 (own_v1248 w0_5 w0_9 w0_2) T1195.heap n0 Z1243 G1233 G1249 hf1268) hZ (own_h hw 57 rfl) (own_h hw 2 rfl) (by decide) (by decide)) q1265a q1265c (g := (mkF m 300 #[iv p0, iv p1, rv b935, iv w0_2, iv (own_v1129 w0_2), iv w0_3, iv (f7 w0_2), iv w0_4, iv w0_5, iv w0_6, iv w0_7, iv w0_8, iv w0_9, iv (own_v1254 w0_5 w0_9 w0_2), iv w0_10, iv (f7 w0_9), iv w0_11, iv w0_12, iv w0_13, iv (1:Int32), iv w0_14, .unset] [(.int w0_5), (.ref b935)])) rfl (by rw [hml]; rfl) (Steps.refl _) (argsL := [(.int w0_5)]) (rest := []) (lenOf own_pd3 rfl) rfl (by show 2 * 0 + _ ≤ _; exact Nat.le_of_eq rfl) (hb hby at_300) (fun _ _ => ⟨rfl, eh1262, (by decide : 8 + 0 ≤ _), (by decide : 37 + 0 ≤ _)⟩)
  dsimp only [Pt.U, Pt.locs, Pt.cells, Pt.slots] at X1265 l1265 y1265 z1265 st1265 hQ1265
  subst l1265 y1265 z1265
  obtain ⟨rfl, N1265q, eh1265⟩ := hQ1265
  have N1265 := Fr.app N1262 N1265q
  refine own_pre (fun _ k => st1265.trans k) ?_
  have hd305_20 : (f9 w0_5 (own_v1248 w0_5 w0_9 w0_2)) = w0_14 := (by subst hw0_1 hw0_3 hw0_4 hw0_6 hw0_7 hw0_8 hw0_10 hw0_11 hw0_12 hw0_13 hw0_14; exact own_fin1269 w0_2 hm1 w0_5 hmb.1 w0_9 hm2.1 hmb.2 hm2.2)
  refine own_pre (A := T1265.setTop (mkF m 311 #[iv p0, iv p1, rv b935, iv w0_2, iv (own_v1129 w0_2), iv w0_3, iv (f7 w0_2), iv w0_4, iv w0_5, iv w0_6, iv w0_7, iv w0_8, iv w0_9, iv (own_v1254 w0_5 w0_9 w0_2), iv w0_10, iv (f7 w0_9), iv w0_11, iv w0_12, iv w0_13, iv (1:Int32), iv w0_14, .unset] [(.int w0_5), (.ref b935)])) (fun t k => ?_) ?_
  · show Steps p.tables e below (T1265.setTop (mkF m 303 #[iv p0, iv p1, rv b935, iv w0_2, iv (own_v1129 w0_2), iv w0_3, iv (f7 w0_2), iv w0_4, iv w0_5, iv w0_6, iv w0_7, iv w0_8, iv w0_9, iv (own_v1254 w0_5 w0_9 w0_2), iv w0_10, iv (f7 w0_9), iv w0_11, iv w0_12, iv w0_13, iv (1:Int32), iv w0_14, .unset] [(.int (f9 w0_5 (own_v1248 w0_5 w0_9 w0_2)))])) _
    refine XS.iload X1265.here hx rfl (hb hby at_303) rfl ?_
    show Steps p.tables e below (T1265.setTop (mkF m 305 #[iv p0, iv p1, rv b935, iv w0_2, iv (own_v1129 w0_2), iv w0_3, iv (f7 w0_2), iv w0_4, iv w0_5, iv w0_6, iv w0_7, iv w0_8, iv w0_9, iv (own_v1254 w0_5 w0_9 w0_2), iv w0_10, iv (f7 w0_9), iv w0_11, iv w0_12, iv w0_13, iv (1:Int32), iv w0_14, .unset] [(.int w0_14), (.int (f9 w0_5 (own_v1248 w0_5 w0_9 w0_2)))])) _
    refine XS.icmpNo X1265.here hx rfl (hb hby at_305) rfl (XT.ii_ne_f hd305_20) ?_
    show Steps p.tables e below (T1265.setTop (mkF m 308 #[iv p0, iv p1, rv b935, iv w0_2, iv (own_v1129 w0_2), iv w0_3, iv (f7 w0_2), iv w0_4, iv w0_5, iv w0_6, iv w0_7, iv w0_8, iv w0_9, iv (own_v1254 w0_5 w0_9 w0_2), iv w0_10, iv (f7 w0_9), iv w0_11, iv w0_12, iv w0_13, iv (1:Int32), iv w0_14, .unset] [])) _
    refine XS.aloadN X1265.here hx rfl (hb hby at_308) rfl rfl ?_
    show Steps p.tables e below (T1265.setTop (mkF m 309 #[iv p0, iv p1, rv b935, iv w0_2, iv (own_v1129 w0_2), iv w0_3, iv (f7 w0_2), iv w0_4, iv w0_5, iv w0_6, iv w0_7, iv w0_8, iv w0_9, iv (own_v1254 w0_5 w0_9 w0_2), iv w0_10, iv (f7 w0_9), iv w0_11, iv w0_12, iv w0_13, iv (1:Int32), iv w0_14, .unset] [(.ref b935)])) _
    refine XS.iload X1265.here hx rfl (hb hby at_309) rfl ?_
    exact k
  have hf1272 : own_In w0_5 (own_v1250 w0_5 w0_9 w0_2).length := by subst hw0_1 hw0_3 hw0_4 hw0_6 hw0_7 hw0_8 hw0_10 hw0_11 hw0_12 hw0_13 hw0_14; exact own_fin1271 w0_2 hm1 w0_5 hmb.1 w0_9 hm2.1 hmb.2 hm2.2
  obtain ⟨cq1270, kq1270, q1270a, q1270b, q1270c⟩ := isOf hZ eh1265 F1263
  obtain ⟨_, _, ⟨T1270, L1270, k1270, n1270⟩, -, X1270, ⟨Lc1270, hQ1270, l1270, y1270, z1270⟩, st1270⟩ := X1265.virtualBack hx (y := (⟨"com/example/spare_calculus/sparecalculus/bisim/Partition", "end", "(I)I"⟩ : MethodName)) (z := (⟨"com/example/spare_calculus/sparecalculus/bisim/Partition", "end", "(I)I"⟩ : MethodName)) hown (mvT hZ (own_h hw 58 rfl)) (mvT hZ (own_h hw 59 rfl)) (notFace_of_selects (args := #[]) (mvT hZ (own_h hw 61 rfl))) (mvT hZ (own_h hw 61 rfl)) (mvT hZ (own_h hw 60 rfl)) (by decide) (backOf (W := 0) (rm10 l Z aZ hw [] b935 w0_5 e5_942 (own_v1250 w0_5 w0_9 w0_2) T1195.heap n0 Z1243 G1234 G1251 hf1272) hZ (own_h hw 62 rfl) (own_h hw 2 rfl) (by decide) (by decide)) q1270a q1270c (g := (mkF m 311 #[iv p0, iv p1, rv b935, iv w0_2, iv (own_v1129 w0_2), iv w0_3, iv (f7 w0_2), iv w0_4, iv w0_5, iv w0_6, iv w0_7, iv w0_8, iv w0_9, iv (own_v1254 w0_5 w0_9 w0_2), iv w0_10, iv (f7 w0_9), iv w0_11, iv w0_12, iv w0_13, iv (1:Int32), iv w0_14, .unset] [(.int w0_5), (.ref b935)])) rfl (by rw [hml]; rfl) (Steps.refl _) (argsL := [(.int w0_5)]) (rest := []) (lenOf own_pd3 rfl) rfl (by show 2 * 0 + _ ≤ _; exact Nat.le_of_eq rfl) (hb hby at_311) (fun _ _ => ⟨rfl, eh1265, (by decide : 8 + 0 ≤ _), (by decide : 37 + 0 ≤ _)⟩)
  dsimp only [Pt.U, Pt.locs, Pt.cells, Pt.slots] at X1270 l1270 y1270 z1270 st1270 hQ1270
  subst l1270 y1270 z1270
  obtain ⟨rfl, N1270q, eh1270⟩ := hQ1270
  have N1270 := Fr.app N1265 N1270q
  refine own_pre (fun _ k => st1270.trans k) ?_
  have hd316_21 : (f10 w0_5 (own_v1250 w0_5 w0_9 w0_2)) = w0_8 := (by subst hw0_1 hw0_3 hw0_4 hw0_6 hw0_7 hw0_8 hw0_10 hw0_11 hw0_12 hw0_13 hw0_14; exact own_fin1273 w0_2 hm1 w0_5 hmb.1 w0_9 hm2.1 hmb.2 hm2.2)
  refine own_pre (A := T1270.setTop (mkF m 322 #[iv p0, iv p1, rv b935, iv w0_2, iv (own_v1129 w0_2), iv w0_3, iv (f7 w0_2), iv w0_4, iv w0_5, iv w0_6, iv w0_7, iv w0_8, iv w0_9, iv (own_v1254 w0_5 w0_9 w0_2), iv w0_10, iv (f7 w0_9), iv w0_11, iv w0_12, iv w0_13, iv (1:Int32), iv w0_14, .unset] [(.int w0_5), (.ref b935)])) (fun t k => ?_) ?_
  · show Steps p.tables e below (T1270.setTop (mkF m 314 #[iv p0, iv p1, rv b935, iv w0_2, iv (own_v1129 w0_2), iv w0_3, iv (f7 w0_2), iv w0_4, iv w0_5, iv w0_6, iv w0_7, iv w0_8, iv w0_9, iv (own_v1254 w0_5 w0_9 w0_2), iv w0_10, iv (f7 w0_9), iv w0_11, iv w0_12, iv w0_13, iv (1:Int32), iv w0_14, .unset] [(.int (f10 w0_5 (own_v1250 w0_5 w0_9 w0_2)))])) _
    refine XS.iload X1270.here hx rfl (hb hby at_314) rfl ?_
    show Steps p.tables e below (T1270.setTop (mkF m 316 #[iv p0, iv p1, rv b935, iv w0_2, iv (own_v1129 w0_2), iv w0_3, iv (f7 w0_2), iv w0_4, iv w0_5, iv w0_6, iv w0_7, iv w0_8, iv w0_9, iv (own_v1254 w0_5 w0_9 w0_2), iv w0_10, iv (f7 w0_9), iv w0_11, iv w0_12, iv w0_13, iv (1:Int32), iv w0_14, .unset] [(.int w0_8), (.int (f10 w0_5 (own_v1250 w0_5 w0_9 w0_2)))])) _
    refine XS.icmpNo X1270.here hx rfl (hb hby at_316) rfl (XT.ii_ne_f hd316_21) ?_
    show Steps p.tables e below (T1270.setTop (mkF m 319 #[iv p0, iv p1, rv b935, iv w0_2, iv (own_v1129 w0_2), iv w0_3, iv (f7 w0_2), iv w0_4, iv w0_5, iv w0_6, iv w0_7, iv w0_8, iv w0_9, iv (own_v1254 w0_5 w0_9 w0_2), iv w0_10, iv (f7 w0_9), iv w0_11, iv w0_12, iv w0_13, iv (1:Int32), iv w0_14, .unset] [])) _
    refine XS.aloadN X1270.here hx rfl (hb hby at_319) rfl rfl ?_
    show Steps p.tables e below (T1270.setTop (mkF m 320 #[iv p0, iv p1, rv b935, iv w0_2, iv (own_v1129 w0_2), iv w0_3, iv (f7 w0_2), iv w0_4, iv w0_5, iv w0_6, iv w0_7, iv w0_8, iv w0_9, iv (own_v1254 w0_5 w0_9 w0_2), iv w0_10, iv (f7 w0_9), iv w0_11, iv w0_12, iv w0_13, iv (1:Int32), iv w0_14, .unset] [(.ref b935)])) _
    refine XS.iload X1270.here hx rfl (hb hby at_320) rfl ?_
    exact k
  have hf1276 : own_In w0_5 (own_v1252 w0_5 w0_9 w0_2).length := by subst hw0_1 hw0_3 hw0_4 hw0_6 hw0_7 hw0_8 hw0_10 hw0_11 hw0_12 hw0_13 hw0_14; exact own_fin1275 w0_2 hm1 w0_5 hmb.1 w0_9 hm2.1 hmb.2 hm2.2
  obtain ⟨cq1274, kq1274, q1274a, q1274b, q1274c⟩ := isOf hZ eh1270 F1263
  obtain ⟨_, _, ⟨T1274, L1274, k1274, n1274⟩, -, X1274, ⟨Lc1274, hQ1274, l1274, y1274, z1274⟩, st1274⟩ := X1270.virtualBack hx (y := (⟨"com/example/spare_calculus/sparecalculus/bisim/Partition", "markedEnd", "(I)I"⟩ : MethodName)) (z := (⟨"com/example/spare_calculus/sparecalculus/bisim/Partition", "markedEnd", "(I)I"⟩ : MethodName)) hown (mvT hZ (own_h hw 63 rfl)) (mvT hZ (own_h hw 64 rfl)) (notFace_of_selects (args := #[]) (mvT hZ (own_h hw 66 rfl))) (mvT hZ (own_h hw 66 rfl)) (mvT hZ (own_h hw 65 rfl)) (by decide) (backOf (W := 0) (rm11 l Z aZ hw [] b935 w0_5 e6_943 (own_v1252 w0_5 w0_9 w0_2) T1195.heap n0 Z1243 G1235 G1253 hf1276) hZ (own_h hw 67 rfl) (own_h hw 2 rfl) (by decide) (by decide)) q1274a q1274c (g := (mkF m 322 #[iv p0, iv p1, rv b935, iv w0_2, iv (own_v1129 w0_2), iv w0_3, iv (f7 w0_2), iv w0_4, iv w0_5, iv w0_6, iv w0_7, iv w0_8, iv w0_9, iv (own_v1254 w0_5 w0_9 w0_2), iv w0_10, iv (f7 w0_9), iv w0_11, iv w0_12, iv w0_13, iv (1:Int32), iv w0_14, .unset] [(.int w0_5), (.ref b935)])) rfl (by rw [hml]; rfl) (Steps.refl _) (argsL := [(.int w0_5)]) (rest := []) (lenOf own_pd3 rfl) rfl (by show 2 * 0 + _ ≤ _; exact Nat.le_of_eq rfl) (hb hby at_322) (fun _ _ => ⟨rfl, eh1270, (by decide : 8 + 0 ≤ _), (by decide : 37 + 0 ≤ _)⟩)
  dsimp only [Pt.U, Pt.locs, Pt.cells, Pt.slots] at X1274 l1274 y1274 z1274 st1274 hQ1274
  subst l1274 y1274 z1274
  obtain ⟨rfl, N1274q, eh1274⟩ := hQ1274
  have N1274 := Fr.app N1270 N1274q
  refine own_pre (fun _ k => st1274.trans k) ?_
  have hd327_22 : (f11 w0_5 (own_v1252 w0_5 w0_9 w0_2)) = w0_14 := (by subst hw0_1 hw0_3 hw0_4 hw0_6 hw0_7 hw0_8 hw0_10 hw0_11 hw0_12 hw0_13 hw0_14; exact own_fin1277 w0_2 hm1 w0_5 hmb.1 w0_9 hm2.1 hmb.2 hm2.2)
  refine own_pre (A := T1274.setTop (mkF m 339 #[iv p0, iv p1, rv b935, iv w0_2, iv (own_v1129 w0_2), iv w0_3, iv (f7 w0_2), iv w0_4, iv w0_5, iv w0_6, iv w0_7, iv w0_8, iv w0_9, iv (own_v1254 w0_5 w0_9 w0_2), iv w0_10, iv (f7 w0_9), iv w0_11, iv w0_12, iv w0_13, iv (1:Int32), iv w0_14, .unset] [(.int w0_10)])) (fun t k => ?_) ?_
  · show Steps p.tables e below (T1274.setTop (mkF m 325 #[iv p0, iv p1, rv b935, iv w0_2, iv (own_v1129 w0_2), iv w0_3, iv (f7 w0_2), iv w0_4, iv w0_5, iv w0_6, iv w0_7, iv w0_8, iv w0_9, iv (own_v1254 w0_5 w0_9 w0_2), iv w0_10, iv (f7 w0_9), iv w0_11, iv w0_12, iv w0_13, iv (1:Int32), iv w0_14, .unset] [(.int (f11 w0_5 (own_v1252 w0_5 w0_9 w0_2)))])) _
    refine XS.iload X1274.here hx rfl (hb hby at_325) rfl ?_
    show Steps p.tables e below (T1274.setTop (mkF m 327 #[iv p0, iv p1, rv b935, iv w0_2, iv (own_v1129 w0_2), iv w0_3, iv (f7 w0_2), iv w0_4, iv w0_5, iv w0_6, iv w0_7, iv w0_8, iv w0_9, iv (own_v1254 w0_5 w0_9 w0_2), iv w0_10, iv (f7 w0_9), iv w0_11, iv w0_12, iv w0_13, iv (1:Int32), iv w0_14, .unset] [(.int w0_14), (.int (f11 w0_5 (own_v1252 w0_5 w0_9 w0_2)))])) _
    refine XS.icmpNo X1274.here hx rfl (hb hby at_327) rfl (XT.ii_ne_f hd327_22) ?_
    show Steps p.tables e below (T1274.setTop (mkF m 330 #[iv p0, iv p1, rv b935, iv w0_2, iv (own_v1129 w0_2), iv w0_3, iv (f7 w0_2), iv w0_4, iv w0_5, iv w0_6, iv w0_7, iv w0_8, iv w0_9, iv (own_v1254 w0_5 w0_9 w0_2), iv w0_10, iv (f7 w0_9), iv w0_11, iv w0_12, iv w0_13, iv (1:Int32), iv w0_14, .unset] [])) _
    refine XS.iconst X1274.here hx rfl (hb hby at_330) ?_
    show Steps p.tables e below (T1274.setTop (mkF m 331 #[iv p0, iv p1, rv b935, iv w0_2, iv (own_v1129 w0_2), iv w0_3, iv (f7 w0_2), iv w0_4, iv w0_5, iv w0_6, iv w0_7, iv w0_8, iv w0_9, iv (own_v1254 w0_5 w0_9 w0_2), iv w0_10, iv (f7 w0_9), iv w0_11, iv w0_12, iv w0_13, iv (1:Int32), iv w0_14, .unset] [(.int (1:Int32))])) _
    refine XS.goto X1274.here hx rfl (pc0 := 331) (pc' := 335) rfl (hb hby at_331) (by decide) (by decide) ?_
    show Steps p.tables e below (T1274.setTop (mkF m 335 #[iv p0, iv p1, rv b935, iv w0_2, iv (own_v1129 w0_2), iv w0_3, iv (f7 w0_2), iv w0_4, iv w0_5, iv w0_6, iv w0_7, iv w0_8, iv w0_9, iv (own_v1254 w0_5 w0_9 w0_2), iv w0_10, iv (f7 w0_9), iv w0_11, iv w0_12, iv w0_13, iv (1:Int32), iv w0_14, .unset] [(.int (1:Int32))])) _
    refine XS.istore X1274.here hx rfl (hb hby at_335) rfl (l' := #[iv p0, iv p1, rv b935, iv w0_2, iv (own_v1129 w0_2), iv w0_3, iv (f7 w0_2), iv w0_4, iv w0_5, iv w0_6, iv w0_7, iv w0_8, iv w0_9, iv (own_v1254 w0_5 w0_9 w0_2), iv w0_10, iv (f7 w0_9), iv w0_11, iv w0_12, iv w0_13, iv (1:Int32), iv w0_14, .unset]) rfl ?_
    show Steps p.tables e below (T1274.setTop (mkF m 337 #[iv p0, iv p1, rv b935, iv w0_2, iv (own_v1129 w0_2), iv w0_3, iv (f7 w0_2), iv w0_4, iv w0_5, iv w0_6, iv w0_7, iv w0_8, iv w0_9, iv (own_v1254 w0_5 w0_9 w0_2), iv w0_10, iv (f7 w0_9), iv w0_11, iv w0_12, iv w0_13, iv (1:Int32), iv w0_14, .unset] [])) _
    refine XS.iload X1274.here hx rfl (hb hby at_337) rfl ?_
    exact k
  by_cases hs339_24 : w0_10 = (0:Int32)
  · refine own_pre (A := T1274.setTop (mkF m 354 #[iv p0, iv p1, rv b935, iv w0_2, iv (own_v1129 w0_2), iv w0_3, iv (f7 w0_2), iv w0_4, iv w0_5, iv w0_6, iv w0_7, iv w0_8, iv w0_9, iv (own_v1254 w0_5 w0_9 w0_2), iv w0_10, iv (f7 w0_9), iv w0_11, iv w0_12, iv w0_13, iv (1:Int32), iv w0_14, iv w0_4] [(.int w0_4), (.ref b935)])) (fun t k => ?_) ?_
    · show Steps p.tables e below (T1274.setTop (mkF m 339 #[iv p0, iv p1, rv b935, iv w0_2, iv (own_v1129 w0_2), iv w0_3, iv (f7 w0_2), iv w0_4, iv w0_5, iv w0_6, iv w0_7, iv w0_8, iv w0_9, iv (own_v1254 w0_5 w0_9 w0_2), iv w0_10, iv (f7 w0_9), iv w0_11, iv w0_12, iv w0_13, iv (1:Int32), iv w0_14, .unset] [(.int w0_10)])) _
      refine XS.ifNo X1274.here hx rfl (hb hby at_339) rfl (XT.i0_ne_f hs339_24) ?_
      show Steps p.tables e below (T1274.setTop (mkF m 342 #[iv p0, iv p1, rv b935, iv w0_2, iv (own_v1129 w0_2), iv w0_3, iv (f7 w0_2), iv w0_4, iv w0_5, iv w0_6, iv w0_7, iv w0_8, iv w0_9, iv (own_v1254 w0_5 w0_9 w0_2), iv w0_10, iv (f7 w0_9), iv w0_11, iv w0_12, iv w0_13, iv (1:Int32), iv w0_14, .unset] [])) _
      refine XS.iload X1274.here hx rfl (hb hby at_342) rfl ?_
      show Steps p.tables e below (T1274.setTop (mkF m 344 #[iv p0, iv p1, rv b935, iv w0_2, iv (own_v1129 w0_2), iv w0_3, iv (f7 w0_2), iv w0_4, iv w0_5, iv w0_6, iv w0_7, iv w0_8, iv w0_9, iv (own_v1254 w0_5 w0_9 w0_2), iv w0_10, iv (f7 w0_9), iv w0_11, iv w0_12, iv w0_13, iv (1:Int32), iv w0_14, .unset] [(.int w0_4)])) _
      refine XS.istore X1274.here hx rfl (hb hby at_344) rfl (l' := #[iv p0, iv p1, rv b935, iv w0_2, iv (own_v1129 w0_2), iv w0_3, iv (f7 w0_2), iv w0_4, iv w0_5, iv w0_6, iv w0_7, iv w0_8, iv w0_9, iv (own_v1254 w0_5 w0_9 w0_2), iv w0_10, iv (f7 w0_9), iv w0_11, iv w0_12, iv w0_13, iv (1:Int32), iv w0_14, iv w0_4]) rfl ?_
      show Steps p.tables e below (T1274.setTop (mkF m 346 #[iv p0, iv p1, rv b935, iv w0_2, iv (own_v1129 w0_2), iv w0_3, iv (f7 w0_2), iv w0_4, iv w0_5, iv w0_6, iv w0_7, iv w0_8, iv w0_9, iv (own_v1254 w0_5 w0_9 w0_2), iv w0_10, iv (f7 w0_9), iv w0_11, iv w0_12, iv w0_13, iv (1:Int32), iv w0_14, iv w0_4] [])) _
      refine XS.iload X1274.here hx rfl (hb hby at_346) rfl ?_
      show Steps p.tables e below (T1274.setTop (mkF m 348 #[iv p0, iv p1, rv b935, iv w0_2, iv (own_v1129 w0_2), iv w0_3, iv (f7 w0_2), iv w0_4, iv w0_5, iv w0_6, iv w0_7, iv w0_8, iv w0_9, iv (own_v1254 w0_5 w0_9 w0_2), iv w0_10, iv (f7 w0_9), iv w0_11, iv w0_12, iv w0_13, iv (1:Int32), iv w0_14, iv w0_4] [(.int (1:Int32))])) _
      refine XS.ifNo X1274.here hx rfl (hb hby at_348) rfl (XT.i0_eq_f (by decide)) ?_
      show Steps p.tables e below (T1274.setTop (mkF m 351 #[iv p0, iv p1, rv b935, iv w0_2, iv (own_v1129 w0_2), iv w0_3, iv (f7 w0_2), iv w0_4, iv w0_5, iv w0_6, iv w0_7, iv w0_8, iv w0_9, iv (own_v1254 w0_5 w0_9 w0_2), iv w0_10, iv (f7 w0_9), iv w0_11, iv w0_12, iv w0_13, iv (1:Int32), iv w0_14, iv w0_4] [])) _
      refine XS.aloadN X1274.here hx rfl (hb hby at_351) rfl rfl ?_
      show Steps p.tables e below (T1274.setTop (mkF m 352 #[iv p0, iv p1, rv b935, iv w0_2, iv (own_v1129 w0_2), iv w0_3, iv (f7 w0_2), iv w0_4, iv w0_5, iv w0_6, iv w0_7, iv w0_8, iv w0_9, iv (own_v1254 w0_5 w0_9 w0_2), iv w0_10, iv (f7 w0_9), iv w0_11, iv w0_12, iv w0_13, iv (1:Int32), iv w0_14, iv w0_4] [(.ref b935)])) _
      refine XS.iload X1274.here hx rfl (hb hby at_352) rfl ?_
      exact k
    have hf1280 : own_In w0_4 (own_v1248 w0_5 w0_9 w0_2).length := by subst hw0_1 hw0_3 hw0_4 hw0_6 hw0_7 hw0_8 hw0_10 hw0_11 hw0_12 hw0_13 hw0_14; exact own_fin1279 w0_2 hm1 w0_5 hmb.1 w0_9 hm2.1 hmb.2 hm2.2 hs339_24
    obtain ⟨cq1278, kq1278, q1278a, q1278b, q1278c⟩ := isOf hZ eh1274 F1263
    obtain ⟨_, _, ⟨T1278, L1278, k1278, n1278⟩, -, X1278, ⟨Lc1278, hQ1278, l1278, y1278, z1278⟩, st1278⟩ := X1274.virtualBack hx (y := (⟨"com/example/spare_calculus/sparecalculus/bisim/Partition", "start", "(I)I"⟩ : MethodName)) (z := (⟨"com/example/spare_calculus/sparecalculus/bisim/Partition", "start", "(I)I"⟩ : MethodName)) hown (mvT hZ (own_h hw 53 rfl)) (mvT hZ (own_h hw 54 rfl)) (notFace_of_selects (args := #[]) (mvT hZ (own_h hw 56 rfl))) (mvT hZ (own_h hw 56 rfl)) (mvT hZ (own_h hw 55 rfl)) (by decide) (backOf (W := 0) (rm9 l Z aZ hw [] b935 w0_4 e4_941 (own_v1248 w0_5 w0_9 w0_2) T1195.heap n0 Z1243 G1233 G1249 hf1280) hZ (own_h hw 57 rfl) (own_h hw 2 rfl) (by decide) (by decide)) q1278a q1278c (g := (mkF m 354 #[iv p0, iv p1, rv b935, iv w0_2, iv (own_v1129 w0_2), iv w0_3, iv (f7 w0_2), iv w0_4, iv w0_5, iv w0_6, iv w0_7, iv w0_8, iv w0_9, iv (own_v1254 w0_5 w0_9 w0_2), iv w0_10, iv (f7 w0_9), iv w0_11, iv w0_12, iv w0_13, iv (1:Int32), iv w0_14, iv w0_4] [(.int w0_4), (.ref b935)])) rfl (by rw [hml]; rfl) (Steps.refl _) (argsL := [(.int w0_4)]) (rest := []) (lenOf own_pd3 rfl) rfl (by show 2 * 0 + _ ≤ _; exact Nat.le_of_eq rfl) (hb hby at_354) (fun _ _ => ⟨rfl, eh1274, (by decide : 8 + 0 ≤ _), (by decide : 37 + 0 ≤ _)⟩)
    dsimp only [Pt.U, Pt.locs, Pt.cells, Pt.slots] at X1278 l1278 y1278 z1278 st1278 hQ1278
    subst l1278 y1278 z1278
    obtain ⟨rfl, N1278q, eh1278⟩ := hQ1278
    have N1278 := Fr.app N1274 N1278q
    refine own_pre (fun _ k => st1278.trans k) ?_
    have hd359_25 : (f9 w0_4 (own_v1248 w0_5 w0_9 w0_2)) = w0_7 := (by subst hw0_1 hw0_3 hw0_4 hw0_6 hw0_7 hw0_8 hw0_10 hw0_11 hw0_12 hw0_13 hw0_14; exact own_fin1281 w0_2 hm1 w0_5 hmb.1 w0_9 hm2.1 hmb.2 hm2.2 hs339_24)
    refine own_pre (A := T1278.setTop (mkF m 365 #[iv p0, iv p1, rv b935, iv w0_2, iv (own_v1129 w0_2), iv w0_3, iv (f7 w0_2), iv w0_4, iv w0_5, iv w0_6, iv w0_7, iv w0_8, iv w0_9, iv (own_v1254 w0_5 w0_9 w0_2), iv w0_10, iv (f7 w0_9), iv w0_11, iv w0_12, iv w0_13, iv (1:Int32), iv w0_14, iv w0_4] [(.int w0_4), (.ref b935)])) (fun t k => ?_) ?_
    · show Steps p.tables e below (T1278.setTop (mkF m 357 #[iv p0, iv p1, rv b935, iv w0_2, iv (own_v1129 w0_2), iv w0_3, iv (f7 w0_2), iv w0_4, iv w0_5, iv w0_6, iv w0_7, iv w0_8, iv w0_9, iv (own_v1254 w0_5 w0_9 w0_2), iv w0_10, iv (f7 w0_9), iv w0_11, iv w0_12, iv w0_13, iv (1:Int32), iv w0_14, iv w0_4] [(.int (f9 w0_4 (own_v1248 w0_5 w0_9 w0_2)))])) _
      refine XS.iload X1278.here hx rfl (hb hby at_357) rfl ?_
      show Steps p.tables e below (T1278.setTop (mkF m 359 #[iv p0, iv p1, rv b935, iv w0_2, iv (own_v1129 w0_2), iv w0_3, iv (f7 w0_2), iv w0_4, iv w0_5, iv w0_6, iv w0_7, iv w0_8, iv w0_9, iv (own_v1254 w0_5 w0_9 w0_2), iv w0_10, iv (f7 w0_9), iv w0_11, iv w0_12, iv w0_13, iv (1:Int32), iv w0_14, iv w0_4] [(.int w0_7), (.int (f9 w0_4 (own_v1248 w0_5 w0_9 w0_2)))])) _
      refine XS.icmpNo X1278.here hx rfl (hb hby at_359) rfl (XT.ii_ne_f hd359_25) ?_
      show Steps p.tables e below (T1278.setTop (mkF m 362 #[iv p0, iv p1, rv b935, iv w0_2, iv (own_v1129 w0_2), iv w0_3, iv (f7 w0_2), iv w0_4, iv w0_5, iv w0_6, iv w0_7, iv w0_8, iv w0_9, iv (own_v1254 w0_5 w0_9 w0_2), iv w0_10, iv (f7 w0_9), iv w0_11, iv w0_12, iv w0_13, iv (1:Int32), iv w0_14, iv w0_4] [])) _
      refine XS.aloadN X1278.here hx rfl (hb hby at_362) rfl rfl ?_
      show Steps p.tables e below (T1278.setTop (mkF m 363 #[iv p0, iv p1, rv b935, iv w0_2, iv (own_v1129 w0_2), iv w0_3, iv (f7 w0_2), iv w0_4, iv w0_5, iv w0_6, iv w0_7, iv w0_8, iv w0_9, iv (own_v1254 w0_5 w0_9 w0_2), iv w0_10, iv (f7 w0_9), iv w0_11, iv w0_12, iv w0_13, iv (1:Int32), iv w0_14, iv w0_4] [(.ref b935)])) _
      refine XS.iload X1278.here hx rfl (hb hby at_363) rfl ?_
      exact k
    have hf1284 : own_In w0_4 (own_v1250 w0_5 w0_9 w0_2).length := by subst hw0_1 hw0_3 hw0_4 hw0_6 hw0_7 hw0_8 hw0_10 hw0_11 hw0_12 hw0_13 hw0_14; exact own_fin1283 w0_2 hm1 w0_5 hmb.1 w0_9 hm2.1 hmb.2 hm2.2 hs339_24
    obtain ⟨cq1282, kq1282, q1282a, q1282b, q1282c⟩ := isOf hZ eh1278 F1263
    obtain ⟨_, _, ⟨T1282, L1282, k1282, n1282⟩, -, X1282, ⟨Lc1282, hQ1282, l1282, y1282, z1282⟩, st1282⟩ := X1278.virtualBack hx (y := (⟨"com/example/spare_calculus/sparecalculus/bisim/Partition", "end", "(I)I"⟩ : MethodName)) (z := (⟨"com/example/spare_calculus/sparecalculus/bisim/Partition", "end", "(I)I"⟩ : MethodName)) hown (mvT hZ (own_h hw 58 rfl)) (mvT hZ (own_h hw 59 rfl)) (notFace_of_selects (args := #[]) (mvT hZ (own_h hw 61 rfl))) (mvT hZ (own_h hw 61 rfl)) (mvT hZ (own_h hw 60 rfl)) (by decide) (backOf (W := 0) (rm10 l Z aZ hw [] b935 w0_4 e5_942 (own_v1250 w0_5 w0_9 w0_2) T1195.heap n0 Z1243 G1234 G1251 hf1284) hZ (own_h hw 62 rfl) (own_h hw 2 rfl) (by decide) (by decide)) q1282a q1282c (g := (mkF m 365 #[iv p0, iv p1, rv b935, iv w0_2, iv (own_v1129 w0_2), iv w0_3, iv (f7 w0_2), iv w0_4, iv w0_5, iv w0_6, iv w0_7, iv w0_8, iv w0_9, iv (own_v1254 w0_5 w0_9 w0_2), iv w0_10, iv (f7 w0_9), iv w0_11, iv w0_12, iv w0_13, iv (1:Int32), iv w0_14, iv w0_4] [(.int w0_4), (.ref b935)])) rfl (by rw [hml]; rfl) (Steps.refl _) (argsL := [(.int w0_4)]) (rest := []) (lenOf own_pd3 rfl) rfl (by show 2 * 0 + _ ≤ _; exact Nat.le_of_eq rfl) (hb hby at_365) (fun _ _ => ⟨rfl, eh1278, (by decide : 8 + 0 ≤ _), (by decide : 37 + 0 ≤ _)⟩)
    dsimp only [Pt.U, Pt.locs, Pt.cells, Pt.slots] at X1282 l1282 y1282 z1282 st1282 hQ1282
    subst l1282 y1282 z1282
    obtain ⟨rfl, N1282q, eh1282⟩ := hQ1282
    have N1282 := Fr.app N1278 N1282q
    refine own_pre (fun _ k => st1282.trans k) ?_
    have hd373_26 : (f10 w0_4 (own_v1250 w0_5 w0_9 w0_2)) = (w0_7 + (f7 w0_9)) := (by subst hw0_1 hw0_3 hw0_4 hw0_6 hw0_7 hw0_8 hw0_10 hw0_11 hw0_12 hw0_13 hw0_14; exact own_fin1285 w0_2 hm1 w0_5 hmb.1 w0_9 hm2.1 hmb.2 hm2.2 hs339_24)
    refine own_pre (A := T1282.setTop (mkF m 379 #[iv p0, iv p1, rv b935, iv w0_2, iv (own_v1129 w0_2), iv w0_3, iv (f7 w0_2), iv w0_4, iv w0_5, iv w0_6, iv w0_7, iv w0_8, iv w0_9, iv (own_v1254 w0_5 w0_9 w0_2), iv w0_10, iv (f7 w0_9), iv w0_11, iv w0_12, iv w0_13, iv (1:Int32), iv w0_14, iv w0_4] [(.int w0_4), (.ref b935)])) (fun t k => ?_) ?_
    · show Steps p.tables e below (T1282.setTop (mkF m 368 #[iv p0, iv p1, rv b935, iv w0_2, iv (own_v1129 w0_2), iv w0_3, iv (f7 w0_2), iv w0_4, iv w0_5, iv w0_6, iv w0_7, iv w0_8, iv w0_9, iv (own_v1254 w0_5 w0_9 w0_2), iv w0_10, iv (f7 w0_9), iv w0_11, iv w0_12, iv w0_13, iv (1:Int32), iv w0_14, iv w0_4] [(.int (f10 w0_4 (own_v1250 w0_5 w0_9 w0_2)))])) _
      refine XS.iload X1282.here hx rfl (hb hby at_368) rfl ?_
      show Steps p.tables e below (T1282.setTop (mkF m 370 #[iv p0, iv p1, rv b935, iv w0_2, iv (own_v1129 w0_2), iv w0_3, iv (f7 w0_2), iv w0_4, iv w0_5, iv w0_6, iv w0_7, iv w0_8, iv w0_9, iv (own_v1254 w0_5 w0_9 w0_2), iv w0_10, iv (f7 w0_9), iv w0_11, iv w0_12, iv w0_13, iv (1:Int32), iv w0_14, iv w0_4] [(.int w0_7), (.int (f10 w0_4 (own_v1250 w0_5 w0_9 w0_2)))])) _
      refine XS.iload X1282.here hx rfl (hb hby at_370) rfl ?_
      show Steps p.tables e below (T1282.setTop (mkF m 372 #[iv p0, iv p1, rv b935, iv w0_2, iv (own_v1129 w0_2), iv w0_3, iv (f7 w0_2), iv w0_4, iv w0_5, iv w0_6, iv w0_7, iv w0_8, iv w0_9, iv (own_v1254 w0_5 w0_9 w0_2), iv w0_10, iv (f7 w0_9), iv w0_11, iv w0_12, iv w0_13, iv (1:Int32), iv w0_14, iv w0_4] [(.int (f7 w0_9)), (.int w0_7), (.int (f10 w0_4 (own_v1250 w0_5 w0_9 w0_2)))])) _
      refine XS.iadd X1282.here hx rfl (hb hby at_372) rfl ?_
      show Steps p.tables e below (T1282.setTop (mkF m 373 #[iv p0, iv p1, rv b935, iv w0_2, iv (own_v1129 w0_2), iv w0_3, iv (f7 w0_2), iv w0_4, iv w0_5, iv w0_6, iv w0_7, iv w0_8, iv w0_9, iv (own_v1254 w0_5 w0_9 w0_2), iv w0_10, iv (f7 w0_9), iv w0_11, iv w0_12, iv w0_13, iv (1:Int32), iv w0_14, iv w0_4] [(.int (w0_7 + (f7 w0_9))), (.int (f10 w0_4 (own_v1250 w0_5 w0_9 w0_2)))])) _
      refine XS.icmpNo X1282.here hx rfl (hb hby at_373) rfl (XT.ii_ne_f hd373_26) ?_
      show Steps p.tables e below (T1282.setTop (mkF m 376 #[iv p0, iv p1, rv b935, iv w0_2, iv (own_v1129 w0_2), iv w0_3, iv (f7 w0_2), iv w0_4, iv w0_5, iv w0_6, iv w0_7, iv w0_8, iv w0_9, iv (own_v1254 w0_5 w0_9 w0_2), iv w0_10, iv (f7 w0_9), iv w0_11, iv w0_12, iv w0_13, iv (1:Int32), iv w0_14, iv w0_4] [])) _
      refine XS.aloadN X1282.here hx rfl (hb hby at_376) rfl rfl ?_
      show Steps p.tables e below (T1282.setTop (mkF m 377 #[iv p0, iv p1, rv b935, iv w0_2, iv (own_v1129 w0_2), iv w0_3, iv (f7 w0_2), iv w0_4, iv w0_5, iv w0_6, iv w0_7, iv w0_8, iv w0_9, iv (own_v1254 w0_5 w0_9 w0_2), iv w0_10, iv (f7 w0_9), iv w0_11, iv w0_12, iv w0_13, iv (1:Int32), iv w0_14, iv w0_4] [(.ref b935)])) _
      refine XS.iload X1282.here hx rfl (hb hby at_377) rfl ?_
      exact k
    have hf1288 : own_In w0_4 (own_v1252 w0_5 w0_9 w0_2).length := by subst hw0_1 hw0_3 hw0_4 hw0_6 hw0_7 hw0_8 hw0_10 hw0_11 hw0_12 hw0_13 hw0_14; exact own_fin1287 w0_2 hm1 w0_5 hmb.1 w0_9 hm2.1 hmb.2 hm2.2 hs339_24
    obtain ⟨cq1286, kq1286, q1286a, q1286b, q1286c⟩ := isOf hZ eh1282 F1263
    obtain ⟨_, _, ⟨T1286, L1286, k1286, n1286⟩, -, X1286, ⟨Lc1286, hQ1286, l1286, y1286, z1286⟩, st1286⟩ := X1282.virtualBack hx (y := (⟨"com/example/spare_calculus/sparecalculus/bisim/Partition", "markedEnd", "(I)I"⟩ : MethodName)) (z := (⟨"com/example/spare_calculus/sparecalculus/bisim/Partition", "markedEnd", "(I)I"⟩ : MethodName)) hown (mvT hZ (own_h hw 63 rfl)) (mvT hZ (own_h hw 64 rfl)) (notFace_of_selects (args := #[]) (mvT hZ (own_h hw 66 rfl))) (mvT hZ (own_h hw 66 rfl)) (mvT hZ (own_h hw 65 rfl)) (by decide) (backOf (W := 0) (rm11 l Z aZ hw [] b935 w0_4 e6_943 (own_v1252 w0_5 w0_9 w0_2) T1195.heap n0 Z1243 G1235 G1253 hf1288) hZ (own_h hw 67 rfl) (own_h hw 2 rfl) (by decide) (by decide)) q1286a q1286c (g := (mkF m 379 #[iv p0, iv p1, rv b935, iv w0_2, iv (own_v1129 w0_2), iv w0_3, iv (f7 w0_2), iv w0_4, iv w0_5, iv w0_6, iv w0_7, iv w0_8, iv w0_9, iv (own_v1254 w0_5 w0_9 w0_2), iv w0_10, iv (f7 w0_9), iv w0_11, iv w0_12, iv w0_13, iv (1:Int32), iv w0_14, iv w0_4] [(.int w0_4), (.ref b935)])) rfl (by rw [hml]; rfl) (Steps.refl _) (argsL := [(.int w0_4)]) (rest := []) (lenOf own_pd3 rfl) rfl (by show 2 * 0 + _ ≤ _; exact Nat.le_of_eq rfl) (hb hby at_379) (fun _ _ => ⟨rfl, eh1282, (by decide : 8 + 0 ≤ _), (by decide : 37 + 0 ≤ _)⟩)
    dsimp only [Pt.U, Pt.locs, Pt.cells, Pt.slots] at X1286 l1286 y1286 z1286 st1286 hQ1286
    subst l1286 y1286 z1286
    obtain ⟨rfl, N1286q, eh1286⟩ := hQ1286
    have N1286 := Fr.app N1282 N1286q
    refine own_pre (fun _ k => st1286.trans k) ?_
    have hd384_27 : (f11 w0_4 (own_v1252 w0_5 w0_9 w0_2)) = w0_7 := (by subst hw0_1 hw0_3 hw0_4 hw0_6 hw0_7 hw0_8 hw0_10 hw0_11 hw0_12 hw0_13 hw0_14; exact own_fin1289 w0_2 hm1 w0_5 hmb.1 w0_9 hm2.1 hmb.2 hm2.2 hs339_24)
    refine own_pre (A := T1286.setTop (mkF m 401 #[iv p0, iv p1, rv b935, iv w0_2, iv (own_v1129 w0_2), iv w0_3, iv (f7 w0_2), iv w0_4, iv w0_5, iv w0_6, iv w0_7, iv w0_8, iv w0_9, iv (own_v1254 w0_5 w0_9 w0_2), iv w0_10, iv (f7 w0_9), iv w0_11, iv w0_12, iv w0_13, iv (1:Int32), iv w0_14, iv w0_4] [(.int (0:Int32)), (.ref b935)])) (fun t k => ?_) ?_
    · show Steps p.tables e below (T1286.setTop (mkF m 382 #[iv p0, iv p1, rv b935, iv w0_2, iv (own_v1129 w0_2), iv w0_3, iv (f7 w0_2), iv w0_4, iv w0_5, iv w0_6, iv w0_7, iv w0_8, iv w0_9, iv (own_v1254 w0_5 w0_9 w0_2), iv w0_10, iv (f7 w0_9), iv w0_11, iv w0_12, iv w0_13, iv (1:Int32), iv w0_14, iv w0_4] [(.int (f11 w0_4 (own_v1252 w0_5 w0_9 w0_2)))])) _
      refine XS.iload X1286.here hx rfl (hb hby at_382) rfl ?_
      show Steps p.tables e below (T1286.setTop (mkF m 384 #[iv p0, iv p1, rv b935, iv w0_2, iv (own_v1129 w0_2), iv w0_3, iv (f7 w0_2), iv w0_4, iv w0_5, iv w0_6, iv w0_7, iv w0_8, iv w0_9, iv (own_v1254 w0_5 w0_9 w0_2), iv w0_10, iv (f7 w0_9), iv w0_11, iv w0_12, iv w0_13, iv (1:Int32), iv w0_14, iv w0_4] [(.int w0_7), (.int (f11 w0_4 (own_v1252 w0_5 w0_9 w0_2)))])) _
      refine XS.icmpNo X1286.here hx rfl (hb hby at_384) rfl (XT.ii_ne_f hd384_27) ?_
      show Steps p.tables e below (T1286.setTop (mkF m 387 #[iv p0, iv p1, rv b935, iv w0_2, iv (own_v1129 w0_2), iv w0_3, iv (f7 w0_2), iv w0_4, iv w0_5, iv w0_6, iv w0_7, iv w0_8, iv w0_9, iv (own_v1254 w0_5 w0_9 w0_2), iv w0_10, iv (f7 w0_9), iv w0_11, iv w0_12, iv w0_13, iv (1:Int32), iv w0_14, iv w0_4] [])) _
      refine XS.iconst X1286.here hx rfl (hb hby at_387) ?_
      show Steps p.tables e below (T1286.setTop (mkF m 388 #[iv p0, iv p1, rv b935, iv w0_2, iv (own_v1129 w0_2), iv w0_3, iv (f7 w0_2), iv w0_4, iv w0_5, iv w0_6, iv w0_7, iv w0_8, iv w0_9, iv (own_v1254 w0_5 w0_9 w0_2), iv w0_10, iv (f7 w0_9), iv w0_11, iv w0_12, iv w0_13, iv (1:Int32), iv w0_14, iv w0_4] [(.int (1:Int32))])) _
      refine XS.goto X1286.here hx rfl (pc0 := 388) (pc' := 392) rfl (hb hby at_388) (by decide) (by decide) ?_
      show Steps p.tables e below (T1286.setTop (mkF m 392 #[iv p0, iv p1, rv b935, iv w0_2, iv (own_v1129 w0_2), iv w0_3, iv (f7 w0_2), iv w0_4, iv w0_5, iv w0_6, iv w0_7, iv w0_8, iv w0_9, iv (own_v1254 w0_5 w0_9 w0_2), iv w0_10, iv (f7 w0_9), iv w0_11, iv w0_12, iv w0_13, iv (1:Int32), iv w0_14, iv w0_4] [(.int (1:Int32))])) _
      refine XS.istore X1286.here hx rfl (hb hby at_392) rfl (l' := #[iv p0, iv p1, rv b935, iv w0_2, iv (own_v1129 w0_2), iv w0_3, iv (f7 w0_2), iv w0_4, iv w0_5, iv w0_6, iv w0_7, iv w0_8, iv w0_9, iv (own_v1254 w0_5 w0_9 w0_2), iv w0_10, iv (f7 w0_9), iv w0_11, iv w0_12, iv w0_13, iv (1:Int32), iv w0_14, iv w0_4]) rfl ?_
      show Steps p.tables e below (T1286.setTop (mkF m 394 #[iv p0, iv p1, rv b935, iv w0_2, iv (own_v1129 w0_2), iv w0_3, iv (f7 w0_2), iv w0_4, iv w0_5, iv w0_6, iv w0_7, iv w0_8, iv w0_9, iv (own_v1254 w0_5 w0_9 w0_2), iv w0_10, iv (f7 w0_9), iv w0_11, iv w0_12, iv w0_13, iv (1:Int32), iv w0_14, iv w0_4] [])) _
      refine XS.iload X1286.here hx rfl (hb hby at_394) rfl ?_
      show Steps p.tables e below (T1286.setTop (mkF m 396 #[iv p0, iv p1, rv b935, iv w0_2, iv (own_v1129 w0_2), iv w0_3, iv (f7 w0_2), iv w0_4, iv w0_5, iv w0_6, iv w0_7, iv w0_8, iv w0_9, iv (own_v1254 w0_5 w0_9 w0_2), iv w0_10, iv (f7 w0_9), iv w0_11, iv w0_12, iv w0_13, iv (1:Int32), iv w0_14, iv w0_4] [(.int (1:Int32))])) _
      refine XS.ifNo X1286.here hx rfl (hb hby at_396) rfl (XT.i0_eq_f (by decide)) ?_
      show Steps p.tables e below (T1286.setTop (mkF m 399 #[iv p0, iv p1, rv b935, iv w0_2, iv (own_v1129 w0_2), iv w0_3, iv (f7 w0_2), iv w0_4, iv w0_5, iv w0_6, iv w0_7, iv w0_8, iv w0_9, iv (own_v1254 w0_5 w0_9 w0_2), iv w0_10, iv (f7 w0_9), iv w0_11, iv w0_12, iv w0_13, iv (1:Int32), iv w0_14, iv w0_4] [])) _
      refine XS.aloadN X1286.here hx rfl (hb hby at_399) rfl rfl ?_
      show Steps p.tables e below (T1286.setTop (mkF m 400 #[iv p0, iv p1, rv b935, iv w0_2, iv (own_v1129 w0_2), iv w0_3, iv (f7 w0_2), iv w0_4, iv w0_5, iv w0_6, iv w0_7, iv w0_8, iv w0_9, iv (own_v1254 w0_5 w0_9 w0_2), iv w0_10, iv (f7 w0_9), iv w0_11, iv w0_12, iv w0_13, iv (1:Int32), iv w0_14, iv w0_4] [(.ref b935)])) _
      refine XS.iconst X1286.here hx rfl (hb hby at_400) ?_
      exact k
    have hf1292 : own_In (0:Int32) (own_v1246 w0_5 w0_9 w0_2).length := by subst hw0_1 hw0_3 hw0_4 hw0_6 hw0_7 hw0_8 hw0_10 hw0_11 hw0_12 hw0_13 hw0_14; exact own_fin1291 w0_2 hm1 w0_5 hmb.1 w0_9 hm2.1 hmb.2 hm2.2 hs339_24
    obtain ⟨cq1290, kq1290, q1290a, q1290b, q1290c⟩ := isOf hZ eh1286 F1263
    obtain ⟨_, _, ⟨T1290, L1290, k1290, n1290⟩, -, X1290, ⟨Lc1290, hQ1290, l1290, y1290, z1290⟩, st1290⟩ := X1286.virtualBack hx (y := (⟨"com/example/spare_calculus/sparecalculus/bisim/Partition", "blockOf", "(I)I"⟩ : MethodName)) (z := (⟨"com/example/spare_calculus/sparecalculus/bisim/Partition", "blockOf", "(I)I"⟩ : MethodName)) hown (mvT hZ (own_h hw 68 rfl)) (mvT hZ (own_h hw 69 rfl)) (notFace_of_selects (args := #[]) (mvT hZ (own_h hw 71 rfl))) (mvT hZ (own_h hw 71 rfl)) (mvT hZ (own_h hw 70 rfl)) (by decide) (backOf (W := 0) (rm12 l Z aZ hw [] b935 (0:Int32) e3_940 (own_v1246 w0_5 w0_9 w0_2) T1195.heap n0 Z1243 G1232 G1247 hf1292) hZ (own_h hw 72 rfl) (own_h hw 2 rfl) (by decide) (by decide)) q1290a q1290c (g := (mkF m 401 #[iv p0, iv p1, rv b935, iv w0_2, iv (own_v1129 w0_2), iv w0_3, iv (f7 w0_2), iv w0_4, iv w0_5, iv w0_6, iv w0_7, iv w0_8, iv w0_9, iv (own_v1254 w0_5 w0_9 w0_2), iv w0_10, iv (f7 w0_9), iv w0_11, iv w0_12, iv w0_13, iv (1:Int32), iv w0_14, iv w0_4] [(.int (0:Int32)), (.ref b935)])) rfl (by rw [hml]; rfl) (Steps.refl _) (argsL := [(.int (0:Int32))]) (rest := []) (lenOf own_pd3 rfl) rfl (by show 2 * 0 + _ ≤ _; exact Nat.le_of_eq rfl) (hb hby at_401) (fun _ _ => ⟨rfl, eh1286, (by decide : 8 + 0 ≤ _), (by decide : 37 + 0 ≤ _)⟩)
    dsimp only [Pt.U, Pt.locs, Pt.cells, Pt.slots] at X1290 l1290 y1290 z1290 st1290 hQ1290
    subst l1290 y1290 z1290
    obtain ⟨rfl, N1290q, eh1290⟩ := hQ1290
    have N1290 := Fr.app N1286 N1290q
    refine own_pre (fun _ k => st1290.trans k) ?_
    refine own_pre (A := T1290.setTop (mkF m 414 #[iv p0, iv p1, rv b935, iv w0_2, iv (own_v1129 w0_2), iv w0_3, iv (f7 w0_2), iv w0_4, iv w0_5, iv w0_6, iv w0_7, iv w0_8, iv w0_9, iv (own_v1254 w0_5 w0_9 w0_2), iv w0_10, iv (f7 w0_9), iv w0_11, iv w0_12, iv w0_13, iv (1:Int32), iv w0_14, iv w0_4] [(.int w0_4), (.int w0_10), (.int w0_9), (.int w0_3), (.int w0_2), (.int (0:Int32)), (.int (own_v1293 w0_5 w0_9 w0_2))])) (fun t k => ?_) ?_
    · show Steps p.tables e below (T1290.setTop (mkF m 404 #[iv p0, iv p1, rv b935, iv w0_2, iv (own_v1129 w0_2), iv w0_3, iv (f7 w0_2), iv w0_4, iv w0_5, iv w0_6, iv w0_7, iv w0_8, iv w0_9, iv (own_v1254 w0_5 w0_9 w0_2), iv w0_10, iv (f7 w0_9), iv w0_11, iv w0_12, iv w0_13, iv (1:Int32), iv w0_14, iv w0_4] [(.int (own_v1293 w0_5 w0_9 w0_2))])) _
      refine XS.iconst X1290.here hx rfl (hb hby at_404) ?_
      show Steps p.tables e below (T1290.setTop (mkF m 405 #[iv p0, iv p1, rv b935, iv w0_2, iv (own_v1129 w0_2), iv w0_3, iv (f7 w0_2), iv w0_4, iv w0_5, iv w0_6, iv w0_7, iv w0_8, iv w0_9, iv (own_v1254 w0_5 w0_9 w0_2), iv w0_10, iv (f7 w0_9), iv w0_11, iv w0_12, iv w0_13, iv (1:Int32), iv w0_14, iv w0_4] [(.int (0:Int32)), (.int (own_v1293 w0_5 w0_9 w0_2))])) _
      refine XS.iloadN X1290.here hx rfl (hb hby at_405) rfl ?_
      show Steps p.tables e below (T1290.setTop (mkF m 406 #[iv p0, iv p1, rv b935, iv w0_2, iv (own_v1129 w0_2), iv w0_3, iv (f7 w0_2), iv w0_4, iv w0_5, iv w0_6, iv w0_7, iv w0_8, iv w0_9, iv (own_v1254 w0_5 w0_9 w0_2), iv w0_10, iv (f7 w0_9), iv w0_11, iv w0_12, iv w0_13, iv (1:Int32), iv w0_14, iv w0_4] [(.int w0_2), (.int (0:Int32)), (.int (own_v1293 w0_5 w0_9 w0_2))])) _
      refine XS.iload X1290.here hx rfl (hb hby at_406) rfl ?_
      show Steps p.tables e below (T1290.setTop (mkF m 408 #[iv p0, iv p1, rv b935, iv w0_2, iv (own_v1129 w0_2), iv w0_3, iv (f7 w0_2), iv w0_4, iv w0_5, iv w0_6, iv w0_7, iv w0_8, iv w0_9, iv (own_v1254 w0_5 w0_9 w0_2), iv w0_10, iv (f7 w0_9), iv w0_11, iv w0_12, iv w0_13, iv (1:Int32), iv w0_14, iv w0_4] [(.int w0_3), (.int w0_2), (.int (0:Int32)), (.int (own_v1293 w0_5 w0_9 w0_2))])) _
      refine XS.iload X1290.here hx rfl (hb hby at_408) rfl ?_
      show Steps p.tables e below (T1290.setTop (mkF m 410 #[iv p0, iv p1, rv b935, iv w0_2, iv (own_v1129 w0_2), iv w0_3, iv (f7 w0_2), iv w0_4, iv w0_5, iv w0_6, iv w0_7, iv w0_8, iv w0_9, iv (own_v1254 w0_5 w0_9 w0_2), iv w0_10, iv (f7 w0_9), iv w0_11, iv w0_12, iv w0_13, iv (1:Int32), iv w0_14, iv w0_4] [(.int w0_9), (.int w0_3), (.int w0_2), (.int (0:Int32)), (.int (own_v1293 w0_5 w0_9 w0_2))])) _
      refine XS.iload X1290.here hx rfl (hb hby at_410) rfl ?_
      show Steps p.tables e below (T1290.setTop (mkF m 412 #[iv p0, iv p1, rv b935, iv w0_2, iv (own_v1129 w0_2), iv w0_3, iv (f7 w0_2), iv w0_4, iv w0_5, iv w0_6, iv w0_7, iv w0_8, iv w0_9, iv (own_v1254 w0_5 w0_9 w0_2), iv w0_10, iv (f7 w0_9), iv w0_11, iv w0_12, iv w0_13, iv (1:Int32), iv w0_14, iv w0_4] [(.int w0_10), (.int w0_9), (.int w0_3), (.int w0_2), (.int (0:Int32)), (.int (own_v1293 w0_5 w0_9 w0_2))])) _
      refine XS.iload X1290.here hx rfl (hb hby at_412) rfl ?_
      exact k
    obtain ⟨_, _, ⟨T1294, L1294, k1294, n1294⟩, -, X1294, ⟨Lc1294, hQ1294, l1294, y1294, z1294⟩, st1294⟩ := Jvm.LawKit.callS X1290 hx (y := (⟨"com/example/spare_calculus/sparecalculus/bisim/PartitionSplitOffMarkedPinLaw", "expBlock", "(IIZIZI)I"⟩ : MethodName)) hown (mvT hZ (own_h hw 73 rfl)) (mvT hZ (own_h hw 74 rfl)) (mvT hZ (own_h hw 28 rfl)) (mvT hZ (own_h hw 75 rfl)) (by decide) (backOf (W := 1) (rm13 l Z aZ hw [] (0:Int32) w0_2 w0_3 w0_9 w0_10 w0_4 T1195.heap n0 Z1243 ) hZ (own_h hw 75 rfl) (own_h hw 28 rfl) (by decide) (by decide)) (g := (mkF m 414 #[iv p0, iv p1, rv b935, iv w0_2, iv (own_v1129 w0_2), iv w0_3, iv (f7 w0_2), iv w0_4, iv w0_5, iv w0_6, iv w0_7, iv w0_8, iv w0_9, iv (own_v1254 w0_5 w0_9 w0_2), iv w0_10, iv (f7 w0_9), iv w0_11, iv w0_12, iv w0_13, iv (1:Int32), iv w0_14, iv w0_4] [(.int w0_4), (.int w0_10), (.int w0_9), (.int w0_3), (.int w0_2), (.int (0:Int32)), (.int (own_v1293 w0_5 w0_9 w0_2))])) rfl (by rw [hml]; rfl) (argsL := [(.int (0:Int32)), (.int w0_2), (.int w0_3), (.int w0_9), (.int w0_10), (.int w0_4)]) (rest := [(.int (own_v1293 w0_5 w0_9 w0_2))]) (lenOf own_pd5 rfl) rfl (by show 2 * 0 + _ ≤ _; exact Nat.le_of_eq rfl) (hb hby at_414) (fun _ _ => ⟨rfl, eh1290, (by decide : 8 + 0 ≤ _), (by decide : 37 + 0 ≤ _)⟩)
    dsimp only [Pt.U, Pt.locs, Pt.cells, Pt.slots] at X1294 l1294 y1294 z1294 st1294 hQ1294
    subst l1294 y1294 z1294
    obtain ⟨rfl, N1294q, eh1294⟩ := hQ1294
    have N1294 := Fr.app N1290 N1294q
    refine own_pre st1294 ?_
    have hd417_28 : (own_v1293 w0_5 w0_9 w0_2) = (own_v1295 w0_2 w0_3 w0_9 w0_10 w0_4) := (by subst hw0_1 hw0_3 hw0_4 hw0_6 hw0_7 hw0_8 hw0_10 hw0_11 hw0_12 hw0_13 hw0_14; exact own_fin1296 w0_2 hm1 w0_5 hmb.1 w0_9 hm2.1 hmb.2 hm2.2 hs339_24)
    refine own_pre (A := T1294.setTop (mkF m 434 #[iv p0, iv p1, rv b935, iv w0_2, iv (own_v1129 w0_2), iv w0_3, iv (f7 w0_2), iv w0_4, iv w0_5, iv w0_6, iv w0_7, iv w0_8, iv w0_9, iv (own_v1254 w0_5 w0_9 w0_2), iv w0_10, iv (f7 w0_9), iv w0_11, iv w0_12, iv w0_13, iv (1:Int32), iv w0_14, iv w0_4] [(.int (1:Int32)), (.ref b935)])) (fun t k => ?_) ?_
    · show Steps p.tables e below (T1294.setTop (mkF m 417 #[iv p0, iv p1, rv b935, iv w0_2, iv (own_v1129 w0_2), iv w0_3, iv (f7 w0_2), iv w0_4, iv w0_5, iv w0_6, iv w0_7, iv w0_8, iv w0_9, iv (own_v1254 w0_5 w0_9 w0_2), iv w0_10, iv (f7 w0_9), iv w0_11, iv w0_12, iv w0_13, iv (1:Int32), iv w0_14, iv w0_4] [(.int (own_v1295 w0_2 w0_3 w0_9 w0_10 w0_4)), (.int (own_v1293 w0_5 w0_9 w0_2))])) _
      refine XS.icmpNo X1294.here hx rfl (hb hby at_417) rfl (XT.ii_ne_f hd417_28) ?_
      show Steps p.tables e below (T1294.setTop (mkF m 420 #[iv p0, iv p1, rv b935, iv w0_2, iv (own_v1129 w0_2), iv w0_3, iv (f7 w0_2), iv w0_4, iv w0_5, iv w0_6, iv w0_7, iv w0_8, iv w0_9, iv (own_v1254 w0_5 w0_9 w0_2), iv w0_10, iv (f7 w0_9), iv w0_11, iv w0_12, iv w0_13, iv (1:Int32), iv w0_14, iv w0_4] [])) _
      refine XS.iconst X1294.here hx rfl (hb hby at_420) ?_
      show Steps p.tables e below (T1294.setTop (mkF m 421 #[iv p0, iv p1, rv b935, iv w0_2, iv (own_v1129 w0_2), iv w0_3, iv (f7 w0_2), iv w0_4, iv w0_5, iv w0_6, iv w0_7, iv w0_8, iv w0_9, iv (own_v1254 w0_5 w0_9 w0_2), iv w0_10, iv (f7 w0_9), iv w0_11, iv w0_12, iv w0_13, iv (1:Int32), iv w0_14, iv w0_4] [(.int (1:Int32))])) _
      refine XS.goto X1294.here hx rfl (pc0 := 421) (pc' := 425) rfl (hb hby at_421) (by decide) (by decide) ?_
      show Steps p.tables e below (T1294.setTop (mkF m 425 #[iv p0, iv p1, rv b935, iv w0_2, iv (own_v1129 w0_2), iv w0_3, iv (f7 w0_2), iv w0_4, iv w0_5, iv w0_6, iv w0_7, iv w0_8, iv w0_9, iv (own_v1254 w0_5 w0_9 w0_2), iv w0_10, iv (f7 w0_9), iv w0_11, iv w0_12, iv w0_13, iv (1:Int32), iv w0_14, iv w0_4] [(.int (1:Int32))])) _
      refine XS.istore X1294.here hx rfl (hb hby at_425) rfl (l' := #[iv p0, iv p1, rv b935, iv w0_2, iv (own_v1129 w0_2), iv w0_3, iv (f7 w0_2), iv w0_4, iv w0_5, iv w0_6, iv w0_7, iv w0_8, iv w0_9, iv (own_v1254 w0_5 w0_9 w0_2), iv w0_10, iv (f7 w0_9), iv w0_11, iv w0_12, iv w0_13, iv (1:Int32), iv w0_14, iv w0_4]) rfl ?_
      show Steps p.tables e below (T1294.setTop (mkF m 427 #[iv p0, iv p1, rv b935, iv w0_2, iv (own_v1129 w0_2), iv w0_3, iv (f7 w0_2), iv w0_4, iv w0_5, iv w0_6, iv w0_7, iv w0_8, iv w0_9, iv (own_v1254 w0_5 w0_9 w0_2), iv w0_10, iv (f7 w0_9), iv w0_11, iv w0_12, iv w0_13, iv (1:Int32), iv w0_14, iv w0_4] [])) _
      refine XS.iload X1294.here hx rfl (hb hby at_427) rfl ?_
      show Steps p.tables e below (T1294.setTop (mkF m 429 #[iv p0, iv p1, rv b935, iv w0_2, iv (own_v1129 w0_2), iv w0_3, iv (f7 w0_2), iv w0_4, iv w0_5, iv w0_6, iv w0_7, iv w0_8, iv w0_9, iv (own_v1254 w0_5 w0_9 w0_2), iv w0_10, iv (f7 w0_9), iv w0_11, iv w0_12, iv w0_13, iv (1:Int32), iv w0_14, iv w0_4] [(.int (1:Int32))])) _
      refine XS.ifNo X1294.here hx rfl (hb hby at_429) rfl (XT.i0_eq_f (by decide)) ?_
      show Steps p.tables e below (T1294.setTop (mkF m 432 #[iv p0, iv p1, rv b935, iv w0_2, iv (own_v1129 w0_2), iv w0_3, iv (f7 w0_2), iv w0_4, iv w0_5, iv w0_6, iv w0_7, iv w0_8, iv w0_9, iv (own_v1254 w0_5 w0_9 w0_2), iv w0_10, iv (f7 w0_9), iv w0_11, iv w0_12, iv w0_13, iv (1:Int32), iv w0_14, iv w0_4] [])) _
      refine XS.aloadN X1294.here hx rfl (hb hby at_432) rfl rfl ?_
      show Steps p.tables e below (T1294.setTop (mkF m 433 #[iv p0, iv p1, rv b935, iv w0_2, iv (own_v1129 w0_2), iv w0_3, iv (f7 w0_2), iv w0_4, iv w0_5, iv w0_6, iv w0_7, iv w0_8, iv w0_9, iv (own_v1254 w0_5 w0_9 w0_2), iv w0_10, iv (f7 w0_9), iv w0_11, iv w0_12, iv w0_13, iv (1:Int32), iv w0_14, iv w0_4] [(.ref b935)])) _
      refine XS.iconst X1294.here hx rfl (hb hby at_433) ?_
      exact k
    have hf1299 : own_In (1:Int32) (own_v1246 w0_5 w0_9 w0_2).length := by subst hw0_1 hw0_3 hw0_4 hw0_6 hw0_7 hw0_8 hw0_10 hw0_11 hw0_12 hw0_13 hw0_14; exact own_fin1298 w0_2 hm1 w0_5 hmb.1 w0_9 hm2.1 hmb.2 hm2.2 hs339_24
    obtain ⟨cq1297, kq1297, q1297a, q1297b, q1297c⟩ := isOf hZ eh1294 F1263
    obtain ⟨_, _, ⟨T1297, L1297, k1297, n1297⟩, -, X1297, ⟨Lc1297, hQ1297, l1297, y1297, z1297⟩, st1297⟩ := X1294.virtualBack hx (y := (⟨"com/example/spare_calculus/sparecalculus/bisim/Partition", "blockOf", "(I)I"⟩ : MethodName)) (z := (⟨"com/example/spare_calculus/sparecalculus/bisim/Partition", "blockOf", "(I)I"⟩ : MethodName)) hown (mvT hZ (own_h hw 68 rfl)) (mvT hZ (own_h hw 69 rfl)) (notFace_of_selects (args := #[]) (mvT hZ (own_h hw 71 rfl))) (mvT hZ (own_h hw 71 rfl)) (mvT hZ (own_h hw 70 rfl)) (by decide) (backOf (W := 0) (rm12 l Z aZ hw [] b935 (1:Int32) e3_940 (own_v1246 w0_5 w0_9 w0_2) T1195.heap n0 Z1243 G1232 G1247 hf1299) hZ (own_h hw 72 rfl) (own_h hw 2 rfl) (by decide) (by decide)) q1297a q1297c (g := (mkF m 434 #[iv p0, iv p1, rv b935, iv w0_2, iv (own_v1129 w0_2), iv w0_3, iv (f7 w0_2), iv w0_4, iv w0_5, iv w0_6, iv w0_7, iv w0_8, iv w0_9, iv (own_v1254 w0_5 w0_9 w0_2), iv w0_10, iv (f7 w0_9), iv w0_11, iv w0_12, iv w0_13, iv (1:Int32), iv w0_14, iv w0_4] [(.int (1:Int32)), (.ref b935)])) rfl (by rw [hml]; rfl) (Steps.refl _) (argsL := [(.int (1:Int32))]) (rest := []) (lenOf own_pd3 rfl) rfl (by show 2 * 0 + _ ≤ _; exact Nat.le_of_eq rfl) (hb hby at_434) (fun _ _ => ⟨rfl, eh1294, (by decide : 8 + 0 ≤ _), (by decide : 37 + 0 ≤ _)⟩)
    dsimp only [Pt.U, Pt.locs, Pt.cells, Pt.slots] at X1297 l1297 y1297 z1297 st1297 hQ1297
    subst l1297 y1297 z1297
    obtain ⟨rfl, N1297q, eh1297⟩ := hQ1297
    have N1297 := Fr.app N1294 N1297q
    refine own_pre (fun _ k => st1297.trans k) ?_
    refine own_pre (A := T1297.setTop (mkF m 447 #[iv p0, iv p1, rv b935, iv w0_2, iv (own_v1129 w0_2), iv w0_3, iv (f7 w0_2), iv w0_4, iv w0_5, iv w0_6, iv w0_7, iv w0_8, iv w0_9, iv (own_v1254 w0_5 w0_9 w0_2), iv w0_10, iv (f7 w0_9), iv w0_11, iv w0_12, iv w0_13, iv (1:Int32), iv w0_14, iv w0_4] [(.int w0_4), (.int w0_10), (.int w0_9), (.int w0_3), (.int w0_2), (.int (1:Int32)), (.int (own_v1300 w0_5 w0_9 w0_2))])) (fun t k => ?_) ?_
    · show Steps p.tables e below (T1297.setTop (mkF m 437 #[iv p0, iv p1, rv b935, iv w0_2, iv (own_v1129 w0_2), iv w0_3, iv (f7 w0_2), iv w0_4, iv w0_5, iv w0_6, iv w0_7, iv w0_8, iv w0_9, iv (own_v1254 w0_5 w0_9 w0_2), iv w0_10, iv (f7 w0_9), iv w0_11, iv w0_12, iv w0_13, iv (1:Int32), iv w0_14, iv w0_4] [(.int (own_v1300 w0_5 w0_9 w0_2))])) _
      refine XS.iconst X1297.here hx rfl (hb hby at_437) ?_
      show Steps p.tables e below (T1297.setTop (mkF m 438 #[iv p0, iv p1, rv b935, iv w0_2, iv (own_v1129 w0_2), iv w0_3, iv (f7 w0_2), iv w0_4, iv w0_5, iv w0_6, iv w0_7, iv w0_8, iv w0_9, iv (own_v1254 w0_5 w0_9 w0_2), iv w0_10, iv (f7 w0_9), iv w0_11, iv w0_12, iv w0_13, iv (1:Int32), iv w0_14, iv w0_4] [(.int (1:Int32)), (.int (own_v1300 w0_5 w0_9 w0_2))])) _
      refine XS.iloadN X1297.here hx rfl (hb hby at_438) rfl ?_
      show Steps p.tables e below (T1297.setTop (mkF m 439 #[iv p0, iv p1, rv b935, iv w0_2, iv (own_v1129 w0_2), iv w0_3, iv (f7 w0_2), iv w0_4, iv w0_5, iv w0_6, iv w0_7, iv w0_8, iv w0_9, iv (own_v1254 w0_5 w0_9 w0_2), iv w0_10, iv (f7 w0_9), iv w0_11, iv w0_12, iv w0_13, iv (1:Int32), iv w0_14, iv w0_4] [(.int w0_2), (.int (1:Int32)), (.int (own_v1300 w0_5 w0_9 w0_2))])) _
      refine XS.iload X1297.here hx rfl (hb hby at_439) rfl ?_
      show Steps p.tables e below (T1297.setTop (mkF m 441 #[iv p0, iv p1, rv b935, iv w0_2, iv (own_v1129 w0_2), iv w0_3, iv (f7 w0_2), iv w0_4, iv w0_5, iv w0_6, iv w0_7, iv w0_8, iv w0_9, iv (own_v1254 w0_5 w0_9 w0_2), iv w0_10, iv (f7 w0_9), iv w0_11, iv w0_12, iv w0_13, iv (1:Int32), iv w0_14, iv w0_4] [(.int w0_3), (.int w0_2), (.int (1:Int32)), (.int (own_v1300 w0_5 w0_9 w0_2))])) _
      refine XS.iload X1297.here hx rfl (hb hby at_441) rfl ?_
      show Steps p.tables e below (T1297.setTop (mkF m 443 #[iv p0, iv p1, rv b935, iv w0_2, iv (own_v1129 w0_2), iv w0_3, iv (f7 w0_2), iv w0_4, iv w0_5, iv w0_6, iv w0_7, iv w0_8, iv w0_9, iv (own_v1254 w0_5 w0_9 w0_2), iv w0_10, iv (f7 w0_9), iv w0_11, iv w0_12, iv w0_13, iv (1:Int32), iv w0_14, iv w0_4] [(.int w0_9), (.int w0_3), (.int w0_2), (.int (1:Int32)), (.int (own_v1300 w0_5 w0_9 w0_2))])) _
      refine XS.iload X1297.here hx rfl (hb hby at_443) rfl ?_
      show Steps p.tables e below (T1297.setTop (mkF m 445 #[iv p0, iv p1, rv b935, iv w0_2, iv (own_v1129 w0_2), iv w0_3, iv (f7 w0_2), iv w0_4, iv w0_5, iv w0_6, iv w0_7, iv w0_8, iv w0_9, iv (own_v1254 w0_5 w0_9 w0_2), iv w0_10, iv (f7 w0_9), iv w0_11, iv w0_12, iv w0_13, iv (1:Int32), iv w0_14, iv w0_4] [(.int w0_10), (.int w0_9), (.int w0_3), (.int w0_2), (.int (1:Int32)), (.int (own_v1300 w0_5 w0_9 w0_2))])) _
      refine XS.iload X1297.here hx rfl (hb hby at_445) rfl ?_
      exact k
    obtain ⟨_, _, ⟨T1301, L1301, k1301, n1301⟩, -, X1301, ⟨Lc1301, hQ1301, l1301, y1301, z1301⟩, st1301⟩ := Jvm.LawKit.callS X1297 hx (y := (⟨"com/example/spare_calculus/sparecalculus/bisim/PartitionSplitOffMarkedPinLaw", "expBlock", "(IIZIZI)I"⟩ : MethodName)) hown (mvT hZ (own_h hw 73 rfl)) (mvT hZ (own_h hw 74 rfl)) (mvT hZ (own_h hw 28 rfl)) (mvT hZ (own_h hw 75 rfl)) (by decide) (backOf (W := 1) (rm13 l Z aZ hw [] (1:Int32) w0_2 w0_3 w0_9 w0_10 w0_4 T1195.heap n0 Z1243 ) hZ (own_h hw 75 rfl) (own_h hw 28 rfl) (by decide) (by decide)) (g := (mkF m 447 #[iv p0, iv p1, rv b935, iv w0_2, iv (own_v1129 w0_2), iv w0_3, iv (f7 w0_2), iv w0_4, iv w0_5, iv w0_6, iv w0_7, iv w0_8, iv w0_9, iv (own_v1254 w0_5 w0_9 w0_2), iv w0_10, iv (f7 w0_9), iv w0_11, iv w0_12, iv w0_13, iv (1:Int32), iv w0_14, iv w0_4] [(.int w0_4), (.int w0_10), (.int w0_9), (.int w0_3), (.int w0_2), (.int (1:Int32)), (.int (own_v1300 w0_5 w0_9 w0_2))])) rfl (by rw [hml]; rfl) (argsL := [(.int (1:Int32)), (.int w0_2), (.int w0_3), (.int w0_9), (.int w0_10), (.int w0_4)]) (rest := [(.int (own_v1300 w0_5 w0_9 w0_2))]) (lenOf own_pd5 rfl) rfl (by show 2 * 0 + _ ≤ _; exact Nat.le_of_eq rfl) (hb hby at_447) (fun _ _ => ⟨rfl, eh1297, (by decide : 8 + 0 ≤ _), (by decide : 37 + 0 ≤ _)⟩)
    dsimp only [Pt.U, Pt.locs, Pt.cells, Pt.slots] at X1301 l1301 y1301 z1301 st1301 hQ1301
    subst l1301 y1301 z1301
    obtain ⟨rfl, N1301q, eh1301⟩ := hQ1301
    have N1301 := Fr.app N1297 N1301q
    refine own_pre st1301 ?_
    have hd450_29 : (own_v1300 w0_5 w0_9 w0_2) = (own_v1302 w0_2 w0_3 w0_9 w0_10 w0_4) := (by subst hw0_1 hw0_3 hw0_4 hw0_6 hw0_7 hw0_8 hw0_10 hw0_11 hw0_12 hw0_13 hw0_14; exact own_fin1303 w0_2 hm1 w0_5 hmb.1 w0_9 hm2.1 hmb.2 hm2.2 hs339_24)
    refine own_pre (A := T1301.setTop (mkF m 467 #[iv p0, iv p1, rv b935, iv w0_2, iv (own_v1129 w0_2), iv w0_3, iv (f7 w0_2), iv w0_4, iv w0_5, iv w0_6, iv w0_7, iv w0_8, iv w0_9, iv (own_v1254 w0_5 w0_9 w0_2), iv w0_10, iv (f7 w0_9), iv w0_11, iv w0_12, iv w0_13, iv (1:Int32), iv w0_14, iv w0_4] [(.int (2:Int32)), (.ref b935)])) (fun t k => ?_) ?_
    · show Steps p.tables e below (T1301.setTop (mkF m 450 #[iv p0, iv p1, rv b935, iv w0_2, iv (own_v1129 w0_2), iv w0_3, iv (f7 w0_2), iv w0_4, iv w0_5, iv w0_6, iv w0_7, iv w0_8, iv w0_9, iv (own_v1254 w0_5 w0_9 w0_2), iv w0_10, iv (f7 w0_9), iv w0_11, iv w0_12, iv w0_13, iv (1:Int32), iv w0_14, iv w0_4] [(.int (own_v1302 w0_2 w0_3 w0_9 w0_10 w0_4)), (.int (own_v1300 w0_5 w0_9 w0_2))])) _
      refine XS.icmpNo X1301.here hx rfl (hb hby at_450) rfl (XT.ii_ne_f hd450_29) ?_
      show Steps p.tables e below (T1301.setTop (mkF m 453 #[iv p0, iv p1, rv b935, iv w0_2, iv (own_v1129 w0_2), iv w0_3, iv (f7 w0_2), iv w0_4, iv w0_5, iv w0_6, iv w0_7, iv w0_8, iv w0_9, iv (own_v1254 w0_5 w0_9 w0_2), iv w0_10, iv (f7 w0_9), iv w0_11, iv w0_12, iv w0_13, iv (1:Int32), iv w0_14, iv w0_4] [])) _
      refine XS.iconst X1301.here hx rfl (hb hby at_453) ?_
      show Steps p.tables e below (T1301.setTop (mkF m 454 #[iv p0, iv p1, rv b935, iv w0_2, iv (own_v1129 w0_2), iv w0_3, iv (f7 w0_2), iv w0_4, iv w0_5, iv w0_6, iv w0_7, iv w0_8, iv w0_9, iv (own_v1254 w0_5 w0_9 w0_2), iv w0_10, iv (f7 w0_9), iv w0_11, iv w0_12, iv w0_13, iv (1:Int32), iv w0_14, iv w0_4] [(.int (1:Int32))])) _
      refine XS.goto X1301.here hx rfl (pc0 := 454) (pc' := 458) rfl (hb hby at_454) (by decide) (by decide) ?_
      show Steps p.tables e below (T1301.setTop (mkF m 458 #[iv p0, iv p1, rv b935, iv w0_2, iv (own_v1129 w0_2), iv w0_3, iv (f7 w0_2), iv w0_4, iv w0_5, iv w0_6, iv w0_7, iv w0_8, iv w0_9, iv (own_v1254 w0_5 w0_9 w0_2), iv w0_10, iv (f7 w0_9), iv w0_11, iv w0_12, iv w0_13, iv (1:Int32), iv w0_14, iv w0_4] [(.int (1:Int32))])) _
      refine XS.istore X1301.here hx rfl (hb hby at_458) rfl (l' := #[iv p0, iv p1, rv b935, iv w0_2, iv (own_v1129 w0_2), iv w0_3, iv (f7 w0_2), iv w0_4, iv w0_5, iv w0_6, iv w0_7, iv w0_8, iv w0_9, iv (own_v1254 w0_5 w0_9 w0_2), iv w0_10, iv (f7 w0_9), iv w0_11, iv w0_12, iv w0_13, iv (1:Int32), iv w0_14, iv w0_4]) rfl ?_
      show Steps p.tables e below (T1301.setTop (mkF m 460 #[iv p0, iv p1, rv b935, iv w0_2, iv (own_v1129 w0_2), iv w0_3, iv (f7 w0_2), iv w0_4, iv w0_5, iv w0_6, iv w0_7, iv w0_8, iv w0_9, iv (own_v1254 w0_5 w0_9 w0_2), iv w0_10, iv (f7 w0_9), iv w0_11, iv w0_12, iv w0_13, iv (1:Int32), iv w0_14, iv w0_4] [])) _
      refine XS.iload X1301.here hx rfl (hb hby at_460) rfl ?_
      show Steps p.tables e below (T1301.setTop (mkF m 462 #[iv p0, iv p1, rv b935, iv w0_2, iv (own_v1129 w0_2), iv w0_3, iv (f7 w0_2), iv w0_4, iv w0_5, iv w0_6, iv w0_7, iv w0_8, iv w0_9, iv (own_v1254 w0_5 w0_9 w0_2), iv w0_10, iv (f7 w0_9), iv w0_11, iv w0_12, iv w0_13, iv (1:Int32), iv w0_14, iv w0_4] [(.int (1:Int32))])) _
      refine XS.ifNo X1301.here hx rfl (hb hby at_462) rfl (XT.i0_eq_f (by decide)) ?_
      show Steps p.tables e below (T1301.setTop (mkF m 465 #[iv p0, iv p1, rv b935, iv w0_2, iv (own_v1129 w0_2), iv w0_3, iv (f7 w0_2), iv w0_4, iv w0_5, iv w0_6, iv w0_7, iv w0_8, iv w0_9, iv (own_v1254 w0_5 w0_9 w0_2), iv w0_10, iv (f7 w0_9), iv w0_11, iv w0_12, iv w0_13, iv (1:Int32), iv w0_14, iv w0_4] [])) _
      refine XS.aloadN X1301.here hx rfl (hb hby at_465) rfl rfl ?_
      show Steps p.tables e below (T1301.setTop (mkF m 466 #[iv p0, iv p1, rv b935, iv w0_2, iv (own_v1129 w0_2), iv w0_3, iv (f7 w0_2), iv w0_4, iv w0_5, iv w0_6, iv w0_7, iv w0_8, iv w0_9, iv (own_v1254 w0_5 w0_9 w0_2), iv w0_10, iv (f7 w0_9), iv w0_11, iv w0_12, iv w0_13, iv (1:Int32), iv w0_14, iv w0_4] [(.ref b935)])) _
      refine XS.iconst X1301.here hx rfl (hb hby at_466) ?_
      exact k
    have hf1306 : own_In (2:Int32) (own_v1246 w0_5 w0_9 w0_2).length := by subst hw0_1 hw0_3 hw0_4 hw0_6 hw0_7 hw0_8 hw0_10 hw0_11 hw0_12 hw0_13 hw0_14; exact own_fin1305 w0_2 hm1 w0_5 hmb.1 w0_9 hm2.1 hmb.2 hm2.2 hs339_24
    obtain ⟨cq1304, kq1304, q1304a, q1304b, q1304c⟩ := isOf hZ eh1301 F1263
    obtain ⟨_, _, ⟨T1304, L1304, k1304, n1304⟩, -, X1304, ⟨Lc1304, hQ1304, l1304, y1304, z1304⟩, st1304⟩ := X1301.virtualBack hx (y := (⟨"com/example/spare_calculus/sparecalculus/bisim/Partition", "blockOf", "(I)I"⟩ : MethodName)) (z := (⟨"com/example/spare_calculus/sparecalculus/bisim/Partition", "blockOf", "(I)I"⟩ : MethodName)) hown (mvT hZ (own_h hw 68 rfl)) (mvT hZ (own_h hw 69 rfl)) (notFace_of_selects (args := #[]) (mvT hZ (own_h hw 71 rfl))) (mvT hZ (own_h hw 71 rfl)) (mvT hZ (own_h hw 70 rfl)) (by decide) (backOf (W := 0) (rm12 l Z aZ hw [] b935 (2:Int32) e3_940 (own_v1246 w0_5 w0_9 w0_2) T1195.heap n0 Z1243 G1232 G1247 hf1306) hZ (own_h hw 72 rfl) (own_h hw 2 rfl) (by decide) (by decide)) q1304a q1304c (g := (mkF m 467 #[iv p0, iv p1, rv b935, iv w0_2, iv (own_v1129 w0_2), iv w0_3, iv (f7 w0_2), iv w0_4, iv w0_5, iv w0_6, iv w0_7, iv w0_8, iv w0_9, iv (own_v1254 w0_5 w0_9 w0_2), iv w0_10, iv (f7 w0_9), iv w0_11, iv w0_12, iv w0_13, iv (1:Int32), iv w0_14, iv w0_4] [(.int (2:Int32)), (.ref b935)])) rfl (by rw [hml]; rfl) (Steps.refl _) (argsL := [(.int (2:Int32))]) (rest := []) (lenOf own_pd3 rfl) rfl (by show 2 * 0 + _ ≤ _; exact Nat.le_of_eq rfl) (hb hby at_467) (fun _ _ => ⟨rfl, eh1301, (by decide : 8 + 0 ≤ _), (by decide : 37 + 0 ≤ _)⟩)
    dsimp only [Pt.U, Pt.locs, Pt.cells, Pt.slots] at X1304 l1304 y1304 z1304 st1304 hQ1304
    subst l1304 y1304 z1304
    obtain ⟨rfl, N1304q, eh1304⟩ := hQ1304
    have N1304 := Fr.app N1301 N1304q
    refine own_pre (fun _ k => st1304.trans k) ?_
    refine own_pre (A := T1304.setTop (mkF m 480 #[iv p0, iv p1, rv b935, iv w0_2, iv (own_v1129 w0_2), iv w0_3, iv (f7 w0_2), iv w0_4, iv w0_5, iv w0_6, iv w0_7, iv w0_8, iv w0_9, iv (own_v1254 w0_5 w0_9 w0_2), iv w0_10, iv (f7 w0_9), iv w0_11, iv w0_12, iv w0_13, iv (1:Int32), iv w0_14, iv w0_4] [(.int w0_4), (.int w0_10), (.int w0_9), (.int w0_3), (.int w0_2), (.int (2:Int32)), (.int (own_v1307 w0_5 w0_9 w0_2))])) (fun t k => ?_) ?_
    · show Steps p.tables e below (T1304.setTop (mkF m 470 #[iv p0, iv p1, rv b935, iv w0_2, iv (own_v1129 w0_2), iv w0_3, iv (f7 w0_2), iv w0_4, iv w0_5, iv w0_6, iv w0_7, iv w0_8, iv w0_9, iv (own_v1254 w0_5 w0_9 w0_2), iv w0_10, iv (f7 w0_9), iv w0_11, iv w0_12, iv w0_13, iv (1:Int32), iv w0_14, iv w0_4] [(.int (own_v1307 w0_5 w0_9 w0_2))])) _
      refine XS.iconst X1304.here hx rfl (hb hby at_470) ?_
      show Steps p.tables e below (T1304.setTop (mkF m 471 #[iv p0, iv p1, rv b935, iv w0_2, iv (own_v1129 w0_2), iv w0_3, iv (f7 w0_2), iv w0_4, iv w0_5, iv w0_6, iv w0_7, iv w0_8, iv w0_9, iv (own_v1254 w0_5 w0_9 w0_2), iv w0_10, iv (f7 w0_9), iv w0_11, iv w0_12, iv w0_13, iv (1:Int32), iv w0_14, iv w0_4] [(.int (2:Int32)), (.int (own_v1307 w0_5 w0_9 w0_2))])) _
      refine XS.iloadN X1304.here hx rfl (hb hby at_471) rfl ?_
      show Steps p.tables e below (T1304.setTop (mkF m 472 #[iv p0, iv p1, rv b935, iv w0_2, iv (own_v1129 w0_2), iv w0_3, iv (f7 w0_2), iv w0_4, iv w0_5, iv w0_6, iv w0_7, iv w0_8, iv w0_9, iv (own_v1254 w0_5 w0_9 w0_2), iv w0_10, iv (f7 w0_9), iv w0_11, iv w0_12, iv w0_13, iv (1:Int32), iv w0_14, iv w0_4] [(.int w0_2), (.int (2:Int32)), (.int (own_v1307 w0_5 w0_9 w0_2))])) _
      refine XS.iload X1304.here hx rfl (hb hby at_472) rfl ?_
      show Steps p.tables e below (T1304.setTop (mkF m 474 #[iv p0, iv p1, rv b935, iv w0_2, iv (own_v1129 w0_2), iv w0_3, iv (f7 w0_2), iv w0_4, iv w0_5, iv w0_6, iv w0_7, iv w0_8, iv w0_9, iv (own_v1254 w0_5 w0_9 w0_2), iv w0_10, iv (f7 w0_9), iv w0_11, iv w0_12, iv w0_13, iv (1:Int32), iv w0_14, iv w0_4] [(.int w0_3), (.int w0_2), (.int (2:Int32)), (.int (own_v1307 w0_5 w0_9 w0_2))])) _
      refine XS.iload X1304.here hx rfl (hb hby at_474) rfl ?_
      show Steps p.tables e below (T1304.setTop (mkF m 476 #[iv p0, iv p1, rv b935, iv w0_2, iv (own_v1129 w0_2), iv w0_3, iv (f7 w0_2), iv w0_4, iv w0_5, iv w0_6, iv w0_7, iv w0_8, iv w0_9, iv (own_v1254 w0_5 w0_9 w0_2), iv w0_10, iv (f7 w0_9), iv w0_11, iv w0_12, iv w0_13, iv (1:Int32), iv w0_14, iv w0_4] [(.int w0_9), (.int w0_3), (.int w0_2), (.int (2:Int32)), (.int (own_v1307 w0_5 w0_9 w0_2))])) _
      refine XS.iload X1304.here hx rfl (hb hby at_476) rfl ?_
      show Steps p.tables e below (T1304.setTop (mkF m 478 #[iv p0, iv p1, rv b935, iv w0_2, iv (own_v1129 w0_2), iv w0_3, iv (f7 w0_2), iv w0_4, iv w0_5, iv w0_6, iv w0_7, iv w0_8, iv w0_9, iv (own_v1254 w0_5 w0_9 w0_2), iv w0_10, iv (f7 w0_9), iv w0_11, iv w0_12, iv w0_13, iv (1:Int32), iv w0_14, iv w0_4] [(.int w0_10), (.int w0_9), (.int w0_3), (.int w0_2), (.int (2:Int32)), (.int (own_v1307 w0_5 w0_9 w0_2))])) _
      refine XS.iload X1304.here hx rfl (hb hby at_478) rfl ?_
      exact k
    obtain ⟨_, _, ⟨T1308, L1308, k1308, n1308⟩, -, X1308, ⟨Lc1308, hQ1308, l1308, y1308, z1308⟩, st1308⟩ := Jvm.LawKit.callS X1304 hx (y := (⟨"com/example/spare_calculus/sparecalculus/bisim/PartitionSplitOffMarkedPinLaw", "expBlock", "(IIZIZI)I"⟩ : MethodName)) hown (mvT hZ (own_h hw 73 rfl)) (mvT hZ (own_h hw 74 rfl)) (mvT hZ (own_h hw 28 rfl)) (mvT hZ (own_h hw 75 rfl)) (by decide) (backOf (W := 1) (rm13 l Z aZ hw [] (2:Int32) w0_2 w0_3 w0_9 w0_10 w0_4 T1195.heap n0 Z1243 ) hZ (own_h hw 75 rfl) (own_h hw 28 rfl) (by decide) (by decide)) (g := (mkF m 480 #[iv p0, iv p1, rv b935, iv w0_2, iv (own_v1129 w0_2), iv w0_3, iv (f7 w0_2), iv w0_4, iv w0_5, iv w0_6, iv w0_7, iv w0_8, iv w0_9, iv (own_v1254 w0_5 w0_9 w0_2), iv w0_10, iv (f7 w0_9), iv w0_11, iv w0_12, iv w0_13, iv (1:Int32), iv w0_14, iv w0_4] [(.int w0_4), (.int w0_10), (.int w0_9), (.int w0_3), (.int w0_2), (.int (2:Int32)), (.int (own_v1307 w0_5 w0_9 w0_2))])) rfl (by rw [hml]; rfl) (argsL := [(.int (2:Int32)), (.int w0_2), (.int w0_3), (.int w0_9), (.int w0_10), (.int w0_4)]) (rest := [(.int (own_v1307 w0_5 w0_9 w0_2))]) (lenOf own_pd5 rfl) rfl (by show 2 * 0 + _ ≤ _; exact Nat.le_of_eq rfl) (hb hby at_480) (fun _ _ => ⟨rfl, eh1304, (by decide : 8 + 0 ≤ _), (by decide : 37 + 0 ≤ _)⟩)
    dsimp only [Pt.U, Pt.locs, Pt.cells, Pt.slots] at X1308 l1308 y1308 z1308 st1308 hQ1308
    subst l1308 y1308 z1308
    obtain ⟨rfl, N1308q, eh1308⟩ := hQ1308
    have N1308 := Fr.app N1304 N1308q
    refine own_pre st1308 ?_
    have hd483_30 : (own_v1307 w0_5 w0_9 w0_2) = (own_v1309 w0_2 w0_3 w0_9 w0_10 w0_4) := (by subst hw0_1 hw0_3 hw0_4 hw0_6 hw0_7 hw0_8 hw0_10 hw0_11 hw0_12 hw0_13 hw0_14; exact own_fin1310 w0_2 hm1 w0_5 hmb.1 w0_9 hm2.1 hmb.2 hm2.2 hs339_24)
    refine own_pre (A := T1308.setTop (mkF m 500 #[iv p0, iv p1, rv b935, iv w0_2, iv (own_v1129 w0_2), iv w0_3, iv (f7 w0_2), iv w0_4, iv w0_5, iv w0_6, iv w0_7, iv w0_8, iv w0_9, iv (own_v1254 w0_5 w0_9 w0_2), iv w0_10, iv (f7 w0_9), iv w0_11, iv w0_12, iv w0_13, iv (1:Int32), iv w0_14, iv w0_4] [(.int (3:Int32)), (.ref b935)])) (fun t k => ?_) ?_
    · show Steps p.tables e below (T1308.setTop (mkF m 483 #[iv p0, iv p1, rv b935, iv w0_2, iv (own_v1129 w0_2), iv w0_3, iv (f7 w0_2), iv w0_4, iv w0_5, iv w0_6, iv w0_7, iv w0_8, iv w0_9, iv (own_v1254 w0_5 w0_9 w0_2), iv w0_10, iv (f7 w0_9), iv w0_11, iv w0_12, iv w0_13, iv (1:Int32), iv w0_14, iv w0_4] [(.int (own_v1309 w0_2 w0_3 w0_9 w0_10 w0_4)), (.int (own_v1307 w0_5 w0_9 w0_2))])) _
      refine XS.icmpNo X1308.here hx rfl (hb hby at_483) rfl (XT.ii_ne_f hd483_30) ?_
      show Steps p.tables e below (T1308.setTop (mkF m 486 #[iv p0, iv p1, rv b935, iv w0_2, iv (own_v1129 w0_2), iv w0_3, iv (f7 w0_2), iv w0_4, iv w0_5, iv w0_6, iv w0_7, iv w0_8, iv w0_9, iv (own_v1254 w0_5 w0_9 w0_2), iv w0_10, iv (f7 w0_9), iv w0_11, iv w0_12, iv w0_13, iv (1:Int32), iv w0_14, iv w0_4] [])) _
      refine XS.iconst X1308.here hx rfl (hb hby at_486) ?_
      show Steps p.tables e below (T1308.setTop (mkF m 487 #[iv p0, iv p1, rv b935, iv w0_2, iv (own_v1129 w0_2), iv w0_3, iv (f7 w0_2), iv w0_4, iv w0_5, iv w0_6, iv w0_7, iv w0_8, iv w0_9, iv (own_v1254 w0_5 w0_9 w0_2), iv w0_10, iv (f7 w0_9), iv w0_11, iv w0_12, iv w0_13, iv (1:Int32), iv w0_14, iv w0_4] [(.int (1:Int32))])) _
      refine XS.goto X1308.here hx rfl (pc0 := 487) (pc' := 491) rfl (hb hby at_487) (by decide) (by decide) ?_
      show Steps p.tables e below (T1308.setTop (mkF m 491 #[iv p0, iv p1, rv b935, iv w0_2, iv (own_v1129 w0_2), iv w0_3, iv (f7 w0_2), iv w0_4, iv w0_5, iv w0_6, iv w0_7, iv w0_8, iv w0_9, iv (own_v1254 w0_5 w0_9 w0_2), iv w0_10, iv (f7 w0_9), iv w0_11, iv w0_12, iv w0_13, iv (1:Int32), iv w0_14, iv w0_4] [(.int (1:Int32))])) _
      refine XS.istore X1308.here hx rfl (hb hby at_491) rfl (l' := #[iv p0, iv p1, rv b935, iv w0_2, iv (own_v1129 w0_2), iv w0_3, iv (f7 w0_2), iv w0_4, iv w0_5, iv w0_6, iv w0_7, iv w0_8, iv w0_9, iv (own_v1254 w0_5 w0_9 w0_2), iv w0_10, iv (f7 w0_9), iv w0_11, iv w0_12, iv w0_13, iv (1:Int32), iv w0_14, iv w0_4]) rfl ?_
      show Steps p.tables e below (T1308.setTop (mkF m 493 #[iv p0, iv p1, rv b935, iv w0_2, iv (own_v1129 w0_2), iv w0_3, iv (f7 w0_2), iv w0_4, iv w0_5, iv w0_6, iv w0_7, iv w0_8, iv w0_9, iv (own_v1254 w0_5 w0_9 w0_2), iv w0_10, iv (f7 w0_9), iv w0_11, iv w0_12, iv w0_13, iv (1:Int32), iv w0_14, iv w0_4] [])) _
      refine XS.iload X1308.here hx rfl (hb hby at_493) rfl ?_
      show Steps p.tables e below (T1308.setTop (mkF m 495 #[iv p0, iv p1, rv b935, iv w0_2, iv (own_v1129 w0_2), iv w0_3, iv (f7 w0_2), iv w0_4, iv w0_5, iv w0_6, iv w0_7, iv w0_8, iv w0_9, iv (own_v1254 w0_5 w0_9 w0_2), iv w0_10, iv (f7 w0_9), iv w0_11, iv w0_12, iv w0_13, iv (1:Int32), iv w0_14, iv w0_4] [(.int (1:Int32))])) _
      refine XS.ifNo X1308.here hx rfl (hb hby at_495) rfl (XT.i0_eq_f (by decide)) ?_
      show Steps p.tables e below (T1308.setTop (mkF m 498 #[iv p0, iv p1, rv b935, iv w0_2, iv (own_v1129 w0_2), iv w0_3, iv (f7 w0_2), iv w0_4, iv w0_5, iv w0_6, iv w0_7, iv w0_8, iv w0_9, iv (own_v1254 w0_5 w0_9 w0_2), iv w0_10, iv (f7 w0_9), iv w0_11, iv w0_12, iv w0_13, iv (1:Int32), iv w0_14, iv w0_4] [])) _
      refine XS.aloadN X1308.here hx rfl (hb hby at_498) rfl rfl ?_
      show Steps p.tables e below (T1308.setTop (mkF m 499 #[iv p0, iv p1, rv b935, iv w0_2, iv (own_v1129 w0_2), iv w0_3, iv (f7 w0_2), iv w0_4, iv w0_5, iv w0_6, iv w0_7, iv w0_8, iv w0_9, iv (own_v1254 w0_5 w0_9 w0_2), iv w0_10, iv (f7 w0_9), iv w0_11, iv w0_12, iv w0_13, iv (1:Int32), iv w0_14, iv w0_4] [(.ref b935)])) _
      refine XS.iconst X1308.here hx rfl (hb hby at_499) ?_
      exact k
    have hf1313 : own_In (3:Int32) (own_v1246 w0_5 w0_9 w0_2).length := by subst hw0_1 hw0_3 hw0_4 hw0_6 hw0_7 hw0_8 hw0_10 hw0_11 hw0_12 hw0_13 hw0_14; exact own_fin1312 w0_2 hm1 w0_5 hmb.1 w0_9 hm2.1 hmb.2 hm2.2 hs339_24
    obtain ⟨cq1311, kq1311, q1311a, q1311b, q1311c⟩ := isOf hZ eh1308 F1263
    obtain ⟨_, _, ⟨T1311, L1311, k1311, n1311⟩, -, X1311, ⟨Lc1311, hQ1311, l1311, y1311, z1311⟩, st1311⟩ := X1308.virtualBack hx (y := (⟨"com/example/spare_calculus/sparecalculus/bisim/Partition", "blockOf", "(I)I"⟩ : MethodName)) (z := (⟨"com/example/spare_calculus/sparecalculus/bisim/Partition", "blockOf", "(I)I"⟩ : MethodName)) hown (mvT hZ (own_h hw 68 rfl)) (mvT hZ (own_h hw 69 rfl)) (notFace_of_selects (args := #[]) (mvT hZ (own_h hw 71 rfl))) (mvT hZ (own_h hw 71 rfl)) (mvT hZ (own_h hw 70 rfl)) (by decide) (backOf (W := 0) (rm12 l Z aZ hw [] b935 (3:Int32) e3_940 (own_v1246 w0_5 w0_9 w0_2) T1195.heap n0 Z1243 G1232 G1247 hf1313) hZ (own_h hw 72 rfl) (own_h hw 2 rfl) (by decide) (by decide)) q1311a q1311c (g := (mkF m 500 #[iv p0, iv p1, rv b935, iv w0_2, iv (own_v1129 w0_2), iv w0_3, iv (f7 w0_2), iv w0_4, iv w0_5, iv w0_6, iv w0_7, iv w0_8, iv w0_9, iv (own_v1254 w0_5 w0_9 w0_2), iv w0_10, iv (f7 w0_9), iv w0_11, iv w0_12, iv w0_13, iv (1:Int32), iv w0_14, iv w0_4] [(.int (3:Int32)), (.ref b935)])) rfl (by rw [hml]; rfl) (Steps.refl _) (argsL := [(.int (3:Int32))]) (rest := []) (lenOf own_pd3 rfl) rfl (by show 2 * 0 + _ ≤ _; exact Nat.le_of_eq rfl) (hb hby at_500) (fun _ _ => ⟨rfl, eh1308, (by decide : 8 + 0 ≤ _), (by decide : 37 + 0 ≤ _)⟩)
    dsimp only [Pt.U, Pt.locs, Pt.cells, Pt.slots] at X1311 l1311 y1311 z1311 st1311 hQ1311
    subst l1311 y1311 z1311
    obtain ⟨rfl, N1311q, eh1311⟩ := hQ1311
    have N1311 := Fr.app N1308 N1311q
    refine own_pre (fun _ k => st1311.trans k) ?_
    refine own_pre (A := T1311.setTop (mkF m 513 #[iv p0, iv p1, rv b935, iv w0_2, iv (own_v1129 w0_2), iv w0_3, iv (f7 w0_2), iv w0_4, iv w0_5, iv w0_6, iv w0_7, iv w0_8, iv w0_9, iv (own_v1254 w0_5 w0_9 w0_2), iv w0_10, iv (f7 w0_9), iv w0_11, iv w0_12, iv w0_13, iv (1:Int32), iv w0_14, iv w0_4] [(.int w0_4), (.int w0_10), (.int w0_9), (.int w0_3), (.int w0_2), (.int (3:Int32)), (.int (own_v1314 w0_5 w0_9 w0_2))])) (fun t k => ?_) ?_
    · show Steps p.tables e below (T1311.setTop (mkF m 503 #[iv p0, iv p1, rv b935, iv w0_2, iv (own_v1129 w0_2), iv w0_3, iv (f7 w0_2), iv w0_4, iv w0_5, iv w0_6, iv w0_7, iv w0_8, iv w0_9, iv (own_v1254 w0_5 w0_9 w0_2), iv w0_10, iv (f7 w0_9), iv w0_11, iv w0_12, iv w0_13, iv (1:Int32), iv w0_14, iv w0_4] [(.int (own_v1314 w0_5 w0_9 w0_2))])) _
      refine XS.iconst X1311.here hx rfl (hb hby at_503) ?_
      show Steps p.tables e below (T1311.setTop (mkF m 504 #[iv p0, iv p1, rv b935, iv w0_2, iv (own_v1129 w0_2), iv w0_3, iv (f7 w0_2), iv w0_4, iv w0_5, iv w0_6, iv w0_7, iv w0_8, iv w0_9, iv (own_v1254 w0_5 w0_9 w0_2), iv w0_10, iv (f7 w0_9), iv w0_11, iv w0_12, iv w0_13, iv (1:Int32), iv w0_14, iv w0_4] [(.int (3:Int32)), (.int (own_v1314 w0_5 w0_9 w0_2))])) _
      refine XS.iloadN X1311.here hx rfl (hb hby at_504) rfl ?_
      show Steps p.tables e below (T1311.setTop (mkF m 505 #[iv p0, iv p1, rv b935, iv w0_2, iv (own_v1129 w0_2), iv w0_3, iv (f7 w0_2), iv w0_4, iv w0_5, iv w0_6, iv w0_7, iv w0_8, iv w0_9, iv (own_v1254 w0_5 w0_9 w0_2), iv w0_10, iv (f7 w0_9), iv w0_11, iv w0_12, iv w0_13, iv (1:Int32), iv w0_14, iv w0_4] [(.int w0_2), (.int (3:Int32)), (.int (own_v1314 w0_5 w0_9 w0_2))])) _
      refine XS.iload X1311.here hx rfl (hb hby at_505) rfl ?_
      show Steps p.tables e below (T1311.setTop (mkF m 507 #[iv p0, iv p1, rv b935, iv w0_2, iv (own_v1129 w0_2), iv w0_3, iv (f7 w0_2), iv w0_4, iv w0_5, iv w0_6, iv w0_7, iv w0_8, iv w0_9, iv (own_v1254 w0_5 w0_9 w0_2), iv w0_10, iv (f7 w0_9), iv w0_11, iv w0_12, iv w0_13, iv (1:Int32), iv w0_14, iv w0_4] [(.int w0_3), (.int w0_2), (.int (3:Int32)), (.int (own_v1314 w0_5 w0_9 w0_2))])) _
      refine XS.iload X1311.here hx rfl (hb hby at_507) rfl ?_
      show Steps p.tables e below (T1311.setTop (mkF m 509 #[iv p0, iv p1, rv b935, iv w0_2, iv (own_v1129 w0_2), iv w0_3, iv (f7 w0_2), iv w0_4, iv w0_5, iv w0_6, iv w0_7, iv w0_8, iv w0_9, iv (own_v1254 w0_5 w0_9 w0_2), iv w0_10, iv (f7 w0_9), iv w0_11, iv w0_12, iv w0_13, iv (1:Int32), iv w0_14, iv w0_4] [(.int w0_9), (.int w0_3), (.int w0_2), (.int (3:Int32)), (.int (own_v1314 w0_5 w0_9 w0_2))])) _
      refine XS.iload X1311.here hx rfl (hb hby at_509) rfl ?_
      show Steps p.tables e below (T1311.setTop (mkF m 511 #[iv p0, iv p1, rv b935, iv w0_2, iv (own_v1129 w0_2), iv w0_3, iv (f7 w0_2), iv w0_4, iv w0_5, iv w0_6, iv w0_7, iv w0_8, iv w0_9, iv (own_v1254 w0_5 w0_9 w0_2), iv w0_10, iv (f7 w0_9), iv w0_11, iv w0_12, iv w0_13, iv (1:Int32), iv w0_14, iv w0_4] [(.int w0_10), (.int w0_9), (.int w0_3), (.int w0_2), (.int (3:Int32)), (.int (own_v1314 w0_5 w0_9 w0_2))])) _
      refine XS.iload X1311.here hx rfl (hb hby at_511) rfl ?_
      exact k
    obtain ⟨_, _, ⟨T1315, L1315, k1315, n1315⟩, -, X1315, ⟨Lc1315, hQ1315, l1315, y1315, z1315⟩, st1315⟩ := Jvm.LawKit.callS X1311 hx (y := (⟨"com/example/spare_calculus/sparecalculus/bisim/PartitionSplitOffMarkedPinLaw", "expBlock", "(IIZIZI)I"⟩ : MethodName)) hown (mvT hZ (own_h hw 73 rfl)) (mvT hZ (own_h hw 74 rfl)) (mvT hZ (own_h hw 28 rfl)) (mvT hZ (own_h hw 75 rfl)) (by decide) (backOf (W := 1) (rm13 l Z aZ hw [] (3:Int32) w0_2 w0_3 w0_9 w0_10 w0_4 T1195.heap n0 Z1243 ) hZ (own_h hw 75 rfl) (own_h hw 28 rfl) (by decide) (by decide)) (g := (mkF m 513 #[iv p0, iv p1, rv b935, iv w0_2, iv (own_v1129 w0_2), iv w0_3, iv (f7 w0_2), iv w0_4, iv w0_5, iv w0_6, iv w0_7, iv w0_8, iv w0_9, iv (own_v1254 w0_5 w0_9 w0_2), iv w0_10, iv (f7 w0_9), iv w0_11, iv w0_12, iv w0_13, iv (1:Int32), iv w0_14, iv w0_4] [(.int w0_4), (.int w0_10), (.int w0_9), (.int w0_3), (.int w0_2), (.int (3:Int32)), (.int (own_v1314 w0_5 w0_9 w0_2))])) rfl (by rw [hml]; rfl) (argsL := [(.int (3:Int32)), (.int w0_2), (.int w0_3), (.int w0_9), (.int w0_10), (.int w0_4)]) (rest := [(.int (own_v1314 w0_5 w0_9 w0_2))]) (lenOf own_pd5 rfl) rfl (by show 2 * 0 + _ ≤ _; exact Nat.le_of_eq rfl) (hb hby at_513) (fun _ _ => ⟨rfl, eh1311, (by decide : 8 + 0 ≤ _), (by decide : 37 + 0 ≤ _)⟩)
    dsimp only [Pt.U, Pt.locs, Pt.cells, Pt.slots] at X1315 l1315 y1315 z1315 st1315 hQ1315
    subst l1315 y1315 z1315
    obtain ⟨rfl, N1315q, eh1315⟩ := hQ1315
    have N1315 := Fr.app N1311 N1315q
    refine own_pre st1315 ?_
    have hd516_31 : (own_v1314 w0_5 w0_9 w0_2) = (own_v1316 w0_2 w0_3 w0_9 w0_10 w0_4) := (by subst hw0_1 hw0_3 hw0_4 hw0_6 hw0_7 hw0_8 hw0_10 hw0_11 hw0_12 hw0_13 hw0_14; exact own_fin1317 w0_2 hm1 w0_5 hmb.1 w0_9 hm2.1 hmb.2 hm2.2 hs339_24)
    refine own_pre (A := T1315.setTop (mkF m 528 #[iv p0, iv p1, rv b935, iv w0_2, iv (own_v1129 w0_2), iv w0_3, iv (f7 w0_2), iv w0_4, iv w0_5, iv w0_6, iv w0_7, iv w0_8, iv w0_9, iv (own_v1254 w0_5 w0_9 w0_2), iv w0_10, iv (f7 w0_9), iv w0_11, iv w0_12, iv w0_13, iv (1:Int32), iv w0_14, iv w0_4] [(.int (1:Int32))])) (fun t k => ?_) ?_
    · show Steps p.tables e below (T1315.setTop (mkF m 516 #[iv p0, iv p1, rv b935, iv w0_2, iv (own_v1129 w0_2), iv w0_3, iv (f7 w0_2), iv w0_4, iv w0_5, iv w0_6, iv w0_7, iv w0_8, iv w0_9, iv (own_v1254 w0_5 w0_9 w0_2), iv w0_10, iv (f7 w0_9), iv w0_11, iv w0_12, iv w0_13, iv (1:Int32), iv w0_14, iv w0_4] [(.int (own_v1316 w0_2 w0_3 w0_9 w0_10 w0_4)), (.int (own_v1314 w0_5 w0_9 w0_2))])) _
      refine XS.icmpNo X1315.here hx rfl (hb hby at_516) rfl (XT.ii_ne_f hd516_31) ?_
      show Steps p.tables e below (T1315.setTop (mkF m 519 #[iv p0, iv p1, rv b935, iv w0_2, iv (own_v1129 w0_2), iv w0_3, iv (f7 w0_2), iv w0_4, iv w0_5, iv w0_6, iv w0_7, iv w0_8, iv w0_9, iv (own_v1254 w0_5 w0_9 w0_2), iv w0_10, iv (f7 w0_9), iv w0_11, iv w0_12, iv w0_13, iv (1:Int32), iv w0_14, iv w0_4] [])) _
      refine XS.iconst X1315.here hx rfl (hb hby at_519) ?_
      show Steps p.tables e below (T1315.setTop (mkF m 520 #[iv p0, iv p1, rv b935, iv w0_2, iv (own_v1129 w0_2), iv w0_3, iv (f7 w0_2), iv w0_4, iv w0_5, iv w0_6, iv w0_7, iv w0_8, iv w0_9, iv (own_v1254 w0_5 w0_9 w0_2), iv w0_10, iv (f7 w0_9), iv w0_11, iv w0_12, iv w0_13, iv (1:Int32), iv w0_14, iv w0_4] [(.int (1:Int32))])) _
      refine XS.goto X1315.here hx rfl (pc0 := 520) (pc' := 524) rfl (hb hby at_520) (by decide) (by decide) ?_
      show Steps p.tables e below (T1315.setTop (mkF m 524 #[iv p0, iv p1, rv b935, iv w0_2, iv (own_v1129 w0_2), iv w0_3, iv (f7 w0_2), iv w0_4, iv w0_5, iv w0_6, iv w0_7, iv w0_8, iv w0_9, iv (own_v1254 w0_5 w0_9 w0_2), iv w0_10, iv (f7 w0_9), iv w0_11, iv w0_12, iv w0_13, iv (1:Int32), iv w0_14, iv w0_4] [(.int (1:Int32))])) _
      refine XS.istore X1315.here hx rfl (hb hby at_524) rfl (l' := #[iv p0, iv p1, rv b935, iv w0_2, iv (own_v1129 w0_2), iv w0_3, iv (f7 w0_2), iv w0_4, iv w0_5, iv w0_6, iv w0_7, iv w0_8, iv w0_9, iv (own_v1254 w0_5 w0_9 w0_2), iv w0_10, iv (f7 w0_9), iv w0_11, iv w0_12, iv w0_13, iv (1:Int32), iv w0_14, iv w0_4]) rfl ?_
      show Steps p.tables e below (T1315.setTop (mkF m 526 #[iv p0, iv p1, rv b935, iv w0_2, iv (own_v1129 w0_2), iv w0_3, iv (f7 w0_2), iv w0_4, iv w0_5, iv w0_6, iv w0_7, iv w0_8, iv w0_9, iv (own_v1254 w0_5 w0_9 w0_2), iv w0_10, iv (f7 w0_9), iv w0_11, iv w0_12, iv w0_13, iv (1:Int32), iv w0_14, iv w0_4] [])) _
      refine XS.iload X1315.here hx rfl (hb hby at_526) rfl ?_
      exact k
    exact own_end X1315 (BodyLoose.notSynchronized Bd) (fun h => by rw [Bd.returns] at h; cases h) (v := some (.int (1:Int32))) (fun fs hr => retN X1315 hx (t := .boolean) Bd.returns (by simp) (hb hby at_528) hr) (by show Q0 Z p0 p1 h0 n0 _ T1315.heap _; rw [eh1315]; exact ⟨rfl, N1315⟩) (by decide) (by decide)
  · refine own_pre (A := T1274.setTop (mkF m 401 #[iv p0, iv p1, rv b935, iv w0_2, iv (own_v1129 w0_2), iv w0_3, iv (f7 w0_2), iv w0_4, iv w0_5, iv w0_6, iv w0_7, iv w0_8, iv w0_9, iv (own_v1254 w0_5 w0_9 w0_2), iv w0_10, iv (f7 w0_9), iv w0_11, iv w0_12, iv w0_13, iv (1:Int32), iv w0_14, .unset] [(.int (0:Int32)), (.ref b935)])) (fun t k => ?_) ?_
    · show Steps p.tables e below (T1274.setTop (mkF m 339 #[iv p0, iv p1, rv b935, iv w0_2, iv (own_v1129 w0_2), iv w0_3, iv (f7 w0_2), iv w0_4, iv w0_5, iv w0_6, iv w0_7, iv w0_8, iv w0_9, iv (own_v1254 w0_5 w0_9 w0_2), iv w0_10, iv (f7 w0_9), iv w0_11, iv w0_12, iv w0_13, iv (1:Int32), iv w0_14, .unset] [(.int w0_10)])) _
      refine XS.ifYes X1274.here hx rfl (pc0 := 339) (pc' := 394) rfl (hb hby at_339) rfl (XT.i0_ne_t hs339_24) (by decide) (by decide) ?_
      show Steps p.tables e below (T1274.setTop (mkF m 394 #[iv p0, iv p1, rv b935, iv w0_2, iv (own_v1129 w0_2), iv w0_3, iv (f7 w0_2), iv w0_4, iv w0_5, iv w0_6, iv w0_7, iv w0_8, iv w0_9, iv (own_v1254 w0_5 w0_9 w0_2), iv w0_10, iv (f7 w0_9), iv w0_11, iv w0_12, iv w0_13, iv (1:Int32), iv w0_14, .unset] [])) _
      refine XS.iload X1274.here hx rfl (hb hby at_394) rfl ?_
      show Steps p.tables e below (T1274.setTop (mkF m 396 #[iv p0, iv p1, rv b935, iv w0_2, iv (own_v1129 w0_2), iv w0_3, iv (f7 w0_2), iv w0_4, iv w0_5, iv w0_6, iv w0_7, iv w0_8, iv w0_9, iv (own_v1254 w0_5 w0_9 w0_2), iv w0_10, iv (f7 w0_9), iv w0_11, iv w0_12, iv w0_13, iv (1:Int32), iv w0_14, .unset] [(.int (1:Int32))])) _
      refine XS.ifNo X1274.here hx rfl (hb hby at_396) rfl (XT.i0_eq_f (by decide)) ?_
      show Steps p.tables e below (T1274.setTop (mkF m 399 #[iv p0, iv p1, rv b935, iv w0_2, iv (own_v1129 w0_2), iv w0_3, iv (f7 w0_2), iv w0_4, iv w0_5, iv w0_6, iv w0_7, iv w0_8, iv w0_9, iv (own_v1254 w0_5 w0_9 w0_2), iv w0_10, iv (f7 w0_9), iv w0_11, iv w0_12, iv w0_13, iv (1:Int32), iv w0_14, .unset] [])) _
      refine XS.aloadN X1274.here hx rfl (hb hby at_399) rfl rfl ?_
      show Steps p.tables e below (T1274.setTop (mkF m 400 #[iv p0, iv p1, rv b935, iv w0_2, iv (own_v1129 w0_2), iv w0_3, iv (f7 w0_2), iv w0_4, iv w0_5, iv w0_6, iv w0_7, iv w0_8, iv w0_9, iv (own_v1254 w0_5 w0_9 w0_2), iv w0_10, iv (f7 w0_9), iv w0_11, iv w0_12, iv w0_13, iv (1:Int32), iv w0_14, .unset] [(.ref b935)])) _
      refine XS.iconst X1274.here hx rfl (hb hby at_400) ?_
      exact k
    have hf1320 : own_In (0:Int32) (own_v1246 w0_5 w0_9 w0_2).length := by subst hw0_1 hw0_3 hw0_4 hw0_6 hw0_7 hw0_8 hw0_10 hw0_11 hw0_12 hw0_13 hw0_14; exact own_fin1319 w0_2 hm1 w0_5 hmb.1 w0_9 hm2.1 hmb.2 hm2.2 hs339_24
    obtain ⟨cq1318, kq1318, q1318a, q1318b, q1318c⟩ := isOf hZ eh1274 F1263
    obtain ⟨_, _, ⟨T1318, L1318, k1318, n1318⟩, -, X1318, ⟨Lc1318, hQ1318, l1318, y1318, z1318⟩, st1318⟩ := X1274.virtualBack hx (y := (⟨"com/example/spare_calculus/sparecalculus/bisim/Partition", "blockOf", "(I)I"⟩ : MethodName)) (z := (⟨"com/example/spare_calculus/sparecalculus/bisim/Partition", "blockOf", "(I)I"⟩ : MethodName)) hown (mvT hZ (own_h hw 68 rfl)) (mvT hZ (own_h hw 69 rfl)) (notFace_of_selects (args := #[]) (mvT hZ (own_h hw 71 rfl))) (mvT hZ (own_h hw 71 rfl)) (mvT hZ (own_h hw 70 rfl)) (by decide) (backOf (W := 0) (rm12 l Z aZ hw [] b935 (0:Int32) e3_940 (own_v1246 w0_5 w0_9 w0_2) T1195.heap n0 Z1243 G1232 G1247 hf1320) hZ (own_h hw 72 rfl) (own_h hw 2 rfl) (by decide) (by decide)) q1318a q1318c (g := (mkF m 401 #[iv p0, iv p1, rv b935, iv w0_2, iv (own_v1129 w0_2), iv w0_3, iv (f7 w0_2), iv w0_4, iv w0_5, iv w0_6, iv w0_7, iv w0_8, iv w0_9, iv (own_v1254 w0_5 w0_9 w0_2), iv w0_10, iv (f7 w0_9), iv w0_11, iv w0_12, iv w0_13, iv (1:Int32), iv w0_14, .unset] [(.int (0:Int32)), (.ref b935)])) rfl (by rw [hml]; rfl) (Steps.refl _) (argsL := [(.int (0:Int32))]) (rest := []) (lenOf own_pd3 rfl) rfl (by show 2 * 0 + _ ≤ _; exact Nat.le_of_eq rfl) (hb hby at_401) (fun _ _ => ⟨rfl, eh1274, (by decide : 8 + 0 ≤ _), (by decide : 37 + 0 ≤ _)⟩)
    dsimp only [Pt.U, Pt.locs, Pt.cells, Pt.slots] at X1318 l1318 y1318 z1318 st1318 hQ1318
    subst l1318 y1318 z1318
    obtain ⟨rfl, N1318q, eh1318⟩ := hQ1318
    have N1318 := Fr.app N1274 N1318q
    refine own_pre (fun _ k => st1318.trans k) ?_
    refine own_pre (A := T1318.setTop (mkF m 414 #[iv p0, iv p1, rv b935, iv w0_2, iv (own_v1129 w0_2), iv w0_3, iv (f7 w0_2), iv w0_4, iv w0_5, iv w0_6, iv w0_7, iv w0_8, iv w0_9, iv (own_v1254 w0_5 w0_9 w0_2), iv w0_10, iv (f7 w0_9), iv w0_11, iv w0_12, iv w0_13, iv (1:Int32), iv w0_14, .unset] [(.int w0_4), (.int w0_10), (.int w0_9), (.int w0_3), (.int w0_2), (.int (0:Int32)), (.int (own_v1293 w0_5 w0_9 w0_2))])) (fun t k => ?_) ?_
    · show Steps p.tables e below (T1318.setTop (mkF m 404 #[iv p0, iv p1, rv b935, iv w0_2, iv (own_v1129 w0_2), iv w0_3, iv (f7 w0_2), iv w0_4, iv w0_5, iv w0_6, iv w0_7, iv w0_8, iv w0_9, iv (own_v1254 w0_5 w0_9 w0_2), iv w0_10, iv (f7 w0_9), iv w0_11, iv w0_12, iv w0_13, iv (1:Int32), iv w0_14, .unset] [(.int (own_v1293 w0_5 w0_9 w0_2))])) _
      refine XS.iconst X1318.here hx rfl (hb hby at_404) ?_
      show Steps p.tables e below (T1318.setTop (mkF m 405 #[iv p0, iv p1, rv b935, iv w0_2, iv (own_v1129 w0_2), iv w0_3, iv (f7 w0_2), iv w0_4, iv w0_5, iv w0_6, iv w0_7, iv w0_8, iv w0_9, iv (own_v1254 w0_5 w0_9 w0_2), iv w0_10, iv (f7 w0_9), iv w0_11, iv w0_12, iv w0_13, iv (1:Int32), iv w0_14, .unset] [(.int (0:Int32)), (.int (own_v1293 w0_5 w0_9 w0_2))])) _
      refine XS.iloadN X1318.here hx rfl (hb hby at_405) rfl ?_
      show Steps p.tables e below (T1318.setTop (mkF m 406 #[iv p0, iv p1, rv b935, iv w0_2, iv (own_v1129 w0_2), iv w0_3, iv (f7 w0_2), iv w0_4, iv w0_5, iv w0_6, iv w0_7, iv w0_8, iv w0_9, iv (own_v1254 w0_5 w0_9 w0_2), iv w0_10, iv (f7 w0_9), iv w0_11, iv w0_12, iv w0_13, iv (1:Int32), iv w0_14, .unset] [(.int w0_2), (.int (0:Int32)), (.int (own_v1293 w0_5 w0_9 w0_2))])) _
      refine XS.iload X1318.here hx rfl (hb hby at_406) rfl ?_
      show Steps p.tables e below (T1318.setTop (mkF m 408 #[iv p0, iv p1, rv b935, iv w0_2, iv (own_v1129 w0_2), iv w0_3, iv (f7 w0_2), iv w0_4, iv w0_5, iv w0_6, iv w0_7, iv w0_8, iv w0_9, iv (own_v1254 w0_5 w0_9 w0_2), iv w0_10, iv (f7 w0_9), iv w0_11, iv w0_12, iv w0_13, iv (1:Int32), iv w0_14, .unset] [(.int w0_3), (.int w0_2), (.int (0:Int32)), (.int (own_v1293 w0_5 w0_9 w0_2))])) _
      refine XS.iload X1318.here hx rfl (hb hby at_408) rfl ?_
      show Steps p.tables e below (T1318.setTop (mkF m 410 #[iv p0, iv p1, rv b935, iv w0_2, iv (own_v1129 w0_2), iv w0_3, iv (f7 w0_2), iv w0_4, iv w0_5, iv w0_6, iv w0_7, iv w0_8, iv w0_9, iv (own_v1254 w0_5 w0_9 w0_2), iv w0_10, iv (f7 w0_9), iv w0_11, iv w0_12, iv w0_13, iv (1:Int32), iv w0_14, .unset] [(.int w0_9), (.int w0_3), (.int w0_2), (.int (0:Int32)), (.int (own_v1293 w0_5 w0_9 w0_2))])) _
      refine XS.iload X1318.here hx rfl (hb hby at_410) rfl ?_
      show Steps p.tables e below (T1318.setTop (mkF m 412 #[iv p0, iv p1, rv b935, iv w0_2, iv (own_v1129 w0_2), iv w0_3, iv (f7 w0_2), iv w0_4, iv w0_5, iv w0_6, iv w0_7, iv w0_8, iv w0_9, iv (own_v1254 w0_5 w0_9 w0_2), iv w0_10, iv (f7 w0_9), iv w0_11, iv w0_12, iv w0_13, iv (1:Int32), iv w0_14, .unset] [(.int w0_10), (.int w0_9), (.int w0_3), (.int w0_2), (.int (0:Int32)), (.int (own_v1293 w0_5 w0_9 w0_2))])) _
      refine XS.iload X1318.here hx rfl (hb hby at_412) rfl ?_
      exact k
    obtain ⟨_, _, ⟨T1321, L1321, k1321, n1321⟩, -, X1321, ⟨Lc1321, hQ1321, l1321, y1321, z1321⟩, st1321⟩ := Jvm.LawKit.callS X1318 hx (y := (⟨"com/example/spare_calculus/sparecalculus/bisim/PartitionSplitOffMarkedPinLaw", "expBlock", "(IIZIZI)I"⟩ : MethodName)) hown (mvT hZ (own_h hw 73 rfl)) (mvT hZ (own_h hw 74 rfl)) (mvT hZ (own_h hw 28 rfl)) (mvT hZ (own_h hw 75 rfl)) (by decide) (backOf (W := 1) (rm13 l Z aZ hw [] (0:Int32) w0_2 w0_3 w0_9 w0_10 w0_4 T1195.heap n0 Z1243 ) hZ (own_h hw 75 rfl) (own_h hw 28 rfl) (by decide) (by decide)) (g := (mkF m 414 #[iv p0, iv p1, rv b935, iv w0_2, iv (own_v1129 w0_2), iv w0_3, iv (f7 w0_2), iv w0_4, iv w0_5, iv w0_6, iv w0_7, iv w0_8, iv w0_9, iv (own_v1254 w0_5 w0_9 w0_2), iv w0_10, iv (f7 w0_9), iv w0_11, iv w0_12, iv w0_13, iv (1:Int32), iv w0_14, .unset] [(.int w0_4), (.int w0_10), (.int w0_9), (.int w0_3), (.int w0_2), (.int (0:Int32)), (.int (own_v1293 w0_5 w0_9 w0_2))])) rfl (by rw [hml]; rfl) (argsL := [(.int (0:Int32)), (.int w0_2), (.int w0_3), (.int w0_9), (.int w0_10), (.int w0_4)]) (rest := [(.int (own_v1293 w0_5 w0_9 w0_2))]) (lenOf own_pd5 rfl) rfl (by show 2 * 0 + _ ≤ _; exact Nat.le_of_eq rfl) (hb hby at_414) (fun _ _ => ⟨rfl, eh1318, (by decide : 8 + 0 ≤ _), (by decide : 37 + 0 ≤ _)⟩)
    dsimp only [Pt.U, Pt.locs, Pt.cells, Pt.slots] at X1321 l1321 y1321 z1321 st1321 hQ1321
    subst l1321 y1321 z1321
    obtain ⟨rfl, N1321q, eh1321⟩ := hQ1321
    have N1321 := Fr.app N1318 N1321q
    refine own_pre st1321 ?_
    have hd417_32 : (own_v1293 w0_5 w0_9 w0_2) = (own_v1295 w0_2 w0_3 w0_9 w0_10 w0_4) := (by subst hw0_1 hw0_3 hw0_4 hw0_6 hw0_7 hw0_8 hw0_10 hw0_11 hw0_12 hw0_13 hw0_14; exact own_fin1322 w0_2 hm1 w0_5 hmb.1 w0_9 hm2.1 hmb.2 hm2.2 hs339_24)
    refine own_pre (A := T1321.setTop (mkF m 434 #[iv p0, iv p1, rv b935, iv w0_2, iv (own_v1129 w0_2), iv w0_3, iv (f7 w0_2), iv w0_4, iv w0_5, iv w0_6, iv w0_7, iv w0_8, iv w0_9, iv (own_v1254 w0_5 w0_9 w0_2), iv w0_10, iv (f7 w0_9), iv w0_11, iv w0_12, iv w0_13, iv (1:Int32), iv w0_14, .unset] [(.int (1:Int32)), (.ref b935)])) (fun t k => ?_) ?_
    · show Steps p.tables e below (T1321.setTop (mkF m 417 #[iv p0, iv p1, rv b935, iv w0_2, iv (own_v1129 w0_2), iv w0_3, iv (f7 w0_2), iv w0_4, iv w0_5, iv w0_6, iv w0_7, iv w0_8, iv w0_9, iv (own_v1254 w0_5 w0_9 w0_2), iv w0_10, iv (f7 w0_9), iv w0_11, iv w0_12, iv w0_13, iv (1:Int32), iv w0_14, .unset] [(.int (own_v1295 w0_2 w0_3 w0_9 w0_10 w0_4)), (.int (own_v1293 w0_5 w0_9 w0_2))])) _
      refine XS.icmpNo X1321.here hx rfl (hb hby at_417) rfl (XT.ii_ne_f hd417_32) ?_
      show Steps p.tables e below (T1321.setTop (mkF m 420 #[iv p0, iv p1, rv b935, iv w0_2, iv (own_v1129 w0_2), iv w0_3, iv (f7 w0_2), iv w0_4, iv w0_5, iv w0_6, iv w0_7, iv w0_8, iv w0_9, iv (own_v1254 w0_5 w0_9 w0_2), iv w0_10, iv (f7 w0_9), iv w0_11, iv w0_12, iv w0_13, iv (1:Int32), iv w0_14, .unset] [])) _
      refine XS.iconst X1321.here hx rfl (hb hby at_420) ?_
      show Steps p.tables e below (T1321.setTop (mkF m 421 #[iv p0, iv p1, rv b935, iv w0_2, iv (own_v1129 w0_2), iv w0_3, iv (f7 w0_2), iv w0_4, iv w0_5, iv w0_6, iv w0_7, iv w0_8, iv w0_9, iv (own_v1254 w0_5 w0_9 w0_2), iv w0_10, iv (f7 w0_9), iv w0_11, iv w0_12, iv w0_13, iv (1:Int32), iv w0_14, .unset] [(.int (1:Int32))])) _
      refine XS.goto X1321.here hx rfl (pc0 := 421) (pc' := 425) rfl (hb hby at_421) (by decide) (by decide) ?_
      show Steps p.tables e below (T1321.setTop (mkF m 425 #[iv p0, iv p1, rv b935, iv w0_2, iv (own_v1129 w0_2), iv w0_3, iv (f7 w0_2), iv w0_4, iv w0_5, iv w0_6, iv w0_7, iv w0_8, iv w0_9, iv (own_v1254 w0_5 w0_9 w0_2), iv w0_10, iv (f7 w0_9), iv w0_11, iv w0_12, iv w0_13, iv (1:Int32), iv w0_14, .unset] [(.int (1:Int32))])) _
      refine XS.istore X1321.here hx rfl (hb hby at_425) rfl (l' := #[iv p0, iv p1, rv b935, iv w0_2, iv (own_v1129 w0_2), iv w0_3, iv (f7 w0_2), iv w0_4, iv w0_5, iv w0_6, iv w0_7, iv w0_8, iv w0_9, iv (own_v1254 w0_5 w0_9 w0_2), iv w0_10, iv (f7 w0_9), iv w0_11, iv w0_12, iv w0_13, iv (1:Int32), iv w0_14, .unset]) rfl ?_
      show Steps p.tables e below (T1321.setTop (mkF m 427 #[iv p0, iv p1, rv b935, iv w0_2, iv (own_v1129 w0_2), iv w0_3, iv (f7 w0_2), iv w0_4, iv w0_5, iv w0_6, iv w0_7, iv w0_8, iv w0_9, iv (own_v1254 w0_5 w0_9 w0_2), iv w0_10, iv (f7 w0_9), iv w0_11, iv w0_12, iv w0_13, iv (1:Int32), iv w0_14, .unset] [])) _
      refine XS.iload X1321.here hx rfl (hb hby at_427) rfl ?_
      show Steps p.tables e below (T1321.setTop (mkF m 429 #[iv p0, iv p1, rv b935, iv w0_2, iv (own_v1129 w0_2), iv w0_3, iv (f7 w0_2), iv w0_4, iv w0_5, iv w0_6, iv w0_7, iv w0_8, iv w0_9, iv (own_v1254 w0_5 w0_9 w0_2), iv w0_10, iv (f7 w0_9), iv w0_11, iv w0_12, iv w0_13, iv (1:Int32), iv w0_14, .unset] [(.int (1:Int32))])) _
      refine XS.ifNo X1321.here hx rfl (hb hby at_429) rfl (XT.i0_eq_f (by decide)) ?_
      show Steps p.tables e below (T1321.setTop (mkF m 432 #[iv p0, iv p1, rv b935, iv w0_2, iv (own_v1129 w0_2), iv w0_3, iv (f7 w0_2), iv w0_4, iv w0_5, iv w0_6, iv w0_7, iv w0_8, iv w0_9, iv (own_v1254 w0_5 w0_9 w0_2), iv w0_10, iv (f7 w0_9), iv w0_11, iv w0_12, iv w0_13, iv (1:Int32), iv w0_14, .unset] [])) _
      refine XS.aloadN X1321.here hx rfl (hb hby at_432) rfl rfl ?_
      show Steps p.tables e below (T1321.setTop (mkF m 433 #[iv p0, iv p1, rv b935, iv w0_2, iv (own_v1129 w0_2), iv w0_3, iv (f7 w0_2), iv w0_4, iv w0_5, iv w0_6, iv w0_7, iv w0_8, iv w0_9, iv (own_v1254 w0_5 w0_9 w0_2), iv w0_10, iv (f7 w0_9), iv w0_11, iv w0_12, iv w0_13, iv (1:Int32), iv w0_14, .unset] [(.ref b935)])) _
      refine XS.iconst X1321.here hx rfl (hb hby at_433) ?_
      exact k
    have hf1325 : own_In (1:Int32) (own_v1246 w0_5 w0_9 w0_2).length := by subst hw0_1 hw0_3 hw0_4 hw0_6 hw0_7 hw0_8 hw0_10 hw0_11 hw0_12 hw0_13 hw0_14; exact own_fin1324 w0_2 hm1 w0_5 hmb.1 w0_9 hm2.1 hmb.2 hm2.2 hs339_24
    obtain ⟨cq1323, kq1323, q1323a, q1323b, q1323c⟩ := isOf hZ eh1321 F1263
    obtain ⟨_, _, ⟨T1323, L1323, k1323, n1323⟩, -, X1323, ⟨Lc1323, hQ1323, l1323, y1323, z1323⟩, st1323⟩ := X1321.virtualBack hx (y := (⟨"com/example/spare_calculus/sparecalculus/bisim/Partition", "blockOf", "(I)I"⟩ : MethodName)) (z := (⟨"com/example/spare_calculus/sparecalculus/bisim/Partition", "blockOf", "(I)I"⟩ : MethodName)) hown (mvT hZ (own_h hw 68 rfl)) (mvT hZ (own_h hw 69 rfl)) (notFace_of_selects (args := #[]) (mvT hZ (own_h hw 71 rfl))) (mvT hZ (own_h hw 71 rfl)) (mvT hZ (own_h hw 70 rfl)) (by decide) (backOf (W := 0) (rm12 l Z aZ hw [] b935 (1:Int32) e3_940 (own_v1246 w0_5 w0_9 w0_2) T1195.heap n0 Z1243 G1232 G1247 hf1325) hZ (own_h hw 72 rfl) (own_h hw 2 rfl) (by decide) (by decide)) q1323a q1323c (g := (mkF m 434 #[iv p0, iv p1, rv b935, iv w0_2, iv (own_v1129 w0_2), iv w0_3, iv (f7 w0_2), iv w0_4, iv w0_5, iv w0_6, iv w0_7, iv w0_8, iv w0_9, iv (own_v1254 w0_5 w0_9 w0_2), iv w0_10, iv (f7 w0_9), iv w0_11, iv w0_12, iv w0_13, iv (1:Int32), iv w0_14, .unset] [(.int (1:Int32)), (.ref b935)])) rfl (by rw [hml]; rfl) (Steps.refl _) (argsL := [(.int (1:Int32))]) (rest := []) (lenOf own_pd3 rfl) rfl (by show 2 * 0 + _ ≤ _; exact Nat.le_of_eq rfl) (hb hby at_434) (fun _ _ => ⟨rfl, eh1321, (by decide : 8 + 0 ≤ _), (by decide : 37 + 0 ≤ _)⟩)
    dsimp only [Pt.U, Pt.locs, Pt.cells, Pt.slots] at X1323 l1323 y1323 z1323 st1323 hQ1323
    subst l1323 y1323 z1323
    obtain ⟨rfl, N1323q, eh1323⟩ := hQ1323
    have N1323 := Fr.app N1321 N1323q
    refine own_pre (fun _ k => st1323.trans k) ?_
    refine own_pre (A := T1323.setTop (mkF m 447 #[iv p0, iv p1, rv b935, iv w0_2, iv (own_v1129 w0_2), iv w0_3, iv (f7 w0_2), iv w0_4, iv w0_5, iv w0_6, iv w0_7, iv w0_8, iv w0_9, iv (own_v1254 w0_5 w0_9 w0_2), iv w0_10, iv (f7 w0_9), iv w0_11, iv w0_12, iv w0_13, iv (1:Int32), iv w0_14, .unset] [(.int w0_4), (.int w0_10), (.int w0_9), (.int w0_3), (.int w0_2), (.int (1:Int32)), (.int (own_v1300 w0_5 w0_9 w0_2))])) (fun t k => ?_) ?_
    · show Steps p.tables e below (T1323.setTop (mkF m 437 #[iv p0, iv p1, rv b935, iv w0_2, iv (own_v1129 w0_2), iv w0_3, iv (f7 w0_2), iv w0_4, iv w0_5, iv w0_6, iv w0_7, iv w0_8, iv w0_9, iv (own_v1254 w0_5 w0_9 w0_2), iv w0_10, iv (f7 w0_9), iv w0_11, iv w0_12, iv w0_13, iv (1:Int32), iv w0_14, .unset] [(.int (own_v1300 w0_5 w0_9 w0_2))])) _
      refine XS.iconst X1323.here hx rfl (hb hby at_437) ?_
      show Steps p.tables e below (T1323.setTop (mkF m 438 #[iv p0, iv p1, rv b935, iv w0_2, iv (own_v1129 w0_2), iv w0_3, iv (f7 w0_2), iv w0_4, iv w0_5, iv w0_6, iv w0_7, iv w0_8, iv w0_9, iv (own_v1254 w0_5 w0_9 w0_2), iv w0_10, iv (f7 w0_9), iv w0_11, iv w0_12, iv w0_13, iv (1:Int32), iv w0_14, .unset] [(.int (1:Int32)), (.int (own_v1300 w0_5 w0_9 w0_2))])) _
      refine XS.iloadN X1323.here hx rfl (hb hby at_438) rfl ?_
      show Steps p.tables e below (T1323.setTop (mkF m 439 #[iv p0, iv p1, rv b935, iv w0_2, iv (own_v1129 w0_2), iv w0_3, iv (f7 w0_2), iv w0_4, iv w0_5, iv w0_6, iv w0_7, iv w0_8, iv w0_9, iv (own_v1254 w0_5 w0_9 w0_2), iv w0_10, iv (f7 w0_9), iv w0_11, iv w0_12, iv w0_13, iv (1:Int32), iv w0_14, .unset] [(.int w0_2), (.int (1:Int32)), (.int (own_v1300 w0_5 w0_9 w0_2))])) _
      refine XS.iload X1323.here hx rfl (hb hby at_439) rfl ?_
      show Steps p.tables e below (T1323.setTop (mkF m 441 #[iv p0, iv p1, rv b935, iv w0_2, iv (own_v1129 w0_2), iv w0_3, iv (f7 w0_2), iv w0_4, iv w0_5, iv w0_6, iv w0_7, iv w0_8, iv w0_9, iv (own_v1254 w0_5 w0_9 w0_2), iv w0_10, iv (f7 w0_9), iv w0_11, iv w0_12, iv w0_13, iv (1:Int32), iv w0_14, .unset] [(.int w0_3), (.int w0_2), (.int (1:Int32)), (.int (own_v1300 w0_5 w0_9 w0_2))])) _
      refine XS.iload X1323.here hx rfl (hb hby at_441) rfl ?_
      show Steps p.tables e below (T1323.setTop (mkF m 443 #[iv p0, iv p1, rv b935, iv w0_2, iv (own_v1129 w0_2), iv w0_3, iv (f7 w0_2), iv w0_4, iv w0_5, iv w0_6, iv w0_7, iv w0_8, iv w0_9, iv (own_v1254 w0_5 w0_9 w0_2), iv w0_10, iv (f7 w0_9), iv w0_11, iv w0_12, iv w0_13, iv (1:Int32), iv w0_14, .unset] [(.int w0_9), (.int w0_3), (.int w0_2), (.int (1:Int32)), (.int (own_v1300 w0_5 w0_9 w0_2))])) _
      refine XS.iload X1323.here hx rfl (hb hby at_443) rfl ?_
      show Steps p.tables e below (T1323.setTop (mkF m 445 #[iv p0, iv p1, rv b935, iv w0_2, iv (own_v1129 w0_2), iv w0_3, iv (f7 w0_2), iv w0_4, iv w0_5, iv w0_6, iv w0_7, iv w0_8, iv w0_9, iv (own_v1254 w0_5 w0_9 w0_2), iv w0_10, iv (f7 w0_9), iv w0_11, iv w0_12, iv w0_13, iv (1:Int32), iv w0_14, .unset] [(.int w0_10), (.int w0_9), (.int w0_3), (.int w0_2), (.int (1:Int32)), (.int (own_v1300 w0_5 w0_9 w0_2))])) _
      refine XS.iload X1323.here hx rfl (hb hby at_445) rfl ?_
      exact k
    obtain ⟨_, _, ⟨T1326, L1326, k1326, n1326⟩, -, X1326, ⟨Lc1326, hQ1326, l1326, y1326, z1326⟩, st1326⟩ := Jvm.LawKit.callS X1323 hx (y := (⟨"com/example/spare_calculus/sparecalculus/bisim/PartitionSplitOffMarkedPinLaw", "expBlock", "(IIZIZI)I"⟩ : MethodName)) hown (mvT hZ (own_h hw 73 rfl)) (mvT hZ (own_h hw 74 rfl)) (mvT hZ (own_h hw 28 rfl)) (mvT hZ (own_h hw 75 rfl)) (by decide) (backOf (W := 1) (rm13 l Z aZ hw [] (1:Int32) w0_2 w0_3 w0_9 w0_10 w0_4 T1195.heap n0 Z1243 ) hZ (own_h hw 75 rfl) (own_h hw 28 rfl) (by decide) (by decide)) (g := (mkF m 447 #[iv p0, iv p1, rv b935, iv w0_2, iv (own_v1129 w0_2), iv w0_3, iv (f7 w0_2), iv w0_4, iv w0_5, iv w0_6, iv w0_7, iv w0_8, iv w0_9, iv (own_v1254 w0_5 w0_9 w0_2), iv w0_10, iv (f7 w0_9), iv w0_11, iv w0_12, iv w0_13, iv (1:Int32), iv w0_14, .unset] [(.int w0_4), (.int w0_10), (.int w0_9), (.int w0_3), (.int w0_2), (.int (1:Int32)), (.int (own_v1300 w0_5 w0_9 w0_2))])) rfl (by rw [hml]; rfl) (argsL := [(.int (1:Int32)), (.int w0_2), (.int w0_3), (.int w0_9), (.int w0_10), (.int w0_4)]) (rest := [(.int (own_v1300 w0_5 w0_9 w0_2))]) (lenOf own_pd5 rfl) rfl (by show 2 * 0 + _ ≤ _; exact Nat.le_of_eq rfl) (hb hby at_447) (fun _ _ => ⟨rfl, eh1323, (by decide : 8 + 0 ≤ _), (by decide : 37 + 0 ≤ _)⟩)
    dsimp only [Pt.U, Pt.locs, Pt.cells, Pt.slots] at X1326 l1326 y1326 z1326 st1326 hQ1326
    subst l1326 y1326 z1326
    obtain ⟨rfl, N1326q, eh1326⟩ := hQ1326
    have N1326 := Fr.app N1323 N1326q
    refine own_pre st1326 ?_
    have hd450_33 : (own_v1300 w0_5 w0_9 w0_2) = (own_v1302 w0_2 w0_3 w0_9 w0_10 w0_4) := (by subst hw0_1 hw0_3 hw0_4 hw0_6 hw0_7 hw0_8 hw0_10 hw0_11 hw0_12 hw0_13 hw0_14; exact own_fin1327 w0_2 hm1 w0_5 hmb.1 w0_9 hm2.1 hmb.2 hm2.2 hs339_24)
    refine own_pre (A := T1326.setTop (mkF m 467 #[iv p0, iv p1, rv b935, iv w0_2, iv (own_v1129 w0_2), iv w0_3, iv (f7 w0_2), iv w0_4, iv w0_5, iv w0_6, iv w0_7, iv w0_8, iv w0_9, iv (own_v1254 w0_5 w0_9 w0_2), iv w0_10, iv (f7 w0_9), iv w0_11, iv w0_12, iv w0_13, iv (1:Int32), iv w0_14, .unset] [(.int (2:Int32)), (.ref b935)])) (fun t k => ?_) ?_
    · show Steps p.tables e below (T1326.setTop (mkF m 450 #[iv p0, iv p1, rv b935, iv w0_2, iv (own_v1129 w0_2), iv w0_3, iv (f7 w0_2), iv w0_4, iv w0_5, iv w0_6, iv w0_7, iv w0_8, iv w0_9, iv (own_v1254 w0_5 w0_9 w0_2), iv w0_10, iv (f7 w0_9), iv w0_11, iv w0_12, iv w0_13, iv (1:Int32), iv w0_14, .unset] [(.int (own_v1302 w0_2 w0_3 w0_9 w0_10 w0_4)), (.int (own_v1300 w0_5 w0_9 w0_2))])) _
      refine XS.icmpNo X1326.here hx rfl (hb hby at_450) rfl (XT.ii_ne_f hd450_33) ?_
      show Steps p.tables e below (T1326.setTop (mkF m 453 #[iv p0, iv p1, rv b935, iv w0_2, iv (own_v1129 w0_2), iv w0_3, iv (f7 w0_2), iv w0_4, iv w0_5, iv w0_6, iv w0_7, iv w0_8, iv w0_9, iv (own_v1254 w0_5 w0_9 w0_2), iv w0_10, iv (f7 w0_9), iv w0_11, iv w0_12, iv w0_13, iv (1:Int32), iv w0_14, .unset] [])) _
      refine XS.iconst X1326.here hx rfl (hb hby at_453) ?_
      show Steps p.tables e below (T1326.setTop (mkF m 454 #[iv p0, iv p1, rv b935, iv w0_2, iv (own_v1129 w0_2), iv w0_3, iv (f7 w0_2), iv w0_4, iv w0_5, iv w0_6, iv w0_7, iv w0_8, iv w0_9, iv (own_v1254 w0_5 w0_9 w0_2), iv w0_10, iv (f7 w0_9), iv w0_11, iv w0_12, iv w0_13, iv (1:Int32), iv w0_14, .unset] [(.int (1:Int32))])) _
      refine XS.goto X1326.here hx rfl (pc0 := 454) (pc' := 458) rfl (hb hby at_454) (by decide) (by decide) ?_
      show Steps p.tables e below (T1326.setTop (mkF m 458 #[iv p0, iv p1, rv b935, iv w0_2, iv (own_v1129 w0_2), iv w0_3, iv (f7 w0_2), iv w0_4, iv w0_5, iv w0_6, iv w0_7, iv w0_8, iv w0_9, iv (own_v1254 w0_5 w0_9 w0_2), iv w0_10, iv (f7 w0_9), iv w0_11, iv w0_12, iv w0_13, iv (1:Int32), iv w0_14, .unset] [(.int (1:Int32))])) _
      refine XS.istore X1326.here hx rfl (hb hby at_458) rfl (l' := #[iv p0, iv p1, rv b935, iv w0_2, iv (own_v1129 w0_2), iv w0_3, iv (f7 w0_2), iv w0_4, iv w0_5, iv w0_6, iv w0_7, iv w0_8, iv w0_9, iv (own_v1254 w0_5 w0_9 w0_2), iv w0_10, iv (f7 w0_9), iv w0_11, iv w0_12, iv w0_13, iv (1:Int32), iv w0_14, .unset]) rfl ?_
      show Steps p.tables e below (T1326.setTop (mkF m 460 #[iv p0, iv p1, rv b935, iv w0_2, iv (own_v1129 w0_2), iv w0_3, iv (f7 w0_2), iv w0_4, iv w0_5, iv w0_6, iv w0_7, iv w0_8, iv w0_9, iv (own_v1254 w0_5 w0_9 w0_2), iv w0_10, iv (f7 w0_9), iv w0_11, iv w0_12, iv w0_13, iv (1:Int32), iv w0_14, .unset] [])) _
      refine XS.iload X1326.here hx rfl (hb hby at_460) rfl ?_
      show Steps p.tables e below (T1326.setTop (mkF m 462 #[iv p0, iv p1, rv b935, iv w0_2, iv (own_v1129 w0_2), iv w0_3, iv (f7 w0_2), iv w0_4, iv w0_5, iv w0_6, iv w0_7, iv w0_8, iv w0_9, iv (own_v1254 w0_5 w0_9 w0_2), iv w0_10, iv (f7 w0_9), iv w0_11, iv w0_12, iv w0_13, iv (1:Int32), iv w0_14, .unset] [(.int (1:Int32))])) _
      refine XS.ifNo X1326.here hx rfl (hb hby at_462) rfl (XT.i0_eq_f (by decide)) ?_
      show Steps p.tables e below (T1326.setTop (mkF m 465 #[iv p0, iv p1, rv b935, iv w0_2, iv (own_v1129 w0_2), iv w0_3, iv (f7 w0_2), iv w0_4, iv w0_5, iv w0_6, iv w0_7, iv w0_8, iv w0_9, iv (own_v1254 w0_5 w0_9 w0_2), iv w0_10, iv (f7 w0_9), iv w0_11, iv w0_12, iv w0_13, iv (1:Int32), iv w0_14, .unset] [])) _
      refine XS.aloadN X1326.here hx rfl (hb hby at_465) rfl rfl ?_
      show Steps p.tables e below (T1326.setTop (mkF m 466 #[iv p0, iv p1, rv b935, iv w0_2, iv (own_v1129 w0_2), iv w0_3, iv (f7 w0_2), iv w0_4, iv w0_5, iv w0_6, iv w0_7, iv w0_8, iv w0_9, iv (own_v1254 w0_5 w0_9 w0_2), iv w0_10, iv (f7 w0_9), iv w0_11, iv w0_12, iv w0_13, iv (1:Int32), iv w0_14, .unset] [(.ref b935)])) _
      refine XS.iconst X1326.here hx rfl (hb hby at_466) ?_
      exact k
    have hf1330 : own_In (2:Int32) (own_v1246 w0_5 w0_9 w0_2).length := by subst hw0_1 hw0_3 hw0_4 hw0_6 hw0_7 hw0_8 hw0_10 hw0_11 hw0_12 hw0_13 hw0_14; exact own_fin1329 w0_2 hm1 w0_5 hmb.1 w0_9 hm2.1 hmb.2 hm2.2 hs339_24
    obtain ⟨cq1328, kq1328, q1328a, q1328b, q1328c⟩ := isOf hZ eh1326 F1263
    obtain ⟨_, _, ⟨T1328, L1328, k1328, n1328⟩, -, X1328, ⟨Lc1328, hQ1328, l1328, y1328, z1328⟩, st1328⟩ := X1326.virtualBack hx (y := (⟨"com/example/spare_calculus/sparecalculus/bisim/Partition", "blockOf", "(I)I"⟩ : MethodName)) (z := (⟨"com/example/spare_calculus/sparecalculus/bisim/Partition", "blockOf", "(I)I"⟩ : MethodName)) hown (mvT hZ (own_h hw 68 rfl)) (mvT hZ (own_h hw 69 rfl)) (notFace_of_selects (args := #[]) (mvT hZ (own_h hw 71 rfl))) (mvT hZ (own_h hw 71 rfl)) (mvT hZ (own_h hw 70 rfl)) (by decide) (backOf (W := 0) (rm12 l Z aZ hw [] b935 (2:Int32) e3_940 (own_v1246 w0_5 w0_9 w0_2) T1195.heap n0 Z1243 G1232 G1247 hf1330) hZ (own_h hw 72 rfl) (own_h hw 2 rfl) (by decide) (by decide)) q1328a q1328c (g := (mkF m 467 #[iv p0, iv p1, rv b935, iv w0_2, iv (own_v1129 w0_2), iv w0_3, iv (f7 w0_2), iv w0_4, iv w0_5, iv w0_6, iv w0_7, iv w0_8, iv w0_9, iv (own_v1254 w0_5 w0_9 w0_2), iv w0_10, iv (f7 w0_9), iv w0_11, iv w0_12, iv w0_13, iv (1:Int32), iv w0_14, .unset] [(.int (2:Int32)), (.ref b935)])) rfl (by rw [hml]; rfl) (Steps.refl _) (argsL := [(.int (2:Int32))]) (rest := []) (lenOf own_pd3 rfl) rfl (by show 2 * 0 + _ ≤ _; exact Nat.le_of_eq rfl) (hb hby at_467) (fun _ _ => ⟨rfl, eh1326, (by decide : 8 + 0 ≤ _), (by decide : 37 + 0 ≤ _)⟩)
    dsimp only [Pt.U, Pt.locs, Pt.cells, Pt.slots] at X1328 l1328 y1328 z1328 st1328 hQ1328
    subst l1328 y1328 z1328
    obtain ⟨rfl, N1328q, eh1328⟩ := hQ1328
    have N1328 := Fr.app N1326 N1328q
    refine own_pre (fun _ k => st1328.trans k) ?_
    refine own_pre (A := T1328.setTop (mkF m 480 #[iv p0, iv p1, rv b935, iv w0_2, iv (own_v1129 w0_2), iv w0_3, iv (f7 w0_2), iv w0_4, iv w0_5, iv w0_6, iv w0_7, iv w0_8, iv w0_9, iv (own_v1254 w0_5 w0_9 w0_2), iv w0_10, iv (f7 w0_9), iv w0_11, iv w0_12, iv w0_13, iv (1:Int32), iv w0_14, .unset] [(.int w0_4), (.int w0_10), (.int w0_9), (.int w0_3), (.int w0_2), (.int (2:Int32)), (.int (own_v1307 w0_5 w0_9 w0_2))])) (fun t k => ?_) ?_
    · show Steps p.tables e below (T1328.setTop (mkF m 470 #[iv p0, iv p1, rv b935, iv w0_2, iv (own_v1129 w0_2), iv w0_3, iv (f7 w0_2), iv w0_4, iv w0_5, iv w0_6, iv w0_7, iv w0_8, iv w0_9, iv (own_v1254 w0_5 w0_9 w0_2), iv w0_10, iv (f7 w0_9), iv w0_11, iv w0_12, iv w0_13, iv (1:Int32), iv w0_14, .unset] [(.int (own_v1307 w0_5 w0_9 w0_2))])) _
      refine XS.iconst X1328.here hx rfl (hb hby at_470) ?_
      show Steps p.tables e below (T1328.setTop (mkF m 471 #[iv p0, iv p1, rv b935, iv w0_2, iv (own_v1129 w0_2), iv w0_3, iv (f7 w0_2), iv w0_4, iv w0_5, iv w0_6, iv w0_7, iv w0_8, iv w0_9, iv (own_v1254 w0_5 w0_9 w0_2), iv w0_10, iv (f7 w0_9), iv w0_11, iv w0_12, iv w0_13, iv (1:Int32), iv w0_14, .unset] [(.int (2:Int32)), (.int (own_v1307 w0_5 w0_9 w0_2))])) _
      refine XS.iloadN X1328.here hx rfl (hb hby at_471) rfl ?_
      show Steps p.tables e below (T1328.setTop (mkF m 472 #[iv p0, iv p1, rv b935, iv w0_2, iv (own_v1129 w0_2), iv w0_3, iv (f7 w0_2), iv w0_4, iv w0_5, iv w0_6, iv w0_7, iv w0_8, iv w0_9, iv (own_v1254 w0_5 w0_9 w0_2), iv w0_10, iv (f7 w0_9), iv w0_11, iv w0_12, iv w0_13, iv (1:Int32), iv w0_14, .unset] [(.int w0_2), (.int (2:Int32)), (.int (own_v1307 w0_5 w0_9 w0_2))])) _
      refine XS.iload X1328.here hx rfl (hb hby at_472) rfl ?_
      show Steps p.tables e below (T1328.setTop (mkF m 474 #[iv p0, iv p1, rv b935, iv w0_2, iv (own_v1129 w0_2), iv w0_3, iv (f7 w0_2), iv w0_4, iv w0_5, iv w0_6, iv w0_7, iv w0_8, iv w0_9, iv (own_v1254 w0_5 w0_9 w0_2), iv w0_10, iv (f7 w0_9), iv w0_11, iv w0_12, iv w0_13, iv (1:Int32), iv w0_14, .unset] [(.int w0_3), (.int w0_2), (.int (2:Int32)), (.int (own_v1307 w0_5 w0_9 w0_2))])) _
      refine XS.iload X1328.here hx rfl (hb hby at_474) rfl ?_
      show Steps p.tables e below (T1328.setTop (mkF m 476 #[iv p0, iv p1, rv b935, iv w0_2, iv (own_v1129 w0_2), iv w0_3, iv (f7 w0_2), iv w0_4, iv w0_5, iv w0_6, iv w0_7, iv w0_8, iv w0_9, iv (own_v1254 w0_5 w0_9 w0_2), iv w0_10, iv (f7 w0_9), iv w0_11, iv w0_12, iv w0_13, iv (1:Int32), iv w0_14, .unset] [(.int w0_9), (.int w0_3), (.int w0_2), (.int (2:Int32)), (.int (own_v1307 w0_5 w0_9 w0_2))])) _
      refine XS.iload X1328.here hx rfl (hb hby at_476) rfl ?_
      show Steps p.tables e below (T1328.setTop (mkF m 478 #[iv p0, iv p1, rv b935, iv w0_2, iv (own_v1129 w0_2), iv w0_3, iv (f7 w0_2), iv w0_4, iv w0_5, iv w0_6, iv w0_7, iv w0_8, iv w0_9, iv (own_v1254 w0_5 w0_9 w0_2), iv w0_10, iv (f7 w0_9), iv w0_11, iv w0_12, iv w0_13, iv (1:Int32), iv w0_14, .unset] [(.int w0_10), (.int w0_9), (.int w0_3), (.int w0_2), (.int (2:Int32)), (.int (own_v1307 w0_5 w0_9 w0_2))])) _
      refine XS.iload X1328.here hx rfl (hb hby at_478) rfl ?_
      exact k
    obtain ⟨_, _, ⟨T1331, L1331, k1331, n1331⟩, -, X1331, ⟨Lc1331, hQ1331, l1331, y1331, z1331⟩, st1331⟩ := Jvm.LawKit.callS X1328 hx (y := (⟨"com/example/spare_calculus/sparecalculus/bisim/PartitionSplitOffMarkedPinLaw", "expBlock", "(IIZIZI)I"⟩ : MethodName)) hown (mvT hZ (own_h hw 73 rfl)) (mvT hZ (own_h hw 74 rfl)) (mvT hZ (own_h hw 28 rfl)) (mvT hZ (own_h hw 75 rfl)) (by decide) (backOf (W := 1) (rm13 l Z aZ hw [] (2:Int32) w0_2 w0_3 w0_9 w0_10 w0_4 T1195.heap n0 Z1243 ) hZ (own_h hw 75 rfl) (own_h hw 28 rfl) (by decide) (by decide)) (g := (mkF m 480 #[iv p0, iv p1, rv b935, iv w0_2, iv (own_v1129 w0_2), iv w0_3, iv (f7 w0_2), iv w0_4, iv w0_5, iv w0_6, iv w0_7, iv w0_8, iv w0_9, iv (own_v1254 w0_5 w0_9 w0_2), iv w0_10, iv (f7 w0_9), iv w0_11, iv w0_12, iv w0_13, iv (1:Int32), iv w0_14, .unset] [(.int w0_4), (.int w0_10), (.int w0_9), (.int w0_3), (.int w0_2), (.int (2:Int32)), (.int (own_v1307 w0_5 w0_9 w0_2))])) rfl (by rw [hml]; rfl) (argsL := [(.int (2:Int32)), (.int w0_2), (.int w0_3), (.int w0_9), (.int w0_10), (.int w0_4)]) (rest := [(.int (own_v1307 w0_5 w0_9 w0_2))]) (lenOf own_pd5 rfl) rfl (by show 2 * 0 + _ ≤ _; exact Nat.le_of_eq rfl) (hb hby at_480) (fun _ _ => ⟨rfl, eh1328, (by decide : 8 + 0 ≤ _), (by decide : 37 + 0 ≤ _)⟩)
    dsimp only [Pt.U, Pt.locs, Pt.cells, Pt.slots] at X1331 l1331 y1331 z1331 st1331 hQ1331
    subst l1331 y1331 z1331
    obtain ⟨rfl, N1331q, eh1331⟩ := hQ1331
    have N1331 := Fr.app N1328 N1331q
    refine own_pre st1331 ?_
    have hd483_34 : (own_v1307 w0_5 w0_9 w0_2) = (own_v1309 w0_2 w0_3 w0_9 w0_10 w0_4) := (by subst hw0_1 hw0_3 hw0_4 hw0_6 hw0_7 hw0_8 hw0_10 hw0_11 hw0_12 hw0_13 hw0_14; exact own_fin1332 w0_2 hm1 w0_5 hmb.1 w0_9 hm2.1 hmb.2 hm2.2 hs339_24)
    refine own_pre (A := T1331.setTop (mkF m 500 #[iv p0, iv p1, rv b935, iv w0_2, iv (own_v1129 w0_2), iv w0_3, iv (f7 w0_2), iv w0_4, iv w0_5, iv w0_6, iv w0_7, iv w0_8, iv w0_9, iv (own_v1254 w0_5 w0_9 w0_2), iv w0_10, iv (f7 w0_9), iv w0_11, iv w0_12, iv w0_13, iv (1:Int32), iv w0_14, .unset] [(.int (3:Int32)), (.ref b935)])) (fun t k => ?_) ?_
    · show Steps p.tables e below (T1331.setTop (mkF m 483 #[iv p0, iv p1, rv b935, iv w0_2, iv (own_v1129 w0_2), iv w0_3, iv (f7 w0_2), iv w0_4, iv w0_5, iv w0_6, iv w0_7, iv w0_8, iv w0_9, iv (own_v1254 w0_5 w0_9 w0_2), iv w0_10, iv (f7 w0_9), iv w0_11, iv w0_12, iv w0_13, iv (1:Int32), iv w0_14, .unset] [(.int (own_v1309 w0_2 w0_3 w0_9 w0_10 w0_4)), (.int (own_v1307 w0_5 w0_9 w0_2))])) _
      refine XS.icmpNo X1331.here hx rfl (hb hby at_483) rfl (XT.ii_ne_f hd483_34) ?_
      show Steps p.tables e below (T1331.setTop (mkF m 486 #[iv p0, iv p1, rv b935, iv w0_2, iv (own_v1129 w0_2), iv w0_3, iv (f7 w0_2), iv w0_4, iv w0_5, iv w0_6, iv w0_7, iv w0_8, iv w0_9, iv (own_v1254 w0_5 w0_9 w0_2), iv w0_10, iv (f7 w0_9), iv w0_11, iv w0_12, iv w0_13, iv (1:Int32), iv w0_14, .unset] [])) _
      refine XS.iconst X1331.here hx rfl (hb hby at_486) ?_
      show Steps p.tables e below (T1331.setTop (mkF m 487 #[iv p0, iv p1, rv b935, iv w0_2, iv (own_v1129 w0_2), iv w0_3, iv (f7 w0_2), iv w0_4, iv w0_5, iv w0_6, iv w0_7, iv w0_8, iv w0_9, iv (own_v1254 w0_5 w0_9 w0_2), iv w0_10, iv (f7 w0_9), iv w0_11, iv w0_12, iv w0_13, iv (1:Int32), iv w0_14, .unset] [(.int (1:Int32))])) _
      refine XS.goto X1331.here hx rfl (pc0 := 487) (pc' := 491) rfl (hb hby at_487) (by decide) (by decide) ?_
      show Steps p.tables e below (T1331.setTop (mkF m 491 #[iv p0, iv p1, rv b935, iv w0_2, iv (own_v1129 w0_2), iv w0_3, iv (f7 w0_2), iv w0_4, iv w0_5, iv w0_6, iv w0_7, iv w0_8, iv w0_9, iv (own_v1254 w0_5 w0_9 w0_2), iv w0_10, iv (f7 w0_9), iv w0_11, iv w0_12, iv w0_13, iv (1:Int32), iv w0_14, .unset] [(.int (1:Int32))])) _
      refine XS.istore X1331.here hx rfl (hb hby at_491) rfl (l' := #[iv p0, iv p1, rv b935, iv w0_2, iv (own_v1129 w0_2), iv w0_3, iv (f7 w0_2), iv w0_4, iv w0_5, iv w0_6, iv w0_7, iv w0_8, iv w0_9, iv (own_v1254 w0_5 w0_9 w0_2), iv w0_10, iv (f7 w0_9), iv w0_11, iv w0_12, iv w0_13, iv (1:Int32), iv w0_14, .unset]) rfl ?_
      show Steps p.tables e below (T1331.setTop (mkF m 493 #[iv p0, iv p1, rv b935, iv w0_2, iv (own_v1129 w0_2), iv w0_3, iv (f7 w0_2), iv w0_4, iv w0_5, iv w0_6, iv w0_7, iv w0_8, iv w0_9, iv (own_v1254 w0_5 w0_9 w0_2), iv w0_10, iv (f7 w0_9), iv w0_11, iv w0_12, iv w0_13, iv (1:Int32), iv w0_14, .unset] [])) _
      refine XS.iload X1331.here hx rfl (hb hby at_493) rfl ?_
      show Steps p.tables e below (T1331.setTop (mkF m 495 #[iv p0, iv p1, rv b935, iv w0_2, iv (own_v1129 w0_2), iv w0_3, iv (f7 w0_2), iv w0_4, iv w0_5, iv w0_6, iv w0_7, iv w0_8, iv w0_9, iv (own_v1254 w0_5 w0_9 w0_2), iv w0_10, iv (f7 w0_9), iv w0_11, iv w0_12, iv w0_13, iv (1:Int32), iv w0_14, .unset] [(.int (1:Int32))])) _
      refine XS.ifNo X1331.here hx rfl (hb hby at_495) rfl (XT.i0_eq_f (by decide)) ?_
      show Steps p.tables e below (T1331.setTop (mkF m 498 #[iv p0, iv p1, rv b935, iv w0_2, iv (own_v1129 w0_2), iv w0_3, iv (f7 w0_2), iv w0_4, iv w0_5, iv w0_6, iv w0_7, iv w0_8, iv w0_9, iv (own_v1254 w0_5 w0_9 w0_2), iv w0_10, iv (f7 w0_9), iv w0_11, iv w0_12, iv w0_13, iv (1:Int32), iv w0_14, .unset] [])) _
      refine XS.aloadN X1331.here hx rfl (hb hby at_498) rfl rfl ?_
      show Steps p.tables e below (T1331.setTop (mkF m 499 #[iv p0, iv p1, rv b935, iv w0_2, iv (own_v1129 w0_2), iv w0_3, iv (f7 w0_2), iv w0_4, iv w0_5, iv w0_6, iv w0_7, iv w0_8, iv w0_9, iv (own_v1254 w0_5 w0_9 w0_2), iv w0_10, iv (f7 w0_9), iv w0_11, iv w0_12, iv w0_13, iv (1:Int32), iv w0_14, .unset] [(.ref b935)])) _
      refine XS.iconst X1331.here hx rfl (hb hby at_499) ?_
      exact k
    have hf1335 : own_In (3:Int32) (own_v1246 w0_5 w0_9 w0_2).length := by subst hw0_1 hw0_3 hw0_4 hw0_6 hw0_7 hw0_8 hw0_10 hw0_11 hw0_12 hw0_13 hw0_14; exact own_fin1334 w0_2 hm1 w0_5 hmb.1 w0_9 hm2.1 hmb.2 hm2.2 hs339_24
    obtain ⟨cq1333, kq1333, q1333a, q1333b, q1333c⟩ := isOf hZ eh1331 F1263
    obtain ⟨_, _, ⟨T1333, L1333, k1333, n1333⟩, -, X1333, ⟨Lc1333, hQ1333, l1333, y1333, z1333⟩, st1333⟩ := X1331.virtualBack hx (y := (⟨"com/example/spare_calculus/sparecalculus/bisim/Partition", "blockOf", "(I)I"⟩ : MethodName)) (z := (⟨"com/example/spare_calculus/sparecalculus/bisim/Partition", "blockOf", "(I)I"⟩ : MethodName)) hown (mvT hZ (own_h hw 68 rfl)) (mvT hZ (own_h hw 69 rfl)) (notFace_of_selects (args := #[]) (mvT hZ (own_h hw 71 rfl))) (mvT hZ (own_h hw 71 rfl)) (mvT hZ (own_h hw 70 rfl)) (by decide) (backOf (W := 0) (rm12 l Z aZ hw [] b935 (3:Int32) e3_940 (own_v1246 w0_5 w0_9 w0_2) T1195.heap n0 Z1243 G1232 G1247 hf1335) hZ (own_h hw 72 rfl) (own_h hw 2 rfl) (by decide) (by decide)) q1333a q1333c (g := (mkF m 500 #[iv p0, iv p1, rv b935, iv w0_2, iv (own_v1129 w0_2), iv w0_3, iv (f7 w0_2), iv w0_4, iv w0_5, iv w0_6, iv w0_7, iv w0_8, iv w0_9, iv (own_v1254 w0_5 w0_9 w0_2), iv w0_10, iv (f7 w0_9), iv w0_11, iv w0_12, iv w0_13, iv (1:Int32), iv w0_14, .unset] [(.int (3:Int32)), (.ref b935)])) rfl (by rw [hml]; rfl) (Steps.refl _) (argsL := [(.int (3:Int32))]) (rest := []) (lenOf own_pd3 rfl) rfl (by show 2 * 0 + _ ≤ _; exact Nat.le_of_eq rfl) (hb hby at_500) (fun _ _ => ⟨rfl, eh1331, (by decide : 8 + 0 ≤ _), (by decide : 37 + 0 ≤ _)⟩)
    dsimp only [Pt.U, Pt.locs, Pt.cells, Pt.slots] at X1333 l1333 y1333 z1333 st1333 hQ1333
    subst l1333 y1333 z1333
    obtain ⟨rfl, N1333q, eh1333⟩ := hQ1333
    have N1333 := Fr.app N1331 N1333q
    refine own_pre (fun _ k => st1333.trans k) ?_
    refine own_pre (A := T1333.setTop (mkF m 513 #[iv p0, iv p1, rv b935, iv w0_2, iv (own_v1129 w0_2), iv w0_3, iv (f7 w0_2), iv w0_4, iv w0_5, iv w0_6, iv w0_7, iv w0_8, iv w0_9, iv (own_v1254 w0_5 w0_9 w0_2), iv w0_10, iv (f7 w0_9), iv w0_11, iv w0_12, iv w0_13, iv (1:Int32), iv w0_14, .unset] [(.int w0_4), (.int w0_10), (.int w0_9), (.int w0_3), (.int w0_2), (.int (3:Int32)), (.int (own_v1314 w0_5 w0_9 w0_2))])) (fun t k => ?_) ?_
    · show Steps p.tables e below (T1333.setTop (mkF m 503 #[iv p0, iv p1, rv b935, iv w0_2, iv (own_v1129 w0_2), iv w0_3, iv (f7 w0_2), iv w0_4, iv w0_5, iv w0_6, iv w0_7, iv w0_8, iv w0_9, iv (own_v1254 w0_5 w0_9 w0_2), iv w0_10, iv (f7 w0_9), iv w0_11, iv w0_12, iv w0_13, iv (1:Int32), iv w0_14, .unset] [(.int (own_v1314 w0_5 w0_9 w0_2))])) _
      refine XS.iconst X1333.here hx rfl (hb hby at_503) ?_
      show Steps p.tables e below (T1333.setTop (mkF m 504 #[iv p0, iv p1, rv b935, iv w0_2, iv (own_v1129 w0_2), iv w0_3, iv (f7 w0_2), iv w0_4, iv w0_5, iv w0_6, iv w0_7, iv w0_8, iv w0_9, iv (own_v1254 w0_5 w0_9 w0_2), iv w0_10, iv (f7 w0_9), iv w0_11, iv w0_12, iv w0_13, iv (1:Int32), iv w0_14, .unset] [(.int (3:Int32)), (.int (own_v1314 w0_5 w0_9 w0_2))])) _
      refine XS.iloadN X1333.here hx rfl (hb hby at_504) rfl ?_
      show Steps p.tables e below (T1333.setTop (mkF m 505 #[iv p0, iv p1, rv b935, iv w0_2, iv (own_v1129 w0_2), iv w0_3, iv (f7 w0_2), iv w0_4, iv w0_5, iv w0_6, iv w0_7, iv w0_8, iv w0_9, iv (own_v1254 w0_5 w0_9 w0_2), iv w0_10, iv (f7 w0_9), iv w0_11, iv w0_12, iv w0_13, iv (1:Int32), iv w0_14, .unset] [(.int w0_2), (.int (3:Int32)), (.int (own_v1314 w0_5 w0_9 w0_2))])) _
      refine XS.iload X1333.here hx rfl (hb hby at_505) rfl ?_
      show Steps p.tables e below (T1333.setTop (mkF m 507 #[iv p0, iv p1, rv b935, iv w0_2, iv (own_v1129 w0_2), iv w0_3, iv (f7 w0_2), iv w0_4, iv w0_5, iv w0_6, iv w0_7, iv w0_8, iv w0_9, iv (own_v1254 w0_5 w0_9 w0_2), iv w0_10, iv (f7 w0_9), iv w0_11, iv w0_12, iv w0_13, iv (1:Int32), iv w0_14, .unset] [(.int w0_3), (.int w0_2), (.int (3:Int32)), (.int (own_v1314 w0_5 w0_9 w0_2))])) _
      refine XS.iload X1333.here hx rfl (hb hby at_507) rfl ?_
      show Steps p.tables e below (T1333.setTop (mkF m 509 #[iv p0, iv p1, rv b935, iv w0_2, iv (own_v1129 w0_2), iv w0_3, iv (f7 w0_2), iv w0_4, iv w0_5, iv w0_6, iv w0_7, iv w0_8, iv w0_9, iv (own_v1254 w0_5 w0_9 w0_2), iv w0_10, iv (f7 w0_9), iv w0_11, iv w0_12, iv w0_13, iv (1:Int32), iv w0_14, .unset] [(.int w0_9), (.int w0_3), (.int w0_2), (.int (3:Int32)), (.int (own_v1314 w0_5 w0_9 w0_2))])) _
      refine XS.iload X1333.here hx rfl (hb hby at_509) rfl ?_
      show Steps p.tables e below (T1333.setTop (mkF m 511 #[iv p0, iv p1, rv b935, iv w0_2, iv (own_v1129 w0_2), iv w0_3, iv (f7 w0_2), iv w0_4, iv w0_5, iv w0_6, iv w0_7, iv w0_8, iv w0_9, iv (own_v1254 w0_5 w0_9 w0_2), iv w0_10, iv (f7 w0_9), iv w0_11, iv w0_12, iv w0_13, iv (1:Int32), iv w0_14, .unset] [(.int w0_10), (.int w0_9), (.int w0_3), (.int w0_2), (.int (3:Int32)), (.int (own_v1314 w0_5 w0_9 w0_2))])) _
      refine XS.iload X1333.here hx rfl (hb hby at_511) rfl ?_
      exact k
    obtain ⟨_, _, ⟨T1336, L1336, k1336, n1336⟩, -, X1336, ⟨Lc1336, hQ1336, l1336, y1336, z1336⟩, st1336⟩ := Jvm.LawKit.callS X1333 hx (y := (⟨"com/example/spare_calculus/sparecalculus/bisim/PartitionSplitOffMarkedPinLaw", "expBlock", "(IIZIZI)I"⟩ : MethodName)) hown (mvT hZ (own_h hw 73 rfl)) (mvT hZ (own_h hw 74 rfl)) (mvT hZ (own_h hw 28 rfl)) (mvT hZ (own_h hw 75 rfl)) (by decide) (backOf (W := 1) (rm13 l Z aZ hw [] (3:Int32) w0_2 w0_3 w0_9 w0_10 w0_4 T1195.heap n0 Z1243 ) hZ (own_h hw 75 rfl) (own_h hw 28 rfl) (by decide) (by decide)) (g := (mkF m 513 #[iv p0, iv p1, rv b935, iv w0_2, iv (own_v1129 w0_2), iv w0_3, iv (f7 w0_2), iv w0_4, iv w0_5, iv w0_6, iv w0_7, iv w0_8, iv w0_9, iv (own_v1254 w0_5 w0_9 w0_2), iv w0_10, iv (f7 w0_9), iv w0_11, iv w0_12, iv w0_13, iv (1:Int32), iv w0_14, .unset] [(.int w0_4), (.int w0_10), (.int w0_9), (.int w0_3), (.int w0_2), (.int (3:Int32)), (.int (own_v1314 w0_5 w0_9 w0_2))])) rfl (by rw [hml]; rfl) (argsL := [(.int (3:Int32)), (.int w0_2), (.int w0_3), (.int w0_9), (.int w0_10), (.int w0_4)]) (rest := [(.int (own_v1314 w0_5 w0_9 w0_2))]) (lenOf own_pd5 rfl) rfl (by show 2 * 0 + _ ≤ _; exact Nat.le_of_eq rfl) (hb hby at_513) (fun _ _ => ⟨rfl, eh1333, (by decide : 8 + 0 ≤ _), (by decide : 37 + 0 ≤ _)⟩)
    dsimp only [Pt.U, Pt.locs, Pt.cells, Pt.slots] at X1336 l1336 y1336 z1336 st1336 hQ1336
    subst l1336 y1336 z1336
    obtain ⟨rfl, N1336q, eh1336⟩ := hQ1336
    have N1336 := Fr.app N1333 N1336q
    refine own_pre st1336 ?_
    have hd516_35 : (own_v1314 w0_5 w0_9 w0_2) = (own_v1316 w0_2 w0_3 w0_9 w0_10 w0_4) := (by subst hw0_1 hw0_3 hw0_4 hw0_6 hw0_7 hw0_8 hw0_10 hw0_11 hw0_12 hw0_13 hw0_14; exact own_fin1337 w0_2 hm1 w0_5 hmb.1 w0_9 hm2.1 hmb.2 hm2.2 hs339_24)
    refine own_pre (A := T1336.setTop (mkF m 528 #[iv p0, iv p1, rv b935, iv w0_2, iv (own_v1129 w0_2), iv w0_3, iv (f7 w0_2), iv w0_4, iv w0_5, iv w0_6, iv w0_7, iv w0_8, iv w0_9, iv (own_v1254 w0_5 w0_9 w0_2), iv w0_10, iv (f7 w0_9), iv w0_11, iv w0_12, iv w0_13, iv (1:Int32), iv w0_14, .unset] [(.int (1:Int32))])) (fun t k => ?_) ?_
    · show Steps p.tables e below (T1336.setTop (mkF m 516 #[iv p0, iv p1, rv b935, iv w0_2, iv (own_v1129 w0_2), iv w0_3, iv (f7 w0_2), iv w0_4, iv w0_5, iv w0_6, iv w0_7, iv w0_8, iv w0_9, iv (own_v1254 w0_5 w0_9 w0_2), iv w0_10, iv (f7 w0_9), iv w0_11, iv w0_12, iv w0_13, iv (1:Int32), iv w0_14, .unset] [(.int (own_v1316 w0_2 w0_3 w0_9 w0_10 w0_4)), (.int (own_v1314 w0_5 w0_9 w0_2))])) _
      refine XS.icmpNo X1336.here hx rfl (hb hby at_516) rfl (XT.ii_ne_f hd516_35) ?_
      show Steps p.tables e below (T1336.setTop (mkF m 519 #[iv p0, iv p1, rv b935, iv w0_2, iv (own_v1129 w0_2), iv w0_3, iv (f7 w0_2), iv w0_4, iv w0_5, iv w0_6, iv w0_7, iv w0_8, iv w0_9, iv (own_v1254 w0_5 w0_9 w0_2), iv w0_10, iv (f7 w0_9), iv w0_11, iv w0_12, iv w0_13, iv (1:Int32), iv w0_14, .unset] [])) _
      refine XS.iconst X1336.here hx rfl (hb hby at_519) ?_
      show Steps p.tables e below (T1336.setTop (mkF m 520 #[iv p0, iv p1, rv b935, iv w0_2, iv (own_v1129 w0_2), iv w0_3, iv (f7 w0_2), iv w0_4, iv w0_5, iv w0_6, iv w0_7, iv w0_8, iv w0_9, iv (own_v1254 w0_5 w0_9 w0_2), iv w0_10, iv (f7 w0_9), iv w0_11, iv w0_12, iv w0_13, iv (1:Int32), iv w0_14, .unset] [(.int (1:Int32))])) _
      refine XS.goto X1336.here hx rfl (pc0 := 520) (pc' := 524) rfl (hb hby at_520) (by decide) (by decide) ?_
      show Steps p.tables e below (T1336.setTop (mkF m 524 #[iv p0, iv p1, rv b935, iv w0_2, iv (own_v1129 w0_2), iv w0_3, iv (f7 w0_2), iv w0_4, iv w0_5, iv w0_6, iv w0_7, iv w0_8, iv w0_9, iv (own_v1254 w0_5 w0_9 w0_2), iv w0_10, iv (f7 w0_9), iv w0_11, iv w0_12, iv w0_13, iv (1:Int32), iv w0_14, .unset] [(.int (1:Int32))])) _
      refine XS.istore X1336.here hx rfl (hb hby at_524) rfl (l' := #[iv p0, iv p1, rv b935, iv w0_2, iv (own_v1129 w0_2), iv w0_3, iv (f7 w0_2), iv w0_4, iv w0_5, iv w0_6, iv w0_7, iv w0_8, iv w0_9, iv (own_v1254 w0_5 w0_9 w0_2), iv w0_10, iv (f7 w0_9), iv w0_11, iv w0_12, iv w0_13, iv (1:Int32), iv w0_14, .unset]) rfl ?_
      show Steps p.tables e below (T1336.setTop (mkF m 526 #[iv p0, iv p1, rv b935, iv w0_2, iv (own_v1129 w0_2), iv w0_3, iv (f7 w0_2), iv w0_4, iv w0_5, iv w0_6, iv w0_7, iv w0_8, iv w0_9, iv (own_v1254 w0_5 w0_9 w0_2), iv w0_10, iv (f7 w0_9), iv w0_11, iv w0_12, iv w0_13, iv (1:Int32), iv w0_14, .unset] [])) _
      refine XS.iload X1336.here hx rfl (hb hby at_526) rfl ?_
      exact k
    exact own_end X1336 (BodyLoose.notSynchronized Bd) (fun h => by rw [Bd.returns] at h; cases h) (v := some (.int (1:Int32))) (fun fs hr => retN X1336 hx (t := .boolean) Bd.returns (by simp) (hb hby at_528) hr) (by show Q0 Z p0 p1 h0 n0 _ T1336.heap _; rw [eh1336]; exact ⟨rfl, N1336⟩) (by decide) (by decide)
set_option maxRecDepth 65536 in
set_option maxHeartbeats 40000000 in
theorem comes_1 {Post : Tables → Env → Array Value → State → Outcome → State → Prop} (hpost : ∀ tb e args s v u, (limb_1_1.after args s (.returned v) u = true ∧ limb_1_2.after args s (.returned v) u = true ∧ True) → FrameEnd s (.returned v) u (Jvm.fieldLocs frame_1_writes args s ++ Jvm.arrayLocs frame_1_arrays args s ++ Jvm.staticLocs frame_1_statics s) 24 192 → Post tb e args s (.returned v) u) :
    ArmFor flags0 classFile x code maxLocals ret World_1 tables_1 room_1 Calls_1 rest_1 Pre_1 Post := by
  intro l hfl _ _ p e ha hc hk s m args below hf hA hF happ hP
  obtain ⟨hcalls, hrest, hpre⟩ := hP
  obtain ⟨-, -, -, hnamed, -, -, -, hat⟩ := (Spec.applies_iff hf).mp happ
  obtain ⟨hg, hn⟩ := and_e (Cond.before_iff.mp (show (Jvm.Cond.and given_1 narrow_1).before args s = true from hpre))
  obtain ⟨g2, g3⟩ := and_e hg
  obtain ⟨g4, g5⟩ := and_e g3
  obtain ⟨w0, w1, rfl⟩ : ∃ w0 w1 : Value, args = #[w0, w1] := by
    have hs : args.size = 2 := by simpa [Cond.value, given_1] using g2
    obtain ⟨L⟩ := args
    match L, hs with
    | [w0, w1], _ => exact ⟨w0, w1, rfl⟩
  have hw := fun d (hd : d ∈ tables_1) => atoms_spec (ws := Jvm.Cond.code x code maxLocals ret :: tables_1) hat d (List.mem_cons_of_mem _ hd)
  obtain ⟨i0, ei0⟩ := is_v g4
  obtain rfl : w0 = (.int i0) := Option.some.inj ei0
  obtain ⟨i1, ei1⟩ := is_v g5
  obtain rfl : w1 = (.int i1) := Option.some.inj ei1
  obtain ⟨n, o, h1, h2, h3, _, L, rfl, ⟨hv, N⟩, hq⟩ := rm0 l s _ hw tables_1 i0 i1 s.heap s.heap.size (Nat.le_refl _)  p e ha hc hk s m _ below hf ((Spec.applies_iff_loose hf).mp happ).1 ⟨rfl, State.Warmed39.refl s, rfl⟩ trivial
  subst hv
  refine ⟨n, _, h1, h2, h3, hpost _ _ _ _ _ _ ⟨Cond.after_iff.mpr rfl, Cond.after_iff.mpr (eq_i res_at (Term.int_eval (1)) rfl), trivial⟩ ⟨hq.1, hq.2.1, (hq.2.2.sift fun y hy => Or.inr (N y hy)).mono (by decide) (by decide)⟩⟩
theorem main_1_1 : Claimed_1_1 := comes_1 fun _ _ _ _ _ _ h hF => ⟨h.1, hF⟩
theorem main_1_2 : Claimed_1_2 := comes_1 fun _ _ _ _ _ _ h hF => ⟨h.2.1, hF⟩
end Jvm.Pilot.@@N@@
namespace Jvm.Pilot.@@N@@
open Jvm Jvm.ClassFile Sem Op Lib Jvm.Free Jvm.Stand Jvm.Pilot.@@N@@.Jvm.D
/-! MADE BY PROGRAM (witnessworld.py) out of the Statement's table words and the real class files: 9 classes; the members and pool entries that the words name. The judged class is class 1, her method 5. -/
namespace start1
open Jvm.ClassFile
def u (s : String) : CpInfo := .utf8 (stringToUtf16 s)
/-- a pool by its gaps: so many unusable entries, then the entry; so many at the end -/
def gap : Nat → List CpInfo → List CpInfo
  | 0, r => r
  | n + 1, r => .unusable :: gap n r
def poolList (es : List (Nat × CpInfo)) (last : Nat) : List CpInfo := es.foldr (fun e r => gap e.1 (e.2 :: r)) (gap last [])
def pool (es : List (Nat × CpInfo)) (last : Nat) : Array CpInfo := ⟨poolList es last⟩
def fileOf (pool : Array CpInfo) (this : Nat) (attrs : Array Attribute := #[]) (ms : Array MethodInfo := #[]) (fl : Nat := 33) (sup : Nat := 0) (ifs : Array Nat := #[]) (fds : Array FieldInfo := #[]) : ClassFile where
  minorVersion := 0
  majorVersion := 65
  constantPool := pool
  accessFlags := fl
  thisClass := this
  superClass := sup
  interfaces := ifs
  fields := fds
  methods := ms
  attributes := attrs
def plain (name : String) (sup : Option ClassId) : Class where
  name := name
  kind := .ordinary
  loader := none
  accessFlags := 33
  super := sup
  interfaces := #[]
  cf := none
  fields := #[]
  methods := #[]
  instanceTypes := #[]
  staticTypes := #[]
  resolved := #[]
  callSites := []
  init := .initialized
  statics := none
  mirror := none

def pool0 : Array CpInfo := pool [(5, u "<init>"), (0, u "()V"), (1, .class_ 10), (1, u "java/lang/Object")] 113

def k0c0 : Code := { maxStack := 0, maxLocals := 1, code := object_method_1_code, exceptionTable := #[], attributes := #[] }
def k0m0 : Method := { name := "<init>", desc := "()V", sig := { parameters := [], returnType := none }, accessFlags := 1, code := some k0c0 }
/-- java/lang/Object -/
def k0 : Class := { plain "java/lang/Object" none with
  accessFlags := 33
  interfaces := #[]
  cf := some (fileOf pool0 8 #[] #[{ accessFlags := 1, nameIndex := 5, descriptorIndex := 6, attributes := #[] }] 33 0 #[] #[])
  fields := #[]
  methods := #[k0m0]
  instanceTypes := #[]
  staticTypes := #[]
  resolved := Array.replicate 124 none
  statics := none }

def pool1 : Array CpInfo := pool [(2, .class_ 4), (1, u "java/lang/Object"), (0, u "<init>"), (0, u "()V"), (0, .methodref 8 9), (0, .class_ 10), (0, .nameAndType 11 12), (0, u "com/example/spare_calculus/sparecalculus/bisim/PartitionSplitOffMarkedPinLaw"), (0, u "bit"), (0, u "(II)Z"), (0, .methodref 14 15), (0, .class_ 16), (0, .nameAndType 17 18), (0, u "com/example/spare_calculus/sparecalculus/bisim/Partition"), (0, u "mark"), (0, u "(I)V"), (0, .methodref 14 20), (0, .nameAndType 5 18), (0, .methodref 8 22), (0, .nameAndType 23 24), (0, u "markAll"), (0, u "(Lcom/example/spare_calculus/sparecalculus/bisim/Partition;I)V"), (0, .methodref 14 26), (0, .nameAndType 27 28), (0, u "splitOffMarked"), (0, u "(I)I"), (0, .methodref 8 30), (0, .nameAndType 31 28), (0, u "pop"), (0, .methodref 14 33), (0, .nameAndType 34 35), (0, u "blockCount"), (0, u "()I"), (0, .methodref 14 37), (0, .nameAndType 38 28), (0, u "start"), (0, .methodref 14 40), (0, .nameAndType 41 28), (0, u "end"), (0, .methodref 14 43), (0, .nameAndType 44 28), (0, u "markedEnd"), (0, .methodref 14 46), (0, .nameAndType 47 28), (0, u "blockOf"), (0, .methodref 8 49), (0, .nameAndType 50 51), (0, u "expBlock"), (0, u "(IIZIZI)I"), (3, u "law")] 2

def k1m0 : Method := { name := "<init>", desc := "()V", sig := { parameters := [], returnType := none }, accessFlags := 1, code := none }
def k1c1 : Code := { maxStack := 2, maxLocals := 2, code := method_2_code, exceptionTable := #[], attributes := #[] }
def k1m1 : Method := { name := "bit", desc := "(II)Z", sig := { parameters := [.int, .int], returnType := some .boolean }, accessFlags := 10, code := some k1c1 }
def k1c2 : Code := { maxStack := 3, maxLocals := 1, code := method_3_code, exceptionTable := #[], attributes := #[] }
def k1m2 : Method := { name := "pop", desc := "(I)I", sig := { parameters := [.int], returnType := some .int }, accessFlags := 10, code := some k1c2 }
def k1c3 : Code := { maxStack := 2, maxLocals := 2, code := method_4_code, exceptionTable := #[], attributes := #[] }
def k1m3 : Method := { name := "markAll", desc := "(Lcom/example/spare_calculus/sparecalculus/bisim/Partition;I)V", sig := { parameters := [(.object "com/example/spare_calculus/sparecalculus/bisim/Partition"), .int], returnType := none }, accessFlags := 10, code := some k1c3 }
def k1c4 : Code := { maxStack := 2, maxLocals := 6, code := method_5_code, exceptionTable := #[], attributes := #[] }
def k1m4 : Method := { name := "expBlock", desc := "(IIZIZI)I", sig := { parameters := [.int, .int, .boolean, .int, .boolean, .int], returnType := some .int }, accessFlags := 10, code := some k1c4 }
def k1c5 : Code := { maxStack := 7, maxLocals := 22, code := code, exceptionTable := #[], attributes := #[] }
def k1m5 : Method := { name := "law", desc := "(II)Z", sig := { parameters := [.int, .int], returnType := some .boolean }, accessFlags := 9, code := some k1c5 }
/-- com/example/spare_calculus/sparecalculus/bisim/PartitionSplitOffMarkedPinLaw -/
def k1 : Class := { plain "com/example/spare_calculus/sparecalculus/bisim/PartitionSplitOffMarkedPinLaw" (some 0) with
  accessFlags := 49
  interfaces := #[]
  cf := some (fileOf pool1 8 #[] #[{ accessFlags := 1, nameIndex := 5, descriptorIndex := 6, attributes := #[] }, { accessFlags := 10, nameIndex := 11, descriptorIndex := 12, attributes := #[] }, { accessFlags := 10, nameIndex := 31, descriptorIndex := 28, attributes := #[] }, { accessFlags := 10, nameIndex := 23, descriptorIndex := 24, attributes := #[] }, { accessFlags := 10, nameIndex := 50, descriptorIndex := 51, attributes := #[] }, { accessFlags := 9, nameIndex := 55, descriptorIndex := 12, attributes := #[] }] 49 2 #[] #[])
  fields := #[]
  methods := #[k1m0, k1m1, k1m2, k1m3, k1m4, k1m5]
  instanceTypes := #[]
  staticTypes := #[]
  resolved := Array.replicate 58 none
  statics := none }

def pool2 : Array CpInfo := pool [(1, .methodref 2 3), (0, .class_ 4), (0, .nameAndType 5 6), (0, u "java/lang/Object"), (0, u "<init>"), (0, u "()V"), (0, .fieldref 8 9), (0, .class_ 10), (0, .nameAndType 11 12), (0, u "com/example/spare_calculus/sparecalculus/bisim/Partition"), (0, u "elements"), (0, u "[I"), (0, .fieldref 8 14), (0, .nameAndType 15 12), (0, u "positions"), (0, .fieldref 8 17), (0, .nameAndType 18 12), (0, u "blockOf"), (0, .fieldref 8 20), (0, .nameAndType 21 12), (0, u "blockStart"), (0, .fieldref 8 23), (0, .nameAndType 24 12), (0, u "blockEnd"), (0, .fieldref 8 26), (0, .nameAndType 27 12), (0, u "blockMarkedEnd"), (0, .fieldref 8 29), (0, .nameAndType 30 12), (0, u "touchedBlocks"), (0, .fieldref 8 32), (0, .nameAndType 33 34), (0, u "blockCount"), (0, u "I"), (0, .fieldref 8 36), (0, .nameAndType 37 34), (0, u "touchedBlockCount"), (12, u "NONE"), (2, u "(I)V"), (3, u "()I"), (0, u "(I)I"), (0, u "start"), (0, u "end"), (2, u "markedEnd"), (2, u "mark"), (2, u "splitOffMarked")] 8

def k2c0 : Code := { maxStack := 3, maxLocals := 3, code := prog_16_method_1_code, exceptionTable := #[], attributes := #[] }
def k2m0 : Method := { name := "<init>", desc := "(I)V", sig := { parameters := [.int], returnType := none }, accessFlags := 0, code := some k2c0 }
def k2c1 : Code := { maxStack := 1, maxLocals := 1, code := prog_16_method_2_code, exceptionTable := #[], attributes := #[] }
def k2m1 : Method := { name := "blockCount", desc := "()I", sig := { parameters := [], returnType := some .int }, accessFlags := 0, code := some k2c1 }
def k2c2 : Code := { maxStack := 2, maxLocals := 2, code := prog_16_method_3_code, exceptionTable := #[], attributes := #[] }
def k2m2 : Method := { name := "blockOf", desc := "(I)I", sig := { parameters := [.int], returnType := some .int }, accessFlags := 0, code := some k2c2 }
def k2c3 : Code := { maxStack := 2, maxLocals := 2, code := prog_16_method_4_code, exceptionTable := #[], attributes := #[] }
def k2m3 : Method := { name := "start", desc := "(I)I", sig := { parameters := [.int], returnType := some .int }, accessFlags := 0, code := some k2c3 }
def k2c4 : Code := { maxStack := 2, maxLocals := 2, code := prog_16_method_5_code, exceptionTable := #[], attributes := #[] }
def k2m4 : Method := { name := "end", desc := "(I)I", sig := { parameters := [.int], returnType := some .int }, accessFlags := 0, code := some k2c4 }
def k2c5 : Code := { maxStack := 2, maxLocals := 2, code := prog_16_method_8_code, exceptionTable := #[], attributes := #[] }
def k2m5 : Method := { name := "markedEnd", desc := "(I)I", sig := { parameters := [.int], returnType := some .int }, accessFlags := 0, code := some k2c5 }
def k2c6 : Code := { maxStack := 4, maxLocals := 6, code := prog_16_method_10_code, exceptionTable := #[], attributes := #[] }
def k2m6 : Method := { name := "mark", desc := "(I)V", sig := { parameters := [.int], returnType := none }, accessFlags := 0, code := some k2c6 }
def k2c7 : Code := { maxStack := 4, maxLocals := 6, code := prog_16_method_13_code, exceptionTable := #[], attributes := #[] }
def k2m7 : Method := { name := "splitOffMarked", desc := "(I)I", sig := { parameters := [.int], returnType := some .int }, accessFlags := 0, code := some k2c7 }
/-- com/example/spare_calculus/sparecalculus/bisim/Partition -/
def k2 : Class := { plain "com/example/spare_calculus/sparecalculus/bisim/Partition" (some 0) with
  accessFlags := 32
  interfaces := #[]
  cf := some (fileOf pool2 8 #[] #[{ accessFlags := 0, nameIndex := 5, descriptorIndex := 53, attributes := #[] }, { accessFlags := 0, nameIndex := 33, descriptorIndex := 57, attributes := #[] }, { accessFlags := 0, nameIndex := 18, descriptorIndex := 58, attributes := #[] }, { accessFlags := 0, nameIndex := 59, descriptorIndex := 58, attributes := #[] }, { accessFlags := 0, nameIndex := 60, descriptorIndex := 58, attributes := #[] }, { accessFlags := 0, nameIndex := 63, descriptorIndex := 58, attributes := #[] }, { accessFlags := 0, nameIndex := 66, descriptorIndex := 53, attributes := #[] }, { accessFlags := 0, nameIndex := 69, descriptorIndex := 58, attributes := #[] }] 32 2 #[] #[{ accessFlags := 24, nameIndex := 50, descriptorIndex := 34, attributes := #[] }, { accessFlags := 18, nameIndex := 11, descriptorIndex := 12, attributes := #[] }, { accessFlags := 18, nameIndex := 15, descriptorIndex := 12, attributes := #[] }, { accessFlags := 18, nameIndex := 18, descriptorIndex := 12, attributes := #[] }, { accessFlags := 18, nameIndex := 21, descriptorIndex := 12, attributes := #[] }, { accessFlags := 18, nameIndex := 24, descriptorIndex := 12, attributes := #[] }, { accessFlags := 18, nameIndex := 27, descriptorIndex := 12, attributes := #[] }, { accessFlags := 2, nameIndex := 33, descriptorIndex := 34, attributes := #[] }, { accessFlags := 18, nameIndex := 30, descriptorIndex := 12, attributes := #[] }, { accessFlags := 2, nameIndex := 37, descriptorIndex := 34, attributes := #[] }])
  fields := #[{ name := "NONE", type := .int, accessFlags := 24, slot := 0, constantValue := 0 }, { name := "elements", type := (.array .int), accessFlags := 18, slot := 0, constantValue := 0 }, { name := "positions", type := (.array .int), accessFlags := 18, slot := 1, constantValue := 0 }, { name := "blockOf", type := (.array .int), accessFlags := 18, slot := 2, constantValue := 0 }, { name := "blockStart", type := (.array .int), accessFlags := 18, slot := 3, constantValue := 0 }, { name := "blockEnd", type := (.array .int), accessFlags := 18, slot := 4, constantValue := 0 }, { name := "blockMarkedEnd", type := (.array .int), accessFlags := 18, slot := 5, constantValue := 0 }, { name := "blockCount", type := .int, accessFlags := 2, slot := 6, constantValue := 0 }, { name := "touchedBlocks", type := (.array .int), accessFlags := 18, slot := 7, constantValue := 0 }, { name := "touchedBlockCount", type := .int, accessFlags := 2, slot := 8, constantValue := 0 }]
  methods := #[k2m0, k2m1, k2m2, k2m3, k2m4, k2m5, k2m6, k2m7]
  instanceTypes := #[(.array .int), (.array .int), (.array .int), (.array .int), (.array .int), (.array .int), .int, (.array .int), .int]
  staticTypes := #[.int]
  resolved := Array.replicate 78 none
  statics := none }

def pool3 : Array CpInfo := pool [(1, u "java/lang/Cloneable"), (0, .class_ 1), (0, u "java/lang/Object"), (0, .class_ 3)] 3

/-- java/lang/Cloneable -/
def k3 : Class := { plain "java/lang/Cloneable" (some 0) with
  accessFlags := 1537
  interfaces := #[]
  cf := some (fileOf pool3 2 #[] #[] 1537 4 #[] #[])
  fields := #[]
  methods := #[]
  instanceTypes := #[]
  staticTypes := #[]
  resolved := Array.replicate 8 none
  statics := none }

def pool4 : Array CpInfo := pool [(1, u "java/io/Serializable"), (0, .class_ 1), (0, u "java/lang/Object"), (0, .class_ 3)] 3

/-- java/io/Serializable -/
def k4 : Class := { plain "java/io/Serializable" (some 0) with
  accessFlags := 1537
  interfaces := #[]
  cf := some (fileOf pool4 2 #[] #[] 1537 4 #[] #[])
  fields := #[]
  methods := #[]
  instanceTypes := #[]
  staticTypes := #[]
  resolved := Array.replicate 8 none
  statics := none }

/-- the primitive byte -/
def k5 : Class := { plain "byte" none with kind := .primitive 'B', accessFlags := 0x411 }
/-- [B -/
def k6 : Class := { plain "[B" (some 0) with kind := .array 5 .byte, interfaces := #[3, 4], accessFlags := 1041 }

/-- the primitive int -/
def k7 : Class := { plain "int" none with kind := .primitive 'I', accessFlags := 0x411 }
/-- [I -/
def k8 : Class := { plain "[I" (some 0) with kind := .array 7 .int, interfaces := #[3, 4], accessFlags := 1041 }

def heap : Heap := #[]
def classes : Array Class := #[k0, k1, k2, k3, k4, k5, k6, k7, k8]
def interned : List (Array UInt16 × Addr) := []
def slotsUsed : Nat := 0
def theMethod : MethodId := ⟨1, 5⟩
def args0 : Array Value := #[.int 5, .int 5]
def aboutOver (below : List Frame) : State where
  vm := { classes := classes, interned := interned.toArray }
  heap := heap
  slotsUsed := slotsUsed
  threads := #[{ frames := .invoking theMethod args0 :: below }]
def below0 : List Frame := [.native { method := ⟨0, 0⟩, args := #[] }]
def about1 : State := aboutOver below0
def p0 : Program := .bare "" "" ""
def e0 : Env := launch0.env 0 0 0
theorem w_frames : about1.frames = Frame.invoking theMethod args0 :: below0 := rfl
set_option maxRecDepth 65536 in
theorem w_args : argsFit about1.vm theMethod args0 = true := by decide +kernel
set_option maxRecDepth 65536 in
theorem w_heap : heapFits about1 = true := by decide +kernel
set_option maxRecDepth 65536 in
theorem w_runnable : about1.curStatus? = some .runnable := by decide +kernel
set_option maxRecDepth 65536 in
theorem w_alone : about1.alone = true := by decide +kernel
set_option maxRecDepth 65536 in
theorem w_named : about1.methodNamed? x = some theMethod := by decide +kernel
set_option maxRecDepth 65536 in
theorem w_hears : about1.hears theMethod below0 = true := by decide +kernel
set_option maxRecDepth 65536 in
theorem w_ripe : about1.ripe theMethod args0 below0 = true := by decide +kernel
theorem w_running : about1.status = .running := rfl
set_option maxRecDepth 65536 in
theorem w_room : about1.hasRoom e0.platform room_1 = true :=
  launch0.hasRoom_least _ room_1 (by decide +kernel) (by decide +kernel) (by decide +kernel) (by decide +kernel) (by decide +kernel) (by decide +kernel)
theorem allAtoms_all (ts : List Jvm.Cond) (a : Array Jvm.Value) (st : Jvm.State) : (allAtoms ts).before a st = ts.all (fun c => c.before a st) := by
  induction ts with
  | nil => rfl
  | cons c t ih =>
    show (Jvm.Cond.and c (allAtoms t)).before a st = _
    rw [Jvm.Cond.before_and, ih, List.all_cons]
def words1 : List Jvm.Cond := Jvm.Cond.code x code maxLocals ret :: tables_1
/-- a 'code' word, met by the world's own term for the bytes: nothing is compared byte by byte -/
theorem code_word {y : MethodName} {bytes : ByteArray} {mx : Nat} {rt : Option FieldType} {a : Array Value} {s : State} {m : MethodId} {meth : Method} {c : Code} (h1 : s.methodNamed? y = some m) (h2 : s.vm.method? m = some meth) (h3 : meth.code = some c) (h4 : c.code = bytes)
    (h5 : (c.maxLocals == mx && c.exceptionTable.isEmpty && decide (c.maxStack ≤ mostOperands) && decide (meth.sig.returnType = rt) && !meth.locks && decide (parseMethodDescriptor y.desc = some meth.sig)) = true) : (Jvm.Cond.code y bytes mx rt).before a s = true := by
  simp only [Bool.and_eq_true, beq_iff_eq, Bool.not_eq_true', decide_eq_true_eq] at h5
  obtain ⟨⟨⟨⟨⟨g1, g2⟩, g3⟩, g4⟩, g5⟩, g6⟩ := h5
  simp [Cond.before, Cond.holds, Cond.value, h1, h2, h3, h4, g1, g2, g3, g4, g5, g6]
def isCode : Jvm.Cond → Bool
  | .code _ _ _ _ => true
  | _ => false
theorem all_split {L : List Jvm.Cond} {P : Jvm.Cond → Bool} (h1 : L.all (fun c => isCode c || P c) = true) (h2 : ∀ c ∈ L.filter isCode, P c = true) : L.all P = true := by
  refine List.all_eq_true.mpr fun c hc => ?_
  have h := List.all_eq_true.mp h1 c hc
  rcases Bool.eq_false_or_eq_true (isCode c) with hi | hi
  · exact h2 c (List.mem_filter.mpr ⟨hc, hi⟩)
  · simpa [hi] using h
set_option maxRecDepth 65536 in
theorem w_c0 : (Jvm.Cond.code x code maxLocals ret).before args0 about1 = true := code_word (m := ⟨1, 5⟩) (meth := k1m5) (c := k1c5) (by decide +kernel) rfl rfl rfl (by decide +kernel)
set_option maxRecDepth 65536 in
theorem w_c1 : (Jvm.Cond.code ({ cls := "com/example/spare_calculus/sparecalculus/bisim/Partition", name := "<init>", desc := "(I)V" } : Jvm.MethodName) prog_16_method_1_code (3 : Nat) (Option.none : Option Jvm.ClassFile.FieldType)).before args0 about1 = true := code_word (m := ⟨2, 0⟩) (meth := k2m0) (c := k2c0) (by decide +kernel) rfl rfl rfl (by decide +kernel)
set_option maxRecDepth 65536 in
theorem w_c2 : (Jvm.Cond.code ({ cls := "java/lang/Object", name := "<init>", desc := "()V" } : Jvm.MethodName) object_method_1_code (1 : Nat) (Option.none : Option Jvm.ClassFile.FieldType)).before args0 about1 = true := code_word (m := ⟨0, 0⟩) (meth := k0m0) (c := k0c0) (by decide +kernel) rfl rfl rfl (by decide +kernel)
set_option maxRecDepth 65536 in
theorem w_c3 : (Jvm.Cond.code ({ cls := "com/example/spare_calculus/sparecalculus/bisim/PartitionSplitOffMarkedPinLaw", name := "markAll", desc := "(Lcom/example/spare_calculus/sparecalculus/bisim/Partition;I)V" } : Jvm.MethodName) method_4_code (2 : Nat) (Option.none : Option Jvm.ClassFile.FieldType)).before args0 about1 = true := code_word (m := ⟨1, 3⟩) (meth := k1m3) (c := k1c3) (by decide +kernel) rfl rfl rfl (by decide +kernel)
set_option maxRecDepth 65536 in
theorem w_c4 : (Jvm.Cond.code ({ cls := "com/example/spare_calculus/sparecalculus/bisim/PartitionSplitOffMarkedPinLaw", name := "bit", desc := "(II)Z" } : Jvm.MethodName) method_2_code (2 : Nat) (Option.some Jvm.ClassFile.FieldType.boolean)).before args0 about1 = true := code_word (m := ⟨1, 1⟩) (meth := k1m1) (c := k1c1) (by decide +kernel) rfl rfl rfl (by decide +kernel)
set_option maxRecDepth 65536 in
theorem w_c5 : (Jvm.Cond.code ({ cls := "com/example/spare_calculus/sparecalculus/bisim/Partition", name := "mark", desc := "(I)V" } : Jvm.MethodName) prog_16_method_10_code (6 : Nat) (Option.none : Option Jvm.ClassFile.FieldType)).before args0 about1 = true := code_word (m := ⟨2, 6⟩) (meth := k2m6) (c := k2c6) (by decide +kernel) rfl rfl rfl (by decide +kernel)
set_option maxRecDepth 65536 in
theorem w_c6 : (Jvm.Cond.code ({ cls := "com/example/spare_calculus/sparecalculus/bisim/Partition", name := "splitOffMarked", desc := "(I)I" } : Jvm.MethodName) prog_16_method_13_code (6 : Nat) (Option.some Jvm.ClassFile.FieldType.int)).before args0 about1 = true := code_word (m := ⟨2, 7⟩) (meth := k2m7) (c := k2c7) (by decide +kernel) rfl rfl rfl (by decide +kernel)
set_option maxRecDepth 65536 in
theorem w_c7 : (Jvm.Cond.code ({ cls := "com/example/spare_calculus/sparecalculus/bisim/PartitionSplitOffMarkedPinLaw", name := "pop", desc := "(I)I" } : Jvm.MethodName) method_3_code (1 : Nat) (Option.some Jvm.ClassFile.FieldType.int)).before args0 about1 = true := code_word (m := ⟨1, 2⟩) (meth := k1m2) (c := k1c2) (by decide +kernel) rfl rfl rfl (by decide +kernel)
set_option maxRecDepth 65536 in
theorem w_c8 : (Jvm.Cond.code ({ cls := "com/example/spare_calculus/sparecalculus/bisim/Partition", name := "blockCount", desc := "()I" } : Jvm.MethodName) prog_16_method_2_code (1 : Nat) (Option.some Jvm.ClassFile.FieldType.int)).before args0 about1 = true := code_word (m := ⟨2, 1⟩) (meth := k2m1) (c := k2c1) (by decide +kernel) rfl rfl rfl (by decide +kernel)
set_option maxRecDepth 65536 in
theorem w_c9 : (Jvm.Cond.code ({ cls := "com/example/spare_calculus/sparecalculus/bisim/Partition", name := "start", desc := "(I)I" } : Jvm.MethodName) prog_16_method_4_code (2 : Nat) (Option.some Jvm.ClassFile.FieldType.int)).before args0 about1 = true := code_word (m := ⟨2, 3⟩) (meth := k2m3) (c := k2c3) (by decide +kernel) rfl rfl rfl (by decide +kernel)
set_option maxRecDepth 65536 in
theorem w_c10 : (Jvm.Cond.code ({ cls := "com/example/spare_calculus/sparecalculus/bisim/Partition", name := "end", desc := "(I)I" } : Jvm.MethodName) prog_16_method_5_code (2 : Nat) (Option.some Jvm.ClassFile.FieldType.int)).before args0 about1 = true := code_word (m := ⟨2, 4⟩) (meth := k2m4) (c := k2c4) (by decide +kernel) rfl rfl rfl (by decide +kernel)
set_option maxRecDepth 65536 in
theorem w_c11 : (Jvm.Cond.code ({ cls := "com/example/spare_calculus/sparecalculus/bisim/Partition", name := "markedEnd", desc := "(I)I" } : Jvm.MethodName) prog_16_method_8_code (2 : Nat) (Option.some Jvm.ClassFile.FieldType.int)).before args0 about1 = true := code_word (m := ⟨2, 5⟩) (meth := k2m5) (c := k2c5) (by decide +kernel) rfl rfl rfl (by decide +kernel)
set_option maxRecDepth 65536 in
theorem w_c12 : (Jvm.Cond.code ({ cls := "com/example/spare_calculus/sparecalculus/bisim/Partition", name := "blockOf", desc := "(I)I" } : Jvm.MethodName) prog_16_method_3_code (2 : Nat) (Option.some Jvm.ClassFile.FieldType.int)).before args0 about1 = true := code_word (m := ⟨2, 2⟩) (meth := k2m2) (c := k2c2) (by decide +kernel) rfl rfl rfl (by decide +kernel)
set_option maxRecDepth 65536 in
theorem w_c13 : (Jvm.Cond.code ({ cls := "com/example/spare_calculus/sparecalculus/bisim/PartitionSplitOffMarkedPinLaw", name := "expBlock", desc := "(IIZIZI)I" } : Jvm.MethodName) method_5_code (6 : Nat) (Option.some Jvm.ClassFile.FieldType.int)).before args0 about1 = true := code_word (m := ⟨1, 4⟩) (meth := k1m4) (c := k1c4) (by decide +kernel) rfl rfl rfl (by decide +kernel)
def codes1 : List Jvm.Cond := [Jvm.Cond.code x code maxLocals ret, Jvm.Cond.code ({ cls := "com/example/spare_calculus/sparecalculus/bisim/Partition", name := "<init>", desc := "(I)V" } : Jvm.MethodName) prog_16_method_1_code (3 : Nat) (Option.none : Option Jvm.ClassFile.FieldType), Jvm.Cond.code ({ cls := "java/lang/Object", name := "<init>", desc := "()V" } : Jvm.MethodName) object_method_1_code (1 : Nat) (Option.none : Option Jvm.ClassFile.FieldType), Jvm.Cond.code ({ cls := "com/example/spare_calculus/sparecalculus/bisim/PartitionSplitOffMarkedPinLaw", name := "markAll", desc := "(Lcom/example/spare_calculus/sparecalculus/bisim/Partition;I)V" } : Jvm.MethodName) method_4_code (2 : Nat) (Option.none : Option Jvm.ClassFile.FieldType), Jvm.Cond.code ({ cls := "com/example/spare_calculus/sparecalculus/bisim/PartitionSplitOffMarkedPinLaw", name := "bit", desc := "(II)Z" } : Jvm.MethodName) method_2_code (2 : Nat) (Option.some Jvm.ClassFile.FieldType.boolean), Jvm.Cond.code ({ cls := "com/example/spare_calculus/sparecalculus/bisim/Partition", name := "mark", desc := "(I)V" } : Jvm.MethodName) prog_16_method_10_code (6 : Nat) (Option.none : Option Jvm.ClassFile.FieldType), Jvm.Cond.code ({ cls := "com/example/spare_calculus/sparecalculus/bisim/Partition", name := "splitOffMarked", desc := "(I)I" } : Jvm.MethodName) prog_16_method_13_code (6 : Nat) (Option.some Jvm.ClassFile.FieldType.int), Jvm.Cond.code ({ cls := "com/example/spare_calculus/sparecalculus/bisim/PartitionSplitOffMarkedPinLaw", name := "pop", desc := "(I)I" } : Jvm.MethodName) method_3_code (1 : Nat) (Option.some Jvm.ClassFile.FieldType.int), Jvm.Cond.code ({ cls := "com/example/spare_calculus/sparecalculus/bisim/Partition", name := "blockCount", desc := "()I" } : Jvm.MethodName) prog_16_method_2_code (1 : Nat) (Option.some Jvm.ClassFile.FieldType.int), Jvm.Cond.code ({ cls := "com/example/spare_calculus/sparecalculus/bisim/Partition", name := "start", desc := "(I)I" } : Jvm.MethodName) prog_16_method_4_code (2 : Nat) (Option.some Jvm.ClassFile.FieldType.int), Jvm.Cond.code ({ cls := "com/example/spare_calculus/sparecalculus/bisim/Partition", name := "end", desc := "(I)I" } : Jvm.MethodName) prog_16_method_5_code (2 : Nat) (Option.some Jvm.ClassFile.FieldType.int), Jvm.Cond.code ({ cls := "com/example/spare_calculus/sparecalculus/bisim/Partition", name := "markedEnd", desc := "(I)I" } : Jvm.MethodName) prog_16_method_8_code (2 : Nat) (Option.some Jvm.ClassFile.FieldType.int), Jvm.Cond.code ({ cls := "com/example/spare_calculus/sparecalculus/bisim/Partition", name := "blockOf", desc := "(I)I" } : Jvm.MethodName) prog_16_method_3_code (2 : Nat) (Option.some Jvm.ClassFile.FieldType.int), Jvm.Cond.code ({ cls := "com/example/spare_calculus/sparecalculus/bisim/PartitionSplitOffMarkedPinLaw", name := "expBlock", desc := "(IIZIZI)I" } : Jvm.MethodName) method_5_code (6 : Nat) (Option.some Jvm.ClassFile.FieldType.int)]
set_option maxRecDepth 65536 in
theorem codes_eq : words1.filter isCode = codes1 := rfl
theorem w_codes : ∀ c ∈ words1.filter isCode, c.before args0 about1 = true := by
  rw [codes_eq]
  intro c hc
  simp only [codes1, List.mem_cons, List.not_mem_nil, or_false] at hc
  rcases hc with rfl | rfl | rfl | rfl | rfl | rfl | rfl | rfl | rfl | rfl | rfl | rfl | rfl | rfl
  · exact w_c0
  · exact w_c1
  · exact w_c2
  · exact w_c3
  · exact w_c4
  · exact w_c5
  · exact w_c6
  · exact w_c7
  · exact w_c8
  · exact w_c9
  · exact w_c10
  · exact w_c11
  · exact w_c12
  · exact w_c13
set_option maxRecDepth 65536 in
theorem w_t1 : (words1.take 24).all (fun c => isCode c || c.before args0 about1) = true := by decide +kernel
set_option maxRecDepth 65536 in
theorem w_t2 : ((words1.drop 24).take 24).all (fun c => isCode c || c.before args0 about1) = true := by decide +kernel
set_option maxRecDepth 65536 in
theorem w_t3 : (((words1.drop 24).drop 24).take 24).all (fun c => isCode c || c.before args0 about1) = true := by decide +kernel
set_option maxRecDepth 65536 in
theorem w_t4 : (((words1.drop 24).drop 24).drop 24).all (fun c => isCode c || c.before args0 about1) = true := by decide +kernel
theorem w_tables : (allAtoms (Jvm.Cond.code x code maxLocals ret :: tables_1)).before args0 about1 = true := by
  rw [allAtoms_all]
  show words1.all (fun c => c.before args0 about1) = true
  refine all_split ?_ w_codes
  rw [← List.take_append_drop 24 words1, List.all_append, w_t1, ← List.take_append_drop 24 (words1.drop 24), List.all_append, w_t2, ← List.take_append_drop 24 ((words1.drop 24).drop 24), List.all_append, w_t3, w_t4]
  rfl
set_option maxRecDepth 65536 in
theorem w_case : (Jvm.Cond.and given_1 narrow_1).before args0 about1 = true := by decide +kernel
theorem w_applies : (headSpec (Jvm.Cond.code x code maxLocals ret :: tables_1) room_1).applies x e0.platform about1 = true :=
  (Spec.applies_iff w_frames).mpr ⟨w_running, w_runnable, w_alone, w_named, w_hears, w_ripe, w_room, w_tables⟩
theorem atStart : AtStart classFile x code maxLocals ret World_1 tables_1 room_1 Calls_1 rest_1 Pre_1 launch0 p0 e0 about1 theMethod args0 below0 :=
  ⟨lists_1, trivial, launch0.admits_env _ _ _, launch0.least_env, fairChoices_fair.cas, fairChoices_fair.clock, w_frames, w_args, w_heap, w_applies, trivial, trivial, w_case⟩
end start1
theorem witness_1 : WitnessClaimed_1 := ⟨start1.p0, start1.e0, start1.about1, start1.theMethod, start1.args0, start1.below0, start1.atStart⟩
end Jvm.Pilot.@@N@@
