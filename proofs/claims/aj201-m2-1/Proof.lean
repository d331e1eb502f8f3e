import JvmDerived
import JvmDerived.Pilot.@@N@@Statement
import JvmDerived.Pilot.@@N@@Code
set_option linter.unusedVariables false
set_option linter.unusedSimpArgs false
@@BLOCK:NumsL.lean.txt@@
namespace Jvm.Pilot.@@N@@
open Jvm Jvm.ClassFile Sem Op Lib Jvm.Free Jvm.Stand Jvm.LawKit Jvm.RoadKit Bundle Jvm.Pilot.@@N@@.Jvm.D
def own_Goes (p : Program) (e : Env) (below : List Frame) (s : State) (Q : Option Value → Heap → List Loc → Prop) (ce sl : Nat) (A : State) : Prop :=
  ∃ s₂ o, Steps p.tables e below A s₂ ∧ s₂.status = .running ∧ Ended s₂ below o ∧ ∃ v L, o = .returned v ∧ Q v s₂.heap L ∧ FrameEnd s o s₂ L ce sl
theorem own_pre {p : Program} {e : Env} {below : List Frame} {s : State} {Q : Option Value → Heap → List Loc → Prop} {ce sl : Nat} {A B : State} (h : ∀ t, Steps p.tables e below A t → Steps p.tables e below B t) (G : own_Goes p e below s Q ce sl A) : own_Goes p e below s Q ce sl B := by
  obtain ⟨s₂, o, h1, r⟩ := G
  exact ⟨s₂, o, h _ h1, r⟩
theorem own_end {p : Program} {l : Launch} {e : Env} {R : Room} {s : State} {m : MethodId} {args : Array Value} {below : List Frame} {meth : Method} {c : Code} {T : State} {locs : List Loc} {cells slots : Nat} (X : Stand p l e R s m args below meth c T locs cells slots)
    {v : Option Value} {Q : Option Value → Heap → List Loc → Prop} {ce sl : Nat} {A : State} (hlocks : meth.locks = false) (hv : meth.sig.returnType = none → v = none)
    (hstep : ∀ fs, (∀ (f : JFrame) (acts : List Action), f.method = m → f.locked = none → f.entered = [] → (doReturn e (T.setTop f) acts v).1 = T.setFrames fs) → Steps p.tables e below A (T.setFrames fs))
    (hQ : Q v T.heap locs) (hc : cells ≤ ce) (hs : slots ≤ sl) : own_Goes p e below s Q ce sl A := by
  obtain ⟨fs, hr, hrun, hended, hW, hsame⟩ := X.leave hv hlocks
  exact ⟨_, _, hstep fs hr, hrun, hended, _, _, rfl, hQ, ⟨_, rfl⟩, hW, hsame.mono hc hs⟩
theorem own_lrem_eq (x y : Int64) : x - (x / y) * y = x % y := Int64.toInt_inj.mp (by rw [Jvm.Kit.i64_rem, Int64.toInt_mod])
theorem own_lrem {tb : Tables} [Ours tb] {e : Env} {below : List Frame} {T target : State} {m : MethodId} {c : Code} {g : JFrame} (h : At T m c below) (hx : tb.exec = Jvm.exec) (hg : g.method = m) {x y : Int64} {rest : List Value} (hd : decode c.code g.pc = .ok (.lrem, 1)) (hs : g.stack = .long y :: .long x :: rest) (hy : y ≠ 0)
    (hr : Steps tb e below (T.setTop { g with pc := g.pc + 1, stack := .long (x % y) :: rest }) target) : Steps tb e below (T.setTop g) target :=
  XS.lrem h hx hg hd hs hy (by rw [own_lrem_eq]; exact hr)
theorem own_h {a0 : Array Value} {Z : State} {L : List Jvm.Cond} (hw : ∀ d ∈ L, d.before a0 Z = true) (i : Nat) {d : Jvm.Cond} (h : L[i]? = some d) : d.before a0 Z = true := hw _ (List.mem_of_getElem? h)
theorem d1_0 : decode jdk_29_method_70_code 0 = .ok (.lload_n 0, 1) := by decide +kernel
theorem d1_1 : decode jdk_29_method_70_code 1 = .ok (.lload_n 2, 1) := by decide +kernel
theorem d1_2 : decode jdk_29_method_70_code 2 = .ok (.lcmp, 1) := by decide +kernel
theorem d1_3 : decode jdk_29_method_70_code 3 = .ok (.ifCond .gt 7, 3) := by decide +kernel
theorem d1_6 : decode jdk_29_method_70_code 6 = .ok (.lload_n 0, 1) := by decide +kernel
theorem d1_7 : decode jdk_29_method_70_code 7 = .ok (.goto 4, 3) := by decide +kernel
theorem d1_10 : decode jdk_29_method_70_code 10 = .ok (.lload_n 2, 1) := by decide +kernel
theorem d1_11 : decode jdk_29_method_70_code 11 = .ok (.lreturn, 1) := by decide +kernel
theorem ef1 (m : MethodId) (q0 : Int64) (q1 : Int64) : entryFrame m #[(.long q0), (.long q1)] 4 = mkF m 0 #[.val (.long q0), .second, .val (.long q1), .second] [] := by first | (simp [entryFrame, mkF, argsToLocals, Value.category]; done) | rfl
def f1 (q0 : Int64) (q1 : Int64) : Int64 := (let w1_1 : Int64 := (if q1 < q0 then q1 else q0); w1_1)
def Q1 (Z : State) (q0 : Int64) (q1 : Int64)  (h0 : Heap) (n0 : Nat) (v : Option Value) (h : Heap) (L : List Loc) : Prop := v = some (.long (f1 q0 q1)) ∧ Fr n0 L ∧ h = h0
set_option maxRecDepth 65536 in
set_option maxHeartbeats 40000000 in
theorem rm1 (l : Launch) (Z : State) (aZ : Array Value) (hw : ∀ d ∈ tables_1, d.before aZ Z = true) (ws : List Jvm.Cond) (q0 : Int64) (q1 : Int64)  (h0 : Heap) (n0 : Nat) (Z0 : n0 ≤ h0.size)  :
    MetFree l (⟨"java/lang/Math", "min", "(JJ)J"⟩ : MethodName) (head1 (Jvm.Cond.code (⟨"java/lang/Math", "min", "(JJ)J"⟩ : MethodName) jdk_29_method_70_code 4 (some .long) :: ws) ({ frames := 0, cells := 0, slots := 0, locals := 0 } : Room)) (fun a U => a = #[(.long q0), (.long q1)] ∧ Z.Warmed39 U.vm ∧ U.heap = h0) (fun _ _ _ _ _ => True) (fun _ U o U' => ∃ v L, o = .returned v ∧ Q1 Z q0 q1 h0 n0 v U'.heap L ∧ FrameEnd U o U' L ({ frames := 0, cells := 0, slots := 0, locals := 0 } : Room).cells ({ frames := 0, cells := 0, slots := 0, locals := 0 } : Room).slots) := by
  refine MetFree.of_bodySF (Jvm.Free.JP.mathPlain rfl (by decide +kernel)) hisR ?_
  intro p e s m args below meth c s₁ Bd hml0 hP hK
  obtain ⟨rfl, hZ, hh⟩ := hP
  have hx := Bd.exec
  have hby := Bd.bytes
  have hml : c.maxLocals = 4 := hml0
  have hown : s.vm.findClass "java/lang/Math" = some m.cls := findClass_of_methodNamed Bd.named
  have hnm := (name_of_methodNamed Bd.named Bd.method).1
  have X0 : Stand p l e ({ frames := 0, cells := 0, slots := 0, locals := 0 } : Room) s m #[(.long q0), (.long q1)] below meth c s₁ [] 0 0 := Stand.of_body Bd
  have e0 : s₁.heap = h0 := by rw [← hh, Bd.state]; rfl
  have N0 := Fr.nil n0
  show own_Goes p e below s (Q1 Z q0 q1 h0 n0) ({ frames := 0, cells := 0, slots := 0, locals := 0 } : Room).cells ({ frames := 0, cells := 0, slots := 0, locals := 0 } : Room).slots _
  refine own_pre (fun t k => castTop (ef1 m q0 q1) k) ?_
  refine own_pre (A := s₁.setTop (mkF m 3 #[.val (.long q0), .second, .val (.long q1), .second] [(.int (XT.cmpL q0 q1))])) (fun t k => ?_) ?_
  · show Steps p.tables e below (s₁.setTop (mkF m 0 #[.val (.long q0), .second, .val (.long q1), .second] [])) _
    refine XS.lloadN X0.here hx rfl (hb hby d1_0) rfl ?_
    show Steps p.tables e below (s₁.setTop (mkF m 1 #[.val (.long q0), .second, .val (.long q1), .second] [(.long q0)])) _
    refine XS.lloadN X0.here hx rfl (hb hby d1_1) rfl ?_
    show Steps p.tables e below (s₁.setTop (mkF m 2 #[.val (.long q0), .second, .val (.long q1), .second] [(.long q1), (.long q0)])) _
    refine XT.lcmp X0.here hx rfl (hb hby d1_2) rfl ?_
    exact k
  obtain ⟨w1_1, hw1_1⟩ : ∃ z : Int64, z = (if q1 < q0 then q1 else q0) := ⟨_, rfl⟩
  refine own_pre (A := s₁.setTop (mkF m 11 #[.val (.long q0), .second, .val (.long q1), .second] [(.long w1_1)])) (fun t k => ?_) ?_
  · show Steps p.tables e below (s₁.setTop (mkF m 3 #[.val (.long q0), .second, .val (.long q1), .second] [(.int (XT.cmpL q0 q1))])) _
    by_cases hm3_1 : q1 < q0
    · refine XS.ifYes X0.here hx rfl (pc0 := 3) (pc' := 10) rfl (hb hby d1_3) rfl (XT.ll_gt_t hm3_1) (by decide) (by decide) ?_
      show Steps p.tables e below (s₁.setTop (mkF m 10 #[.val (.long q0), .second, .val (.long q1), .second] [])) _
      refine XS.lloadN X0.here hx rfl (hb hby d1_10) rfl ?_
      rw [hw1_1.trans (if_pos hm3_1)] at k
      exact k
    · refine XS.ifNo X0.here hx rfl (hb hby d1_3) rfl (XT.ll_gt_f hm3_1) ?_
      show Steps p.tables e below (s₁.setTop (mkF m 6 #[.val (.long q0), .second, .val (.long q1), .second] [])) _
      refine XS.lloadN X0.here hx rfl (hb hby d1_6) rfl ?_
      show Steps p.tables e below (s₁.setTop (mkF m 7 #[.val (.long q0), .second, .val (.long q1), .second] [(.long q0)])) _
      refine XS.goto X0.here hx rfl (pc0 := 7) (pc' := 11) rfl (hb hby d1_7) (by decide) (by decide) ?_
      rw [hw1_1.trans (if_neg hm3_1)] at k
      exact k
  have hv1 : w1_1 = f1 q0 q1 := by subst hw1_1; rfl
  exact own_end X0 (BodyLoose.notSynchronized Bd) (fun h => by rw [Bd.returns] at h; cases h) (v := some (.long w1_1)) (fun fs hr => retOut X0 hx Bd.returns rfl (by simp [Value.isRef, FieldType.isReference]) (hb hby d1_11) hr) (by show Q1 Z q0 q1 h0 n0 _ s₁.heap _; rw [e0]; exact ⟨(congrArg (fun z => some (Value.long z)) hv1), N0, rfl⟩) (by decide) (by decide)
theorem d2_0 : decode jdk_29_method_66_code 0 = .ok (.lload_n 0, 1) := by decide +kernel
theorem d2_1 : decode jdk_29_method_66_code 1 = .ok (.lload_n 2, 1) := by decide +kernel
theorem d2_2 : decode jdk_29_method_66_code 2 = .ok (.lcmp, 1) := by decide +kernel
theorem d2_3 : decode jdk_29_method_66_code 3 = .ok (.ifCond .lt 7, 3) := by decide +kernel
theorem d2_6 : decode jdk_29_method_66_code 6 = .ok (.lload_n 0, 1) := by decide +kernel
theorem d2_7 : decode jdk_29_method_66_code 7 = .ok (.goto 4, 3) := by decide +kernel
theorem d2_10 : decode jdk_29_method_66_code 10 = .ok (.lload_n 2, 1) := by decide +kernel
theorem d2_11 : decode jdk_29_method_66_code 11 = .ok (.lreturn, 1) := by decide +kernel
theorem ef2 (m : MethodId) (q0 : Int64) (q1 : Int64) : entryFrame m #[(.long q0), (.long q1)] 4 = mkF m 0 #[.val (.long q0), .second, .val (.long q1), .second] [] := by first | (simp [entryFrame, mkF, argsToLocals, Value.category]; done) | rfl
def f2 (q0 : Int64) (q1 : Int64) : Int64 := (let w2_1 : Int64 := (if q0 < q1 then q1 else q0); w2_1)
def Q2 (Z : State) (q0 : Int64) (q1 : Int64)  (h0 : Heap) (n0 : Nat) (v : Option Value) (h : Heap) (L : List Loc) : Prop := v = some (.long (f2 q0 q1)) ∧ Fr n0 L ∧ h = h0
set_option maxRecDepth 65536 in
set_option maxHeartbeats 40000000 in
theorem rm2 (l : Launch) (Z : State) (aZ : Array Value) (hw : ∀ d ∈ tables_1, d.before aZ Z = true) (ws : List Jvm.Cond) (q0 : Int64) (q1 : Int64)  (h0 : Heap) (n0 : Nat) (Z0 : n0 ≤ h0.size)  :
    MetFree l (⟨"java/lang/Math", "max", "(JJ)J"⟩ : MethodName) (head1 (Jvm.Cond.code (⟨"java/lang/Math", "max", "(JJ)J"⟩ : MethodName) jdk_29_method_66_code 4 (some .long) :: ws) ({ frames := 0, cells := 0, slots := 0, locals := 0 } : Room)) (fun a U => a = #[(.long q0), (.long q1)] ∧ Z.Warmed39 U.vm ∧ U.heap = h0) (fun _ _ _ _ _ => True) (fun _ U o U' => ∃ v L, o = .returned v ∧ Q2 Z q0 q1 h0 n0 v U'.heap L ∧ FrameEnd U o U' L ({ frames := 0, cells := 0, slots := 0, locals := 0 } : Room).cells ({ frames := 0, cells := 0, slots := 0, locals := 0 } : Room).slots) := by
  refine MetFree.of_bodySF (Jvm.Free.JP.mathPlain rfl (by decide +kernel)) hisR ?_
  intro p e s m args below meth c s₁ Bd hml0 hP hK
  obtain ⟨rfl, hZ, hh⟩ := hP
  have hx := Bd.exec
  have hby := Bd.bytes
  have hml : c.maxLocals = 4 := hml0
  have hown : s.vm.findClass "java/lang/Math" = some m.cls := findClass_of_methodNamed Bd.named
  have hnm := (name_of_methodNamed Bd.named Bd.method).1
  have X0 : Stand p l e ({ frames := 0, cells := 0, slots := 0, locals := 0 } : Room) s m #[(.long q0), (.long q1)] below meth c s₁ [] 0 0 := Stand.of_body Bd
  have e0 : s₁.heap = h0 := by rw [← hh, Bd.state]; rfl
  have N0 := Fr.nil n0
  show own_Goes p e below s (Q2 Z q0 q1 h0 n0) ({ frames := 0, cells := 0, slots := 0, locals := 0 } : Room).cells ({ frames := 0, cells := 0, slots := 0, locals := 0 } : Room).slots _
  refine own_pre (fun t k => castTop (ef2 m q0 q1) k) ?_
  refine own_pre (A := s₁.setTop (mkF m 3 #[.val (.long q0), .second, .val (.long q1), .second] [(.int (XT.cmpL q0 q1))])) (fun t k => ?_) ?_
  · show Steps p.tables e below (s₁.setTop (mkF m 0 #[.val (.long q0), .second, .val (.long q1), .second] [])) _
    refine XS.lloadN X0.here hx rfl (hb hby d2_0) rfl ?_
    show Steps p.tables e below (s₁.setTop (mkF m 1 #[.val (.long q0), .second, .val (.long q1), .second] [(.long q0)])) _
    refine XS.lloadN X0.here hx rfl (hb hby d2_1) rfl ?_
    show Steps p.tables e below (s₁.setTop (mkF m 2 #[.val (.long q0), .second, .val (.long q1), .second] [(.long q1), (.long q0)])) _
    refine XT.lcmp X0.here hx rfl (hb hby d2_2) rfl ?_
    exact k
  obtain ⟨w2_1, hw2_1⟩ : ∃ z : Int64, z = (if q0 < q1 then q1 else q0) := ⟨_, rfl⟩
  refine own_pre (A := s₁.setTop (mkF m 11 #[.val (.long q0), .second, .val (.long q1), .second] [(.long w2_1)])) (fun t k => ?_) ?_
  · show Steps p.tables e below (s₁.setTop (mkF m 3 #[.val (.long q0), .second, .val (.long q1), .second] [(.int (XT.cmpL q0 q1))])) _
    by_cases hm3_1 : q0 < q1
    · refine XS.ifYes X0.here hx rfl (pc0 := 3) (pc' := 10) rfl (hb hby d2_3) rfl (XT.ll_lt_t hm3_1) (by decide) (by decide) ?_
      show Steps p.tables e below (s₁.setTop (mkF m 10 #[.val (.long q0), .second, .val (.long q1), .second] [])) _
      refine XS.lloadN X0.here hx rfl (hb hby d2_10) rfl ?_
      rw [hw2_1.trans (if_pos hm3_1)] at k
      exact k
    · refine XS.ifNo X0.here hx rfl (hb hby d2_3) rfl (XT.ll_lt_f hm3_1) ?_
      show Steps p.tables e below (s₁.setTop (mkF m 6 #[.val (.long q0), .second, .val (.long q1), .second] [])) _
      refine XS.lloadN X0.here hx rfl (hb hby d2_6) rfl ?_
      show Steps p.tables e below (s₁.setTop (mkF m 7 #[.val (.long q0), .second, .val (.long q1), .second] [(.long q0)])) _
      refine XS.goto X0.here hx rfl (pc0 := 7) (pc' := 11) rfl (hb hby d2_7) (by decide) (by decide) ?_
      rw [hw2_1.trans (if_neg hm3_1)] at k
      exact k
  have hv2 : w2_1 = f2 q0 q1 := by subst hw2_1; rfl
  exact own_end X0 (BodyLoose.notSynchronized Bd) (fun h => by rw [Bd.returns] at h; cases h) (v := some (.long w2_1)) (fun fs hr => retOut X0 hx Bd.returns rfl (by simp [Value.isRef, FieldType.isReference]) (hb hby d2_11) hr) (by show Q2 Z q0 q1 h0 n0 _ s₁.heap _; rw [e0]; exact ⟨(congrArg (fun z => some (Value.long z)) hv2), N0, rfl⟩) (by decide) (by decide)
theorem own_pn0 : plainName "com/example/rowfold/rowfold/codec/CodeRange" = true := by first | (simp [plainName, overriddenIn]; done) | decide +kernel
theorem d3_0 : decode prog_5_method_1_code 0 = .ok (.aload_n 0, 1) := by decide +kernel
theorem d3_1 : decode prog_5_method_1_code 1 = .ok (.invokespecial 1, 3) := by decide +kernel
theorem d3_4 : decode prog_5_method_1_code 4 = .ok (.aload_n 0, 1) := by decide +kernel
theorem d3_5 : decode prog_5_method_1_code 5 = .ok (.ldc2_w 9, 3) := by decide +kernel
theorem d3_8 : decode prog_5_method_1_code 8 = .ok (.putfield 11, 3) := by decide +kernel
theorem d3_11 : decode prog_5_method_1_code 11 = .ok (.return_, 1) := by decide +kernel
theorem ef3 (m : MethodId) (a0 : Addr) : entryFrame m #[(.ref a0)] 1 = mkF m 0 #[rv a0] [] := by first | (simp [entryFrame, mkF, argsToLocals, Value.category]; done) | rfl
def Q3 (Z : State) (a0 : Addr)  (h0 : Heap) (n0 : Nat) (v : Option Value) (h : Heap) (L : List Loc) : Prop := v = none ∧ Fr n0 L ∧ Keep h0 h [a0] ∧ Fld Z h a0 "com/example/rowfold/rowfold/codec/CodeRange" "low" "J" (.long (0:Int64)) ∧ Fld Z h a0 "com/example/rowfold/rowfold/codec/CodeRange" "high" "J" (.long (4294967295:Int64))
set_option maxRecDepth 65536 in
set_option maxHeartbeats 40000000 in
theorem rm3 (l : Launch) (Z : State) (aZ : Array Value) (hw : ∀ d ∈ tables_1, d.before aZ Z = true) (ws : List Jvm.Cond) (a0 : Addr)  (h0 : Heap) (n0 : Nat) (Z0 : n0 ≤ h0.size) (P0 : Exa Z h0 a0 "com/example/rowfold/rowfold/codec/CodeRange") (P1 : Fld Z h0 a0 "com/example/rowfold/rowfold/codec/CodeRange" "low" "J" (.long (0:Int64))) (P2 : Fld Z h0 a0 "com/example/rowfold/rowfold/codec/CodeRange" "high" "J" (.long (0:Int64))) (gq_a0 : n0 ≤ a0) :
    MetFree l (⟨"com/example/rowfold/rowfold/codec/CodeRange", "<init>", "()V"⟩ : MethodName) (head1 (Jvm.Cond.code (⟨"com/example/rowfold/rowfold/codec/CodeRange", "<init>", "()V"⟩ : MethodName) prog_5_method_1_code 1 none :: ws) ({ frames := 1, cells := 0, slots := 0, locals := 12 } : Room)) (fun a U => a = #[(.ref a0)] ∧ Z.Warmed39 U.vm ∧ U.heap = h0) (fun _ _ _ _ _ => True) (fun _ U o U' => ∃ v L, o = .returned v ∧ Q3 Z a0 h0 n0 v U'.heap L ∧ FrameEnd U o U' L ({ frames := 1, cells := 0, slots := 0, locals := 12 } : Room).cells ({ frames := 1, cells := 0, slots := 0, locals := 12 } : Room).slots) := by
  refine MetFree.of_bodySF (plainFor_of_name own_pn0) hisR ?_
  intro p e s m args below meth c s₁ Bd hml0 hP hK
  obtain ⟨rfl, hZ, hh⟩ := hP
  have hx := Bd.exec
  have hby := Bd.bytes
  have hml : c.maxLocals = 1 := hml0
  have hown : s.vm.findClass "com/example/rowfold/rowfold/codec/CodeRange" = some m.cls := findClass_of_methodNamed Bd.named
  have hnm := (name_of_methodNamed Bd.named Bd.method).1
  have X0 : Stand p l e ({ frames := 1, cells := 0, slots := 0, locals := 12 } : Room) s m #[(.ref a0)] below meth c s₁ [] 0 0 := Stand.of_body Bd
  have e0 : s₁.heap = h0 := by rw [← hh, Bd.state]; rfl
  have N0 := Fr.nil n0
  have Kp0 : Keep h0 h0 [a0] := Keep.refl _ _
  show own_Goes p e below s (Q3 Z a0 h0 n0) ({ frames := 1, cells := 0, slots := 0, locals := 12 } : Room).cells ({ frames := 1, cells := 0, slots := 0, locals := 12 } : Room).slots _
  refine own_pre (fun t k => castTop (ef3 m a0) k) ?_
  refine own_pre (A := s₁.setTop (mkF m 1 #[rv a0] [(.ref a0)])) (fun t k => ?_) ?_
  · show Steps p.tables e below (s₁.setTop (mkF m 0 #[rv a0] [])) _
    refine XS.aloadN X0.here hx rfl (hb hby d3_0) rfl rfl ?_
    exact k
  obtain ⟨T3, X3, e3, st3⟩ := initO X0 hx hZ hown (own_h hw 17 rfl) (own_h hw 18 rfl) (own_h hw 19 rfl) e0 (g := (mkF m 1 #[rv a0] [(.ref a0)])) rfl (by rw [hml]; rfl) rfl (hb hby d3_1) (by decide) (W := 0) (by show 2 * 0 + _ ≤ _; exact Nat.le_of_eq rfl) (by decide)
  refine own_pre st3 ?_
  refine own_pre (A := T3.setTop (mkF m 8 #[rv a0] [(.long (4294967295:Int64)), (.ref a0)])) (fun t k => ?_) ?_
  · show Steps p.tables e below (T3.setTop (mkF m 4 #[rv a0] [])) _
    refine XS.aloadN X3.here hx rfl (hb hby d3_4) rfl rfl ?_
    show Steps p.tables e below (T3.setTop (mkF m 5 #[rv a0] [(.ref a0)])) _
    refine Jvm.Stand.ldc2J X3 hx hown (mvT hZ (own_h hw 20 rfl)) rfl (hb hby d3_5) ?_
    exact k
  obtain ⟨T4, h4, X4, e4, W4, st4⟩ := putF X3 hx hZ hown (host := "") (Or.inl (own_h hw 21 rfl)) Via.refl e3 P2 P0 (Or.inl (own_h hw 22 rfl)) (own_h hw 12 rfl) (ty := .long) (by decide) rfl rfl (g := (mkF m 8 #[rv a0] [(.long (4294967295:Int64)), (.ref a0)])) rfl rfl (hb hby d3_8)
  have Kp4 : Keep h0 h4 [a0] := Kp0.wr W4 (Or.inl (List.mem_of_getElem? (i := 0) rfl))
  have Z5 : n0 ≤ h4.size := Nat.le_trans Z0 (Nat.le_of_eq W4.size.symm)
  have N4 := Fr.snoc X4 N0 gq_a0
  have Fw4 := P2.same W4
  refine own_pre st4 ?_
  have F6 := (P1.other W4 (Or.inr (slot_ne (Or.inl (own_h hw 29 rfl)) (Or.inl (own_h hw 22 rfl)) (by decide) (t := .long) (t' := .long) (by decide) (by decide))))
  exact own_end X4 (BodyLoose.notSynchronized Bd) (fun _ => rfl) (v := none) (fun fs hr => X4.returnOut hx Bd.returns (hb hby d3_11) hr) (by show Q3 Z a0 h0 n0 _ T4.heap _; rw [e4]; exact ⟨rfl, N4, Kp4, F6, Fw4⟩) (by decide) (by decide)
theorem d5_0 : decode prog_5_method_3_code 0 = .ok (.iload_n 1, 1) := by decide +kernel
theorem d5_1 : decode prog_5_method_3_code 1 = .ok (.ifCond .eq 11, 3) := by decide +kernel
theorem d5_12 : decode prog_5_method_3_code 12 = .ok (.aload_n 0, 1) := by decide +kernel
theorem d5_13 : decode prog_5_method_3_code 13 = .ok (.lload_n 2, 1) := by decide +kernel
theorem d5_14 : decode prog_5_method_3_code 14 = .ok (.lconst 1, 1) := by decide +kernel
theorem d5_15 : decode prog_5_method_3_code 15 = .ok (.ladd, 1) := by decide +kernel
theorem d5_16 : decode prog_5_method_3_code 16 = .ok (.putfield 15, 3) := by decide +kernel
theorem d5_19 : decode prog_5_method_3_code 19 = .ok (.return_, 1) := by decide +kernel
theorem ef5z (m : MethodId) (a0 : Addr) (p1 : Int32) (q2 : Int64) : entryFrame m #[(.ref a0), (.int p1), (.long q2)] 4 = mkF m 0 #[rv a0, iv p1, .val (.long q2), .second] [] := by first | (simp [entryFrame, mkF, argsToLocals, Value.category]; done) | rfl
def Q5z (Z : State) (a0 : Addr) (p1 : Int32) (q2 : Int64) (lo : Int64) (hi : Int64) (h0 : Heap) (n0 : Nat) (v : Option Value) (h : Heap) (L : List Loc) : Prop := v = none ∧ Fr n0 L ∧ Keep h0 h [a0] ∧ Fld Z h a0 "com/example/rowfold/rowfold/codec/CodeRange" "low" "J" (.long (q2 + (1:Int64))) ∧ Fld Z h a0 "com/example/rowfold/rowfold/codec/CodeRange" "high" "J" (.long hi)
set_option maxRecDepth 65536 in
set_option maxHeartbeats 40000000 in
theorem rm5z (l : Launch) (Z : State) (aZ : Array Value) (hw : ∀ d ∈ tables_1, d.before aZ Z = true) (ws : List Jvm.Cond) (a0 : Addr) (p1 : Int32) (q2 : Int64) (lo : Int64) (hi : Int64) (h0 : Heap) (n0 : Nat) (Z0 : n0 ≤ h0.size) (P0 : Exa Z h0 a0 "com/example/rowfold/rowfold/codec/CodeRange") (P1 : Fld Z h0 a0 "com/example/rowfold/rowfold/codec/CodeRange" "low" "J" (.long lo)) (P2 : Fld Z h0 a0 "com/example/rowfold/rowfold/codec/CodeRange" "high" "J" (.long hi)) (gq_a0 : n0 ≤ a0) (hz : p1 = (0:Int32)) :
    MetFree l (⟨"com/example/rowfold/rowfold/codec/CodeRange", "narrow", "(IJ)V"⟩ : MethodName) (head1 (Jvm.Cond.code (⟨"com/example/rowfold/rowfold/codec/CodeRange", "narrow", "(IJ)V"⟩ : MethodName) prog_5_method_3_code 4 none :: ws) ({ frames := 0, cells := 0, slots := 0, locals := 0 } : Room)) (fun a U => a = #[(.ref a0), (.int p1), (.long q2)] ∧ Z.Warmed39 U.vm ∧ U.heap = h0) (fun _ _ _ _ _ => True) (fun _ U o U' => ∃ v L, o = .returned v ∧ Q5z Z a0 p1 q2 lo hi h0 n0 v U'.heap L ∧ FrameEnd U o U' L ({ frames := 0, cells := 0, slots := 0, locals := 0 } : Room).cells ({ frames := 0, cells := 0, slots := 0, locals := 0 } : Room).slots) := by
  refine MetFree.of_bodySF (plainFor_of_name own_pn0) hisR ?_
  intro p e s m args below meth c s₁ Bd hml0 hP hK
  obtain ⟨rfl, hZ, hh⟩ := hP
  have hx := Bd.exec
  have hby := Bd.bytes
  have hml : c.maxLocals = 4 := hml0
  have hown : s.vm.findClass "com/example/rowfold/rowfold/codec/CodeRange" = some m.cls := findClass_of_methodNamed Bd.named
  have hnm := (name_of_methodNamed Bd.named Bd.method).1
  have X0 : Stand p l e ({ frames := 0, cells := 0, slots := 0, locals := 0 } : Room) s m #[(.ref a0), (.int p1), (.long q2)] below meth c s₁ [] 0 0 := Stand.of_body Bd
  have e0 : s₁.heap = h0 := by rw [← hh, Bd.state]; rfl
  have N0 := Fr.nil n0
  have Kp0 : Keep h0 h0 [a0] := Keep.refl _ _
  show own_Goes p e below s (Q5z Z a0 p1 q2 lo hi h0 n0) ({ frames := 0, cells := 0, slots := 0, locals := 0 } : Room).cells ({ frames := 0, cells := 0, slots := 0, locals := 0 } : Room).slots _
  refine own_pre (fun t k => castTop (ef5z m a0 p1 q2) k) ?_
  have hd1_1 : p1 = (0:Int32) := hz
  refine own_pre (A := s₁.setTop (mkF m 16 #[rv a0, iv p1, .val (.long q2), .second] [(.long (q2 + (1:Int64))), (.ref a0)])) (fun t k => ?_) ?_
  · show Steps p.tables e below (s₁.setTop (mkF m 0 #[rv a0, iv p1, .val (.long q2), .second] [])) _
    refine XS.iloadN X0.here hx rfl (hb hby d5_0) rfl ?_
    show Steps p.tables e below (s₁.setTop (mkF m 1 #[rv a0, iv p1, .val (.long q2), .second] [(.int p1)])) _
    refine XS.ifYes X0.here hx rfl (pc0 := 1) (pc' := 12) rfl (hb hby d5_1) rfl (XT.i0_eq_t hd1_1) (by decide) (by decide) ?_
    show Steps p.tables e below (s₁.setTop (mkF m 12 #[rv a0, iv p1, .val (.long q2), .second] [])) _
    refine XS.aloadN X0.here hx rfl (hb hby d5_12) rfl rfl ?_
    show Steps p.tables e below (s₁.setTop (mkF m 13 #[rv a0, iv p1, .val (.long q2), .second] [(.ref a0)])) _
    refine XS.lloadN X0.here hx rfl (hb hby d5_13) rfl ?_
    show Steps p.tables e below (s₁.setTop (mkF m 14 #[rv a0, iv p1, .val (.long q2), .second] [(.long q2), (.ref a0)])) _
    refine XS.lconst X0.here hx rfl (hb hby d5_14) ?_
    show Steps p.tables e below (s₁.setTop (mkF m 15 #[rv a0, iv p1, .val (.long q2), .second] [(.long (1:Int64)), (.long q2), (.ref a0)])) _
    refine XS.ladd X0.here hx rfl (hb hby d5_15) rfl ?_
    exact k
  obtain ⟨T7, h7, X7, e7, W7, st7⟩ := putF X0 hx hZ hown (host := "") (Or.inl (own_h hw 28 rfl)) Via.refl e0 P1 P0 (Or.inl (own_h hw 29 rfl)) (own_h hw 12 rfl) (ty := .long) (by decide) rfl rfl (g := (mkF m 16 #[rv a0, iv p1, .val (.long q2), .second] [(.long (q2 + (1:Int64))), (.ref a0)])) rfl rfl (hb hby d5_16)
  have Kp7 : Keep h0 h7 [a0] := Kp0.wr W7 (Or.inl (List.mem_of_getElem? (i := 0) rfl))
  have Z8 : n0 ≤ h7.size := Nat.le_trans Z0 (Nat.le_of_eq W7.size.symm)
  have N7 := Fr.snoc X7 N0 gq_a0
  have Fw7 := P1.same W7
  refine own_pre st7 ?_
  have F9 := (P2.other W7 (Or.inr (slot_ne (Or.inl (own_h hw 22 rfl)) (Or.inl (own_h hw 29 rfl)) (by decide) (t := .long) (t' := .long) (by decide) (by decide))))
  exact own_end X7 (BodyLoose.notSynchronized Bd) (fun _ => rfl) (v := none) (fun fs hr => X7.returnOut hx Bd.returns (hb hby d5_19) hr) (by show Q5z Z a0 p1 q2 lo hi h0 n0 _ T7.heap _; rw [e7]; exact ⟨rfl, N7, Kp7, Fw7, F9⟩) (by decide) (by decide)
theorem d5_4 : decode prog_5_method_3_code 4 = .ok (.aload_n 0, 1) := by decide +kernel
theorem d5_5 : decode prog_5_method_3_code 5 = .ok (.lload_n 2, 1) := by decide +kernel
theorem d5_6 : decode prog_5_method_3_code 6 = .ok (.putfield 11, 3) := by decide +kernel
theorem d5_9 : decode prog_5_method_3_code 9 = .ok (.goto 10, 3) := by decide +kernel
theorem ef5o (m : MethodId) (a0 : Addr) (p1 : Int32) (q2 : Int64) : entryFrame m #[(.ref a0), (.int p1), (.long q2)] 4 = mkF m 0 #[rv a0, iv p1, .val (.long q2), .second] [] := by first | (simp [entryFrame, mkF, argsToLocals, Value.category]; done) | rfl
def Q5o (Z : State) (a0 : Addr) (p1 : Int32) (q2 : Int64) (lo : Int64) (hi : Int64) (h0 : Heap) (n0 : Nat) (v : Option Value) (h : Heap) (L : List Loc) : Prop := v = none ∧ Fr n0 L ∧ Keep h0 h [a0] ∧ Fld Z h a0 "com/example/rowfold/rowfold/codec/CodeRange" "low" "J" (.long lo) ∧ Fld Z h a0 "com/example/rowfold/rowfold/codec/CodeRange" "high" "J" (.long q2)
set_option maxRecDepth 65536 in
set_option maxHeartbeats 40000000 in
theorem rm5o (l : Launch) (Z : State) (aZ : Array Value) (hw : ∀ d ∈ tables_1, d.before aZ Z = true) (ws : List Jvm.Cond) (a0 : Addr) (p1 : Int32) (q2 : Int64) (lo : Int64) (hi : Int64) (h0 : Heap) (n0 : Nat) (Z0 : n0 ≤ h0.size) (P0 : Exa Z h0 a0 "com/example/rowfold/rowfold/codec/CodeRange") (P1 : Fld Z h0 a0 "com/example/rowfold/rowfold/codec/CodeRange" "low" "J" (.long lo)) (P2 : Fld Z h0 a0 "com/example/rowfold/rowfold/codec/CodeRange" "high" "J" (.long hi)) (gq_a0 : n0 ≤ a0) (hz : ¬ (p1 = (0:Int32))) :
    MetFree l (⟨"com/example/rowfold/rowfold/codec/CodeRange", "narrow", "(IJ)V"⟩ : MethodName) (head1 (Jvm.Cond.code (⟨"com/example/rowfold/rowfold/codec/CodeRange", "narrow", "(IJ)V"⟩ : MethodName) prog_5_method_3_code 4 none :: ws) ({ frames := 0, cells := 0, slots := 0, locals := 0 } : Room)) (fun a U => a = #[(.ref a0), (.int p1), (.long q2)] ∧ Z.Warmed39 U.vm ∧ U.heap = h0) (fun _ _ _ _ _ => True) (fun _ U o U' => ∃ v L, o = .returned v ∧ Q5o Z a0 p1 q2 lo hi h0 n0 v U'.heap L ∧ FrameEnd U o U' L ({ frames := 0, cells := 0, slots := 0, locals := 0 } : Room).cells ({ frames := 0, cells := 0, slots := 0, locals := 0 } : Room).slots) := by
  refine MetFree.of_bodySF (plainFor_of_name own_pn0) hisR ?_
  intro p e s m args below meth c s₁ Bd hml0 hP hK
  obtain ⟨rfl, hZ, hh⟩ := hP
  have hx := Bd.exec
  have hby := Bd.bytes
  have hml : c.maxLocals = 4 := hml0
  have hown : s.vm.findClass "com/example/rowfold/rowfold/codec/CodeRange" = some m.cls := findClass_of_methodNamed Bd.named
  have hnm := (name_of_methodNamed Bd.named Bd.method).1
  have X0 : Stand p l e ({ frames := 0, cells := 0, slots := 0, locals := 0 } : Room) s m #[(.ref a0), (.int p1), (.long q2)] below meth c s₁ [] 0 0 := Stand.of_body Bd
  have e0 : s₁.heap = h0 := by rw [← hh, Bd.state]; rfl
  have N0 := Fr.nil n0
  have Kp0 : Keep h0 h0 [a0] := Keep.refl _ _
  show own_Goes p e below s (Q5o Z a0 p1 q2 lo hi h0 n0) ({ frames := 0, cells := 0, slots := 0, locals := 0 } : Room).cells ({ frames := 0, cells := 0, slots := 0, locals := 0 } : Room).slots _
  refine own_pre (fun t k => castTop (ef5o m a0 p1 q2) k) ?_
  have hd1_1 : ¬ (p1 = (0:Int32)) := hz
  refine own_pre (A := s₁.setTop (mkF m 6 #[rv a0, iv p1, .val (.long q2), .second] [(.long q2), (.ref a0)])) (fun t k => ?_) ?_
  · show Steps p.tables e below (s₁.setTop (mkF m 0 #[rv a0, iv p1, .val (.long q2), .second] [])) _
    refine XS.iloadN X0.here hx rfl (hb hby d5_0) rfl ?_
    show Steps p.tables e below (s₁.setTop (mkF m 1 #[rv a0, iv p1, .val (.long q2), .second] [(.int p1)])) _
    refine XS.ifNo X0.here hx rfl (hb hby d5_1) rfl (XT.i0_eq_f hd1_1) ?_
    show Steps p.tables e below (s₁.setTop (mkF m 4 #[rv a0, iv p1, .val (.long q2), .second] [])) _
    refine XS.aloadN X0.here hx rfl (hb hby d5_4) rfl rfl ?_
    show Steps p.tables e below (s₁.setTop (mkF m 5 #[rv a0, iv p1, .val (.long q2), .second] [(.ref a0)])) _
    refine XS.lloadN X0.here hx rfl (hb hby d5_5) rfl ?_
    exact k
  obtain ⟨T10, h10, X10, e10, W10, st10⟩ := putF X0 hx hZ hown (host := "") (Or.inl (own_h hw 21 rfl)) Via.refl e0 P2 P0 (Or.inl (own_h hw 22 rfl)) (own_h hw 12 rfl) (ty := .long) (by decide) rfl rfl (g := (mkF m 6 #[rv a0, iv p1, .val (.long q2), .second] [(.long q2), (.ref a0)])) rfl rfl (hb hby d5_6)
  have Kp10 : Keep h0 h10 [a0] := Kp0.wr W10 (Or.inl (List.mem_of_getElem? (i := 0) rfl))
  have Z11 : n0 ≤ h10.size := Nat.le_trans Z0 (Nat.le_of_eq W10.size.symm)
  have N10 := Fr.snoc X10 N0 gq_a0
  have Fw10 := P2.same W10
  refine own_pre st10 ?_
  refine own_pre (A := T10.setTop (mkF m 19 #[rv a0, iv p1, .val (.long q2), .second] [])) (fun t k => ?_) ?_
  · show Steps p.tables e below (T10.setTop (mkF m 9 #[rv a0, iv p1, .val (.long q2), .second] [])) _
    refine XS.goto X10.here hx rfl (pc0 := 9) (pc' := 19) rfl (hb hby d5_9) (by decide) (by decide) ?_
    exact k
  have F12 := (P1.other W10 (Or.inr (slot_ne (Or.inl (own_h hw 29 rfl)) (Or.inl (own_h hw 22 rfl)) (by decide) (t := .long) (t' := .long) (by decide) (by decide))))
  exact own_end X10 (BodyLoose.notSynchronized Bd) (fun _ => rfl) (v := none) (fun fs hr => X10.returnOut hx Bd.returns (hb hby d5_19) hr) (by show Q5o Z a0 p1 q2 lo hi h0 n0 _ T10.heap _; rw [e10]; exact ⟨rfl, N10, Kp10, F12, Fw10⟩) (by decide) (by decide)
theorem d6_0 : decode prog_5_method_5_code 0 = .ok (.aload_n 0, 1) := by decide +kernel
theorem d6_1 : decode prog_5_method_5_code 1 = .ok (.getfield 11, 3) := by decide +kernel
theorem d6_4 : decode prog_5_method_5_code 4 = .ok (.bipush 24, 2) := by decide +kernel
theorem d6_6 : decode prog_5_method_5_code 6 = .ok (.lushr, 1) := by decide +kernel
theorem d6_7 : decode prog_5_method_5_code 7 = .ok (.l2i, 1) := by decide +kernel
theorem d6_8 : decode prog_5_method_5_code 8 = .ok (.istore_n 1, 1) := by decide +kernel
theorem d6_9 : decode prog_5_method_5_code 9 = .ok (.aload_n 0, 1) := by decide +kernel
theorem d6_10 : decode prog_5_method_5_code 10 = .ok (.aload_n 0, 1) := by decide +kernel
theorem d6_11 : decode prog_5_method_5_code 11 = .ok (.getfield 15, 3) := by decide +kernel
theorem d6_14 : decode prog_5_method_5_code 14 = .ok (.bipush 8, 2) := by decide +kernel
theorem d6_16 : decode prog_5_method_5_code 16 = .ok (.lshl, 1) := by decide +kernel
theorem d6_17 : decode prog_5_method_5_code 17 = .ok (.ldc2_w 9, 3) := by decide +kernel
theorem d6_20 : decode prog_5_method_5_code 20 = .ok (.land, 1) := by decide +kernel
theorem d6_21 : decode prog_5_method_5_code 21 = .ok (.putfield 15, 3) := by decide +kernel
theorem d6_24 : decode prog_5_method_5_code 24 = .ok (.aload_n 0, 1) := by decide +kernel
theorem d6_25 : decode prog_5_method_5_code 25 = .ok (.aload_n 0, 1) := by decide +kernel
theorem d6_26 : decode prog_5_method_5_code 26 = .ok (.getfield 11, 3) := by decide +kernel
theorem d6_29 : decode prog_5_method_5_code 29 = .ok (.bipush 8, 2) := by decide +kernel
theorem d6_31 : decode prog_5_method_5_code 31 = .ok (.lshl, 1) := by decide +kernel
theorem d6_32 : decode prog_5_method_5_code 32 = .ok (.ldc2_w 9, 3) := by decide +kernel
theorem d6_35 : decode prog_5_method_5_code 35 = .ok (.land, 1) := by decide +kernel
theorem d6_36 : decode prog_5_method_5_code 36 = .ok (.ldc2_w 22, 3) := by decide +kernel
theorem d6_39 : decode prog_5_method_5_code 39 = .ok (.lor, 1) := by decide +kernel
theorem d6_40 : decode prog_5_method_5_code 40 = .ok (.putfield 11, 3) := by decide +kernel
theorem d6_43 : decode prog_5_method_5_code 43 = .ok (.iload_n 1, 1) := by decide +kernel
theorem d6_44 : decode prog_5_method_5_code 44 = .ok (.ireturn, 1) := by decide +kernel
theorem ef6 (m : MethodId) (a0 : Addr) : entryFrame m #[(.ref a0)] 2 = mkF m 0 #[rv a0, .unset] [] := by first | (simp [entryFrame, mkF, argsToLocals, Value.category]; done) | rfl
def Q6 (Z : State) (a0 : Addr) (lo : Int64) (hi : Int64) (h0 : Heap) (n0 : Nat) (v : Option Value) (h : Heap) (L : List Loc) : Prop := v = some (.int ((hi.toUInt64 >>> ((24:Int32) &&& 0x3f).toInt64.toUInt64).toInt64.toInt32)) ∧ Fr n0 L ∧ Keep h0 h [a0] ∧ Fld Z h a0 "com/example/rowfold/rowfold/codec/CodeRange" "low" "J" (.long ((lo <<< ((8:Int32) &&& 0x3f).toInt64) &&& (4294967295:Int64))) ∧ Fld Z h a0 "com/example/rowfold/rowfold/codec/CodeRange" "high" "J" (.long (((hi <<< ((8:Int32) &&& 0x3f).toInt64) &&& (4294967295:Int64)) ||| (255:Int64)))
set_option maxRecDepth 65536 in
set_option maxHeartbeats 40000000 in
theorem rm6 (l : Launch) (Z : State) (aZ : Array Value) (hw : ∀ d ∈ tables_1, d.before aZ Z = true) (ws : List Jvm.Cond) (a0 : Addr) (lo : Int64) (hi : Int64) (h0 : Heap) (n0 : Nat) (Z0 : n0 ≤ h0.size) (P0 : Exa Z h0 a0 "com/example/rowfold/rowfold/codec/CodeRange") (P1 : Fld Z h0 a0 "com/example/rowfold/rowfold/codec/CodeRange" "low" "J" (.long lo)) (P2 : Fld Z h0 a0 "com/example/rowfold/rowfold/codec/CodeRange" "high" "J" (.long hi)) (gq_a0 : n0 ≤ a0) :
    MetFree l (⟨"com/example/rowfold/rowfold/codec/CodeRange", "shift", "()I"⟩ : MethodName) (head1 (Jvm.Cond.code (⟨"com/example/rowfold/rowfold/codec/CodeRange", "shift", "()I"⟩ : MethodName) prog_5_method_5_code 2 (some .int) :: ws) ({ frames := 0, cells := 0, slots := 0, locals := 0 } : Room)) (fun a U => a = #[(.ref a0)] ∧ Z.Warmed39 U.vm ∧ U.heap = h0) (fun _ _ _ _ _ => True) (fun _ U o U' => ∃ v L, o = .returned v ∧ Q6 Z a0 lo hi h0 n0 v U'.heap L ∧ FrameEnd U o U' L ({ frames := 0, cells := 0, slots := 0, locals := 0 } : Room).cells ({ frames := 0, cells := 0, slots := 0, locals := 0 } : Room).slots) := by
  refine MetFree.of_bodySF (plainFor_of_name own_pn0) hisR ?_
  intro p e s m args below meth c s₁ Bd hml0 hP hK
  obtain ⟨rfl, hZ, hh⟩ := hP
  have hx := Bd.exec
  have hby := Bd.bytes
  have hml : c.maxLocals = 2 := hml0
  have hown : s.vm.findClass "com/example/rowfold/rowfold/codec/CodeRange" = some m.cls := findClass_of_methodNamed Bd.named
  have hnm := (name_of_methodNamed Bd.named Bd.method).1
  have X0 : Stand p l e ({ frames := 0, cells := 0, slots := 0, locals := 0 } : Room) s m #[(.ref a0)] below meth c s₁ [] 0 0 := Stand.of_body Bd
  have e0 : s₁.heap = h0 := by rw [← hh, Bd.state]; rfl
  have N0 := Fr.nil n0
  have Kp0 : Keep h0 h0 [a0] := Keep.refl _ _
  show own_Goes p e below s (Q6 Z a0 lo hi h0 n0) ({ frames := 0, cells := 0, slots := 0, locals := 0 } : Room).cells ({ frames := 0, cells := 0, slots := 0, locals := 0 } : Room).slots _
  refine own_pre (fun t k => castTop (ef6 m a0) k) ?_
  refine own_pre (A := s₁.setTop (mkF m 1 #[rv a0, .unset] [(.ref a0)])) (fun t k => ?_) ?_
  · show Steps p.tables e below (s₁.setTop (mkF m 0 #[rv a0, .unset] [])) _
    refine XS.aloadN X0.here hx rfl (hb hby d6_0) rfl rfl ?_
    exact k
  obtain ⟨T13, X13, e13, st13⟩ := getF X0 hx hZ hown (host := "") (Or.inl (own_h hw 21 rfl)) Via.refl e0 P2 (g := (mkF m 1 #[rv a0, .unset] [(.ref a0)])) rfl rfl (hb hby d6_1)
  refine own_pre st13 ?_
  obtain ⟨w6_1, hw6_1⟩ : ∃ z : Int32, z = (((hi.toUInt64 >>> ((24:Int32) &&& 0x3f).toInt64.toUInt64).toInt64).toInt32) := ⟨_, rfl⟩
  refine own_pre (A := T13.setTop (mkF m 11 #[rv a0, iv w6_1] [(.ref a0), (.ref a0)])) (fun t k => ?_) ?_
  · show Steps p.tables e below (T13.setTop (mkF m 4 #[rv a0, .unset] [(.long hi)])) _
    refine XS.bipush X13.here hx rfl (hb hby d6_4) ?_
    show Steps p.tables e below (T13.setTop (mkF m 6 #[rv a0, .unset] [(.int (24:Int32)), (.long hi)])) _
    refine XS.lushr X13.here hx rfl (hb hby d6_6) rfl ?_
    show Steps p.tables e below (T13.setTop (mkF m 7 #[rv a0, .unset] [(.long ((hi.toUInt64 >>> ((24:Int32) &&& 0x3f).toInt64.toUInt64).toInt64))])) _
    refine XS.l2i X13.here hx rfl (hb hby d6_7) rfl ?_
    show Steps p.tables e below (T13.setTop (mkF m 8 #[rv a0, .unset] [(.int (((hi.toUInt64 >>> ((24:Int32) &&& 0x3f).toInt64.toUInt64).toInt64).toInt32))])) _
    refine XS.istoreN X13.here hx rfl (hb hby d6_8) rfl (l' := #[rv a0, iv w6_1]) (by rw [hw6_1]; rfl) ?_
    show Steps p.tables e below (T13.setTop (mkF m 9 #[rv a0, iv w6_1] [])) _
    refine XS.aloadN X13.here hx rfl (hb hby d6_9) rfl rfl ?_
    show Steps p.tables e below (T13.setTop (mkF m 10 #[rv a0, iv w6_1] [(.ref a0)])) _
    refine XS.aloadN X13.here hx rfl (hb hby d6_10) rfl rfl ?_
    exact k
  obtain ⟨T14, X14, e14, st14⟩ := getF X13 hx hZ hown (host := "") (Or.inl (own_h hw 28 rfl)) Via.refl e13 P1 (g := (mkF m 11 #[rv a0, iv w6_1] [(.ref a0), (.ref a0)])) rfl rfl (hb hby d6_11)
  refine own_pre st14 ?_
  refine own_pre (A := T14.setTop (mkF m 21 #[rv a0, iv w6_1] [(.long ((lo <<< ((8:Int32) &&& 0x3f).toInt64) &&& (4294967295:Int64))), (.ref a0)])) (fun t k => ?_) ?_
  · show Steps p.tables e below (T14.setTop (mkF m 14 #[rv a0, iv w6_1] [(.long lo), (.ref a0)])) _
    refine XS.bipush X14.here hx rfl (hb hby d6_14) ?_
    show Steps p.tables e below (T14.setTop (mkF m 16 #[rv a0, iv w6_1] [(.int (8:Int32)), (.long lo), (.ref a0)])) _
    refine XS.lshl X14.here hx rfl (hb hby d6_16) rfl ?_
    show Steps p.tables e below (T14.setTop (mkF m 17 #[rv a0, iv w6_1] [(.long (lo <<< ((8:Int32) &&& 0x3f).toInt64)), (.ref a0)])) _
    refine Jvm.Stand.ldc2J X14 hx hown (mvT hZ (own_h hw 20 rfl)) rfl (hb hby d6_17) ?_
    show Steps p.tables e below (T14.setTop (mkF m 20 #[rv a0, iv w6_1] [(.long (4294967295:Int64)), (.long (lo <<< ((8:Int32) &&& 0x3f).toInt64)), (.ref a0)])) _
    refine XS.land X14.here hx rfl (hb hby d6_20) rfl ?_
    exact k
  obtain ⟨T15, h15, X15, e15, W15, st15⟩ := putF X14 hx hZ hown (host := "") (Or.inl (own_h hw 28 rfl)) Via.refl e14 P1 P0 (Or.inl (own_h hw 29 rfl)) (own_h hw 12 rfl) (ty := .long) (by decide) rfl rfl (g := (mkF m 21 #[rv a0, iv w6_1] [(.long ((lo <<< ((8:Int32) &&& 0x3f).toInt64) &&& (4294967295:Int64))), (.ref a0)])) rfl rfl (hb hby d6_21)
  have Kp15 : Keep h0 h15 [a0] := Kp0.wr W15 (Or.inl (List.mem_of_getElem? (i := 0) rfl))
  have Z16 : n0 ≤ h15.size := Nat.le_trans Z0 (Nat.le_of_eq W15.size.symm)
  have N15 := Fr.snoc X15 N0 gq_a0
  have Fw15 := P1.same W15
  refine own_pre st15 ?_
  refine own_pre (A := T15.setTop (mkF m 26 #[rv a0, iv w6_1] [(.ref a0), (.ref a0)])) (fun t k => ?_) ?_
  · show Steps p.tables e below (T15.setTop (mkF m 24 #[rv a0, iv w6_1] [])) _
    refine XS.aloadN X15.here hx rfl (hb hby d6_24) rfl rfl ?_
    show Steps p.tables e below (T15.setTop (mkF m 25 #[rv a0, iv w6_1] [(.ref a0)])) _
    refine XS.aloadN X15.here hx rfl (hb hby d6_25) rfl rfl ?_
    exact k
  have F18 := (P2.other W15 (Or.inr (slot_ne (Or.inl (own_h hw 22 rfl)) (Or.inl (own_h hw 29 rfl)) (by decide) (t := .long) (t' := .long) (by decide) (by decide))))
  obtain ⟨T17, X17, e17, st17⟩ := getF X15 hx hZ hown (host := "") (Or.inl (own_h hw 21 rfl)) Via.refl e15 F18 (g := (mkF m 26 #[rv a0, iv w6_1] [(.ref a0), (.ref a0)])) rfl rfl (hb hby d6_26)
  refine own_pre st17 ?_
  refine own_pre (A := T17.setTop (mkF m 40 #[rv a0, iv w6_1] [(.long (((hi <<< ((8:Int32) &&& 0x3f).toInt64) &&& (4294967295:Int64)) ||| (255:Int64))), (.ref a0)])) (fun t k => ?_) ?_
  · show Steps p.tables e below (T17.setTop (mkF m 29 #[rv a0, iv w6_1] [(.long hi), (.ref a0)])) _
    refine XS.bipush X17.here hx rfl (hb hby d6_29) ?_
    show Steps p.tables e below (T17.setTop (mkF m 31 #[rv a0, iv w6_1] [(.int (8:Int32)), (.long hi), (.ref a0)])) _
    refine XS.lshl X17.here hx rfl (hb hby d6_31) rfl ?_
    show Steps p.tables e below (T17.setTop (mkF m 32 #[rv a0, iv w6_1] [(.long (hi <<< ((8:Int32) &&& 0x3f).toInt64)), (.ref a0)])) _
    refine Jvm.Stand.ldc2J X17 hx hown (mvT hZ (own_h hw 20 rfl)) rfl (hb hby d6_32) ?_
    show Steps p.tables e below (T17.setTop (mkF m 35 #[rv a0, iv w6_1] [(.long (4294967295:Int64)), (.long (hi <<< ((8:Int32) &&& 0x3f).toInt64)), (.ref a0)])) _
    refine XS.land X17.here hx rfl (hb hby d6_35) rfl ?_
    show Steps p.tables e below (T17.setTop (mkF m 36 #[rv a0, iv w6_1] [(.long ((hi <<< ((8:Int32) &&& 0x3f).toInt64) &&& (4294967295:Int64))), (.ref a0)])) _
    refine Jvm.Stand.ldc2J X17 hx hown (mvT hZ (own_h hw 35 rfl)) rfl (hb hby d6_36) ?_
    show Steps p.tables e below (T17.setTop (mkF m 39 #[rv a0, iv w6_1] [(.long (255:Int64)), (.long ((hi <<< ((8:Int32) &&& 0x3f).toInt64) &&& (4294967295:Int64))), (.ref a0)])) _
    refine XS.lor X17.here hx rfl (hb hby d6_39) rfl ?_
    exact k
  have F20 := (P0.wr W15)
  obtain ⟨T19, h19, X19, e19, W19, st19⟩ := putF X17 hx hZ hown (host := "") (Or.inl (own_h hw 21 rfl)) Via.refl e17 F18 F20 (Or.inl (own_h hw 22 rfl)) (own_h hw 12 rfl) (ty := .long) (by decide) rfl rfl (g := (mkF m 40 #[rv a0, iv w6_1] [(.long (((hi <<< ((8:Int32) &&& 0x3f).toInt64) &&& (4294967295:Int64)) ||| (255:Int64))), (.ref a0)])) rfl rfl (hb hby d6_40)
  have Kp19 : Keep h0 h19 [a0] := Kp15.wr W19 (Or.inl (List.mem_of_getElem? (i := 0) rfl))
  have Z21 : n0 ≤ h19.size := Nat.le_trans Z16 (Nat.le_of_eq W19.size.symm)
  have N19 := Fr.snoc X19 N15 gq_a0
  have Fw19 := F18.same W19
  refine own_pre st19 ?_
  refine own_pre (A := T19.setTop (mkF m 44 #[rv a0, iv w6_1] [(.int w6_1)])) (fun t k => ?_) ?_
  · show Steps p.tables e below (T19.setTop (mkF m 43 #[rv a0, iv w6_1] [])) _
    refine XS.iloadN X19.here hx rfl (hb hby d6_43) rfl ?_
    exact k
  have F22 := (Fw15.other W19 (Or.inr (slot_ne (Or.inl (own_h hw 29 rfl)) (Or.inl (own_h hw 22 rfl)) (by decide) (t := .long) (t' := .long) (by decide) (by decide))))
  exact own_end X19 (BodyLoose.notSynchronized Bd) (fun h => by rw [Bd.returns] at h; cases h) (v := some (.int w6_1)) (fun fs hr => retOut X19 hx Bd.returns rfl (by simp [Value.isRef, FieldType.isReference]) (hb hby d6_44) hr) (by show Q6 Z a0 lo hi h0 n0 _ T19.heap _; rw [e19]; exact ⟨(by subst hw6_1; rfl), N19, Kp19, (by subst hw6_1; first | exact F22), (by subst hw6_1; first | exact Fw19)⟩) (by decide) (by decide)
theorem d7_0 : decode prog_5_method_2_code 0 = .ok (.aload_n 0, 1) := by decide +kernel
theorem d7_1 : decode prog_5_method_2_code 1 = .ok (.getfield 15, 3) := by decide +kernel
theorem d7_4 : decode prog_5_method_2_code 4 = .ok (.aload_n 0, 1) := by decide +kernel
theorem d7_5 : decode prog_5_method_2_code 5 = .ok (.getfield 11, 3) := by decide +kernel
theorem d7_8 : decode prog_5_method_2_code 8 = .ok (.aload_n 0, 1) := by decide +kernel
theorem d7_9 : decode prog_5_method_2_code 9 = .ok (.getfield 15, 3) := by decide +kernel
theorem d7_12 : decode prog_5_method_2_code 12 = .ok (.lsub, 1) := by decide +kernel
theorem d7_13 : decode prog_5_method_2_code 13 = .ok (.bipush 12, 2) := by decide +kernel
theorem d7_15 : decode prog_5_method_2_code 15 = .ok (.lushr, 1) := by decide +kernel
theorem d7_16 : decode prog_5_method_2_code 16 = .ok (.iload_n 1, 1) := by decide +kernel
theorem d7_17 : decode prog_5_method_2_code 17 = .ok (.i2l, 1) := by decide +kernel
theorem d7_18 : decode prog_5_method_2_code 18 = .ok (.lmul, 1) := by decide +kernel
theorem d7_19 : decode prog_5_method_2_code 19 = .ok (.ladd, 1) := by decide +kernel
theorem d7_20 : decode prog_5_method_2_code 20 = .ok (.lreturn, 1) := by decide +kernel
theorem ef7 (m : MethodId) (a0 : Addr) (p1 : Int32) : entryFrame m #[(.ref a0), (.int p1)] 2 = mkF m 0 #[rv a0, iv p1] [] := by first | (simp [entryFrame, mkF, argsToLocals, Value.category]; done) | rfl
def f7 (p1 : Int32) (lo : Int64) (hi : Int64) : Int64 := (lo + ((((hi - lo).toUInt64 >>> ((12:Int32) &&& 0x3f).toInt64.toUInt64).toInt64) * (p1.toInt64)))
def Q7 (Z : State) (a0 : Addr) (p1 : Int32) (lo : Int64) (hi : Int64) (h0 : Heap) (n0 : Nat) (v : Option Value) (h : Heap) (L : List Loc) : Prop := v = some (.long (f7 p1 lo hi)) ∧ Fr n0 L ∧ h = h0
set_option maxRecDepth 65536 in
set_option maxHeartbeats 40000000 in
theorem rm7 (l : Launch) (Z : State) (aZ : Array Value) (hw : ∀ d ∈ tables_1, d.before aZ Z = true) (ws : List Jvm.Cond) (a0 : Addr) (p1 : Int32) (lo : Int64) (hi : Int64) (h0 : Heap) (n0 : Nat) (Z0 : n0 ≤ h0.size) (P0 : Fld Z h0 a0 "com/example/rowfold/rowfold/codec/CodeRange" "low" "J" (.long lo)) (P1 : Fld Z h0 a0 "com/example/rowfold/rowfold/codec/CodeRange" "high" "J" (.long hi)) :
    MetFree l (⟨"com/example/rowfold/rowfold/codec/CodeRange", "middle", "(I)J"⟩ : MethodName) (head1 (Jvm.Cond.code (⟨"com/example/rowfold/rowfold/codec/CodeRange", "middle", "(I)J"⟩ : MethodName) prog_5_method_2_code 2 (some .long) :: ws) ({ frames := 0, cells := 0, slots := 0, locals := 0 } : Room)) (fun a U => a = #[(.ref a0), (.int p1)] ∧ Z.Warmed39 U.vm ∧ U.heap = h0) (fun _ _ _ _ _ => True) (fun _ U o U' => ∃ v L, o = .returned v ∧ Q7 Z a0 p1 lo hi h0 n0 v U'.heap L ∧ FrameEnd U o U' L ({ frames := 0, cells := 0, slots := 0, locals := 0 } : Room).cells ({ frames := 0, cells := 0, slots := 0, locals := 0 } : Room).slots) := by
  refine MetFree.of_bodySF (plainFor_of_name own_pn0) hisR ?_
  intro p e s m args below meth c s₁ Bd hml0 hP hK
  obtain ⟨rfl, hZ, hh⟩ := hP
  have hx := Bd.exec
  have hby := Bd.bytes
  have hml : c.maxLocals = 2 := hml0
  have hown : s.vm.findClass "com/example/rowfold/rowfold/codec/CodeRange" = some m.cls := findClass_of_methodNamed Bd.named
  have hnm := (name_of_methodNamed Bd.named Bd.method).1
  have X0 : Stand p l e ({ frames := 0, cells := 0, slots := 0, locals := 0 } : Room) s m #[(.ref a0), (.int p1)] below meth c s₁ [] 0 0 := Stand.of_body Bd
  have e0 : s₁.heap = h0 := by rw [← hh, Bd.state]; rfl
  have N0 := Fr.nil n0
  show own_Goes p e below s (Q7 Z a0 p1 lo hi h0 n0) ({ frames := 0, cells := 0, slots := 0, locals := 0 } : Room).cells ({ frames := 0, cells := 0, slots := 0, locals := 0 } : Room).slots _
  refine own_pre (fun t k => castTop (ef7 m a0 p1) k) ?_
  refine own_pre (A := s₁.setTop (mkF m 1 #[rv a0, iv p1] [(.ref a0)])) (fun t k => ?_) ?_
  · show Steps p.tables e below (s₁.setTop (mkF m 0 #[rv a0, iv p1] [])) _
    refine XS.aloadN X0.here hx rfl (hb hby d7_0) rfl rfl ?_
    exact k
  obtain ⟨T23, X23, e23, st23⟩ := getF X0 hx hZ hown (host := "") (Or.inl (own_h hw 28 rfl)) Via.refl e0 P0 (g := (mkF m 1 #[rv a0, iv p1] [(.ref a0)])) rfl rfl (hb hby d7_1)
  refine own_pre st23 ?_
  refine own_pre (A := T23.setTop (mkF m 5 #[rv a0, iv p1] [(.ref a0), (.long lo)])) (fun t k => ?_) ?_
  · show Steps p.tables e below (T23.setTop (mkF m 4 #[rv a0, iv p1] [(.long lo)])) _
    refine XS.aloadN X23.here hx rfl (hb hby d7_4) rfl rfl ?_
    exact k
  obtain ⟨T24, X24, e24, st24⟩ := getF X23 hx hZ hown (host := "") (Or.inl (own_h hw 21 rfl)) Via.refl e23 P1 (g := (mkF m 5 #[rv a0, iv p1] [(.ref a0), (.long lo)])) rfl rfl (hb hby d7_5)
  refine own_pre st24 ?_
  refine own_pre (A := T24.setTop (mkF m 9 #[rv a0, iv p1] [(.ref a0), (.long hi), (.long lo)])) (fun t k => ?_) ?_
  · show Steps p.tables e below (T24.setTop (mkF m 8 #[rv a0, iv p1] [(.long hi), (.long lo)])) _
    refine XS.aloadN X24.here hx rfl (hb hby d7_8) rfl rfl ?_
    exact k
  obtain ⟨T25, X25, e25, st25⟩ := getF X24 hx hZ hown (host := "") (Or.inl (own_h hw 28 rfl)) Via.refl e24 P0 (g := (mkF m 9 #[rv a0, iv p1] [(.ref a0), (.long hi), (.long lo)])) rfl rfl (hb hby d7_9)
  refine own_pre st25 ?_
  refine own_pre (A := T25.setTop (mkF m 20 #[rv a0, iv p1] [(.long (lo + ((((hi - lo).toUInt64 >>> ((12:Int32) &&& 0x3f).toInt64.toUInt64).toInt64) * (p1.toInt64))))])) (fun t k => ?_) ?_
  · show Steps p.tables e below (T25.setTop (mkF m 12 #[rv a0, iv p1] [(.long lo), (.long hi), (.long lo)])) _
    refine XS.lsub X25.here hx rfl (hb hby d7_12) rfl ?_
    show Steps p.tables e below (T25.setTop (mkF m 13 #[rv a0, iv p1] [(.long (hi - lo)), (.long lo)])) _
    refine XS.bipush X25.here hx rfl (hb hby d7_13) ?_
    show Steps p.tables e below (T25.setTop (mkF m 15 #[rv a0, iv p1] [(.int (12:Int32)), (.long (hi - lo)), (.long lo)])) _
    refine XS.lushr X25.here hx rfl (hb hby d7_15) rfl ?_
    show Steps p.tables e below (T25.setTop (mkF m 16 #[rv a0, iv p1] [(.long (((hi - lo).toUInt64 >>> ((12:Int32) &&& 0x3f).toInt64.toUInt64).toInt64)), (.long lo)])) _
    refine XS.iloadN X25.here hx rfl (hb hby d7_16) rfl ?_
    show Steps p.tables e below (T25.setTop (mkF m 17 #[rv a0, iv p1] [(.int p1), (.long (((hi - lo).toUInt64 >>> ((12:Int32) &&& 0x3f).toInt64.toUInt64).toInt64)), (.long lo)])) _
    refine XS.i2l X25.here hx rfl (hb hby d7_17) rfl ?_
    show Steps p.tables e below (T25.setTop (mkF m 18 #[rv a0, iv p1] [(.long (p1.toInt64)), (.long (((hi - lo).toUInt64 >>> ((12:Int32) &&& 0x3f).toInt64.toUInt64).toInt64)), (.long lo)])) _
    refine XS.lmul X25.here hx rfl (hb hby d7_18) rfl ?_
    show Steps p.tables e below (T25.setTop (mkF m 19 #[rv a0, iv p1] [(.long ((((hi - lo).toUInt64 >>> ((12:Int32) &&& 0x3f).toInt64.toUInt64).toInt64) * (p1.toInt64))), (.long lo)])) _
    refine XS.ladd X25.here hx rfl (hb hby d7_19) rfl ?_
    exact k
  have hv26 : (lo + ((((hi - lo).toUInt64 >>> ((12:Int32) &&& 0x3f).toInt64.toUInt64).toInt64) * (p1.toInt64))) = f7 p1 lo hi := by rfl
  exact own_end X25 (BodyLoose.notSynchronized Bd) (fun h => by rw [Bd.returns] at h; cases h) (v := some (.long (lo + ((((hi - lo).toUInt64 >>> ((12:Int32) &&& 0x3f).toInt64.toUInt64).toInt64) * (p1.toInt64))))) (fun fs hr => retOut X25 hx Bd.returns rfl (by simp [Value.isRef, FieldType.isReference]) (hb hby d7_20) hr) (by show Q7 Z a0 p1 lo hi h0 n0 _ T25.heap _; rw [e25]; exact ⟨(congrArg (fun z => some (Value.long z)) hv26), N0, rfl⟩) (by decide) (by decide)
theorem own_pn1 : plainName "com/example/rowfold/rowfold/codec/CodeRangeShiftPinLaw" = true := by first | (simp [plainName, overriddenIn]; done) | decide +kernel
theorem own_pd0 : parseMethodDescriptor "(JJ)J" = some ⟨[.long, .long], some .long⟩ := by decide +kernel
theorem own_pd1 : parseMethodDescriptor "()V" = some ⟨[], none⟩ := by decide +kernel
theorem own_pd2 : parseMethodDescriptor "(IJ)V" = some ⟨[.int, .long], none⟩ := by decide +kernel
theorem own_pd3 : parseMethodDescriptor "()I" = some ⟨[], some .int⟩ := by decide +kernel
theorem own_pd4 : parseMethodDescriptor "(I)J" = some ⟨[.int], some .long⟩ := by decide +kernel
theorem ef0 (m : MethodId) (p0 : Int32) (p1 : Int32) (p2 : Int32) : entryFrame m #[(.int p0), (.int p1), (.int p2)] maxLocals = mkF m 0 #[iv p0, iv p1, iv p2, .unset, .unset, .unset, .unset, .unset, .unset, .unset, .unset, .unset, .unset, .unset, .unset, .unset, .unset, .unset, .unset, .unset, .unset, .unset, .unset, .unset, .unset, .unset, .unset, .unset, .unset] [] := by first | (simp [entryFrame, mkF, argsToLocals, Value.category, maxLocals]; done) | rfl
def f0 (p0 : Int32) (p1 : Int32) (p2 : Int32) : Int32 := (let w0_1 : Int64 := ((p0 &&& (255:Int32)).toInt64); let w0_2 : Int64 := ((p1 &&& (16777215:Int32)).toInt64); let w0_3 : Int64 := ((p2 &&& (16777215:Int32)).toInt64); let w0_4 : Int64 := ((w0_1 * (16777216:Int64)) + (f1 w0_2 w0_3)); let w0_5 : Int64 := ((w0_1 * (16777216:Int64)) + (f2 w0_2 w0_3)); let w0_6 : Int64 := ((f1 w0_2 w0_3) * (256:Int64)); let w0_7 : Int64 := (((f2 w0_2 w0_3) * (256:Int64)) + (255:Int64)); let w0_8 : Int32 := ((w0_5.toUInt64 >>> ((24:Int32) &&& 0x3f).toInt64.toUInt64).toInt64.toInt32); let w0_9 : Int64 := (f7 (0:Int32) ((((w0_4 - (1:Int64)) + (1:Int64)) <<< ((8:Int32) &&& 0x3f).toInt64) &&& (4294967295:Int64)) (((w0_5 <<< ((8:Int32) &&& 0x3f).toInt64) &&& (4294967295:Int64)) ||| (255:Int64))); let w0_10 : Int64 := (f7 (1:Int32) ((w0_7 - (1:Int64)) + (1:Int64)) (((w0_5 <<< ((8:Int32) &&& 0x3f).toInt64) &&& (4294967295:Int64)) ||| (255:Int64))); let w0_11 : Int64 := (f7 (1:Int32) ((w0_7 - (4096:Int64)) + (1:Int64)) (((w0_5 <<< ((8:Int32) &&& 0x3f).toInt64) &&& (4294967295:Int64)) ||| (255:Int64))); let w0_12 : Int32 := (if w0_8 = (w0_1.toInt32) then (if w0_9 = w0_6 then (if w0_10 = w0_7 then (if w0_11 = (w0_7 - (4095:Int64)) then (1:Int32) else (0:Int32)) else (0:Int32)) else (0:Int32)) else (0:Int32)); (w0_12 &&& 1))
def Q0 (Z : State) (p0 : Int32) (p1 : Int32) (p2 : Int32)  (h0 : Heap) (n0 : Nat) (v : Option Value) (h : Heap) (L : List Loc) : Prop := v = some (.int (f0 p0 p1 p2)) ∧ Fr n0 L
set_option maxRecDepth 65536 in
set_option maxHeartbeats 40000000 in
theorem rm0 (l : Launch) (Z : State) (aZ : Array Value) (hw : ∀ d ∈ tables_1, d.before aZ Z = true) (ws : List Jvm.Cond) (p0 : Int32) (p1 : Int32) (p2 : Int32)  (h0 : Heap) (n0 : Nat) (Z0 : n0 ≤ h0.size)  :
    MetFree l x (head1 (Jvm.Cond.code x code maxLocals ret :: ws) room_1) (fun a U => a = #[(.int p0), (.int p1), (.int p2)] ∧ Z.Warmed39 U.vm ∧ U.heap = h0) (fun _ _ _ _ _ => True) (fun _ U o U' => ∃ v L, o = .returned v ∧ Q0 Z p0 p1 p2 h0 n0 v U'.heap L ∧ FrameEnd U o U' L 1 2) := by
  refine MetFree.of_bodySF (plainFor_of_name own_pn1) hisR ?_
  intro p e s m args below meth c s₁ Bd hml0 hP hK
  obtain ⟨rfl, hZ, hh⟩ := hP
  have hx := Bd.exec
  have hby := Bd.bytes
  have hml : c.maxLocals = 29 := hml0
  have hown : s.vm.findClass "com/example/rowfold/rowfold/codec/CodeRangeShiftPinLaw" = some m.cls := findClass_of_methodNamed Bd.named
  have hnm := (name_of_methodNamed Bd.named Bd.method).1
  have X0 : Stand p l e room_1 s m #[(.int p0), (.int p1), (.int p2)] below meth c s₁ [] 0 0 := Stand.of_body Bd
  have e0 : s₁.heap = h0 := by rw [← hh, Bd.state]; rfl
  have N0 := Fr.nil n0
  show own_Goes p e below s (Q0 Z p0 p1 p2 h0 n0) 1 2 _
  refine own_pre (fun t k => castTop (ef0 m p0 p1 p2) k) ?_
  obtain ⟨w0_1, hw0_1⟩ : ∃ z : Int64, z = ((p0 &&& (255:Int32)).toInt64) := ⟨_, rfl⟩
  obtain ⟨w0_2, hw0_2⟩ : ∃ z : Int64, z = ((p1 &&& (16777215:Int32)).toInt64) := ⟨_, rfl⟩
  obtain ⟨w0_3, hw0_3⟩ : ∃ z : Int64, z = ((p2 &&& (16777215:Int32)).toInt64) := ⟨_, rfl⟩
  refine own_pre (A := s₁.setTop (mkF m 25 #[iv p0, iv p1, iv p2, .val (.long w0_1), .second, .val (.long w0_2), .second, .val (.long w0_3), .second, .unset, .unset, .unset, .unset, .unset, .unset, .unset, .unset, .unset, .unset, .unset, .unset, .unset, .unset, .unset, .unset, .unset, .unset, .unset, .unset] [(.long w0_3), (.long w0_2)])) (fun t k => ?_) ?_
  · show Steps p.tables e below (s₁.setTop (mkF m 0 #[iv p0, iv p1, iv p2, .unset, .unset, .unset, .unset, .unset, .unset, .unset, .unset, .unset, .unset, .unset, .unset, .unset, .unset, .unset, .unset, .unset, .unset, .unset, .unset, .unset, .unset, .unset, .unset, .unset, .unset] [])) _
    refine XS.iloadN X0.here hx rfl (hb hby at_0) rfl ?_
    show Steps p.tables e below (s₁.setTop (mkF m 1 #[iv p0, iv p1, iv p2, .unset, .unset, .unset, .unset, .unset, .unset, .unset, .unset, .unset, .unset, .unset, .unset, .unset, .unset, .unset, .unset, .unset, .unset, .unset, .unset, .unset, .unset, .unset, .unset, .unset, .unset] [(.int p0)])) _
    refine XS.sipush X0.here hx rfl (hb hby at_1) ?_
    show Steps p.tables e below (s₁.setTop (mkF m 4 #[iv p0, iv p1, iv p2, .unset, .unset, .unset, .unset, .unset, .unset, .unset, .unset, .unset, .unset, .unset, .unset, .unset, .unset, .unset, .unset, .unset, .unset, .unset, .unset, .unset, .unset, .unset, .unset, .unset, .unset] [(.int (255:Int32)), (.int p0)])) _
    refine XS.iand X0.here hx rfl (hb hby at_4) rfl ?_
    show Steps p.tables e below (s₁.setTop (mkF m 5 #[iv p0, iv p1, iv p2, .unset, .unset, .unset, .unset, .unset, .unset, .unset, .unset, .unset, .unset, .unset, .unset, .unset, .unset, .unset, .unset, .unset, .unset, .unset, .unset, .unset, .unset, .unset, .unset, .unset, .unset] [(.int (p0 &&& (255:Int32)))])) _
    refine XS.i2l X0.here hx rfl (hb hby at_5) rfl ?_
    show Steps p.tables e below (s₁.setTop (mkF m 6 #[iv p0, iv p1, iv p2, .unset, .unset, .unset, .unset, .unset, .unset, .unset, .unset, .unset, .unset, .unset, .unset, .unset, .unset, .unset, .unset, .unset, .unset, .unset, .unset, .unset, .unset, .unset, .unset, .unset, .unset] [(.long ((p0 &&& (255:Int32)).toInt64))])) _
    refine XS.lstoreN X0.here hx rfl (hb hby at_6) rfl (l' := #[iv p0, iv p1, iv p2, .val (.long w0_1), .second, .unset, .unset, .unset, .unset, .unset, .unset, .unset, .unset, .unset, .unset, .unset, .unset, .unset, .unset, .unset, .unset, .unset, .unset, .unset, .unset, .unset, .unset, .unset, .unset]) (by rw [hw0_1]; rfl) ?_
    show Steps p.tables e below (s₁.setTop (mkF m 7 #[iv p0, iv p1, iv p2, .val (.long w0_1), .second, .unset, .unset, .unset, .unset, .unset, .unset, .unset, .unset, .unset, .unset, .unset, .unset, .unset, .unset, .unset, .unset, .unset, .unset, .unset, .unset, .unset, .unset, .unset, .unset] [])) _
    refine XS.iloadN X0.here hx rfl (hb hby at_7) rfl ?_
    show Steps p.tables e below (s₁.setTop (mkF m 8 #[iv p0, iv p1, iv p2, .val (.long w0_1), .second, .unset, .unset, .unset, .unset, .unset, .unset, .unset, .unset, .unset, .unset, .unset, .unset, .unset, .unset, .unset, .unset, .unset, .unset, .unset, .unset, .unset, .unset, .unset, .unset] [(.int p1)])) _
    refine Jvm.Stand.ldcI X0 hx hown (mvT hZ (own_h hw 0 rfl)) rfl (hb hby at_8) ?_
    show Steps p.tables e below (s₁.setTop (mkF m 10 #[iv p0, iv p1, iv p2, .val (.long w0_1), .second, .unset, .unset, .unset, .unset, .unset, .unset, .unset, .unset, .unset, .unset, .unset, .unset, .unset, .unset, .unset, .unset, .unset, .unset, .unset, .unset, .unset, .unset, .unset, .unset] [(.int (16777215:Int32)), (.int p1)])) _
    refine XS.iand X0.here hx rfl (hb hby at_10) rfl ?_
    show Steps p.tables e below (s₁.setTop (mkF m 11 #[iv p0, iv p1, iv p2, .val (.long w0_1), .second, .unset, .unset, .unset, .unset, .unset, .unset, .unset, .unset, .unset, .unset, .unset, .unset, .unset, .unset, .unset, .unset, .unset, .unset, .unset, .unset, .unset, .unset, .unset, .unset] [(.int (p1 &&& (16777215:Int32)))])) _
    refine XS.i2l X0.here hx rfl (hb hby at_11) rfl ?_
    show Steps p.tables e below (s₁.setTop (mkF m 12 #[iv p0, iv p1, iv p2, .val (.long w0_1), .second, .unset, .unset, .unset, .unset, .unset, .unset, .unset, .unset, .unset, .unset, .unset, .unset, .unset, .unset, .unset, .unset, .unset, .unset, .unset, .unset, .unset, .unset, .unset, .unset] [(.long ((p1 &&& (16777215:Int32)).toInt64))])) _
    refine XS.lstore X0.here hx rfl (hb hby at_12) rfl (l' := #[iv p0, iv p1, iv p2, .val (.long w0_1), .second, .val (.long w0_2), .second, .unset, .unset, .unset, .unset, .unset, .unset, .unset, .unset, .unset, .unset, .unset, .unset, .unset, .unset, .unset, .unset, .unset, .unset, .unset, .unset, .unset, .unset]) (by rw [hw0_2]; rfl) ?_
    show Steps p.tables e below (s₁.setTop (mkF m 14 #[iv p0, iv p1, iv p2, .val (.long w0_1), .second, .val (.long w0_2), .second, .unset, .unset, .unset, .unset, .unset, .unset, .unset, .unset, .unset, .unset, .unset, .unset, .unset, .unset, .unset, .unset, .unset, .unset, .unset, .unset, .unset, .unset] [])) _
    refine XS.iloadN X0.here hx rfl (hb hby at_14) rfl ?_
    show Steps p.tables e below (s₁.setTop (mkF m 15 #[iv p0, iv p1, iv p2, .val (.long w0_1), .second, .val (.long w0_2), .second, .unset, .unset, .unset, .unset, .unset, .unset, .unset, .unset, .unset, .unset, .unset, .unset, .unset, .unset, .unset, .unset, .unset, .unset, .unset, .unset, .unset, .unset] [(.int p2)])) _
    refine Jvm.Stand.ldcI X0 hx hown (mvT hZ (own_h hw 0 rfl)) rfl (hb hby at_15) ?_
    show Steps p.tables e below (s₁.setTop (mkF m 17 #[iv p0, iv p1, iv p2, .val (.long w0_1), .second, .val (.long w0_2), .second, .unset, .unset, .unset, .unset, .unset, .unset, .unset, .unset, .unset, .unset, .unset, .unset, .unset, .unset, .unset, .unset, .unset, .unset, .unset, .unset, .unset, .unset] [(.int (16777215:Int32)), (.int p2)])) _
    refine XS.iand X0.here hx rfl (hb hby at_17) rfl ?_
    show Steps p.tables e below (s₁.setTop (mkF m 18 #[iv p0, iv p1, iv p2, .val (.long w0_1), .second, .val (.long w0_2), .second, .unset, .unset, .unset, .unset, .unset, .unset, .unset, .unset, .unset, .unset, .unset, .unset, .unset, .unset, .unset, .unset, .unset, .unset, .unset, .unset, .unset, .unset] [(.int (p2 &&& (16777215:Int32)))])) _
    refine XS.i2l X0.here hx rfl (hb hby at_18) rfl ?_
    show Steps p.tables e below (s₁.setTop (mkF m 19 #[iv p0, iv p1, iv p2, .val (.long w0_1), .second, .val (.long w0_2), .second, .unset, .unset, .unset, .unset, .unset, .unset, .unset, .unset, .unset, .unset, .unset, .unset, .unset, .unset, .unset, .unset, .unset, .unset, .unset, .unset, .unset, .unset] [(.long ((p2 &&& (16777215:Int32)).toInt64))])) _
    refine XS.lstore X0.here hx rfl (hb hby at_19) rfl (l' := #[iv p0, iv p1, iv p2, .val (.long w0_1), .second, .val (.long w0_2), .second, .val (.long w0_3), .second, .unset, .unset, .unset, .unset, .unset, .unset, .unset, .unset, .unset, .unset, .unset, .unset, .unset, .unset, .unset, .unset, .unset, .unset, .unset, .unset]) (by rw [hw0_3]; rfl) ?_
    show Steps p.tables e below (s₁.setTop (mkF m 21 #[iv p0, iv p1, iv p2, .val (.long w0_1), .second, .val (.long w0_2), .second, .val (.long w0_3), .second, .unset, .unset, .unset, .unset, .unset, .unset, .unset, .unset, .unset, .unset, .unset, .unset, .unset, .unset, .unset, .unset, .unset, .unset, .unset, .unset] [])) _
    refine XS.lload X0.here hx rfl (hb hby at_21) rfl ?_
    show Steps p.tables e below (s₁.setTop (mkF m 23 #[iv p0, iv p1, iv p2, .val (.long w0_1), .second, .val (.long w0_2), .second, .val (.long w0_3), .second, .unset, .unset, .unset, .unset, .unset, .unset, .unset, .unset, .unset, .unset, .unset, .unset, .unset, .unset, .unset, .unset, .unset, .unset, .unset, .unset] [(.long w0_2)])) _
    refine XS.lload X0.here hx rfl (hb hby at_23) rfl ?_
    exact k
  obtain ⟨_, _, ⟨T27, L27, k27, n27⟩, -, X27, ⟨Lc27, hQ27, l27, y27, z27⟩, st27⟩ := Jvm.LawKit.callS X0 hx (y := (⟨"java/lang/Math", "min", "(JJ)J"⟩ : MethodName)) hown (mvT hZ (own_h hw 1 rfl)) (mvT hZ (own_h hw 2 rfl)) (mvT hZ (own_h hw 3 rfl)) (mvT hZ (own_h hw 4 rfl)) (by decide) (backOf (W := 0) (rm1 l Z aZ hw [] w0_2 w0_3 h0 n0 Z0 ) hZ (own_h hw 4 rfl) (own_h hw 3 rfl) (by decide) (by decide)) (g := (mkF m 25 #[iv p0, iv p1, iv p2, .val (.long w0_1), .second, .val (.long w0_2), .second, .val (.long w0_3), .second, .unset, .unset, .unset, .unset, .unset, .unset, .unset, .unset, .unset, .unset, .unset, .unset, .unset, .unset, .unset, .unset, .unset, .unset, .unset, .unset] [(.long w0_3), (.long w0_2)])) rfl (by rw [hml]; rfl) (argsL := [(.long w0_2), (.long w0_3)]) (rest := []) (lenOf own_pd0 rfl) rfl (by show 2 * 0 + _ ≤ _; exact Nat.le_of_eq rfl) (hb hby at_25) (fun _ _ => ⟨rfl, e0, (by decide : 0 + 0 ≤ _), (by decide : 0 + 0 ≤ _)⟩)
  dsimp only [Pt.U, Pt.locs, Pt.cells, Pt.slots] at X27 l27 y27 z27 st27 hQ27
  subst l27 y27 z27
  obtain ⟨rfl, N27q, eh27⟩ := hQ27
  have N27 := Fr.app N0 N27q
  refine own_pre st27 ?_
  refine own_pre (A := T27.setTop (mkF m 34 #[iv p0, iv p1, iv p2, .val (.long w0_1), .second, .val (.long w0_2), .second, .val (.long w0_3), .second, .val (.long (f1 w0_2 w0_3)), .second, .unset, .unset, .unset, .unset, .unset, .unset, .unset, .unset, .unset, .unset, .unset, .unset, .unset, .unset, .unset, .unset, .unset, .unset] [(.long w0_3), (.long w0_2)])) (fun t k => ?_) ?_
  · show Steps p.tables e below (T27.setTop (mkF m 28 #[iv p0, iv p1, iv p2, .val (.long w0_1), .second, .val (.long w0_2), .second, .val (.long w0_3), .second, .unset, .unset, .unset, .unset, .unset, .unset, .unset, .unset, .unset, .unset, .unset, .unset, .unset, .unset, .unset, .unset, .unset, .unset, .unset, .unset] [(.long (f1 w0_2 w0_3))])) _
    refine XS.lstore X27.here hx rfl (hb hby at_28) rfl (l' := #[iv p0, iv p1, iv p2, .val (.long w0_1), .second, .val (.long w0_2), .second, .val (.long w0_3), .second, .val (.long (f1 w0_2 w0_3)), .second, .unset, .unset, .unset, .unset, .unset, .unset, .unset, .unset, .unset, .unset, .unset, .unset, .unset, .unset, .unset, .unset, .unset, .unset]) rfl ?_
    show Steps p.tables e below (T27.setTop (mkF m 30 #[iv p0, iv p1, iv p2, .val (.long w0_1), .second, .val (.long w0_2), .second, .val (.long w0_3), .second, .val (.long (f1 w0_2 w0_3)), .second, .unset, .unset, .unset, .unset, .unset, .unset, .unset, .unset, .unset, .unset, .unset, .unset, .unset, .unset, .unset, .unset, .unset, .unset] [])) _
    refine XS.lload X27.here hx rfl (hb hby at_30) rfl ?_
    show Steps p.tables e below (T27.setTop (mkF m 32 #[iv p0, iv p1, iv p2, .val (.long w0_1), .second, .val (.long w0_2), .second, .val (.long w0_3), .second, .val (.long (f1 w0_2 w0_3)), .second, .unset, .unset, .unset, .unset, .unset, .unset, .unset, .unset, .unset, .unset, .unset, .unset, .unset, .unset, .unset, .unset, .unset, .unset] [(.long w0_2)])) _
    refine XS.lload X27.here hx rfl (hb hby at_32) rfl ?_
    exact k
  obtain ⟨_, _, ⟨T28, L28, k28, n28⟩, -, X28, ⟨Lc28, hQ28, l28, y28, z28⟩, st28⟩ := Jvm.LawKit.callS X27 hx (y := (⟨"java/lang/Math", "max", "(JJ)J"⟩ : MethodName)) hown (mvT hZ (own_h hw 5 rfl)) (mvT hZ (own_h hw 6 rfl)) (mvT hZ (own_h hw 3 rfl)) (mvT hZ (own_h hw 7 rfl)) (by decide) (backOf (W := 0) (rm2 l Z aZ hw [] w0_2 w0_3 h0 n0 Z0 ) hZ (own_h hw 7 rfl) (own_h hw 3 rfl) (by decide) (by decide)) (g := (mkF m 34 #[iv p0, iv p1, iv p2, .val (.long w0_1), .second, .val (.long w0_2), .second, .val (.long w0_3), .second, .val (.long (f1 w0_2 w0_3)), .second, .unset, .unset, .unset, .unset, .unset, .unset, .unset, .unset, .unset, .unset, .unset, .unset, .unset, .unset, .unset, .unset, .unset, .unset] [(.long w0_3), (.long w0_2)])) rfl (by rw [hml]; rfl) (argsL := [(.long w0_2), (.long w0_3)]) (rest := []) (lenOf own_pd0 rfl) rfl (by show 2 * 0 + _ ≤ _; exact Nat.le_of_eq rfl) (hb hby at_34) (fun _ _ => ⟨rfl, eh27, (by decide : 0 + 0 ≤ _), (by decide : 0 + 0 ≤ _)⟩)
  dsimp only [Pt.U, Pt.locs, Pt.cells, Pt.slots] at X28 l28 y28 z28 st28 hQ28
  subst l28 y28 z28
  obtain ⟨rfl, N28q, eh28⟩ := hQ28
  have N28 := Fr.app N27 N28q
  refine own_pre st28 ?_
  obtain ⟨w0_4, hw0_4⟩ : ∃ z : Int64, z = ((w0_1 * (16777216:Int64)) + (f1 w0_2 w0_3)) := ⟨_, rfl⟩
  obtain ⟨w0_5, hw0_5⟩ : ∃ z : Int64, z = ((w0_1 * (16777216:Int64)) + (f2 w0_2 w0_3)) := ⟨_, rfl⟩
  obtain ⟨w0_6, hw0_6⟩ : ∃ z : Int64, z = ((f1 w0_2 w0_3) * (256:Int64)) := ⟨_, rfl⟩
  obtain ⟨w0_7, hw0_7⟩ : ∃ z : Int64, z = (((f2 w0_2 w0_3) * (256:Int64)) + (255:Int64)) := ⟨_, rfl⟩
  refine own_pre (A := T28.setTop (mkF m 79 #[iv p0, iv p1, iv p2, .val (.long w0_1), .second, .val (.long w0_2), .second, .val (.long w0_3), .second, .val (.long (f1 w0_2 w0_3)), .second, .val (.long (f2 w0_2 w0_3)), .second, .val (.long w0_4), .second, .val (.long w0_5), .second, .val (.long w0_6), .second, .val (.long w0_7), .second, .unset, .unset, .unset, .unset, .unset, .unset, .unset, .unset] [])) (fun t k => ?_) ?_
  · show Steps p.tables e below (T28.setTop (mkF m 37 #[iv p0, iv p1, iv p2, .val (.long w0_1), .second, .val (.long w0_2), .second, .val (.long w0_3), .second, .val (.long (f1 w0_2 w0_3)), .second, .unset, .unset, .unset, .unset, .unset, .unset, .unset, .unset, .unset, .unset, .unset, .unset, .unset, .unset, .unset, .unset, .unset, .unset] [(.long (f2 w0_2 w0_3))])) _
    refine XS.lstore X28.here hx rfl (hb hby at_37) rfl (l' := #[iv p0, iv p1, iv p2, .val (.long w0_1), .second, .val (.long w0_2), .second, .val (.long w0_3), .second, .val (.long (f1 w0_2 w0_3)), .second, .val (.long (f2 w0_2 w0_3)), .second, .unset, .unset, .unset, .unset, .unset, .unset, .unset, .unset, .unset, .unset, .unset, .unset, .unset, .unset, .unset, .unset]) rfl ?_
    show Steps p.tables e below (T28.setTop (mkF m 39 #[iv p0, iv p1, iv p2, .val (.long w0_1), .second, .val (.long w0_2), .second, .val (.long w0_3), .second, .val (.long (f1 w0_2 w0_3)), .second, .val (.long (f2 w0_2 w0_3)), .second, .unset, .unset, .unset, .unset, .unset, .unset, .unset, .unset, .unset, .unset, .unset, .unset, .unset, .unset, .unset, .unset] [])) _
    refine XS.lloadN X28.here hx rfl (hb hby at_39) rfl ?_
    show Steps p.tables e below (T28.setTop (mkF m 40 #[iv p0, iv p1, iv p2, .val (.long w0_1), .second, .val (.long w0_2), .second, .val (.long w0_3), .second, .val (.long (f1 w0_2 w0_3)), .second, .val (.long (f2 w0_2 w0_3)), .second, .unset, .unset, .unset, .unset, .unset, .unset, .unset, .unset, .unset, .unset, .unset, .unset, .unset, .unset, .unset, .unset] [(.long w0_1)])) _
    refine Jvm.Stand.ldc2J X28 hx hown (mvT hZ (own_h hw 8 rfl)) rfl (hb hby at_40) ?_
    show Steps p.tables e below (T28.setTop (mkF m 43 #[iv p0, iv p1, iv p2, .val (.long w0_1), .second, .val (.long w0_2), .second, .val (.long w0_3), .second, .val (.long (f1 w0_2 w0_3)), .second, .val (.long (f2 w0_2 w0_3)), .second, .unset, .unset, .unset, .unset, .unset, .unset, .unset, .unset, .unset, .unset, .unset, .unset, .unset, .unset, .unset, .unset] [(.long (16777216:Int64)), (.long w0_1)])) _
    refine XS.lmul X28.here hx rfl (hb hby at_43) rfl ?_
    show Steps p.tables e below (T28.setTop (mkF m 44 #[iv p0, iv p1, iv p2, .val (.long w0_1), .second, .val (.long w0_2), .second, .val (.long w0_3), .second, .val (.long (f1 w0_2 w0_3)), .second, .val (.long (f2 w0_2 w0_3)), .second, .unset, .unset, .unset, .unset, .unset, .unset, .unset, .unset, .unset, .unset, .unset, .unset, .unset, .unset, .unset, .unset] [(.long (w0_1 * (16777216:Int64)))])) _
    refine XS.lload X28.here hx rfl (hb hby at_44) rfl ?_
    show Steps p.tables e below (T28.setTop (mkF m 46 #[iv p0, iv p1, iv p2, .val (.long w0_1), .second, .val (.long w0_2), .second, .val (.long w0_3), .second, .val (.long (f1 w0_2 w0_3)), .second, .val (.long (f2 w0_2 w0_3)), .second, .unset, .unset, .unset, .unset, .unset, .unset, .unset, .unset, .unset, .unset, .unset, .unset, .unset, .unset, .unset, .unset] [(.long (f1 w0_2 w0_3)), (.long (w0_1 * (16777216:Int64)))])) _
    refine XS.ladd X28.here hx rfl (hb hby at_46) rfl ?_
    show Steps p.tables e below (T28.setTop (mkF m 47 #[iv p0, iv p1, iv p2, .val (.long w0_1), .second, .val (.long w0_2), .second, .val (.long w0_3), .second, .val (.long (f1 w0_2 w0_3)), .second, .val (.long (f2 w0_2 w0_3)), .second, .unset, .unset, .unset, .unset, .unset, .unset, .unset, .unset, .unset, .unset, .unset, .unset, .unset, .unset, .unset, .unset] [(.long ((w0_1 * (16777216:Int64)) + (f1 w0_2 w0_3)))])) _
    refine XS.lstore X28.here hx rfl (hb hby at_47) rfl (l' := #[iv p0, iv p1, iv p2, .val (.long w0_1), .second, .val (.long w0_2), .second, .val (.long w0_3), .second, .val (.long (f1 w0_2 w0_3)), .second, .val (.long (f2 w0_2 w0_3)), .second, .val (.long w0_4), .second, .unset, .unset, .unset, .unset, .unset, .unset, .unset, .unset, .unset, .unset, .unset, .unset, .unset, .unset]) (by rw [hw0_4]; rfl) ?_
    show Steps p.tables e below (T28.setTop (mkF m 49 #[iv p0, iv p1, iv p2, .val (.long w0_1), .second, .val (.long w0_2), .second, .val (.long w0_3), .second, .val (.long (f1 w0_2 w0_3)), .second, .val (.long (f2 w0_2 w0_3)), .second, .val (.long w0_4), .second, .unset, .unset, .unset, .unset, .unset, .unset, .unset, .unset, .unset, .unset, .unset, .unset, .unset, .unset] [])) _
    refine XS.lloadN X28.here hx rfl (hb hby at_49) rfl ?_
    show Steps p.tables e below (T28.setTop (mkF m 50 #[iv p0, iv p1, iv p2, .val (.long w0_1), .second, .val (.long w0_2), .second, .val (.long w0_3), .second, .val (.long (f1 w0_2 w0_3)), .second, .val (.long (f2 w0_2 w0_3)), .second, .val (.long w0_4), .second, .unset, .unset, .unset, .unset, .unset, .unset, .unset, .unset, .unset, .unset, .unset, .unset, .unset, .unset] [(.long w0_1)])) _
    refine Jvm.Stand.ldc2J X28 hx hown (mvT hZ (own_h hw 8 rfl)) rfl (hb hby at_50) ?_
    show Steps p.tables e below (T28.setTop (mkF m 53 #[iv p0, iv p1, iv p2, .val (.long w0_1), .second, .val (.long w0_2), .second, .val (.long w0_3), .second, .val (.long (f1 w0_2 w0_3)), .second, .val (.long (f2 w0_2 w0_3)), .second, .val (.long w0_4), .second, .unset, .unset, .unset, .unset, .unset, .unset, .unset, .unset, .unset, .unset, .unset, .unset, .unset, .unset] [(.long (16777216:Int64)), (.long w0_1)])) _
    refine XS.lmul X28.here hx rfl (hb hby at_53) rfl ?_
    show Steps p.tables e below (T28.setTop (mkF m 54 #[iv p0, iv p1, iv p2, .val (.long w0_1), .second, .val (.long w0_2), .second, .val (.long w0_3), .second, .val (.long (f1 w0_2 w0_3)), .second, .val (.long (f2 w0_2 w0_3)), .second, .val (.long w0_4), .second, .unset, .unset, .unset, .unset, .unset, .unset, .unset, .unset, .unset, .unset, .unset, .unset, .unset, .unset] [(.long (w0_1 * (16777216:Int64)))])) _
    refine XS.lload X28.here hx rfl (hb hby at_54) rfl ?_
    show Steps p.tables e below (T28.setTop (mkF m 56 #[iv p0, iv p1, iv p2, .val (.long w0_1), .second, .val (.long w0_2), .second, .val (.long w0_3), .second, .val (.long (f1 w0_2 w0_3)), .second, .val (.long (f2 w0_2 w0_3)), .second, .val (.long w0_4), .second, .unset, .unset, .unset, .unset, .unset, .unset, .unset, .unset, .unset, .unset, .unset, .unset, .unset, .unset] [(.long (f2 w0_2 w0_3)), (.long (w0_1 * (16777216:Int64)))])) _
    refine XS.ladd X28.here hx rfl (hb hby at_56) rfl ?_
    show Steps p.tables e below (T28.setTop (mkF m 57 #[iv p0, iv p1, iv p2, .val (.long w0_1), .second, .val (.long w0_2), .second, .val (.long w0_3), .second, .val (.long (f1 w0_2 w0_3)), .second, .val (.long (f2 w0_2 w0_3)), .second, .val (.long w0_4), .second, .unset, .unset, .unset, .unset, .unset, .unset, .unset, .unset, .unset, .unset, .unset, .unset, .unset, .unset] [(.long ((w0_1 * (16777216:Int64)) + (f2 w0_2 w0_3)))])) _
    refine XS.lstore X28.here hx rfl (hb hby at_57) rfl (l' := #[iv p0, iv p1, iv p2, .val (.long w0_1), .second, .val (.long w0_2), .second, .val (.long w0_3), .second, .val (.long (f1 w0_2 w0_3)), .second, .val (.long (f2 w0_2 w0_3)), .second, .val (.long w0_4), .second, .val (.long w0_5), .second, .unset, .unset, .unset, .unset, .unset, .unset, .unset, .unset, .unset, .unset, .unset, .unset]) (by rw [hw0_5]; rfl) ?_
    show Steps p.tables e below (T28.setTop (mkF m 59 #[iv p0, iv p1, iv p2, .val (.long w0_1), .second, .val (.long w0_2), .second, .val (.long w0_3), .second, .val (.long (f1 w0_2 w0_3)), .second, .val (.long (f2 w0_2 w0_3)), .second, .val (.long w0_4), .second, .val (.long w0_5), .second, .unset, .unset, .unset, .unset, .unset, .unset, .unset, .unset, .unset, .unset, .unset, .unset] [])) _
    refine XS.lload X28.here hx rfl (hb hby at_59) rfl ?_
    show Steps p.tables e below (T28.setTop (mkF m 61 #[iv p0, iv p1, iv p2, .val (.long w0_1), .second, .val (.long w0_2), .second, .val (.long w0_3), .second, .val (.long (f1 w0_2 w0_3)), .second, .val (.long (f2 w0_2 w0_3)), .second, .val (.long w0_4), .second, .val (.long w0_5), .second, .unset, .unset, .unset, .unset, .unset, .unset, .unset, .unset, .unset, .unset, .unset, .unset] [(.long (f1 w0_2 w0_3))])) _
    refine Jvm.Stand.ldc2J X28 hx hown (mvT hZ (own_h hw 9 rfl)) rfl (hb hby at_61) ?_
    show Steps p.tables e below (T28.setTop (mkF m 64 #[iv p0, iv p1, iv p2, .val (.long w0_1), .second, .val (.long w0_2), .second, .val (.long w0_3), .second, .val (.long (f1 w0_2 w0_3)), .second, .val (.long (f2 w0_2 w0_3)), .second, .val (.long w0_4), .second, .val (.long w0_5), .second, .unset, .unset, .unset, .unset, .unset, .unset, .unset, .unset, .unset, .unset, .unset, .unset] [(.long (256:Int64)), (.long (f1 w0_2 w0_3))])) _
    refine XS.lmul X28.here hx rfl (hb hby at_64) rfl ?_
    show Steps p.tables e below (T28.setTop (mkF m 65 #[iv p0, iv p1, iv p2, .val (.long w0_1), .second, .val (.long w0_2), .second, .val (.long w0_3), .second, .val (.long (f1 w0_2 w0_3)), .second, .val (.long (f2 w0_2 w0_3)), .second, .val (.long w0_4), .second, .val (.long w0_5), .second, .unset, .unset, .unset, .unset, .unset, .unset, .unset, .unset, .unset, .unset, .unset, .unset] [(.long ((f1 w0_2 w0_3) * (256:Int64)))])) _
    refine XS.lstore X28.here hx rfl (hb hby at_65) rfl (l' := #[iv p0, iv p1, iv p2, .val (.long w0_1), .second, .val (.long w0_2), .second, .val (.long w0_3), .second, .val (.long (f1 w0_2 w0_3)), .second, .val (.long (f2 w0_2 w0_3)), .second, .val (.long w0_4), .second, .val (.long w0_5), .second, .val (.long w0_6), .second, .unset, .unset, .unset, .unset, .unset, .unset, .unset, .unset, .unset, .unset]) (by rw [hw0_6]; rfl) ?_
    show Steps p.tables e below (T28.setTop (mkF m 67 #[iv p0, iv p1, iv p2, .val (.long w0_1), .second, .val (.long w0_2), .second, .val (.long w0_3), .second, .val (.long (f1 w0_2 w0_3)), .second, .val (.long (f2 w0_2 w0_3)), .second, .val (.long w0_4), .second, .val (.long w0_5), .second, .val (.long w0_6), .second, .unset, .unset, .unset, .unset, .unset, .unset, .unset, .unset, .unset, .unset] [])) _
    refine XS.lload X28.here hx rfl (hb hby at_67) rfl ?_
    show Steps p.tables e below (T28.setTop (mkF m 69 #[iv p0, iv p1, iv p2, .val (.long w0_1), .second, .val (.long w0_2), .second, .val (.long w0_3), .second, .val (.long (f1 w0_2 w0_3)), .second, .val (.long (f2 w0_2 w0_3)), .second, .val (.long w0_4), .second, .val (.long w0_5), .second, .val (.long w0_6), .second, .unset, .unset, .unset, .unset, .unset, .unset, .unset, .unset, .unset, .unset] [(.long (f2 w0_2 w0_3))])) _
    refine Jvm.Stand.ldc2J X28 hx hown (mvT hZ (own_h hw 9 rfl)) rfl (hb hby at_69) ?_
    show Steps p.tables e below (T28.setTop (mkF m 72 #[iv p0, iv p1, iv p2, .val (.long w0_1), .second, .val (.long w0_2), .second, .val (.long w0_3), .second, .val (.long (f1 w0_2 w0_3)), .second, .val (.long (f2 w0_2 w0_3)), .second, .val (.long w0_4), .second, .val (.long w0_5), .second, .val (.long w0_6), .second, .unset, .unset, .unset, .unset, .unset, .unset, .unset, .unset, .unset, .unset] [(.long (256:Int64)), (.long (f2 w0_2 w0_3))])) _
    refine XS.lmul X28.here hx rfl (hb hby at_72) rfl ?_
    show Steps p.tables e below (T28.setTop (mkF m 73 #[iv p0, iv p1, iv p2, .val (.long w0_1), .second, .val (.long w0_2), .second, .val (.long w0_3), .second, .val (.long (f1 w0_2 w0_3)), .second, .val (.long (f2 w0_2 w0_3)), .second, .val (.long w0_4), .second, .val (.long w0_5), .second, .val (.long w0_6), .second, .unset, .unset, .unset, .unset, .unset, .unset, .unset, .unset, .unset, .unset] [(.long ((f2 w0_2 w0_3) * (256:Int64)))])) _
    refine Jvm.Stand.ldc2J X28 hx hown (mvT hZ (own_h hw 10 rfl)) rfl (hb hby at_73) ?_
    show Steps p.tables e below (T28.setTop (mkF m 76 #[iv p0, iv p1, iv p2, .val (.long w0_1), .second, .val (.long w0_2), .second, .val (.long w0_3), .second, .val (.long (f1 w0_2 w0_3)), .second, .val (.long (f2 w0_2 w0_3)), .second, .val (.long w0_4), .second, .val (.long w0_5), .second, .val (.long w0_6), .second, .unset, .unset, .unset, .unset, .unset, .unset, .unset, .unset, .unset, .unset] [(.long (255:Int64)), (.long ((f2 w0_2 w0_3) * (256:Int64)))])) _
    refine XS.ladd X28.here hx rfl (hb hby at_76) rfl ?_
    show Steps p.tables e below (T28.setTop (mkF m 77 #[iv p0, iv p1, iv p2, .val (.long w0_1), .second, .val (.long w0_2), .second, .val (.long w0_3), .second, .val (.long (f1 w0_2 w0_3)), .second, .val (.long (f2 w0_2 w0_3)), .second, .val (.long w0_4), .second, .val (.long w0_5), .second, .val (.long w0_6), .second, .unset, .unset, .unset, .unset, .unset, .unset, .unset, .unset, .unset, .unset] [(.long (((f2 w0_2 w0_3) * (256:Int64)) + (255:Int64)))])) _
    refine XS.lstore X28.here hx rfl (hb hby at_77) rfl (l' := #[iv p0, iv p1, iv p2, .val (.long w0_1), .second, .val (.long w0_2), .second, .val (.long w0_3), .second, .val (.long (f1 w0_2 w0_3)), .second, .val (.long (f2 w0_2 w0_3)), .second, .val (.long w0_4), .second, .val (.long w0_5), .second, .val (.long w0_6), .second, .val (.long w0_7), .second, .unset, .unset, .unset, .unset, .unset, .unset, .unset, .unset]) (by rw [hw0_7]; rfl) ?_
    exact k
  obtain ⟨T29, h29, X29, e29, E29, A29, D29, -, st29⟩ := newO X28 hx hZ hown (own_h hw 11 rfl) (own_h hw 12 rfl) (own_h hw 13 rfl) eh28 (g := (mkF m 79 #[iv p0, iv p1, iv p2, .val (.long w0_1), .second, .val (.long w0_2), .second, .val (.long w0_3), .second, .val (.long (f1 w0_2 w0_3)), .second, .val (.long (f2 w0_2 w0_3)), .second, .val (.long w0_4), .second, .val (.long w0_5), .second, .val (.long w0_6), .second, .val (.long w0_7), .second, .unset, .unset, .unset, .unset, .unset, .unset, .unset, .unset] [])) rfl (hb hby at_79) (by decide) (by decide)
  obtain ⟨b29, g29⟩ : ∃ z, z = h0.size := ⟨_, rfl⟩
  rw [← g29] at A29 D29 st29
  have ge_b29 : n0 ≤ b29 := Nat.le_trans Z0 (Nat.le_of_eq g29.symm)
  have Z30 : n0 ≤ h29.size := Nat.le_trans Z0 E29.1
  have F29_high : Fld Z h29 b29 "com/example/rowfold/rowfold/codec/CodeRange" "high" "J" (.long (0:Int64)) := D29 (Or.inl (own_h hw 22 rfl)) (ty := .long) (by decide)
  have F29_low : Fld Z h29 b29 "com/example/rowfold/rowfold/codec/CodeRange" "low" "J" (.long (0:Int64)) := D29 (Or.inl (own_h hw 29 rfl)) (ty := .long) (by decide)
  refine own_pre st29 ?_
  refine own_pre (A := T29.setTop (mkF m 83 #[iv p0, iv p1, iv p2, .val (.long w0_1), .second, .val (.long w0_2), .second, .val (.long w0_3), .second, .val (.long (f1 w0_2 w0_3)), .second, .val (.long (f2 w0_2 w0_3)), .second, .val (.long w0_4), .second, .val (.long w0_5), .second, .val (.long w0_6), .second, .val (.long w0_7), .second, .unset, .unset, .unset, .unset, .unset, .unset, .unset, .unset] [(.ref b29), (.ref b29)])) (fun t k => ?_) ?_
  · show Steps p.tables e below (T29.setTop (mkF m 82 #[iv p0, iv p1, iv p2, .val (.long w0_1), .second, .val (.long w0_2), .second, .val (.long w0_3), .second, .val (.long (f1 w0_2 w0_3)), .second, .val (.long (f2 w0_2 w0_3)), .second, .val (.long w0_4), .second, .val (.long w0_5), .second, .val (.long w0_6), .second, .val (.long w0_7), .second, .unset, .unset, .unset, .unset, .unset, .unset, .unset, .unset] [(.ref b29)])) _
    refine XS.dup X29.here hx rfl (hb hby at_82) rfl rfl ?_
    exact k
  obtain ⟨_, _, ⟨T31, L31, k31, n31⟩, -, X31, ⟨Lc31, hQ31, l31, y31, z31⟩, st31⟩ := X29.specialBack hx (y := (⟨"com/example/rowfold/rowfold/codec/CodeRange", "<init>", "()V"⟩ : MethodName)) rfl hown (mvT hZ (own_h hw 14 rfl)) (mvT hZ (own_h hw 15 rfl)) (mvT hZ (own_h hw 16 rfl)) (by decide) (backOf (W := 1) (rm3 l Z aZ hw [] b29 h29 n0 Z30 A29 F29_low F29_high ge_b29) hZ (own_h hw 16 rfl) (own_h hw 13 rfl) (by decide) (by decide)) (g := (mkF m 83 #[iv p0, iv p1, iv p2, .val (.long w0_1), .second, .val (.long w0_2), .second, .val (.long w0_3), .second, .val (.long (f1 w0_2 w0_3)), .second, .val (.long (f2 w0_2 w0_3)), .second, .val (.long w0_4), .second, .val (.long w0_5), .second, .val (.long w0_6), .second, .val (.long w0_7), .second, .unset, .unset, .unset, .unset, .unset, .unset, .unset, .unset] [(.ref b29), (.ref b29)])) rfl (by rw [hml]; rfl) (Steps.refl _) (a := b29) (argsL := []) (rest := [(.ref b29)]) (lenOf own_pd1 rfl) rfl (by show 2 * 0 + _ ≤ _; exact Nat.le_of_eq rfl) (hb hby at_83) (fun _ _ => ⟨rfl, e29, (by decide : 1 + 0 ≤ _), (by decide : 2 + 0 ≤ _)⟩)
  dsimp only [Pt.U, Pt.locs, Pt.cells, Pt.slots] at X31 l31 y31 z31 st31 hQ31
  subst l31 y31 z31
  obtain ⟨rfl, N31q, K31, G32, G33⟩ := hQ31
  have N31 := Fr.app N28 N31q
  have Z34 : n0 ≤ T31.heap.size := Nat.le_trans Z30 K31.1
  refine own_pre (fun _ k => st31.trans k) ?_
  refine own_pre (A := T31.setTop (mkF m 93 #[iv p0, iv p1, iv p2, .val (.long w0_1), .second, .val (.long w0_2), .second, .val (.long w0_3), .second, .val (.long (f1 w0_2 w0_3)), .second, .val (.long (f2 w0_2 w0_3)), .second, .val (.long w0_4), .second, .val (.long w0_5), .second, .val (.long w0_6), .second, .val (.long w0_7), .second, rv b29, .unset, .unset, .unset, .unset, .unset, .unset, .unset] [(.long w0_5), (.int (1:Int32)), (.ref b29)])) (fun t k => ?_) ?_
  · show Steps p.tables e below (T31.setTop (mkF m 86 #[iv p0, iv p1, iv p2, .val (.long w0_1), .second, .val (.long w0_2), .second, .val (.long w0_3), .second, .val (.long (f1 w0_2 w0_3)), .second, .val (.long (f2 w0_2 w0_3)), .second, .val (.long w0_4), .second, .val (.long w0_5), .second, .val (.long w0_6), .second, .val (.long w0_7), .second, .unset, .unset, .unset, .unset, .unset, .unset, .unset, .unset] [(.ref b29)])) _
    refine XS.astore X31.here hx rfl (hb hby at_86) rfl rfl (l' := #[iv p0, iv p1, iv p2, .val (.long w0_1), .second, .val (.long w0_2), .second, .val (.long w0_3), .second, .val (.long (f1 w0_2 w0_3)), .second, .val (.long (f2 w0_2 w0_3)), .second, .val (.long w0_4), .second, .val (.long w0_5), .second, .val (.long w0_6), .second, .val (.long w0_7), .second, rv b29, .unset, .unset, .unset, .unset, .unset, .unset, .unset]) rfl ?_
    show Steps p.tables e below (T31.setTop (mkF m 88 #[iv p0, iv p1, iv p2, .val (.long w0_1), .second, .val (.long w0_2), .second, .val (.long w0_3), .second, .val (.long (f1 w0_2 w0_3)), .second, .val (.long (f2 w0_2 w0_3)), .second, .val (.long w0_4), .second, .val (.long w0_5), .second, .val (.long w0_6), .second, .val (.long w0_7), .second, rv b29, .unset, .unset, .unset, .unset, .unset, .unset, .unset] [])) _
    refine XS.aload X31.here hx rfl (hb hby at_88) rfl rfl ?_
    show Steps p.tables e below (T31.setTop (mkF m 90 #[iv p0, iv p1, iv p2, .val (.long w0_1), .second, .val (.long w0_2), .second, .val (.long w0_3), .second, .val (.long (f1 w0_2 w0_3)), .second, .val (.long (f2 w0_2 w0_3)), .second, .val (.long w0_4), .second, .val (.long w0_5), .second, .val (.long w0_6), .second, .val (.long w0_7), .second, rv b29, .unset, .unset, .unset, .unset, .unset, .unset, .unset] [(.ref b29)])) _
    refine XS.iconst X31.here hx rfl (hb hby at_90) ?_
    show Steps p.tables e below (T31.setTop (mkF m 91 #[iv p0, iv p1, iv p2, .val (.long w0_1), .second, .val (.long w0_2), .second, .val (.long w0_3), .second, .val (.long (f1 w0_2 w0_3)), .second, .val (.long (f2 w0_2 w0_3)), .second, .val (.long w0_4), .second, .val (.long w0_5), .second, .val (.long w0_6), .second, .val (.long w0_7), .second, rv b29, .unset, .unset, .unset, .unset, .unset, .unset, .unset] [(.int (1:Int32)), (.ref b29)])) _
    refine XS.lload X31.here hx rfl (hb hby at_91) rfl ?_
    exact k
  have F36 := (A29.keep K31)
  obtain ⟨cq35, kq35, q35a, q35b, q35c⟩ := isOf hZ rfl F36
  obtain ⟨_, _, ⟨T35, L35, k35, n35⟩, -, X35, ⟨Lc35, hQ35, l35, y35, z35⟩, st35⟩ := X31.virtualBack hx (y := (⟨"com/example/rowfold/rowfold/codec/CodeRange", "narrow", "(IJ)V"⟩ : MethodName)) (z := (⟨"com/example/rowfold/rowfold/codec/CodeRange", "narrow", "(IJ)V"⟩ : MethodName)) hown (mvT hZ (own_h hw 23 rfl)) (mvT hZ (own_h hw 24 rfl)) (notFace_of_selects (args := #[]) (mvT hZ (own_h hw 26 rfl))) (mvT hZ (own_h hw 26 rfl)) (mvT hZ (own_h hw 25 rfl)) (by decide) (backOf (W := 0) (rm5o l Z aZ hw [] b29 (1:Int32) w0_5 (0:Int64) (4294967295:Int64) T31.heap n0 Z34 F36 G32 G33 ge_b29 (by decide)) hZ (own_h hw 27 rfl) (own_h hw 13 rfl) (by decide) (by decide)) q35a q35c (g := (mkF m 93 #[iv p0, iv p1, iv p2, .val (.long w0_1), .second, .val (.long w0_2), .second, .val (.long w0_3), .second, .val (.long (f1 w0_2 w0_3)), .second, .val (.long (f2 w0_2 w0_3)), .second, .val (.long w0_4), .second, .val (.long w0_5), .second, .val (.long w0_6), .second, .val (.long w0_7), .second, rv b29, .unset, .unset, .unset, .unset, .unset, .unset, .unset] [(.long w0_5), (.int (1:Int32)), (.ref b29)])) rfl (by rw [hml]; rfl) (Steps.refl _) (argsL := [(.int (1:Int32)), (.long w0_5)]) (rest := []) (lenOf own_pd2 rfl) rfl (by show 2 * 0 + _ ≤ _; exact Nat.le_of_eq rfl) (hb hby at_93) (fun _ _ => ⟨rfl, rfl, (by decide : 1 + 0 ≤ _), (by decide : 2 + 0 ≤ _)⟩)
  dsimp only [Pt.U, Pt.locs, Pt.cells, Pt.slots] at X35 l35 y35 z35 st35 hQ35
  subst l35 y35 z35
  obtain ⟨rfl, N35q, K35, G37, G38⟩ := hQ35
  have N35 := Fr.app N31 N35q
  have Z39 : n0 ≤ T35.heap.size := Nat.le_trans Z34 K35.1
  refine own_pre (fun _ k => st35.trans k) ?_
  refine own_pre (A := T35.setTop (mkF m 103 #[iv p0, iv p1, iv p2, .val (.long w0_1), .second, .val (.long w0_2), .second, .val (.long w0_3), .second, .val (.long (f1 w0_2 w0_3)), .second, .val (.long (f2 w0_2 w0_3)), .second, .val (.long w0_4), .second, .val (.long w0_5), .second, .val (.long w0_6), .second, .val (.long w0_7), .second, rv b29, .unset, .unset, .unset, .unset, .unset, .unset, .unset] [(.long (w0_4 - (1:Int64))), (.int (0:Int32)), (.ref b29)])) (fun t k => ?_) ?_
  · show Steps p.tables e below (T35.setTop (mkF m 96 #[iv p0, iv p1, iv p2, .val (.long w0_1), .second, .val (.long w0_2), .second, .val (.long w0_3), .second, .val (.long (f1 w0_2 w0_3)), .second, .val (.long (f2 w0_2 w0_3)), .second, .val (.long w0_4), .second, .val (.long w0_5), .second, .val (.long w0_6), .second, .val (.long w0_7), .second, rv b29, .unset, .unset, .unset, .unset, .unset, .unset, .unset] [])) _
    refine XS.aload X35.here hx rfl (hb hby at_96) rfl rfl ?_
    show Steps p.tables e below (T35.setTop (mkF m 98 #[iv p0, iv p1, iv p2, .val (.long w0_1), .second, .val (.long w0_2), .second, .val (.long w0_3), .second, .val (.long (f1 w0_2 w0_3)), .second, .val (.long (f2 w0_2 w0_3)), .second, .val (.long w0_4), .second, .val (.long w0_5), .second, .val (.long w0_6), .second, .val (.long w0_7), .second, rv b29, .unset, .unset, .unset, .unset, .unset, .unset, .unset] [(.ref b29)])) _
    refine XS.iconst X35.here hx rfl (hb hby at_98) ?_
    show Steps p.tables e below (T35.setTop (mkF m 99 #[iv p0, iv p1, iv p2, .val (.long w0_1), .second, .val (.long w0_2), .second, .val (.long w0_3), .second, .val (.long (f1 w0_2 w0_3)), .second, .val (.long (f2 w0_2 w0_3)), .second, .val (.long w0_4), .second, .val (.long w0_5), .second, .val (.long w0_6), .second, .val (.long w0_7), .second, rv b29, .unset, .unset, .unset, .unset, .unset, .unset, .unset] [(.int (0:Int32)), (.ref b29)])) _
    refine XS.lload X35.here hx rfl (hb hby at_99) rfl ?_
    show Steps p.tables e below (T35.setTop (mkF m 101 #[iv p0, iv p1, iv p2, .val (.long w0_1), .second, .val (.long w0_2), .second, .val (.long w0_3), .second, .val (.long (f1 w0_2 w0_3)), .second, .val (.long (f2 w0_2 w0_3)), .second, .val (.long w0_4), .second, .val (.long w0_5), .second, .val (.long w0_6), .second, .val (.long w0_7), .second, rv b29, .unset, .unset, .unset, .unset, .unset, .unset, .unset] [(.long w0_4), (.int (0:Int32)), (.ref b29)])) _
    refine XS.lconst X35.here hx rfl (hb hby at_101) ?_
    show Steps p.tables e below (T35.setTop (mkF m 102 #[iv p0, iv p1, iv p2, .val (.long w0_1), .second, .val (.long w0_2), .second, .val (.long w0_3), .second, .val (.long (f1 w0_2 w0_3)), .second, .val (.long (f2 w0_2 w0_3)), .second, .val (.long w0_4), .second, .val (.long w0_5), .second, .val (.long w0_6), .second, .val (.long w0_7), .second, rv b29, .unset, .unset, .unset, .unset, .unset, .unset, .unset] [(.long (1:Int64)), (.long w0_4), (.int (0:Int32)), (.ref b29)])) _
    refine XS.lsub X35.here hx rfl (hb hby at_102) rfl ?_
    exact k
  have F41 := (F36.keep K35)
  obtain ⟨cq40, kq40, q40a, q40b, q40c⟩ := isOf hZ rfl F41
  obtain ⟨_, _, ⟨T40, L40, k40, n40⟩, -, X40, ⟨Lc40, hQ40, l40, y40, z40⟩, st40⟩ := X35.virtualBack hx (y := (⟨"com/example/rowfold/rowfold/codec/CodeRange", "narrow", "(IJ)V"⟩ : MethodName)) (z := (⟨"com/example/rowfold/rowfold/codec/CodeRange", "narrow", "(IJ)V"⟩ : MethodName)) hown (mvT hZ (own_h hw 23 rfl)) (mvT hZ (own_h hw 24 rfl)) (notFace_of_selects (args := #[]) (mvT hZ (own_h hw 26 rfl))) (mvT hZ (own_h hw 26 rfl)) (mvT hZ (own_h hw 25 rfl)) (by decide) (backOf (W := 0) (rm5z l Z aZ hw [] b29 (0:Int32) (w0_4 - (1:Int64)) (0:Int64) w0_5 T35.heap n0 Z39 F41 G37 G38 ge_b29 rfl) hZ (own_h hw 27 rfl) (own_h hw 13 rfl) (by decide) (by decide)) q40a q40c (g := (mkF m 103 #[iv p0, iv p1, iv p2, .val (.long w0_1), .second, .val (.long w0_2), .second, .val (.long w0_3), .second, .val (.long (f1 w0_2 w0_3)), .second, .val (.long (f2 w0_2 w0_3)), .second, .val (.long w0_4), .second, .val (.long w0_5), .second, .val (.long w0_6), .second, .val (.long w0_7), .second, rv b29, .unset, .unset, .unset, .unset, .unset, .unset, .unset] [(.long (w0_4 - (1:Int64))), (.int (0:Int32)), (.ref b29)])) rfl (by rw [hml]; rfl) (Steps.refl _) (argsL := [(.int (0:Int32)), (.long (w0_4 - (1:Int64)))]) (rest := []) (lenOf own_pd2 rfl) rfl (by show 2 * 0 + _ ≤ _; exact Nat.le_of_eq rfl) (hb hby at_103) (fun _ _ => ⟨rfl, rfl, (by decide : 1 + 0 ≤ _), (by decide : 2 + 0 ≤ _)⟩)
  dsimp only [Pt.U, Pt.locs, Pt.cells, Pt.slots] at X40 l40 y40 z40 st40 hQ40
  subst l40 y40 z40
  obtain ⟨rfl, N40q, K40, G42, G43⟩ := hQ40
  have N40 := Fr.app N35 N40q
  have Z44 : n0 ≤ T40.heap.size := Nat.le_trans Z39 K40.1
  refine own_pre (fun _ k => st40.trans k) ?_
  refine own_pre (A := T40.setTop (mkF m 108 #[iv p0, iv p1, iv p2, .val (.long w0_1), .second, .val (.long w0_2), .second, .val (.long w0_3), .second, .val (.long (f1 w0_2 w0_3)), .second, .val (.long (f2 w0_2 w0_3)), .second, .val (.long w0_4), .second, .val (.long w0_5), .second, .val (.long w0_6), .second, .val (.long w0_7), .second, rv b29, .unset, .unset, .unset, .unset, .unset, .unset, .unset] [(.ref b29)])) (fun t k => ?_) ?_
  · show Steps p.tables e below (T40.setTop (mkF m 106 #[iv p0, iv p1, iv p2, .val (.long w0_1), .second, .val (.long w0_2), .second, .val (.long w0_3), .second, .val (.long (f1 w0_2 w0_3)), .second, .val (.long (f2 w0_2 w0_3)), .second, .val (.long w0_4), .second, .val (.long w0_5), .second, .val (.long w0_6), .second, .val (.long w0_7), .second, rv b29, .unset, .unset, .unset, .unset, .unset, .unset, .unset] [])) _
    refine XS.aload X40.here hx rfl (hb hby at_106) rfl rfl ?_
    exact k
  have F46 := (F41.keep K40)
  obtain ⟨cq45, kq45, q45a, q45b, q45c⟩ := isOf hZ rfl F46
  obtain ⟨_, _, ⟨T45, L45, k45, n45⟩, -, X45, ⟨Lc45, hQ45, l45, y45, z45⟩, st45⟩ := X40.virtualBack hx (y := (⟨"com/example/rowfold/rowfold/codec/CodeRange", "shift", "()I"⟩ : MethodName)) (z := (⟨"com/example/rowfold/rowfold/codec/CodeRange", "shift", "()I"⟩ : MethodName)) hown (mvT hZ (own_h hw 30 rfl)) (mvT hZ (own_h hw 31 rfl)) (notFace_of_selects (args := #[]) (mvT hZ (own_h hw 33 rfl))) (mvT hZ (own_h hw 33 rfl)) (mvT hZ (own_h hw 32 rfl)) (by decide) (backOf (W := 0) (rm6 l Z aZ hw [] b29 ((w0_4 - (1:Int64)) + (1:Int64)) w0_5 T40.heap n0 Z44 F46 G42 G43 ge_b29) hZ (own_h hw 34 rfl) (own_h hw 13 rfl) (by decide) (by decide)) q45a q45c (g := (mkF m 108 #[iv p0, iv p1, iv p2, .val (.long w0_1), .second, .val (.long w0_2), .second, .val (.long w0_3), .second, .val (.long (f1 w0_2 w0_3)), .second, .val (.long (f2 w0_2 w0_3)), .second, .val (.long w0_4), .second, .val (.long w0_5), .second, .val (.long w0_6), .second, .val (.long w0_7), .second, rv b29, .unset, .unset, .unset, .unset, .unset, .unset, .unset] [(.ref b29)])) rfl (by rw [hml]; rfl) (Steps.refl _) (argsL := []) (rest := []) (lenOf own_pd3 rfl) rfl (by show 2 * 0 + _ ≤ _; exact Nat.le_of_eq rfl) (hb hby at_108) (fun _ _ => ⟨rfl, rfl, (by decide : 1 + 0 ≤ _), (by decide : 2 + 0 ≤ _)⟩)
  dsimp only [Pt.U, Pt.locs, Pt.cells, Pt.slots] at X45 l45 y45 z45 st45 hQ45
  subst l45 y45 z45
  obtain ⟨rfl, N45q, K45, G47, G48⟩ := hQ45
  have N45 := Fr.app N40 N45q
  have Z49 : n0 ≤ T45.heap.size := Nat.le_trans Z44 K45.1
  refine own_pre (fun _ k => st45.trans k) ?_
  obtain ⟨w0_8, hw0_8⟩ : ∃ z : Int32, z = ((w0_5.toUInt64 >>> ((24:Int32) &&& 0x3f).toInt64.toUInt64).toInt64.toInt32) := ⟨_, rfl⟩
  refine own_pre (A := T45.setTop (mkF m 116 #[iv p0, iv p1, iv p2, .val (.long w0_1), .second, .val (.long w0_2), .second, .val (.long w0_3), .second, .val (.long (f1 w0_2 w0_3)), .second, .val (.long (f2 w0_2 w0_3)), .second, .val (.long w0_4), .second, .val (.long w0_5), .second, .val (.long w0_6), .second, .val (.long w0_7), .second, rv b29, iv w0_8, .unset, .unset, .unset, .unset, .unset, .unset] [(.int (0:Int32)), (.ref b29)])) (fun t k => ?_) ?_
  · show Steps p.tables e below (T45.setTop (mkF m 111 #[iv p0, iv p1, iv p2, .val (.long w0_1), .second, .val (.long w0_2), .second, .val (.long w0_3), .second, .val (.long (f1 w0_2 w0_3)), .second, .val (.long (f2 w0_2 w0_3)), .second, .val (.long w0_4), .second, .val (.long w0_5), .second, .val (.long w0_6), .second, .val (.long w0_7), .second, rv b29, .unset, .unset, .unset, .unset, .unset, .unset, .unset] [(.int ((w0_5.toUInt64 >>> ((24:Int32) &&& 0x3f).toInt64.toUInt64).toInt64.toInt32))])) _
    refine XS.istore X45.here hx rfl (hb hby at_111) rfl (l' := #[iv p0, iv p1, iv p2, .val (.long w0_1), .second, .val (.long w0_2), .second, .val (.long w0_3), .second, .val (.long (f1 w0_2 w0_3)), .second, .val (.long (f2 w0_2 w0_3)), .second, .val (.long w0_4), .second, .val (.long w0_5), .second, .val (.long w0_6), .second, .val (.long w0_7), .second, rv b29, iv w0_8, .unset, .unset, .unset, .unset, .unset, .unset]) (by rw [hw0_8]; rfl) ?_
    show Steps p.tables e below (T45.setTop (mkF m 113 #[iv p0, iv p1, iv p2, .val (.long w0_1), .second, .val (.long w0_2), .second, .val (.long w0_3), .second, .val (.long (f1 w0_2 w0_3)), .second, .val (.long (f2 w0_2 w0_3)), .second, .val (.long w0_4), .second, .val (.long w0_5), .second, .val (.long w0_6), .second, .val (.long w0_7), .second, rv b29, iv w0_8, .unset, .unset, .unset, .unset, .unset, .unset] [])) _
    refine XS.aload X45.here hx rfl (hb hby at_113) rfl rfl ?_
    show Steps p.tables e below (T45.setTop (mkF m 115 #[iv p0, iv p1, iv p2, .val (.long w0_1), .second, .val (.long w0_2), .second, .val (.long w0_3), .second, .val (.long (f1 w0_2 w0_3)), .second, .val (.long (f2 w0_2 w0_3)), .second, .val (.long w0_4), .second, .val (.long w0_5), .second, .val (.long w0_6), .second, .val (.long w0_7), .second, rv b29, iv w0_8, .unset, .unset, .unset, .unset, .unset, .unset] [(.ref b29)])) _
    refine XS.iconst X45.here hx rfl (hb hby at_115) ?_
    exact k
  have F51 := (F46.keep K45)
  obtain ⟨cq50, kq50, q50a, q50b, q50c⟩ := isOf hZ rfl F51
  obtain ⟨_, _, ⟨T50, L50, k50, n50⟩, -, X50, ⟨Lc50, hQ50, l50, y50, z50⟩, st50⟩ := X45.virtualBack hx (y := (⟨"com/example/rowfold/rowfold/codec/CodeRange", "middle", "(I)J"⟩ : MethodName)) (z := (⟨"com/example/rowfold/rowfold/codec/CodeRange", "middle", "(I)J"⟩ : MethodName)) hown (mvT hZ (own_h hw 36 rfl)) (mvT hZ (own_h hw 37 rfl)) (notFace_of_selects (args := #[]) (mvT hZ (own_h hw 39 rfl))) (mvT hZ (own_h hw 39 rfl)) (mvT hZ (own_h hw 38 rfl)) (by decide) (backOf (W := 0) (rm7 l Z aZ hw [] b29 (0:Int32) ((((w0_4 - (1:Int64)) + (1:Int64)) <<< ((8:Int32) &&& 0x3f).toInt64) &&& (4294967295:Int64)) (((w0_5 <<< ((8:Int32) &&& 0x3f).toInt64) &&& (4294967295:Int64)) ||| (255:Int64)) T45.heap n0 Z49 G47 G48) hZ (own_h hw 40 rfl) (own_h hw 13 rfl) (by decide) (by decide)) q50a q50c (g := (mkF m 116 #[iv p0, iv p1, iv p2, .val (.long w0_1), .second, .val (.long w0_2), .second, .val (.long w0_3), .second, .val (.long (f1 w0_2 w0_3)), .second, .val (.long (f2 w0_2 w0_3)), .second, .val (.long w0_4), .second, .val (.long w0_5), .second, .val (.long w0_6), .second, .val (.long w0_7), .second, rv b29, iv w0_8, .unset, .unset, .unset, .unset, .unset, .unset] [(.int (0:Int32)), (.ref b29)])) rfl (by rw [hml]; rfl) (Steps.refl _) (argsL := [(.int (0:Int32))]) (rest := []) (lenOf own_pd4 rfl) rfl (by show 2 * 0 + _ ≤ _; exact Nat.le_of_eq rfl) (hb hby at_116) (fun _ _ => ⟨rfl, rfl, (by decide : 1 + 0 ≤ _), (by decide : 2 + 0 ≤ _)⟩)
  dsimp only [Pt.U, Pt.locs, Pt.cells, Pt.slots] at X50 l50 y50 z50 st50 hQ50
  subst l50 y50 z50
  obtain ⟨rfl, N50q, eh50⟩ := hQ50
  have N50 := Fr.app N45 N50q
  refine own_pre (fun _ k => st50.trans k) ?_
  obtain ⟨w0_9, hw0_9⟩ : ∃ z : Int64, z = (f7 (0:Int32) ((((w0_4 - (1:Int64)) + (1:Int64)) <<< ((8:Int32) &&& 0x3f).toInt64) &&& (4294967295:Int64)) (((w0_5 <<< ((8:Int32) &&& 0x3f).toInt64) &&& (4294967295:Int64)) ||| (255:Int64))) := ⟨_, rfl⟩
  refine own_pre (A := T50.setTop (mkF m 128 #[iv p0, iv p1, iv p2, .val (.long w0_1), .second, .val (.long w0_2), .second, .val (.long w0_3), .second, .val (.long (f1 w0_2 w0_3)), .second, .val (.long (f2 w0_2 w0_3)), .second, .val (.long w0_4), .second, .val (.long w0_5), .second, .val (.long w0_6), .second, .val (.long w0_7), .second, rv b29, iv w0_8, .val (.long w0_9), .second, .unset, .unset, .unset, .unset] [(.long (w0_7 - (1:Int64))), (.int (0:Int32)), (.ref b29)])) (fun t k => ?_) ?_
  · show Steps p.tables e below (T50.setTop (mkF m 119 #[iv p0, iv p1, iv p2, .val (.long w0_1), .second, .val (.long w0_2), .second, .val (.long w0_3), .second, .val (.long (f1 w0_2 w0_3)), .second, .val (.long (f2 w0_2 w0_3)), .second, .val (.long w0_4), .second, .val (.long w0_5), .second, .val (.long w0_6), .second, .val (.long w0_7), .second, rv b29, iv w0_8, .unset, .unset, .unset, .unset, .unset, .unset] [(.long (f7 (0:Int32) ((((w0_4 - (1:Int64)) + (1:Int64)) <<< ((8:Int32) &&& 0x3f).toInt64) &&& (4294967295:Int64)) (((w0_5 <<< ((8:Int32) &&& 0x3f).toInt64) &&& (4294967295:Int64)) ||| (255:Int64))))])) _
    refine XS.lstore X50.here hx rfl (hb hby at_119) rfl (l' := #[iv p0, iv p1, iv p2, .val (.long w0_1), .second, .val (.long w0_2), .second, .val (.long w0_3), .second, .val (.long (f1 w0_2 w0_3)), .second, .val (.long (f2 w0_2 w0_3)), .second, .val (.long w0_4), .second, .val (.long w0_5), .second, .val (.long w0_6), .second, .val (.long w0_7), .second, rv b29, iv w0_8, .val (.long w0_9), .second, .unset, .unset, .unset, .unset]) (by rw [hw0_9]; rfl) ?_
    show Steps p.tables e below (T50.setTop (mkF m 121 #[iv p0, iv p1, iv p2, .val (.long w0_1), .second, .val (.long w0_2), .second, .val (.long w0_3), .second, .val (.long (f1 w0_2 w0_3)), .second, .val (.long (f2 w0_2 w0_3)), .second, .val (.long w0_4), .second, .val (.long w0_5), .second, .val (.long w0_6), .second, .val (.long w0_7), .second, rv b29, iv w0_8, .val (.long w0_9), .second, .unset, .unset, .unset, .unset] [])) _
    refine XS.aload X50.here hx rfl (hb hby at_121) rfl rfl ?_
    show Steps p.tables e below (T50.setTop (mkF m 123 #[iv p0, iv p1, iv p2, .val (.long w0_1), .second, .val (.long w0_2), .second, .val (.long w0_3), .second, .val (.long (f1 w0_2 w0_3)), .second, .val (.long (f2 w0_2 w0_3)), .second, .val (.long w0_4), .second, .val (.long w0_5), .second, .val (.long w0_6), .second, .val (.long w0_7), .second, rv b29, iv w0_8, .val (.long w0_9), .second, .unset, .unset, .unset, .unset] [(.ref b29)])) _
    refine XS.iconst X50.here hx rfl (hb hby at_123) ?_
    show Steps p.tables e below (T50.setTop (mkF m 124 #[iv p0, iv p1, iv p2, .val (.long w0_1), .second, .val (.long w0_2), .second, .val (.long w0_3), .second, .val (.long (f1 w0_2 w0_3)), .second, .val (.long (f2 w0_2 w0_3)), .second, .val (.long w0_4), .second, .val (.long w0_5), .second, .val (.long w0_6), .second, .val (.long w0_7), .second, rv b29, iv w0_8, .val (.long w0_9), .second, .unset, .unset, .unset, .unset] [(.int (0:Int32)), (.ref b29)])) _
    refine XS.lload X50.here hx rfl (hb hby at_124) rfl ?_
    show Steps p.tables e below (T50.setTop (mkF m 126 #[iv p0, iv p1, iv p2, .val (.long w0_1), .second, .val (.long w0_2), .second, .val (.long w0_3), .second, .val (.long (f1 w0_2 w0_3)), .second, .val (.long (f2 w0_2 w0_3)), .second, .val (.long w0_4), .second, .val (.long w0_5), .second, .val (.long w0_6), .second, .val (.long w0_7), .second, rv b29, iv w0_8, .val (.long w0_9), .second, .unset, .unset, .unset, .unset] [(.long w0_7), (.int (0:Int32)), (.ref b29)])) _
    refine XS.lconst X50.here hx rfl (hb hby at_126) ?_
    show Steps p.tables e below (T50.setTop (mkF m 127 #[iv p0, iv p1, iv p2, .val (.long w0_1), .second, .val (.long w0_2), .second, .val (.long w0_3), .second, .val (.long (f1 w0_2 w0_3)), .second, .val (.long (f2 w0_2 w0_3)), .second, .val (.long w0_4), .second, .val (.long w0_5), .second, .val (.long w0_6), .second, .val (.long w0_7), .second, rv b29, iv w0_8, .val (.long w0_9), .second, .unset, .unset, .unset, .unset] [(.long (1:Int64)), (.long w0_7), (.int (0:Int32)), (.ref b29)])) _
    refine XS.lsub X50.here hx rfl (hb hby at_127) rfl ?_
    exact k
  obtain ⟨cq52, kq52, q52a, q52b, q52c⟩ := isOf hZ eh50 F51
  obtain ⟨_, _, ⟨T52, L52, k52, n52⟩, -, X52, ⟨Lc52, hQ52, l52, y52, z52⟩, st52⟩ := X50.virtualBack hx (y := (⟨"com/example/rowfold/rowfold/codec/CodeRange", "narrow", "(IJ)V"⟩ : MethodName)) (z := (⟨"com/example/rowfold/rowfold/codec/CodeRange", "narrow", "(IJ)V"⟩ : MethodName)) hown (mvT hZ (own_h hw 23 rfl)) (mvT hZ (own_h hw 24 rfl)) (notFace_of_selects (args := #[]) (mvT hZ (own_h hw 26 rfl))) (mvT hZ (own_h hw 26 rfl)) (mvT hZ (own_h hw 25 rfl)) (by decide) (backOf (W := 0) (rm5z l Z aZ hw [] b29 (0:Int32) (w0_7 - (1:Int64)) ((((w0_4 - (1:Int64)) + (1:Int64)) <<< ((8:Int32) &&& 0x3f).toInt64) &&& (4294967295:Int64)) (((w0_5 <<< ((8:Int32) &&& 0x3f).toInt64) &&& (4294967295:Int64)) ||| (255:Int64)) T45.heap n0 Z49 F51 G47 G48 ge_b29 rfl) hZ (own_h hw 27 rfl) (own_h hw 13 rfl) (by decide) (by decide)) q52a q52c (g := (mkF m 128 #[iv p0, iv p1, iv p2, .val (.long w0_1), .second, .val (.long w0_2), .second, .val (.long w0_3), .second, .val (.long (f1 w0_2 w0_3)), .second, .val (.long (f2 w0_2 w0_3)), .second, .val (.long w0_4), .second, .val (.long w0_5), .second, .val (.long w0_6), .second, .val (.long w0_7), .second, rv b29, iv w0_8, .val (.long w0_9), .second, .unset, .unset, .unset, .unset] [(.long (w0_7 - (1:Int64))), (.int (0:Int32)), (.ref b29)])) rfl (by rw [hml]; rfl) (Steps.refl _) (argsL := [(.int (0:Int32)), (.long (w0_7 - (1:Int64)))]) (rest := []) (lenOf own_pd2 rfl) rfl (by show 2 * 0 + _ ≤ _; exact Nat.le_of_eq rfl) (hb hby at_128) (fun _ _ => ⟨rfl, eh50, (by decide : 1 + 0 ≤ _), (by decide : 2 + 0 ≤ _)⟩)
  dsimp only [Pt.U, Pt.locs, Pt.cells, Pt.slots] at X52 l52 y52 z52 st52 hQ52
  subst l52 y52 z52
  obtain ⟨rfl, N52q, K52, G53, G54⟩ := hQ52
  have N52 := Fr.app N50 N52q
  have Z55 : n0 ≤ T52.heap.size := Nat.le_trans Z49 K52.1
  refine own_pre (fun _ k => st52.trans k) ?_
  refine own_pre (A := T52.setTop (mkF m 134 #[iv p0, iv p1, iv p2, .val (.long w0_1), .second, .val (.long w0_2), .second, .val (.long w0_3), .second, .val (.long (f1 w0_2 w0_3)), .second, .val (.long (f2 w0_2 w0_3)), .second, .val (.long w0_4), .second, .val (.long w0_5), .second, .val (.long w0_6), .second, .val (.long w0_7), .second, rv b29, iv w0_8, .val (.long w0_9), .second, .unset, .unset, .unset, .unset] [(.int (1:Int32)), (.ref b29)])) (fun t k => ?_) ?_
  · show Steps p.tables e below (T52.setTop (mkF m 131 #[iv p0, iv p1, iv p2, .val (.long w0_1), .second, .val (.long w0_2), .second, .val (.long w0_3), .second, .val (.long (f1 w0_2 w0_3)), .second, .val (.long (f2 w0_2 w0_3)), .second, .val (.long w0_4), .second, .val (.long w0_5), .second, .val (.long w0_6), .second, .val (.long w0_7), .second, rv b29, iv w0_8, .val (.long w0_9), .second, .unset, .unset, .unset, .unset] [])) _
    refine XS.aload X52.here hx rfl (hb hby at_131) rfl rfl ?_
    show Steps p.tables e below (T52.setTop (mkF m 133 #[iv p0, iv p1, iv p2, .val (.long w0_1), .second, .val (.long w0_2), .second, .val (.long w0_3), .second, .val (.long (f1 w0_2 w0_3)), .second, .val (.long (f2 w0_2 w0_3)), .second, .val (.long w0_4), .second, .val (.long w0_5), .second, .val (.long w0_6), .second, .val (.long w0_7), .second, rv b29, iv w0_8, .val (.long w0_9), .second, .unset, .unset, .unset, .unset] [(.ref b29)])) _
    refine XS.iconst X52.here hx rfl (hb hby at_133) ?_
    exact k
  have F57 := (F51.keep K52)
  obtain ⟨cq56, kq56, q56a, q56b, q56c⟩ := isOf hZ rfl F57
  obtain ⟨_, _, ⟨T56, L56, k56, n56⟩, -, X56, ⟨Lc56, hQ56, l56, y56, z56⟩, st56⟩ := X52.virtualBack hx (y := (⟨"com/example/rowfold/rowfold/codec/CodeRange", "middle", "(I)J"⟩ : MethodName)) (z := (⟨"com/example/rowfold/rowfold/codec/CodeRange", "middle", "(I)J"⟩ : MethodName)) hown (mvT hZ (own_h hw 36 rfl)) (mvT hZ (own_h hw 37 rfl)) (notFace_of_selects (args := #[]) (mvT hZ (own_h hw 39 rfl))) (mvT hZ (own_h hw 39 rfl)) (mvT hZ (own_h hw 38 rfl)) (by decide) (backOf (W := 0) (rm7 l Z aZ hw [] b29 (1:Int32) ((w0_7 - (1:Int64)) + (1:Int64)) (((w0_5 <<< ((8:Int32) &&& 0x3f).toInt64) &&& (4294967295:Int64)) ||| (255:Int64)) T52.heap n0 Z55 G53 G54) hZ (own_h hw 40 rfl) (own_h hw 13 rfl) (by decide) (by decide)) q56a q56c (g := (mkF m 134 #[iv p0, iv p1, iv p2, .val (.long w0_1), .second, .val (.long w0_2), .second, .val (.long w0_3), .second, .val (.long (f1 w0_2 w0_3)), .second, .val (.long (f2 w0_2 w0_3)), .second, .val (.long w0_4), .second, .val (.long w0_5), .second, .val (.long w0_6), .second, .val (.long w0_7), .second, rv b29, iv w0_8, .val (.long w0_9), .second, .unset, .unset, .unset, .unset] [(.int (1:Int32)), (.ref b29)])) rfl (by rw [hml]; rfl) (Steps.refl _) (argsL := [(.int (1:Int32))]) (rest := []) (lenOf own_pd4 rfl) rfl (by show 2 * 0 + _ ≤ _; exact Nat.le_of_eq rfl) (hb hby at_134) (fun _ _ => ⟨rfl, rfl, (by decide : 1 + 0 ≤ _), (by decide : 2 + 0 ≤ _)⟩)
  dsimp only [Pt.U, Pt.locs, Pt.cells, Pt.slots] at X56 l56 y56 z56 st56 hQ56
  subst l56 y56 z56
  obtain ⟨rfl, N56q, eh56⟩ := hQ56
  have N56 := Fr.app N52 N56q
  refine own_pre (fun _ k => st56.trans k) ?_
  obtain ⟨w0_10, hw0_10⟩ : ∃ z : Int64, z = (f7 (1:Int32) ((w0_7 - (1:Int64)) + (1:Int64)) (((w0_5 <<< ((8:Int32) &&& 0x3f).toInt64) &&& (4294967295:Int64)) ||| (255:Int64))) := ⟨_, rfl⟩
  refine own_pre (A := T56.setTop (mkF m 148 #[iv p0, iv p1, iv p2, .val (.long w0_1), .second, .val (.long w0_2), .second, .val (.long w0_3), .second, .val (.long (f1 w0_2 w0_3)), .second, .val (.long (f2 w0_2 w0_3)), .second, .val (.long w0_4), .second, .val (.long w0_5), .second, .val (.long w0_6), .second, .val (.long w0_7), .second, rv b29, iv w0_8, .val (.long w0_9), .second, .val (.long w0_10), .second, .unset, .unset] [(.long (w0_7 - (4096:Int64))), (.int (0:Int32)), (.ref b29)])) (fun t k => ?_) ?_
  · show Steps p.tables e below (T56.setTop (mkF m 137 #[iv p0, iv p1, iv p2, .val (.long w0_1), .second, .val (.long w0_2), .second, .val (.long w0_3), .second, .val (.long (f1 w0_2 w0_3)), .second, .val (.long (f2 w0_2 w0_3)), .second, .val (.long w0_4), .second, .val (.long w0_5), .second, .val (.long w0_6), .second, .val (.long w0_7), .second, rv b29, iv w0_8, .val (.long w0_9), .second, .unset, .unset, .unset, .unset] [(.long (f7 (1:Int32) ((w0_7 - (1:Int64)) + (1:Int64)) (((w0_5 <<< ((8:Int32) &&& 0x3f).toInt64) &&& (4294967295:Int64)) ||| (255:Int64))))])) _
    refine XS.lstore X56.here hx rfl (hb hby at_137) rfl (l' := #[iv p0, iv p1, iv p2, .val (.long w0_1), .second, .val (.long w0_2), .second, .val (.long w0_3), .second, .val (.long (f1 w0_2 w0_3)), .second, .val (.long (f2 w0_2 w0_3)), .second, .val (.long w0_4), .second, .val (.long w0_5), .second, .val (.long w0_6), .second, .val (.long w0_7), .second, rv b29, iv w0_8, .val (.long w0_9), .second, .val (.long w0_10), .second, .unset, .unset]) (by rw [hw0_10]; rfl) ?_
    show Steps p.tables e below (T56.setTop (mkF m 139 #[iv p0, iv p1, iv p2, .val (.long w0_1), .second, .val (.long w0_2), .second, .val (.long w0_3), .second, .val (.long (f1 w0_2 w0_3)), .second, .val (.long (f2 w0_2 w0_3)), .second, .val (.long w0_4), .second, .val (.long w0_5), .second, .val (.long w0_6), .second, .val (.long w0_7), .second, rv b29, iv w0_8, .val (.long w0_9), .second, .val (.long w0_10), .second, .unset, .unset] [])) _
    refine XS.aload X56.here hx rfl (hb hby at_139) rfl rfl ?_
    show Steps p.tables e below (T56.setTop (mkF m 141 #[iv p0, iv p1, iv p2, .val (.long w0_1), .second, .val (.long w0_2), .second, .val (.long w0_3), .second, .val (.long (f1 w0_2 w0_3)), .second, .val (.long (f2 w0_2 w0_3)), .second, .val (.long w0_4), .second, .val (.long w0_5), .second, .val (.long w0_6), .second, .val (.long w0_7), .second, rv b29, iv w0_8, .val (.long w0_9), .second, .val (.long w0_10), .second, .unset, .unset] [(.ref b29)])) _
    refine XS.iconst X56.here hx rfl (hb hby at_141) ?_
    show Steps p.tables e below (T56.setTop (mkF m 142 #[iv p0, iv p1, iv p2, .val (.long w0_1), .second, .val (.long w0_2), .second, .val (.long w0_3), .second, .val (.long (f1 w0_2 w0_3)), .second, .val (.long (f2 w0_2 w0_3)), .second, .val (.long w0_4), .second, .val (.long w0_5), .second, .val (.long w0_6), .second, .val (.long w0_7), .second, rv b29, iv w0_8, .val (.long w0_9), .second, .val (.long w0_10), .second, .unset, .unset] [(.int (0:Int32)), (.ref b29)])) _
    refine XS.lload X56.here hx rfl (hb hby at_142) rfl ?_
    show Steps p.tables e below (T56.setTop (mkF m 144 #[iv p0, iv p1, iv p2, .val (.long w0_1), .second, .val (.long w0_2), .second, .val (.long w0_3), .second, .val (.long (f1 w0_2 w0_3)), .second, .val (.long (f2 w0_2 w0_3)), .second, .val (.long w0_4), .second, .val (.long w0_5), .second, .val (.long w0_6), .second, .val (.long w0_7), .second, rv b29, iv w0_8, .val (.long w0_9), .second, .val (.long w0_10), .second, .unset, .unset] [(.long w0_7), (.int (0:Int32)), (.ref b29)])) _
    refine Jvm.Stand.ldc2J X56 hx hown (mvT hZ (own_h hw 41 rfl)) rfl (hb hby at_144) ?_
    show Steps p.tables e below (T56.setTop (mkF m 147 #[iv p0, iv p1, iv p2, .val (.long w0_1), .second, .val (.long w0_2), .second, .val (.long w0_3), .second, .val (.long (f1 w0_2 w0_3)), .second, .val (.long (f2 w0_2 w0_3)), .second, .val (.long w0_4), .second, .val (.long w0_5), .second, .val (.long w0_6), .second, .val (.long w0_7), .second, rv b29, iv w0_8, .val (.long w0_9), .second, .val (.long w0_10), .second, .unset, .unset] [(.long (4096:Int64)), (.long w0_7), (.int (0:Int32)), (.ref b29)])) _
    refine XS.lsub X56.here hx rfl (hb hby at_147) rfl ?_
    exact k
  obtain ⟨cq58, kq58, q58a, q58b, q58c⟩ := isOf hZ eh56 F57
  obtain ⟨_, _, ⟨T58, L58, k58, n58⟩, -, X58, ⟨Lc58, hQ58, l58, y58, z58⟩, st58⟩ := X56.virtualBack hx (y := (⟨"com/example/rowfold/rowfold/codec/CodeRange", "narrow", "(IJ)V"⟩ : MethodName)) (z := (⟨"com/example/rowfold/rowfold/codec/CodeRange", "narrow", "(IJ)V"⟩ : MethodName)) hown (mvT hZ (own_h hw 23 rfl)) (mvT hZ (own_h hw 24 rfl)) (notFace_of_selects (args := #[]) (mvT hZ (own_h hw 26 rfl))) (mvT hZ (own_h hw 26 rfl)) (mvT hZ (own_h hw 25 rfl)) (by decide) (backOf (W := 0) (rm5z l Z aZ hw [] b29 (0:Int32) (w0_7 - (4096:Int64)) ((w0_7 - (1:Int64)) + (1:Int64)) (((w0_5 <<< ((8:Int32) &&& 0x3f).toInt64) &&& (4294967295:Int64)) ||| (255:Int64)) T52.heap n0 Z55 F57 G53 G54 ge_b29 rfl) hZ (own_h hw 27 rfl) (own_h hw 13 rfl) (by decide) (by decide)) q58a q58c (g := (mkF m 148 #[iv p0, iv p1, iv p2, .val (.long w0_1), .second, .val (.long w0_2), .second, .val (.long w0_3), .second, .val (.long (f1 w0_2 w0_3)), .second, .val (.long (f2 w0_2 w0_3)), .second, .val (.long w0_4), .second, .val (.long w0_5), .second, .val (.long w0_6), .second, .val (.long w0_7), .second, rv b29, iv w0_8, .val (.long w0_9), .second, .val (.long w0_10), .second, .unset, .unset] [(.long (w0_7 - (4096:Int64))), (.int (0:Int32)), (.ref b29)])) rfl (by rw [hml]; rfl) (Steps.refl _) (argsL := [(.int (0:Int32)), (.long (w0_7 - (4096:Int64)))]) (rest := []) (lenOf own_pd2 rfl) rfl (by show 2 * 0 + _ ≤ _; exact Nat.le_of_eq rfl) (hb hby at_148) (fun _ _ => ⟨rfl, eh56, (by decide : 1 + 0 ≤ _), (by decide : 2 + 0 ≤ _)⟩)
  dsimp only [Pt.U, Pt.locs, Pt.cells, Pt.slots] at X58 l58 y58 z58 st58 hQ58
  subst l58 y58 z58
  obtain ⟨rfl, N58q, K58, G59, G60⟩ := hQ58
  have N58 := Fr.app N56 N58q
  have Z61 : n0 ≤ T58.heap.size := Nat.le_trans Z55 K58.1
  refine own_pre (fun _ k => st58.trans k) ?_
  refine own_pre (A := T58.setTop (mkF m 154 #[iv p0, iv p1, iv p2, .val (.long w0_1), .second, .val (.long w0_2), .second, .val (.long w0_3), .second, .val (.long (f1 w0_2 w0_3)), .second, .val (.long (f2 w0_2 w0_3)), .second, .val (.long w0_4), .second, .val (.long w0_5), .second, .val (.long w0_6), .second, .val (.long w0_7), .second, rv b29, iv w0_8, .val (.long w0_9), .second, .val (.long w0_10), .second, .unset, .unset] [(.int (1:Int32)), (.ref b29)])) (fun t k => ?_) ?_
  · show Steps p.tables e below (T58.setTop (mkF m 151 #[iv p0, iv p1, iv p2, .val (.long w0_1), .second, .val (.long w0_2), .second, .val (.long w0_3), .second, .val (.long (f1 w0_2 w0_3)), .second, .val (.long (f2 w0_2 w0_3)), .second, .val (.long w0_4), .second, .val (.long w0_5), .second, .val (.long w0_6), .second, .val (.long w0_7), .second, rv b29, iv w0_8, .val (.long w0_9), .second, .val (.long w0_10), .second, .unset, .unset] [])) _
    refine XS.aload X58.here hx rfl (hb hby at_151) rfl rfl ?_
    show Steps p.tables e below (T58.setTop (mkF m 153 #[iv p0, iv p1, iv p2, .val (.long w0_1), .second, .val (.long w0_2), .second, .val (.long w0_3), .second, .val (.long (f1 w0_2 w0_3)), .second, .val (.long (f2 w0_2 w0_3)), .second, .val (.long w0_4), .second, .val (.long w0_5), .second, .val (.long w0_6), .second, .val (.long w0_7), .second, rv b29, iv w0_8, .val (.long w0_9), .second, .val (.long w0_10), .second, .unset, .unset] [(.ref b29)])) _
    refine XS.iconst X58.here hx rfl (hb hby at_153) ?_
    exact k
  have F63 := (F57.keep K58)
  obtain ⟨cq62, kq62, q62a, q62b, q62c⟩ := isOf hZ rfl F63
  obtain ⟨_, _, ⟨T62, L62, k62, n62⟩, -, X62, ⟨Lc62, hQ62, l62, y62, z62⟩, st62⟩ := X58.virtualBack hx (y := (⟨"com/example/rowfold/rowfold/codec/CodeRange", "middle", "(I)J"⟩ : MethodName)) (z := (⟨"com/example/rowfold/rowfold/codec/CodeRange", "middle", "(I)J"⟩ : MethodName)) hown (mvT hZ (own_h hw 36 rfl)) (mvT hZ (own_h hw 37 rfl)) (notFace_of_selects (args := #[]) (mvT hZ (own_h hw 39 rfl))) (mvT hZ (own_h hw 39 rfl)) (mvT hZ (own_h hw 38 rfl)) (by decide) (backOf (W := 0) (rm7 l Z aZ hw [] b29 (1:Int32) ((w0_7 - (4096:Int64)) + (1:Int64)) (((w0_5 <<< ((8:Int32) &&& 0x3f).toInt64) &&& (4294967295:Int64)) ||| (255:Int64)) T58.heap n0 Z61 G59 G60) hZ (own_h hw 40 rfl) (own_h hw 13 rfl) (by decide) (by decide)) q62a q62c (g := (mkF m 154 #[iv p0, iv p1, iv p2, .val (.long w0_1), .second, .val (.long w0_2), .second, .val (.long w0_3), .second, .val (.long (f1 w0_2 w0_3)), .second, .val (.long (f2 w0_2 w0_3)), .second, .val (.long w0_4), .second, .val (.long w0_5), .second, .val (.long w0_6), .second, .val (.long w0_7), .second, rv b29, iv w0_8, .val (.long w0_9), .second, .val (.long w0_10), .second, .unset, .unset] [(.int (1:Int32)), (.ref b29)])) rfl (by rw [hml]; rfl) (Steps.refl _) (argsL := [(.int (1:Int32))]) (rest := []) (lenOf own_pd4 rfl) rfl (by show 2 * 0 + _ ≤ _; exact Nat.le_of_eq rfl) (hb hby at_154) (fun _ _ => ⟨rfl, rfl, (by decide : 1 + 0 ≤ _), (by decide : 2 + 0 ≤ _)⟩)
  dsimp only [Pt.U, Pt.locs, Pt.cells, Pt.slots] at X62 l62 y62 z62 st62 hQ62
  subst l62 y62 z62
  obtain ⟨rfl, N62q, eh62⟩ := hQ62
  have N62 := Fr.app N58 N62q
  refine own_pre (fun _ k => st62.trans k) ?_
  obtain ⟨w0_11, hw0_11⟩ : ∃ z : Int64, z = (f7 (1:Int32) ((w0_7 - (4096:Int64)) + (1:Int64)) (((w0_5 <<< ((8:Int32) &&& 0x3f).toInt64) &&& (4294967295:Int64)) ||| (255:Int64))) := ⟨_, rfl⟩
  refine own_pre (A := T62.setTop (mkF m 163 #[iv p0, iv p1, iv p2, .val (.long w0_1), .second, .val (.long w0_2), .second, .val (.long w0_3), .second, .val (.long (f1 w0_2 w0_3)), .second, .val (.long (f2 w0_2 w0_3)), .second, .val (.long w0_4), .second, .val (.long w0_5), .second, .val (.long w0_6), .second, .val (.long w0_7), .second, rv b29, iv w0_8, .val (.long w0_9), .second, .val (.long w0_10), .second, .val (.long w0_11), .second] [(.int (w0_1.toInt32)), (.int w0_8)])) (fun t k => ?_) ?_
  · show Steps p.tables e below (T62.setTop (mkF m 157 #[iv p0, iv p1, iv p2, .val (.long w0_1), .second, .val (.long w0_2), .second, .val (.long w0_3), .second, .val (.long (f1 w0_2 w0_3)), .second, .val (.long (f2 w0_2 w0_3)), .second, .val (.long w0_4), .second, .val (.long w0_5), .second, .val (.long w0_6), .second, .val (.long w0_7), .second, rv b29, iv w0_8, .val (.long w0_9), .second, .val (.long w0_10), .second, .unset, .unset] [(.long (f7 (1:Int32) ((w0_7 - (4096:Int64)) + (1:Int64)) (((w0_5 <<< ((8:Int32) &&& 0x3f).toInt64) &&& (4294967295:Int64)) ||| (255:Int64))))])) _
    refine XS.lstore X62.here hx rfl (hb hby at_157) rfl (l' := #[iv p0, iv p1, iv p2, .val (.long w0_1), .second, .val (.long w0_2), .second, .val (.long w0_3), .second, .val (.long (f1 w0_2 w0_3)), .second, .val (.long (f2 w0_2 w0_3)), .second, .val (.long w0_4), .second, .val (.long w0_5), .second, .val (.long w0_6), .second, .val (.long w0_7), .second, rv b29, iv w0_8, .val (.long w0_9), .second, .val (.long w0_10), .second, .val (.long w0_11), .second]) (by rw [hw0_11]; rfl) ?_
    show Steps p.tables e below (T62.setTop (mkF m 159 #[iv p0, iv p1, iv p2, .val (.long w0_1), .second, .val (.long w0_2), .second, .val (.long w0_3), .second, .val (.long (f1 w0_2 w0_3)), .second, .val (.long (f2 w0_2 w0_3)), .second, .val (.long w0_4), .second, .val (.long w0_5), .second, .val (.long w0_6), .second, .val (.long w0_7), .second, rv b29, iv w0_8, .val (.long w0_9), .second, .val (.long w0_10), .second, .val (.long w0_11), .second] [])) _
    refine XS.iload X62.here hx rfl (hb hby at_159) rfl ?_
    show Steps p.tables e below (T62.setTop (mkF m 161 #[iv p0, iv p1, iv p2, .val (.long w0_1), .second, .val (.long w0_2), .second, .val (.long w0_3), .second, .val (.long (f1 w0_2 w0_3)), .second, .val (.long (f2 w0_2 w0_3)), .second, .val (.long w0_4), .second, .val (.long w0_5), .second, .val (.long w0_6), .second, .val (.long w0_7), .second, rv b29, iv w0_8, .val (.long w0_9), .second, .val (.long w0_10), .second, .val (.long w0_11), .second] [(.int w0_8)])) _
    refine XS.lloadN X62.here hx rfl (hb hby at_161) rfl ?_
    show Steps p.tables e below (T62.setTop (mkF m 162 #[iv p0, iv p1, iv p2, .val (.long w0_1), .second, .val (.long w0_2), .second, .val (.long w0_3), .second, .val (.long (f1 w0_2 w0_3)), .second, .val (.long (f2 w0_2 w0_3)), .second, .val (.long w0_4), .second, .val (.long w0_5), .second, .val (.long w0_6), .second, .val (.long w0_7), .second, rv b29, iv w0_8, .val (.long w0_9), .second, .val (.long w0_10), .second, .val (.long w0_11), .second] [(.long w0_1), (.int w0_8)])) _
    refine XS.l2i X62.here hx rfl (hb hby at_162) rfl ?_
    exact k
  obtain ⟨w0_12, hw0_12⟩ : ∃ z : Int32, z = (if w0_8 = (w0_1.toInt32) then (if w0_9 = w0_6 then (if w0_10 = w0_7 then (if w0_11 = (w0_7 - (4095:Int64)) then (1:Int32) else (0:Int32)) else (0:Int32)) else (0:Int32)) else (0:Int32)) := ⟨_, rfl⟩
  refine own_pre (A := T62.setTop (mkF m 199 #[iv p0, iv p1, iv p2, .val (.long w0_1), .second, .val (.long w0_2), .second, .val (.long w0_3), .second, .val (.long (f1 w0_2 w0_3)), .second, .val (.long (f2 w0_2 w0_3)), .second, .val (.long w0_4), .second, .val (.long w0_5), .second, .val (.long w0_6), .second, .val (.long w0_7), .second, rv b29, iv w0_8, .val (.long w0_9), .second, .val (.long w0_10), .second, .val (.long w0_11), .second] [(.int w0_12)])) (fun t k => ?_) ?_
  · show Steps p.tables e below (T62.setTop (mkF m 163 #[iv p0, iv p1, iv p2, .val (.long w0_1), .second, .val (.long w0_2), .second, .val (.long w0_3), .second, .val (.long (f1 w0_2 w0_3)), .second, .val (.long (f2 w0_2 w0_3)), .second, .val (.long w0_4), .second, .val (.long w0_5), .second, .val (.long w0_6), .second, .val (.long w0_7), .second, rv b29, iv w0_8, .val (.long w0_9), .second, .val (.long w0_10), .second, .val (.long w0_11), .second] [(.int (w0_1.toInt32)), (.int w0_8)])) _
    by_cases hm163_1 : w0_8 = (w0_1.toInt32)
    · refine XS.icmpNo X62.here hx rfl (hb hby at_163) rfl (XT.ii_ne_f hm163_1) ?_
      show Steps p.tables e below (T62.setTop (mkF m 166 #[iv p0, iv p1, iv p2, .val (.long w0_1), .second, .val (.long w0_2), .second, .val (.long w0_3), .second, .val (.long (f1 w0_2 w0_3)), .second, .val (.long (f2 w0_2 w0_3)), .second, .val (.long w0_4), .second, .val (.long w0_5), .second, .val (.long w0_6), .second, .val (.long w0_7), .second, rv b29, iv w0_8, .val (.long w0_9), .second, .val (.long w0_10), .second, .val (.long w0_11), .second] [])) _
      refine XS.lload X62.here hx rfl (hb hby at_166) rfl ?_
      show Steps p.tables e below (T62.setTop (mkF m 168 #[iv p0, iv p1, iv p2, .val (.long w0_1), .second, .val (.long w0_2), .second, .val (.long w0_3), .second, .val (.long (f1 w0_2 w0_3)), .second, .val (.long (f2 w0_2 w0_3)), .second, .val (.long w0_4), .second, .val (.long w0_5), .second, .val (.long w0_6), .second, .val (.long w0_7), .second, rv b29, iv w0_8, .val (.long w0_9), .second, .val (.long w0_10), .second, .val (.long w0_11), .second] [(.long w0_9)])) _
      refine XS.lload X62.here hx rfl (hb hby at_168) rfl ?_
      show Steps p.tables e below (T62.setTop (mkF m 170 #[iv p0, iv p1, iv p2, .val (.long w0_1), .second, .val (.long w0_2), .second, .val (.long w0_3), .second, .val (.long (f1 w0_2 w0_3)), .second, .val (.long (f2 w0_2 w0_3)), .second, .val (.long w0_4), .second, .val (.long w0_5), .second, .val (.long w0_6), .second, .val (.long w0_7), .second, rv b29, iv w0_8, .val (.long w0_9), .second, .val (.long w0_10), .second, .val (.long w0_11), .second] [(.long w0_6), (.long w0_9)])) _
      refine XT.lcmp X62.here hx rfl (hb hby at_170) rfl ?_
      show Steps p.tables e below (T62.setTop (mkF m 171 #[iv p0, iv p1, iv p2, .val (.long w0_1), .second, .val (.long w0_2), .second, .val (.long w0_3), .second, .val (.long (f1 w0_2 w0_3)), .second, .val (.long (f2 w0_2 w0_3)), .second, .val (.long w0_4), .second, .val (.long w0_5), .second, .val (.long w0_6), .second, .val (.long w0_7), .second, rv b29, iv w0_8, .val (.long w0_9), .second, .val (.long w0_10), .second, .val (.long w0_11), .second] [(.int (XT.cmpL w0_9 w0_6))])) _
      by_cases hm171_2 : w0_9 = w0_6
      · refine XS.ifNo X62.here hx rfl (hb hby at_171) rfl (XT.ll_ne_f hm171_2) ?_
        show Steps p.tables e below (T62.setTop (mkF m 174 #[iv p0, iv p1, iv p2, .val (.long w0_1), .second, .val (.long w0_2), .second, .val (.long w0_3), .second, .val (.long (f1 w0_2 w0_3)), .second, .val (.long (f2 w0_2 w0_3)), .second, .val (.long w0_4), .second, .val (.long w0_5), .second, .val (.long w0_6), .second, .val (.long w0_7), .second, rv b29, iv w0_8, .val (.long w0_9), .second, .val (.long w0_10), .second, .val (.long w0_11), .second] [])) _
        refine XS.lload X62.here hx rfl (hb hby at_174) rfl ?_
        show Steps p.tables e below (T62.setTop (mkF m 176 #[iv p0, iv p1, iv p2, .val (.long w0_1), .second, .val (.long w0_2), .second, .val (.long w0_3), .second, .val (.long (f1 w0_2 w0_3)), .second, .val (.long (f2 w0_2 w0_3)), .second, .val (.long w0_4), .second, .val (.long w0_5), .second, .val (.long w0_6), .second, .val (.long w0_7), .second, rv b29, iv w0_8, .val (.long w0_9), .second, .val (.long w0_10), .second, .val (.long w0_11), .second] [(.long w0_10)])) _
        refine XS.lload X62.here hx rfl (hb hby at_176) rfl ?_
        show Steps p.tables e below (T62.setTop (mkF m 178 #[iv p0, iv p1, iv p2, .val (.long w0_1), .second, .val (.long w0_2), .second, .val (.long w0_3), .second, .val (.long (f1 w0_2 w0_3)), .second, .val (.long (f2 w0_2 w0_3)), .second, .val (.long w0_4), .second, .val (.long w0_5), .second, .val (.long w0_6), .second, .val (.long w0_7), .second, rv b29, iv w0_8, .val (.long w0_9), .second, .val (.long w0_10), .second, .val (.long w0_11), .second] [(.long w0_7), (.long w0_10)])) _
        refine XT.lcmp X62.here hx rfl (hb hby at_178) rfl ?_
        show Steps p.tables e below (T62.setTop (mkF m 179 #[iv p0, iv p1, iv p2, .val (.long w0_1), .second, .val (.long w0_2), .second, .val (.long w0_3), .second, .val (.long (f1 w0_2 w0_3)), .second, .val (.long (f2 w0_2 w0_3)), .second, .val (.long w0_4), .second, .val (.long w0_5), .second, .val (.long w0_6), .second, .val (.long w0_7), .second, rv b29, iv w0_8, .val (.long w0_9), .second, .val (.long w0_10), .second, .val (.long w0_11), .second] [(.int (XT.cmpL w0_10 w0_7))])) _
        by_cases hm179_3 : w0_10 = w0_7
        · refine XS.ifNo X62.here hx rfl (hb hby at_179) rfl (XT.ll_ne_f hm179_3) ?_
          show Steps p.tables e below (T62.setTop (mkF m 182 #[iv p0, iv p1, iv p2, .val (.long w0_1), .second, .val (.long w0_2), .second, .val (.long w0_3), .second, .val (.long (f1 w0_2 w0_3)), .second, .val (.long (f2 w0_2 w0_3)), .second, .val (.long w0_4), .second, .val (.long w0_5), .second, .val (.long w0_6), .second, .val (.long w0_7), .second, rv b29, iv w0_8, .val (.long w0_9), .second, .val (.long w0_10), .second, .val (.long w0_11), .second] [])) _
          refine XS.lload X62.here hx rfl (hb hby at_182) rfl ?_
          show Steps p.tables e below (T62.setTop (mkF m 184 #[iv p0, iv p1, iv p2, .val (.long w0_1), .second, .val (.long w0_2), .second, .val (.long w0_3), .second, .val (.long (f1 w0_2 w0_3)), .second, .val (.long (f2 w0_2 w0_3)), .second, .val (.long w0_4), .second, .val (.long w0_5), .second, .val (.long w0_6), .second, .val (.long w0_7), .second, rv b29, iv w0_8, .val (.long w0_9), .second, .val (.long w0_10), .second, .val (.long w0_11), .second] [(.long w0_11)])) _
          refine XS.lload X62.here hx rfl (hb hby at_184) rfl ?_
          show Steps p.tables e below (T62.setTop (mkF m 186 #[iv p0, iv p1, iv p2, .val (.long w0_1), .second, .val (.long w0_2), .second, .val (.long w0_3), .second, .val (.long (f1 w0_2 w0_3)), .second, .val (.long (f2 w0_2 w0_3)), .second, .val (.long w0_4), .second, .val (.long w0_5), .second, .val (.long w0_6), .second, .val (.long w0_7), .second, rv b29, iv w0_8, .val (.long w0_9), .second, .val (.long w0_10), .second, .val (.long w0_11), .second] [(.long w0_7), (.long w0_11)])) _
          refine Jvm.Stand.ldc2J X62 hx hown (mvT hZ (own_h hw 42 rfl)) rfl (hb hby at_186) ?_
          show Steps p.tables e below (T62.setTop (mkF m 189 #[iv p0, iv p1, iv p2, .val (.long w0_1), .second, .val (.long w0_2), .second, .val (.long w0_3), .second, .val (.long (f1 w0_2 w0_3)), .second, .val (.long (f2 w0_2 w0_3)), .second, .val (.long w0_4), .second, .val (.long w0_5), .second, .val (.long w0_6), .second, .val (.long w0_7), .second, rv b29, iv w0_8, .val (.long w0_9), .second, .val (.long w0_10), .second, .val (.long w0_11), .second] [(.long (4095:Int64)), (.long w0_7), (.long w0_11)])) _
          refine XS.lsub X62.here hx rfl (hb hby at_189) rfl ?_
          show Steps p.tables e below (T62.setTop (mkF m 190 #[iv p0, iv p1, iv p2, .val (.long w0_1), .second, .val (.long w0_2), .second, .val (.long w0_3), .second, .val (.long (f1 w0_2 w0_3)), .second, .val (.long (f2 w0_2 w0_3)), .second, .val (.long w0_4), .second, .val (.long w0_5), .second, .val (.long w0_6), .second, .val (.long w0_7), .second, rv b29, iv w0_8, .val (.long w0_9), .second, .val (.long w0_10), .second, .val (.long w0_11), .second] [(.long (w0_7 - (4095:Int64))), (.long w0_11)])) _
          refine XT.lcmp X62.here hx rfl (hb hby at_190) rfl ?_
          show Steps p.tables e below (T62.setTop (mkF m 191 #[iv p0, iv p1, iv p2, .val (.long w0_1), .second, .val (.long w0_2), .second, .val (.long w0_3), .second, .val (.long (f1 w0_2 w0_3)), .second, .val (.long (f2 w0_2 w0_3)), .second, .val (.long w0_4), .second, .val (.long w0_5), .second, .val (.long w0_6), .second, .val (.long w0_7), .second, rv b29, iv w0_8, .val (.long w0_9), .second, .val (.long w0_10), .second, .val (.long w0_11), .second] [(.int (XT.cmpL w0_11 (w0_7 - (4095:Int64))))])) _
          by_cases hm191_4 : w0_11 = (w0_7 - (4095:Int64))
          · refine XS.ifNo X62.here hx rfl (hb hby at_191) rfl (XT.ll_ne_f hm191_4) ?_
            show Steps p.tables e below (T62.setTop (mkF m 194 #[iv p0, iv p1, iv p2, .val (.long w0_1), .second, .val (.long w0_2), .second, .val (.long w0_3), .second, .val (.long (f1 w0_2 w0_3)), .second, .val (.long (f2 w0_2 w0_3)), .second, .val (.long w0_4), .second, .val (.long w0_5), .second, .val (.long w0_6), .second, .val (.long w0_7), .second, rv b29, iv w0_8, .val (.long w0_9), .second, .val (.long w0_10), .second, .val (.long w0_11), .second] [])) _
            refine XS.iconst X62.here hx rfl (hb hby at_194) ?_
            show Steps p.tables e below (T62.setTop (mkF m 195 #[iv p0, iv p1, iv p2, .val (.long w0_1), .second, .val (.long w0_2), .second, .val (.long w0_3), .second, .val (.long (f1 w0_2 w0_3)), .second, .val (.long (f2 w0_2 w0_3)), .second, .val (.long w0_4), .second, .val (.long w0_5), .second, .val (.long w0_6), .second, .val (.long w0_7), .second, rv b29, iv w0_8, .val (.long w0_9), .second, .val (.long w0_10), .second, .val (.long w0_11), .second] [(.int (1:Int32))])) _
            refine XS.goto X62.here hx rfl (pc0 := 195) (pc' := 199) rfl (hb hby at_195) (by decide) (by decide) ?_
            rw [hw0_12.trans ((((if_pos hm163_1).trans (if_pos hm171_2)).trans (if_pos hm179_3)).trans (if_pos hm191_4))] at k
            exact k
          · refine XS.ifYes X62.here hx rfl (pc0 := 191) (pc' := 198) rfl (hb hby at_191) rfl (XT.ll_ne_t hm191_4) (by decide) (by decide) ?_
            show Steps p.tables e below (T62.setTop (mkF m 198 #[iv p0, iv p1, iv p2, .val (.long w0_1), .second, .val (.long w0_2), .second, .val (.long w0_3), .second, .val (.long (f1 w0_2 w0_3)), .second, .val (.long (f2 w0_2 w0_3)), .second, .val (.long w0_4), .second, .val (.long w0_5), .second, .val (.long w0_6), .second, .val (.long w0_7), .second, rv b29, iv w0_8, .val (.long w0_9), .second, .val (.long w0_10), .second, .val (.long w0_11), .second] [])) _
            refine XS.iconst X62.here hx rfl (hb hby at_198) ?_
            rw [hw0_12.trans ((((if_pos hm163_1).trans (if_pos hm171_2)).trans (if_pos hm179_3)).trans (if_neg hm191_4))] at k
            exact k
        · refine XS.ifYes X62.here hx rfl (pc0 := 179) (pc' := 198) rfl (hb hby at_179) rfl (XT.ll_ne_t hm179_3) (by decide) (by decide) ?_
          show Steps p.tables e below (T62.setTop (mkF m 198 #[iv p0, iv p1, iv p2, .val (.long w0_1), .second, .val (.long w0_2), .second, .val (.long w0_3), .second, .val (.long (f1 w0_2 w0_3)), .second, .val (.long (f2 w0_2 w0_3)), .second, .val (.long w0_4), .second, .val (.long w0_5), .second, .val (.long w0_6), .second, .val (.long w0_7), .second, rv b29, iv w0_8, .val (.long w0_9), .second, .val (.long w0_10), .second, .val (.long w0_11), .second] [])) _
          refine XS.iconst X62.here hx rfl (hb hby at_198) ?_
          rw [hw0_12.trans (((if_pos hm163_1).trans (if_pos hm171_2)).trans (if_neg hm179_3))] at k
          exact k
      · refine XS.ifYes X62.here hx rfl (pc0 := 171) (pc' := 198) rfl (hb hby at_171) rfl (XT.ll_ne_t hm171_2) (by decide) (by decide) ?_
        show Steps p.tables e below (T62.setTop (mkF m 198 #[iv p0, iv p1, iv p2, .val (.long w0_1), .second, .val (.long w0_2), .second, .val (.long w0_3), .second, .val (.long (f1 w0_2 w0_3)), .second, .val (.long (f2 w0_2 w0_3)), .second, .val (.long w0_4), .second, .val (.long w0_5), .second, .val (.long w0_6), .second, .val (.long w0_7), .second, rv b29, iv w0_8, .val (.long w0_9), .second, .val (.long w0_10), .second, .val (.long w0_11), .second] [])) _
        refine XS.iconst X62.here hx rfl (hb hby at_198) ?_
        rw [hw0_12.trans ((if_pos hm163_1).trans (if_neg hm171_2))] at k
        exact k
    · refine XS.icmpYes X62.here hx rfl (pc0 := 163) (pc' := 198) rfl (hb hby at_163) rfl (XT.ii_ne_t hm163_1) (by decide) (by decide) ?_
      show Steps p.tables e below (T62.setTop (mkF m 198 #[iv p0, iv p1, iv p2, .val (.long w0_1), .second, .val (.long w0_2), .second, .val (.long w0_3), .second, .val (.long (f1 w0_2 w0_3)), .second, .val (.long (f2 w0_2 w0_3)), .second, .val (.long w0_4), .second, .val (.long w0_5), .second, .val (.long w0_6), .second, .val (.long w0_7), .second, rv b29, iv w0_8, .val (.long w0_9), .second, .val (.long w0_10), .second, .val (.long w0_11), .second] [])) _
      refine XS.iconst X62.here hx rfl (hb hby at_198) ?_
      rw [hw0_12.trans (if_neg hm163_1)] at k
      exact k
  have hv64 : (w0_12 &&& 1) = f0 p0 p1 p2 := by subst hw0_1 hw0_2 hw0_3 hw0_4 hw0_5 hw0_6 hw0_7 hw0_8 hw0_9 hw0_10 hw0_11 hw0_12; rfl
  exact own_end X62 (BodyLoose.notSynchronized Bd) (fun h => by rw [Bd.returns] at h; cases h) (v := some (.int (w0_12 &&& 1))) (fun fs hr => retN X62 hx (t := .boolean) Bd.returns (by simp) (hb hby at_199) hr) (by show Q0 Z p0 p1 p2 h0 n0 _ T62.heap _; rw [eh62]; exact ⟨(congrArg (fun z => some (Value.int z)) hv64), N62⟩) (by decide) (by decide)
theorem own_mm (a b : Int64) : (f1 a b = a ∧ f2 a b = b ∧ a.toInt ≤ b.toInt) ∨ (f1 a b = b ∧ f2 a b = a ∧ b.toInt ≤ a.toInt) := by
  simp only [f1, f2]
  by_cases h : b < a
  · right
    have h' := h
    rw [Int64.lt_iff_toInt_lt] at h'
    have n : ¬ (a < b) := by rw [Int64.lt_iff_toInt_lt]; omega
    rw [if_pos h, if_neg n]; exact ⟨rfl, rfl, by omega⟩
  · left
    have h' := h
    rw [Int64.lt_iff_toInt_lt] at h'
    by_cases h2 : a < b
    · rw [if_neg h, if_pos h2]; exact ⟨rfl, rfl, by omega⟩
    · have h2' := h2
      rw [Int64.lt_iff_toInt_lt] at h2'
      have : a = b := by rw [← Int64.toInt_inj]; omega
      subst this
      rw [if_neg h]; exact ⟨rfl, rfl, by omega⟩
theorem own_core (t l h : Int64) (t0 : 0 ≤ t.toInt) (t1 : t.toInt < 256) (l0 : 0 ≤ l.toInt) (lh : l.toInt ≤ h.toInt) (h1 : h.toInt < 16777216) :
    ((((t * (16777216:Int64)) + h).toUInt64 >>> ((24:Int32) &&& 0x3f).toInt64.toUInt64).toInt64.toInt32) = t.toInt32 ∧
    ((((((t * (16777216:Int64)) + l) - (1:Int64)) + (1:Int64)) <<< ((8:Int32) &&& 0x3f).toInt64) &&& (4294967295:Int64)) = l * 256 ∧
    (((((t * (16777216:Int64)) + h) <<< ((8:Int32) &&& 0x3f).toInt64) &&& (4294967295:Int64)) ||| (255:Int64)) = h * 256 + 255 := by
  have e16 : (16777216:Int64).toInt = 16777216 := by decide
  have e256 : (256:Int64).toInt = 256 := by decide
  have e255 : (255:Int64).toInt = 255 := by decide
  have m1 : (t * (16777216:Int64)).toInt = t.toInt * 16777216 := by rw [Jvm.Kit.i64_mul (by rw [e16]; omega) (by rw [e16]; omega), e16]
  have s1 : (t * (16777216:Int64) + h).toInt = t.toInt * 16777216 + h.toInt := by rw [Jvm.Kit.i64_add (by rw [m1]; omega) (by rw [m1]; omega), m1]
  have s2 : (t * (16777216:Int64) + l).toInt = t.toInt * 16777216 + l.toInt := by rw [Jvm.Kit.i64_add (by rw [m1]; omega) (by rw [m1]; omega), m1]
  have mh : (h * 256).toInt = h.toInt * 256 := by rw [Jvm.Kit.i64_mul (by rw [e256]; omega) (by rw [e256]; omega), e256]
  have ml : (l * 256).toInt = l.toInt * 256 := by rw [Jvm.Kit.i64_mul (by rw [e256]; omega) (by rw [e256]; omega), e256]
  refine ⟨?_, ?_, ?_⟩
  · have e2 : ((((t * (16777216:Int64)) + h).toUInt64 >>> ((24:Int32) &&& 0x3f).toInt64.toUInt64).toInt64).toInt = (t.toInt * 16777216 + h.toInt) / 2 ^ 24 := by
      rw [Jvm.Kit.i64_lushr (by rw [Jvm.Kit.i64_nonneg, s1]; omega) (k := 24) (by decide) (by decide), s1]
    rw [← Int32.toInt_inj, Jvm.Kit.i32_of_i64 (by rw [e2]; omega) (by rw [e2]; omega), e2, Jvm.Kit.i32_of_i64 (by omega) (by omega)]
    omega
  · have c : (((t * (16777216:Int64)) + l) - (1:Int64)) + (1:Int64) = t * (16777216:Int64) + l := Int64.sub_add_cancel _ _
    rw [c, ← Int64.toInt_inj, Jvm.Kit.i64_mask _ _ (k := 32) (by decide) (by decide), Jvm.Kit.i64_shl _ _ (k := 8) (by decide) (by rw [s2]; omega) (by rw [s2]; omega), s2, ml]
    omega
  · have a1 : ((((t * (16777216:Int64)) + h) <<< ((8:Int32) &&& 0x3f).toInt64) &&& (4294967295:Int64)).toInt = h.toInt * 256 := by
      rw [Jvm.Kit.i64_mask _ _ (k := 32) (by decide) (by decide), Jvm.Kit.i64_shl _ _ (k := 8) (by decide) (by rw [s1]; omega) (by rw [s1]; omega), s1]
      omega
    have eq : ((((t * (16777216:Int64)) + h) <<< ((8:Int32) &&& 0x3f).toInt64) &&& (4294967295:Int64)) = h * 256 := by rw [← Int64.toInt_inj, a1, mh]
    rw [eq]
    have hn : (h * 256).toInt = ((h * 256).toBitVec.toNat : Int) := by
      have h' : (h * 256).toInt = (h * 256).toBitVec.toInt := rfl
      have := BitVec.toInt_eq_toNat_cond (h * 256).toBitVec
      have h2 := (h * 256).toBitVec.isLt
      split at this <;> omega
    have hnn : (h * 256).toBitVec.toNat = 2 ^ 8 * h.toInt.toNat := by omega
    rw [← Int64.toBitVec_inj]
    apply BitVec.eq_of_toNat_eq
    rw [Int64.toBitVec_or, BitVec.toNat_or, Int64.toBitVec_add, BitVec.toNat_add, hnn]
    have : (255:Int64).toBitVec.toNat = 255 := by decide
    rw [this, ← Nat.two_pow_add_eq_or_of_lt (by decide)]
    omega
theorem own_plain (p0 p1 p2 : Int32) : f0 p0 p1 p2 = 1 := by
  simp only [f0]
  have et : ((p0 &&& (255:Int32)).toInt64).toInt = p0.toInt % 256 := by rw [Int32.toInt_toInt64]; exact Jvm.Kit.i32_mask p0 _ (k := 8) (by decide) (by decide)
  have ex : ((p1 &&& (16777215:Int32)).toInt64).toInt = p1.toInt % 16777216 := by rw [Int32.toInt_toInt64]; exact Jvm.Kit.i32_mask p1 _ (k := 24) (by decide) (by decide)
  have ey : ((p2 &&& (16777215:Int32)).toInt64).toInt = p2.toInt % 16777216 := by rw [Int32.toInt_toInt64]; exact Jvm.Kit.i32_mask p2 _ (k := 24) (by decide) (by decide)
  generalize (p0 &&& (255:Int32)).toInt64 = t at *
  generalize (p1 &&& (16777215:Int32)).toInt64 = x at *
  generalize (p2 &&& (16777215:Int32)).toInt64 = y at *
  obtain ⟨l, h, e1, e2, hl, hlh, hh⟩ : ∃ l h : Int64, f1 x y = l ∧ f2 x y = h ∧ 0 ≤ l.toInt ∧ l.toInt ≤ h.toInt ∧ h.toInt < 16777216 := by
    rcases own_mm x y with ⟨a, b, c⟩ | ⟨a, b, c⟩
    · exact ⟨x, y, a, b, by omega, c, by omega⟩
    · exact ⟨y, x, a, b, by omega, c, by omega⟩
  rw [e1, e2]
  obtain ⟨c1, c2, c3⟩ := own_core t l h (by omega) (by omega) hl hlh hh
  rw [c1, c2, c3]
  have e256 : (256:Int64).toInt = 256 := by decide
  have e255 : (255:Int64).toInt = 255 := by decide
  have e4096 : (4096:Int64).toInt = 4096 := by decide
  have e4095 : (4095:Int64).toInt = 4095 := by decide
  have l1 : (1:Int64).toInt = 1 := by decide
  have mh : (h * 256).toInt = h.toInt * 256 := by rw [Jvm.Kit.i64_mul (by rw [e256]; omega) (by rw [e256]; omega), e256]
  have ah : (h * 256 + 255).toInt = h.toInt * 256 + 255 := by rw [Jvm.Kit.i64_add (by rw [mh, e255]; omega) (by rw [mh, e255]; omega), mh, e255]
  generalize h * 256 + 255 = H at *
  have k1 : H - 1 + 1 = H := Int64.sub_add_cancel _ _
  have i0 : (0:Int32).toInt64 = 0 := by decide
  have i1 : (1:Int32).toInt64 = 1 := by decide
  have g0 : ∀ a b : Int64, f7 0 a b = a := by
    intro a b; simp only [f7, i0]; rw [Int64.mul_zero, Int64.add_zero]
  have g1 : ∀ a b : Int64, 0 ≤ (b - a).toInt → (b - a).toInt < 4096 → f7 1 a b = a := by
    intro a b u v; simp only [f7, i1]
    have z : ((b - a).toUInt64 >>> ((12:Int32) &&& 0x3f).toInt64.toUInt64).toInt64 = 0 := by
      rw [← Int64.toInt_inj, Jvm.Kit.i64_lushr (by rw [Jvm.Kit.i64_nonneg]; exact u) (k := 12) (by decide) (by decide)]
      have : (0:Int64).toInt = 0 := by decide
      rw [this]; omega
    rw [z, Int64.zero_mul, Int64.add_zero]
  have d0 : (H - H).toInt = 0 := by rw [Int64.sub_self]; decide
  have s1 : (H - 4096).toInt = H.toInt - 4096 := by rw [Jvm.Kit.i64_sub (by rw [e4096]; omega) (by rw [e4096]; omega), e4096]
  have s2 : (H - 4096 + 1).toInt = H.toInt - 4095 := by rw [Jvm.Kit.i64_add (by rw [s1, l1]; omega) (by rw [s1, l1]; omega), s1, l1]; omega
  have s3 : (H - 4095).toInt = H.toInt - 4095 := by rw [Jvm.Kit.i64_sub (by rw [e4095]; omega) (by rw [e4095]; omega), e4095]
  have k2 : H - 4096 + 1 = H - 4095 := by rw [← Int64.toInt_inj, s2, s3]
  have d1 : (H - (H - 4095)).toInt = 4095 := by rw [Jvm.Kit.i64_sub (by rw [s3]; omega) (by rw [s3]; omega), s3]; omega
  rw [k1, k2, g0, g1 H H (by omega) (by omega), g1 (H - 4095) H (by omega) (by omega)]
  simp
set_option maxRecDepth 65536 in
set_option maxHeartbeats 40000000 in
theorem comes_1 {Post : Tables → Env → Array Value → State → Outcome → State → Prop} (hpost : ∀ tb e args s v u, (limb_1_1.after args s (.returned v) u = true ∧ limb_1_2.after args s (.returned v) u = true ∧ True) → FrameEnd s (.returned v) u (Jvm.fieldLocs frame_1_writes args s ++ Jvm.arrayLocs frame_1_arrays args s ++ Jvm.staticLocs frame_1_statics s) 16 128 → Post tb e args s (.returned v) u) :
    ArmFor flags0 classFile x code maxLocals ret World_1 tables_1 room_1 Calls_1 rest_1 Pre_1 Post := by
  intro l hfl _ _ p e ha hc hk s m args below hf hA hF happ hP
  obtain ⟨hcalls, hrest, hpre⟩ := hP
  obtain ⟨-, -, -, hnamed, -, -, -, hat⟩ := (Spec.applies_iff hf).mp happ
  obtain ⟨hg, hn⟩ := and_e (Cond.before_iff.mp (show (Jvm.Cond.and given_1 narrow_1).before args s = true from hpre))
  obtain ⟨g2, g3⟩ := and_e hg
  obtain ⟨g4, g5⟩ := and_e g3
  obtain ⟨g6, g7⟩ := and_e g5
  obtain ⟨w0, w1, w2, rfl⟩ : ∃ w0 w1 w2 : Value, args = #[w0, w1, w2] := by
    have hs : args.size = 3 := by simpa [Cond.value, given_1] using g2
    obtain ⟨L⟩ := args
    match L, hs with
    | [w0, w1, w2], _ => exact ⟨w0, w1, w2, rfl⟩
  have hw := fun d (hd : d ∈ tables_1) => atoms_spec (ws := Jvm.Cond.code x code maxLocals ret :: tables_1) hat d (List.mem_cons_of_mem _ hd)
  obtain ⟨i0, ei0⟩ := is_v g4
  obtain rfl : w0 = (.int i0) := Option.some.inj ei0
  obtain ⟨i1, ei1⟩ := is_v g6
  obtain rfl : w1 = (.int i1) := Option.some.inj ei1
  obtain ⟨i2, ei2⟩ := is_v g7
  obtain rfl : w2 = (.int i2) := Option.some.inj ei2
  obtain ⟨n, o, h1, h2, h3, _, L, rfl, ⟨hv, N⟩, hq⟩ := rm0 l s _ hw tables_1 i0 i1 i2 s.heap s.heap.size (Nat.le_refl _)  p e ha hc hk s m _ below hf ((Spec.applies_iff_loose hf).mp happ).1 ⟨rfl, State.Warmed39.refl s, rfl⟩ trivial
  rw [own_plain] at hv
  subst hv
  refine ⟨n, _, h1, h2, h3, hpost _ _ _ _ _ _ ⟨Cond.after_iff.mpr rfl, Cond.after_iff.mpr (eq_i res_at (Term.int_eval (1)) rfl), trivial⟩ ⟨hq.1, hq.2.1, (hq.2.2.sift fun y hy => Or.inr (N y hy)).mono (by decide) (by decide)⟩⟩
theorem main_1_1 : Claimed_1_1 := comes_1 fun _ _ _ _ _ _ h hF => ⟨h.1, hF⟩
theorem main_1_2 : Claimed_1_2 := comes_1 fun _ _ _ _ _ _ h hF => ⟨h.2.1, hF⟩
end Jvm.Pilot.@@N@@
namespace Jvm.Pilot.@@N@@
open Jvm Jvm.ClassFile Sem Op Lib Jvm.Free Jvm.Stand Jvm.Pilot.@@N@@.Jvm.D
/-! MADE BY PROGRAM (witnessworld.py) out of the Statement's table words and the real class files: 10 classes; the members and pool entries that the words name. The judged class is class 1, her method 1. -/
namespace start1
open Jvm.ClassFile
def u (s : String) : CpInfo := .utf8 (stringToUtf16 s)
/-- a pool by its gaps: so many unusable entries, then the entry; so many at the end -/
def gap : Nat → List CpInfo → List CpInfo
  | 0, r => r
  | n + 1, r => .unusable :: gap n r
def poolList (es : List (Nat × CpInfo)) (last : Nat) : List CpInfo := es.foldr (fun e r => gap e.1 (e.2 :: r)) (gap last [])
def pool (es : List (Nat × CpInfo)) (last : Nat) : Array CpInfo := ⟨poolList es last⟩
def fileOf (pool : Array CpInfo) (this : Nat) (attrs : Array Attribute := #[]) (ms : Array MethodInfo := #[]) (fl : Nat := 33) (sup : Nat := 0) (ifs : Array Nat := #[]) (fds : Array FieldInfo := #[]) : ClassFile where
  minorVersion := 0
  majorVersion := 65
  constantPool := pool
  accessFlags := fl
  thisClass := this
  superClass := sup
  interfaces := ifs
  fields := fds
  methods := ms
  attributes := attrs
def plain (name : String) (sup : Option ClassId) : Class where
  name := name
  kind := .ordinary
  loader := none
  accessFlags := 33
  super := sup
  interfaces := #[]
  cf := none
  fields := #[]
  methods := #[]
  instanceTypes := #[]
  staticTypes := #[]
  resolved := #[]
  callSites := []
  init := .initialized
  statics := none
  mirror := none

def pool0 : Array CpInfo := pool [(5, u "<init>"), (0, u "()V"), (1, .class_ 10), (1, u "java/lang/Object")] 113

def k0c0 : Code := { maxStack := 0, maxLocals := 1, code := object_method_1_code, exceptionTable := #[], attributes := #[] }
def k0m0 : Method := { name := "<init>", desc := "()V", sig := { parameters := [], returnType := none }, accessFlags := 1, code := some k0c0 }
/-- java/lang/Object -/
def k0 : Class := { plain "java/lang/Object" none with
  accessFlags := 33
  interfaces := #[]
  cf := some (fileOf pool0 8 #[] #[{ accessFlags := 1, nameIndex := 5, descriptorIndex := 6, attributes := #[] }] 33 0 #[] #[])
  fields := #[]
  methods := #[k0m0]
  instanceTypes := #[]
  staticTypes := #[]
  resolved := Array.replicate 124 none
  statics := none }

def pool1 : Array CpInfo := pool [(2, .class_ 4), (0, .nameAndType 5 6), (0, u "java/lang/Object"), (0, u "<init>"), (0, u "()V"), (0, .integer 16777215), (0, .methodref 9 10), (0, .class_ 11), (0, .nameAndType 12 13), (0, u "java/lang/Math"), (0, u "min"), (0, u "(JJ)J"), (0, .methodref 9 15), (0, .nameAndType 16 13), (0, u "max"), (0, .long 16777216), (1, .long 256), (1, .long 255), (1, .class_ 24), (0, u "com/example/rowfold/rowfold/codec/CodeRange"), (0, .methodref 23 3), (0, .methodref 23 27), (0, .nameAndType 28 29), (0, u "narrow"), (0, u "(IJ)V"), (0, .methodref 23 31), (0, .nameAndType 32 33), (0, u "shift"), (0, u "()I"), (0, .methodref 23 35), (0, .nameAndType 36 37), (0, u "middle"), (0, u "(I)J"), (0, .long 4096), (1, .long 4095), (1, .class_ 43), (0, u "com/example/rowfold/rowfold/codec/CodeRangeShiftPinLaw"), (2, u "law"), (0, u "(III)Z")] 3

def k1m0 : Method := { name := "<init>", desc := "()V", sig := { parameters := [], returnType := none }, accessFlags := 1, code := none }
def k1c1 : Code := { maxStack := 6, maxLocals := 29, code := code, exceptionTable := #[], attributes := #[] }
def k1m1 : Method := { name := "law", desc := "(III)Z", sig := { parameters := [.int, .int, .int], returnType := some .boolean }, accessFlags := 9, code := some k1c1 }
/-- com/example/rowfold/rowfold/codec/CodeRangeShiftPinLaw -/
def k1 : Class := { plain "com/example/rowfold/rowfold/codec/CodeRangeShiftPinLaw" (some 0) with
  accessFlags := 49
  interfaces := #[]
  cf := some (fileOf pool1 42 #[] #[{ accessFlags := 1, nameIndex := 5, descriptorIndex := 6, attributes := #[] }, { accessFlags := 9, nameIndex := 46, descriptorIndex := 47, attributes := #[] }] 49 2 #[] #[])
  fields := #[]
  methods := #[k1m0, k1m1]
  instanceTypes := #[]
  staticTypes := #[]
  resolved := Array.replicate 51 none
  statics := none }

def pool2 : Array CpInfo := pool [(1, .class_ 2), (0, u "java/lang/Math"), (1, .class_ 6), (1, u "java/lang/Object"), (0, u "<init>"), (0, u "()V"), (89, .class_ 100), (1, u "java/lang/Math$RandomNumberGeneratorHolder"), (20, u "(JJ)J"), (50, u "negativeZeroFloatBits"), (0, u "J"), (2, u "negativeZeroDoubleBits"), (21, u "max"), (2, u "min"), (43, u "$assertionsDisabled"), (0, u "Z"), (91, u "twoToTheDoubleScaleDown"), (0, u "D"), (4, u "twoToTheDoubleScaleUp"), (9, u "E"), (3, u "PI"), (2, u "TAU"), (2, u "DEGREES_TO_RADIANS"), (0, u "RADIANS_TO_DEGREES")] 94

def k2m0 : Method := { name := "<init>", desc := "()V", sig := { parameters := [], returnType := none }, accessFlags := 2, code := none }
def k2c1 : Code := { maxStack := 4, maxLocals := 4, code := jdk_29_method_66_code, exceptionTable := #[], attributes := #[] }
def k2m1 : Method := { name := "max", desc := "(JJ)J", sig := { parameters := [.long, .long], returnType := some .long }, accessFlags := 9, code := some k2c1 }
def k2c2 : Code := { maxStack := 4, maxLocals := 4, code := jdk_29_method_70_code, exceptionTable := #[], attributes := #[] }
def k2m2 : Method := { name := "min", desc := "(JJ)J", sig := { parameters := [.long, .long], returnType := some .long }, accessFlags := 9, code := some k2c2 }
/-- java/lang/Math -/
def k2 : Class := { plain "java/lang/Math" (some 0) with
  accessFlags := 49
  interfaces := #[]
  cf := some (fileOf pool2 1 #[.nestMembers #[98]] #[{ accessFlags := 2, nameIndex := 7, descriptorIndex := 8, attributes := #[] }, { accessFlags := 9, nameIndex := 198, descriptorIndex := 121, attributes := #[] }, { accessFlags := 9, nameIndex := 201, descriptorIndex := 121, attributes := #[] }] 49 4 #[] #[{ accessFlags := 25, nameIndex := 354, descriptorIndex := 339, attributes := #[] }, { accessFlags := 25, nameIndex := 358, descriptorIndex := 339, attributes := #[] }, { accessFlags := 25, nameIndex := 361, descriptorIndex := 339, attributes := #[] }, { accessFlags := 26, nameIndex := 364, descriptorIndex := 339, attributes := #[] }, { accessFlags := 26, nameIndex := 365, descriptorIndex := 339, attributes := #[] }, { accessFlags := 26, nameIndex := 172, descriptorIndex := 173, attributes := #[] }, { accessFlags := 26, nameIndex := 176, descriptorIndex := 173, attributes := #[] }, { accessFlags := 8, nameIndex := 344, descriptorIndex := 339, attributes := #[] }, { accessFlags := 8, nameIndex := 338, descriptorIndex := 339, attributes := #[] }, { accessFlags := 4120, nameIndex := 245, descriptorIndex := 246, attributes := #[] }])
  fields := #[{ name := "E", type := .double, accessFlags := 25, slot := 0, constantValue := 0 }, { name := "PI", type := .double, accessFlags := 25, slot := 1, constantValue := 0 }, { name := "TAU", type := .double, accessFlags := 25, slot := 2, constantValue := 0 }, { name := "DEGREES_TO_RADIANS", type := .double, accessFlags := 26, slot := 3, constantValue := 0 }, { name := "RADIANS_TO_DEGREES", type := .double, accessFlags := 26, slot := 4, constantValue := 0 }, { name := "negativeZeroFloatBits", type := .long, accessFlags := 26, slot := 5, constantValue := 0 }, { name := "negativeZeroDoubleBits", type := .long, accessFlags := 26, slot := 6, constantValue := 0 }, { name := "twoToTheDoubleScaleUp", type := .double, accessFlags := 8, slot := 7, constantValue := 0 }, { name := "twoToTheDoubleScaleDown", type := .double, accessFlags := 8, slot := 8, constantValue := 0 }, { name := "$assertionsDisabled", type := .boolean, accessFlags := 4120, slot := 9, constantValue := 0 }]
  methods := #[k2m0, k2m1, k2m2]
  instanceTypes := #[]
  staticTypes := #[.double, .double, .double, .double, .double, .long, .long, .double, .double, .boolean]
  resolved := Array.replicate 460 none
  statics := none }

def pool3 : Array CpInfo := pool [(1, .methodref 2 3), (0, .class_ 4), (0, .nameAndType 5 6), (0, u "java/lang/Object"), (0, u "<init>"), (0, u "()V"), (0, .class_ 8), (0, u "com/example/rowfold/rowfold/codec/CodeRange"), (0, .long 4294967295), (1, .fieldref 7 12), (0, .nameAndType 13 14), (0, u "high"), (0, u "J"), (0, .fieldref 7 16), (0, .nameAndType 17 14), (0, u "low"), (4, .long 255), (1, u "TOP_BYTE"), (1, u "WORD"), (2, u "middle"), (0, u "(I)J"), (0, u "narrow"), (0, u "(IJ)V"), (3, u "shift"), (0, u "()I")] 3

def k3c0 : Code := { maxStack := 3, maxLocals := 1, code := prog_5_method_1_code, exceptionTable := #[], attributes := #[] }
def k3m0 : Method := { name := "<init>", desc := "()V", sig := { parameters := [], returnType := none }, accessFlags := 0, code := some k3c0 }
def k3c1 : Code := { maxStack := 6, maxLocals := 2, code := prog_5_method_2_code, exceptionTable := #[], attributes := #[] }
def k3m1 : Method := { name := "middle", desc := "(I)J", sig := { parameters := [.int], returnType := some .long }, accessFlags := 0, code := some k3c1 }
def k3c2 : Code := { maxStack := 5, maxLocals := 4, code := prog_5_method_3_code, exceptionTable := #[], attributes := #[] }
def k3m2 : Method := { name := "narrow", desc := "(IJ)V", sig := { parameters := [.int, .long], returnType := none }, accessFlags := 0, code := some k3c2 }
def k3c3 : Code := { maxStack := 5, maxLocals := 2, code := prog_5_method_5_code, exceptionTable := #[], attributes := #[] }
def k3m3 : Method := { name := "shift", desc := "()I", sig := { parameters := [], returnType := some .int }, accessFlags := 0, code := some k3c3 }
/-- com/example/rowfold/rowfold/codec/CodeRange -/
def k3 : Class := { plain "com/example/rowfold/rowfold/codec/CodeRange" (some 0) with
  accessFlags := 48
  interfaces := #[]
  cf := some (fileOf pool3 7 #[] #[{ accessFlags := 0, nameIndex := 5, descriptorIndex := 6, attributes := #[] }, { accessFlags := 0, nameIndex := 29, descriptorIndex := 30, attributes := #[] }, { accessFlags := 0, nameIndex := 31, descriptorIndex := 32, attributes := #[] }, { accessFlags := 0, nameIndex := 36, descriptorIndex := 37, attributes := #[] }] 48 2 #[] #[{ accessFlags := 26, nameIndex := 24, descriptorIndex := 14, attributes := #[] }, { accessFlags := 26, nameIndex := 26, descriptorIndex := 14, attributes := #[] }, { accessFlags := 2, nameIndex := 17, descriptorIndex := 14, attributes := #[] }, { accessFlags := 2, nameIndex := 13, descriptorIndex := 14, attributes := #[] }])
  fields := #[{ name := "TOP_BYTE", type := .long, accessFlags := 26, slot := 0, constantValue := 0 }, { name := "WORD", type := .long, accessFlags := 26, slot := 1, constantValue := 0 }, { name := "low", type := .long, accessFlags := 2, slot := 0, constantValue := 0 }, { name := "high", type := .long, accessFlags := 2, slot := 1, constantValue := 0 }]
  methods := #[k3m0, k3m1, k3m2, k3m3]
  instanceTypes := #[.long, .long]
  staticTypes := #[.long, .long]
  resolved := Array.replicate 41 none
  statics := none }

def pool4 : Array CpInfo := pool [(1, u "java/lang/Cloneable"), (0, .class_ 1), (0, u "java/lang/Object"), (0, .class_ 3)] 3

/-- java/lang/Cloneable -/
def k4 : Class := { plain "java/lang/Cloneable" (some 0) with
  accessFlags := 1537
  interfaces := #[]
  cf := some (fileOf pool4 2 #[] #[] 1537 4 #[] #[])
  fields := #[]
  methods := #[]
  instanceTypes := #[]
  staticTypes := #[]
  resolved := Array.replicate 8 none
  statics := none }

def pool5 : Array CpInfo := pool [(1, u "java/io/Serializable"), (0, .class_ 1), (0, u "java/lang/Object"), (0, .class_ 3)] 3

/-- java/io/Serializable -/
def k5 : Class := { plain "java/io/Serializable" (some 0) with
  accessFlags := 1537
  interfaces := #[]
  cf := some (fileOf pool5 2 #[] #[] 1537 4 #[] #[])
  fields := #[]
  methods := #[]
  instanceTypes := #[]
  staticTypes := #[]
  resolved := Array.replicate 8 none
  statics := none }

/-- the primitive byte -/
def k6 : Class := { plain "byte" none with kind := .primitive 'B', accessFlags := 0x411 }
/-- [B -/
def k7 : Class := { plain "[B" (some 0) with kind := .array 6 .byte, interfaces := #[4, 5], accessFlags := 1041 }

/-- the primitive int -/
def k8 : Class := { plain "int" none with kind := .primitive 'I', accessFlags := 0x411 }
/-- [I -/
def k9 : Class := { plain "[I" (some 0) with kind := .array 8 .int, interfaces := #[4, 5], accessFlags := 1041 }

def heap : Heap := #[]
def classes : Array Class := #[k0, k1, k2, k3, k4, k5, k6, k7, k8, k9]
def interned : List (Array UInt16 × Addr) := []
def slotsUsed : Nat := 0
def theMethod : MethodId := ⟨1, 1⟩
def args0 : Array Value := #[.int 5, .int 5, .int 5]
def aboutOver (below : List Frame) : State where
  vm := { classes := classes, interned := interned.toArray }
  heap := heap
  slotsUsed := slotsUsed
  threads := #[{ frames := .invoking theMethod args0 :: below }]
def below0 : List Frame := [.native { method := ⟨0, 0⟩, args := #[] }]
def about1 : State := aboutOver below0
def p0 : Program := .bare "" "" ""
def e0 : Env := launch0.env 0 0 0
theorem w_frames : about1.frames = Frame.invoking theMethod args0 :: below0 := rfl
set_option maxRecDepth 65536 in
theorem w_args : argsFit about1.vm theMethod args0 = true := by decide +kernel
set_option maxRecDepth 65536 in
theorem w_heap : heapFits about1 = true := by decide +kernel
set_option maxRecDepth 65536 in
theorem w_runnable : about1.curStatus? = some .runnable := by decide +kernel
set_option maxRecDepth 65536 in
theorem w_alone : about1.alone = true := by decide +kernel
set_option maxRecDepth 65536 in
theorem w_named : about1.methodNamed? x = some theMethod := by decide +kernel
set_option maxRecDepth 65536 in
theorem w_hears : about1.hears theMethod below0 = true := by decide +kernel
set_option maxRecDepth 65536 in
theorem w_ripe : about1.ripe theMethod args0 below0 = true := by decide +kernel
theorem w_running : about1.status = .running := rfl
set_option maxRecDepth 65536 in
theorem w_room : about1.hasRoom e0.platform room_1 = true :=
  launch0.hasRoom_least _ room_1 (by decide +kernel) (by decide +kernel) (by decide +kernel) (by decide +kernel) (by decide +kernel) (by decide +kernel)
theorem allAtoms_all (ts : List Jvm.Cond) (a : Array Jvm.Value) (st : Jvm.State) : (allAtoms ts).before a st = ts.all (fun c => c.before a st) := by
  induction ts with
  | nil => rfl
  | cons c t ih =>
    show (Jvm.Cond.and c (allAtoms t)).before a st = _
    rw [Jvm.Cond.before_and, ih, List.all_cons]
def words1 : List Jvm.Cond := Jvm.Cond.code x code maxLocals ret :: tables_1
/-- a 'code' word, met by the world's own term for the bytes: nothing is compared byte by byte -/
theorem code_word {y : MethodName} {bytes : ByteArray} {mx : Nat} {rt : Option FieldType} {a : Array Value} {s : State} {m : MethodId} {meth : Method} {c : Code} (h1 : s.methodNamed? y = some m) (h2 : s.vm.method? m = some meth) (h3 : meth.code = some c) (h4 : c.code = bytes)
    (h5 : (c.maxLocals == mx && c.exceptionTable.isEmpty && decide (c.maxStack ≤ mostOperands) && decide (meth.sig.returnType = rt) && !meth.locks && decide (parseMethodDescriptor y.desc = some meth.sig)) = true) : (Jvm.Cond.code y bytes mx rt).before a s = true := by
  simp only [Bool.and_eq_true, beq_iff_eq, Bool.not_eq_true', decide_eq_true_eq] at h5
  obtain ⟨⟨⟨⟨⟨g1, g2⟩, g3⟩, g4⟩, g5⟩, g6⟩ := h5
  simp [Cond.before, Cond.holds, Cond.value, h1, h2, h3, h4, g1, g2, g3, g4, g5, g6]
def isCode : Jvm.Cond → Bool
  | .code _ _ _ _ => true
  | _ => false
theorem all_split {L : List Jvm.Cond} {P : Jvm.Cond → Bool} (h1 : L.all (fun c => isCode c || P c) = true) (h2 : ∀ c ∈ L.filter isCode, P c = true) : L.all P = true := by
  refine List.all_eq_true.mpr fun c hc => ?_
  have h := List.all_eq_true.mp h1 c hc
  rcases Bool.eq_false_or_eq_true (isCode c) with hi | hi
  · exact h2 c (List.mem_filter.mpr ⟨hc, hi⟩)
  · simpa [hi] using h
set_option maxRecDepth 65536 in
theorem w_c0 : (Jvm.Cond.code x code maxLocals ret).before args0 about1 = true := code_word (m := ⟨1, 1⟩) (meth := k1m1) (c := k1c1) (by decide +kernel) rfl rfl rfl (by decide +kernel)
set_option maxRecDepth 65536 in
theorem w_c1 : (Jvm.Cond.code ({ cls := "java/lang/Math", name := "min", desc := "(JJ)J" } : Jvm.MethodName) jdk_29_method_70_code (4 : Nat) (Option.some Jvm.ClassFile.FieldType.long)).before args0 about1 = true := code_word (m := ⟨2, 2⟩) (meth := k2m2) (c := k2c2) (by decide +kernel) rfl rfl rfl (by decide +kernel)
set_option maxRecDepth 65536 in
theorem w_c2 : (Jvm.Cond.code ({ cls := "java/lang/Math", name := "max", desc := "(JJ)J" } : Jvm.MethodName) jdk_29_method_66_code (4 : Nat) (Option.some Jvm.ClassFile.FieldType.long)).before args0 about1 = true := code_word (m := ⟨2, 1⟩) (meth := k2m1) (c := k2c1) (by decide +kernel) rfl rfl rfl (by decide +kernel)
set_option maxRecDepth 65536 in
theorem w_c3 : (Jvm.Cond.code ({ cls := "com/example/rowfold/rowfold/codec/CodeRange", name := "<init>", desc := "()V" } : Jvm.MethodName) prog_5_method_1_code (1 : Nat) (Option.none : Option Jvm.ClassFile.FieldType)).before args0 about1 = true := code_word (m := ⟨3, 0⟩) (meth := k3m0) (c := k3c0) (by decide +kernel) rfl rfl rfl (by decide +kernel)
set_option maxRecDepth 65536 in
theorem w_c4 : (Jvm.Cond.code ({ cls := "java/lang/Object", name := "<init>", desc := "()V" } : Jvm.MethodName) object_method_1_code (1 : Nat) (Option.none : Option Jvm.ClassFile.FieldType)).before args0 about1 = true := code_word (m := ⟨0, 0⟩) (meth := k0m0) (c := k0c0) (by decide +kernel) rfl rfl rfl (by decide +kernel)
set_option maxRecDepth 65536 in
theorem w_c5 : (Jvm.Cond.code ({ cls := "com/example/rowfold/rowfold/codec/CodeRange", name := "narrow", desc := "(IJ)V" } : Jvm.MethodName) prog_5_method_3_code (4 : Nat) (Option.none : Option Jvm.ClassFile.FieldType)).before args0 about1 = true := code_word (m := ⟨3, 2⟩) (meth := k3m2) (c := k3c2) (by decide +kernel) rfl rfl rfl (by decide +kernel)
set_option maxRecDepth 65536 in
theorem w_c6 : (Jvm.Cond.code ({ cls := "com/example/rowfold/rowfold/codec/CodeRange", name := "shift", desc := "()I" } : Jvm.MethodName) prog_5_method_5_code (2 : Nat) (Option.some Jvm.ClassFile.FieldType.int)).before args0 about1 = true := code_word (m := ⟨3, 3⟩) (meth := k3m3) (c := k3c3) (by decide +kernel) rfl rfl rfl (by decide +kernel)
set_option maxRecDepth 65536 in
theorem w_c7 : (Jvm.Cond.code ({ cls := "com/example/rowfold/rowfold/codec/CodeRange", name := "middle", desc := "(I)J" } : Jvm.MethodName) prog_5_method_2_code (2 : Nat) (Option.some Jvm.ClassFile.FieldType.long)).before args0 about1 = true := code_word (m := ⟨3, 1⟩) (meth := k3m1) (c := k3c1) (by decide +kernel) rfl rfl rfl (by decide +kernel)
def codes1 : List Jvm.Cond := [Jvm.Cond.code x code maxLocals ret, Jvm.Cond.code ({ cls := "java/lang/Math", name := "min", desc := "(JJ)J" } : Jvm.MethodName) jdk_29_method_70_code (4 : Nat) (Option.some Jvm.ClassFile.FieldType.long), Jvm.Cond.code ({ cls := "java/lang/Math", name := "max", desc := "(JJ)J" } : Jvm.MethodName) jdk_29_method_66_code (4 : Nat) (Option.some Jvm.ClassFile.FieldType.long), Jvm.Cond.code ({ cls := "com/example/rowfold/rowfold/codec/CodeRange", name := "<init>", desc := "()V" } : Jvm.MethodName) prog_5_method_1_code (1 : Nat) (Option.none : Option Jvm.ClassFile.FieldType), Jvm.Cond.code ({ cls := "java/lang/Object", name := "<init>", desc := "()V" } : Jvm.MethodName) object_method_1_code (1 : Nat) (Option.none : Option Jvm.ClassFile.FieldType), Jvm.Cond.code ({ cls := "com/example/rowfold/rowfold/codec/CodeRange", name := "narrow", desc := "(IJ)V" } : Jvm.MethodName) prog_5_method_3_code (4 : Nat) (Option.none : Option Jvm.ClassFile.FieldType), Jvm.Cond.code ({ cls := "com/example/rowfold/rowfold/codec/CodeRange", name := "shift", desc := "()I" } : Jvm.MethodName) prog_5_method_5_code (2 : Nat) (Option.some Jvm.ClassFile.FieldType.int), Jvm.Cond.code ({ cls := "com/example/rowfold/rowfold/codec/CodeRange", name := "middle", desc := "(I)J" } : Jvm.MethodName) prog_5_method_2_code (2 : Nat) (Option.some Jvm.ClassFile.FieldType.long)]
set_option maxRecDepth 65536 in
theorem codes_eq : words1.filter isCode = codes1 := rfl
theorem w_codes : ∀ c ∈ words1.filter isCode, c.before args0 about1 = true := by
  rw [codes_eq]
  intro c hc
  simp only [codes1, List.mem_cons, List.not_mem_nil, or_false] at hc
  rcases hc with rfl | rfl | rfl | rfl | rfl | rfl | rfl | rfl
  · exact w_c0
  · exact w_c1
  · exact w_c2
  · exact w_c3
  · exact w_c4
  · exact w_c5
  · exact w_c6
  · exact w_c7
set_option maxRecDepth 65536 in
theorem w_t1 : (words1.take 24).all (fun c => isCode c || c.before args0 about1) = true := by decide +kernel
set_option maxRecDepth 65536 in
theorem w_t2 : (words1.drop 24).all (fun c => isCode c || c.before args0 about1) = true := by decide +kernel
theorem w_tables : (allAtoms (Jvm.Cond.code x code maxLocals ret :: tables_1)).before args0 about1 = true := by
  rw [allAtoms_all]
  show words1.all (fun c => c.before args0 about1) = true
  refine all_split ?_ w_codes
  rw [← List.take_append_drop 24 words1, List.all_append, w_t1, w_t2]
  rfl
set_option maxRecDepth 65536 in
theorem w_case : (Jvm.Cond.and given_1 narrow_1).before args0 about1 = true := by decide +kernel
theorem w_applies : (headSpec (Jvm.Cond.code x code maxLocals ret :: tables_1) room_1).applies x e0.platform about1 = true :=
  (Spec.applies_iff w_frames).mpr ⟨w_running, w_runnable, w_alone, w_named, w_hears, w_ripe, w_room, w_tables⟩
theorem atStart : AtStart classFile x code maxLocals ret World_1 tables_1 room_1 Calls_1 rest_1 Pre_1 launch0 p0 e0 about1 theMethod args0 below0 :=
  ⟨lists_1, trivial, launch0.admits_env _ _ _, launch0.least_env, fairChoices_fair.cas, fairChoices_fair.clock, w_frames, w_args, w_heap, w_applies, trivial, trivial, w_case⟩
end start1
theorem witness_1 : WitnessClaimed_1 := ⟨start1.p0, start1.e0, start1.about1, start1.theMethod, start1.args0, start1.below0, start1.atStart⟩
end Jvm.Pilot.@@N@@
