import JvmDerived
import JvmDerived.Pilot.@@N@@Statement
import JvmDerived.Pilot.@@N@@Code
set_option linter.unusedVariables false
set_option linter.unusedSimpArgs false
@@BLOCK:NumsL.lean.txt@@
namespace Jvm.Pilot.@@N@@
open Jvm Jvm.ClassFile Sem Op Lib Jvm.Free Jvm.Stand Jvm.LawKit Jvm.RoadKit Bundle Jvm.Pilot.@@N@@.Jvm.D
def own_Goes (p : Program) (e : Env) (below : List Frame) (s : State) (Q : Option Value → Heap → List Loc → Prop) (ce sl : Nat) (A : State) : Prop :=
  ∃ s₂ o, Steps p.tables e below A s₂ ∧ s₂.status = .running ∧ Ended s₂ below o ∧ ∃ v L, o = .returned v ∧ Q v s₂.heap L ∧ FrameEnd s o s₂ L ce sl
theorem own_pre {p : Program} {e : Env} {below : List Frame} {s : State} {Q : Option Value → Heap → List Loc → Prop} {ce sl : Nat} {A B : State} (h : ∀ t, Steps p.tables e below A t → Steps p.tables e below B t) (G : own_Goes p e below s Q ce sl A) : own_Goes p e below s Q ce sl B := by
  obtain ⟨s₂, o, h1, r⟩ := G
  exact ⟨s₂, o, h _ h1, r⟩
theorem own_end {p : Program} {l : Launch} {e : Env} {R : Room} {s : State} {m : MethodId} {args : Array Value} {below : List Frame} {meth : Method} {c : Code} {T : State} {locs : List Loc} {cells slots : Nat} (X : Stand p l e R s m args below meth c T locs cells slots)
    {v : Option Value} {Q : Option Value → Heap → List Loc → Prop} {ce sl : Nat} {A : State} (hlocks : meth.locks = false) (hv : meth.sig.returnType = none → v = none)
    (hstep : ∀ fs, (∀ (f : JFrame) (acts : List Action), f.method = m → f.locked = none → f.entered = [] → (doReturn e (T.setTop f) acts v).1 = T.setFrames fs) → Steps p.tables e below A (T.setFrames fs))
    (hQ : Q v T.heap locs) (hc : cells ≤ ce) (hs : slots ≤ sl) : own_Goes p e below s Q ce sl A := by
  obtain ⟨fs, hr, hrun, hended, hW, hsame⟩ := X.leave hv hlocks
  exact ⟨_, _, hstep fs hr, hrun, hended, _, _, rfl, hQ, ⟨_, rfl⟩, hW, hsame.mono hc hs⟩
theorem own_lrem_eq (x y : Int64) : x - (x / y) * y = x % y := Int64.toInt_inj.mp (by rw [Jvm.Kit.i64_rem, Int64.toInt_mod])
theorem own_lrem {tb : Tables} [Ours tb] {e : Env} {below : List Frame} {T target : State} {m : MethodId} {c : Code} {g : JFrame} (h : At T m c below) (hx : tb.exec = Jvm.exec) (hg : g.method = m) {x y : Int64} {rest : List Value} (hd : decode c.code g.pc = .ok (.lrem, 1)) (hs : g.stack = .long y :: .long x :: rest) (hy : y ≠ 0)
    (hr : Steps tb e below (T.setTop { g with pc := g.pc + 1, stack := .long (x % y) :: rest }) target) : Steps tb e below (T.setTop g) target :=
  XS.lrem h hx hg hd hs hy (by rw [own_lrem_eq]; exact hr)
theorem own_h {a0 : Array Value} {Z : State} {L : List Jvm.Cond} (hw : ∀ d ∈ L, d.before a0 Z = true) (i : Nat) {d : Jvm.Cond} (h : L[i]? = some d) : d.before a0 Z = true := hw _ (List.mem_of_getElem? h)
theorem d1_0 : decode jdk_29_method_65_code 0 = .ok (.iload_n 0, 1) := by decide +kernel
theorem d1_1 : decode jdk_29_method_65_code 1 = .ok (.iload_n 1, 1) := by decide +kernel
theorem d1_2 : decode jdk_29_method_65_code 2 = .ok (.if_icmp .lt 7, 3) := by decide +kernel
theorem d1_5 : decode jdk_29_method_65_code 5 = .ok (.iload_n 0, 1) := by decide +kernel
theorem d1_6 : decode jdk_29_method_65_code 6 = .ok (.goto 4, 3) := by decide +kernel
theorem d1_9 : decode jdk_29_method_65_code 9 = .ok (.iload_n 1, 1) := by decide +kernel
theorem d1_10 : decode jdk_29_method_65_code 10 = .ok (.ireturn, 1) := by decide +kernel
theorem ef1 (m : MethodId) (p0 : Int32) (p1 : Int32) : entryFrame m #[(.int p0), (.int p1)] 2 = mkF m 0 #[iv p0, iv p1] [] := by first | (simp [entryFrame, mkF, argsToLocals, Value.category]; done) | rfl
def f1 (p0 : Int32) (p1 : Int32) : Int32 := (let w1_1 : Int32 := (if p0 < p1 then p1 else p0); w1_1)
def Q1 (Z : State) (p0 : Int32) (p1 : Int32)  (h0 : Heap) (n0 : Nat) (v : Option Value) (h : Heap) (L : List Loc) : Prop := v = some (.int (f1 p0 p1)) ∧ Fr n0 L ∧ h = h0
set_option maxRecDepth 65536 in
set_option maxHeartbeats 40000000 in
theorem rm1 (l : Launch) (Z : State) (aZ : Array Value) (hw : ∀ d ∈ tables_1, d.before aZ Z = true) (ws : List Jvm.Cond) (p0 : Int32) (p1 : Int32)  (h0 : Heap) (n0 : Nat) (Z0 : n0 ≤ h0.size)  :
    MetFree l (⟨"java/lang/Math", "max", "(II)I"⟩ : MethodName) (head1 (Jvm.Cond.code (⟨"java/lang/Math", "max", "(II)I"⟩ : MethodName) jdk_29_method_65_code 2 (some .int) :: ws) ({ frames := 0, cells := 0, slots := 0, locals := 0 } : Room)) (fun a U => a = #[(.int p0), (.int p1)] ∧ Z.Warmed39 U.vm ∧ U.heap = h0) (fun _ _ _ _ _ => True) (fun _ U o U' => ∃ v L, o = .returned v ∧ Q1 Z p0 p1 h0 n0 v U'.heap L ∧ FrameEnd U o U' L ({ frames := 0, cells := 0, slots := 0, locals := 0 } : Room).cells ({ frames := 0, cells := 0, slots := 0, locals := 0 } : Room).slots) := by
  refine MetFree.of_bodySF (Jvm.Free.JP.mathPlain rfl (by decide +kernel)) hisR ?_
  intro p e s m args below meth c s₁ Bd hml0 hP hK
  obtain ⟨rfl, hZ, hh⟩ := hP
  have hx := Bd.exec
  have hby := Bd.bytes
  have hml : c.maxLocals = 2 := hml0
  have hown : s.vm.findClass "java/lang/Math" = some m.cls := findClass_of_methodNamed Bd.named
  have hnm := (name_of_methodNamed Bd.named Bd.method).1
  have X0 : Stand p l e ({ frames := 0, cells := 0, slots := 0, locals := 0 } : Room) s m #[(.int p0), (.int p1)] below meth c s₁ [] 0 0 := Stand.of_body Bd
  have e0 : s₁.heap = h0 := by rw [← hh, Bd.state]; rfl
  have N0 := Fr.nil n0
  show own_Goes p e below s (Q1 Z p0 p1 h0 n0) ({ frames := 0, cells := 0, slots := 0, locals := 0 } : Room).cells ({ frames := 0, cells := 0, slots := 0, locals := 0 } : Room).slots _
  refine own_pre (fun t k => castTop (ef1 m p0 p1) k) ?_
  refine own_pre (A := s₁.setTop (mkF m 2 #[iv p0, iv p1] [(.int p1), (.int p0)])) (fun t k => ?_) ?_
  · show Steps p.tables e below (s₁.setTop (mkF m 0 #[iv p0, iv p1] [])) _
    refine XS.iloadN X0.here hx rfl (hb hby d1_0) rfl ?_
    show Steps p.tables e below (s₁.setTop (mkF m 1 #[iv p0, iv p1] [(.int p0)])) _
    refine XS.iloadN X0.here hx rfl (hb hby d1_1) rfl ?_
    exact k
  obtain ⟨w1_1, hw1_1⟩ : ∃ z : Int32, z = (if p0 < p1 then p1 else p0) := ⟨_, rfl⟩
  refine own_pre (A := s₁.setTop (mkF m 10 #[iv p0, iv p1] [(.int w1_1)])) (fun t k => ?_) ?_
  · show Steps p.tables e below (s₁.setTop (mkF m 2 #[iv p0, iv p1] [(.int p1), (.int p0)])) _
    by_cases hm2_1 : p0 < p1
    · refine XS.icmpYes X0.here hx rfl (pc0 := 2) (pc' := 9) rfl (hb hby d1_2) rfl (XT.ii_lt_t hm2_1) (by decide) (by decide) ?_
      show Steps p.tables e below (s₁.setTop (mkF m 9 #[iv p0, iv p1] [])) _
      refine XS.iloadN X0.here hx rfl (hb hby d1_9) rfl ?_
      rw [hw1_1.trans (if_pos hm2_1)] at k
      exact k
    · refine XS.icmpNo X0.here hx rfl (hb hby d1_2) rfl (XT.ii_lt_f hm2_1) ?_
      show Steps p.tables e below (s₁.setTop (mkF m 5 #[iv p0, iv p1] [])) _
      refine XS.iloadN X0.here hx rfl (hb hby d1_5) rfl ?_
      show Steps p.tables e below (s₁.setTop (mkF m 6 #[iv p0, iv p1] [(.int p0)])) _
      refine XS.goto X0.here hx rfl (pc0 := 6) (pc' := 10) rfl (hb hby d1_6) (by decide) (by decide) ?_
      rw [hw1_1.trans (if_neg hm2_1)] at k
      exact k
  have hv1 : w1_1 = f1 p0 p1 := by subst hw1_1; rfl
  exact own_end X0 (BodyLoose.notSynchronized Bd) (fun h => by rw [Bd.returns] at h; cases h) (v := some (.int w1_1)) (fun fs hr => retOut X0 hx Bd.returns rfl (by simp [Value.isRef, FieldType.isReference]) (hb hby d1_10) hr) (by show Q1 Z p0 p1 h0 n0 _ s₁.heap _; rw [e0]; exact ⟨(congrArg (fun z => some (Value.int z)) hv1), N0, rfl⟩) (by decide) (by decide)
theorem own_pn0 : plainName "com/example/lexrow/lexrow/model/GcRule$MaxVersions" = true := by first | (simp [plainName, overriddenIn]; done) | decide +kernel
theorem d2_0 : decode prog_15_method_1_code 0 = .ok (.aload_n 0, 1) := by decide +kernel
theorem d2_1 : decode prog_15_method_1_code 1 = .ok (.invokespecial 1, 3) := by decide +kernel
theorem d2_4 : decode prog_15_method_1_code 4 = .ok (.iload_n 1, 1) := by decide +kernel
theorem d2_5 : decode prog_15_method_1_code 5 = .ok (.iconst 1, 1) := by decide +kernel
theorem d2_6 : decode prog_15_method_1_code 6 = .ok (.if_icmp .ge 17, 3) := by decide +kernel
theorem d2_23 : decode prog_15_method_1_code 23 = .ok (.aload_n 0, 1) := by decide +kernel
theorem d2_24 : decode prog_15_method_1_code 24 = .ok (.iload_n 1, 1) := by decide +kernel
theorem d2_25 : decode prog_15_method_1_code 25 = .ok (.putfield 16, 3) := by decide +kernel
theorem d2_28 : decode prog_15_method_1_code 28 = .ok (.return_, 1) := by decide +kernel
theorem ef2 (m : MethodId) (a0 : Addr) (p1 : Int32) : entryFrame m #[(.ref a0), (.int p1)] 2 = mkF m 0 #[rv a0, iv p1] [] := by first | (simp [entryFrame, mkF, argsToLocals, Value.category]; done) | rfl
def Q2 (Z : State) (a0 : Addr) (p1 : Int32)  (h0 : Heap) (n0 : Nat) (v : Option Value) (h : Heap) (L : List Loc) : Prop := v = none ∧ Fr n0 L ∧ Keep h0 h [a0] ∧ Fld Z h a0 "com/example/lexrow/lexrow/model/GcRule$MaxVersions" "versions" "I" (.int p1)
set_option maxRecDepth 65536 in
set_option maxHeartbeats 40000000 in
theorem rm2 (l : Launch) (Z : State) (aZ : Array Value) (hw : ∀ d ∈ tables_1, d.before aZ Z = true) (ws : List Jvm.Cond) (a0 : Addr) (p1 : Int32)  (h0 : Heap) (n0 : Nat) (Z0 : n0 ≤ h0.size) (P0 : Exa Z h0 a0 "com/example/lexrow/lexrow/model/GcRule$MaxVersions") (P1 : Fld Z h0 a0 "com/example/lexrow/lexrow/model/GcRule$MaxVersions" "versions" "I" (.int (0:Int32))) (gq_a0 : n0 ≤ a0) (hge : ¬ (p1 < (1:Int32))) :
    MetFree l (⟨"com/example/lexrow/lexrow/model/GcRule$MaxVersions", "<init>", "(I)V"⟩ : MethodName) (head1 (Jvm.Cond.code (⟨"com/example/lexrow/lexrow/model/GcRule$MaxVersions", "<init>", "(I)V"⟩ : MethodName) prog_15_method_1_code 2 none :: ws) ({ frames := 1, cells := 0, slots := 0, locals := 12 } : Room)) (fun a U => a = #[(.ref a0), (.int p1)] ∧ Z.Warmed39 U.vm ∧ U.heap = h0) (fun _ _ _ _ _ => True) (fun _ U o U' => ∃ v L, o = .returned v ∧ Q2 Z a0 p1 h0 n0 v U'.heap L ∧ FrameEnd U o U' L ({ frames := 1, cells := 0, slots := 0, locals := 12 } : Room).cells ({ frames := 1, cells := 0, slots := 0, locals := 12 } : Room).slots) := by
  refine MetFree.of_bodySF (plainFor_of_name own_pn0) hisR ?_
  intro p e s m args below meth c s₁ Bd hml0 hP hK
  obtain ⟨rfl, hZ, hh⟩ := hP
  have hx := Bd.exec
  have hby := Bd.bytes
  have hml : c.maxLocals = 2 := hml0
  have hown : s.vm.findClass "com/example/lexrow/lexrow/model/GcRule$MaxVersions" = some m.cls := findClass_of_methodNamed Bd.named
  have hnm := (name_of_methodNamed Bd.named Bd.method).1
  have X0 : Stand p l e ({ frames := 1, cells := 0, slots := 0, locals := 12 } : Room) s m #[(.ref a0), (.int p1)] below meth c s₁ [] 0 0 := Stand.of_body Bd
  have e0 : s₁.heap = h0 := by rw [← hh, Bd.state]; rfl
  have N0 := Fr.nil n0
  have Kp0 : Keep h0 h0 [a0] := Keep.refl _ _
  show own_Goes p e below s (Q2 Z a0 p1 h0 n0) ({ frames := 1, cells := 0, slots := 0, locals := 12 } : Room).cells ({ frames := 1, cells := 0, slots := 0, locals := 12 } : Room).slots _
  refine own_pre (fun t k => castTop (ef2 m a0 p1) k) ?_
  refine own_pre (A := s₁.setTop (mkF m 1 #[rv a0, iv p1] [(.ref a0)])) (fun t k => ?_) ?_
  · show Steps p.tables e below (s₁.setTop (mkF m 0 #[rv a0, iv p1] [])) _
    refine XS.aloadN X0.here hx rfl (hb hby d2_0) rfl rfl ?_
    exact k
  obtain ⟨T2, X2, e2, st2⟩ := initO X0 hx hZ hown (own_h hw 11 rfl) (own_h hw 12 rfl) (own_h hw 13 rfl) e0 (g := (mkF m 1 #[rv a0, iv p1] [(.ref a0)])) rfl (by rw [hml]; rfl) rfl (hb hby d2_1) (by decide) (W := 0) (by show 2 * 0 + _ ≤ _; exact Nat.le_of_eq rfl) (by decide)
  refine own_pre st2 ?_
  have hd6_1 : ¬ (p1 < (1:Int32)) := hge
  refine own_pre (A := T2.setTop (mkF m 25 #[rv a0, iv p1] [(.int p1), (.ref a0)])) (fun t k => ?_) ?_
  · show Steps p.tables e below (T2.setTop (mkF m 4 #[rv a0, iv p1] [])) _
    refine XS.iloadN X2.here hx rfl (hb hby d2_4) rfl ?_
    show Steps p.tables e below (T2.setTop (mkF m 5 #[rv a0, iv p1] [(.int p1)])) _
    refine XS.iconst X2.here hx rfl (hb hby d2_5) ?_
    show Steps p.tables e below (T2.setTop (mkF m 6 #[rv a0, iv p1] [(.int (1:Int32)), (.int p1)])) _
    refine XS.icmpYes X2.here hx rfl (pc0 := 6) (pc' := 23) rfl (hb hby d2_6) rfl (XT.ii_ge_t hd6_1) (by decide) (by decide) ?_
    show Steps p.tables e below (T2.setTop (mkF m 23 #[rv a0, iv p1] [])) _
    refine XS.aloadN X2.here hx rfl (hb hby d2_23) rfl rfl ?_
    show Steps p.tables e below (T2.setTop (mkF m 24 #[rv a0, iv p1] [(.ref a0)])) _
    refine XS.iloadN X2.here hx rfl (hb hby d2_24) rfl ?_
    exact k
  obtain ⟨T3, h3, X3, e3, W3, st3⟩ := putF X2 hx hZ hown (host := "") (Or.inl (own_h hw 14 rfl)) Via.refl e2 P1 P0 (Or.inr ⟨(own_h hw 15 rfl), rfl, hnm⟩) (own_h hw 6 rfl) (ty := .int) (by decide) rfl rfl (g := (mkF m 25 #[rv a0, iv p1] [(.int p1), (.ref a0)])) rfl rfl (hb hby d2_25)
  have Kp3 : Keep h0 h3 [a0] := Kp0.wr W3 (Or.inl (List.mem_of_getElem? (i := 0) rfl))
  have Z4 : n0 ≤ h3.size := Nat.le_trans Z0 (Nat.le_of_eq W3.size.symm)
  have N3 := Fr.snoc X3 N0 gq_a0
  have Fw3 := P1.same W3
  refine own_pre st3 ?_
  exact own_end X3 (BodyLoose.notSynchronized Bd) (fun _ => rfl) (v := none) (fun fs hr => X3.returnOut hx Bd.returns (hb hby d2_28) hr) (by show Q2 Z a0 p1 h0 n0 _ T3.heap _; rw [e3]; exact ⟨rfl, N3, Kp3, Fw3⟩) (by decide) (by decide)
theorem d4_0 : decode prog_15_method_3_code 0 = .ok (.lload_n 3, 1) := by decide +kernel
theorem d4_1 : decode prog_15_method_3_code 1 = .ok (.aload_n 0, 1) := by decide +kernel
theorem d4_2 : decode prog_15_method_3_code 2 = .ok (.getfield 16, 3) := by decide +kernel
theorem d4_5 : decode prog_15_method_3_code 5 = .ok (.i2l, 1) := by decide +kernel
theorem d4_6 : decode prog_15_method_3_code 6 = .ok (.lcmp, 1) := by decide +kernel
theorem d4_7 : decode prog_15_method_3_code 7 = .ok (.ifCond .lt 7, 3) := by decide +kernel
theorem d4_10 : decode prog_15_method_3_code 10 = .ok (.iconst 1, 1) := by decide +kernel
theorem d4_11 : decode prog_15_method_3_code 11 = .ok (.goto 4, 3) := by decide +kernel
theorem d4_14 : decode prog_15_method_3_code 14 = .ok (.iconst 0, 1) := by decide +kernel
theorem d4_15 : decode prog_15_method_3_code 15 = .ok (.ireturn, 1) := by decide +kernel
theorem ef4 (m : MethodId) (a0 : Addr) (q1 : Int64) (q2 : Int64) (q3 : Int64) : entryFrame m #[(.ref a0), (.long q1), (.long q2), (.long q3)] 7 = mkF m 0 #[rv a0, .val (.long q1), .second, .val (.long q2), .second, .val (.long q3), .second] [] := by first | (simp [entryFrame, mkF, argsToLocals, Value.category]; done) | rfl
def f4 (q1 : Int64) (q2 : Int64) (q3 : Int64) (ver : Int32) : Int32 := (let w4_1 : Int32 := (if q2 < (ver.toInt64) then (0:Int32) else (1:Int32)); (w4_1 &&& 1))
def Q4 (Z : State) (a0 : Addr) (q1 : Int64) (q2 : Int64) (q3 : Int64) (ver : Int32) (h0 : Heap) (n0 : Nat) (v : Option Value) (h : Heap) (L : List Loc) : Prop := v = some (.int (f4 q1 q2 q3 ver)) ∧ Fr n0 L ∧ h = h0
set_option maxRecDepth 65536 in
set_option maxHeartbeats 40000000 in
theorem rm4 (l : Launch) (Z : State) (aZ : Array Value) (hw : ∀ d ∈ tables_1, d.before aZ Z = true) (ws : List Jvm.Cond) (a0 : Addr) (q1 : Int64) (q2 : Int64) (q3 : Int64) (ver : Int32) (h0 : Heap) (n0 : Nat) (Z0 : n0 ≤ h0.size) (P0 : Fld Z h0 a0 "com/example/lexrow/lexrow/model/GcRule$MaxVersions" "versions" "I" (.int ver)) :
    MetFree l (⟨"com/example/lexrow/lexrow/model/GcRule$MaxVersions", "collects", "(JJJ)Z"⟩ : MethodName) (head1 (Jvm.Cond.code (⟨"com/example/lexrow/lexrow/model/GcRule$MaxVersions", "collects", "(JJJ)Z"⟩ : MethodName) prog_15_method_3_code 7 (some .boolean) :: ws) ({ frames := 0, cells := 0, slots := 0, locals := 0 } : Room)) (fun a U => a = #[(.ref a0), (.long q1), (.long q2), (.long q3)] ∧ Z.Warmed39 U.vm ∧ U.heap = h0) (fun _ _ _ _ _ => True) (fun _ U o U' => ∃ v L, o = .returned v ∧ Q4 Z a0 q1 q2 q3 ver h0 n0 v U'.heap L ∧ FrameEnd U o U' L ({ frames := 0, cells := 0, slots := 0, locals := 0 } : Room).cells ({ frames := 0, cells := 0, slots := 0, locals := 0 } : Room).slots) := by
  refine MetFree.of_bodySF (plainFor_of_name own_pn0) hisR ?_
  intro p e s m args below meth c s₁ Bd hml0 hP hK
  obtain ⟨rfl, hZ, hh⟩ := hP
  have hx := Bd.exec
  have hby := Bd.bytes
  have hml : c.maxLocals = 7 := hml0
  have hown : s.vm.findClass "com/example/lexrow/lexrow/model/GcRule$MaxVersions" = some m.cls := findClass_of_methodNamed Bd.named
  have hnm := (name_of_methodNamed Bd.named Bd.method).1
  have X0 : Stand p l e ({ frames := 0, cells := 0, slots := 0, locals := 0 } : Room) s m #[(.ref a0), (.long q1), (.long q2), (.long q3)] below meth c s₁ [] 0 0 := Stand.of_body Bd
  have e0 : s₁.heap = h0 := by rw [← hh, Bd.state]; rfl
  have N0 := Fr.nil n0
  show own_Goes p e below s (Q4 Z a0 q1 q2 q3 ver h0 n0) ({ frames := 0, cells := 0, slots := 0, locals := 0 } : Room).cells ({ frames := 0, cells := 0, slots := 0, locals := 0 } : Room).slots _
  refine own_pre (fun t k => castTop (ef4 m a0 q1 q2 q3) k) ?_
  refine own_pre (A := s₁.setTop (mkF m 2 #[rv a0, .val (.long q1), .second, .val (.long q2), .second, .val (.long q3), .second] [(.ref a0), (.long q2)])) (fun t k => ?_) ?_
  · show Steps p.tables e below (s₁.setTop (mkF m 0 #[rv a0, .val (.long q1), .second, .val (.long q2), .second, .val (.long q3), .second] [])) _
    refine XS.lloadN X0.here hx rfl (hb hby d4_0) rfl ?_
    show Steps p.tables e below (s₁.setTop (mkF m 1 #[rv a0, .val (.long q1), .second, .val (.long q2), .second, .val (.long q3), .second] [(.long q2)])) _
    refine XS.aloadN X0.here hx rfl (hb hby d4_1) rfl rfl ?_
    exact k
  obtain ⟨T5, X5, e5, st5⟩ := getF X0 hx hZ hown (host := "") (Or.inl (own_h hw 14 rfl)) Via.refl e0 P0 (g := (mkF m 2 #[rv a0, .val (.long q1), .second, .val (.long q2), .second, .val (.long q3), .second] [(.ref a0), (.long q2)])) rfl rfl (hb hby d4_2)
  refine own_pre st5 ?_
  refine own_pre (A := T5.setTop (mkF m 7 #[rv a0, .val (.long q1), .second, .val (.long q2), .second, .val (.long q3), .second] [(.int (XT.cmpL q2 (ver.toInt64)))])) (fun t k => ?_) ?_
  · show Steps p.tables e below (T5.setTop (mkF m 5 #[rv a0, .val (.long q1), .second, .val (.long q2), .second, .val (.long q3), .second] [(.int ver), (.long q2)])) _
    refine XS.i2l X5.here hx rfl (hb hby d4_5) rfl ?_
    show Steps p.tables e below (T5.setTop (mkF m 6 #[rv a0, .val (.long q1), .second, .val (.long q2), .second, .val (.long q3), .second] [(.long (ver.toInt64)), (.long q2)])) _
    refine XT.lcmp X5.here hx rfl (hb hby d4_6) rfl ?_
    exact k
  obtain ⟨w4_1, hw4_1⟩ : ∃ z : Int32, z = (if q2 < (ver.toInt64) then (0:Int32) else (1:Int32)) := ⟨_, rfl⟩
  refine own_pre (A := T5.setTop (mkF m 15 #[rv a0, .val (.long q1), .second, .val (.long q2), .second, .val (.long q3), .second] [(.int w4_1)])) (fun t k => ?_) ?_
  · show Steps p.tables e below (T5.setTop (mkF m 7 #[rv a0, .val (.long q1), .second, .val (.long q2), .second, .val (.long q3), .second] [(.int (XT.cmpL q2 (ver.toInt64)))])) _
    by_cases hm7_1 : q2 < (ver.toInt64)
    · refine XS.ifYes X5.here hx rfl (pc0 := 7) (pc' := 14) rfl (hb hby d4_7) rfl (XT.ll_lt_t hm7_1) (by decide) (by decide) ?_
      show Steps p.tables e below (T5.setTop (mkF m 14 #[rv a0, .val (.long q1), .second, .val (.long q2), .second, .val (.long q3), .second] [])) _
      refine XS.iconst X5.here hx rfl (hb hby d4_14) ?_
      rw [hw4_1.trans (if_pos hm7_1)] at k
      exact k
    · refine XS.ifNo X5.here hx rfl (hb hby d4_7) rfl (XT.ll_lt_f hm7_1) ?_
      show Steps p.tables e below (T5.setTop (mkF m 10 #[rv a0, .val (.long q1), .second, .val (.long q2), .second, .val (.long q3), .second] [])) _
      refine XS.iconst X5.here hx rfl (hb hby d4_10) ?_
      show Steps p.tables e below (T5.setTop (mkF m 11 #[rv a0, .val (.long q1), .second, .val (.long q2), .second, .val (.long q3), .second] [(.int (1:Int32))])) _
      refine XS.goto X5.here hx rfl (pc0 := 11) (pc' := 15) rfl (hb hby d4_11) (by decide) (by decide) ?_
      rw [hw4_1.trans (if_neg hm7_1)] at k
      exact k
  have hv6 : (w4_1 &&& 1) = f4 q1 q2 q3 ver := by subst hw4_1; rfl
  exact own_end X5 (BodyLoose.notSynchronized Bd) (fun h => by rw [Bd.returns] at h; cases h) (v := some (.int (w4_1 &&& 1))) (fun fs hr => retN X5 hx (t := .boolean) Bd.returns (by simp) (hb hby d4_15) hr) (by show Q4 Z a0 q1 q2 q3 ver h0 n0 _ T5.heap _; rw [e5]; exact ⟨(congrArg (fun z => some (Value.int z)) hv6), N0, rfl⟩) (by decide) (by decide)
theorem d5_0 : decode prog_15_method_2_code 0 = .ok (.aload_n 0, 1) := by decide +kernel
theorem d5_1 : decode prog_15_method_2_code 1 = .ok (.getfield 16, 3) := by decide +kernel
theorem d5_4 : decode prog_15_method_2_code 4 = .ok (.ireturn, 1) := by decide +kernel
theorem ef5 (m : MethodId) (a0 : Addr) : entryFrame m #[(.ref a0)] 1 = mkF m 0 #[rv a0] [] := by first | (simp [entryFrame, mkF, argsToLocals, Value.category]; done) | rfl
def f5 (ver : Int32) : Int32 := ver
def Q5 (Z : State) (a0 : Addr) (ver : Int32) (h0 : Heap) (n0 : Nat) (v : Option Value) (h : Heap) (L : List Loc) : Prop := v = some (.int (f5 ver)) ∧ Fr n0 L ∧ h = h0
set_option maxRecDepth 65536 in
set_option maxHeartbeats 40000000 in
theorem rm5 (l : Launch) (Z : State) (aZ : Array Value) (hw : ∀ d ∈ tables_1, d.before aZ Z = true) (ws : List Jvm.Cond) (a0 : Addr) (ver : Int32) (h0 : Heap) (n0 : Nat) (Z0 : n0 ≤ h0.size) (P0 : Fld Z h0 a0 "com/example/lexrow/lexrow/model/GcRule$MaxVersions" "versions" "I" (.int ver)) :
    MetFree l (⟨"com/example/lexrow/lexrow/model/GcRule$MaxVersions", "versions", "()I"⟩ : MethodName) (head1 (Jvm.Cond.code (⟨"com/example/lexrow/lexrow/model/GcRule$MaxVersions", "versions", "()I"⟩ : MethodName) prog_15_method_2_code 1 (some .int) :: ws) ({ frames := 0, cells := 0, slots := 0, locals := 0 } : Room)) (fun a U => a = #[(.ref a0)] ∧ Z.Warmed39 U.vm ∧ U.heap = h0) (fun _ _ _ _ _ => True) (fun _ U o U' => ∃ v L, o = .returned v ∧ Q5 Z a0 ver h0 n0 v U'.heap L ∧ FrameEnd U o U' L ({ frames := 0, cells := 0, slots := 0, locals := 0 } : Room).cells ({ frames := 0, cells := 0, slots := 0, locals := 0 } : Room).slots) := by
  refine MetFree.of_bodySF (plainFor_of_name own_pn0) hisR ?_
  intro p e s m args below meth c s₁ Bd hml0 hP hK
  obtain ⟨rfl, hZ, hh⟩ := hP
  have hx := Bd.exec
  have hby := Bd.bytes
  have hml : c.maxLocals = 1 := hml0
  have hown : s.vm.findClass "com/example/lexrow/lexrow/model/GcRule$MaxVersions" = some m.cls := findClass_of_methodNamed Bd.named
  have hnm := (name_of_methodNamed Bd.named Bd.method).1
  have X0 : Stand p l e ({ frames := 0, cells := 0, slots := 0, locals := 0 } : Room) s m #[(.ref a0)] below meth c s₁ [] 0 0 := Stand.of_body Bd
  have e0 : s₁.heap = h0 := by rw [← hh, Bd.state]; rfl
  have N0 := Fr.nil n0
  show own_Goes p e below s (Q5 Z a0 ver h0 n0) ({ frames := 0, cells := 0, slots := 0, locals := 0 } : Room).cells ({ frames := 0, cells := 0, slots := 0, locals := 0 } : Room).slots _
  refine own_pre (fun t k => castTop (ef5 m a0) k) ?_
  refine own_pre (A := s₁.setTop (mkF m 1 #[rv a0] [(.ref a0)])) (fun t k => ?_) ?_
  · show Steps p.tables e below (s₁.setTop (mkF m 0 #[rv a0] [])) _
    refine XS.aloadN X0.here hx rfl (hb hby d5_0) rfl rfl ?_
    exact k
  obtain ⟨T7, X7, e7, st7⟩ := getF X0 hx hZ hown (host := "") (Or.inl (own_h hw 14 rfl)) Via.refl e0 P0 (g := (mkF m 1 #[rv a0] [(.ref a0)])) rfl rfl (hb hby d5_1)
  refine own_pre st7 ?_
  have hv8 : ver = f5 ver := by rfl
  exact own_end X7 (BodyLoose.notSynchronized Bd) (fun h => by rw [Bd.returns] at h; cases h) (v := some (.int ver)) (fun fs hr => retOut X7 hx Bd.returns rfl (by simp [Value.isRef, FieldType.isReference]) (hb hby d5_4) hr) (by show Q5 Z a0 ver h0 n0 _ T7.heap _; rw [e7]; exact ⟨(congrArg (fun z => some (Value.int z)) hv8), N0, rfl⟩) (by decide) (by decide)
theorem own_n (p w : Int32) (hw : w = (f1 (1:Int32) (p &&& (2147483647:Int32)))) : ¬ (w < (1:Int32)) := by
  rw [hw]; simp only [f1]
  split
  · rename_i h; rw [Int32.lt_iff_toInt_lt] at *; omega
  · decide
theorem own_pn1 : plainName "com/example/lexrow/lexrow/model/MaxVersionsCollectsPinLaw" = true := by first | (simp [plainName, overriddenIn]; done) | decide +kernel
theorem own_pd0 : parseMethodDescriptor "(II)I" = some ⟨[.int, .int], some .int⟩ := by decide +kernel
theorem own_pd1 : parseMethodDescriptor "(I)V" = some ⟨[.int], none⟩ := by decide +kernel
theorem own_pd2 : parseMethodDescriptor "(JJJ)Z" = some ⟨[.long, .long, .long], some .boolean⟩ := by decide +kernel
theorem own_pd3 : parseMethodDescriptor "()I" = some ⟨[], some .int⟩ := by decide +kernel
theorem ef0 (m : MethodId) (p0 : Int32) (q1 : Int64) (q2 : Int64) (q3 : Int64) : entryFrame m #[(.int p0), (.long q1), (.long q2), (.long q3)] maxLocals = mkF m 0 #[iv p0, .val (.long q1), .second, .val (.long q2), .second, .val (.long q3), .second, .unset, .unset, .unset, .unset, .unset, .unset, .unset] [] := by first | (simp [entryFrame, mkF, argsToLocals, Value.category, maxLocals]; done) | rfl
def f0 (p0 : Int32) (q1 : Int64) (q2 : Int64) (q3 : Int64) : Int32 := (let w0_1 : Int32 := (f1 (1:Int32) (p0 &&& (2147483647:Int32))); let w0_2 : Int32 := (if q1 < (w0_1.toInt64) then (1:Int32) else (0:Int32)); let w0_3 : Int32 := (f4 (0:Int64) q1 (0:Int64) w0_1); let w0_4 : Int32 := (f4 q2 ((w0_1.toInt64) - (1:Int64)) q3 w0_1); let w0_5 : Int32 := (if w0_2 = (0:Int32) then (1:Int32) else (0:Int32)); (if (f4 q2 q1 q3 w0_1) = w0_5 then (if (f4 q2 q1 q3 w0_1) = w0_3 then (if w0_4 = (0:Int32) then (if (f4 q2 (w0_1.toInt64) q3 w0_1) = (0:Int32) then (0:Int32) else (let w0_6 : Int32 := (if (f5 w0_1) = w0_1 then (1:Int32) else (0:Int32)); (w0_6 &&& 1))) else (0:Int32)) else (0:Int32)) else (0:Int32)))
def Q0 (Z : State) (p0 : Int32) (q1 : Int64) (q2 : Int64) (q3 : Int64)  (h0 : Heap) (n0 : Nat) (v : Option Value) (h : Heap) (L : List Loc) : Prop := v = some (.int (f0 p0 q1 q2 q3)) ∧ Fr n0 L
set_option maxRecDepth 65536 in
set_option maxHeartbeats 40000000 in
theorem rm0 (l : Launch) (Z : State) (aZ : Array Value) (hw : ∀ d ∈ tables_1, d.before aZ Z = true) (ws : List Jvm.Cond) (p0 : Int32) (q1 : Int64) (q2 : Int64) (q3 : Int64)  (h0 : Heap) (n0 : Nat) (Z0 : n0 ≤ h0.size)  :
    MetFree l x (head1 (Jvm.Cond.code x code maxLocals ret :: ws) room_1) (fun a U => a = #[(.int p0), (.long q1), (.long q2), (.long q3)] ∧ Z.Warmed39 U.vm ∧ U.heap = h0) (fun _ _ _ _ _ => True) (fun _ U o U' => ∃ v L, o = .returned v ∧ Q0 Z p0 q1 q2 q3 h0 n0 v U'.heap L ∧ FrameEnd U o U' L 1 1) := by
  refine MetFree.of_bodySF (plainFor_of_name own_pn1) hisR ?_
  intro p e s m args below meth c s₁ Bd hml0 hP hK
  obtain ⟨rfl, hZ, hh⟩ := hP
  have hx := Bd.exec
  have hby := Bd.bytes
  have hml : c.maxLocals = 14 := hml0
  have hown : s.vm.findClass "com/example/lexrow/lexrow/model/MaxVersionsCollectsPinLaw" = some m.cls := findClass_of_methodNamed Bd.named
  have hnm := (name_of_methodNamed Bd.named Bd.method).1
  have X0 : Stand p l e room_1 s m #[(.int p0), (.long q1), (.long q2), (.long q3)] below meth c s₁ [] 0 0 := Stand.of_body Bd
  have e0 : s₁.heap = h0 := by rw [← hh, Bd.state]; rfl
  have N0 := Fr.nil n0
  show own_Goes p e below s (Q0 Z p0 q1 q2 q3 h0 n0) 1 1 _
  refine own_pre (fun t k => castTop (ef0 m p0 q1 q2 q3) k) ?_
  refine own_pre (A := s₁.setTop (mkF m 5 #[iv p0, .val (.long q1), .second, .val (.long q2), .second, .val (.long q3), .second, .unset, .unset, .unset, .unset, .unset, .unset, .unset] [(.int (p0 &&& (2147483647:Int32))), (.int (1:Int32))])) (fun t k => ?_) ?_
  · show Steps p.tables e below (s₁.setTop (mkF m 0 #[iv p0, .val (.long q1), .second, .val (.long q2), .second, .val (.long q3), .second, .unset, .unset, .unset, .unset, .unset, .unset, .unset] [])) _
    refine XS.iconst X0.here hx rfl (hb hby at_0) ?_
    show Steps p.tables e below (s₁.setTop (mkF m 1 #[iv p0, .val (.long q1), .second, .val (.long q2), .second, .val (.long q3), .second, .unset, .unset, .unset, .unset, .unset, .unset, .unset] [(.int (1:Int32))])) _
    refine XS.iloadN X0.here hx rfl (hb hby at_1) rfl ?_
    show Steps p.tables e below (s₁.setTop (mkF m 2 #[iv p0, .val (.long q1), .second, .val (.long q2), .second, .val (.long q3), .second, .unset, .unset, .unset, .unset, .unset, .unset, .unset] [(.int p0), (.int (1:Int32))])) _
    refine Jvm.Stand.ldcI X0 hx hown (mvT hZ (own_h hw 0 rfl)) rfl (hb hby at_2) ?_
    show Steps p.tables e below (s₁.setTop (mkF m 4 #[iv p0, .val (.long q1), .second, .val (.long q2), .second, .val (.long q3), .second, .unset, .unset, .unset, .unset, .unset, .unset, .unset] [(.int (2147483647:Int32)), (.int p0), (.int (1:Int32))])) _
    refine XS.iand X0.here hx rfl (hb hby at_4) rfl ?_
    exact k
  obtain ⟨_, _, ⟨T9, L9, k9, n9⟩, -, X9, ⟨Lc9, hQ9, l9, y9, z9⟩, st9⟩ := Jvm.LawKit.callS X0 hx (y := (⟨"java/lang/Math", "max", "(II)I"⟩ : MethodName)) hown (mvT hZ (own_h hw 1 rfl)) (mvT hZ (own_h hw 2 rfl)) (mvT hZ (own_h hw 3 rfl)) (mvT hZ (own_h hw 4 rfl)) (by decide) (backOf (W := 0) (rm1 l Z aZ hw [] (1:Int32) (p0 &&& (2147483647:Int32)) h0 n0 Z0 ) hZ (own_h hw 4 rfl) (own_h hw 3 rfl) (by decide) (by decide)) (g := (mkF m 5 #[iv p0, .val (.long q1), .second, .val (.long q2), .second, .val (.long q3), .second, .unset, .unset, .unset, .unset, .unset, .unset, .unset] [(.int (p0 &&& (2147483647:Int32))), (.int (1:Int32))])) rfl (by rw [hml]; rfl) (argsL := [(.int (1:Int32)), (.int (p0 &&& (2147483647:Int32)))]) (rest := []) (lenOf own_pd0 rfl) rfl (by show 2 * 0 + _ ≤ _; exact Nat.le_of_eq rfl) (hb hby at_5) (fun _ _ => ⟨rfl, e0, (by decide : 0 + 0 ≤ _), (by decide : 0 + 0 ≤ _)⟩)
  dsimp only [Pt.U, Pt.locs, Pt.cells, Pt.slots] at X9 l9 y9 z9 st9 hQ9
  subst l9 y9 z9
  obtain ⟨rfl, N9q, eh9⟩ := hQ9
  have N9 := Fr.app N0 N9q
  refine own_pre st9 ?_
  obtain ⟨w0_1, hw0_1⟩ : ∃ z : Int32, z = (f1 (1:Int32) (p0 &&& (2147483647:Int32))) := ⟨_, rfl⟩
  refine own_pre (A := T9.setTop (mkF m 10 #[iv p0, .val (.long q1), .second, .val (.long q2), .second, .val (.long q3), .second, iv w0_1, .unset, .unset, .unset, .unset, .unset, .unset] [])) (fun t k => ?_) ?_
  · show Steps p.tables e below (T9.setTop (mkF m 8 #[iv p0, .val (.long q1), .second, .val (.long q2), .second, .val (.long q3), .second, .unset, .unset, .unset, .unset, .unset, .unset, .unset] [(.int (f1 (1:Int32) (p0 &&& (2147483647:Int32))))])) _
    refine XS.istore X9.here hx rfl (hb hby at_8) rfl (l' := #[iv p0, .val (.long q1), .second, .val (.long q2), .second, .val (.long q3), .second, iv w0_1, .unset, .unset, .unset, .unset, .unset, .unset]) (by rw [hw0_1]; rfl) ?_
    exact k
  obtain ⟨T10, h10, X10, e10, E10, A10, D10, -, st10⟩ := newO X9 hx hZ hown (own_h hw 5 rfl) (own_h hw 6 rfl) (own_h hw 7 rfl) eh9 (g := (mkF m 10 #[iv p0, .val (.long q1), .second, .val (.long q2), .second, .val (.long q3), .second, iv w0_1, .unset, .unset, .unset, .unset, .unset, .unset] [])) rfl (hb hby at_10) (by decide) (by decide)
  obtain ⟨b10, g10⟩ : ∃ z, z = h0.size := ⟨_, rfl⟩
  rw [← g10] at A10 D10 st10
  have ge_b10 : n0 ≤ b10 := Nat.le_trans Z0 (Nat.le_of_eq g10.symm)
  have Z11 : n0 ≤ h10.size := Nat.le_trans Z0 E10.1
  have F10_versions : Fld Z h10 b10 "com/example/lexrow/lexrow/model/GcRule$MaxVersions" "versions" "I" (.int (0:Int32)) := D10 (Or.inr (own_h hw 15 rfl)) (ty := .int) (by decide)
  refine own_pre st10 ?_
  refine own_pre (A := T10.setTop (mkF m 16 #[iv p0, .val (.long q1), .second, .val (.long q2), .second, .val (.long q3), .second, iv w0_1, .unset, .unset, .unset, .unset, .unset, .unset] [(.int w0_1), (.ref b10), (.ref b10)])) (fun t k => ?_) ?_
  · show Steps p.tables e below (T10.setTop (mkF m 13 #[iv p0, .val (.long q1), .second, .val (.long q2), .second, .val (.long q3), .second, iv w0_1, .unset, .unset, .unset, .unset, .unset, .unset] [(.ref b10)])) _
    refine XS.dup X10.here hx rfl (hb hby at_13) rfl rfl ?_
    show Steps p.tables e below (T10.setTop (mkF m 14 #[iv p0, .val (.long q1), .second, .val (.long q2), .second, .val (.long q3), .second, iv w0_1, .unset, .unset, .unset, .unset, .unset, .unset] [(.ref b10), (.ref b10)])) _
    refine XS.iload X10.here hx rfl (hb hby at_14) rfl ?_
    exact k
  obtain ⟨_, _, ⟨T12, L12, k12, n12⟩, -, X12, ⟨Lc12, hQ12, l12, y12, z12⟩, st12⟩ := X10.specialBack hx (y := (⟨"com/example/lexrow/lexrow/model/GcRule$MaxVersions", "<init>", "(I)V"⟩ : MethodName)) rfl hown (mvT hZ (own_h hw 8 rfl)) (mvT hZ (own_h hw 9 rfl)) (mvT hZ (own_h hw 10 rfl)) (by decide) (backOf (W := 1) (rm2 l Z aZ hw [] b10 w0_1 h10 n0 Z11 A10 F10_versions ge_b10 (own_n _ _ hw0_1)) hZ (own_h hw 10 rfl) (own_h hw 7 rfl) (by decide) (by decide)) (g := (mkF m 16 #[iv p0, .val (.long q1), .second, .val (.long q2), .second, .val (.long q3), .second, iv w0_1, .unset, .unset, .unset, .unset, .unset, .unset] [(.int w0_1), (.ref b10), (.ref b10)])) rfl (by rw [hml]; rfl) (Steps.refl _) (a := b10) (argsL := [(.int w0_1)]) (rest := [(.ref b10)]) (lenOf own_pd1 rfl) rfl (by show 2 * 0 + _ ≤ _; exact Nat.le_of_eq rfl) (hb hby at_16) (fun _ _ => ⟨rfl, e10, (by decide : 1 + 0 ≤ _), (by decide : 1 + 0 ≤ _)⟩)
  dsimp only [Pt.U, Pt.locs, Pt.cells, Pt.slots] at X12 l12 y12 z12 st12 hQ12
  subst l12 y12 z12
  obtain ⟨rfl, N12q, K12, G13⟩ := hQ12
  have N12 := Fr.app N9 N12q
  have Z14 : n0 ≤ T12.heap.size := Nat.le_trans Z11 K12.1
  refine own_pre (fun _ k => st12.trans k) ?_
  refine own_pre (A := T12.setTop (mkF m 26 #[iv p0, .val (.long q1), .second, .val (.long q2), .second, .val (.long q3), .second, iv w0_1, rv b10, .unset, .unset, .unset, .unset, .unset] [(.int (XT.cmpL q1 (w0_1.toInt64)))])) (fun t k => ?_) ?_
  · show Steps p.tables e below (T12.setTop (mkF m 19 #[iv p0, .val (.long q1), .second, .val (.long q2), .second, .val (.long q3), .second, iv w0_1, .unset, .unset, .unset, .unset, .unset, .unset] [(.ref b10)])) _
    refine XS.astore X12.here hx rfl (hb hby at_19) rfl rfl (l' := #[iv p0, .val (.long q1), .second, .val (.long q2), .second, .val (.long q3), .second, iv w0_1, rv b10, .unset, .unset, .unset, .unset, .unset]) rfl ?_
    show Steps p.tables e below (T12.setTop (mkF m 21 #[iv p0, .val (.long q1), .second, .val (.long q2), .second, .val (.long q3), .second, iv w0_1, rv b10, .unset, .unset, .unset, .unset, .unset] [])) _
    refine XS.lloadN X12.here hx rfl (hb hby at_21) rfl ?_
    show Steps p.tables e below (T12.setTop (mkF m 22 #[iv p0, .val (.long q1), .second, .val (.long q2), .second, .val (.long q3), .second, iv w0_1, rv b10, .unset, .unset, .unset, .unset, .unset] [(.long q1)])) _
    refine XS.iload X12.here hx rfl (hb hby at_22) rfl ?_
    show Steps p.tables e below (T12.setTop (mkF m 24 #[iv p0, .val (.long q1), .second, .val (.long q2), .second, .val (.long q3), .second, iv w0_1, rv b10, .unset, .unset, .unset, .unset, .unset] [(.int w0_1), (.long q1)])) _
    refine XS.i2l X12.here hx rfl (hb hby at_24) rfl ?_
    show Steps p.tables e below (T12.setTop (mkF m 25 #[iv p0, .val (.long q1), .second, .val (.long q2), .second, .val (.long q3), .second, iv w0_1, rv b10, .unset, .unset, .unset, .unset, .unset] [(.long (w0_1.toInt64)), (.long q1)])) _
    refine XT.lcmp X12.here hx rfl (hb hby at_25) rfl ?_
    exact k
  obtain ⟨w0_2, hw0_2⟩ : ∃ z : Int32, z = (if q1 < (w0_1.toInt64) then (1:Int32) else (0:Int32)) := ⟨_, rfl⟩
  refine own_pre (A := T12.setTop (mkF m 34 #[iv p0, .val (.long q1), .second, .val (.long q2), .second, .val (.long q3), .second, iv w0_1, rv b10, .unset, .unset, .unset, .unset, .unset] [(.int w0_2)])) (fun t k => ?_) ?_
  · show Steps p.tables e below (T12.setTop (mkF m 26 #[iv p0, .val (.long q1), .second, .val (.long q2), .second, .val (.long q3), .second, iv w0_1, rv b10, .unset, .unset, .unset, .unset, .unset] [(.int (XT.cmpL q1 (w0_1.toInt64)))])) _
    by_cases hm26_1 : q1 < (w0_1.toInt64)
    · refine XS.ifNo X12.here hx rfl (hb hby at_26) rfl (XT.ll_ge_f hm26_1) ?_
      show Steps p.tables e below (T12.setTop (mkF m 29 #[iv p0, .val (.long q1), .second, .val (.long q2), .second, .val (.long q3), .second, iv w0_1, rv b10, .unset, .unset, .unset, .unset, .unset] [])) _
      refine XS.iconst X12.here hx rfl (hb hby at_29) ?_
      show Steps p.tables e below (T12.setTop (mkF m 30 #[iv p0, .val (.long q1), .second, .val (.long q2), .second, .val (.long q3), .second, iv w0_1, rv b10, .unset, .unset, .unset, .unset, .unset] [(.int (1:Int32))])) _
      refine XS.goto X12.here hx rfl (pc0 := 30) (pc' := 34) rfl (hb hby at_30) (by decide) (by decide) ?_
      rw [hw0_2.trans (if_pos hm26_1)] at k
      exact k
    · refine XS.ifYes X12.here hx rfl (pc0 := 26) (pc' := 33) rfl (hb hby at_26) rfl (XT.ll_ge_t hm26_1) (by decide) (by decide) ?_
      show Steps p.tables e below (T12.setTop (mkF m 33 #[iv p0, .val (.long q1), .second, .val (.long q2), .second, .val (.long q3), .second, iv w0_1, rv b10, .unset, .unset, .unset, .unset, .unset] [])) _
      refine XS.iconst X12.here hx rfl (hb hby at_33) ?_
      rw [hw0_2.trans (if_neg hm26_1)] at k
      exact k
  refine own_pre (A := T12.setTop (mkF m 42 #[iv p0, .val (.long q1), .second, .val (.long q2), .second, .val (.long q3), .second, iv w0_1, rv b10, iv w0_2, .unset, .unset, .unset, .unset] [(.long q3), (.long q1), (.long q2), (.ref b10)])) (fun t k => ?_) ?_
  · show Steps p.tables e below (T12.setTop (mkF m 34 #[iv p0, .val (.long q1), .second, .val (.long q2), .second, .val (.long q3), .second, iv w0_1, rv b10, .unset, .unset, .unset, .unset, .unset] [(.int w0_2)])) _
    refine XS.istore X12.here hx rfl (hb hby at_34) rfl (l' := #[iv p0, .val (.long q1), .second, .val (.long q2), .second, .val (.long q3), .second, iv w0_1, rv b10, iv w0_2, .unset, .unset, .unset, .unset]) rfl ?_
    show Steps p.tables e below (T12.setTop (mkF m 36 #[iv p0, .val (.long q1), .second, .val (.long q2), .second, .val (.long q3), .second, iv w0_1, rv b10, iv w0_2, .unset, .unset, .unset, .unset] [])) _
    refine XS.aload X12.here hx rfl (hb hby at_36) rfl rfl ?_
    show Steps p.tables e below (T12.setTop (mkF m 38 #[iv p0, .val (.long q1), .second, .val (.long q2), .second, .val (.long q3), .second, iv w0_1, rv b10, iv w0_2, .unset, .unset, .unset, .unset] [(.ref b10)])) _
    refine XS.lloadN X12.here hx rfl (hb hby at_38) rfl ?_
    show Steps p.tables e below (T12.setTop (mkF m 39 #[iv p0, .val (.long q1), .second, .val (.long q2), .second, .val (.long q3), .second, iv w0_1, rv b10, iv w0_2, .unset, .unset, .unset, .unset] [(.long q2), (.ref b10)])) _
    refine XS.lloadN X12.here hx rfl (hb hby at_39) rfl ?_
    show Steps p.tables e below (T12.setTop (mkF m 40 #[iv p0, .val (.long q1), .second, .val (.long q2), .second, .val (.long q3), .second, iv w0_1, rv b10, iv w0_2, .unset, .unset, .unset, .unset] [(.long q1), (.long q2), (.ref b10)])) _
    refine XS.lload X12.here hx rfl (hb hby at_40) rfl ?_
    exact k
  have F16 := (A10.keep K12)
  obtain ⟨cq15, kq15, q15a, q15b, q15c⟩ := isOf hZ rfl F16
  obtain ⟨_, _, ⟨T15, L15, k15, n15⟩, -, X15, ⟨Lc15, hQ15, l15, y15, z15⟩, st15⟩ := X12.virtualBack hx (y := (⟨"com/example/lexrow/lexrow/model/GcRule$MaxVersions", "collects", "(JJJ)Z"⟩ : MethodName)) (z := (⟨"com/example/lexrow/lexrow/model/GcRule$MaxVersions", "collects", "(JJJ)Z"⟩ : MethodName)) hown (mvT hZ (own_h hw 16 rfl)) (mvT hZ (own_h hw 17 rfl)) (notFace_of_selects (args := #[]) (mvT hZ (own_h hw 19 rfl))) (mvT hZ (own_h hw 19 rfl)) (mvT hZ (own_h hw 18 rfl)) (by decide) (backOf (W := 0) (rm4 l Z aZ hw [] b10 q2 q1 q3 w0_1 T12.heap n0 Z14 G13) hZ (own_h hw 20 rfl) (own_h hw 7 rfl) (by decide) (by decide)) q15a q15c (g := (mkF m 42 #[iv p0, .val (.long q1), .second, .val (.long q2), .second, .val (.long q3), .second, iv w0_1, rv b10, iv w0_2, .unset, .unset, .unset, .unset] [(.long q3), (.long q1), (.long q2), (.ref b10)])) rfl (by rw [hml]; rfl) (Steps.refl _) (argsL := [(.long q2), (.long q1), (.long q3)]) (rest := []) (lenOf own_pd2 rfl) rfl (by show 2 * 0 + _ ≤ _; exact Nat.le_of_eq rfl) (hb hby at_42) (fun _ _ => ⟨rfl, rfl, (by decide : 1 + 0 ≤ _), (by decide : 1 + 0 ≤ _)⟩)
  dsimp only [Pt.U, Pt.locs, Pt.cells, Pt.slots] at X15 l15 y15 z15 st15 hQ15
  subst l15 y15 z15
  obtain ⟨rfl, N15q, eh15⟩ := hQ15
  have N15 := Fr.app N12 N15q
  refine own_pre (fun _ k => st15.trans k) ?_
  refine own_pre (A := T15.setTop (mkF m 52 #[iv p0, .val (.long q1), .second, .val (.long q2), .second, .val (.long q3), .second, iv w0_1, rv b10, iv w0_2, iv (f4 q2 q1 q3 w0_1), .unset, .unset, .unset] [(.long (0:Int64)), (.long q1), (.long (0:Int64)), (.ref b10)])) (fun t k => ?_) ?_
  · show Steps p.tables e below (T15.setTop (mkF m 45 #[iv p0, .val (.long q1), .second, .val (.long q2), .second, .val (.long q3), .second, iv w0_1, rv b10, iv w0_2, .unset, .unset, .unset, .unset] [(.int (f4 q2 q1 q3 w0_1))])) _
    refine XS.istore X15.here hx rfl (hb hby at_45) rfl (l' := #[iv p0, .val (.long q1), .second, .val (.long q2), .second, .val (.long q3), .second, iv w0_1, rv b10, iv w0_2, iv (f4 q2 q1 q3 w0_1), .unset, .unset, .unset]) rfl ?_
    show Steps p.tables e below (T15.setTop (mkF m 47 #[iv p0, .val (.long q1), .second, .val (.long q2), .second, .val (.long q3), .second, iv w0_1, rv b10, iv w0_2, iv (f4 q2 q1 q3 w0_1), .unset, .unset, .unset] [])) _
    refine XS.aload X15.here hx rfl (hb hby at_47) rfl rfl ?_
    show Steps p.tables e below (T15.setTop (mkF m 49 #[iv p0, .val (.long q1), .second, .val (.long q2), .second, .val (.long q3), .second, iv w0_1, rv b10, iv w0_2, iv (f4 q2 q1 q3 w0_1), .unset, .unset, .unset] [(.ref b10)])) _
    refine XS.lconst X15.here hx rfl (hb hby at_49) ?_
    show Steps p.tables e below (T15.setTop (mkF m 50 #[iv p0, .val (.long q1), .second, .val (.long q2), .second, .val (.long q3), .second, iv w0_1, rv b10, iv w0_2, iv (f4 q2 q1 q3 w0_1), .unset, .unset, .unset] [(.long (0:Int64)), (.ref b10)])) _
    refine XS.lloadN X15.here hx rfl (hb hby at_50) rfl ?_
    show Steps p.tables e below (T15.setTop (mkF m 51 #[iv p0, .val (.long q1), .second, .val (.long q2), .second, .val (.long q3), .second, iv w0_1, rv b10, iv w0_2, iv (f4 q2 q1 q3 w0_1), .unset, .unset, .unset] [(.long q1), (.long (0:Int64)), (.ref b10)])) _
    refine XS.lconst X15.here hx rfl (hb hby at_51) ?_
    exact k
  obtain ⟨cq17, kq17, q17a, q17b, q17c⟩ := isOf hZ eh15 F16
  obtain ⟨_, _, ⟨T17, L17, k17, n17⟩, -, X17, ⟨Lc17, hQ17, l17, y17, z17⟩, st17⟩ := X15.virtualBack hx (y := (⟨"com/example/lexrow/lexrow/model/GcRule$MaxVersions", "collects", "(JJJ)Z"⟩ : MethodName)) (z := (⟨"com/example/lexrow/lexrow/model/GcRule$MaxVersions", "collects", "(JJJ)Z"⟩ : MethodName)) hown (mvT hZ (own_h hw 16 rfl)) (mvT hZ (own_h hw 17 rfl)) (notFace_of_selects (args := #[]) (mvT hZ (own_h hw 19 rfl))) (mvT hZ (own_h hw 19 rfl)) (mvT hZ (own_h hw 18 rfl)) (by decide) (backOf (W := 0) (rm4 l Z aZ hw [] b10 (0:Int64) q1 (0:Int64) w0_1 T12.heap n0 Z14 G13) hZ (own_h hw 20 rfl) (own_h hw 7 rfl) (by decide) (by decide)) q17a q17c (g := (mkF m 52 #[iv p0, .val (.long q1), .second, .val (.long q2), .second, .val (.long q3), .second, iv w0_1, rv b10, iv w0_2, iv (f4 q2 q1 q3 w0_1), .unset, .unset, .unset] [(.long (0:Int64)), (.long q1), (.long (0:Int64)), (.ref b10)])) rfl (by rw [hml]; rfl) (Steps.refl _) (argsL := [(.long (0:Int64)), (.long q1), (.long (0:Int64))]) (rest := []) (lenOf own_pd2 rfl) rfl (by show 2 * 0 + _ ≤ _; exact Nat.le_of_eq rfl) (hb hby at_52) (fun _ _ => ⟨rfl, eh15, (by decide : 1 + 0 ≤ _), (by decide : 1 + 0 ≤ _)⟩)
  dsimp only [Pt.U, Pt.locs, Pt.cells, Pt.slots] at X17 l17 y17 z17 st17 hQ17
  subst l17 y17 z17
  obtain ⟨rfl, N17q, eh17⟩ := hQ17
  have N17 := Fr.app N15 N17q
  refine own_pre (fun _ k => st17.trans k) ?_
  obtain ⟨w0_3, hw0_3⟩ : ∃ z : Int32, z = (f4 (0:Int64) q1 (0:Int64) w0_1) := ⟨_, rfl⟩
  refine own_pre (A := T17.setTop (mkF m 67 #[iv p0, .val (.long q1), .second, .val (.long q2), .second, .val (.long q3), .second, iv w0_1, rv b10, iv w0_2, iv (f4 q2 q1 q3 w0_1), iv w0_3, .unset, .unset] [(.long q3), (.long ((w0_1.toInt64) - (1:Int64))), (.long q2), (.ref b10)])) (fun t k => ?_) ?_
  · show Steps p.tables e below (T17.setTop (mkF m 55 #[iv p0, .val (.long q1), .second, .val (.long q2), .second, .val (.long q3), .second, iv w0_1, rv b10, iv w0_2, iv (f4 q2 q1 q3 w0_1), .unset, .unset, .unset] [(.int (f4 (0:Int64) q1 (0:Int64) w0_1))])) _
    refine XS.istore X17.here hx rfl (hb hby at_55) rfl (l' := #[iv p0, .val (.long q1), .second, .val (.long q2), .second, .val (.long q3), .second, iv w0_1, rv b10, iv w0_2, iv (f4 q2 q1 q3 w0_1), iv w0_3, .unset, .unset]) (by rw [hw0_3]; rfl) ?_
    show Steps p.tables e below (T17.setTop (mkF m 57 #[iv p0, .val (.long q1), .second, .val (.long q2), .second, .val (.long q3), .second, iv w0_1, rv b10, iv w0_2, iv (f4 q2 q1 q3 w0_1), iv w0_3, .unset, .unset] [])) _
    refine XS.aload X17.here hx rfl (hb hby at_57) rfl rfl ?_
    show Steps p.tables e below (T17.setTop (mkF m 59 #[iv p0, .val (.long q1), .second, .val (.long q2), .second, .val (.long q3), .second, iv w0_1, rv b10, iv w0_2, iv (f4 q2 q1 q3 w0_1), iv w0_3, .unset, .unset] [(.ref b10)])) _
    refine XS.lloadN X17.here hx rfl (hb hby at_59) rfl ?_
    show Steps p.tables e below (T17.setTop (mkF m 60 #[iv p0, .val (.long q1), .second, .val (.long q2), .second, .val (.long q3), .second, iv w0_1, rv b10, iv w0_2, iv (f4 q2 q1 q3 w0_1), iv w0_3, .unset, .unset] [(.long q2), (.ref b10)])) _
    refine XS.iload X17.here hx rfl (hb hby at_60) rfl ?_
    show Steps p.tables e below (T17.setTop (mkF m 62 #[iv p0, .val (.long q1), .second, .val (.long q2), .second, .val (.long q3), .second, iv w0_1, rv b10, iv w0_2, iv (f4 q2 q1 q3 w0_1), iv w0_3, .unset, .unset] [(.int w0_1), (.long q2), (.ref b10)])) _
    refine XS.i2l X17.here hx rfl (hb hby at_62) rfl ?_
    show Steps p.tables e below (T17.setTop (mkF m 63 #[iv p0, .val (.long q1), .second, .val (.long q2), .second, .val (.long q3), .second, iv w0_1, rv b10, iv w0_2, iv (f4 q2 q1 q3 w0_1), iv w0_3, .unset, .unset] [(.long (w0_1.toInt64)), (.long q2), (.ref b10)])) _
    refine XS.lconst X17.here hx rfl (hb hby at_63) ?_
    show Steps p.tables e below (T17.setTop (mkF m 64 #[iv p0, .val (.long q1), .second, .val (.long q2), .second, .val (.long q3), .second, iv w0_1, rv b10, iv w0_2, iv (f4 q2 q1 q3 w0_1), iv w0_3, .unset, .unset] [(.long (1:Int64)), (.long (w0_1.toInt64)), (.long q2), (.ref b10)])) _
    refine XS.lsub X17.here hx rfl (hb hby at_64) rfl ?_
    show Steps p.tables e below (T17.setTop (mkF m 65 #[iv p0, .val (.long q1), .second, .val (.long q2), .second, .val (.long q3), .second, iv w0_1, rv b10, iv w0_2, iv (f4 q2 q1 q3 w0_1), iv w0_3, .unset, .unset] [(.long ((w0_1.toInt64) - (1:Int64))), (.long q2), (.ref b10)])) _
    refine XS.lload X17.here hx rfl (hb hby at_65) rfl ?_
    exact k
  obtain ⟨cq18, kq18, q18a, q18b, q18c⟩ := isOf hZ eh17 F16
  obtain ⟨_, _, ⟨T18, L18, k18, n18⟩, -, X18, ⟨Lc18, hQ18, l18, y18, z18⟩, st18⟩ := X17.virtualBack hx (y := (⟨"com/example/lexrow/lexrow/model/GcRule$MaxVersions", "collects", "(JJJ)Z"⟩ : MethodName)) (z := (⟨"com/example/lexrow/lexrow/model/GcRule$MaxVersions", "collects", "(JJJ)Z"⟩ : MethodName)) hown (mvT hZ (own_h hw 16 rfl)) (mvT hZ (own_h hw 17 rfl)) (notFace_of_selects (args := #[]) (mvT hZ (own_h hw 19 rfl))) (mvT hZ (own_h hw 19 rfl)) (mvT hZ (own_h hw 18 rfl)) (by decide) (backOf (W := 0) (rm4 l Z aZ hw [] b10 q2 ((w0_1.toInt64) - (1:Int64)) q3 w0_1 T12.heap n0 Z14 G13) hZ (own_h hw 20 rfl) (own_h hw 7 rfl) (by decide) (by decide)) q18a q18c (g := (mkF m 67 #[iv p0, .val (.long q1), .second, .val (.long q2), .second, .val (.long q3), .second, iv w0_1, rv b10, iv w0_2, iv (f4 q2 q1 q3 w0_1), iv w0_3, .unset, .unset] [(.long q3), (.long ((w0_1.toInt64) - (1:Int64))), (.long q2), (.ref b10)])) rfl (by rw [hml]; rfl) (Steps.refl _) (argsL := [(.long q2), (.long ((w0_1.toInt64) - (1:Int64))), (.long q3)]) (rest := []) (lenOf own_pd2 rfl) rfl (by show 2 * 0 + _ ≤ _; exact Nat.le_of_eq rfl) (hb hby at_67) (fun _ _ => ⟨rfl, eh17, (by decide : 1 + 0 ≤ _), (by decide : 1 + 0 ≤ _)⟩)
  dsimp only [Pt.U, Pt.locs, Pt.cells, Pt.slots] at X18 l18 y18 z18 st18 hQ18
  subst l18 y18 z18
  obtain ⟨rfl, N18q, eh18⟩ := hQ18
  have N18 := Fr.app N17 N18q
  refine own_pre (fun _ k => st18.trans k) ?_
  obtain ⟨w0_4, hw0_4⟩ : ∃ z : Int32, z = (f4 q2 ((w0_1.toInt64) - (1:Int64)) q3 w0_1) := ⟨_, rfl⟩
  refine own_pre (A := T18.setTop (mkF m 80 #[iv p0, .val (.long q1), .second, .val (.long q2), .second, .val (.long q3), .second, iv w0_1, rv b10, iv w0_2, iv (f4 q2 q1 q3 w0_1), iv w0_3, iv w0_4, .unset] [(.long q3), (.long (w0_1.toInt64)), (.long q2), (.ref b10)])) (fun t k => ?_) ?_
  · show Steps p.tables e below (T18.setTop (mkF m 70 #[iv p0, .val (.long q1), .second, .val (.long q2), .second, .val (.long q3), .second, iv w0_1, rv b10, iv w0_2, iv (f4 q2 q1 q3 w0_1), iv w0_3, .unset, .unset] [(.int (f4 q2 ((w0_1.toInt64) - (1:Int64)) q3 w0_1))])) _
    refine XS.istore X18.here hx rfl (hb hby at_70) rfl (l' := #[iv p0, .val (.long q1), .second, .val (.long q2), .second, .val (.long q3), .second, iv w0_1, rv b10, iv w0_2, iv (f4 q2 q1 q3 w0_1), iv w0_3, iv w0_4, .unset]) (by rw [hw0_4]; rfl) ?_
    show Steps p.tables e below (T18.setTop (mkF m 72 #[iv p0, .val (.long q1), .second, .val (.long q2), .second, .val (.long q3), .second, iv w0_1, rv b10, iv w0_2, iv (f4 q2 q1 q3 w0_1), iv w0_3, iv w0_4, .unset] [])) _
    refine XS.aload X18.here hx rfl (hb hby at_72) rfl rfl ?_
    show Steps p.tables e below (T18.setTop (mkF m 74 #[iv p0, .val (.long q1), .second, .val (.long q2), .second, .val (.long q3), .second, iv w0_1, rv b10, iv w0_2, iv (f4 q2 q1 q3 w0_1), iv w0_3, iv w0_4, .unset] [(.ref b10)])) _
    refine XS.lloadN X18.here hx rfl (hb hby at_74) rfl ?_
    show Steps p.tables e below (T18.setTop (mkF m 75 #[iv p0, .val (.long q1), .second, .val (.long q2), .second, .val (.long q3), .second, iv w0_1, rv b10, iv w0_2, iv (f4 q2 q1 q3 w0_1), iv w0_3, iv w0_4, .unset] [(.long q2), (.ref b10)])) _
    refine XS.iload X18.here hx rfl (hb hby at_75) rfl ?_
    show Steps p.tables e below (T18.setTop (mkF m 77 #[iv p0, .val (.long q1), .second, .val (.long q2), .second, .val (.long q3), .second, iv w0_1, rv b10, iv w0_2, iv (f4 q2 q1 q3 w0_1), iv w0_3, iv w0_4, .unset] [(.int w0_1), (.long q2), (.ref b10)])) _
    refine XS.i2l X18.here hx rfl (hb hby at_77) rfl ?_
    show Steps p.tables e below (T18.setTop (mkF m 78 #[iv p0, .val (.long q1), .second, .val (.long q2), .second, .val (.long q3), .second, iv w0_1, rv b10, iv w0_2, iv (f4 q2 q1 q3 w0_1), iv w0_3, iv w0_4, .unset] [(.long (w0_1.toInt64)), (.long q2), (.ref b10)])) _
    refine XS.lload X18.here hx rfl (hb hby at_78) rfl ?_
    exact k
  obtain ⟨cq19, kq19, q19a, q19b, q19c⟩ := isOf hZ eh18 F16
  obtain ⟨_, _, ⟨T19, L19, k19, n19⟩, -, X19, ⟨Lc19, hQ19, l19, y19, z19⟩, st19⟩ := X18.virtualBack hx (y := (⟨"com/example/lexrow/lexrow/model/GcRule$MaxVersions", "collects", "(JJJ)Z"⟩ : MethodName)) (z := (⟨"com/example/lexrow/lexrow/model/GcRule$MaxVersions", "collects", "(JJJ)Z"⟩ : MethodName)) hown (mvT hZ (own_h hw 16 rfl)) (mvT hZ (own_h hw 17 rfl)) (notFace_of_selects (args := #[]) (mvT hZ (own_h hw 19 rfl))) (mvT hZ (own_h hw 19 rfl)) (mvT hZ (own_h hw 18 rfl)) (by decide) (backOf (W := 0) (rm4 l Z aZ hw [] b10 q2 (w0_1.toInt64) q3 w0_1 T12.heap n0 Z14 G13) hZ (own_h hw 20 rfl) (own_h hw 7 rfl) (by decide) (by decide)) q19a q19c (g := (mkF m 80 #[iv p0, .val (.long q1), .second, .val (.long q2), .second, .val (.long q3), .second, iv w0_1, rv b10, iv w0_2, iv (f4 q2 q1 q3 w0_1), iv w0_3, iv w0_4, .unset] [(.long q3), (.long (w0_1.toInt64)), (.long q2), (.ref b10)])) rfl (by rw [hml]; rfl) (Steps.refl _) (argsL := [(.long q2), (.long (w0_1.toInt64)), (.long q3)]) (rest := []) (lenOf own_pd2 rfl) rfl (by show 2 * 0 + _ ≤ _; exact Nat.le_of_eq rfl) (hb hby at_80) (fun _ _ => ⟨rfl, eh18, (by decide : 1 + 0 ≤ _), (by decide : 1 + 0 ≤ _)⟩)
  dsimp only [Pt.U, Pt.locs, Pt.cells, Pt.slots] at X19 l19 y19 z19 st19 hQ19
  subst l19 y19 z19
  obtain ⟨rfl, N19q, eh19⟩ := hQ19
  have N19 := Fr.app N18 N19q
  refine own_pre (fun _ k => st19.trans k) ?_
  refine own_pre (A := T19.setTop (mkF m 89 #[iv p0, .val (.long q1), .second, .val (.long q2), .second, .val (.long q3), .second, iv w0_1, rv b10, iv w0_2, iv (f4 q2 q1 q3 w0_1), iv w0_3, iv w0_4, iv (f4 q2 (w0_1.toInt64) q3 w0_1)] [(.int w0_2), (.int (f4 q2 q1 q3 w0_1))])) (fun t k => ?_) ?_
  · show Steps p.tables e below (T19.setTop (mkF m 83 #[iv p0, .val (.long q1), .second, .val (.long q2), .second, .val (.long q3), .second, iv w0_1, rv b10, iv w0_2, iv (f4 q2 q1 q3 w0_1), iv w0_3, iv w0_4, .unset] [(.int (f4 q2 (w0_1.toInt64) q3 w0_1))])) _
    refine XS.istore X19.here hx rfl (hb hby at_83) rfl (l' := #[iv p0, .val (.long q1), .second, .val (.long q2), .second, .val (.long q3), .second, iv w0_1, rv b10, iv w0_2, iv (f4 q2 q1 q3 w0_1), iv w0_3, iv w0_4, iv (f4 q2 (w0_1.toInt64) q3 w0_1)]) rfl ?_
    show Steps p.tables e below (T19.setTop (mkF m 85 #[iv p0, .val (.long q1), .second, .val (.long q2), .second, .val (.long q3), .second, iv w0_1, rv b10, iv w0_2, iv (f4 q2 q1 q3 w0_1), iv w0_3, iv w0_4, iv (f4 q2 (w0_1.toInt64) q3 w0_1)] [])) _
    refine XS.iload X19.here hx rfl (hb hby at_85) rfl ?_
    show Steps p.tables e below (T19.setTop (mkF m 87 #[iv p0, .val (.long q1), .second, .val (.long q2), .second, .val (.long q3), .second, iv w0_1, rv b10, iv w0_2, iv (f4 q2 q1 q3 w0_1), iv w0_3, iv w0_4, iv (f4 q2 (w0_1.toInt64) q3 w0_1)] [(.int (f4 q2 q1 q3 w0_1))])) _
    refine XS.iload X19.here hx rfl (hb hby at_87) rfl ?_
    exact k
  obtain ⟨w0_5, hw0_5⟩ : ∃ z : Int32, z = (if w0_2 = (0:Int32) then (1:Int32) else (0:Int32)) := ⟨_, rfl⟩
  refine own_pre (A := T19.setTop (mkF m 97 #[iv p0, .val (.long q1), .second, .val (.long q2), .second, .val (.long q3), .second, iv w0_1, rv b10, iv w0_2, iv (f4 q2 q1 q3 w0_1), iv w0_3, iv w0_4, iv (f4 q2 (w0_1.toInt64) q3 w0_1)] [(.int w0_5), (.int (f4 q2 q1 q3 w0_1))])) (fun t k => ?_) ?_
  · show Steps p.tables e below (T19.setTop (mkF m 89 #[iv p0, .val (.long q1), .second, .val (.long q2), .second, .val (.long q3), .second, iv w0_1, rv b10, iv w0_2, iv (f4 q2 q1 q3 w0_1), iv w0_3, iv w0_4, iv (f4 q2 (w0_1.toInt64) q3 w0_1)] [(.int w0_2), (.int (f4 q2 q1 q3 w0_1))])) _
    by_cases hm89_2 : w0_2 = (0:Int32)
    · refine XS.ifNo X19.here hx rfl (hb hby at_89) rfl (XT.i0_ne_f hm89_2) ?_
      show Steps p.tables e below (T19.setTop (mkF m 92 #[iv p0, .val (.long q1), .second, .val (.long q2), .second, .val (.long q3), .second, iv w0_1, rv b10, iv w0_2, iv (f4 q2 q1 q3 w0_1), iv w0_3, iv w0_4, iv (f4 q2 (w0_1.toInt64) q3 w0_1)] [(.int (f4 q2 q1 q3 w0_1))])) _
      refine XS.iconst X19.here hx rfl (hb hby at_92) ?_
      show Steps p.tables e below (T19.setTop (mkF m 93 #[iv p0, .val (.long q1), .second, .val (.long q2), .second, .val (.long q3), .second, iv w0_1, rv b10, iv w0_2, iv (f4 q2 q1 q3 w0_1), iv w0_3, iv w0_4, iv (f4 q2 (w0_1.toInt64) q3 w0_1)] [(.int (1:Int32)), (.int (f4 q2 q1 q3 w0_1))])) _
      refine XS.goto X19.here hx rfl (pc0 := 93) (pc' := 97) rfl (hb hby at_93) (by decide) (by decide) ?_
      rw [hw0_5.trans (if_pos hm89_2)] at k
      exact k
    · refine XS.ifYes X19.here hx rfl (pc0 := 89) (pc' := 96) rfl (hb hby at_89) rfl (XT.i0_ne_t hm89_2) (by decide) (by decide) ?_
      show Steps p.tables e below (T19.setTop (mkF m 96 #[iv p0, .val (.long q1), .second, .val (.long q2), .second, .val (.long q3), .second, iv w0_1, rv b10, iv w0_2, iv (f4 q2 q1 q3 w0_1), iv w0_3, iv w0_4, iv (f4 q2 (w0_1.toInt64) q3 w0_1)] [(.int (f4 q2 q1 q3 w0_1))])) _
      refine XS.iconst X19.here hx rfl (hb hby at_96) ?_
      rw [hw0_5.trans (if_neg hm89_2)] at k
      exact k
  by_cases hs97_7 : (f4 q2 q1 q3 w0_1) = w0_5
  · refine own_pre (A := T19.setTop (mkF m 104 #[iv p0, .val (.long q1), .second, .val (.long q2), .second, .val (.long q3), .second, iv w0_1, rv b10, iv w0_2, iv (f4 q2 q1 q3 w0_1), iv w0_3, iv w0_4, iv (f4 q2 (w0_1.toInt64) q3 w0_1)] [(.int w0_3), (.int (f4 q2 q1 q3 w0_1))])) (fun t k => ?_) ?_
    · show Steps p.tables e below (T19.setTop (mkF m 97 #[iv p0, .val (.long q1), .second, .val (.long q2), .second, .val (.long q3), .second, iv w0_1, rv b10, iv w0_2, iv (f4 q2 q1 q3 w0_1), iv w0_3, iv w0_4, iv (f4 q2 (w0_1.toInt64) q3 w0_1)] [(.int w0_5), (.int (f4 q2 q1 q3 w0_1))])) _
      refine XS.icmpNo X19.here hx rfl (hb hby at_97) rfl (XT.ii_ne_f hs97_7) ?_
      show Steps p.tables e below (T19.setTop (mkF m 100 #[iv p0, .val (.long q1), .second, .val (.long q2), .second, .val (.long q3), .second, iv w0_1, rv b10, iv w0_2, iv (f4 q2 q1 q3 w0_1), iv w0_3, iv w0_4, iv (f4 q2 (w0_1.toInt64) q3 w0_1)] [])) _
      refine XS.iload X19.here hx rfl (hb hby at_100) rfl ?_
      show Steps p.tables e below (T19.setTop (mkF m 102 #[iv p0, .val (.long q1), .second, .val (.long q2), .second, .val (.long q3), .second, iv w0_1, rv b10, iv w0_2, iv (f4 q2 q1 q3 w0_1), iv w0_3, iv w0_4, iv (f4 q2 (w0_1.toInt64) q3 w0_1)] [(.int (f4 q2 q1 q3 w0_1))])) _
      refine XS.iload X19.here hx rfl (hb hby at_102) rfl ?_
      exact k
    by_cases hs104_11 : (f4 q2 q1 q3 w0_1) = w0_3
    · refine own_pre (A := T19.setTop (mkF m 109 #[iv p0, .val (.long q1), .second, .val (.long q2), .second, .val (.long q3), .second, iv w0_1, rv b10, iv w0_2, iv (f4 q2 q1 q3 w0_1), iv w0_3, iv w0_4, iv (f4 q2 (w0_1.toInt64) q3 w0_1)] [(.int w0_4)])) (fun t k => ?_) ?_
      · show Steps p.tables e below (T19.setTop (mkF m 104 #[iv p0, .val (.long q1), .second, .val (.long q2), .second, .val (.long q3), .second, iv w0_1, rv b10, iv w0_2, iv (f4 q2 q1 q3 w0_1), iv w0_3, iv w0_4, iv (f4 q2 (w0_1.toInt64) q3 w0_1)] [(.int w0_3), (.int (f4 q2 q1 q3 w0_1))])) _
        refine XS.icmpNo X19.here hx rfl (hb hby at_104) rfl (XT.ii_ne_f hs104_11) ?_
        show Steps p.tables e below (T19.setTop (mkF m 107 #[iv p0, .val (.long q1), .second, .val (.long q2), .second, .val (.long q3), .second, iv w0_1, rv b10, iv w0_2, iv (f4 q2 q1 q3 w0_1), iv w0_3, iv w0_4, iv (f4 q2 (w0_1.toInt64) q3 w0_1)] [])) _
        refine XS.iload X19.here hx rfl (hb hby at_107) rfl ?_
        exact k
      by_cases hs109_14 : w0_4 = (0:Int32)
      · refine own_pre (A := T19.setTop (mkF m 114 #[iv p0, .val (.long q1), .second, .val (.long q2), .second, .val (.long q3), .second, iv w0_1, rv b10, iv w0_2, iv (f4 q2 q1 q3 w0_1), iv w0_3, iv w0_4, iv (f4 q2 (w0_1.toInt64) q3 w0_1)] [(.int (f4 q2 (w0_1.toInt64) q3 w0_1))])) (fun t k => ?_) ?_
        · show Steps p.tables e below (T19.setTop (mkF m 109 #[iv p0, .val (.long q1), .second, .val (.long q2), .second, .val (.long q3), .second, iv w0_1, rv b10, iv w0_2, iv (f4 q2 q1 q3 w0_1), iv w0_3, iv w0_4, iv (f4 q2 (w0_1.toInt64) q3 w0_1)] [(.int w0_4)])) _
          refine XS.ifNo X19.here hx rfl (hb hby at_109) rfl (XT.i0_ne_f hs109_14) ?_
          show Steps p.tables e below (T19.setTop (mkF m 112 #[iv p0, .val (.long q1), .second, .val (.long q2), .second, .val (.long q3), .second, iv w0_1, rv b10, iv w0_2, iv (f4 q2 q1 q3 w0_1), iv w0_3, iv w0_4, iv (f4 q2 (w0_1.toInt64) q3 w0_1)] [])) _
          refine XS.iload X19.here hx rfl (hb hby at_112) rfl ?_
          exact k
        by_cases hs114_16 : (f4 q2 (w0_1.toInt64) q3 w0_1) = (0:Int32)
        · refine own_pre (A := T19.setTop (mkF m 132 #[iv p0, .val (.long q1), .second, .val (.long q2), .second, .val (.long q3), .second, iv w0_1, rv b10, iv w0_2, iv (f4 q2 q1 q3 w0_1), iv w0_3, iv w0_4, iv (f4 q2 (w0_1.toInt64) q3 w0_1)] [(.int (0:Int32))])) (fun t k => ?_) ?_
          · show Steps p.tables e below (T19.setTop (mkF m 114 #[iv p0, .val (.long q1), .second, .val (.long q2), .second, .val (.long q3), .second, iv w0_1, rv b10, iv w0_2, iv (f4 q2 q1 q3 w0_1), iv w0_3, iv w0_4, iv (f4 q2 (w0_1.toInt64) q3 w0_1)] [(.int (f4 q2 (w0_1.toInt64) q3 w0_1))])) _
            refine XS.ifYes X19.here hx rfl (pc0 := 114) (pc' := 131) rfl (hb hby at_114) rfl (XT.i0_eq_t hs114_16) (by decide) (by decide) ?_
            show Steps p.tables e below (T19.setTop (mkF m 131 #[iv p0, .val (.long q1), .second, .val (.long q2), .second, .val (.long q3), .second, iv w0_1, rv b10, iv w0_2, iv (f4 q2 q1 q3 w0_1), iv w0_3, iv w0_4, iv (f4 q2 (w0_1.toInt64) q3 w0_1)] [])) _
            refine XS.iconst X19.here hx rfl (hb hby at_131) ?_
            exact k
          have hv20 : (0:Int32) = f0 p0 q1 q2 q3 := by subst hw0_1 hw0_2 hw0_3 hw0_4 hw0_5; simp only [f0, if_pos hs97_7, if_pos hs104_11, if_pos hs109_14, if_pos hs114_16]
          exact own_end X19 (BodyLoose.notSynchronized Bd) (fun h => by rw [Bd.returns] at h; cases h) (v := some (.int (0:Int32))) (fun fs hr => retN X19 hx (t := .boolean) Bd.returns (by simp) (hb hby at_132) hr) (by show Q0 Z p0 q1 q2 q3 h0 n0 _ T19.heap _; rw [eh19]; exact ⟨(congrArg (fun z => some (Value.int z)) hv20), N19⟩) (by decide) (by decide)
        · refine own_pre (A := T19.setTop (mkF m 119 #[iv p0, .val (.long q1), .second, .val (.long q2), .second, .val (.long q3), .second, iv w0_1, rv b10, iv w0_2, iv (f4 q2 q1 q3 w0_1), iv w0_3, iv w0_4, iv (f4 q2 (w0_1.toInt64) q3 w0_1)] [(.ref b10)])) (fun t k => ?_) ?_
          · show Steps p.tables e below (T19.setTop (mkF m 114 #[iv p0, .val (.long q1), .second, .val (.long q2), .second, .val (.long q3), .second, iv w0_1, rv b10, iv w0_2, iv (f4 q2 q1 q3 w0_1), iv w0_3, iv w0_4, iv (f4 q2 (w0_1.toInt64) q3 w0_1)] [(.int (f4 q2 (w0_1.toInt64) q3 w0_1))])) _
            refine XS.ifNo X19.here hx rfl (hb hby at_114) rfl (XT.i0_eq_f hs114_16) ?_
            show Steps p.tables e below (T19.setTop (mkF m 117 #[iv p0, .val (.long q1), .second, .val (.long q2), .second, .val (.long q3), .second, iv w0_1, rv b10, iv w0_2, iv (f4 q2 q1 q3 w0_1), iv w0_3, iv w0_4, iv (f4 q2 (w0_1.toInt64) q3 w0_1)] [])) _
            refine XS.aload X19.here hx rfl (hb hby at_117) rfl rfl ?_
            exact k
          obtain ⟨cq21, kq21, q21a, q21b, q21c⟩ := isOf hZ eh19 F16
          obtain ⟨_, _, ⟨T21, L21, k21, n21⟩, -, X21, ⟨Lc21, hQ21, l21, y21, z21⟩, st21⟩ := X19.virtualBack hx (y := (⟨"com/example/lexrow/lexrow/model/GcRule$MaxVersions", "versions", "()I"⟩ : MethodName)) (z := (⟨"com/example/lexrow/lexrow/model/GcRule$MaxVersions", "versions", "()I"⟩ : MethodName)) hown (mvT hZ (own_h hw 21 rfl)) (mvT hZ (own_h hw 22 rfl)) (notFace_of_selects (args := #[]) (mvT hZ (own_h hw 24 rfl))) (mvT hZ (own_h hw 24 rfl)) (mvT hZ (own_h hw 23 rfl)) (by decide) (backOf (W := 0) (rm5 l Z aZ hw [] b10 w0_1 T12.heap n0 Z14 G13) hZ (own_h hw 25 rfl) (own_h hw 7 rfl) (by decide) (by decide)) q21a q21c (g := (mkF m 119 #[iv p0, .val (.long q1), .second, .val (.long q2), .second, .val (.long q3), .second, iv w0_1, rv b10, iv w0_2, iv (f4 q2 q1 q3 w0_1), iv w0_3, iv w0_4, iv (f4 q2 (w0_1.toInt64) q3 w0_1)] [(.ref b10)])) rfl (by rw [hml]; rfl) (Steps.refl _) (argsL := []) (rest := []) (lenOf own_pd3 rfl) rfl (by show 2 * 0 + _ ≤ _; exact Nat.le_of_eq rfl) (hb hby at_119) (fun _ _ => ⟨rfl, eh19, (by decide : 1 + 0 ≤ _), (by decide : 1 + 0 ≤ _)⟩)
          dsimp only [Pt.U, Pt.locs, Pt.cells, Pt.slots] at X21 l21 y21 z21 st21 hQ21
          subst l21 y21 z21
          obtain ⟨rfl, N21q, eh21⟩ := hQ21
          have N21 := Fr.app N19 N21q
          refine own_pre (fun _ k => st21.trans k) ?_
          refine own_pre (A := T21.setTop (mkF m 124 #[iv p0, .val (.long q1), .second, .val (.long q2), .second, .val (.long q3), .second, iv w0_1, rv b10, iv w0_2, iv (f4 q2 q1 q3 w0_1), iv w0_3, iv w0_4, iv (f4 q2 (w0_1.toInt64) q3 w0_1)] [(.int w0_1), (.int (f5 w0_1))])) (fun t k => ?_) ?_
          · show Steps p.tables e below (T21.setTop (mkF m 122 #[iv p0, .val (.long q1), .second, .val (.long q2), .second, .val (.long q3), .second, iv w0_1, rv b10, iv w0_2, iv (f4 q2 q1 q3 w0_1), iv w0_3, iv w0_4, iv (f4 q2 (w0_1.toInt64) q3 w0_1)] [(.int (f5 w0_1))])) _
            refine XS.iload X21.here hx rfl (hb hby at_122) rfl ?_
            exact k
          obtain ⟨w0_6, hw0_6⟩ : ∃ z : Int32, z = (if (f5 w0_1) = w0_1 then (1:Int32) else (0:Int32)) := ⟨_, rfl⟩
          refine own_pre (A := T21.setTop (mkF m 132 #[iv p0, .val (.long q1), .second, .val (.long q2), .second, .val (.long q3), .second, iv w0_1, rv b10, iv w0_2, iv (f4 q2 q1 q3 w0_1), iv w0_3, iv w0_4, iv (f4 q2 (w0_1.toInt64) q3 w0_1)] [(.int w0_6)])) (fun t k => ?_) ?_
          · show Steps p.tables e below (T21.setTop (mkF m 124 #[iv p0, .val (.long q1), .second, .val (.long q2), .second, .val (.long q3), .second, iv w0_1, rv b10, iv w0_2, iv (f4 q2 q1 q3 w0_1), iv w0_3, iv w0_4, iv (f4 q2 (w0_1.toInt64) q3 w0_1)] [(.int w0_1), (.int (f5 w0_1))])) _
            by_cases hm124_17 : (f5 w0_1) = w0_1
            · refine XS.icmpNo X21.here hx rfl (hb hby at_124) rfl (XT.ii_ne_f hm124_17) ?_
              show Steps p.tables e below (T21.setTop (mkF m 127 #[iv p0, .val (.long q1), .second, .val (.long q2), .second, .val (.long q3), .second, iv w0_1, rv b10, iv w0_2, iv (f4 q2 q1 q3 w0_1), iv w0_3, iv w0_4, iv (f4 q2 (w0_1.toInt64) q3 w0_1)] [])) _
              refine XS.iconst X21.here hx rfl (hb hby at_127) ?_
              show Steps p.tables e below (T21.setTop (mkF m 128 #[iv p0, .val (.long q1), .second, .val (.long q2), .second, .val (.long q3), .second, iv w0_1, rv b10, iv w0_2, iv (f4 q2 q1 q3 w0_1), iv w0_3, iv w0_4, iv (f4 q2 (w0_1.toInt64) q3 w0_1)] [(.int (1:Int32))])) _
              refine XS.goto X21.here hx rfl (pc0 := 128) (pc' := 132) rfl (hb hby at_128) (by decide) (by decide) ?_
              rw [hw0_6.trans (if_pos hm124_17)] at k
              exact k
            · refine XS.icmpYes X21.here hx rfl (pc0 := 124) (pc' := 131) rfl (hb hby at_124) rfl (XT.ii_ne_t hm124_17) (by decide) (by decide) ?_
              show Steps p.tables e below (T21.setTop (mkF m 131 #[iv p0, .val (.long q1), .second, .val (.long q2), .second, .val (.long q3), .second, iv w0_1, rv b10, iv w0_2, iv (f4 q2 q1 q3 w0_1), iv w0_3, iv w0_4, iv (f4 q2 (w0_1.toInt64) q3 w0_1)] [])) _
              refine XS.iconst X21.here hx rfl (hb hby at_131) ?_
              rw [hw0_6.trans (if_neg hm124_17)] at k
              exact k
          have hv22 : (w0_6 &&& 1) = f0 p0 q1 q2 q3 := by subst hw0_1 hw0_2 hw0_3 hw0_4 hw0_5 hw0_6; simp only [f0, if_pos hs97_7, if_pos hs104_11, if_pos hs109_14, if_neg hs114_16]
          exact own_end X21 (BodyLoose.notSynchronized Bd) (fun h => by rw [Bd.returns] at h; cases h) (v := some (.int (w0_6 &&& 1))) (fun fs hr => retN X21 hx (t := .boolean) Bd.returns (by simp) (hb hby at_132) hr) (by show Q0 Z p0 q1 q2 q3 h0 n0 _ T21.heap _; rw [eh21]; exact ⟨(congrArg (fun z => some (Value.int z)) hv22), N21⟩) (by decide) (by decide)
      · refine own_pre (A := T19.setTop (mkF m 132 #[iv p0, .val (.long q1), .second, .val (.long q2), .second, .val (.long q3), .second, iv w0_1, rv b10, iv w0_2, iv (f4 q2 q1 q3 w0_1), iv w0_3, iv w0_4, iv (f4 q2 (w0_1.toInt64) q3 w0_1)] [(.int (0:Int32))])) (fun t k => ?_) ?_
        · show Steps p.tables e below (T19.setTop (mkF m 109 #[iv p0, .val (.long q1), .second, .val (.long q2), .second, .val (.long q3), .second, iv w0_1, rv b10, iv w0_2, iv (f4 q2 q1 q3 w0_1), iv w0_3, iv w0_4, iv (f4 q2 (w0_1.toInt64) q3 w0_1)] [(.int w0_4)])) _
          refine XS.ifYes X19.here hx rfl (pc0 := 109) (pc' := 131) rfl (hb hby at_109) rfl (XT.i0_ne_t hs109_14) (by decide) (by decide) ?_
          show Steps p.tables e below (T19.setTop (mkF m 131 #[iv p0, .val (.long q1), .second, .val (.long q2), .second, .val (.long q3), .second, iv w0_1, rv b10, iv w0_2, iv (f4 q2 q1 q3 w0_1), iv w0_3, iv w0_4, iv (f4 q2 (w0_1.toInt64) q3 w0_1)] [])) _
          refine XS.iconst X19.here hx rfl (hb hby at_131) ?_
          exact k
        have hv23 : (0:Int32) = f0 p0 q1 q2 q3 := by subst hw0_1 hw0_2 hw0_3 hw0_4 hw0_5; simp only [f0, if_pos hs97_7, if_pos hs104_11, if_neg hs109_14]
        exact own_end X19 (BodyLoose.notSynchronized Bd) (fun h => by rw [Bd.returns] at h; cases h) (v := some (.int (0:Int32))) (fun fs hr => retN X19 hx (t := .boolean) Bd.returns (by simp) (hb hby at_132) hr) (by show Q0 Z p0 q1 q2 q3 h0 n0 _ T19.heap _; rw [eh19]; exact ⟨(congrArg (fun z => some (Value.int z)) hv23), N19⟩) (by decide) (by decide)
    · refine own_pre (A := T19.setTop (mkF m 132 #[iv p0, .val (.long q1), .second, .val (.long q2), .second, .val (.long q3), .second, iv w0_1, rv b10, iv w0_2, iv (f4 q2 q1 q3 w0_1), iv w0_3, iv w0_4, iv (f4 q2 (w0_1.toInt64) q3 w0_1)] [(.int (0:Int32))])) (fun t k => ?_) ?_
      · show Steps p.tables e below (T19.setTop (mkF m 104 #[iv p0, .val (.long q1), .second, .val (.long q2), .second, .val (.long q3), .second, iv w0_1, rv b10, iv w0_2, iv (f4 q2 q1 q3 w0_1), iv w0_3, iv w0_4, iv (f4 q2 (w0_1.toInt64) q3 w0_1)] [(.int w0_3), (.int (f4 q2 q1 q3 w0_1))])) _
        refine XS.icmpYes X19.here hx rfl (pc0 := 104) (pc' := 131) rfl (hb hby at_104) rfl (XT.ii_ne_t hs104_11) (by decide) (by decide) ?_
        show Steps p.tables e below (T19.setTop (mkF m 131 #[iv p0, .val (.long q1), .second, .val (.long q2), .second, .val (.long q3), .second, iv w0_1, rv b10, iv w0_2, iv (f4 q2 q1 q3 w0_1), iv w0_3, iv w0_4, iv (f4 q2 (w0_1.toInt64) q3 w0_1)] [])) _
        refine XS.iconst X19.here hx rfl (hb hby at_131) ?_
        exact k
      have hv24 : (0:Int32) = f0 p0 q1 q2 q3 := by subst hw0_1 hw0_2 hw0_3 hw0_4 hw0_5; simp only [f0, if_pos hs97_7, if_neg hs104_11]
      exact own_end X19 (BodyLoose.notSynchronized Bd) (fun h => by rw [Bd.returns] at h; cases h) (v := some (.int (0:Int32))) (fun fs hr => retN X19 hx (t := .boolean) Bd.returns (by simp) (hb hby at_132) hr) (by show Q0 Z p0 q1 q2 q3 h0 n0 _ T19.heap _; rw [eh19]; exact ⟨(congrArg (fun z => some (Value.int z)) hv24), N19⟩) (by decide) (by decide)
  · refine own_pre (A := T19.setTop (mkF m 132 #[iv p0, .val (.long q1), .second, .val (.long q2), .second, .val (.long q3), .second, iv w0_1, rv b10, iv w0_2, iv (f4 q2 q1 q3 w0_1), iv w0_3, iv w0_4, iv (f4 q2 (w0_1.toInt64) q3 w0_1)] [(.int (0:Int32))])) (fun t k => ?_) ?_
    · show Steps p.tables e below (T19.setTop (mkF m 97 #[iv p0, .val (.long q1), .second, .val (.long q2), .second, .val (.long q3), .second, iv w0_1, rv b10, iv w0_2, iv (f4 q2 q1 q3 w0_1), iv w0_3, iv w0_4, iv (f4 q2 (w0_1.toInt64) q3 w0_1)] [(.int w0_5), (.int (f4 q2 q1 q3 w0_1))])) _
      refine XS.icmpYes X19.here hx rfl (pc0 := 97) (pc' := 131) rfl (hb hby at_97) rfl (XT.ii_ne_t hs97_7) (by decide) (by decide) ?_
      show Steps p.tables e below (T19.setTop (mkF m 131 #[iv p0, .val (.long q1), .second, .val (.long q2), .second, .val (.long q3), .second, iv w0_1, rv b10, iv w0_2, iv (f4 q2 q1 q3 w0_1), iv w0_3, iv w0_4, iv (f4 q2 (w0_1.toInt64) q3 w0_1)] [])) _
      refine XS.iconst X19.here hx rfl (hb hby at_131) ?_
      exact k
    have hv25 : (0:Int32) = f0 p0 q1 q2 q3 := by subst hw0_1 hw0_2 hw0_3 hw0_4 hw0_5; simp only [f0, if_neg hs97_7]
    exact own_end X19 (BodyLoose.notSynchronized Bd) (fun h => by rw [Bd.returns] at h; cases h) (v := some (.int (0:Int32))) (fun fs hr => retN X19 hx (t := .boolean) Bd.returns (by simp) (hb hby at_132) hr) (by show Q0 Z p0 q1 q2 q3 h0 n0 _ T19.heap _; rw [eh19]; exact ⟨(congrArg (fun z => some (Value.int z)) hv25), N19⟩) (by decide) (by decide)
theorem own_plain (p0 : Int32) (q1 q2 q3 : Int64) : f0 p0 q1 q2 q3 = 1 := by
  simp only [f0]
  obtain ⟨w, hw⟩ : ∃ w : Int32, w = (f1 (1:Int32) (p0 &&& (2147483647:Int32))) := ⟨_, rfl⟩
  have h1 := own_n p0 w hw
  rw [← hw]
  have l1 : (1:Int64).toInt = 1 := by decide
  have l0 : (1:Int32).toInt = 1 := by decide
  have b1 := Int32.toInt_lt w
  have e1 : w.toInt64.toInt = w.toInt := Int32.toInt_toInt64 w
  have h2 : 1 ≤ w.toInt := by rw [Int32.lt_iff_toInt_lt, l0] at h1; omega
  have s1 : (w.toInt64 - 1).toInt = w.toInt - 1 := by rw [Jvm.Kit.i64_sub (by rw [e1, l1]; omega) (by rw [e1, l1]; omega), e1, l1]
  have c1 : w.toInt64 - 1 < w.toInt64 := by rw [Int64.lt_iff_toInt_lt, s1, e1]; omega
  have c2 : ¬ (w.toInt64 < w.toInt64) := by rw [Int64.lt_iff_toInt_lt]; omega
  have g : ∀ a b c : Int64, f4 a b c w = if b < w.toInt64 then 0 else 1 := by
    intro a b c; simp only [f4]; split <;> rfl
  simp only [g, if_pos c1, if_neg c2, f5]
  by_cases q : q1 < w.toInt64
  · simp [q]
  · simp [q]
set_option maxRecDepth 65536 in
set_option maxHeartbeats 40000000 in
theorem comes_1 {Post : Tables → Env → Array Value → State → Outcome → State → Prop} (hpost : ∀ tb e args s v u, (limb_1_1.after args s (.returned v) u = true ∧ limb_1_2.after args s (.returned v) u = true ∧ True) → FrameEnd s (.returned v) u (Jvm.fieldLocs frame_1_writes args s ++ Jvm.arrayLocs frame_1_arrays args s ++ Jvm.staticLocs frame_1_statics s) 16 128 → Post tb e args s (.returned v) u) :
    ArmFor flags0 classFile x code maxLocals ret World_1 tables_1 room_1 Calls_1 rest_1 Pre_1 Post := by
  intro l hfl _ _ p e ha hc hk s m args below hf hA hF happ hP
  obtain ⟨hcalls, hrest, hpre⟩ := hP
  obtain ⟨-, -, -, hnamed, -, -, -, hat⟩ := (Spec.applies_iff hf).mp happ
  obtain ⟨hg, hn⟩ := and_e (Cond.before_iff.mp (show (Jvm.Cond.and given_1 narrow_1).before args s = true from hpre))
  obtain ⟨g2, g3⟩ := and_e hg
  obtain ⟨g4, g5⟩ := and_e g3
  obtain ⟨g6, g7⟩ := and_e g5
  obtain ⟨g8, g9⟩ := and_e g7
  obtain ⟨w0, w1, w2, w3, rfl⟩ : ∃ w0 w1 w2 w3 : Value, args = #[w0, w1, w2, w3] := by
    have hs : args.size = 4 := by simpa [Cond.value, given_1] using g2
    obtain ⟨L⟩ := args
    match L, hs with
    | [w0, w1, w2, w3], _ => exact ⟨w0, w1, w2, w3, rfl⟩
  have hw := fun d (hd : d ∈ tables_1) => atoms_spec (ws := Jvm.Cond.code x code maxLocals ret :: tables_1) hat d (List.mem_cons_of_mem _ hd)
  obtain ⟨i0, ei0⟩ := is_v g4
  obtain rfl : w0 = (.int i0) := Option.some.inj ei0
  obtain ⟨i1, ei1⟩ := isL_v g6
  obtain rfl : w1 = (.long i1) := Option.some.inj ei1
  obtain ⟨i2, ei2⟩ := isL_v g8
  obtain rfl : w2 = (.long i2) := Option.some.inj ei2
  obtain ⟨i3, ei3⟩ := isL_v g9
  obtain rfl : w3 = (.long i3) := Option.some.inj ei3
  obtain ⟨n, o, h1, h2, h3, _, L, rfl, ⟨hv, N⟩, hq⟩ := rm0 l s _ hw tables_1 i0 i1 i2 i3 s.heap s.heap.size (Nat.le_refl _)  p e ha hc hk s m _ below hf ((Spec.applies_iff_loose hf).mp happ).1 ⟨rfl, State.Warmed39.refl s, rfl⟩ trivial
  rw [own_plain] at hv
  subst hv
  refine ⟨n, _, h1, h2, h3, hpost _ _ _ _ _ _ ⟨Cond.after_iff.mpr rfl, Cond.after_iff.mpr (eq_i res_at (Term.int_eval (1)) rfl), trivial⟩ ⟨hq.1, hq.2.1, (hq.2.2.sift fun y hy => Or.inr (N y hy)).mono (by decide) (by decide)⟩⟩
theorem main_1_1 : Claimed_1_1 := comes_1 fun _ _ _ _ _ _ h hF => ⟨h.1, hF⟩
theorem main_1_2 : Claimed_1_2 := comes_1 fun _ _ _ _ _ _ h hF => ⟨h.2.1, hF⟩
end Jvm.Pilot.@@N@@
namespace Jvm.Pilot.@@N@@
open Jvm Jvm.ClassFile Sem Op Lib Jvm.Free Jvm.Stand Jvm.Pilot.@@N@@.Jvm.D
/-! MADE BY PROGRAM (witnessworld.py) out of the Statement's table words and the real class files: 11 classes; the members and pool entries that the words name. The judged class is class 1, her method 1. -/
namespace start1
open Jvm.ClassFile
def u (s : String) : CpInfo := .utf8 (stringToUtf16 s)
/-- a pool by its gaps: so many unusable entries, then the entry; so many at the end -/
def gap : Nat → List CpInfo → List CpInfo
  | 0, r => r
  | n + 1, r => .unusable :: gap n r
def poolList (es : List (Nat × CpInfo)) (last : Nat) : List CpInfo := es.foldr (fun e r => gap e.1 (e.2 :: r)) (gap last [])
def pool (es : List (Nat × CpInfo)) (last : Nat) : Array CpInfo := ⟨poolList es last⟩
def fileOf (pool : Array CpInfo) (this : Nat) (attrs : Array Attribute := #[]) (ms : Array MethodInfo := #[]) (fl : Nat := 33) (sup : Nat := 0) (ifs : Array Nat := #[]) (fds : Array FieldInfo := #[]) : ClassFile where
  minorVersion := 0
  majorVersion := 65
  constantPool := pool
  accessFlags := fl
  thisClass := this
  superClass := sup
  interfaces := ifs
  fields := fds
  methods := ms
  attributes := attrs
def plain (name : String) (sup : Option ClassId) : Class where
  name := name
  kind := .ordinary
  loader := none
  accessFlags := 33
  super := sup
  interfaces := #[]
  cf := none
  fields := #[]
  methods := #[]
  instanceTypes := #[]
  staticTypes := #[]
  resolved := #[]
  callSites := []
  init := .initialized
  statics := none
  mirror := none

def pool0 : Array CpInfo := pool [(5, u "<init>"), (0, u "()V"), (1, .class_ 10), (1, u "java/lang/Object")] 113

def k0c0 : Code := { maxStack := 0, maxLocals := 1, code := object_method_1_code, exceptionTable := #[], attributes := #[] }
def k0m0 : Method := { name := "<init>", desc := "()V", sig := { parameters := [], returnType := none }, accessFlags := 1, code := some k0c0 }
/-- java/lang/Object -/
def k0 : Class := { plain "java/lang/Object" none with
  accessFlags := 33
  interfaces := #[]
  cf := some (fileOf pool0 8 #[] #[{ accessFlags := 1, nameIndex := 5, descriptorIndex := 6, attributes := #[] }] 33 0 #[] #[])
  fields := #[]
  methods := #[k0m0]
  instanceTypes := #[]
  staticTypes := #[]
  resolved := Array.replicate 124 none
  statics := none }

def pool1 : Array CpInfo := pool [(2, .class_ 4), (1, u "java/lang/Object"), (0, u "<init>"), (0, u "()V"), (0, .integer 2147483647), (0, .methodref 9 10), (0, .class_ 11), (0, .nameAndType 12 13), (0, u "java/lang/Math"), (0, u "max"), (0, u "(II)I"), (0, .class_ 15), (0, u "com/example/lexrow/lexrow/model/GcRule$MaxVersions"), (0, .methodref 14 17), (0, .nameAndType 5 18), (0, u "(I)V"), (0, .methodref 14 20), (0, .nameAndType 21 22), (0, u "collects"), (0, u "(JJJ)Z"), (0, .methodref 14 24), (0, .nameAndType 25 26), (0, u "versions"), (0, u "()I"), (0, .class_ 28), (0, u "com/example/lexrow/lexrow/model/MaxVersionsCollectsPinLaw"), (2, u "law"), (0, u "(IJJJ)Z")] 7

def k1m0 : Method := { name := "<init>", desc := "()V", sig := { parameters := [], returnType := none }, accessFlags := 1, code := none }
def k1c1 : Code := { maxStack := 7, maxLocals := 14, code := code, exceptionTable := #[], attributes := #[] }
def k1m1 : Method := { name := "law", desc := "(IJJJ)Z", sig := { parameters := [.int, .long, .long, .long], returnType := some .boolean }, accessFlags := 9, code := some k1c1 }
/-- com/example/lexrow/lexrow/model/MaxVersionsCollectsPinLaw -/
def k1 : Class := { plain "com/example/lexrow/lexrow/model/MaxVersionsCollectsPinLaw" (some 0) with
  accessFlags := 49
  interfaces := #[]
  cf := some (fileOf pool1 27 #[] #[{ accessFlags := 1, nameIndex := 5, descriptorIndex := 6, attributes := #[] }, { accessFlags := 9, nameIndex := 31, descriptorIndex := 32, attributes := #[] }] 49 2 #[] #[])
  fields := #[]
  methods := #[k1m0, k1m1]
  instanceTypes := #[]
  staticTypes := #[]
  resolved := Array.replicate 40 none
  statics := none }

def pool2 : Array CpInfo := pool [(1, .class_ 2), (0, u "java/lang/Math"), (1, .class_ 6), (1, u "java/lang/Object"), (0, u "<init>"), (0, u "()V"), (89, .class_ 100), (1, u "java/lang/Math$RandomNumberGeneratorHolder"), (71, u "negativeZeroFloatBits"), (0, u "J"), (2, u "negativeZeroDoubleBits"), (21, u "max"), (46, u "$assertionsDisabled"), (0, u "Z"), (88, u "(II)I"), (2, u "twoToTheDoubleScaleDown"), (0, u "D"), (4, u "twoToTheDoubleScaleUp"), (9, u "E"), (3, u "PI"), (2, u "TAU"), (2, u "DEGREES_TO_RADIANS"), (0, u "RADIANS_TO_DEGREES")] 94

def k2m0 : Method := { name := "<init>", desc := "()V", sig := { parameters := [], returnType := none }, accessFlags := 2, code := none }
def k2c1 : Code := { maxStack := 2, maxLocals := 2, code := jdk_29_method_65_code, exceptionTable := #[], attributes := #[] }
def k2m1 : Method := { name := "max", desc := "(II)I", sig := { parameters := [.int, .int], returnType := some .int }, accessFlags := 9, code := some k2c1 }
/-- java/lang/Math -/
def k2 : Class := { plain "java/lang/Math" (some 0) with
  accessFlags := 49
  interfaces := #[]
  cf := some (fileOf pool2 1 #[.nestMembers #[98]] #[{ accessFlags := 2, nameIndex := 7, descriptorIndex := 8, attributes := #[] }, { accessFlags := 9, nameIndex := 198, descriptorIndex := 335, attributes := #[] }] 49 4 #[] #[{ accessFlags := 25, nameIndex := 354, descriptorIndex := 339, attributes := #[] }, { accessFlags := 25, nameIndex := 358, descriptorIndex := 339, attributes := #[] }, { accessFlags := 25, nameIndex := 361, descriptorIndex := 339, attributes := #[] }, { accessFlags := 26, nameIndex := 364, descriptorIndex := 339, attributes := #[] }, { accessFlags := 26, nameIndex := 365, descriptorIndex := 339, attributes := #[] }, { accessFlags := 26, nameIndex := 172, descriptorIndex := 173, attributes := #[] }, { accessFlags := 26, nameIndex := 176, descriptorIndex := 173, attributes := #[] }, { accessFlags := 8, nameIndex := 344, descriptorIndex := 339, attributes := #[] }, { accessFlags := 8, nameIndex := 338, descriptorIndex := 339, attributes := #[] }, { accessFlags := 4120, nameIndex := 245, descriptorIndex := 246, attributes := #[] }])
  fields := #[{ name := "E", type := .double, accessFlags := 25, slot := 0, constantValue := 0 }, { name := "PI", type := .double, accessFlags := 25, slot := 1, constantValue := 0 }, { name := "TAU", type := .double, accessFlags := 25, slot := 2, constantValue := 0 }, { name := "DEGREES_TO_RADIANS", type := .double, accessFlags := 26, slot := 3, constantValue := 0 }, { name := "RADIANS_TO_DEGREES", type := .double, accessFlags := 26, slot := 4, constantValue := 0 }, { name := "negativeZeroFloatBits", type := .long, accessFlags := 26, slot := 5, constantValue := 0 }, { name := "negativeZeroDoubleBits", type := .long, accessFlags := 26, slot := 6, constantValue := 0 }, { name := "twoToTheDoubleScaleUp", type := .double, accessFlags := 8, slot := 7, constantValue := 0 }, { name := "twoToTheDoubleScaleDown", type := .double, accessFlags := 8, slot := 8, constantValue := 0 }, { name := "$assertionsDisabled", type := .boolean, accessFlags := 4120, slot := 9, constantValue := 0 }]
  methods := #[k2m0, k2m1]
  instanceTypes := #[]
  staticTypes := #[.double, .double, .double, .double, .double, .long, .long, .double, .double, .boolean]
  resolved := Array.replicate 460 none
  statics := none }

def pool3 : Array CpInfo := pool [(37, .class_ 38), (0, u "com/example/lexrow/lexrow/model/GcRule"), (0, .class_ 40), (0, u "com/example/lexrow/lexrow/model/GcRule$Union"), (3, u "I"), (0, .class_ 46), (0, u "com/example/lexrow/lexrow/model/GcRule$Intersection"), (9, .class_ 57), (0, u "com/example/lexrow/lexrow/model/GcRule$Never"), (5, u "NEVER"), (0, u "Lcom/example/lexrow/lexrow/model/GcRule;"), (0, .class_ 66), (0, u "java/lang/Object"), (0, u "MAX_NESTING"), (14, .class_ 83), (0, u "com/example/lexrow/lexrow/model/GcRule$MaxAge"), (0, .class_ 85), (0, u "com/example/lexrow/lexrow/model/GcRule$MaxVersions")] 21

/-- com/example/lexrow/lexrow/model/GcRule -/
def k3 : Class := { plain "com/example/lexrow/lexrow/model/GcRule" (some 0) with
  accessFlags := 1537
  interfaces := #[]
  cf := some (fileOf pool3 37 #[.nestMembers #[45, 39, 82, 84, 56]] #[] 1537 65 #[] #[{ accessFlags := 25, nameIndex := 63, descriptorIndex := 64, attributes := #[] }, { accessFlags := 25, nameIndex := 67, descriptorIndex := 44, attributes := #[] }])
  fields := #[{ name := "NEVER", type := (.object "com/example/lexrow/lexrow/model/GcRule"), accessFlags := 25, slot := 0, constantValue := 0 }, { name := "MAX_NESTING", type := .int, accessFlags := 25, slot := 1, constantValue := 0 }]
  methods := #[]
  instanceTypes := #[]
  staticTypes := #[(.object "com/example/lexrow/lexrow/model/GcRule"), .int]
  resolved := Array.replicate 107 none
  statics := none }

def pool4 : Array CpInfo := pool [(1, .methodref 2 3), (0, .class_ 4), (0, .nameAndType 5 6), (0, u "java/lang/Object"), (0, u "<init>"), (0, u "()V"), (9, .fieldref 17 18), (0, .class_ 19), (0, .nameAndType 20 21), (0, u "com/example/lexrow/lexrow/model/GcRule$MaxVersions"), (0, u "versions"), (0, u "I"), (1, .class_ 24), (0, u "com/example/lexrow/lexrow/model/GcRule"), (0, u "(I)V"), (3, u "()I"), (0, u "collects"), (0, u "(JJJ)Z")] 23

def k4c0 : Code := { maxStack := 3, maxLocals := 2, code := prog_15_method_1_code, exceptionTable := #[], attributes := #[] }
def k4m0 : Method := { name := "<init>", desc := "(I)V", sig := { parameters := [.int], returnType := none }, accessFlags := 1, code := some k4c0 }
def k4c1 : Code := { maxStack := 1, maxLocals := 1, code := prog_15_method_2_code, exceptionTable := #[], attributes := #[] }
def k4m1 : Method := { name := "versions", desc := "()I", sig := { parameters := [], returnType := some .int }, accessFlags := 1, code := some k4c1 }
def k4c2 : Code := { maxStack := 4, maxLocals := 7, code := prog_15_method_3_code, exceptionTable := #[], attributes := #[] }
def k4m2 : Method := { name := "collects", desc := "(JJJ)Z", sig := { parameters := [.long, .long, .long], returnType := some .boolean }, accessFlags := 1, code := some k4c2 }
/-- com/example/lexrow/lexrow/model/GcRule$MaxVersions -/
def k4 : Class := { plain "com/example/lexrow/lexrow/model/GcRule$MaxVersions" (some 0) with
  accessFlags := 49
  interfaces := #[3]
  cf := some (fileOf pool4 17 #[.nestHost 23] #[{ accessFlags := 1, nameIndex := 5, descriptorIndex := 25, attributes := #[] }, { accessFlags := 1, nameIndex := 20, descriptorIndex := 29, attributes := #[] }, { accessFlags := 1, nameIndex := 30, descriptorIndex := 31, attributes := #[] }] 49 2 #[23] #[{ accessFlags := 18, nameIndex := 20, descriptorIndex := 21, attributes := #[] }])
  fields := #[{ name := "versions", type := .int, accessFlags := 18, slot := 0, constantValue := 0 }]
  methods := #[k4m0, k4m1, k4m2]
  instanceTypes := #[.int]
  staticTypes := #[]
  resolved := Array.replicate 55 none
  statics := none }

def pool5 : Array CpInfo := pool [(1, u "java/lang/Cloneable"), (0, .class_ 1), (0, u "java/lang/Object"), (0, .class_ 3)] 3

/-- java/lang/Cloneable -/
def k5 : Class := { plain "java/lang/Cloneable" (some 0) with
  accessFlags := 1537
  interfaces := #[]
  cf := some (fileOf pool5 2 #[] #[] 1537 4 #[] #[])
  fields := #[]
  methods := #[]
  instanceTypes := #[]
  staticTypes := #[]
  resolved := Array.replicate 8 none
  statics := none }

def pool6 : Array CpInfo := pool [(1, u "java/io/Serializable"), (0, .class_ 1), (0, u "java/lang/Object"), (0, .class_ 3)] 3

/-- java/io/Serializable -/
def k6 : Class := { plain "java/io/Serializable" (some 0) with
  accessFlags := 1537
  interfaces := #[]
  cf := some (fileOf pool6 2 #[] #[] 1537 4 #[] #[])
  fields := #[]
  methods := #[]
  instanceTypes := #[]
  staticTypes := #[]
  resolved := Array.replicate 8 none
  statics := none }

/-- the primitive byte -/
def k7 : Class := { plain "byte" none with kind := .primitive 'B', accessFlags := 0x411 }
/-- [B -/
def k8 : Class := { plain "[B" (some 0) with kind := .array 7 .byte, interfaces := #[5, 6], accessFlags := 1041 }

/-- the primitive int -/
def k9 : Class := { plain "int" none with kind := .primitive 'I', accessFlags := 0x411 }
/-- [I -/
def k10 : Class := { plain "[I" (some 0) with kind := .array 9 .int, interfaces := #[5, 6], accessFlags := 1041 }

def heap : Heap := #[]
def classes : Array Class := #[k0, k1, k2, k3, k4, k5, k6, k7, k8, k9, k10]
def interned : List (Array UInt16 × Addr) := []
def slotsUsed : Nat := 0
def theMethod : MethodId := ⟨1, 1⟩
def args0 : Array Value := #[.int 5, .long 5, .long 5, .long 5]
def aboutOver (below : List Frame) : State where
  vm := { classes := classes, interned := interned.toArray }
  heap := heap
  slotsUsed := slotsUsed
  threads := #[{ frames := .invoking theMethod args0 :: below }]
def below0 : List Frame := [.native { method := ⟨0, 0⟩, args := #[] }]
def about1 : State := aboutOver below0
def p0 : Program := .bare "" "" ""
def e0 : Env := launch0.env 0 0 0
theorem w_frames : about1.frames = Frame.invoking theMethod args0 :: below0 := rfl
set_option maxRecDepth 65536 in
theorem w_args : argsFit about1.vm theMethod args0 = true := by decide +kernel
set_option maxRecDepth 65536 in
theorem w_heap : heapFits about1 = true := by decide +kernel
set_option maxRecDepth 65536 in
theorem w_runnable : about1.curStatus? = some .runnable := by decide +kernel
set_option maxRecDepth 65536 in
theorem w_alone : about1.alone = true := by decide +kernel
set_option maxRecDepth 65536 in
theorem w_named : about1.methodNamed? x = some theMethod := by decide +kernel
set_option maxRecDepth 65536 in
theorem w_hears : about1.hears theMethod below0 = true := by decide +kernel
set_option maxRecDepth 65536 in
theorem w_ripe : about1.ripe theMethod args0 below0 = true := by decide +kernel
theorem w_running : about1.status = .running := rfl
set_option maxRecDepth 65536 in
theorem w_room : about1.hasRoom e0.platform room_1 = true :=
  launch0.hasRoom_least _ room_1 (by decide +kernel) (by decide +kernel) (by decide +kernel) (by decide +kernel) (by decide +kernel) (by decide +kernel)
theorem allAtoms_all (ts : List Jvm.Cond) (a : Array Jvm.Value) (st : Jvm.State) : (allAtoms ts).before a st = ts.all (fun c => c.before a st) := by
  induction ts with
  | nil => rfl
  | cons c t ih =>
    show (Jvm.Cond.and c (allAtoms t)).before a st = _
    rw [Jvm.Cond.before_and, ih, List.all_cons]
def words1 : List Jvm.Cond := Jvm.Cond.code x code maxLocals ret :: tables_1
/-- a 'code' word, met by the world's own term for the bytes: nothing is compared byte by byte -/
theorem code_word {y : MethodName} {bytes : ByteArray} {mx : Nat} {rt : Option FieldType} {a : Array Value} {s : State} {m : MethodId} {meth : Method} {c : Code} (h1 : s.methodNamed? y = some m) (h2 : s.vm.method? m = some meth) (h3 : meth.code = some c) (h4 : c.code = bytes)
    (h5 : (c.maxLocals == mx && c.exceptionTable.isEmpty && decide (c.maxStack ≤ mostOperands) && decide (meth.sig.returnType = rt) && !meth.locks && decide (parseMethodDescriptor y.desc = some meth.sig)) = true) : (Jvm.Cond.code y bytes mx rt).before a s = true := by
  simp only [Bool.and_eq_true, beq_iff_eq, Bool.not_eq_true', decide_eq_true_eq] at h5
  obtain ⟨⟨⟨⟨⟨g1, g2⟩, g3⟩, g4⟩, g5⟩, g6⟩ := h5
  simp [Cond.before, Cond.holds, Cond.value, h1, h2, h3, h4, g1, g2, g3, g4, g5, g6]
def isCode : Jvm.Cond → Bool
  | .code _ _ _ _ => true
  | _ => false
theorem all_split {L : List Jvm.Cond} {P : Jvm.Cond → Bool} (h1 : L.all (fun c => isCode c || P c) = true) (h2 : ∀ c ∈ L.filter isCode, P c = true) : L.all P = true := by
  refine List.all_eq_true.mpr fun c hc => ?_
  have h := List.all_eq_true.mp h1 c hc
  rcases Bool.eq_false_or_eq_true (isCode c) with hi | hi
  · exact h2 c (List.mem_filter.mpr ⟨hc, hi⟩)
  · simpa [hi] using h
set_option maxRecDepth 65536 in
theorem w_c0 : (Jvm.Cond.code x code maxLocals ret).before args0 about1 = true := code_word (m := ⟨1, 1⟩) (meth := k1m1) (c := k1c1) (by decide +kernel) rfl rfl rfl (by decide +kernel)
set_option maxRecDepth 65536 in
theorem w_c1 : (Jvm.Cond.code ({ cls := "java/lang/Math", name := "max", desc := "(II)I" } : Jvm.MethodName) jdk_29_method_65_code (2 : Nat) (Option.some Jvm.ClassFile.FieldType.int)).before args0 about1 = true := code_word (m := ⟨2, 1⟩) (meth := k2m1) (c := k2c1) (by decide +kernel) rfl rfl rfl (by decide +kernel)
set_option maxRecDepth 65536 in
theorem w_c2 : (Jvm.Cond.code ({ cls := "com/example/lexrow/lexrow/model/GcRule$MaxVersions", name := "<init>", desc := "(I)V" } : Jvm.MethodName) prog_15_method_1_code (2 : Nat) (Option.none : Option Jvm.ClassFile.FieldType)).before args0 about1 = true := code_word (m := ⟨4, 0⟩) (meth := k4m0) (c := k4c0) (by decide +kernel) rfl rfl rfl (by decide +kernel)
set_option maxRecDepth 65536 in
theorem w_c3 : (Jvm.Cond.code ({ cls := "java/lang/Object", name := "<init>", desc := "()V" } : Jvm.MethodName) object_method_1_code (1 : Nat) (Option.none : Option Jvm.ClassFile.FieldType)).before args0 about1 = true := code_word (m := ⟨0, 0⟩) (meth := k0m0) (c := k0c0) (by decide +kernel) rfl rfl rfl (by decide +kernel)
set_option maxRecDepth 65536 in
theorem w_c4 : (Jvm.Cond.code ({ cls := "com/example/lexrow/lexrow/model/GcRule$MaxVersions", name := "collects", desc := "(JJJ)Z" } : Jvm.MethodName) prog_15_method_3_code (7 : Nat) (Option.some Jvm.ClassFile.FieldType.boolean)).before args0 about1 = true := code_word (m := ⟨4, 2⟩) (meth := k4m2) (c := k4c2) (by decide +kernel) rfl rfl rfl (by decide +kernel)
set_option maxRecDepth 65536 in
theorem w_c5 : (Jvm.Cond.code ({ cls := "com/example/lexrow/lexrow/model/GcRule$MaxVersions", name := "versions", desc := "()I" } : Jvm.MethodName) prog_15_method_2_code (1 : Nat) (Option.some Jvm.ClassFile.FieldType.int)).before args0 about1 = true := code_word (m := ⟨4, 1⟩) (meth := k4m1) (c := k4c1) (by decide +kernel) rfl rfl rfl (by decide +kernel)
def codes1 : List Jvm.Cond := [Jvm.Cond.code x code maxLocals ret, Jvm.Cond.code ({ cls := "java/lang/Math", name := "max", desc := "(II)I" } : Jvm.MethodName) jdk_29_method_65_code (2 : Nat) (Option.some Jvm.ClassFile.FieldType.int), Jvm.Cond.code ({ cls := "com/example/lexrow/lexrow/model/GcRule$MaxVersions", name := "<init>", desc := "(I)V" } : Jvm.MethodName) prog_15_method_1_code (2 : Nat) (Option.none : Option Jvm.ClassFile.FieldType), Jvm.Cond.code ({ cls := "java/lang/Object", name := "<init>", desc := "()V" } : Jvm.MethodName) object_method_1_code (1 : Nat) (Option.none : Option Jvm.ClassFile.FieldType), Jvm.Cond.code ({ cls := "com/example/lexrow/lexrow/model/GcRule$MaxVersions", name := "collects", desc := "(JJJ)Z" } : Jvm.MethodName) prog_15_method_3_code (7 : Nat) (Option.some Jvm.ClassFile.FieldType.boolean), Jvm.Cond.code ({ cls := "com/example/lexrow/lexrow/model/GcRule$MaxVersions", name := "versions", desc := "()I" } : Jvm.MethodName) prog_15_method_2_code (1 : Nat) (Option.some Jvm.ClassFile.FieldType.int)]
set_option maxRecDepth 65536 in
theorem codes_eq : words1.filter isCode = codes1 := rfl
theorem w_codes : ∀ c ∈ words1.filter isCode, c.before args0 about1 = true := by
  rw [codes_eq]
  intro c hc
  simp only [codes1, List.mem_cons, List.not_mem_nil, or_false] at hc
  rcases hc with rfl | rfl | rfl | rfl | rfl | rfl
  · exact w_c0
  · exact w_c1
  · exact w_c2
  · exact w_c3
  · exact w_c4
  · exact w_c5
set_option maxRecDepth 65536 in
theorem w_t1 : (words1.take 24).all (fun c => isCode c || c.before args0 about1) = true := by decide +kernel
set_option maxRecDepth 65536 in
theorem w_t2 : (words1.drop 24).all (fun c => isCode c || c.before args0 about1) = true := by decide +kernel
theorem w_tables : (allAtoms (Jvm.Cond.code x code maxLocals ret :: tables_1)).before args0 about1 = true := by
  rw [allAtoms_all]
  show words1.all (fun c => c.before args0 about1) = true
  refine all_split ?_ w_codes
  rw [← List.take_append_drop 24 words1, List.all_append, w_t1, w_t2]
  rfl
set_option maxRecDepth 65536 in
theorem w_case : (Jvm.Cond.and given_1 narrow_1).before args0 about1 = true := by decide +kernel
theorem w_applies : (headSpec (Jvm.Cond.code x code maxLocals ret :: tables_1) room_1).applies x e0.platform about1 = true :=
  (Spec.applies_iff w_frames).mpr ⟨w_running, w_runnable, w_alone, w_named, w_hears, w_ripe, w_room, w_tables⟩
theorem atStart : AtStart classFile x code maxLocals ret World_1 tables_1 room_1 Calls_1 rest_1 Pre_1 launch0 p0 e0 about1 theMethod args0 below0 :=
  ⟨lists_1, trivial, launch0.admits_env _ _ _, launch0.least_env, fairChoices_fair.cas, fairChoices_fair.clock, w_frames, w_args, w_heap, w_applies, trivial, trivial, w_case⟩
end start1
theorem witness_1 : WitnessClaimed_1 := ⟨start1.p0, start1.e0, start1.about1, start1.theMethod, start1.args0, start1.below0, start1.atStart⟩
end Jvm.Pilot.@@N@@
