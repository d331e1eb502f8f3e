import JvmDerived
import JvmDerived.Pilot.@@N@@Statement
import JvmDerived.Pilot.@@N@@Code
set_option linter.unusedVariables false
set_option linter.unusedSimpArgs false
@@BLOCK:NumsL.lean.txt@@
namespace Jvm.Pilot.@@N@@
open Jvm Jvm.ClassFile Sem Op Lib Jvm.Free Jvm.Stand Jvm.LawKit Jvm.RoadKit Bundle Jvm.Pilot.@@N@@.Jvm.D
def own_Goes (p : Program) (e : Env) (below : List Frame) (s : State) (Q : Option Value → Heap → List Loc → Prop) (ce sl : Nat) (A : State) : Prop :=
  ∃ s₂ o, Steps p.tables e below A s₂ ∧ s₂.status = .running ∧ Ended s₂ below o ∧ ∃ v L, o = .returned v ∧ Q v s₂.heap L ∧ FrameEnd s o s₂ L ce sl
theorem own_pre {p : Program} {e : Env} {below : List Frame} {s : State} {Q : Option Value → Heap → List Loc → Prop} {ce sl : Nat} {A B : State} (h : ∀ t, Steps p.tables e below A t → Steps p.tables e below B t) (G : own_Goes p e below s Q ce sl A) : own_Goes p e below s Q ce sl B := by
  obtain ⟨s₂, o, h1, r⟩ := G
  exact ⟨s₂, o, h _ h1, r⟩
theorem own_end {p : Program} {l : Launch} {e : Env} {R : Room} {s : State} {m : MethodId} {args : Array Value} {below : List Frame} {meth : Method} {c : Code} {T : State} {locs : List Loc} {cells slots : Nat} (X : Stand p l e R s m args below meth c T locs cells slots)
    {v : Option Value} {Q : Option Value → Heap → List Loc → Prop} {ce sl : Nat} {A : State} (hlocks : meth.locks = false) (hv : meth.sig.returnType = none → v = none)
    (hstep : ∀ fs, (∀ (f : JFrame) (acts : List Action), f.method = m → f.locked = none → f.entered = [] → (doReturn e (T.setTop f) acts v).1 = T.setFrames fs) → Steps p.tables e below A (T.setFrames fs))
    (hQ : Q v T.heap locs) (hc : cells ≤ ce) (hs : slots ≤ sl) : own_Goes p e below s Q ce sl A := by
  obtain ⟨fs, hr, hrun, hended, hW, hsame⟩ := X.leave hv hlocks
  exact ⟨_, _, hstep fs hr, hrun, hended, _, _, rfl, hQ, ⟨_, rfl⟩, hW, hsame.mono hc hs⟩
theorem own_lrem_eq (x y : Int64) : x - (x / y) * y = x % y := Int64.toInt_inj.mp (by rw [Jvm.Kit.i64_rem, Int64.toInt_mod])
theorem own_lrem {tb : Tables} [Ours tb] {e : Env} {below : List Frame} {T target : State} {m : MethodId} {c : Code} {g : JFrame} (h : At T m c below) (hx : tb.exec = Jvm.exec) (hg : g.method = m) {x y : Int64} {rest : List Value} (hd : decode c.code g.pc = .ok (.lrem, 1)) (hs : g.stack = .long y :: .long x :: rest) (hy : y ≠ 0)
    (hr : Steps tb e below (T.setTop { g with pc := g.pc + 1, stack := .long (x % y) :: rest }) target) : Steps tb e below (T.setTop g) target :=
  XS.lrem h hx hg hd hs hy (by rw [own_lrem_eq]; exact hr)
theorem own_h {a0 : Array Value} {Z : State} {L : List Jvm.Cond} (hw : ∀ d ∈ L, d.before a0 Z = true) (i : Nat) {d : Jvm.Cond} (h : L[i]? = some d) : d.before a0 Z = true := hw _ (List.mem_of_getElem? h)
theorem own_pn0 : plainName "com/example/nestor/nestor/negotiation/Side" = true := by first | (simp [plainName, overriddenIn]; done) | decide +kernel
theorem d1_0 : decode prog_42_method_5_code 0 = .ok (.aload_n 0, 1) := by decide +kernel
theorem d1_1 : decode prog_42_method_5_code 1 = .ok (.getstatic 3, 3) := by decide +kernel
theorem d1_4 : decode prog_42_method_5_code 4 = .ok (.if_acmp .ne 9, 3) := by decide +kernel
theorem d1_7 : decode prog_42_method_5_code 7 = .ok (.getstatic 7, 3) := by decide +kernel
theorem d1_10 : decode prog_42_method_5_code 10 = .ok (.goto 6, 3) := by decide +kernel
theorem d1_16 : decode prog_42_method_5_code 16 = .ok (.areturn, 1) := by decide +kernel
theorem ef1r (m : MethodId) (rq : Addr) : entryFrame m #[(.ref rq)] 1 = mkF m 0 #[rv rq] [] := by first | (simp [entryFrame, mkF, argsToLocals, Value.category]; done) | rfl
def Q1r (Z : State) (rq : Addr) (ct : Addr) (h0 : Heap) (n0 : Nat) (v : Option Value) (h : Heap) (L : List Loc) : Prop := v = some (.ref ct) ∧ Fr n0 L ∧ h = h0
set_option maxRecDepth 65536 in
set_option maxHeartbeats 40000000 in
theorem rm1r (l : Launch) (Z : State) (aZ : Array Value) (hw : ∀ d ∈ tables_1, d.before aZ Z = true) (ws : List Jvm.Cond) (rq : Addr) (ct : Addr) (h0 : Heap) (n0 : Nat) (Z0 : n0 ≤ h0.size) (P0 : Sta Z h0 "com/example/nestor/nestor/negotiation/Side" "REQUESTER" "Lcom/example/nestor/nestor/negotiation/Side;" (.ref rq)) (P1 : Sta Z h0 "com/example/nestor/nestor/negotiation/Side" "CONTROLLER" "Lcom/example/nestor/nestor/negotiation/Side;" (.ref ct)) :
    MetFree l (⟨"com/example/nestor/nestor/negotiation/Side", "other", "()Lcom/example/nestor/nestor/negotiation/Side;"⟩ : MethodName) (head1 (Jvm.Cond.code (⟨"com/example/nestor/nestor/negotiation/Side", "other", "()Lcom/example/nestor/nestor/negotiation/Side;"⟩ : MethodName) prog_42_method_5_code 1 (some (.object "com/example/nestor/nestor/negotiation/Side")) :: ws) ({ frames := 0, cells := 0, slots := 0, locals := 0 } : Room)) (fun a U => a = #[(.ref rq)] ∧ Z.Warmed39 U.vm ∧ U.heap = h0) (fun _ _ _ _ _ => True) (fun _ U o U' => ∃ v L, o = .returned v ∧ Q1r Z rq ct h0 n0 v U'.heap L ∧ FrameEnd U o U' L ({ frames := 0, cells := 0, slots := 0, locals := 0 } : Room).cells ({ frames := 0, cells := 0, slots := 0, locals := 0 } : Room).slots) := by
  refine MetFree.of_bodySF (plainFor_of_name own_pn0) hisR ?_
  intro p e s m args below meth c s₁ Bd hml0 hP hK
  obtain ⟨rfl, hZ, hh⟩ := hP
  have hx := Bd.exec
  have hby := Bd.bytes
  have hml : c.maxLocals = 1 := hml0
  have hown : s.vm.findClass "com/example/nestor/nestor/negotiation/Side" = some m.cls := findClass_of_methodNamed Bd.named
  have hnm := (name_of_methodNamed Bd.named Bd.method).1
  have X0 : Stand p l e ({ frames := 0, cells := 0, slots := 0, locals := 0 } : Room) s m #[(.ref rq)] below meth c s₁ [] 0 0 := Stand.of_body Bd
  have e0 : s₁.heap = h0 := by rw [← hh, Bd.state]; rfl
  have N0 := Fr.nil n0
  show own_Goes p e below s (Q1r Z rq ct h0 n0) ({ frames := 0, cells := 0, slots := 0, locals := 0 } : Room).cells ({ frames := 0, cells := 0, slots := 0, locals := 0 } : Room).slots _
  refine own_pre (fun t k => castTop (ef1r m rq) k) ?_
  refine own_pre (A := s₁.setTop (mkF m 1 #[rv rq] [(.ref rq)])) (fun t k => ?_) ?_
  · show Steps p.tables e below (s₁.setTop (mkF m 0 #[rv rq] [])) _
    refine XS.aloadN X0.here hx rfl (hb hby d1_0) rfl rfl ?_
    exact k
  obtain ⟨T1, X1, e1, st1⟩ := getS2 X0 hx hZ hown (host := "") (Or.inl (own_h hw 10 rfl)) Via.refl e0 P0 (g := (mkF m 1 #[rv rq] [(.ref rq)])) rfl (hb hby d1_1)
  refine own_pre st1 ?_
  refine own_pre (A := T1.setTop (mkF m 7 #[rv rq] [])) (fun t k => ?_) ?_
  · show Steps p.tables e below (T1.setTop (mkF m 4 #[rv rq] [(.ref rq), (.ref rq)])) _
    refine Jvm.RoadKit.acmp (g := (mkF m 4 #[rv rq] [(.ref rq), (.ref rq)])) X1 hx rfl rfl rfl (pc0 := 4) (pc' := 7) (same := true) rfl (hb hby d1_4) rfl (decide_eq_true rfl) (by decide) (by decide) ?_
    exact k
  obtain ⟨T2, X2, e2, st2⟩ := getS2 X1 hx hZ hown (host := "") (Or.inl (own_h hw 11 rfl)) Via.refl e1 P1 (g := (mkF m 7 #[rv rq] [])) rfl (hb hby d1_7)
  refine own_pre st2 ?_
  refine own_pre (A := T2.setTop (mkF m 16 #[rv rq] [(.ref ct)])) (fun t k => ?_) ?_
  · show Steps p.tables e below (T2.setTop (mkF m 10 #[rv rq] [(.ref ct)])) _
    refine XS.goto X2.here hx rfl (pc0 := 10) (pc' := 16) rfl (hb hby d1_10) (by decide) (by decide) ?_
    exact k
  exact own_end X2 (BodyLoose.notSynchronized Bd) (fun h => by rw [Bd.returns] at h; cases h) (v := some (.ref ct)) (fun fs hr => retOut X2 hx Bd.returns rfl (by simp [Value.isRef, FieldType.isReference]) (hb hby d1_16) hr) (by show Q1r Z rq ct h0 n0 _ T2.heap _; rw [e2]; exact ⟨rfl, N0, rfl⟩) (by decide) (by decide)
theorem d1_13 : decode prog_42_method_5_code 13 = .ok (.getstatic 3, 3) := by decide +kernel
theorem ef1c (m : MethodId) (ct : Addr) : entryFrame m #[(.ref ct)] 1 = mkF m 0 #[rv ct] [] := by first | (simp [entryFrame, mkF, argsToLocals, Value.category]; done) | rfl
def Q1c (Z : State) (ct : Addr) (rq : Addr) (h0 : Heap) (n0 : Nat) (v : Option Value) (h : Heap) (L : List Loc) : Prop := v = some (.ref rq) ∧ Fr n0 L ∧ h = h0
set_option maxRecDepth 65536 in
set_option maxHeartbeats 40000000 in
theorem rm1c (l : Launch) (Z : State) (aZ : Array Value) (hw : ∀ d ∈ tables_1, d.before aZ Z = true) (ws : List Jvm.Cond) (ct : Addr) (rq : Addr) (h0 : Heap) (n0 : Nat) (Z0 : n0 ≤ h0.size) (P0 : Sta Z h0 "com/example/nestor/nestor/negotiation/Side" "REQUESTER" "Lcom/example/nestor/nestor/negotiation/Side;" (.ref rq)) (P1 : Sta Z h0 "com/example/nestor/nestor/negotiation/Side" "CONTROLLER" "Lcom/example/nestor/nestor/negotiation/Side;" (.ref ct)) (nq_ct_rq : ct ≠ rq) :
    MetFree l (⟨"com/example/nestor/nestor/negotiation/Side", "other", "()Lcom/example/nestor/nestor/negotiation/Side;"⟩ : MethodName) (head1 (Jvm.Cond.code (⟨"com/example/nestor/nestor/negotiation/Side", "other", "()Lcom/example/nestor/nestor/negotiation/Side;"⟩ : MethodName) prog_42_method_5_code 1 (some (.object "com/example/nestor/nestor/negotiation/Side")) :: ws) ({ frames := 0, cells := 0, slots := 0, locals := 0 } : Room)) (fun a U => a = #[(.ref ct)] ∧ Z.Warmed39 U.vm ∧ U.heap = h0) (fun _ _ _ _ _ => True) (fun _ U o U' => ∃ v L, o = .returned v ∧ Q1c Z ct rq h0 n0 v U'.heap L ∧ FrameEnd U o U' L ({ frames := 0, cells := 0, slots := 0, locals := 0 } : Room).cells ({ frames := 0, cells := 0, slots := 0, locals := 0 } : Room).slots) := by
  refine MetFree.of_bodySF (plainFor_of_name own_pn0) hisR ?_
  intro p e s m args below meth c s₁ Bd hml0 hP hK
  obtain ⟨rfl, hZ, hh⟩ := hP
  have hx := Bd.exec
  have hby := Bd.bytes
  have hml : c.maxLocals = 1 := hml0
  have hown : s.vm.findClass "com/example/nestor/nestor/negotiation/Side" = some m.cls := findClass_of_methodNamed Bd.named
  have hnm := (name_of_methodNamed Bd.named Bd.method).1
  have X0 : Stand p l e ({ frames := 0, cells := 0, slots := 0, locals := 0 } : Room) s m #[(.ref ct)] below meth c s₁ [] 0 0 := Stand.of_body Bd
  have e0 : s₁.heap = h0 := by rw [← hh, Bd.state]; rfl
  have N0 := Fr.nil n0
  show own_Goes p e below s (Q1c Z ct rq h0 n0) ({ frames := 0, cells := 0, slots := 0, locals := 0 } : Room).cells ({ frames := 0, cells := 0, slots := 0, locals := 0 } : Room).slots _
  refine own_pre (fun t k => castTop (ef1c m ct) k) ?_
  refine own_pre (A := s₁.setTop (mkF m 1 #[rv ct] [(.ref ct)])) (fun t k => ?_) ?_
  · show Steps p.tables e below (s₁.setTop (mkF m 0 #[rv ct] [])) _
    refine XS.aloadN X0.here hx rfl (hb hby d1_0) rfl rfl ?_
    exact k
  obtain ⟨T3, X3, e3, st3⟩ := getS2 X0 hx hZ hown (host := "") (Or.inl (own_h hw 10 rfl)) Via.refl e0 P0 (g := (mkF m 1 #[rv ct] [(.ref ct)])) rfl (hb hby d1_1)
  refine own_pre st3 ?_
  refine own_pre (A := T3.setTop (mkF m 13 #[rv ct] [])) (fun t k => ?_) ?_
  · show Steps p.tables e below (T3.setTop (mkF m 4 #[rv ct] [(.ref rq), (.ref ct)])) _
    refine Jvm.RoadKit.acmp (g := (mkF m 4 #[rv ct] [(.ref rq), (.ref ct)])) X3 hx rfl rfl rfl (pc0 := 4) (pc' := 13) (same := false) rfl (hb hby d1_4) rfl (decide_eq_false fun q => nq_ct_rq (Value.ref.inj q)) (by decide) (by decide) ?_
    exact k
  obtain ⟨T4, X4, e4, st4⟩ := getS2 X3 hx hZ hown (host := "") (Or.inl (own_h hw 10 rfl)) Via.refl e3 P0 (g := (mkF m 13 #[rv ct] [])) rfl (hb hby d1_13)
  refine own_pre st4 ?_
  exact own_end X4 (BodyLoose.notSynchronized Bd) (fun h => by rw [Bd.returns] at h; cases h) (v := some (.ref rq)) (fun fs hr => retOut X4 hx Bd.returns rfl (by simp [Value.isRef, FieldType.isReference]) (hb hby d1_16) hr) (by show Q1c Z ct rq h0 n0 _ T4.heap _; rw [e4]; exact ⟨rfl, N0, rfl⟩) (by decide) (by decide)
theorem own_pn1 : plainName "com/example/nestor/nestor/negotiation/SideOtherPinLaw" = true := by first | (simp [plainName, overriddenIn]; done) | decide +kernel
theorem own_pd0 : parseMethodDescriptor "()Lcom/example/nestor/nestor/negotiation/Side;" = some ⟨[], some (.object "com/example/nestor/nestor/negotiation/Side")⟩ := by decide +kernel
theorem ef0 (m : MethodId) (p0 : Int32) : entryFrame m #[(.int p0)] maxLocals = mkF m 0 #[iv p0, .unset, .unset, .unset, .unset] [] := by first | (simp [entryFrame, mkF, argsToLocals, Value.category, maxLocals]; done) | rfl
def Q0 (Z : State) (p0 : Int32) (rq : Addr) (ct : Addr) (h0 : Heap) (n0 : Nat) (v : Option Value) (h : Heap) (L : List Loc) : Prop := v = some (.int (1:Int32)) ∧ Fr n0 L
set_option maxRecDepth 65536 in
set_option maxHeartbeats 40000000 in
theorem rm0 (l : Launch) (Z : State) (aZ : Array Value) (hw : ∀ d ∈ tables_1, d.before aZ Z = true) (ws : List Jvm.Cond) (p0 : Int32) (rq : Addr) (ct : Addr) (h0 : Heap) (n0 : Nat) (Z0 : n0 ≤ h0.size) (P0 : Sta Z h0 "com/example/nestor/nestor/negotiation/Side" "REQUESTER" "Lcom/example/nestor/nestor/negotiation/Side;" (.ref rq)) (P1 : Sta Z h0 "com/example/nestor/nestor/negotiation/Side" "CONTROLLER" "Lcom/example/nestor/nestor/negotiation/Side;" (.ref ct)) (P2 : Exa Z h0 rq "com/example/nestor/nestor/negotiation/Side") (P3 : Exa Z h0 ct "com/example/nestor/nestor/negotiation/Side") (nq_rq_ct : rq ≠ ct) :
    MetFree l x (head1 (Jvm.Cond.code x code maxLocals ret :: ws) room_1) (fun a U => a = #[(.int p0)] ∧ Z.Warmed39 U.vm ∧ U.heap = h0) (fun _ _ _ _ _ => True) (fun _ U o U' => ∃ v L, o = .returned v ∧ Q0 Z p0 rq ct h0 n0 v U'.heap L ∧ FrameEnd U o U' L 0 0) := by
  refine MetFree.of_bodySF (plainFor_of_name own_pn1) hisR ?_
  intro p e s m args below meth c s₁ Bd hml0 hP hK
  obtain ⟨rfl, hZ, hh⟩ := hP
  have hx := Bd.exec
  have hby := Bd.bytes
  have hml : c.maxLocals = 5 := hml0
  have hown : s.vm.findClass "com/example/nestor/nestor/negotiation/SideOtherPinLaw" = some m.cls := findClass_of_methodNamed Bd.named
  have hnm := (name_of_methodNamed Bd.named Bd.method).1
  have X0 : Stand p l e room_1 s m #[(.int p0)] below meth c s₁ [] 0 0 := Stand.of_body Bd
  have e0 : s₁.heap = h0 := by rw [← hh, Bd.state]; rfl
  have N0 := Fr.nil n0
  show own_Goes p e below s (Q0 Z p0 rq ct h0 n0) 0 0 _
  refine own_pre (fun t k => castTop (ef0 m p0) k) ?_
  refine own_pre (A := s₁.setTop (mkF m 3 #[iv p0, .unset, .unset, .unset, .unset] [(.int (p0 &&& (1:Int32)))])) (fun t k => ?_) ?_
  · show Steps p.tables e below (s₁.setTop (mkF m 0 #[iv p0, .unset, .unset, .unset, .unset] [])) _
    refine XS.iloadN X0.here hx rfl (hb hby at_0) rfl ?_
    show Steps p.tables e below (s₁.setTop (mkF m 1 #[iv p0, .unset, .unset, .unset, .unset] [(.int p0)])) _
    refine XS.iconst X0.here hx rfl (hb hby at_1) ?_
    show Steps p.tables e below (s₁.setTop (mkF m 2 #[iv p0, .unset, .unset, .unset, .unset] [(.int (1:Int32)), (.int p0)])) _
    refine XS.iand X0.here hx rfl (hb hby at_2) rfl ?_
    exact k
  by_cases hs3_1 : (p0 &&& (1:Int32)) = (0:Int32)
  · refine own_pre (A := s₁.setTop (mkF m 22 #[iv p0, iv (0:Int32), .unset, .unset, .unset] [])) (fun t k => ?_) ?_
    · show Steps p.tables e below (s₁.setTop (mkF m 3 #[iv p0, .unset, .unset, .unset, .unset] [(.int (p0 &&& (1:Int32)))])) _
      refine XS.ifYes X0.here hx rfl (pc0 := 3) (pc' := 10) rfl (hb hby at_3) rfl (XT.i0_eq_t hs3_1) (by decide) (by decide) ?_
      show Steps p.tables e below (s₁.setTop (mkF m 10 #[iv p0, .unset, .unset, .unset, .unset] [])) _
      refine XS.iconst X0.here hx rfl (hb hby at_10) ?_
      show Steps p.tables e below (s₁.setTop (mkF m 11 #[iv p0, .unset, .unset, .unset, .unset] [(.int (0:Int32))])) _
      refine XS.istoreN X0.here hx rfl (hb hby at_11) rfl (l' := #[iv p0, iv (0:Int32), .unset, .unset, .unset]) rfl ?_
      show Steps p.tables e below (s₁.setTop (mkF m 12 #[iv p0, iv (0:Int32), .unset, .unset, .unset] [])) _
      refine XS.iloadN X0.here hx rfl (hb hby at_12) rfl ?_
      show Steps p.tables e below (s₁.setTop (mkF m 13 #[iv p0, iv (0:Int32), .unset, .unset, .unset] [(.int (0:Int32))])) _
      refine XS.ifYes X0.here hx rfl (pc0 := 13) (pc' := 22) rfl (hb hby at_13) rfl (XT.i0_eq_t rfl) (by decide) (by decide) ?_
      exact k
    obtain ⟨T5, X5, e5, st5⟩ := getS2 X0 hx hZ hown (host := "") (Or.inl (own_h hw 0 rfl)) Via.refl e0 P0 (g := (mkF m 22 #[iv p0, iv (0:Int32), .unset, .unset, .unset] [])) rfl (hb hby at_22)
    refine own_pre st5 ?_
    refine own_pre (A := T5.setTop (mkF m 36 #[iv p0, iv (0:Int32), rv rq, .unset, .unset] [])) (fun t k => ?_) ?_
    · show Steps p.tables e below (T5.setTop (mkF m 25 #[iv p0, iv (0:Int32), .unset, .unset, .unset] [(.ref rq)])) _
      refine XS.astoreN X5.here hx rfl (hb hby at_25) rfl rfl (l' := #[iv p0, iv (0:Int32), rv rq, .unset, .unset]) rfl ?_
      show Steps p.tables e below (T5.setTop (mkF m 26 #[iv p0, iv (0:Int32), rv rq, .unset, .unset] [])) _
      refine XS.iloadN X5.here hx rfl (hb hby at_26) rfl ?_
      show Steps p.tables e below (T5.setTop (mkF m 27 #[iv p0, iv (0:Int32), rv rq, .unset, .unset] [(.int (0:Int32))])) _
      refine XS.ifYes X5.here hx rfl (pc0 := 27) (pc' := 36) rfl (hb hby at_27) rfl (XT.i0_eq_t rfl) (by decide) (by decide) ?_
      exact k
    obtain ⟨T6, X6, e6, st6⟩ := getS2 X5 hx hZ hown (host := "") (Or.inl (own_h hw 3 rfl)) Via.refl e5 P1 (g := (mkF m 36 #[iv p0, iv (0:Int32), rv rq, .unset, .unset] [])) rfl (hb hby at_36)
    refine own_pre st6 ?_
    refine own_pre (A := T6.setTop (mkF m 41 #[iv p0, iv (0:Int32), rv rq, rv ct, .unset] [(.ref rq)])) (fun t k => ?_) ?_
    · show Steps p.tables e below (T6.setTop (mkF m 39 #[iv p0, iv (0:Int32), rv rq, .unset, .unset] [(.ref ct)])) _
      refine XS.astoreN X6.here hx rfl (hb hby at_39) rfl rfl (l' := #[iv p0, iv (0:Int32), rv rq, rv ct, .unset]) rfl ?_
      show Steps p.tables e below (T6.setTop (mkF m 40 #[iv p0, iv (0:Int32), rv rq, rv ct, .unset] [])) _
      refine XS.aloadN X6.here hx rfl (hb hby at_40) rfl rfl ?_
      exact k
    obtain ⟨cq7, kq7, q7a, q7b, q7c⟩ := isOf hZ e6 P2
    obtain ⟨_, _, ⟨T7, L7, k7, n7⟩, -, X7, ⟨Lc7, hQ7, l7, y7, z7⟩, st7⟩ := X6.virtualBack hx (y := (⟨"com/example/nestor/nestor/negotiation/Side", "other", "()Lcom/example/nestor/nestor/negotiation/Side;"⟩ : MethodName)) (z := (⟨"com/example/nestor/nestor/negotiation/Side", "other", "()Lcom/example/nestor/nestor/negotiation/Side;"⟩ : MethodName)) hown (mvT hZ (own_h hw 5 rfl)) (mvT hZ (own_h hw 6 rfl)) (notFace_of_selects (args := #[]) (mvT hZ (own_h hw 8 rfl))) (mvT hZ (own_h hw 8 rfl)) (mvT hZ (own_h hw 7 rfl)) (by decide) (backOf (W := 0) (rm1r l Z aZ hw [] rq ct h0 n0 Z0 P0 P1) hZ (own_h hw 9 rfl) (own_h hw 1 rfl) (by decide) (by decide)) q7a q7c (g := (mkF m 41 #[iv p0, iv (0:Int32), rv rq, rv ct, .unset] [(.ref rq)])) rfl (by rw [hml]; rfl) (Steps.refl _) (argsL := []) (rest := []) (lenOf own_pd0 rfl) rfl (by show 2 * 0 + _ ≤ _; exact Nat.le_of_eq rfl) (hb hby at_41) (fun _ _ => ⟨rfl, e6, (by decide : 0 + 0 ≤ _), (by decide : 0 + 0 ≤ _)⟩)
    dsimp only [Pt.U, Pt.locs, Pt.cells, Pt.slots] at X7 l7 y7 z7 st7 hQ7
    subst l7 y7 z7
    obtain ⟨rfl, N7q, eh7⟩ := hQ7
    have N7 := Fr.app N0 N7q
    refine own_pre (fun _ k => st7.trans k) ?_
    refine own_pre (A := T7.setTop (mkF m 67 #[iv p0, iv (0:Int32), rv rq, rv ct, rv ct] [(.ref ct)])) (fun t k => ?_) ?_
    · show Steps p.tables e below (T7.setTop (mkF m 44 #[iv p0, iv (0:Int32), rv rq, rv ct, .unset] [(.ref ct)])) _
      refine XS.astore X7.here hx rfl (hb hby at_44) rfl rfl (l' := #[iv p0, iv (0:Int32), rv rq, rv ct, rv ct]) rfl ?_
      show Steps p.tables e below (T7.setTop (mkF m 46 #[iv p0, iv (0:Int32), rv rq, rv ct, rv ct] [])) _
      refine XS.aload X7.here hx rfl (hb hby at_46) rfl rfl ?_
      show Steps p.tables e below (T7.setTop (mkF m 48 #[iv p0, iv (0:Int32), rv rq, rv ct, rv ct] [(.ref ct)])) _
      refine XS.ifnonnullYes X7.here hx rfl (pc0 := 48) (pc' := 53) rfl (hb hby at_48) rfl (by decide) (by decide) ?_
      show Steps p.tables e below (T7.setTop (mkF m 53 #[iv p0, iv (0:Int32), rv rq, rv ct, rv ct] [])) _
      refine XS.aload X7.here hx rfl (hb hby at_53) rfl rfl ?_
      show Steps p.tables e below (T7.setTop (mkF m 55 #[iv p0, iv (0:Int32), rv rq, rv ct, rv ct] [(.ref ct)])) _
      refine XS.aloadN X7.here hx rfl (hb hby at_55) rfl rfl ?_
      show Steps p.tables e below (T7.setTop (mkF m 56 #[iv p0, iv (0:Int32), rv rq, rv ct, rv ct] [(.ref ct), (.ref ct)])) _
      refine Jvm.RoadKit.acmp (g := (mkF m 56 #[iv p0, iv (0:Int32), rv rq, rv ct, rv ct] [(.ref ct), (.ref ct)])) X7 hx rfl rfl rfl (pc0 := 56) (pc' := 59) (same := true) rfl (hb hby at_56) rfl (decide_eq_true rfl) (by decide) (by decide) ?_
      show Steps p.tables e below (T7.setTop (mkF m 59 #[iv p0, iv (0:Int32), rv rq, rv ct, rv ct] [])) _
      refine XS.aload X7.here hx rfl (hb hby at_59) rfl rfl ?_
      show Steps p.tables e below (T7.setTop (mkF m 61 #[iv p0, iv (0:Int32), rv rq, rv ct, rv ct] [(.ref ct)])) _
      refine XS.aloadN X7.here hx rfl (hb hby at_61) rfl rfl ?_
      show Steps p.tables e below (T7.setTop (mkF m 62 #[iv p0, iv (0:Int32), rv rq, rv ct, rv ct] [(.ref rq), (.ref ct)])) _
      refine Jvm.RoadKit.acmp (g := (mkF m 62 #[iv p0, iv (0:Int32), rv rq, rv ct, rv ct] [(.ref rq), (.ref ct)])) X7 hx rfl rfl rfl (pc0 := 62) (pc' := 65) (same := false) rfl (hb hby at_62) rfl (decide_eq_false fun q => (Ne.symm nq_rq_ct) (Value.ref.inj q)) (by decide) (by decide) ?_
      show Steps p.tables e below (T7.setTop (mkF m 65 #[iv p0, iv (0:Int32), rv rq, rv ct, rv ct] [])) _
      refine XS.aload X7.here hx rfl (hb hby at_65) rfl rfl ?_
      exact k
    obtain ⟨cq8, kq8, q8a, q8b, q8c⟩ := isOf hZ eh7 P3
    obtain ⟨_, _, ⟨T8, L8, k8, n8⟩, -, X8, ⟨Lc8, hQ8, l8, y8, z8⟩, st8⟩ := X7.virtualBack hx (y := (⟨"com/example/nestor/nestor/negotiation/Side", "other", "()Lcom/example/nestor/nestor/negotiation/Side;"⟩ : MethodName)) (z := (⟨"com/example/nestor/nestor/negotiation/Side", "other", "()Lcom/example/nestor/nestor/negotiation/Side;"⟩ : MethodName)) hown (mvT hZ (own_h hw 5 rfl)) (mvT hZ (own_h hw 6 rfl)) (notFace_of_selects (args := #[]) (mvT hZ (own_h hw 8 rfl))) (mvT hZ (own_h hw 8 rfl)) (mvT hZ (own_h hw 7 rfl)) (by decide) (backOf (W := 0) (rm1c l Z aZ hw [] ct rq h0 n0 Z0 P0 P1 (Ne.symm nq_rq_ct)) hZ (own_h hw 9 rfl) (own_h hw 1 rfl) (by decide) (by decide)) q8a q8c (g := (mkF m 67 #[iv p0, iv (0:Int32), rv rq, rv ct, rv ct] [(.ref ct)])) rfl (by rw [hml]; rfl) (Steps.refl _) (argsL := []) (rest := []) (lenOf own_pd0 rfl) rfl (by show 2 * 0 + _ ≤ _; exact Nat.le_of_eq rfl) (hb hby at_67) (fun _ _ => ⟨rfl, eh7, (by decide : 0 + 0 ≤ _), (by decide : 0 + 0 ≤ _)⟩)
    dsimp only [Pt.U, Pt.locs, Pt.cells, Pt.slots] at X8 l8 y8 z8 st8 hQ8
    subst l8 y8 z8
    obtain ⟨rfl, N8q, eh8⟩ := hQ8
    have N8 := Fr.app N7 N8q
    refine own_pre (fun _ k => st8.trans k) ?_
    refine own_pre (A := T8.setTop (mkF m 79 #[iv p0, iv (0:Int32), rv rq, rv ct, rv ct] [(.int (1:Int32))])) (fun t k => ?_) ?_
    · show Steps p.tables e below (T8.setTop (mkF m 70 #[iv p0, iv (0:Int32), rv rq, rv ct, rv ct] [(.ref rq)])) _
      refine XS.aloadN X8.here hx rfl (hb hby at_70) rfl rfl ?_
      show Steps p.tables e below (T8.setTop (mkF m 71 #[iv p0, iv (0:Int32), rv rq, rv ct, rv ct] [(.ref rq), (.ref rq)])) _
      refine Jvm.RoadKit.acmp (g := (mkF m 71 #[iv p0, iv (0:Int32), rv rq, rv ct, rv ct] [(.ref rq), (.ref rq)])) X8 hx rfl rfl rfl (pc0 := 71) (pc' := 74) (same := true) rfl (hb hby at_71) rfl (decide_eq_true rfl) (by decide) (by decide) ?_
      show Steps p.tables e below (T8.setTop (mkF m 74 #[iv p0, iv (0:Int32), rv rq, rv ct, rv ct] [])) _
      refine XS.iconst X8.here hx rfl (hb hby at_74) ?_
      show Steps p.tables e below (T8.setTop (mkF m 75 #[iv p0, iv (0:Int32), rv rq, rv ct, rv ct] [(.int (1:Int32))])) _
      refine XS.goto X8.here hx rfl (pc0 := 75) (pc' := 79) rfl (hb hby at_75) (by decide) (by decide) ?_
      exact k
    exact own_end X8 (BodyLoose.notSynchronized Bd) (fun h => by rw [Bd.returns] at h; cases h) (v := some (.int (1:Int32))) (fun fs hr => retN X8 hx (t := .boolean) Bd.returns (by simp) (hb hby at_79) hr) (by show Q0 Z p0 rq ct h0 n0 _ T8.heap _; rw [eh8]; exact ⟨rfl, N8⟩) (by decide) (by decide)
  · refine own_pre (A := s₁.setTop (mkF m 16 #[iv p0, iv (1:Int32), .unset, .unset, .unset] [])) (fun t k => ?_) ?_
    · show Steps p.tables e below (s₁.setTop (mkF m 3 #[iv p0, .unset, .unset, .unset, .unset] [(.int (p0 &&& (1:Int32)))])) _
      refine XS.ifNo X0.here hx rfl (hb hby at_3) rfl (XT.i0_eq_f hs3_1) ?_
      show Steps p.tables e below (s₁.setTop (mkF m 6 #[iv p0, .unset, .unset, .unset, .unset] [])) _
      refine XS.iconst X0.here hx rfl (hb hby at_6) ?_
      show Steps p.tables e below (s₁.setTop (mkF m 7 #[iv p0, .unset, .unset, .unset, .unset] [(.int (1:Int32))])) _
      refine XS.goto X0.here hx rfl (pc0 := 7) (pc' := 11) rfl (hb hby at_7) (by decide) (by decide) ?_
      show Steps p.tables e below (s₁.setTop (mkF m 11 #[iv p0, .unset, .unset, .unset, .unset] [(.int (1:Int32))])) _
      refine XS.istoreN X0.here hx rfl (hb hby at_11) rfl (l' := #[iv p0, iv (1:Int32), .unset, .unset, .unset]) rfl ?_
      show Steps p.tables e below (s₁.setTop (mkF m 12 #[iv p0, iv (1:Int32), .unset, .unset, .unset] [])) _
      refine XS.iloadN X0.here hx rfl (hb hby at_12) rfl ?_
      show Steps p.tables e below (s₁.setTop (mkF m 13 #[iv p0, iv (1:Int32), .unset, .unset, .unset] [(.int (1:Int32))])) _
      refine XS.ifNo X0.here hx rfl (hb hby at_13) rfl (XT.i0_eq_f (by decide)) ?_
      exact k
    obtain ⟨T9, X9, e9, st9⟩ := getS2 X0 hx hZ hown (host := "") (Or.inl (own_h hw 3 rfl)) Via.refl e0 P1 (g := (mkF m 16 #[iv p0, iv (1:Int32), .unset, .unset, .unset] [])) rfl (hb hby at_16)
    refine own_pre st9 ?_
    refine own_pre (A := T9.setTop (mkF m 30 #[iv p0, iv (1:Int32), rv ct, .unset, .unset] [])) (fun t k => ?_) ?_
    · show Steps p.tables e below (T9.setTop (mkF m 19 #[iv p0, iv (1:Int32), .unset, .unset, .unset] [(.ref ct)])) _
      refine XS.goto X9.here hx rfl (pc0 := 19) (pc' := 25) rfl (hb hby at_19) (by decide) (by decide) ?_
      show Steps p.tables e below (T9.setTop (mkF m 25 #[iv p0, iv (1:Int32), .unset, .unset, .unset] [(.ref ct)])) _
      refine XS.astoreN X9.here hx rfl (hb hby at_25) rfl rfl (l' := #[iv p0, iv (1:Int32), rv ct, .unset, .unset]) rfl ?_
      show Steps p.tables e below (T9.setTop (mkF m 26 #[iv p0, iv (1:Int32), rv ct, .unset, .unset] [])) _
      refine XS.iloadN X9.here hx rfl (hb hby at_26) rfl ?_
      show Steps p.tables e below (T9.setTop (mkF m 27 #[iv p0, iv (1:Int32), rv ct, .unset, .unset] [(.int (1:Int32))])) _
      refine XS.ifNo X9.here hx rfl (hb hby at_27) rfl (XT.i0_eq_f (by decide)) ?_
      exact k
    obtain ⟨T10, X10, e10, st10⟩ := getS2 X9 hx hZ hown (host := "") (Or.inl (own_h hw 0 rfl)) Via.refl e9 P0 (g := (mkF m 30 #[iv p0, iv (1:Int32), rv ct, .unset, .unset] [])) rfl (hb hby at_30)
    refine own_pre st10 ?_
    refine own_pre (A := T10.setTop (mkF m 41 #[iv p0, iv (1:Int32), rv ct, rv rq, .unset] [(.ref ct)])) (fun t k => ?_) ?_
    · show Steps p.tables e below (T10.setTop (mkF m 33 #[iv p0, iv (1:Int32), rv ct, .unset, .unset] [(.ref rq)])) _
      refine XS.goto X10.here hx rfl (pc0 := 33) (pc' := 39) rfl (hb hby at_33) (by decide) (by decide) ?_
      show Steps p.tables e below (T10.setTop (mkF m 39 #[iv p0, iv (1:Int32), rv ct, .unset, .unset] [(.ref rq)])) _
      refine XS.astoreN X10.here hx rfl (hb hby at_39) rfl rfl (l' := #[iv p0, iv (1:Int32), rv ct, rv rq, .unset]) rfl ?_
      show Steps p.tables e below (T10.setTop (mkF m 40 #[iv p0, iv (1:Int32), rv ct, rv rq, .unset] [])) _
      refine XS.aloadN X10.here hx rfl (hb hby at_40) rfl rfl ?_
      exact k
    obtain ⟨cq11, kq11, q11a, q11b, q11c⟩ := isOf hZ e10 P3
    obtain ⟨_, _, ⟨T11, L11, k11, n11⟩, -, X11, ⟨Lc11, hQ11, l11, y11, z11⟩, st11⟩ := X10.virtualBack hx (y := (⟨"com/example/nestor/nestor/negotiation/Side", "other", "()Lcom/example/nestor/nestor/negotiation/Side;"⟩ : MethodName)) (z := (⟨"com/example/nestor/nestor/negotiation/Side", "other", "()Lcom/example/nestor/nestor/negotiation/Side;"⟩ : MethodName)) hown (mvT hZ (own_h hw 5 rfl)) (mvT hZ (own_h hw 6 rfl)) (notFace_of_selects (args := #[]) (mvT hZ (own_h hw 8 rfl))) (mvT hZ (own_h hw 8 rfl)) (mvT hZ (own_h hw 7 rfl)) (by decide) (backOf (W := 0) (rm1c l Z aZ hw [] ct rq h0 n0 Z0 P0 P1 (Ne.symm nq_rq_ct)) hZ (own_h hw 9 rfl) (own_h hw 1 rfl) (by decide) (by decide)) q11a q11c (g := (mkF m 41 #[iv p0, iv (1:Int32), rv ct, rv rq, .unset] [(.ref ct)])) rfl (by rw [hml]; rfl) (Steps.refl _) (argsL := []) (rest := []) (lenOf own_pd0 rfl) rfl (by show 2 * 0 + _ ≤ _; exact Nat.le_of_eq rfl) (hb hby at_41) (fun _ _ => ⟨rfl, e10, (by decide : 0 + 0 ≤ _), (by decide : 0 + 0 ≤ _)⟩)
    dsimp only [Pt.U, Pt.locs, Pt.cells, Pt.slots] at X11 l11 y11 z11 st11 hQ11
    subst l11 y11 z11
    obtain ⟨rfl, N11q, eh11⟩ := hQ11
    have N11 := Fr.app N0 N11q
    refine own_pre (fun _ k => st11.trans k) ?_
    refine own_pre (A := T11.setTop (mkF m 67 #[iv p0, iv (1:Int32), rv ct, rv rq, rv rq] [(.ref rq)])) (fun t k => ?_) ?_
    · show Steps p.tables e below (T11.setTop (mkF m 44 #[iv p0, iv (1:Int32), rv ct, rv rq, .unset] [(.ref rq)])) _
      refine XS.astore X11.here hx rfl (hb hby at_44) rfl rfl (l' := #[iv p0, iv (1:Int32), rv ct, rv rq, rv rq]) rfl ?_
      show Steps p.tables e below (T11.setTop (mkF m 46 #[iv p0, iv (1:Int32), rv ct, rv rq, rv rq] [])) _
      refine XS.aload X11.here hx rfl (hb hby at_46) rfl rfl ?_
      show Steps p.tables e below (T11.setTop (mkF m 48 #[iv p0, iv (1:Int32), rv ct, rv rq, rv rq] [(.ref rq)])) _
      refine XS.ifnonnullYes X11.here hx rfl (pc0 := 48) (pc' := 53) rfl (hb hby at_48) rfl (by decide) (by decide) ?_
      show Steps p.tables e below (T11.setTop (mkF m 53 #[iv p0, iv (1:Int32), rv ct, rv rq, rv rq] [])) _
      refine XS.aload X11.here hx rfl (hb hby at_53) rfl rfl ?_
      show Steps p.tables e below (T11.setTop (mkF m 55 #[iv p0, iv (1:Int32), rv ct, rv rq, rv rq] [(.ref rq)])) _
      refine XS.aloadN X11.here hx rfl (hb hby at_55) rfl rfl ?_
      show Steps p.tables e below (T11.setTop (mkF m 56 #[iv p0, iv (1:Int32), rv ct, rv rq, rv rq] [(.ref rq), (.ref rq)])) _
      refine Jvm.RoadKit.acmp (g := (mkF m 56 #[iv p0, iv (1:Int32), rv ct, rv rq, rv rq] [(.ref rq), (.ref rq)])) X11 hx rfl rfl rfl (pc0 := 56) (pc' := 59) (same := true) rfl (hb hby at_56) rfl (decide_eq_true rfl) (by decide) (by decide) ?_
      show Steps p.tables e below (T11.setTop (mkF m 59 #[iv p0, iv (1:Int32), rv ct, rv rq, rv rq] [])) _
      refine XS.aload X11.here hx rfl (hb hby at_59) rfl rfl ?_
      show Steps p.tables e below (T11.setTop (mkF m 61 #[iv p0, iv (1:Int32), rv ct, rv rq, rv rq] [(.ref rq)])) _
      refine XS.aloadN X11.here hx rfl (hb hby at_61) rfl rfl ?_
      show Steps p.tables e below (T11.setTop (mkF m 62 #[iv p0, iv (1:Int32), rv ct, rv rq, rv rq] [(.ref ct), (.ref rq)])) _
      refine Jvm.RoadKit.acmp (g := (mkF m 62 #[iv p0, iv (1:Int32), rv ct, rv rq, rv rq] [(.ref ct), (.ref rq)])) X11 hx rfl rfl rfl (pc0 := 62) (pc' := 65) (same := false) rfl (hb hby at_62) rfl (decide_eq_false fun q => nq_rq_ct (Value.ref.inj q)) (by decide) (by decide) ?_
      show Steps p.tables e below (T11.setTop (mkF m 65 #[iv p0, iv (1:Int32), rv ct, rv rq, rv rq] [])) _
      refine XS.aload X11.here hx rfl (hb hby at_65) rfl rfl ?_
      exact k
    obtain ⟨cq12, kq12, q12a, q12b, q12c⟩ := isOf hZ eh11 P2
    obtain ⟨_, _, ⟨T12, L12, k12, n12⟩, -, X12, ⟨Lc12, hQ12, l12, y12, z12⟩, st12⟩ := X11.virtualBack hx (y := (⟨"com/example/nestor/nestor/negotiation/Side", "other", "()Lcom/example/nestor/nestor/negotiation/Side;"⟩ : MethodName)) (z := (⟨"com/example/nestor/nestor/negotiation/Side", "other", "()Lcom/example/nestor/nestor/negotiation/Side;"⟩ : MethodName)) hown (mvT hZ (own_h hw 5 rfl)) (mvT hZ (own_h hw 6 rfl)) (notFace_of_selects (args := #[]) (mvT hZ (own_h hw 8 rfl))) (mvT hZ (own_h hw 8 rfl)) (mvT hZ (own_h hw 7 rfl)) (by decide) (backOf (W := 0) (rm1r l Z aZ hw [] rq ct h0 n0 Z0 P0 P1) hZ (own_h hw 9 rfl) (own_h hw 1 rfl) (by decide) (by decide)) q12a q12c (g := (mkF m 67 #[iv p0, iv (1:Int32), rv ct, rv rq, rv rq] [(.ref rq)])) rfl (by rw [hml]; rfl) (Steps.refl _) (argsL := []) (rest := []) (lenOf own_pd0 rfl) rfl (by show 2 * 0 + _ ≤ _; exact Nat.le_of_eq rfl) (hb hby at_67) (fun _ _ => ⟨rfl, eh11, (by decide : 0 + 0 ≤ _), (by decide : 0 + 0 ≤ _)⟩)
    dsimp only [Pt.U, Pt.locs, Pt.cells, Pt.slots] at X12 l12 y12 z12 st12 hQ12
    subst l12 y12 z12
    obtain ⟨rfl, N12q, eh12⟩ := hQ12
    have N12 := Fr.app N11 N12q
    refine own_pre (fun _ k => st12.trans k) ?_
    refine own_pre (A := T12.setTop (mkF m 79 #[iv p0, iv (1:Int32), rv ct, rv rq, rv rq] [(.int (1:Int32))])) (fun t k => ?_) ?_
    · show Steps p.tables e below (T12.setTop (mkF m 70 #[iv p0, iv (1:Int32), rv ct, rv rq, rv rq] [(.ref ct)])) _
      refine XS.aloadN X12.here hx rfl (hb hby at_70) rfl rfl ?_
      show Steps p.tables e below (T12.setTop (mkF m 71 #[iv p0, iv (1:Int32), rv ct, rv rq, rv rq] [(.ref ct), (.ref ct)])) _
      refine Jvm.RoadKit.acmp (g := (mkF m 71 #[iv p0, iv (1:Int32), rv ct, rv rq, rv rq] [(.ref ct), (.ref ct)])) X12 hx rfl rfl rfl (pc0 := 71) (pc' := 74) (same := true) rfl (hb hby at_71) rfl (decide_eq_true rfl) (by decide) (by decide) ?_
      show Steps p.tables e below (T12.setTop (mkF m 74 #[iv p0, iv (1:Int32), rv ct, rv rq, rv rq] [])) _
      refine XS.iconst X12.here hx rfl (hb hby at_74) ?_
      show Steps p.tables e below (T12.setTop (mkF m 75 #[iv p0, iv (1:Int32), rv ct, rv rq, rv rq] [(.int (1:Int32))])) _
      refine XS.goto X12.here hx rfl (pc0 := 75) (pc' := 79) rfl (hb hby at_75) (by decide) (by decide) ?_
      exact k
    exact own_end X12 (BodyLoose.notSynchronized Bd) (fun h => by rw [Bd.returns] at h; cases h) (v := some (.int (1:Int32))) (fun fs hr => retN X12 hx (t := .boolean) Bd.returns (by simp) (hb hby at_79) hr) (by show Q0 Z p0 rq ct h0 n0 _ T12.heap _; rw [eh12]; exact ⟨rfl, N12⟩) (by decide) (by decide)
set_option maxRecDepth 65536 in
set_option maxHeartbeats 40000000 in
theorem comes_1 {Post : Tables → Env → Array Value → State → Outcome → State → Prop} (hpost : ∀ tb e args s v u, (limb_1_1.after args s (.returned v) u = true ∧ limb_1_2.after args s (.returned v) u = true ∧ True) → FrameEnd s (.returned v) u (Jvm.fieldLocs frame_1_writes args s ++ Jvm.arrayLocs frame_1_arrays args s ++ Jvm.staticLocs frame_1_statics s) 0 0 → Post tb e args s (.returned v) u) :
    ArmFor flags0 classFile x code maxLocals ret World_1 tables_1 room_1 Calls_1 rest_1 Pre_1 Post := by
  intro l hfl _ _ p e ha hc hk s m args below hf hA hF happ hP
  obtain ⟨hcalls, hrest, hpre⟩ := hP
  obtain ⟨-, -, -, hnamed, -, -, -, hat⟩ := (Spec.applies_iff hf).mp happ
  obtain ⟨hg, hn⟩ := and_e (Cond.before_iff.mp (show (Jvm.Cond.and given_1 narrow_1).before args s = true from hpre))
  obtain ⟨g2, g3⟩ := and_e hg
  obtain ⟨w0, rfl⟩ : ∃ w0 : Value, args = #[w0] := by
    have hs : args.size = 1 := by simpa [Cond.value, given_1] using g2
    obtain ⟨L⟩ := args
    match L, hs with
    | [w0], _ => exact ⟨w0, rfl⟩
  have hw := fun d (hd : d ∈ tables_1) => atoms_spec (ws := Jvm.Cond.code x code maxLocals ret :: tables_1) hat d (List.mem_cons_of_mem _ hd)
  obtain ⟨i0, ei0⟩ := is_v g3
  obtain rfl : w0 = (.int i0) := Option.some.inj ei0
  obtain ⟨n1, n2⟩ := and_e hn
  obtain ⟨n3, n4⟩ := and_e n2
  obtain ⟨n5, n6⟩ := and_e n4
  obtain ⟨rq, ev1⟩ := exa_v n1
  obtain ⟨ct, ev2⟩ := exa_v n3
  have S1 := Sta.start ev1 (Or.inr ⟨(own_h hw 1 rfl), (own_h hw 2 rfl)⟩)
  have S2 := Sta.start ev2 (Or.inr ⟨(own_h hw 1 rfl), (own_h hw 4 rfl)⟩)
  have E1 := Exa.start ev1 n1
  have E2 := Exa.start ev2 n3
  have hne : rq ≠ ct := by
    intro q; subst q
    have f1 := fld_at (C := "java/lang/Enum") (n := "ordinal") (dd := "I") ev1
    have f2 := fld_at (C := "java/lang/Enum") (n := "ordinal") (dd := "I") ev2
    have g1 : (Term.int (1:Int32)).eval #[Value.int i0] s none [] s = some (.int 1) := rfl
    have g0 : (Term.int (0:Int32)).eval #[Value.int i0] s none [] s = some (.int 0) := rfl
    cases hf : s.fieldOf? rq "java/lang/Enum" "ordinal" "I" with
    | none => simp [Cond.value, f1, hf] at n6
    | some z => cases z <;> simp [Cond.value, f1, f2, hf, g0, g1] at n5 n6; subst n5; simp at n6
  obtain ⟨n, o, h1, h2, h3, _, L, rfl, ⟨hv, N⟩, hq⟩ := rm0 l s _ hw tables_1 i0 rq ct s.heap s.heap.size (Nat.le_refl _) S1 S2 E1 E2 hne p e ha hc hk s m _ below hf ((Spec.applies_iff_loose hf).mp happ).1 ⟨rfl, State.Warmed39.refl s, rfl⟩ trivial
  subst hv
  refine ⟨n, _, h1, h2, h3, hpost _ _ _ _ _ _ ⟨Cond.after_iff.mpr rfl, Cond.after_iff.mpr (eq_i res_at (Term.int_eval (1)) rfl), trivial⟩ ⟨hq.1, hq.2.1, (hq.2.2.sift fun y hy => Or.inr (N y hy)).mono (by decide) (by decide)⟩⟩
theorem main_1_1 : Claimed_1_1 := comes_1 fun _ _ _ _ _ _ h hF => ⟨h.1, hF⟩
theorem main_1_2 : Claimed_1_2 := comes_1 fun _ _ _ _ _ _ h hF => ⟨h.2.1, hF⟩
end Jvm.Pilot.@@N@@
namespace Jvm.Pilot.@@N@@
open Jvm Jvm.ClassFile Sem Op Lib Jvm.Free Jvm.Stand Jvm.Pilot.@@N@@.Jvm.D
/-! MADE BY PROGRAM (witnessworld.py) out of the Statement's table words and the real class files: 12 classes; the members and pool entries that the words name. The judged class is class 1, her method 1. -/
namespace start1
open Jvm.ClassFile
def u (s : String) : CpInfo := .utf8 (stringToUtf16 s)
/-- a pool by its gaps: so many unusable entries, then the entry; so many at the end -/
def gap : Nat → List CpInfo → List CpInfo
  | 0, r => r
  | n + 1, r => .unusable :: gap n r
def poolList (es : List (Nat × CpInfo)) (last : Nat) : List CpInfo := es.foldr (fun e r => gap e.1 (e.2 :: r)) (gap last [])
def pool (es : List (Nat × CpInfo)) (last : Nat) : Array CpInfo := ⟨poolList es last⟩
def fileOf (pool : Array CpInfo) (this : Nat) (attrs : Array Attribute := #[]) (ms : Array MethodInfo := #[]) (fl : Nat := 33) (sup : Nat := 0) (ifs : Array Nat := #[]) (fds : Array FieldInfo := #[]) : ClassFile where
  minorVersion := 0
  majorVersion := 65
  constantPool := pool
  accessFlags := fl
  thisClass := this
  superClass := sup
  interfaces := ifs
  fields := fds
  methods := ms
  attributes := attrs
def plain (name : String) (sup : Option ClassId) : Class where
  name := name
  kind := .ordinary
  loader := none
  accessFlags := 33
  super := sup
  interfaces := #[]
  cf := none
  fields := #[]
  methods := #[]
  instanceTypes := #[]
  staticTypes := #[]
  resolved := #[]
  callSites := []
  init := .initialized
  statics := none
  mirror := none

def pool0 : Array CpInfo := pool [(5, u "<init>"), (0, u "()V"), (1, .class_ 10), (1, u "java/lang/Object")] 113

def k0m0 : Method := { name := "<init>", desc := "()V", sig := { parameters := [], returnType := none }, accessFlags := 1, code := none }
/-- java/lang/Object -/
def k0 : Class := { plain "java/lang/Object" none with
  accessFlags := 33
  interfaces := #[]
  cf := some (fileOf pool0 8 #[] #[{ accessFlags := 1, nameIndex := 5, descriptorIndex := 6, attributes := #[] }] 33 0 #[] #[])
  fields := #[]
  methods := #[k0m0]
  instanceTypes := #[]
  staticTypes := #[]
  resolved := Array.replicate 124 none
  statics := none }

def pool1 : Array CpInfo := pool [(2, .class_ 4), (1, u "java/lang/Object"), (0, u "<init>"), (0, u "()V"), (0, .fieldref 8 9), (0, .class_ 10), (0, .nameAndType 11 12), (0, u "com/example/nestor/nestor/negotiation/Side"), (0, u "CONTROLLER"), (0, u "Lcom/example/nestor/nestor/negotiation/Side;"), (0, .fieldref 8 14), (0, .nameAndType 15 12), (0, u "REQUESTER"), (0, .methodref 8 17), (0, .nameAndType 18 19), (0, u "other"), (0, u "()Lcom/example/nestor/nestor/negotiation/Side;"), (0, .class_ 21), (0, u "com/example/nestor/nestor/negotiation/SideOtherPinLaw"), (2, u "law"), (0, u "(I)Z")] 3

def k1m0 : Method := { name := "<init>", desc := "()V", sig := { parameters := [], returnType := none }, accessFlags := 1, code := none }
def k1c1 : Code := { maxStack := 2, maxLocals := 5, code := code, exceptionTable := #[], attributes := #[] }
def k1m1 : Method := { name := "law", desc := "(I)Z", sig := { parameters := [.int], returnType := some .boolean }, accessFlags := 9, code := some k1c1 }
/-- com/example/nestor/nestor/negotiation/SideOtherPinLaw -/
def k1 : Class := { plain "com/example/nestor/nestor/negotiation/SideOtherPinLaw" (some 0) with
  accessFlags := 49
  interfaces := #[]
  cf := some (fileOf pool1 20 #[] #[{ accessFlags := 1, nameIndex := 5, descriptorIndex := 6, attributes := #[] }, { accessFlags := 9, nameIndex := 24, descriptorIndex := 25, attributes := #[] }] 49 2 #[] #[])
  fields := #[]
  methods := #[k1m0, k1m1]
  instanceTypes := #[]
  staticTypes := #[]
  resolved := Array.replicate 29 none
  statics := none }

def pool2 : Array CpInfo := pool [(1, .class_ 2), (0, u "java/lang/constant/Constable"), (0, .class_ 4), (0, u "java/lang/Object")] 6

/-- java/lang/constant/Constable -/
def k2 : Class := { plain "java/lang/constant/Constable" (some 0) with
  accessFlags := 1537
  interfaces := #[]
  cf := some (fileOf pool2 1 #[] #[] 1537 3 #[] #[])
  fields := #[]
  methods := #[]
  instanceTypes := #[]
  staticTypes := #[]
  resolved := Array.replicate 11 none
  statics := none }

def pool3 : Array CpInfo := pool [(1, .class_ 2), (0, u "java/lang/Comparable"), (0, .class_ 4), (0, u "java/lang/Object")] 7

/-- java/lang/Comparable -/
def k3 : Class := { plain "java/lang/Comparable" (some 0) with
  accessFlags := 1537
  interfaces := #[]
  cf := some (fileOf pool3 1 #[] #[] 1537 3 #[] #[])
  fields := #[]
  methods := #[]
  instanceTypes := #[]
  staticTypes := #[]
  resolved := Array.replicate 12 none
  statics := none }

def pool4 : Array CpInfo := pool [(1, .class_ 2), (0, u "java/io/Serializable"), (0, .class_ 4), (0, u "java/lang/Object")] 2

/-- java/io/Serializable -/
def k4 : Class := { plain "java/io/Serializable" (some 0) with
  accessFlags := 1537
  interfaces := #[]
  cf := some (fileOf pool4 1 #[] #[] 1537 3 #[] #[])
  fields := #[]
  methods := #[]
  instanceTypes := #[]
  staticTypes := #[]
  resolved := Array.replicate 7 none
  statics := none }

def pool5 : Array CpInfo := pool [(2, .class_ 4), (1, u "java/lang/Enum"), (0, u "name"), (0, u "Ljava/lang/String;"), (2, u "ordinal"), (0, u "I"), (1, .class_ 14), (1, u "java/lang/Object"), (4, u "hash"), (86, .class_ 108), (1, u "java/lang/Enum$EnumDesc"), (2, .class_ 112), (0, u "java/lang/constant/Constable"), (0, .class_ 114), (0, u "java/lang/Comparable"), (0, .class_ 116), (0, u "java/io/Serializable")] 87

/-- java/lang/Enum -/
def k5 : Class := { plain "java/lang/Enum" (some 0) with
  accessFlags := 1057
  interfaces := #[2, 3, 4]
  cf := some (fileOf pool5 2 #[.nestMembers #[106]] #[] 1057 12 #[111, 113, 115] #[{ accessFlags := 18, nameIndex := 5, descriptorIndex := 6, attributes := #[] }, { accessFlags := 18, nameIndex := 9, descriptorIndex := 10, attributes := #[] }, { accessFlags := 2, nameIndex := 19, descriptorIndex := 10, attributes := #[] }])
  fields := #[{ name := "name", type := (.object "java/lang/String"), accessFlags := 18, slot := 0, constantValue := 0 }, { name := "ordinal", type := .int, accessFlags := 18, slot := 1, constantValue := 0 }, { name := "hash", type := .int, accessFlags := 2, slot := 2, constantValue := 0 }]
  methods := #[]
  instanceTypes := #[(.object "java/lang/String"), .int, .int]
  staticTypes := #[]
  resolved := Array.replicate 204 none
  statics := none }

def pool6 : Array CpInfo := pool [(1, .class_ 2), (0, u "com/example/nestor/nestor/negotiation/Side"), (0, .fieldref 1 4), (0, .nameAndType 5 6), (0, u "REQUESTER"), (0, u "Lcom/example/nestor/nestor/negotiation/Side;"), (0, .fieldref 1 8), (0, .nameAndType 9 6), (0, u "CONTROLLER"), (2, u "$VALUES"), (0, u "[Lcom/example/nestor/nestor/negotiation/Side;"), (6, .class_ 22), (1, u "java/lang/Enum"), (8, u "label"), (0, u "Ljava/lang/String;"), (21, u "other"), (0, u "()Lcom/example/nestor/nestor/negotiation/Side;")] 6

def k6c0 : Code := { maxStack := 2, maxLocals := 1, code := prog_42_method_5_code, exceptionTable := #[], attributes := #[] }
def k6m0 : Method := { name := "other", desc := "()Lcom/example/nestor/nestor/negotiation/Side;", sig := { parameters := [], returnType := some (.object "com/example/nestor/nestor/negotiation/Side") }, accessFlags := 1, code := some k6c0 }
/-- com/example/nestor/nestor/negotiation/Side -/
def k6 : Class := { plain "com/example/nestor/nestor/negotiation/Side" (some 5) with
  accessFlags := 16433
  interfaces := #[]
  cf := some (fileOf pool6 1 #[] #[{ accessFlags := 1, nameIndex := 54, descriptorIndex := 55, attributes := #[] }] 16433 20 #[] #[{ accessFlags := 16409, nameIndex := 5, descriptorIndex := 6, attributes := #[] }, { accessFlags := 16409, nameIndex := 9, descriptorIndex := 6, attributes := #[] }, { accessFlags := 18, nameIndex := 31, descriptorIndex := 32, attributes := #[] }, { accessFlags := 4122, nameIndex := 12, descriptorIndex := 13, attributes := #[] }])
  fields := #[{ name := "REQUESTER", type := (.object "com/example/nestor/nestor/negotiation/Side"), accessFlags := 16409, slot := 0, constantValue := 0 }, { name := "CONTROLLER", type := (.object "com/example/nestor/nestor/negotiation/Side"), accessFlags := 16409, slot := 1, constantValue := 0 }, { name := "label", type := (.object "java/lang/String"), accessFlags := 18, slot := 3, constantValue := 0 }, { name := "$VALUES", type := (.array (.object "com/example/nestor/nestor/negotiation/Side")), accessFlags := 4122, slot := 2, constantValue := 0 }]
  methods := #[k6m0]
  instanceTypes := #[(.object "java/lang/String"), .int, .int, (.object "java/lang/String")]
  staticTypes := #[(.object "com/example/nestor/nestor/negotiation/Side"), (.object "com/example/nestor/nestor/negotiation/Side"), (.array (.object "com/example/nestor/nestor/negotiation/Side"))]
  resolved := Array.replicate 62 none
  statics := some 0 }

def pool7 : Array CpInfo := pool [(1, u "java/lang/Cloneable"), (0, .class_ 1), (0, u "java/lang/Object"), (0, .class_ 3)] 3

/-- java/lang/Cloneable -/
def k7 : Class := { plain "java/lang/Cloneable" (some 0) with
  accessFlags := 1537
  interfaces := #[]
  cf := some (fileOf pool7 2 #[] #[] 1537 4 #[] #[])
  fields := #[]
  methods := #[]
  instanceTypes := #[]
  staticTypes := #[]
  resolved := Array.replicate 8 none
  statics := none }

/-- the primitive byte -/
def k8 : Class := { plain "byte" none with kind := .primitive 'B', accessFlags := 0x411 }
/-- [B -/
def k9 : Class := { plain "[B" (some 0) with kind := .array 8 .byte, interfaces := #[7, 4], accessFlags := 1041 }

/-- the primitive int -/
def k10 : Class := { plain "int" none with kind := .primitive 'I', accessFlags := 0x411 }
/-- [I -/
def k11 : Class := { plain "[I" (some 0) with kind := .array 10 .int, interfaces := #[7, 4], accessFlags := 1041 }

def heap : Heap := #[{ cls := 6, slots := #[.ref 1, .ref 2, .null], vm := .statics 6 },
  { cls := 6, slots := #[.null, .int 0, .int 0, .null], vm := .none },
  { cls := 6, slots := #[.null, .int 1, .int 0, .null], vm := .none }]
def classes : Array Class := #[k0, k1, k2, k3, k4, k5, k6, k7, k8, k9, k10, k11]
def interned : List (Array UInt16 × Addr) := []
def slotsUsed : Nat := 11
def theMethod : MethodId := ⟨1, 1⟩
def args0 : Array Value := #[.int 5]
def aboutOver (below : List Frame) : State where
  vm := { classes := classes, interned := interned.toArray }
  heap := heap
  slotsUsed := slotsUsed
  threads := #[{ frames := .invoking theMethod args0 :: below }]
def below0 : List Frame := [.native { method := ⟨0, 0⟩, args := #[] }]
def about1 : State := aboutOver below0
def p0 : Program := .bare "" "" ""
def e0 : Env := launch0.env 0 0 0
theorem w_frames : about1.frames = Frame.invoking theMethod args0 :: below0 := rfl
set_option maxRecDepth 65536 in
theorem w_args : argsFit about1.vm theMethod args0 = true := by decide +kernel
set_option maxRecDepth 65536 in
theorem w_heap : heapFits about1 = true := by decide +kernel
set_option maxRecDepth 65536 in
theorem w_runnable : about1.curStatus? = some .runnable := by decide +kernel
set_option maxRecDepth 65536 in
theorem w_alone : about1.alone = true := by decide +kernel
set_option maxRecDepth 65536 in
theorem w_named : about1.methodNamed? x = some theMethod := by decide +kernel
set_option maxRecDepth 65536 in
theorem w_hears : about1.hears theMethod below0 = true := by decide +kernel
set_option maxRecDepth 65536 in
theorem w_ripe : about1.ripe theMethod args0 below0 = true := by decide +kernel
theorem w_running : about1.status = .running := rfl
set_option maxRecDepth 65536 in
theorem w_room : about1.hasRoom e0.platform room_1 = true :=
  launch0.hasRoom_least _ room_1 (by decide +kernel) (by decide +kernel) (by decide +kernel) (by decide +kernel) (by decide +kernel) (by decide +kernel)
theorem allAtoms_all (ts : List Jvm.Cond) (a : Array Jvm.Value) (st : Jvm.State) : (allAtoms ts).before a st = ts.all (fun c => c.before a st) := by
  induction ts with
  | nil => rfl
  | cons c t ih =>
    show (Jvm.Cond.and c (allAtoms t)).before a st = _
    rw [Jvm.Cond.before_and, ih, List.all_cons]
def words1 : List Jvm.Cond := Jvm.Cond.code x code maxLocals ret :: tables_1
/-- a 'code' word, met by the world's own term for the bytes: nothing is compared byte by byte -/
theorem code_word {y : MethodName} {bytes : ByteArray} {mx : Nat} {rt : Option FieldType} {a : Array Value} {s : State} {m : MethodId} {meth : Method} {c : Code} (h1 : s.methodNamed? y = some m) (h2 : s.vm.method? m = some meth) (h3 : meth.code = some c) (h4 : c.code = bytes)
    (h5 : (c.maxLocals == mx && c.exceptionTable.isEmpty && decide (c.maxStack ≤ mostOperands) && decide (meth.sig.returnType = rt) && !meth.locks && decide (parseMethodDescriptor y.desc = some meth.sig)) = true) : (Jvm.Cond.code y bytes mx rt).before a s = true := by
  simp only [Bool.and_eq_true, beq_iff_eq, Bool.not_eq_true', decide_eq_true_eq] at h5
  obtain ⟨⟨⟨⟨⟨g1, g2⟩, g3⟩, g4⟩, g5⟩, g6⟩ := h5
  simp [Cond.before, Cond.holds, Cond.value, h1, h2, h3, h4, g1, g2, g3, g4, g5, g6]
def isCode : Jvm.Cond → Bool
  | .code _ _ _ _ => true
  | _ => false
theorem all_split {L : List Jvm.Cond} {P : Jvm.Cond → Bool} (h1 : L.all (fun c => isCode c || P c) = true) (h2 : ∀ c ∈ L.filter isCode, P c = true) : L.all P = true := by
  refine List.all_eq_true.mpr fun c hc => ?_
  have h := List.all_eq_true.mp h1 c hc
  rcases Bool.eq_false_or_eq_true (isCode c) with hi | hi
  · exact h2 c (List.mem_filter.mpr ⟨hc, hi⟩)
  · simpa [hi] using h
set_option maxRecDepth 65536 in
theorem w_c0 : (Jvm.Cond.code x code maxLocals ret).before args0 about1 = true := code_word (m := ⟨1, 1⟩) (meth := k1m1) (c := k1c1) (by decide +kernel) rfl rfl rfl (by decide +kernel)
set_option maxRecDepth 65536 in
theorem w_c1 : (Jvm.Cond.code ({ cls := "com/example/nestor/nestor/negotiation/Side", name := "other", desc := "()Lcom/example/nestor/nestor/negotiation/Side;" } : Jvm.MethodName) prog_42_method_5_code (1 : Nat) (Option.some (Jvm.ClassFile.FieldType.object "com/example/nestor/nestor/negotiation/Side"))).before args0 about1 = true := code_word (m := ⟨6, 0⟩) (meth := k6m0) (c := k6c0) (by decide +kernel) rfl rfl rfl (by decide +kernel)
def codes1 : List Jvm.Cond := [Jvm.Cond.code x code maxLocals ret, Jvm.Cond.code ({ cls := "com/example/nestor/nestor/negotiation/Side", name := "other", desc := "()Lcom/example/nestor/nestor/negotiation/Side;" } : Jvm.MethodName) prog_42_method_5_code (1 : Nat) (Option.some (Jvm.ClassFile.FieldType.object "com/example/nestor/nestor/negotiation/Side"))]
set_option maxRecDepth 65536 in
theorem codes_eq : words1.filter isCode = codes1 := rfl
theorem w_codes : ∀ c ∈ words1.filter isCode, c.before args0 about1 = true := by
  rw [codes_eq]
  intro c hc
  simp only [codes1, List.mem_cons, List.not_mem_nil, or_false] at hc
  rcases hc with rfl | rfl
  · exact w_c0
  · exact w_c1
set_option maxRecDepth 65536 in
theorem w_t1 : words1.all (fun c => isCode c || c.before args0 about1) = true := by decide +kernel
theorem w_tables : (allAtoms (Jvm.Cond.code x code maxLocals ret :: tables_1)).before args0 about1 = true := by
  rw [allAtoms_all]
  show words1.all (fun c => c.before args0 about1) = true
  refine all_split ?_ w_codes
  rw [w_t1]
set_option maxRecDepth 65536 in
theorem w_case : (Jvm.Cond.and given_1 narrow_1).before args0 about1 = true := by decide +kernel
theorem w_applies : (headSpec (Jvm.Cond.code x code maxLocals ret :: tables_1) room_1).applies x e0.platform about1 = true :=
  (Spec.applies_iff w_frames).mpr ⟨w_running, w_runnable, w_alone, w_named, w_hears, w_ripe, w_room, w_tables⟩
theorem atStart : AtStart classFile x code maxLocals ret World_1 tables_1 room_1 Calls_1 rest_1 Pre_1 launch0 p0 e0 about1 theMethod args0 below0 :=
  ⟨lists_1, trivial, launch0.admits_env _ _ _, launch0.least_env, fairChoices_fair.cas, fairChoices_fair.clock, w_frames, w_args, w_heap, w_applies, trivial, trivial, w_case⟩
end start1
theorem witness_1 : WitnessClaimed_1 := ⟨start1.p0, start1.e0, start1.about1, start1.theMethod, start1.args0, start1.below0, start1.atStart⟩
end Jvm.Pilot.@@N@@
