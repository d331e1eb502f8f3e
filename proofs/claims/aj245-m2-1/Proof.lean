import JvmDerived
import JvmDerived.Pilot.@@N@@Statement
import JvmDerived.Pilot.@@N@@Code
set_option linter.unusedVariables false
set_option linter.unusedSimpArgs false
@@BLOCK:NumsL.lean.txt@@
namespace Jvm.Pilot.@@N@@
open Jvm Jvm.ClassFile Sem Op Lib Jvm.Free Jvm.Stand Jvm.LawKit Jvm.RoadKit Bundle Jvm.Pilot.@@N@@.Jvm.D
def own_Goes (p : Program) (e : Env) (below : List Frame) (s : State) (Q : Option Value → Heap → List Loc → Prop) (ce sl : Nat) (A : State) : Prop :=
  ∃ s₂ o, Steps p.tables e below A s₂ ∧ s₂.status = .running ∧ Ended s₂ below o ∧ ∃ v L, o = .returned v ∧ Q v s₂.heap L ∧ FrameEnd s o s₂ L ce sl
theorem own_pre {p : Program} {e : Env} {below : List Frame} {s : State} {Q : Option Value → Heap → List Loc → Prop} {ce sl : Nat} {A B : State} (h : ∀ t, Steps p.tables e below A t → Steps p.tables e below B t) (G : own_Goes p e below s Q ce sl A) : own_Goes p e below s Q ce sl B := by
  obtain ⟨s₂, o, h1, r⟩ := G
  exact ⟨s₂, o, h _ h1, r⟩
theorem own_end {p : Program} {l : Launch} {e : Env} {R : Room} {s : State} {m : MethodId} {args : Array Value} {below : List Frame} {meth : Method} {c : Code} {T : State} {locs : List Loc} {cells slots : Nat} (X : Stand p l e R s m args below meth c T locs cells slots)
    {v : Option Value} {Q : Option Value → Heap → List Loc → Prop} {ce sl : Nat} {A : State} (hlocks : meth.locks = false) (hv : meth.sig.returnType = none → v = none)
    (hstep : ∀ fs, (∀ (f : JFrame) (acts : List Action), f.method = m → f.locked = none → f.entered = [] → (doReturn e (T.setTop f) acts v).1 = T.setFrames fs) → Steps p.tables e below A (T.setFrames fs))
    (hQ : Q v T.heap locs) (hc : cells ≤ ce) (hs : slots ≤ sl) : own_Goes p e below s Q ce sl A := by
  obtain ⟨fs, hr, hrun, hended, hW, hsame⟩ := X.leave hv hlocks
  exact ⟨_, _, hstep fs hr, hrun, hended, _, _, rfl, hQ, ⟨_, rfl⟩, hW, hsame.mono hc hs⟩
theorem own_lrem_eq (x y : Int64) : x - (x / y) * y = x % y := Int64.toInt_inj.mp (by rw [Jvm.Kit.i64_rem, Int64.toInt_mod])
theorem own_lrem {tb : Tables} [Ours tb] {e : Env} {below : List Frame} {T target : State} {m : MethodId} {c : Code} {g : JFrame} (h : At T m c below) (hx : tb.exec = Jvm.exec) (hg : g.method = m) {x y : Int64} {rest : List Value} (hd : decode c.code g.pc = .ok (.lrem, 1)) (hs : g.stack = .long y :: .long x :: rest) (hy : y ≠ 0)
    (hr : Steps tb e below (T.setTop { g with pc := g.pc + 1, stack := .long (x % y) :: rest }) target) : Steps tb e below (T.setTop g) target :=
  XS.lrem h hx hg hd hs hy (by rw [own_lrem_eq]; exact hr)
theorem own_h {a0 : Array Value} {Z : State} {L : List Jvm.Cond} (hw : ∀ d ∈ L, d.before a0 Z = true) (i : Nat) {d : Jvm.Cond} (h : L[i]? = some d) : d.before a0 Z = true := hw _ (List.mem_of_getElem? h)
theorem own_pn0 : plainName "com/example/lexrow/lexrow/model/GcRule$MaxAge" = true := by first | (simp [plainName, overriddenIn]; done) | decide +kernel
theorem d1_0 : decode prog_14_method_1_code 0 = .ok (.aload_n 0, 1) := by decide +kernel
theorem d1_1 : decode prog_14_method_1_code 1 = .ok (.invokespecial 1, 3) := by decide +kernel
theorem d1_4 : decode prog_14_method_1_code 4 = .ok (.lload_n 1, 1) := by decide +kernel
theorem d1_5 : decode prog_14_method_1_code 5 = .ok (.lconst 1, 1) := by decide +kernel
theorem d1_6 : decode prog_14_method_1_code 6 = .ok (.lcmp, 1) := by decide +kernel
theorem d1_7 : decode prog_14_method_1_code 7 = .ok (.ifCond .ge 17, 3) := by decide +kernel
theorem d1_24 : decode prog_14_method_1_code 24 = .ok (.lload_n 1, 1) := by decide +kernel
theorem d1_25 : decode prog_14_method_1_code 25 = .ok (.ldc2_w 20, 3) := by decide +kernel
theorem d1_28 : decode prog_14_method_1_code 28 = .ok (.lcmp, 1) := by decide +kernel
theorem d1_29 : decode prog_14_method_1_code 29 = .ok (.ifCond .le 17, 3) := by decide +kernel
theorem d1_46 : decode prog_14_method_1_code 46 = .ok (.aload_n 0, 1) := by decide +kernel
theorem d1_47 : decode prog_14_method_1_code 47 = .ok (.lload_n 1, 1) := by decide +kernel
theorem d1_48 : decode prog_14_method_1_code 48 = .ok (.putfield 23, 3) := by decide +kernel
theorem d1_51 : decode prog_14_method_1_code 51 = .ok (.aload_n 0, 1) := by decide +kernel
theorem d1_52 : decode prog_14_method_1_code 52 = .ok (.lload_n 1, 1) := by decide +kernel
theorem d1_53 : decode prog_14_method_1_code 53 = .ok (.ldc2_w 29, 3) := by decide +kernel
theorem d1_56 : decode prog_14_method_1_code 56 = .ok (.lmul, 1) := by decide +kernel
theorem d1_57 : decode prog_14_method_1_code 57 = .ok (.putfield 31, 3) := by decide +kernel
theorem d1_60 : decode prog_14_method_1_code 60 = .ok (.return_, 1) := by decide +kernel
theorem ef1 (m : MethodId) (a0 : Addr) (q1 : Int64) : entryFrame m #[(.ref a0), (.long q1)] 3 = mkF m 0 #[rv a0, .val (.long q1), .second] [] := by first | (simp [entryFrame, mkF, argsToLocals, Value.category]; done) | rfl
def Q1 (Z : State) (a0 : Addr) (q1 : Int64)  (h0 : Heap) (n0 : Nat) (v : Option Value) (h : Heap) (L : List Loc) : Prop := v = none ∧ Fr n0 L ∧ Keep h0 h [a0] ∧ Fld Z h a0 "com/example/lexrow/lexrow/model/GcRule$MaxAge" "micros" "J" (.long (q1 * (1000:Int64)))
set_option maxRecDepth 65536 in
set_option maxHeartbeats 40000000 in
theorem rm1 (l : Launch) (Z : State) (aZ : Array Value) (hw : ∀ d ∈ tables_1, d.before aZ Z = true) (ws : List Jvm.Cond) (a0 : Addr) (q1 : Int64)  (h0 : Heap) (n0 : Nat) (Z0 : n0 ≤ h0.size) (P0 : Exa Z h0 a0 "com/example/lexrow/lexrow/model/GcRule$MaxAge") (P1 : Fld Z h0 a0 "com/example/lexrow/lexrow/model/GcRule$MaxAge" "millis" "J" (.long (0:Int64))) (P2 : Fld Z h0 a0 "com/example/lexrow/lexrow/model/GcRule$MaxAge" "micros" "J" (.long (0:Int64))) (gq_a0 : n0 ≤ a0) (hge : ¬ (q1 < (1:Int64))) (hle : ¬ ((9223372036854775:Int64) < q1)) :
    MetFree l (⟨"com/example/lexrow/lexrow/model/GcRule$MaxAge", "<init>", "(J)V"⟩ : MethodName) (head1 (Jvm.Cond.code (⟨"com/example/lexrow/lexrow/model/GcRule$MaxAge", "<init>", "(J)V"⟩ : MethodName) prog_14_method_1_code 3 none :: ws) ({ frames := 1, cells := 0, slots := 0, locals := 12 } : Room)) (fun a U => a = #[(.ref a0), (.long q1)] ∧ Z.Warmed39 U.vm ∧ U.heap = h0) (fun _ _ _ _ _ => True) (fun _ U o U' => ∃ v L, o = .returned v ∧ Q1 Z a0 q1 h0 n0 v U'.heap L ∧ FrameEnd U o U' L ({ frames := 1, cells := 0, slots := 0, locals := 12 } : Room).cells ({ frames := 1, cells := 0, slots := 0, locals := 12 } : Room).slots) := by
  refine MetFree.of_bodySF (plainFor_of_name own_pn0) hisR ?_
  intro p e s m args below meth c s₁ Bd hml0 hP hK
  obtain ⟨rfl, hZ, hh⟩ := hP
  have hx := Bd.exec
  have hby := Bd.bytes
  have hml : c.maxLocals = 3 := hml0
  have hown : s.vm.findClass "com/example/lexrow/lexrow/model/GcRule$MaxAge" = some m.cls := findClass_of_methodNamed Bd.named
  have hnm := (name_of_methodNamed Bd.named Bd.method).1
  have X0 : Stand p l e ({ frames := 1, cells := 0, slots := 0, locals := 12 } : Room) s m #[(.ref a0), (.long q1)] below meth c s₁ [] 0 0 := Stand.of_body Bd
  have e0 : s₁.heap = h0 := by rw [← hh, Bd.state]; rfl
  have N0 := Fr.nil n0
  have Kp0 : Keep h0 h0 [a0] := Keep.refl _ _
  show own_Goes p e below s (Q1 Z a0 q1 h0 n0) ({ frames := 1, cells := 0, slots := 0, locals := 12 } : Room).cells ({ frames := 1, cells := 0, slots := 0, locals := 12 } : Room).slots _
  refine own_pre (fun t k => castTop (ef1 m a0 q1) k) ?_
  refine own_pre (A := s₁.setTop (mkF m 1 #[rv a0, .val (.long q1), .second] [(.ref a0)])) (fun t k => ?_) ?_
  · show Steps p.tables e below (s₁.setTop (mkF m 0 #[rv a0, .val (.long q1), .second] [])) _
    refine XS.aloadN X0.here hx rfl (hb hby d1_0) rfl rfl ?_
    exact k
  obtain ⟨T1, X1, e1, st1⟩ := initO X0 hx hZ hown (own_h hw 8 rfl) (own_h hw 9 rfl) (own_h hw 10 rfl) e0 (g := (mkF m 1 #[rv a0, .val (.long q1), .second] [(.ref a0)])) rfl (by rw [hml]; rfl) rfl (hb hby d1_1) (by decide) (W := 0) (by show 2 * 0 + _ ≤ _; exact Nat.le_of_eq rfl) (by decide)
  refine own_pre st1 ?_
  have hd7_1 : ¬ (q1 < (1:Int64)) := hge
  have hd29_2 : ¬ ((9223372036854775:Int64) < q1) := hle
  refine own_pre (A := T1.setTop (mkF m 48 #[rv a0, .val (.long q1), .second] [(.long q1), (.ref a0)])) (fun t k => ?_) ?_
  · show Steps p.tables e below (T1.setTop (mkF m 4 #[rv a0, .val (.long q1), .second] [])) _
    refine XS.lloadN X1.here hx rfl (hb hby d1_4) rfl ?_
    show Steps p.tables e below (T1.setTop (mkF m 5 #[rv a0, .val (.long q1), .second] [(.long q1)])) _
    refine XS.lconst X1.here hx rfl (hb hby d1_5) ?_
    show Steps p.tables e below (T1.setTop (mkF m 6 #[rv a0, .val (.long q1), .second] [(.long (1:Int64)), (.long q1)])) _
    refine XT.lcmp X1.here hx rfl (hb hby d1_6) rfl ?_
    show Steps p.tables e below (T1.setTop (mkF m 7 #[rv a0, .val (.long q1), .second] [(.int (XT.cmpL q1 (1:Int64)))])) _
    refine XS.ifYes X1.here hx rfl (pc0 := 7) (pc' := 24) rfl (hb hby d1_7) rfl (XT.ll_ge_t hd7_1) (by decide) (by decide) ?_
    show Steps p.tables e below (T1.setTop (mkF m 24 #[rv a0, .val (.long q1), .second] [])) _
    refine XS.lloadN X1.here hx rfl (hb hby d1_24) rfl ?_
    show Steps p.tables e below (T1.setTop (mkF m 25 #[rv a0, .val (.long q1), .second] [(.long q1)])) _
    refine Jvm.Stand.ldc2J X1 hx hown (mvT hZ (own_h hw 11 rfl)) rfl (hb hby d1_25) ?_
    show Steps p.tables e below (T1.setTop (mkF m 28 #[rv a0, .val (.long q1), .second] [(.long (9223372036854775:Int64)), (.long q1)])) _
    refine XT.lcmp X1.here hx rfl (hb hby d1_28) rfl ?_
    show Steps p.tables e below (T1.setTop (mkF m 29 #[rv a0, .val (.long q1), .second] [(.int (XT.cmpL q1 (9223372036854775:Int64)))])) _
    refine XS.ifYes X1.here hx rfl (pc0 := 29) (pc' := 46) rfl (hb hby d1_29) rfl (XT.ll_le_t hd29_2) (by decide) (by decide) ?_
    show Steps p.tables e below (T1.setTop (mkF m 46 #[rv a0, .val (.long q1), .second] [])) _
    refine XS.aloadN X1.here hx rfl (hb hby d1_46) rfl rfl ?_
    show Steps p.tables e below (T1.setTop (mkF m 47 #[rv a0, .val (.long q1), .second] [(.ref a0)])) _
    refine XS.lloadN X1.here hx rfl (hb hby d1_47) rfl ?_
    exact k
  obtain ⟨T2, h2, X2, e2, W2, st2⟩ := putF X1 hx hZ hown (host := "") (Or.inl (own_h hw 12 rfl)) Via.refl e1 P1 P0 (Or.inr ⟨(own_h hw 13 rfl), rfl, hnm⟩) (own_h hw 3 rfl) (ty := .long) (by decide) rfl rfl (g := (mkF m 48 #[rv a0, .val (.long q1), .second] [(.long q1), (.ref a0)])) rfl rfl (hb hby d1_48)
  have Kp2 : Keep h0 h2 [a0] := Kp0.wr W2 (Or.inl (List.mem_of_getElem? (i := 0) rfl))
  have Z3 : n0 ≤ h2.size := Nat.le_trans Z0 (Nat.le_of_eq W2.size.symm)
  have N2 := Fr.snoc X2 N0 gq_a0
  have Fw2 := P1.same W2
  refine own_pre st2 ?_
  refine own_pre (A := T2.setTop (mkF m 57 #[rv a0, .val (.long q1), .second] [(.long (q1 * (1000:Int64))), (.ref a0)])) (fun t k => ?_) ?_
  · show Steps p.tables e below (T2.setTop (mkF m 51 #[rv a0, .val (.long q1), .second] [])) _
    refine XS.aloadN X2.here hx rfl (hb hby d1_51) rfl rfl ?_
    show Steps p.tables e below (T2.setTop (mkF m 52 #[rv a0, .val (.long q1), .second] [(.ref a0)])) _
    refine XS.lloadN X2.here hx rfl (hb hby d1_52) rfl ?_
    show Steps p.tables e below (T2.setTop (mkF m 53 #[rv a0, .val (.long q1), .second] [(.long q1), (.ref a0)])) _
    refine Jvm.Stand.ldc2J X2 hx hown (mvT hZ (own_h hw 14 rfl)) rfl (hb hby d1_53) ?_
    show Steps p.tables e below (T2.setTop (mkF m 56 #[rv a0, .val (.long q1), .second] [(.long (1000:Int64)), (.long q1), (.ref a0)])) _
    refine XS.lmul X2.here hx rfl (hb hby d1_56) rfl ?_
    exact k
  have F5 := (P0.wr W2)
  have F6 := (P2.other W2 (Or.inr (slot_ne (Or.inr (own_h hw 16 rfl)) (Or.inr (own_h hw 13 rfl)) (by decide) (t := .long) (t' := .long) (by decide) (by decide))))
  obtain ⟨T4, h4, X4, e4, W4, st4⟩ := putF X2 hx hZ hown (host := "") (Or.inl (own_h hw 15 rfl)) Via.refl e2 F6 F5 (Or.inr ⟨(own_h hw 16 rfl), rfl, hnm⟩) (own_h hw 3 rfl) (ty := .long) (by decide) rfl rfl (g := (mkF m 57 #[rv a0, .val (.long q1), .second] [(.long (q1 * (1000:Int64))), (.ref a0)])) rfl rfl (hb hby d1_57)
  have Kp4 : Keep h0 h4 [a0] := Kp2.wr W4 (Or.inl (List.mem_of_getElem? (i := 0) rfl))
  have Z7 : n0 ≤ h4.size := Nat.le_trans Z3 (Nat.le_of_eq W4.size.symm)
  have N4 := Fr.snoc X4 N2 gq_a0
  have Fw4 := F6.same W4
  refine own_pre st4 ?_
  exact own_end X4 (BodyLoose.notSynchronized Bd) (fun _ => rfl) (v := none) (fun fs hr => X4.returnOut hx Bd.returns (hb hby d1_60) hr) (by show Q1 Z a0 q1 h0 n0 _ T4.heap _; rw [e4]; exact ⟨rfl, N4, Kp4, Fw4⟩) (by decide) (by decide)
theorem d3_0 : decode prog_14_method_3_code 0 = .ok (.lload_n 1, 1) := by decide +kernel
theorem d3_1 : decode prog_14_method_3_code 1 = .ok (.lload 5, 2) := by decide +kernel
theorem d3_3 : decode prog_14_method_3_code 3 = .ok (.aload_n 0, 1) := by decide +kernel
theorem d3_4 : decode prog_14_method_3_code 4 = .ok (.getfield 31, 3) := by decide +kernel
theorem d3_7 : decode prog_14_method_3_code 7 = .ok (.lsub, 1) := by decide +kernel
theorem d3_8 : decode prog_14_method_3_code 8 = .ok (.lcmp, 1) := by decide +kernel
theorem d3_9 : decode prog_14_method_3_code 9 = .ok (.ifCond .ge 7, 3) := by decide +kernel
theorem d3_12 : decode prog_14_method_3_code 12 = .ok (.iconst 1, 1) := by decide +kernel
theorem d3_13 : decode prog_14_method_3_code 13 = .ok (.goto 4, 3) := by decide +kernel
theorem d3_16 : decode prog_14_method_3_code 16 = .ok (.iconst 0, 1) := by decide +kernel
theorem d3_17 : decode prog_14_method_3_code 17 = .ok (.ireturn, 1) := by decide +kernel
theorem ef3 (m : MethodId) (a0 : Addr) (q1 : Int64) (q2 : Int64) (q3 : Int64) : entryFrame m #[(.ref a0), (.long q1), (.long q2), (.long q3)] 7 = mkF m 0 #[rv a0, .val (.long q1), .second, .val (.long q2), .second, .val (.long q3), .second] [] := by first | (simp [entryFrame, mkF, argsToLocals, Value.category]; done) | rfl
def f3 (q1 : Int64) (q2 : Int64) (q3 : Int64) (mic : Int64) : Int32 := (let w3_1 : Int32 := (if q1 < (q3 - mic) then (1:Int32) else (0:Int32)); (w3_1 &&& 1))
def Q3 (Z : State) (a0 : Addr) (q1 : Int64) (q2 : Int64) (q3 : Int64) (mic : Int64) (h0 : Heap) (n0 : Nat) (v : Option Value) (h : Heap) (L : List Loc) : Prop := v = some (.int (f3 q1 q2 q3 mic)) ∧ Fr n0 L ∧ h = h0
set_option maxRecDepth 65536 in
set_option maxHeartbeats 40000000 in
theorem rm3 (l : Launch) (Z : State) (aZ : Array Value) (hw : ∀ d ∈ tables_1, d.before aZ Z = true) (ws : List Jvm.Cond) (a0 : Addr) (q1 : Int64) (q2 : Int64) (q3 : Int64) (mic : Int64) (h0 : Heap) (n0 : Nat) (Z0 : n0 ≤ h0.size) (P0 : Fld Z h0 a0 "com/example/lexrow/lexrow/model/GcRule$MaxAge" "micros" "J" (.long mic)) :
    MetFree l (⟨"com/example/lexrow/lexrow/model/GcRule$MaxAge", "collects", "(JJJ)Z"⟩ : MethodName) (head1 (Jvm.Cond.code (⟨"com/example/lexrow/lexrow/model/GcRule$MaxAge", "collects", "(JJJ)Z"⟩ : MethodName) prog_14_method_3_code 7 (some .boolean) :: ws) ({ frames := 0, cells := 0, slots := 0, locals := 0 } : Room)) (fun a U => a = #[(.ref a0), (.long q1), (.long q2), (.long q3)] ∧ Z.Warmed39 U.vm ∧ U.heap = h0) (fun _ _ _ _ _ => True) (fun _ U o U' => ∃ v L, o = .returned v ∧ Q3 Z a0 q1 q2 q3 mic h0 n0 v U'.heap L ∧ FrameEnd U o U' L ({ frames := 0, cells := 0, slots := 0, locals := 0 } : Room).cells ({ frames := 0, cells := 0, slots := 0, locals := 0 } : Room).slots) := by
  refine MetFree.of_bodySF (plainFor_of_name own_pn0) hisR ?_
  intro p e s m args below meth c s₁ Bd hml0 hP hK
  obtain ⟨rfl, hZ, hh⟩ := hP
  have hx := Bd.exec
  have hby := Bd.bytes
  have hml : c.maxLocals = 7 := hml0
  have hown : s.vm.findClass "com/example/lexrow/lexrow/model/GcRule$MaxAge" = some m.cls := findClass_of_methodNamed Bd.named
  have hnm := (name_of_methodNamed Bd.named Bd.method).1
  have X0 : Stand p l e ({ frames := 0, cells := 0, slots := 0, locals := 0 } : Room) s m #[(.ref a0), (.long q1), (.long q2), (.long q3)] below meth c s₁ [] 0 0 := Stand.of_body Bd
  have e0 : s₁.heap = h0 := by rw [← hh, Bd.state]; rfl
  have N0 := Fr.nil n0
  show own_Goes p e below s (Q3 Z a0 q1 q2 q3 mic h0 n0) ({ frames := 0, cells := 0, slots := 0, locals := 0 } : Room).cells ({ frames := 0, cells := 0, slots := 0, locals := 0 } : Room).slots _
  refine own_pre (fun t k => castTop (ef3 m a0 q1 q2 q3) k) ?_
  refine own_pre (A := s₁.setTop (mkF m 4 #[rv a0, .val (.long q1), .second, .val (.long q2), .second, .val (.long q3), .second] [(.ref a0), (.long q3), (.long q1)])) (fun t k => ?_) ?_
  · show Steps p.tables e below (s₁.setTop (mkF m 0 #[rv a0, .val (.long q1), .second, .val (.long q2), .second, .val (.long q3), .second] [])) _
    refine XS.lloadN X0.here hx rfl (hb hby d3_0) rfl ?_
    show Steps p.tables e below (s₁.setTop (mkF m 1 #[rv a0, .val (.long q1), .second, .val (.long q2), .second, .val (.long q3), .second] [(.long q1)])) _
    refine XS.lload X0.here hx rfl (hb hby d3_1) rfl ?_
    show Steps p.tables e below (s₁.setTop (mkF m 3 #[rv a0, .val (.long q1), .second, .val (.long q2), .second, .val (.long q3), .second] [(.long q3), (.long q1)])) _
    refine XS.aloadN X0.here hx rfl (hb hby d3_3) rfl rfl ?_
    exact k
  obtain ⟨T8, X8, e8, st8⟩ := getF X0 hx hZ hown (host := "") (Or.inl (own_h hw 15 rfl)) Via.refl e0 P0 (g := (mkF m 4 #[rv a0, .val (.long q1), .second, .val (.long q2), .second, .val (.long q3), .second] [(.ref a0), (.long q3), (.long q1)])) rfl rfl (hb hby d3_4)
  refine own_pre st8 ?_
  refine own_pre (A := T8.setTop (mkF m 9 #[rv a0, .val (.long q1), .second, .val (.long q2), .second, .val (.long q3), .second] [(.int (XT.cmpL q1 (q3 - mic)))])) (fun t k => ?_) ?_
  · show Steps p.tables e below (T8.setTop (mkF m 7 #[rv a0, .val (.long q1), .second, .val (.long q2), .second, .val (.long q3), .second] [(.long mic), (.long q3), (.long q1)])) _
    refine XS.lsub X8.here hx rfl (hb hby d3_7) rfl ?_
    show Steps p.tables e below (T8.setTop (mkF m 8 #[rv a0, .val (.long q1), .second, .val (.long q2), .second, .val (.long q3), .second] [(.long (q3 - mic)), (.long q1)])) _
    refine XT.lcmp X8.here hx rfl (hb hby d3_8) rfl ?_
    exact k
  obtain ⟨w3_1, hw3_1⟩ : ∃ z : Int32, z = (if q1 < (q3 - mic) then (1:Int32) else (0:Int32)) := ⟨_, rfl⟩
  refine own_pre (A := T8.setTop (mkF m 17 #[rv a0, .val (.long q1), .second, .val (.long q2), .second, .val (.long q3), .second] [(.int w3_1)])) (fun t k => ?_) ?_
  · show Steps p.tables e below (T8.setTop (mkF m 9 #[rv a0, .val (.long q1), .second, .val (.long q2), .second, .val (.long q3), .second] [(.int (XT.cmpL q1 (q3 - mic)))])) _
    by_cases hm9_1 : q1 < (q3 - mic)
    · refine XS.ifNo X8.here hx rfl (hb hby d3_9) rfl (XT.ll_ge_f hm9_1) ?_
      show Steps p.tables e below (T8.setTop (mkF m 12 #[rv a0, .val (.long q1), .second, .val (.long q2), .second, .val (.long q3), .second] [])) _
      refine XS.iconst X8.here hx rfl (hb hby d3_12) ?_
      show Steps p.tables e below (T8.setTop (mkF m 13 #[rv a0, .val (.long q1), .second, .val (.long q2), .second, .val (.long q3), .second] [(.int (1:Int32))])) _
      refine XS.goto X8.here hx rfl (pc0 := 13) (pc' := 17) rfl (hb hby d3_13) (by decide) (by decide) ?_
      rw [hw3_1.trans (if_pos hm9_1)] at k
      exact k
    · refine XS.ifYes X8.here hx rfl (pc0 := 9) (pc' := 16) rfl (hb hby d3_9) rfl (XT.ll_ge_t hm9_1) (by decide) (by decide) ?_
      show Steps p.tables e below (T8.setTop (mkF m 16 #[rv a0, .val (.long q1), .second, .val (.long q2), .second, .val (.long q3), .second] [])) _
      refine XS.iconst X8.here hx rfl (hb hby d3_16) ?_
      rw [hw3_1.trans (if_neg hm9_1)] at k
      exact k
  have hv9 : (w3_1 &&& 1) = f3 q1 q2 q3 mic := by subst hw3_1; rfl
  exact own_end X8 (BodyLoose.notSynchronized Bd) (fun h => by rw [Bd.returns] at h; cases h) (v := some (.int (w3_1 &&& 1))) (fun fs hr => retN X8 hx (t := .boolean) Bd.returns (by simp) (hb hby d3_17) hr) (by show Q3 Z a0 q1 q2 q3 mic h0 n0 _ T8.heap _; rw [e8]; exact ⟨(congrArg (fun z => some (Value.int z)) hv9), N0, rfl⟩) (by decide) (by decide)
theorem own_mil0 (m w : Int64) (hw : w = (((m &&& (9223372036854775807:Int64)) % (9223372036854775:Int64)) + (1:Int64))) : w.toInt = (m.toInt % 2 ^ 63) % 9223372036854775 + 1 := by
  have e1 : (m &&& (9223372036854775807:Int64)).toInt = m.toInt % 2 ^ 63 := Jvm.Kit.i64_mask m _ (k := 63) (by decide) (by decide)
  have l1 : (9223372036854775:Int64).toInt = 9223372036854775 := by decide
  have l2 : (1:Int64).toInt = 1 := by decide
  have e2 : ((m &&& (9223372036854775807:Int64)) % (9223372036854775:Int64)).toInt = (m.toInt % 2 ^ 63) % 9223372036854775 := by
    rw [Int64.toInt_mod, e1, l1, Int.tmod_eq_emod_of_nonneg (by omega)]
  rw [hw, Jvm.Kit.i64_add (by rw [e2, l2]; omega) (by rw [e2, l2]; omega), e2, l2]
theorem own_mil (m w : Int64) (hw : w = (((m &&& (9223372036854775807:Int64)) % (9223372036854775:Int64)) + (1:Int64))) : ¬ (w < (1:Int64)) ∧ ¬ ((9223372036854775:Int64) < w) := by
  have h := own_mil0 m w hw
  have l1 : (9223372036854775:Int64).toInt = 9223372036854775 := by decide
  have l2 : (1:Int64).toInt = 1 := by decide
  rw [Int64.lt_iff_toInt_lt, Int64.lt_iff_toInt_lt, l1, l2, h]
  omega
theorem own_pn1 : plainName "com/example/lexrow/lexrow/model/MaxAgeCollectsPinLaw" = true := by first | (simp [plainName, overriddenIn]; done) | decide +kernel
theorem own_pd0 : parseMethodDescriptor "(J)V" = some ⟨[.long], none⟩ := by decide +kernel
theorem own_pd1 : parseMethodDescriptor "(JJJ)Z" = some ⟨[.long, .long, .long], some .boolean⟩ := by decide +kernel
theorem ef0 (m : MethodId) (q0 : Int64) (q1 : Int64) (q2 : Int64) (q3 : Int64) : entryFrame m #[(.long q0), (.long q1), (.long q2), (.long q3)] maxLocals = mkF m 0 #[.val (.long q0), .second, .val (.long q1), .second, .val (.long q2), .second, .val (.long q3), .second, .unset, .unset, .unset, .unset, .unset, .unset, .unset, .unset, .unset, .unset, .unset, .unset, .unset] [] := by first | (simp [entryFrame, mkF, argsToLocals, Value.category, maxLocals]; done) | rfl
def f0 (q0 : Int64) (q1 : Int64) (q2 : Int64) (q3 : Int64) : Int32 := (let w0_1 : Int64 := (((q0 &&& (9223372036854775807:Int64)) % (9223372036854775:Int64)) + (1:Int64)); let w0_2 : Int64 := (q1 &&& (9223372036854775807:Int64)); let w0_3 : Int64 := (q2 &&& (9223372036854775807:Int64)); let w0_4 : Int32 := (f3 w0_2 q3 w0_3 (w0_1 * (1000:Int64))); let w0_5 : Int32 := (if (w0_1 * (1000:Int64)) < (w0_3 - w0_2) then (1:Int32) else (0:Int32)); let w0_6 : Int32 := (if w0_4 = w0_5 then (1:Int32) else (0:Int32)); (w0_6 &&& 1))
def Q0 (Z : State) (q0 : Int64) (q1 : Int64) (q2 : Int64) (q3 : Int64)  (h0 : Heap) (n0 : Nat) (v : Option Value) (h : Heap) (L : List Loc) : Prop := v = some (.int (f0 q0 q1 q2 q3)) ∧ Fr n0 L
set_option maxRecDepth 65536 in
set_option maxHeartbeats 40000000 in
theorem rm0 (l : Launch) (Z : State) (aZ : Array Value) (hw : ∀ d ∈ tables_1, d.before aZ Z = true) (ws : List Jvm.Cond) (q0 : Int64) (q1 : Int64) (q2 : Int64) (q3 : Int64)  (h0 : Heap) (n0 : Nat) (Z0 : n0 ≤ h0.size)  :
    MetFree l x (head1 (Jvm.Cond.code x code maxLocals ret :: ws) room_1) (fun a U => a = #[(.long q0), (.long q1), (.long q2), (.long q3)] ∧ Z.Warmed39 U.vm ∧ U.heap = h0) (fun _ _ _ _ _ => True) (fun _ U o U' => ∃ v L, o = .returned v ∧ Q0 Z q0 q1 q2 q3 h0 n0 v U'.heap L ∧ FrameEnd U o U' L 1 2) := by
  refine MetFree.of_bodySF (plainFor_of_name own_pn1) hisR ?_
  intro p e s m args below meth c s₁ Bd hml0 hP hK
  obtain ⟨rfl, hZ, hh⟩ := hP
  have hx := Bd.exec
  have hby := Bd.bytes
  have hml : c.maxLocals = 21 := hml0
  have hown : s.vm.findClass "com/example/lexrow/lexrow/model/MaxAgeCollectsPinLaw" = some m.cls := findClass_of_methodNamed Bd.named
  have hnm := (name_of_methodNamed Bd.named Bd.method).1
  have X0 : Stand p l e room_1 s m #[(.long q0), (.long q1), (.long q2), (.long q3)] below meth c s₁ [] 0 0 := Stand.of_body Bd
  have e0 : s₁.heap = h0 := by rw [← hh, Bd.state]; rfl
  have N0 := Fr.nil n0
  show own_Goes p e below s (Q0 Z q0 q1 q2 q3 h0 n0) 1 2 _
  refine own_pre (fun t k => castTop (ef0 m q0 q1 q2 q3) k) ?_
  obtain ⟨w0_1, hw0_1⟩ : ∃ z : Int64, z = (((q0 &&& (9223372036854775807:Int64)) % (9223372036854775:Int64)) + (1:Int64)) := ⟨_, rfl⟩
  obtain ⟨w0_2, hw0_2⟩ : ∃ z : Int64, z = (q1 &&& (9223372036854775807:Int64)) := ⟨_, rfl⟩
  obtain ⟨w0_3, hw0_3⟩ : ∃ z : Int64, z = (q2 &&& (9223372036854775807:Int64)) := ⟨_, rfl⟩
  refine own_pre (A := s₁.setTop (mkF m 28 #[.val (.long q0), .second, .val (.long q1), .second, .val (.long q2), .second, .val (.long q3), .second, .val (.long w0_1), .second, .val (.long w0_2), .second, .val (.long w0_3), .second, .unset, .unset, .unset, .unset, .unset, .unset, .unset] [])) (fun t k => ?_) ?_
  · show Steps p.tables e below (s₁.setTop (mkF m 0 #[.val (.long q0), .second, .val (.long q1), .second, .val (.long q2), .second, .val (.long q3), .second, .unset, .unset, .unset, .unset, .unset, .unset, .unset, .unset, .unset, .unset, .unset, .unset, .unset] [])) _
    refine XS.lloadN X0.here hx rfl (hb hby at_0) rfl ?_
    show Steps p.tables e below (s₁.setTop (mkF m 1 #[.val (.long q0), .second, .val (.long q1), .second, .val (.long q2), .second, .val (.long q3), .second, .unset, .unset, .unset, .unset, .unset, .unset, .unset, .unset, .unset, .unset, .unset, .unset, .unset] [(.long q0)])) _
    refine Jvm.Stand.ldc2J X0 hx hown (mvT hZ (own_h hw 0 rfl)) rfl (hb hby at_1) ?_
    show Steps p.tables e below (s₁.setTop (mkF m 4 #[.val (.long q0), .second, .val (.long q1), .second, .val (.long q2), .second, .val (.long q3), .second, .unset, .unset, .unset, .unset, .unset, .unset, .unset, .unset, .unset, .unset, .unset, .unset, .unset] [(.long (9223372036854775807:Int64)), (.long q0)])) _
    refine XS.land X0.here hx rfl (hb hby at_4) rfl ?_
    show Steps p.tables e below (s₁.setTop (mkF m 5 #[.val (.long q0), .second, .val (.long q1), .second, .val (.long q2), .second, .val (.long q3), .second, .unset, .unset, .unset, .unset, .unset, .unset, .unset, .unset, .unset, .unset, .unset, .unset, .unset] [(.long (q0 &&& (9223372036854775807:Int64)))])) _
    refine Jvm.Stand.ldc2J X0 hx hown (mvT hZ (own_h hw 1 rfl)) rfl (hb hby at_5) ?_
    show Steps p.tables e below (s₁.setTop (mkF m 8 #[.val (.long q0), .second, .val (.long q1), .second, .val (.long q2), .second, .val (.long q3), .second, .unset, .unset, .unset, .unset, .unset, .unset, .unset, .unset, .unset, .unset, .unset, .unset, .unset] [(.long (9223372036854775:Int64)), (.long (q0 &&& (9223372036854775807:Int64)))])) _
    refine own_lrem X0.here hx rfl (hb hby at_8) rfl (by decide) ?_
    show Steps p.tables e below (s₁.setTop (mkF m 9 #[.val (.long q0), .second, .val (.long q1), .second, .val (.long q2), .second, .val (.long q3), .second, .unset, .unset, .unset, .unset, .unset, .unset, .unset, .unset, .unset, .unset, .unset, .unset, .unset] [(.long ((q0 &&& (9223372036854775807:Int64)) % (9223372036854775:Int64)))])) _
    refine XS.lconst X0.here hx rfl (hb hby at_9) ?_
    show Steps p.tables e below (s₁.setTop (mkF m 10 #[.val (.long q0), .second, .val (.long q1), .second, .val (.long q2), .second, .val (.long q3), .second, .unset, .unset, .unset, .unset, .unset, .unset, .unset, .unset, .unset, .unset, .unset, .unset, .unset] [(.long (1:Int64)), (.long ((q0 &&& (9223372036854775807:Int64)) % (9223372036854775:Int64)))])) _
    refine XS.ladd X0.here hx rfl (hb hby at_10) rfl ?_
    show Steps p.tables e below (s₁.setTop (mkF m 11 #[.val (.long q0), .second, .val (.long q1), .second, .val (.long q2), .second, .val (.long q3), .second, .unset, .unset, .unset, .unset, .unset, .unset, .unset, .unset, .unset, .unset, .unset, .unset, .unset] [(.long (((q0 &&& (9223372036854775807:Int64)) % (9223372036854775:Int64)) + (1:Int64)))])) _
    refine XS.lstore X0.here hx rfl (hb hby at_11) rfl (l' := #[.val (.long q0), .second, .val (.long q1), .second, .val (.long q2), .second, .val (.long q3), .second, .val (.long w0_1), .second, .unset, .unset, .unset, .unset, .unset, .unset, .unset, .unset, .unset, .unset, .unset]) (by rw [hw0_1]; rfl) ?_
    show Steps p.tables e below (s₁.setTop (mkF m 13 #[.val (.long q0), .second, .val (.long q1), .second, .val (.long q2), .second, .val (.long q3), .second, .val (.long w0_1), .second, .unset, .unset, .unset, .unset, .unset, .unset, .unset, .unset, .unset, .unset, .unset] [])) _
    refine XS.lloadN X0.here hx rfl (hb hby at_13) rfl ?_
    show Steps p.tables e below (s₁.setTop (mkF m 14 #[.val (.long q0), .second, .val (.long q1), .second, .val (.long q2), .second, .val (.long q3), .second, .val (.long w0_1), .second, .unset, .unset, .unset, .unset, .unset, .unset, .unset, .unset, .unset, .unset, .unset] [(.long q1)])) _
    refine Jvm.Stand.ldc2J X0 hx hown (mvT hZ (own_h hw 0 rfl)) rfl (hb hby at_14) ?_
    show Steps p.tables e below (s₁.setTop (mkF m 17 #[.val (.long q0), .second, .val (.long q1), .second, .val (.long q2), .second, .val (.long q3), .second, .val (.long w0_1), .second, .unset, .unset, .unset, .unset, .unset, .unset, .unset, .unset, .unset, .unset, .unset] [(.long (9223372036854775807:Int64)), (.long q1)])) _
    refine XS.land X0.here hx rfl (hb hby at_17) rfl ?_
    show Steps p.tables e below (s₁.setTop (mkF m 18 #[.val (.long q0), .second, .val (.long q1), .second, .val (.long q2), .second, .val (.long q3), .second, .val (.long w0_1), .second, .unset, .unset, .unset, .unset, .unset, .unset, .unset, .unset, .unset, .unset, .unset] [(.long (q1 &&& (9223372036854775807:Int64)))])) _
    refine XS.lstore X0.here hx rfl (hb hby at_18) rfl (l' := #[.val (.long q0), .second, .val (.long q1), .second, .val (.long q2), .second, .val (.long q3), .second, .val (.long w0_1), .second, .val (.long w0_2), .second, .unset, .unset, .unset, .unset, .unset, .unset, .unset, .unset, .unset]) (by rw [hw0_2]; rfl) ?_
    show Steps p.tables e below (s₁.setTop (mkF m 20 #[.val (.long q0), .second, .val (.long q1), .second, .val (.long q2), .second, .val (.long q3), .second, .val (.long w0_1), .second, .val (.long w0_2), .second, .unset, .unset, .unset, .unset, .unset, .unset, .unset, .unset, .unset] [])) _
    refine XS.lload X0.here hx rfl (hb hby at_20) rfl ?_
    show Steps p.tables e below (s₁.setTop (mkF m 22 #[.val (.long q0), .second, .val (.long q1), .second, .val (.long q2), .second, .val (.long q3), .second, .val (.long w0_1), .second, .val (.long w0_2), .second, .unset, .unset, .unset, .unset, .unset, .unset, .unset, .unset, .unset] [(.long q2)])) _
    refine Jvm.Stand.ldc2J X0 hx hown (mvT hZ (own_h hw 0 rfl)) rfl (hb hby at_22) ?_
    show Steps p.tables e below (s₁.setTop (mkF m 25 #[.val (.long q0), .second, .val (.long q1), .second, .val (.long q2), .second, .val (.long q3), .second, .val (.long w0_1), .second, .val (.long w0_2), .second, .unset, .unset, .unset, .unset, .unset, .unset, .unset, .unset, .unset] [(.long (9223372036854775807:Int64)), (.long q2)])) _
    refine XS.land X0.here hx rfl (hb hby at_25) rfl ?_
    show Steps p.tables e below (s₁.setTop (mkF m 26 #[.val (.long q0), .second, .val (.long q1), .second, .val (.long q2), .second, .val (.long q3), .second, .val (.long w0_1), .second, .val (.long w0_2), .second, .unset, .unset, .unset, .unset, .unset, .unset, .unset, .unset, .unset] [(.long (q2 &&& (9223372036854775807:Int64)))])) _
    refine XS.lstore X0.here hx rfl (hb hby at_26) rfl (l' := #[.val (.long q0), .second, .val (.long q1), .second, .val (.long q2), .second, .val (.long q3), .second, .val (.long w0_1), .second, .val (.long w0_2), .second, .val (.long w0_3), .second, .unset, .unset, .unset, .unset, .unset, .unset, .unset]) (by rw [hw0_3]; rfl) ?_
    exact k
  obtain ⟨T10, h10, X10, e10, E10, A10, D10, -, st10⟩ := newO X0 hx hZ hown (own_h hw 2 rfl) (own_h hw 3 rfl) (own_h hw 4 rfl) e0 (g := (mkF m 28 #[.val (.long q0), .second, .val (.long q1), .second, .val (.long q2), .second, .val (.long q3), .second, .val (.long w0_1), .second, .val (.long w0_2), .second, .val (.long w0_3), .second, .unset, .unset, .unset, .unset, .unset, .unset, .unset] [])) rfl (hb hby at_28) (by decide) (by decide)
  obtain ⟨b10, g10⟩ : ∃ z, z = h0.size := ⟨_, rfl⟩
  rw [← g10] at A10 D10 st10
  have ge_b10 : n0 ≤ b10 := Nat.le_trans Z0 (Nat.le_of_eq g10.symm)
  have Z11 : n0 ≤ h10.size := Nat.le_trans Z0 E10.1
  have F10_millis : Fld Z h10 b10 "com/example/lexrow/lexrow/model/GcRule$MaxAge" "millis" "J" (.long (0:Int64)) := D10 (Or.inr (own_h hw 13 rfl)) (ty := .long) (by decide)
  have F10_micros : Fld Z h10 b10 "com/example/lexrow/lexrow/model/GcRule$MaxAge" "micros" "J" (.long (0:Int64)) := D10 (Or.inr (own_h hw 16 rfl)) (ty := .long) (by decide)
  refine own_pre st10 ?_
  refine own_pre (A := T10.setTop (mkF m 34 #[.val (.long q0), .second, .val (.long q1), .second, .val (.long q2), .second, .val (.long q3), .second, .val (.long w0_1), .second, .val (.long w0_2), .second, .val (.long w0_3), .second, .unset, .unset, .unset, .unset, .unset, .unset, .unset] [(.long w0_1), (.ref b10), (.ref b10)])) (fun t k => ?_) ?_
  · show Steps p.tables e below (T10.setTop (mkF m 31 #[.val (.long q0), .second, .val (.long q1), .second, .val (.long q2), .second, .val (.long q3), .second, .val (.long w0_1), .second, .val (.long w0_2), .second, .val (.long w0_3), .second, .unset, .unset, .unset, .unset, .unset, .unset, .unset] [(.ref b10)])) _
    refine XS.dup X10.here hx rfl (hb hby at_31) rfl rfl ?_
    show Steps p.tables e below (T10.setTop (mkF m 32 #[.val (.long q0), .second, .val (.long q1), .second, .val (.long q2), .second, .val (.long q3), .second, .val (.long w0_1), .second, .val (.long w0_2), .second, .val (.long w0_3), .second, .unset, .unset, .unset, .unset, .unset, .unset, .unset] [(.ref b10), (.ref b10)])) _
    refine XS.lload X10.here hx rfl (hb hby at_32) rfl ?_
    exact k
  obtain ⟨_, _, ⟨T12, L12, k12, n12⟩, -, X12, ⟨Lc12, hQ12, l12, y12, z12⟩, st12⟩ := X10.specialBack hx (y := (⟨"com/example/lexrow/lexrow/model/GcRule$MaxAge", "<init>", "(J)V"⟩ : MethodName)) rfl hown (mvT hZ (own_h hw 5 rfl)) (mvT hZ (own_h hw 6 rfl)) (mvT hZ (own_h hw 7 rfl)) (by decide) (backOf (W := 1) (rm1 l Z aZ hw [] b10 w0_1 h10 n0 Z11 A10 F10_millis F10_micros ge_b10 (own_mil _ _ hw0_1).1 (own_mil _ _ hw0_1).2) hZ (own_h hw 7 rfl) (own_h hw 4 rfl) (by decide) (by decide)) (g := (mkF m 34 #[.val (.long q0), .second, .val (.long q1), .second, .val (.long q2), .second, .val (.long q3), .second, .val (.long w0_1), .second, .val (.long w0_2), .second, .val (.long w0_3), .second, .unset, .unset, .unset, .unset, .unset, .unset, .unset] [(.long w0_1), (.ref b10), (.ref b10)])) rfl (by rw [hml]; rfl) (Steps.refl _) (a := b10) (argsL := [(.long w0_1)]) (rest := [(.ref b10)]) (lenOf own_pd0 rfl) rfl (by show 2 * 0 + _ ≤ _; exact Nat.le_of_eq rfl) (hb hby at_34) (fun _ _ => ⟨rfl, e10, (by decide : 1 + 0 ≤ _), (by decide : 2 + 0 ≤ _)⟩)
  dsimp only [Pt.U, Pt.locs, Pt.cells, Pt.slots] at X12 l12 y12 z12 st12 hQ12
  subst l12 y12 z12
  obtain ⟨rfl, N12q, K12, G13⟩ := hQ12
  have N12 := Fr.app N0 N12q
  have Z14 : n0 ≤ T12.heap.size := Nat.le_trans Z11 K12.1
  refine own_pre (fun _ k => st12.trans k) ?_
  refine own_pre (A := T12.setTop (mkF m 47 #[.val (.long q0), .second, .val (.long q1), .second, .val (.long q2), .second, .val (.long q3), .second, .val (.long w0_1), .second, .val (.long w0_2), .second, .val (.long w0_3), .second, rv b10, .unset, .unset, .unset, .unset, .unset, .unset] [(.long w0_3), (.long q3), (.long w0_2), (.ref b10)])) (fun t k => ?_) ?_
  · show Steps p.tables e below (T12.setTop (mkF m 37 #[.val (.long q0), .second, .val (.long q1), .second, .val (.long q2), .second, .val (.long q3), .second, .val (.long w0_1), .second, .val (.long w0_2), .second, .val (.long w0_3), .second, .unset, .unset, .unset, .unset, .unset, .unset, .unset] [(.ref b10)])) _
    refine XS.astore X12.here hx rfl (hb hby at_37) rfl rfl (l' := #[.val (.long q0), .second, .val (.long q1), .second, .val (.long q2), .second, .val (.long q3), .second, .val (.long w0_1), .second, .val (.long w0_2), .second, .val (.long w0_3), .second, rv b10, .unset, .unset, .unset, .unset, .unset, .unset]) rfl ?_
    show Steps p.tables e below (T12.setTop (mkF m 39 #[.val (.long q0), .second, .val (.long q1), .second, .val (.long q2), .second, .val (.long q3), .second, .val (.long w0_1), .second, .val (.long w0_2), .second, .val (.long w0_3), .second, rv b10, .unset, .unset, .unset, .unset, .unset, .unset] [])) _
    refine XS.aload X12.here hx rfl (hb hby at_39) rfl rfl ?_
    show Steps p.tables e below (T12.setTop (mkF m 41 #[.val (.long q0), .second, .val (.long q1), .second, .val (.long q2), .second, .val (.long q3), .second, .val (.long w0_1), .second, .val (.long w0_2), .second, .val (.long w0_3), .second, rv b10, .unset, .unset, .unset, .unset, .unset, .unset] [(.ref b10)])) _
    refine XS.lload X12.here hx rfl (hb hby at_41) rfl ?_
    show Steps p.tables e below (T12.setTop (mkF m 43 #[.val (.long q0), .second, .val (.long q1), .second, .val (.long q2), .second, .val (.long q3), .second, .val (.long w0_1), .second, .val (.long w0_2), .second, .val (.long w0_3), .second, rv b10, .unset, .unset, .unset, .unset, .unset, .unset] [(.long w0_2), (.ref b10)])) _
    refine XS.lload X12.here hx rfl (hb hby at_43) rfl ?_
    show Steps p.tables e below (T12.setTop (mkF m 45 #[.val (.long q0), .second, .val (.long q1), .second, .val (.long q2), .second, .val (.long q3), .second, .val (.long w0_1), .second, .val (.long w0_2), .second, .val (.long w0_3), .second, rv b10, .unset, .unset, .unset, .unset, .unset, .unset] [(.long q3), (.long w0_2), (.ref b10)])) _
    refine XS.lload X12.here hx rfl (hb hby at_45) rfl ?_
    exact k
  have F16 := (A10.keep K12)
  obtain ⟨cq15, kq15, q15a, q15b, q15c⟩ := isOf hZ rfl F16
  obtain ⟨_, _, ⟨T15, L15, k15, n15⟩, -, X15, ⟨Lc15, hQ15, l15, y15, z15⟩, st15⟩ := X12.virtualBack hx (y := (⟨"com/example/lexrow/lexrow/model/GcRule$MaxAge", "collects", "(JJJ)Z"⟩ : MethodName)) (z := (⟨"com/example/lexrow/lexrow/model/GcRule$MaxAge", "collects", "(JJJ)Z"⟩ : MethodName)) hown (mvT hZ (own_h hw 17 rfl)) (mvT hZ (own_h hw 18 rfl)) (notFace_of_selects (args := #[]) (mvT hZ (own_h hw 20 rfl))) (mvT hZ (own_h hw 20 rfl)) (mvT hZ (own_h hw 19 rfl)) (by decide) (backOf (W := 0) (rm3 l Z aZ hw [] b10 w0_2 q3 w0_3 (w0_1 * (1000:Int64)) T12.heap n0 Z14 G13) hZ (own_h hw 21 rfl) (own_h hw 4 rfl) (by decide) (by decide)) q15a q15c (g := (mkF m 47 #[.val (.long q0), .second, .val (.long q1), .second, .val (.long q2), .second, .val (.long q3), .second, .val (.long w0_1), .second, .val (.long w0_2), .second, .val (.long w0_3), .second, rv b10, .unset, .unset, .unset, .unset, .unset, .unset] [(.long w0_3), (.long q3), (.long w0_2), (.ref b10)])) rfl (by rw [hml]; rfl) (Steps.refl _) (argsL := [(.long w0_2), (.long q3), (.long w0_3)]) (rest := []) (lenOf own_pd1 rfl) rfl (by show 2 * 0 + _ ≤ _; exact Nat.le_of_eq rfl) (hb hby at_47) (fun _ _ => ⟨rfl, rfl, (by decide : 1 + 0 ≤ _), (by decide : 2 + 0 ≤ _)⟩)
  dsimp only [Pt.U, Pt.locs, Pt.cells, Pt.slots] at X15 l15 y15 z15 st15 hQ15
  subst l15 y15 z15
  obtain ⟨rfl, N15q, eh15⟩ := hQ15
  have N15 := Fr.app N12 N15q
  refine own_pre (fun _ k => st15.trans k) ?_
  obtain ⟨w0_4, hw0_4⟩ : ∃ z : Int32, z = (f3 w0_2 q3 w0_3 (w0_1 * (1000:Int64))) := ⟨_, rfl⟩
  refine own_pre (A := T15.setTop (mkF m 72 #[.val (.long q0), .second, .val (.long q1), .second, .val (.long q2), .second, .val (.long q3), .second, .val (.long w0_1), .second, .val (.long w0_2), .second, .val (.long w0_3), .second, rv b10, iv w0_4, .val (.long (w0_3 - w0_2)), .second, .val (.long (w0_1 * (1000:Int64))), .second, .unset] [(.int (XT.cmpL (w0_3 - w0_2) (w0_1 * (1000:Int64))))])) (fun t k => ?_) ?_
  · show Steps p.tables e below (T15.setTop (mkF m 50 #[.val (.long q0), .second, .val (.long q1), .second, .val (.long q2), .second, .val (.long q3), .second, .val (.long w0_1), .second, .val (.long w0_2), .second, .val (.long w0_3), .second, rv b10, .unset, .unset, .unset, .unset, .unset, .unset] [(.int (f3 w0_2 q3 w0_3 (w0_1 * (1000:Int64))))])) _
    refine XS.istore X15.here hx rfl (hb hby at_50) rfl (l' := #[.val (.long q0), .second, .val (.long q1), .second, .val (.long q2), .second, .val (.long q3), .second, .val (.long w0_1), .second, .val (.long w0_2), .second, .val (.long w0_3), .second, rv b10, iv w0_4, .unset, .unset, .unset, .unset, .unset]) (by rw [hw0_4]; rfl) ?_
    show Steps p.tables e below (T15.setTop (mkF m 52 #[.val (.long q0), .second, .val (.long q1), .second, .val (.long q2), .second, .val (.long q3), .second, .val (.long w0_1), .second, .val (.long w0_2), .second, .val (.long w0_3), .second, rv b10, iv w0_4, .unset, .unset, .unset, .unset, .unset] [])) _
    refine XS.lload X15.here hx rfl (hb hby at_52) rfl ?_
    show Steps p.tables e below (T15.setTop (mkF m 54 #[.val (.long q0), .second, .val (.long q1), .second, .val (.long q2), .second, .val (.long q3), .second, .val (.long w0_1), .second, .val (.long w0_2), .second, .val (.long w0_3), .second, rv b10, iv w0_4, .unset, .unset, .unset, .unset, .unset] [(.long w0_3)])) _
    refine XS.lload X15.here hx rfl (hb hby at_54) rfl ?_
    show Steps p.tables e below (T15.setTop (mkF m 56 #[.val (.long q0), .second, .val (.long q1), .second, .val (.long q2), .second, .val (.long q3), .second, .val (.long w0_1), .second, .val (.long w0_2), .second, .val (.long w0_3), .second, rv b10, iv w0_4, .unset, .unset, .unset, .unset, .unset] [(.long w0_2), (.long w0_3)])) _
    refine XS.lsub X15.here hx rfl (hb hby at_56) rfl ?_
    show Steps p.tables e below (T15.setTop (mkF m 57 #[.val (.long q0), .second, .val (.long q1), .second, .val (.long q2), .second, .val (.long q3), .second, .val (.long w0_1), .second, .val (.long w0_2), .second, .val (.long w0_3), .second, rv b10, iv w0_4, .unset, .unset, .unset, .unset, .unset] [(.long (w0_3 - w0_2))])) _
    refine XS.lstore X15.here hx rfl (hb hby at_57) rfl (l' := #[.val (.long q0), .second, .val (.long q1), .second, .val (.long q2), .second, .val (.long q3), .second, .val (.long w0_1), .second, .val (.long w0_2), .second, .val (.long w0_3), .second, rv b10, iv w0_4, .val (.long (w0_3 - w0_2)), .second, .unset, .unset, .unset]) rfl ?_
    show Steps p.tables e below (T15.setTop (mkF m 59 #[.val (.long q0), .second, .val (.long q1), .second, .val (.long q2), .second, .val (.long q3), .second, .val (.long w0_1), .second, .val (.long w0_2), .second, .val (.long w0_3), .second, rv b10, iv w0_4, .val (.long (w0_3 - w0_2)), .second, .unset, .unset, .unset] [])) _
    refine XS.lload X15.here hx rfl (hb hby at_59) rfl ?_
    show Steps p.tables e below (T15.setTop (mkF m 61 #[.val (.long q0), .second, .val (.long q1), .second, .val (.long q2), .second, .val (.long q3), .second, .val (.long w0_1), .second, .val (.long w0_2), .second, .val (.long w0_3), .second, rv b10, iv w0_4, .val (.long (w0_3 - w0_2)), .second, .unset, .unset, .unset] [(.long w0_1)])) _
    refine Jvm.Stand.ldc2J X15 hx hown (mvT hZ (own_h hw 22 rfl)) rfl (hb hby at_61) ?_
    show Steps p.tables e below (T15.setTop (mkF m 64 #[.val (.long q0), .second, .val (.long q1), .second, .val (.long q2), .second, .val (.long q3), .second, .val (.long w0_1), .second, .val (.long w0_2), .second, .val (.long w0_3), .second, rv b10, iv w0_4, .val (.long (w0_3 - w0_2)), .second, .unset, .unset, .unset] [(.long (1000:Int64)), (.long w0_1)])) _
    refine XS.lmul X15.here hx rfl (hb hby at_64) rfl ?_
    show Steps p.tables e below (T15.setTop (mkF m 65 #[.val (.long q0), .second, .val (.long q1), .second, .val (.long q2), .second, .val (.long q3), .second, .val (.long w0_1), .second, .val (.long w0_2), .second, .val (.long w0_3), .second, rv b10, iv w0_4, .val (.long (w0_3 - w0_2)), .second, .unset, .unset, .unset] [(.long (w0_1 * (1000:Int64)))])) _
    refine XS.lstore X15.here hx rfl (hb hby at_65) rfl (l' := #[.val (.long q0), .second, .val (.long q1), .second, .val (.long q2), .second, .val (.long q3), .second, .val (.long w0_1), .second, .val (.long w0_2), .second, .val (.long w0_3), .second, rv b10, iv w0_4, .val (.long (w0_3 - w0_2)), .second, .val (.long (w0_1 * (1000:Int64))), .second, .unset]) rfl ?_
    show Steps p.tables e below (T15.setTop (mkF m 67 #[.val (.long q0), .second, .val (.long q1), .second, .val (.long q2), .second, .val (.long q3), .second, .val (.long w0_1), .second, .val (.long w0_2), .second, .val (.long w0_3), .second, rv b10, iv w0_4, .val (.long (w0_3 - w0_2)), .second, .val (.long (w0_1 * (1000:Int64))), .second, .unset] [])) _
    refine XS.lload X15.here hx rfl (hb hby at_67) rfl ?_
    show Steps p.tables e below (T15.setTop (mkF m 69 #[.val (.long q0), .second, .val (.long q1), .second, .val (.long q2), .second, .val (.long q3), .second, .val (.long w0_1), .second, .val (.long w0_2), .second, .val (.long w0_3), .second, rv b10, iv w0_4, .val (.long (w0_3 - w0_2)), .second, .val (.long (w0_1 * (1000:Int64))), .second, .unset] [(.long (w0_3 - w0_2))])) _
    refine XS.lload X15.here hx rfl (hb hby at_69) rfl ?_
    show Steps p.tables e below (T15.setTop (mkF m 71 #[.val (.long q0), .second, .val (.long q1), .second, .val (.long q2), .second, .val (.long q3), .second, .val (.long w0_1), .second, .val (.long w0_2), .second, .val (.long w0_3), .second, rv b10, iv w0_4, .val (.long (w0_3 - w0_2)), .second, .val (.long (w0_1 * (1000:Int64))), .second, .unset] [(.long (w0_1 * (1000:Int64))), (.long (w0_3 - w0_2))])) _
    refine XT.lcmp X15.here hx rfl (hb hby at_71) rfl ?_
    exact k
  obtain ⟨w0_5, hw0_5⟩ : ∃ z : Int32, z = (if (w0_1 * (1000:Int64)) < (w0_3 - w0_2) then (1:Int32) else (0:Int32)) := ⟨_, rfl⟩
  refine own_pre (A := T15.setTop (mkF m 80 #[.val (.long q0), .second, .val (.long q1), .second, .val (.long q2), .second, .val (.long q3), .second, .val (.long w0_1), .second, .val (.long w0_2), .second, .val (.long w0_3), .second, rv b10, iv w0_4, .val (.long (w0_3 - w0_2)), .second, .val (.long (w0_1 * (1000:Int64))), .second, .unset] [(.int w0_5)])) (fun t k => ?_) ?_
  · show Steps p.tables e below (T15.setTop (mkF m 72 #[.val (.long q0), .second, .val (.long q1), .second, .val (.long q2), .second, .val (.long q3), .second, .val (.long w0_1), .second, .val (.long w0_2), .second, .val (.long w0_3), .second, rv b10, iv w0_4, .val (.long (w0_3 - w0_2)), .second, .val (.long (w0_1 * (1000:Int64))), .second, .unset] [(.int (XT.cmpL (w0_3 - w0_2) (w0_1 * (1000:Int64))))])) _
    by_cases hm72_1 : (w0_1 * (1000:Int64)) < (w0_3 - w0_2)
    · refine XS.ifNo X15.here hx rfl (hb hby at_72) rfl (XT.ll_le_f hm72_1) ?_
      show Steps p.tables e below (T15.setTop (mkF m 75 #[.val (.long q0), .second, .val (.long q1), .second, .val (.long q2), .second, .val (.long q3), .second, .val (.long w0_1), .second, .val (.long w0_2), .second, .val (.long w0_3), .second, rv b10, iv w0_4, .val (.long (w0_3 - w0_2)), .second, .val (.long (w0_1 * (1000:Int64))), .second, .unset] [])) _
      refine XS.iconst X15.here hx rfl (hb hby at_75) ?_
      show Steps p.tables e below (T15.setTop (mkF m 76 #[.val (.long q0), .second, .val (.long q1), .second, .val (.long q2), .second, .val (.long q3), .second, .val (.long w0_1), .second, .val (.long w0_2), .second, .val (.long w0_3), .second, rv b10, iv w0_4, .val (.long (w0_3 - w0_2)), .second, .val (.long (w0_1 * (1000:Int64))), .second, .unset] [(.int (1:Int32))])) _
      refine XS.goto X15.here hx rfl (pc0 := 76) (pc' := 80) rfl (hb hby at_76) (by decide) (by decide) ?_
      rw [hw0_5.trans (if_pos hm72_1)] at k
      exact k
    · refine XS.ifYes X15.here hx rfl (pc0 := 72) (pc' := 79) rfl (hb hby at_72) rfl (XT.ll_le_t hm72_1) (by decide) (by decide) ?_
      show Steps p.tables e below (T15.setTop (mkF m 79 #[.val (.long q0), .second, .val (.long q1), .second, .val (.long q2), .second, .val (.long q3), .second, .val (.long w0_1), .second, .val (.long w0_2), .second, .val (.long w0_3), .second, rv b10, iv w0_4, .val (.long (w0_3 - w0_2)), .second, .val (.long (w0_1 * (1000:Int64))), .second, .unset] [])) _
      refine XS.iconst X15.here hx rfl (hb hby at_79) ?_
      rw [hw0_5.trans (if_neg hm72_1)] at k
      exact k
  refine own_pre (A := T15.setTop (mkF m 86 #[.val (.long q0), .second, .val (.long q1), .second, .val (.long q2), .second, .val (.long q3), .second, .val (.long w0_1), .second, .val (.long w0_2), .second, .val (.long w0_3), .second, rv b10, iv w0_4, .val (.long (w0_3 - w0_2)), .second, .val (.long (w0_1 * (1000:Int64))), .second, iv w0_5] [(.int w0_5), (.int w0_4)])) (fun t k => ?_) ?_
  · show Steps p.tables e below (T15.setTop (mkF m 80 #[.val (.long q0), .second, .val (.long q1), .second, .val (.long q2), .second, .val (.long q3), .second, .val (.long w0_1), .second, .val (.long w0_2), .second, .val (.long w0_3), .second, rv b10, iv w0_4, .val (.long (w0_3 - w0_2)), .second, .val (.long (w0_1 * (1000:Int64))), .second, .unset] [(.int w0_5)])) _
    refine XS.istore X15.here hx rfl (hb hby at_80) rfl (l' := #[.val (.long q0), .second, .val (.long q1), .second, .val (.long q2), .second, .val (.long q3), .second, .val (.long w0_1), .second, .val (.long w0_2), .second, .val (.long w0_3), .second, rv b10, iv w0_4, .val (.long (w0_3 - w0_2)), .second, .val (.long (w0_1 * (1000:Int64))), .second, iv w0_5]) rfl ?_
    show Steps p.tables e below (T15.setTop (mkF m 82 #[.val (.long q0), .second, .val (.long q1), .second, .val (.long q2), .second, .val (.long q3), .second, .val (.long w0_1), .second, .val (.long w0_2), .second, .val (.long w0_3), .second, rv b10, iv w0_4, .val (.long (w0_3 - w0_2)), .second, .val (.long (w0_1 * (1000:Int64))), .second, iv w0_5] [])) _
    refine XS.iload X15.here hx rfl (hb hby at_82) rfl ?_
    show Steps p.tables e below (T15.setTop (mkF m 84 #[.val (.long q0), .second, .val (.long q1), .second, .val (.long q2), .second, .val (.long q3), .second, .val (.long w0_1), .second, .val (.long w0_2), .second, .val (.long w0_3), .second, rv b10, iv w0_4, .val (.long (w0_3 - w0_2)), .second, .val (.long (w0_1 * (1000:Int64))), .second, iv w0_5] [(.int w0_4)])) _
    refine XS.iload X15.here hx rfl (hb hby at_84) rfl ?_
    exact k
  obtain ⟨w0_6, hw0_6⟩ : ∃ z : Int32, z = (if w0_4 = w0_5 then (1:Int32) else (0:Int32)) := ⟨_, rfl⟩
  refine own_pre (A := T15.setTop (mkF m 94 #[.val (.long q0), .second, .val (.long q1), .second, .val (.long q2), .second, .val (.long q3), .second, .val (.long w0_1), .second, .val (.long w0_2), .second, .val (.long w0_3), .second, rv b10, iv w0_4, .val (.long (w0_3 - w0_2)), .second, .val (.long (w0_1 * (1000:Int64))), .second, iv w0_5] [(.int w0_6)])) (fun t k => ?_) ?_
  · show Steps p.tables e below (T15.setTop (mkF m 86 #[.val (.long q0), .second, .val (.long q1), .second, .val (.long q2), .second, .val (.long q3), .second, .val (.long w0_1), .second, .val (.long w0_2), .second, .val (.long w0_3), .second, rv b10, iv w0_4, .val (.long (w0_3 - w0_2)), .second, .val (.long (w0_1 * (1000:Int64))), .second, iv w0_5] [(.int w0_5), (.int w0_4)])) _
    by_cases hm86_2 : w0_4 = w0_5
    · refine XS.icmpNo X15.here hx rfl (hb hby at_86) rfl (XT.ii_ne_f hm86_2) ?_
      show Steps p.tables e below (T15.setTop (mkF m 89 #[.val (.long q0), .second, .val (.long q1), .second, .val (.long q2), .second, .val (.long q3), .second, .val (.long w0_1), .second, .val (.long w0_2), .second, .val (.long w0_3), .second, rv b10, iv w0_4, .val (.long (w0_3 - w0_2)), .second, .val (.long (w0_1 * (1000:Int64))), .second, iv w0_5] [])) _
      refine XS.iconst X15.here hx rfl (hb hby at_89) ?_
      show Steps p.tables e below (T15.setTop (mkF m 90 #[.val (.long q0), .second, .val (.long q1), .second, .val (.long q2), .second, .val (.long q3), .second, .val (.long w0_1), .second, .val (.long w0_2), .second, .val (.long w0_3), .second, rv b10, iv w0_4, .val (.long (w0_3 - w0_2)), .second, .val (.long (w0_1 * (1000:Int64))), .second, iv w0_5] [(.int (1:Int32))])) _
      refine XS.goto X15.here hx rfl (pc0 := 90) (pc' := 94) rfl (hb hby at_90) (by decide) (by decide) ?_
      rw [hw0_6.trans (if_pos hm86_2)] at k
      exact k
    · refine XS.icmpYes X15.here hx rfl (pc0 := 86) (pc' := 93) rfl (hb hby at_86) rfl (XT.ii_ne_t hm86_2) (by decide) (by decide) ?_
      show Steps p.tables e below (T15.setTop (mkF m 93 #[.val (.long q0), .second, .val (.long q1), .second, .val (.long q2), .second, .val (.long q3), .second, .val (.long w0_1), .second, .val (.long w0_2), .second, .val (.long w0_3), .second, rv b10, iv w0_4, .val (.long (w0_3 - w0_2)), .second, .val (.long (w0_1 * (1000:Int64))), .second, iv w0_5] [])) _
      refine XS.iconst X15.here hx rfl (hb hby at_93) ?_
      rw [hw0_6.trans (if_neg hm86_2)] at k
      exact k
  have hv17 : (w0_6 &&& 1) = f0 q0 q1 q2 q3 := by subst hw0_1 hw0_2 hw0_3 hw0_4 hw0_5 hw0_6; rfl
  exact own_end X15 (BodyLoose.notSynchronized Bd) (fun h => by rw [Bd.returns] at h; cases h) (v := some (.int (w0_6 &&& 1))) (fun fs hr => retN X15 hx (t := .boolean) Bd.returns (by simp) (hb hby at_94) hr) (by show Q0 Z q0 q1 q2 q3 h0 n0 _ T15.heap _; rw [eh15]; exact ⟨(congrArg (fun z => some (Value.int z)) hv17), N15⟩) (by decide) (by decide)
theorem own_plain (q0 q1 q2 q3 : Int64) : f0 q0 q1 q2 q3 = 1 := by
  simp only [f0, f3]
  obtain ⟨w, hw⟩ : ∃ w : Int64, w = (((q0 &&& (9223372036854775807:Int64)) % (9223372036854775:Int64)) + (1:Int64)) := ⟨_, rfl⟩
  have h := own_mil0 q0 w hw
  rw [← hw]
  have e1 : (q1 &&& (9223372036854775807:Int64)).toInt = q1.toInt % 2 ^ 63 := Jvm.Kit.i64_mask q1 _ (k := 63) (by decide) (by decide)
  have e2 : (q2 &&& (9223372036854775807:Int64)).toInt = q2.toInt % 2 ^ 63 := Jvm.Kit.i64_mask q2 _ (k := 63) (by decide) (by decide)
  generalize (q1 &&& (9223372036854775807:Int64)) = a at *
  generalize (q2 &&& (9223372036854775807:Int64)) = b at *
  have l1 : (1000:Int64).toInt = 1000 := by decide
  have m1 : (w * (1000:Int64)).toInt = w.toInt * 1000 := by rw [Jvm.Kit.i64_mul (by rw [l1]; omega) (by rw [l1]; omega), l1]
  have s1 : (b - w * (1000:Int64)).toInt = b.toInt - w.toInt * 1000 := by rw [Jvm.Kit.i64_sub (by rw [m1]; omega) (by rw [m1]; omega), m1]
  have s2 : (b - a).toInt = b.toInt - a.toInt := Jvm.Kit.i64_sub (by omega) (by omega)
  have c : (a < b - w * (1000:Int64)) ↔ (w * (1000:Int64) < b - a) := by
    rw [Int64.lt_iff_toInt_lt, Int64.lt_iff_toInt_lt, s1, s2, m1]; omega
  by_cases q : a < b - w * (1000:Int64)
  · simp only [if_pos q, if_pos (c.mp q)]; rfl
  · simp only [if_neg q, if_neg (fun z => q (c.mpr z))]; rfl
set_option maxRecDepth 65536 in
set_option maxHeartbeats 40000000 in
theorem comes_1 {Post : Tables → Env → Array Value → State → Outcome → State → Prop} (hpost : ∀ tb e args s v u, (limb_1_1.after args s (.returned v) u = true ∧ limb_1_2.after args s (.returned v) u = true ∧ True) → FrameEnd s (.returned v) u (Jvm.fieldLocs frame_1_writes args s ++ Jvm.arrayLocs frame_1_arrays args s ++ Jvm.staticLocs frame_1_statics s) 16 128 → Post tb e args s (.returned v) u) :
    ArmFor flags0 classFile x code maxLocals ret World_1 tables_1 room_1 Calls_1 rest_1 Pre_1 Post := by
  intro l hfl _ _ p e ha hc hk s m args below hf hA hF happ hP
  obtain ⟨hcalls, hrest, hpre⟩ := hP
  obtain ⟨-, -, -, hnamed, -, -, -, hat⟩ := (Spec.applies_iff hf).mp happ
  obtain ⟨hg, hn⟩ := and_e (Cond.before_iff.mp (show (Jvm.Cond.and given_1 narrow_1).before args s = true from hpre))
  obtain ⟨g2, g3⟩ := and_e hg
  obtain ⟨g4, g5⟩ := and_e g3
  obtain ⟨g6, g7⟩ := and_e g5
  obtain ⟨g8, g9⟩ := and_e g7
  obtain ⟨w0, w1, w2, w3, rfl⟩ : ∃ w0 w1 w2 w3 : Value, args = #[w0, w1, w2, w3] := by
    have hs : args.size = 4 := by simpa [Cond.value, given_1] using g2
    obtain ⟨L⟩ := args
    match L, hs with
    | [w0, w1, w2, w3], _ => exact ⟨w0, w1, w2, w3, rfl⟩
  have hw := fun d (hd : d ∈ tables_1) => atoms_spec (ws := Jvm.Cond.code x code maxLocals ret :: tables_1) hat d (List.mem_cons_of_mem _ hd)
  obtain ⟨i0, ei0⟩ := isL_v g4
  obtain rfl : w0 = (.long i0) := Option.some.inj ei0
  obtain ⟨i1, ei1⟩ := isL_v g6
  obtain rfl : w1 = (.long i1) := Option.some.inj ei1
  obtain ⟨i2, ei2⟩ := isL_v g8
  obtain rfl : w2 = (.long i2) := Option.some.inj ei2
  obtain ⟨i3, ei3⟩ := isL_v g9
  obtain rfl : w3 = (.long i3) := Option.some.inj ei3
  obtain ⟨n, o, h1, h2, h3, _, L, rfl, ⟨hv, N⟩, hq⟩ := rm0 l s _ hw tables_1 i0 i1 i2 i3 s.heap s.heap.size (Nat.le_refl _)  p e ha hc hk s m _ below hf ((Spec.applies_iff_loose hf).mp happ).1 ⟨rfl, State.Warmed39.refl s, rfl⟩ trivial
  rw [own_plain] at hv
  subst hv
  refine ⟨n, _, h1, h2, h3, hpost _ _ _ _ _ _ ⟨Cond.after_iff.mpr rfl, Cond.after_iff.mpr (eq_i res_at (Term.int_eval (1)) rfl), trivial⟩ ⟨hq.1, hq.2.1, (hq.2.2.sift fun y hy => Or.inr (N y hy)).mono (by decide) (by decide)⟩⟩
theorem main_1_1 : Claimed_1_1 := comes_1 fun _ _ _ _ _ _ h hF => ⟨h.1, hF⟩
theorem main_1_2 : Claimed_1_2 := comes_1 fun _ _ _ _ _ _ h hF => ⟨h.2.1, hF⟩
end Jvm.Pilot.@@N@@
namespace Jvm.Pilot.@@N@@
open Jvm Jvm.ClassFile Sem Op Lib Jvm.Free Jvm.Stand Jvm.Pilot.@@N@@.Jvm.D
/-! MADE BY PROGRAM (witnessworld.py) out of the Statement's table words and the real class files: 10 classes; the members and pool entries that the words name. The judged class is class 1, her method 1. -/
namespace start1
open Jvm.ClassFile
def u (s : String) : CpInfo := .utf8 (stringToUtf16 s)
/-- a pool by its gaps: so many unusable entries, then the entry; so many at the end -/
def gap : Nat → List CpInfo → List CpInfo
  | 0, r => r
  | n + 1, r => .unusable :: gap n r
def poolList (es : List (Nat × CpInfo)) (last : Nat) : List CpInfo := es.foldr (fun e r => gap e.1 (e.2 :: r)) (gap last [])
def pool (es : List (Nat × CpInfo)) (last : Nat) : Array CpInfo := ⟨poolList es last⟩
def fileOf (pool : Array CpInfo) (this : Nat) (attrs : Array Attribute := #[]) (ms : Array MethodInfo := #[]) (fl : Nat := 33) (sup : Nat := 0) (ifs : Array Nat := #[]) (fds : Array FieldInfo := #[]) : ClassFile where
  minorVersion := 0
  majorVersion := 65
  constantPool := pool
  accessFlags := fl
  thisClass := this
  superClass := sup
  interfaces := ifs
  fields := fds
  methods := ms
  attributes := attrs
def plain (name : String) (sup : Option ClassId) : Class where
  name := name
  kind := .ordinary
  loader := none
  accessFlags := 33
  super := sup
  interfaces := #[]
  cf := none
  fields := #[]
  methods := #[]
  instanceTypes := #[]
  staticTypes := #[]
  resolved := #[]
  callSites := []
  init := .initialized
  statics := none
  mirror := none

def pool0 : Array CpInfo := pool [(5, u "<init>"), (0, u "()V"), (1, .class_ 10), (1, u "java/lang/Object")] 113

def k0c0 : Code := { maxStack := 0, maxLocals := 1, code := object_method_1_code, exceptionTable := #[], attributes := #[] }
def k0m0 : Method := { name := "<init>", desc := "()V", sig := { parameters := [], returnType := none }, accessFlags := 1, code := some k0c0 }
/-- java/lang/Object -/
def k0 : Class := { plain "java/lang/Object" none with
  accessFlags := 33
  interfaces := #[]
  cf := some (fileOf pool0 8 #[] #[{ accessFlags := 1, nameIndex := 5, descriptorIndex := 6, attributes := #[] }] 33 0 #[] #[])
  fields := #[]
  methods := #[k0m0]
  instanceTypes := #[]
  staticTypes := #[]
  resolved := Array.replicate 124 none
  statics := none }

def pool1 : Array CpInfo := pool [(2, .class_ 4), (1, u "java/lang/Object"), (0, u "<init>"), (0, u "()V"), (2, .long 9223372036854775807), (1, .long 9223372036854775), (1, .class_ 14), (0, u "com/example/lexrow/lexrow/model/GcRule$MaxAge"), (0, .methodref 13 16), (0, .nameAndType 5 17), (0, u "(J)V"), (0, .methodref 13 19), (0, .nameAndType 20 21), (0, u "collects"), (0, u "(JJJ)Z"), (0, .long 1000), (1, .class_ 25), (0, u "com/example/lexrow/lexrow/model/MaxAgeCollectsPinLaw"), (2, u "law"), (0, u "(JJJJ)Z")] 7

def k1m0 : Method := { name := "<init>", desc := "()V", sig := { parameters := [], returnType := none }, accessFlags := 1, code := none }
def k1c1 : Code := { maxStack := 7, maxLocals := 21, code := code, exceptionTable := #[], attributes := #[] }
def k1m1 : Method := { name := "law", desc := "(JJJJ)Z", sig := { parameters := [.long, .long, .long, .long], returnType := some .boolean }, accessFlags := 9, code := some k1c1 }
/-- com/example/lexrow/lexrow/model/MaxAgeCollectsPinLaw -/
def k1 : Class := { plain "com/example/lexrow/lexrow/model/MaxAgeCollectsPinLaw" (some 0) with
  accessFlags := 49
  interfaces := #[]
  cf := some (fileOf pool1 24 #[] #[{ accessFlags := 1, nameIndex := 5, descriptorIndex := 6, attributes := #[] }, { accessFlags := 9, nameIndex := 28, descriptorIndex := 29, attributes := #[] }] 49 2 #[] #[])
  fields := #[]
  methods := #[k1m0, k1m1]
  instanceTypes := #[]
  staticTypes := #[]
  resolved := Array.replicate 37 none
  statics := none }

def pool2 : Array CpInfo := pool [(37, .class_ 38), (0, u "com/example/lexrow/lexrow/model/GcRule"), (0, .class_ 40), (0, u "com/example/lexrow/lexrow/model/GcRule$Union"), (3, u "I"), (0, .class_ 46), (0, u "com/example/lexrow/lexrow/model/GcRule$Intersection"), (9, .class_ 57), (0, u "com/example/lexrow/lexrow/model/GcRule$Never"), (5, u "NEVER"), (0, u "Lcom/example/lexrow/lexrow/model/GcRule;"), (0, .class_ 66), (0, u "java/lang/Object"), (0, u "MAX_NESTING"), (14, .class_ 83), (0, u "com/example/lexrow/lexrow/model/GcRule$MaxAge"), (0, .class_ 85), (0, u "com/example/lexrow/lexrow/model/GcRule$MaxVersions")] 21

/-- com/example/lexrow/lexrow/model/GcRule -/
def k2 : Class := { plain "com/example/lexrow/lexrow/model/GcRule" (some 0) with
  accessFlags := 1537
  interfaces := #[]
  cf := some (fileOf pool2 37 #[.nestMembers #[45, 39, 82, 84, 56]] #[] 1537 65 #[] #[{ accessFlags := 25, nameIndex := 63, descriptorIndex := 64, attributes := #[] }, { accessFlags := 25, nameIndex := 67, descriptorIndex := 44, attributes := #[] }])
  fields := #[{ name := "NEVER", type := (.object "com/example/lexrow/lexrow/model/GcRule"), accessFlags := 25, slot := 0, constantValue := 0 }, { name := "MAX_NESTING", type := .int, accessFlags := 25, slot := 1, constantValue := 0 }]
  methods := #[]
  instanceTypes := #[]
  staticTypes := #[(.object "com/example/lexrow/lexrow/model/GcRule"), .int]
  resolved := Array.replicate 107 none
  statics := none }

def pool3 : Array CpInfo := pool [(1, .methodref 2 3), (0, .class_ 4), (0, .nameAndType 5 6), (0, u "java/lang/Object"), (0, u "<init>"), (0, u "()V"), (13, .long 9223372036854775), (2, .fieldref 24 25), (0, .class_ 26), (0, .nameAndType 27 28), (0, u "com/example/lexrow/lexrow/model/GcRule$MaxAge"), (0, u "millis"), (0, u "J"), (0, .long 1000), (1, .fieldref 24 32), (0, .nameAndType 33 28), (0, u "micros"), (8, .class_ 43), (0, u "com/example/lexrow/lexrow/model/GcRule"), (0, u "(J)V"), (4, u "collects"), (0, u "(JJJ)Z")] 25

def k3c0 : Code := { maxStack := 5, maxLocals := 3, code := prog_14_method_1_code, exceptionTable := #[], attributes := #[] }
def k3m0 : Method := { name := "<init>", desc := "(J)V", sig := { parameters := [.long], returnType := none }, accessFlags := 1, code := some k3c0 }
def k3c1 : Code := { maxStack := 6, maxLocals := 7, code := prog_14_method_3_code, exceptionTable := #[], attributes := #[] }
def k3m1 : Method := { name := "collects", desc := "(JJJ)Z", sig := { parameters := [.long, .long, .long], returnType := some .boolean }, accessFlags := 1, code := some k3c1 }
/-- com/example/lexrow/lexrow/model/GcRule$MaxAge -/
def k3 : Class := { plain "com/example/lexrow/lexrow/model/GcRule$MaxAge" (some 0) with
  accessFlags := 49
  interfaces := #[2]
  cf := some (fileOf pool3 24 #[.nestHost 42] #[{ accessFlags := 1, nameIndex := 5, descriptorIndex := 44, attributes := #[] }, { accessFlags := 1, nameIndex := 49, descriptorIndex := 50, attributes := #[] }] 49 2 #[42] #[{ accessFlags := 18, nameIndex := 27, descriptorIndex := 28, attributes := #[] }, { accessFlags := 18, nameIndex := 33, descriptorIndex := 28, attributes := #[] }])
  fields := #[{ name := "millis", type := .long, accessFlags := 18, slot := 0, constantValue := 0 }, { name := "micros", type := .long, accessFlags := 18, slot := 1, constantValue := 0 }]
  methods := #[k3m0, k3m1]
  instanceTypes := #[.long, .long]
  staticTypes := #[]
  resolved := Array.replicate 76 none
  statics := none }

def pool4 : Array CpInfo := pool [(1, u "java/lang/Cloneable"), (0, .class_ 1), (0, u "java/lang/Object"), (0, .class_ 3)] 3

/-- java/lang/Cloneable -/
def k4 : Class := { plain "java/lang/Cloneable" (some 0) with
  accessFlags := 1537
  interfaces := #[]
  cf := some (fileOf pool4 2 #[] #[] 1537 4 #[] #[])
  fields := #[]
  methods := #[]
  instanceTypes := #[]
  staticTypes := #[]
  resolved := Array.replicate 8 none
  statics := none }

def pool5 : Array CpInfo := pool [(1, u "java/io/Serializable"), (0, .class_ 1), (0, u "java/lang/Object"), (0, .class_ 3)] 3

/-- java/io/Serializable -/
def k5 : Class := { plain "java/io/Serializable" (some 0) with
  accessFlags := 1537
  interfaces := #[]
  cf := some (fileOf pool5 2 #[] #[] 1537 4 #[] #[])
  fields := #[]
  methods := #[]
  instanceTypes := #[]
  staticTypes := #[]
  resolved := Array.replicate 8 none
  statics := none }

/-- the primitive byte -/
def k6 : Class := { plain "byte" none with kind := .primitive 'B', accessFlags := 0x411 }
/-- [B -/
def k7 : Class := { plain "[B" (some 0) with kind := .array 6 .byte, interfaces := #[4, 5], accessFlags := 1041 }

/-- the primitive int -/
def k8 : Class := { plain "int" none with kind := .primitive 'I', accessFlags := 0x411 }
/-- [I -/
def k9 : Class := { plain "[I" (some 0) with kind := .array 8 .int, interfaces := #[4, 5], accessFlags := 1041 }

def heap : Heap := #[]
def classes : Array Class := #[k0, k1, k2, k3, k4, k5, k6, k7, k8, k9]
def interned : List (Array UInt16 × Addr) := []
def slotsUsed : Nat := 0
def theMethod : MethodId := ⟨1, 1⟩
def args0 : Array Value := #[.long 5, .long 5, .long 5, .long 5]
def aboutOver (below : List Frame) : State where
  vm := { classes := classes, interned := interned.toArray }
  heap := heap
  slotsUsed := slotsUsed
  threads := #[{ frames := .invoking theMethod args0 :: below }]
def below0 : List Frame := [.native { method := ⟨0, 0⟩, args := #[] }]
def about1 : State := aboutOver below0
def p0 : Program := .bare "" "" ""
def e0 : Env := launch0.env 0 0 0
theorem w_frames : about1.frames = Frame.invoking theMethod args0 :: below0 := rfl
set_option maxRecDepth 65536 in
theorem w_args : argsFit about1.vm theMethod args0 = true := by decide +kernel
set_option maxRecDepth 65536 in
theorem w_heap : heapFits about1 = true := by decide +kernel
set_option maxRecDepth 65536 in
theorem w_runnable : about1.curStatus? = some .runnable := by decide +kernel
set_option maxRecDepth 65536 in
theorem w_alone : about1.alone = true := by decide +kernel
set_option maxRecDepth 65536 in
theorem w_named : about1.methodNamed? x = some theMethod := by decide +kernel
set_option maxRecDepth 65536 in
theorem w_hears : about1.hears theMethod below0 = true := by decide +kernel
set_option maxRecDepth 65536 in
theorem w_ripe : about1.ripe theMethod args0 below0 = true := by decide +kernel
theorem w_running : about1.status = .running := rfl
set_option maxRecDepth 65536 in
theorem w_room : about1.hasRoom e0.platform room_1 = true :=
  launch0.hasRoom_least _ room_1 (by decide +kernel) (by decide +kernel) (by decide +kernel) (by decide +kernel) (by decide +kernel) (by decide +kernel)
theorem allAtoms_all (ts : List Jvm.Cond) (a : Array Jvm.Value) (st : Jvm.State) : (allAtoms ts).before a st = ts.all (fun c => c.before a st) := by
  induction ts with
  | nil => rfl
  | cons c t ih =>
    show (Jvm.Cond.and c (allAtoms t)).before a st = _
    rw [Jvm.Cond.before_and, ih, List.all_cons]
def words1 : List Jvm.Cond := Jvm.Cond.code x code maxLocals ret :: tables_1
/-- a 'code' word, met by the world's own term for the bytes: nothing is compared byte by byte -/
theorem code_word {y : MethodName} {bytes : ByteArray} {mx : Nat} {rt : Option FieldType} {a : Array Value} {s : State} {m : MethodId} {meth : Method} {c : Code} (h1 : s.methodNamed? y = some m) (h2 : s.vm.method? m = some meth) (h3 : meth.code = some c) (h4 : c.code = bytes)
    (h5 : (c.maxLocals == mx && c.exceptionTable.isEmpty && decide (c.maxStack ≤ mostOperands) && decide (meth.sig.returnType = rt) && !meth.locks && decide (parseMethodDescriptor y.desc = some meth.sig)) = true) : (Jvm.Cond.code y bytes mx rt).before a s = true := by
  simp only [Bool.and_eq_true, beq_iff_eq, Bool.not_eq_true', decide_eq_true_eq] at h5
  obtain ⟨⟨⟨⟨⟨g1, g2⟩, g3⟩, g4⟩, g5⟩, g6⟩ := h5
  simp [Cond.before, Cond.holds, Cond.value, h1, h2, h3, h4, g1, g2, g3, g4, g5, g6]
def isCode : Jvm.Cond → Bool
  | .code _ _ _ _ => true
  | _ => false
theorem all_split {L : List Jvm.Cond} {P : Jvm.Cond → Bool} (h1 : L.all (fun c => isCode c || P c) = true) (h2 : ∀ c ∈ L.filter isCode, P c = true) : L.all P = true := by
  refine List.all_eq_true.mpr fun c hc => ?_
  have h := List.all_eq_true.mp h1 c hc
  rcases Bool.eq_false_or_eq_true (isCode c) with hi | hi
  · exact h2 c (List.mem_filter.mpr ⟨hc, hi⟩)
  · simpa [hi] using h
set_option maxRecDepth 65536 in
theorem w_c0 : (Jvm.Cond.code x code maxLocals ret).before args0 about1 = true := code_word (m := ⟨1, 1⟩) (meth := k1m1) (c := k1c1) (by decide +kernel) rfl rfl rfl (by decide +kernel)
set_option maxRecDepth 65536 in
theorem w_c1 : (Jvm.Cond.code ({ cls := "com/example/lexrow/lexrow/model/GcRule$MaxAge", name := "<init>", desc := "(J)V" } : Jvm.MethodName) prog_14_method_1_code (3 : Nat) (Option.none : Option Jvm.ClassFile.FieldType)).before args0 about1 = true := code_word (m := ⟨3, 0⟩) (meth := k3m0) (c := k3c0) (by decide +kernel) rfl rfl rfl (by decide +kernel)
set_option maxRecDepth 65536 in
theorem w_c2 : (Jvm.Cond.code ({ cls := "java/lang/Object", name := "<init>", desc := "()V" } : Jvm.MethodName) object_method_1_code (1 : Nat) (Option.none : Option Jvm.ClassFile.FieldType)).before args0 about1 = true := code_word (m := ⟨0, 0⟩) (meth := k0m0) (c := k0c0) (by decide +kernel) rfl rfl rfl (by decide +kernel)
set_option maxRecDepth 65536 in
theorem w_c3 : (Jvm.Cond.code ({ cls := "com/example/lexrow/lexrow/model/GcRule$MaxAge", name := "collects", desc := "(JJJ)Z" } : Jvm.MethodName) prog_14_method_3_code (7 : Nat) (Option.some Jvm.ClassFile.FieldType.boolean)).before args0 about1 = true := code_word (m := ⟨3, 1⟩) (meth := k3m1) (c := k3c1) (by decide +kernel) rfl rfl rfl (by decide +kernel)
def codes1 : List Jvm.Cond := [Jvm.Cond.code x code maxLocals ret, Jvm.Cond.code ({ cls := "com/example/lexrow/lexrow/model/GcRule$MaxAge", name := "<init>", desc := "(J)V" } : Jvm.MethodName) prog_14_method_1_code (3 : Nat) (Option.none : Option Jvm.ClassFile.FieldType), Jvm.Cond.code ({ cls := "java/lang/Object", name := "<init>", desc := "()V" } : Jvm.MethodName) object_method_1_code (1 : Nat) (Option.none : Option Jvm.ClassFile.FieldType), Jvm.Cond.code ({ cls := "com/example/lexrow/lexrow/model/GcRule$MaxAge", name := "collects", desc := "(JJJ)Z" } : Jvm.MethodName) prog_14_method_3_code (7 : Nat) (Option.some Jvm.ClassFile.FieldType.boolean)]
set_option maxRecDepth 65536 in
theorem codes_eq : words1.filter isCode = codes1 := rfl
theorem w_codes : ∀ c ∈ words1.filter isCode, c.before args0 about1 = true := by
  rw [codes_eq]
  intro c hc
  simp only [codes1, List.mem_cons, List.not_mem_nil, or_false] at hc
  rcases hc with rfl | rfl | rfl | rfl
  · exact w_c0
  · exact w_c1
  · exact w_c2
  · exact w_c3
set_option maxRecDepth 65536 in
theorem w_t1 : words1.all (fun c => isCode c || c.before args0 about1) = true := by decide +kernel
theorem w_tables : (allAtoms (Jvm.Cond.code x code maxLocals ret :: tables_1)).before args0 about1 = true := by
  rw [allAtoms_all]
  show words1.all (fun c => c.before args0 about1) = true
  refine all_split ?_ w_codes
  rw [w_t1]
set_option maxRecDepth 65536 in
theorem w_case : (Jvm.Cond.and given_1 narrow_1).before args0 about1 = true := by decide +kernel
theorem w_applies : (headSpec (Jvm.Cond.code x code maxLocals ret :: tables_1) room_1).applies x e0.platform about1 = true :=
  (Spec.applies_iff w_frames).mpr ⟨w_running, w_runnable, w_alone, w_named, w_hears, w_ripe, w_room, w_tables⟩
theorem atStart : AtStart classFile x code maxLocals ret World_1 tables_1 room_1 Calls_1 rest_1 Pre_1 launch0 p0 e0 about1 theMethod args0 below0 :=
  ⟨lists_1, trivial, launch0.admits_env _ _ _, launch0.least_env, fairChoices_fair.cas, fairChoices_fair.clock, w_frames, w_args, w_heap, w_applies, trivial, trivial, w_case⟩
end start1
theorem witness_1 : WitnessClaimed_1 := ⟨start1.p0, start1.e0, start1.about1, start1.theMethod, start1.args0, start1.below0, start1.atStart⟩
end Jvm.Pilot.@@N@@
