import JvmDerived
import JvmDerived.Pilot.@@N@@Statement
import JvmDerived.Pilot.@@N@@Code
set_option linter.unusedVariables false
set_option linter.unusedSimpArgs false
@@BLOCK:NumsL.lean.txt@@
namespace Jvm.Pilot.@@N@@
open Jvm Jvm.ClassFile Sem Op Lib Jvm.Free Jvm.Stand Jvm.LawKit Jvm.RoadKit Bundle Jvm.Pilot.@@N@@.Jvm.D
def own_Goes (p : Program) (e : Env) (below : List Frame) (s : State) (Q : Option Value → Heap → List Loc → Prop) (ce sl : Nat) (A : State) : Prop :=
  ∃ s₂ o, Steps p.tables e below A s₂ ∧ s₂.status = .running ∧ Ended s₂ below o ∧ ∃ v L, o = .returned v ∧ Q v s₂.heap L ∧ FrameEnd s o s₂ L ce sl
theorem own_pre {p : Program} {e : Env} {below : List Frame} {s : State} {Q : Option Value → Heap → List Loc → Prop} {ce sl : Nat} {A B : State} (h : ∀ t, Steps p.tables e below A t → Steps p.tables e below B t) (G : own_Goes p e below s Q ce sl A) : own_Goes p e below s Q ce sl B := by
  obtain ⟨s₂, o, h1, r⟩ := G
  exact ⟨s₂, o, h _ h1, r⟩
theorem own_end {p : Program} {l : Launch} {e : Env} {R : Room} {s : State} {m : MethodId} {args : Array Value} {below : List Frame} {meth : Method} {c : Code} {T : State} {locs : List Loc} {cells slots : Nat} (X : Stand p l e R s m args below meth c T locs cells slots)
    {v : Option Value} {Q : Option Value → Heap → List Loc → Prop} {ce sl : Nat} {A : State} (hlocks : meth.locks = false) (hv : meth.sig.returnType = none → v = none)
    (hstep : ∀ fs, (∀ (f : JFrame) (acts : List Action), f.method = m → f.locked = none → f.entered = [] → (doReturn e (T.setTop f) acts v).1 = T.setFrames fs) → Steps p.tables e below A (T.setFrames fs))
    (hQ : Q v T.heap locs) (hc : cells ≤ ce) (hs : slots ≤ sl) : own_Goes p e below s Q ce sl A := by
  obtain ⟨fs, hr, hrun, hended, hW, hsame⟩ := X.leave hv hlocks
  exact ⟨_, _, hstep fs hr, hrun, hended, _, _, rfl, hQ, ⟨_, rfl⟩, hW, hsame.mono hc hs⟩
theorem own_lrem_eq (x y : Int64) : x - (x / y) * y = x % y := Int64.toInt_inj.mp (by rw [Jvm.Kit.i64_rem, Int64.toInt_mod])
theorem own_lrem {tb : Tables} [Ours tb] {e : Env} {below : List Frame} {T target : State} {m : MethodId} {c : Code} {g : JFrame} (h : At T m c below) (hx : tb.exec = Jvm.exec) (hg : g.method = m) {x y : Int64} {rest : List Value} (hd : decode c.code g.pc = .ok (.lrem, 1)) (hs : g.stack = .long y :: .long x :: rest) (hy : y ≠ 0)
    (hr : Steps tb e below (T.setTop { g with pc := g.pc + 1, stack := .long (x % y) :: rest }) target) : Steps tb e below (T.setTop g) target :=
  XS.lrem h hx hg hd hs hy (by rw [own_lrem_eq]; exact hr)
theorem own_h {a0 : Array Value} {Z : State} {L : List Jvm.Cond} (hw : ∀ d ∈ L, d.before a0 Z = true) (i : Nat) {d : Jvm.Cond} (h : L[i]? = some d) : d.before a0 Z = true := hw _ (List.mem_of_getElem? h)
theorem own_pn0 : plainName "com/example/rowfold/rowfold/codec/FieldModel" = true := by first | (simp [plainName, overriddenIn]; done) | decide +kernel
theorem d1_0 : decode prog_6_method_4_code 0 = .ok (.bipush 16, 2) := by decide +kernel
theorem d1_2 : decode prog_6_method_4_code 2 = .ok (.istore_n 1, 1) := by decide +kernel
theorem d1_3 : decode prog_6_method_4_code 3 = .ok (.iload_n 1, 1) := by decide +kernel
theorem d1_4 : decode prog_6_method_4_code 4 = .ok (.bipush 23, 2) := by decide +kernel
theorem d1_6 : decode prog_6_method_4_code 6 = .ok (.if_icmp .ge 22, 3) := by decide +kernel
theorem d1_9 : decode prog_6_method_4_code 9 = .ok (.lconst 1, 1) := by decide +kernel
theorem d1_10 : decode prog_6_method_4_code 10 = .ok (.iload_n 1, 1) := by decide +kernel
theorem d1_11 : decode prog_6_method_4_code 11 = .ok (.lshl, 1) := by decide +kernel
theorem d1_12 : decode prog_6_method_4_code 12 = .ok (.ldc2_w 183, 3) := by decide +kernel
theorem d1_15 : decode prog_6_method_4_code 15 = .ok (.iload_n 0, 1) := by decide +kernel
theorem d1_16 : decode prog_6_method_4_code 16 = .ok (.i2l, 1) := by decide +kernel
theorem d1_17 : decode prog_6_method_4_code 17 = .ok (.lmul, 1) := by decide +kernel
theorem d1_18 : decode prog_6_method_4_code 18 = .ok (.lcmp, 1) := by decide +kernel
theorem d1_19 : decode prog_6_method_4_code 19 = .ok (.ifCond .ge 9, 3) := by decide +kernel
theorem d1_22 : decode prog_6_method_4_code 22 = .ok (.iinc 1 1, 3) := by decide +kernel
theorem d1_25 : decode prog_6_method_4_code 25 = .ok (.goto (-22), 3) := by decide +kernel
theorem d1_28 : decode prog_6_method_4_code 28 = .ok (.iload_n 1, 1) := by decide +kernel
theorem d1_29 : decode prog_6_method_4_code 29 = .ok (.ireturn, 1) := by decide +kernel
theorem ef1 (m : MethodId) (p0 : Int32) : entryFrame m #[(.int p0)] 2 = mkF m 0 #[iv p0, .unset] [] := by first | (simp [entryFrame, mkF, argsToLocals, Value.category]; done) | rfl
def f1 (p0 : Int32) : Int32 := (let w1_1 : Int32 := (if ((1:Int64) <<< ((16:Int32) &&& 0x3f).toInt64) < ((4:Int64) * (p0.toInt64)) then (if ((1:Int64) <<< ((17:Int32) &&& 0x3f).toInt64) < ((4:Int64) * (p0.toInt64)) then (if ((1:Int64) <<< ((18:Int32) &&& 0x3f).toInt64) < ((4:Int64) * (p0.toInt64)) then (if ((1:Int64) <<< ((19:Int32) &&& 0x3f).toInt64) < ((4:Int64) * (p0.toInt64)) then (if ((1:Int64) <<< ((20:Int32) &&& 0x3f).toInt64) < ((4:Int64) * (p0.toInt64)) then (if ((1:Int64) <<< ((21:Int32) &&& 0x3f).toInt64) < ((4:Int64) * (p0.toInt64)) then (if ((1:Int64) <<< ((22:Int32) &&& 0x3f).toInt64) < ((4:Int64) * (p0.toInt64)) then (23:Int32) else (22:Int32)) else (21:Int32)) else (20:Int32)) else (19:Int32)) else (18:Int32)) else (17:Int32)) else (16:Int32)); w1_1)
def Q1 (Z : State) (p0 : Int32)  (h0 : Heap) (n0 : Nat) (v : Option Value) (h : Heap) (L : List Loc) : Prop := v = some (.int (f1 p0)) ∧ Fr n0 L ∧ h = h0
set_option maxRecDepth 65536 in
set_option maxHeartbeats 40000000 in
theorem rm1 (l : Launch) (Z : State) (aZ : Array Value) (hw : ∀ d ∈ tables_1, d.before aZ Z = true) (ws : List Jvm.Cond) (p0 : Int32)  (h0 : Heap) (n0 : Nat) (Z0 : n0 ≤ h0.size)  :
    MetFree l (⟨"com/example/rowfold/rowfold/codec/FieldModel", "mostTableBits", "(I)I"⟩ : MethodName) (head1 (Jvm.Cond.code (⟨"com/example/rowfold/rowfold/codec/FieldModel", "mostTableBits", "(I)I"⟩ : MethodName) prog_6_method_4_code 2 (some .int) :: ws) ({ frames := 0, cells := 0, slots := 0, locals := 0 } : Room)) (fun a U => a = #[(.int p0)] ∧ Z.Warmed39 U.vm ∧ U.heap = h0) (fun _ _ _ _ _ => True) (fun _ U o U' => ∃ v L, o = .returned v ∧ Q1 Z p0 h0 n0 v U'.heap L ∧ FrameEnd U o U' L ({ frames := 0, cells := 0, slots := 0, locals := 0 } : Room).cells ({ frames := 0, cells := 0, slots := 0, locals := 0 } : Room).slots) := by
  refine MetFree.of_bodySF (plainFor_of_name own_pn0) hisR ?_
  intro p e s m args below meth c s₁ Bd hml0 hP hK
  obtain ⟨rfl, hZ, hh⟩ := hP
  have hx := Bd.exec
  have hby := Bd.bytes
  have hml : c.maxLocals = 2 := hml0
  have hown : s.vm.findClass "com/example/rowfold/rowfold/codec/FieldModel" = some m.cls := findClass_of_methodNamed Bd.named
  have hnm := (name_of_methodNamed Bd.named Bd.method).1
  have X0 : Stand p l e ({ frames := 0, cells := 0, slots := 0, locals := 0 } : Room) s m #[(.int p0)] below meth c s₁ [] 0 0 := Stand.of_body Bd
  have e0 : s₁.heap = h0 := by rw [← hh, Bd.state]; rfl
  have N0 := Fr.nil n0
  show own_Goes p e below s (Q1 Z p0 h0 n0) ({ frames := 0, cells := 0, slots := 0, locals := 0 } : Room).cells ({ frames := 0, cells := 0, slots := 0, locals := 0 } : Room).slots _
  refine own_pre (fun t k => castTop (ef1 m p0) k) ?_
  refine own_pre (A := s₁.setTop (mkF m 19 #[iv p0, iv (16:Int32)] [(.int (XT.cmpL ((1:Int64) <<< ((16:Int32) &&& 0x3f).toInt64) ((4:Int64) * (p0.toInt64))))])) (fun t k => ?_) ?_
  · show Steps p.tables e below (s₁.setTop (mkF m 0 #[iv p0, .unset] [])) _
    refine XS.bipush X0.here hx rfl (hb hby d1_0) ?_
    show Steps p.tables e below (s₁.setTop (mkF m 2 #[iv p0, .unset] [(.int (16:Int32))])) _
    refine XS.istoreN X0.here hx rfl (hb hby d1_2) rfl (l' := #[iv p0, iv (16:Int32)]) rfl ?_
    show Steps p.tables e below (s₁.setTop (mkF m 3 #[iv p0, iv (16:Int32)] [])) _
    refine XS.iloadN X0.here hx rfl (hb hby d1_3) rfl ?_
    show Steps p.tables e below (s₁.setTop (mkF m 4 #[iv p0, iv (16:Int32)] [(.int (16:Int32))])) _
    refine XS.bipush X0.here hx rfl (hb hby d1_4) ?_
    show Steps p.tables e below (s₁.setTop (mkF m 6 #[iv p0, iv (16:Int32)] [(.int (23:Int32)), (.int (16:Int32))])) _
    refine XS.icmpNo X0.here hx rfl (hb hby d1_6) rfl (XT.ii_ge_f (by decide)) ?_
    show Steps p.tables e below (s₁.setTop (mkF m 9 #[iv p0, iv (16:Int32)] [])) _
    refine XS.lconst X0.here hx rfl (hb hby d1_9) ?_
    show Steps p.tables e below (s₁.setTop (mkF m 10 #[iv p0, iv (16:Int32)] [(.long (1:Int64))])) _
    refine XS.iloadN X0.here hx rfl (hb hby d1_10) rfl ?_
    show Steps p.tables e below (s₁.setTop (mkF m 11 #[iv p0, iv (16:Int32)] [(.int (16:Int32)), (.long (1:Int64))])) _
    refine XS.lshl X0.here hx rfl (hb hby d1_11) rfl ?_
    show Steps p.tables e below (s₁.setTop (mkF m 12 #[iv p0, iv (16:Int32)] [(.long ((1:Int64) <<< ((16:Int32) &&& 0x3f).toInt64))])) _
    refine Jvm.Stand.ldc2J X0 hx hown (mvT hZ (own_h hw 4 rfl)) rfl (hb hby d1_12) ?_
    show Steps p.tables e below (s₁.setTop (mkF m 15 #[iv p0, iv (16:Int32)] [(.long (4:Int64)), (.long ((1:Int64) <<< ((16:Int32) &&& 0x3f).toInt64))])) _
    refine XS.iloadN X0.here hx rfl (hb hby d1_15) rfl ?_
    show Steps p.tables e below (s₁.setTop (mkF m 16 #[iv p0, iv (16:Int32)] [(.int p0), (.long (4:Int64)), (.long ((1:Int64) <<< ((16:Int32) &&& 0x3f).toInt64))])) _
    refine XS.i2l X0.here hx rfl (hb hby d1_16) rfl ?_
    show Steps p.tables e below (s₁.setTop (mkF m 17 #[iv p0, iv (16:Int32)] [(.long (p0.toInt64)), (.long (4:Int64)), (.long ((1:Int64) <<< ((16:Int32) &&& 0x3f).toInt64))])) _
    refine XS.lmul X0.here hx rfl (hb hby d1_17) rfl ?_
    show Steps p.tables e below (s₁.setTop (mkF m 18 #[iv p0, iv (16:Int32)] [(.long ((4:Int64) * (p0.toInt64))), (.long ((1:Int64) <<< ((16:Int32) &&& 0x3f).toInt64))])) _
    refine XT.lcmp X0.here hx rfl (hb hby d1_18) rfl ?_
    exact k
  obtain ⟨w1_1, hw1_1⟩ : ∃ z : Int32, z = (if ((1:Int64) <<< ((16:Int32) &&& 0x3f).toInt64) < ((4:Int64) * (p0.toInt64)) then (if ((1:Int64) <<< ((17:Int32) &&& 0x3f).toInt64) < ((4:Int64) * (p0.toInt64)) then (if ((1:Int64) <<< ((18:Int32) &&& 0x3f).toInt64) < ((4:Int64) * (p0.toInt64)) then (if ((1:Int64) <<< ((19:Int32) &&& 0x3f).toInt64) < ((4:Int64) * (p0.toInt64)) then (if ((1:Int64) <<< ((20:Int32) &&& 0x3f).toInt64) < ((4:Int64) * (p0.toInt64)) then (if ((1:Int64) <<< ((21:Int32) &&& 0x3f).toInt64) < ((4:Int64) * (p0.toInt64)) then (if ((1:Int64) <<< ((22:Int32) &&& 0x3f).toInt64) < ((4:Int64) * (p0.toInt64)) then (23:Int32) else (22:Int32)) else (21:Int32)) else (20:Int32)) else (19:Int32)) else (18:Int32)) else (17:Int32)) else (16:Int32)) := ⟨_, rfl⟩
  refine own_pre (A := s₁.setTop (mkF m 28 #[iv p0, iv w1_1] [])) (fun t k => ?_) ?_
  · show Steps p.tables e below (s₁.setTop (mkF m 19 #[iv p0, iv (16:Int32)] [(.int (XT.cmpL ((1:Int64) <<< ((16:Int32) &&& 0x3f).toInt64) ((4:Int64) * (p0.toInt64))))])) _
    by_cases hm19_1 : ((1:Int64) <<< ((16:Int32) &&& 0x3f).toInt64) < ((4:Int64) * (p0.toInt64))
    · refine XS.ifNo X0.here hx rfl (hb hby d1_19) rfl (XT.ll_ge_f hm19_1) ?_
      show Steps p.tables e below (s₁.setTop (mkF m 22 #[iv p0, iv (16:Int32)] [])) _
      refine XS.iinc X0.here hx rfl (hb hby d1_22) rfl (l' := #[iv p0, iv (17:Int32)]) rfl ?_
      show Steps p.tables e below (s₁.setTop (mkF m 25 #[iv p0, iv (17:Int32)] [])) _
      refine XS.goto X0.here hx rfl (pc0 := 25) (pc' := 3) rfl (hb hby d1_25) (by decide) (by decide) ?_
      show Steps p.tables e below (s₁.setTop (mkF m 3 #[iv p0, iv (17:Int32)] [])) _
      refine XS.iloadN X0.here hx rfl (hb hby d1_3) rfl ?_
      show Steps p.tables e below (s₁.setTop (mkF m 4 #[iv p0, iv (17:Int32)] [(.int (17:Int32))])) _
      refine XS.bipush X0.here hx rfl (hb hby d1_4) ?_
      show Steps p.tables e below (s₁.setTop (mkF m 6 #[iv p0, iv (17:Int32)] [(.int (23:Int32)), (.int (17:Int32))])) _
      refine XS.icmpNo X0.here hx rfl (hb hby d1_6) rfl (XT.ii_ge_f (by decide)) ?_
      show Steps p.tables e below (s₁.setTop (mkF m 9 #[iv p0, iv (17:Int32)] [])) _
      refine XS.lconst X0.here hx rfl (hb hby d1_9) ?_
      show Steps p.tables e below (s₁.setTop (mkF m 10 #[iv p0, iv (17:Int32)] [(.long (1:Int64))])) _
      refine XS.iloadN X0.here hx rfl (hb hby d1_10) rfl ?_
      show Steps p.tables e below (s₁.setTop (mkF m 11 #[iv p0, iv (17:Int32)] [(.int (17:Int32)), (.long (1:Int64))])) _
      refine XS.lshl X0.here hx rfl (hb hby d1_11) rfl ?_
      show Steps p.tables e below (s₁.setTop (mkF m 12 #[iv p0, iv (17:Int32)] [(.long ((1:Int64) <<< ((17:Int32) &&& 0x3f).toInt64))])) _
      refine Jvm.Stand.ldc2J X0 hx hown (mvT hZ (own_h hw 4 rfl)) rfl (hb hby d1_12) ?_
      show Steps p.tables e below (s₁.setTop (mkF m 15 #[iv p0, iv (17:Int32)] [(.long (4:Int64)), (.long ((1:Int64) <<< ((17:Int32) &&& 0x3f).toInt64))])) _
      refine XS.iloadN X0.here hx rfl (hb hby d1_15) rfl ?_
      show Steps p.tables e below (s₁.setTop (mkF m 16 #[iv p0, iv (17:Int32)] [(.int p0), (.long (4:Int64)), (.long ((1:Int64) <<< ((17:Int32) &&& 0x3f).toInt64))])) _
      refine XS.i2l X0.here hx rfl (hb hby d1_16) rfl ?_
      show Steps p.tables e below (s₁.setTop (mkF m 17 #[iv p0, iv (17:Int32)] [(.long (p0.toInt64)), (.long (4:Int64)), (.long ((1:Int64) <<< ((17:Int32) &&& 0x3f).toInt64))])) _
      refine XS.lmul X0.here hx rfl (hb hby d1_17) rfl ?_
      show Steps p.tables e below (s₁.setTop (mkF m 18 #[iv p0, iv (17:Int32)] [(.long ((4:Int64) * (p0.toInt64))), (.long ((1:Int64) <<< ((17:Int32) &&& 0x3f).toInt64))])) _
      refine XT.lcmp X0.here hx rfl (hb hby d1_18) rfl ?_
      show Steps p.tables e below (s₁.setTop (mkF m 19 #[iv p0, iv (17:Int32)] [(.int (XT.cmpL ((1:Int64) <<< ((17:Int32) &&& 0x3f).toInt64) ((4:Int64) * (p0.toInt64))))])) _
      by_cases hm19_2 : ((1:Int64) <<< ((17:Int32) &&& 0x3f).toInt64) < ((4:Int64) * (p0.toInt64))
      · refine XS.ifNo X0.here hx rfl (hb hby d1_19) rfl (XT.ll_ge_f hm19_2) ?_
        show Steps p.tables e below (s₁.setTop (mkF m 22 #[iv p0, iv (17:Int32)] [])) _
        refine XS.iinc X0.here hx rfl (hb hby d1_22) rfl (l' := #[iv p0, iv (18:Int32)]) rfl ?_
        show Steps p.tables e below (s₁.setTop (mkF m 25 #[iv p0, iv (18:Int32)] [])) _
        refine XS.goto X0.here hx rfl (pc0 := 25) (pc' := 3) rfl (hb hby d1_25) (by decide) (by decide) ?_
        show Steps p.tables e below (s₁.setTop (mkF m 3 #[iv p0, iv (18:Int32)] [])) _
        refine XS.iloadN X0.here hx rfl (hb hby d1_3) rfl ?_
        show Steps p.tables e below (s₁.setTop (mkF m 4 #[iv p0, iv (18:Int32)] [(.int (18:Int32))])) _
        refine XS.bipush X0.here hx rfl (hb hby d1_4) ?_
        show Steps p.tables e below (s₁.setTop (mkF m 6 #[iv p0, iv (18:Int32)] [(.int (23:Int32)), (.int (18:Int32))])) _
        refine XS.icmpNo X0.here hx rfl (hb hby d1_6) rfl (XT.ii_ge_f (by decide)) ?_
        show Steps p.tables e below (s₁.setTop (mkF m 9 #[iv p0, iv (18:Int32)] [])) _
        refine XS.lconst X0.here hx rfl (hb hby d1_9) ?_
        show Steps p.tables e below (s₁.setTop (mkF m 10 #[iv p0, iv (18:Int32)] [(.long (1:Int64))])) _
        refine XS.iloadN X0.here hx rfl (hb hby d1_10) rfl ?_
        show Steps p.tables e below (s₁.setTop (mkF m 11 #[iv p0, iv (18:Int32)] [(.int (18:Int32)), (.long (1:Int64))])) _
        refine XS.lshl X0.here hx rfl (hb hby d1_11) rfl ?_
        show Steps p.tables e below (s₁.setTop (mkF m 12 #[iv p0, iv (18:Int32)] [(.long ((1:Int64) <<< ((18:Int32) &&& 0x3f).toInt64))])) _
        refine Jvm.Stand.ldc2J X0 hx hown (mvT hZ (own_h hw 4 rfl)) rfl (hb hby d1_12) ?_
        show Steps p.tables e below (s₁.setTop (mkF m 15 #[iv p0, iv (18:Int32)] [(.long (4:Int64)), (.long ((1:Int64) <<< ((18:Int32) &&& 0x3f).toInt64))])) _
        refine XS.iloadN X0.here hx rfl (hb hby d1_15) rfl ?_
        show Steps p.tables e below (s₁.setTop (mkF m 16 #[iv p0, iv (18:Int32)] [(.int p0), (.long (4:Int64)), (.long ((1:Int64) <<< ((18:Int32) &&& 0x3f).toInt64))])) _
        refine XS.i2l X0.here hx rfl (hb hby d1_16) rfl ?_
        show Steps p.tables e below (s₁.setTop (mkF m 17 #[iv p0, iv (18:Int32)] [(.long (p0.toInt64)), (.long (4:Int64)), (.long ((1:Int64) <<< ((18:Int32) &&& 0x3f).toInt64))])) _
        refine XS.lmul X0.here hx rfl (hb hby d1_17) rfl ?_
        show Steps p.tables e below (s₁.setTop (mkF m 18 #[iv p0, iv (18:Int32)] [(.long ((4:Int64) * (p0.toInt64))), (.long ((1:Int64) <<< ((18:Int32) &&& 0x3f).toInt64))])) _
        refine XT.lcmp X0.here hx rfl (hb hby d1_18) rfl ?_
        show Steps p.tables e below (s₁.setTop (mkF m 19 #[iv p0, iv (18:Int32)] [(.int (XT.cmpL ((1:Int64) <<< ((18:Int32) &&& 0x3f).toInt64) ((4:Int64) * (p0.toInt64))))])) _
        by_cases hm19_3 : ((1:Int64) <<< ((18:Int32) &&& 0x3f).toInt64) < ((4:Int64) * (p0.toInt64))
        · refine XS.ifNo X0.here hx rfl (hb hby d1_19) rfl (XT.ll_ge_f hm19_3) ?_
          show Steps p.tables e below (s₁.setTop (mkF m 22 #[iv p0, iv (18:Int32)] [])) _
          refine XS.iinc X0.here hx rfl (hb hby d1_22) rfl (l' := #[iv p0, iv (19:Int32)]) rfl ?_
          show Steps p.tables e below (s₁.setTop (mkF m 25 #[iv p0, iv (19:Int32)] [])) _
          refine XS.goto X0.here hx rfl (pc0 := 25) (pc' := 3) rfl (hb hby d1_25) (by decide) (by decide) ?_
          show Steps p.tables e below (s₁.setTop (mkF m 3 #[iv p0, iv (19:Int32)] [])) _
          refine XS.iloadN X0.here hx rfl (hb hby d1_3) rfl ?_
          show Steps p.tables e below (s₁.setTop (mkF m 4 #[iv p0, iv (19:Int32)] [(.int (19:Int32))])) _
          refine XS.bipush X0.here hx rfl (hb hby d1_4) ?_
          show Steps p.tables e below (s₁.setTop (mkF m 6 #[iv p0, iv (19:Int32)] [(.int (23:Int32)), (.int (19:Int32))])) _
          refine XS.icmpNo X0.here hx rfl (hb hby d1_6) rfl (XT.ii_ge_f (by decide)) ?_
          show Steps p.tables e below (s₁.setTop (mkF m 9 #[iv p0, iv (19:Int32)] [])) _
          refine XS.lconst X0.here hx rfl (hb hby d1_9) ?_
          show Steps p.tables e below (s₁.setTop (mkF m 10 #[iv p0, iv (19:Int32)] [(.long (1:Int64))])) _
          refine XS.iloadN X0.here hx rfl (hb hby d1_10) rfl ?_
          show Steps p.tables e below (s₁.setTop (mkF m 11 #[iv p0, iv (19:Int32)] [(.int (19:Int32)), (.long (1:Int64))])) _
          refine XS.lshl X0.here hx rfl (hb hby d1_11) rfl ?_
          show Steps p.tables e below (s₁.setTop (mkF m 12 #[iv p0, iv (19:Int32)] [(.long ((1:Int64) <<< ((19:Int32) &&& 0x3f).toInt64))])) _
          refine Jvm.Stand.ldc2J X0 hx hown (mvT hZ (own_h hw 4 rfl)) rfl (hb hby d1_12) ?_
          show Steps p.tables e below (s₁.setTop (mkF m 15 #[iv p0, iv (19:Int32)] [(.long (4:Int64)), (.long ((1:Int64) <<< ((19:Int32) &&& 0x3f).toInt64))])) _
          refine XS.iloadN X0.here hx rfl (hb hby d1_15) rfl ?_
          show Steps p.tables e below (s₁.setTop (mkF m 16 #[iv p0, iv (19:Int32)] [(.int p0), (.long (4:Int64)), (.long ((1:Int64) <<< ((19:Int32) &&& 0x3f).toInt64))])) _
          refine XS.i2l X0.here hx rfl (hb hby d1_16) rfl ?_
          show Steps p.tables e below (s₁.setTop (mkF m 17 #[iv p0, iv (19:Int32)] [(.long (p0.toInt64)), (.long (4:Int64)), (.long ((1:Int64) <<< ((19:Int32) &&& 0x3f).toInt64))])) _
          refine XS.lmul X0.here hx rfl (hb hby d1_17) rfl ?_
          show Steps p.tables e below (s₁.setTop (mkF m 18 #[iv p0, iv (19:Int32)] [(.long ((4:Int64) * (p0.toInt64))), (.long ((1:Int64) <<< ((19:Int32) &&& 0x3f).toInt64))])) _
          refine XT.lcmp X0.here hx rfl (hb hby d1_18) rfl ?_
          show Steps p.tables e below (s₁.setTop (mkF m 19 #[iv p0, iv (19:Int32)] [(.int (XT.cmpL ((1:Int64) <<< ((19:Int32) &&& 0x3f).toInt64) ((4:Int64) * (p0.toInt64))))])) _
          by_cases hm19_4 : ((1:Int64) <<< ((19:Int32) &&& 0x3f).toInt64) < ((4:Int64) * (p0.toInt64))
          · refine XS.ifNo X0.here hx rfl (hb hby d1_19) rfl (XT.ll_ge_f hm19_4) ?_
            show Steps p.tables e below (s₁.setTop (mkF m 22 #[iv p0, iv (19:Int32)] [])) _
            refine XS.iinc X0.here hx rfl (hb hby d1_22) rfl (l' := #[iv p0, iv (20:Int32)]) rfl ?_
            show Steps p.tables e below (s₁.setTop (mkF m 25 #[iv p0, iv (20:Int32)] [])) _
            refine XS.goto X0.here hx rfl (pc0 := 25) (pc' := 3) rfl (hb hby d1_25) (by decide) (by decide) ?_
            show Steps p.tables e below (s₁.setTop (mkF m 3 #[iv p0, iv (20:Int32)] [])) _
            refine XS.iloadN X0.here hx rfl (hb hby d1_3) rfl ?_
            show Steps p.tables e below (s₁.setTop (mkF m 4 #[iv p0, iv (20:Int32)] [(.int (20:Int32))])) _
            refine XS.bipush X0.here hx rfl (hb hby d1_4) ?_
            show Steps p.tables e below (s₁.setTop (mkF m 6 #[iv p0, iv (20:Int32)] [(.int (23:Int32)), (.int (20:Int32))])) _
            refine XS.icmpNo X0.here hx rfl (hb hby d1_6) rfl (XT.ii_ge_f (by decide)) ?_
            show Steps p.tables e below (s₁.setTop (mkF m 9 #[iv p0, iv (20:Int32)] [])) _
            refine XS.lconst X0.here hx rfl (hb hby d1_9) ?_
            show Steps p.tables e below (s₁.setTop (mkF m 10 #[iv p0, iv (20:Int32)] [(.long (1:Int64))])) _
            refine XS.iloadN X0.here hx rfl (hb hby d1_10) rfl ?_
            show Steps p.tables e below (s₁.setTop (mkF m 11 #[iv p0, iv (20:Int32)] [(.int (20:Int32)), (.long (1:Int64))])) _
            refine XS.lshl X0.here hx rfl (hb hby d1_11) rfl ?_
            show Steps p.tables e below (s₁.setTop (mkF m 12 #[iv p0, iv (20:Int32)] [(.long ((1:Int64) <<< ((20:Int32) &&& 0x3f).toInt64))])) _
            refine Jvm.Stand.ldc2J X0 hx hown (mvT hZ (own_h hw 4 rfl)) rfl (hb hby d1_12) ?_
            show Steps p.tables e below (s₁.setTop (mkF m 15 #[iv p0, iv (20:Int32)] [(.long (4:Int64)), (.long ((1:Int64) <<< ((20:Int32) &&& 0x3f).toInt64))])) _
            refine XS.iloadN X0.here hx rfl (hb hby d1_15) rfl ?_
            show Steps p.tables e below (s₁.setTop (mkF m 16 #[iv p0, iv (20:Int32)] [(.int p0), (.long (4:Int64)), (.long ((1:Int64) <<< ((20:Int32) &&& 0x3f).toInt64))])) _
            refine XS.i2l X0.here hx rfl (hb hby d1_16) rfl ?_
            show Steps p.tables e below (s₁.setTop (mkF m 17 #[iv p0, iv (20:Int32)] [(.long (p0.toInt64)), (.long (4:Int64)), (.long ((1:Int64) <<< ((20:Int32) &&& 0x3f).toInt64))])) _
            refine XS.lmul X0.here hx rfl (hb hby d1_17) rfl ?_
            show Steps p.tables e below (s₁.setTop (mkF m 18 #[iv p0, iv (20:Int32)] [(.long ((4:Int64) * (p0.toInt64))), (.long ((1:Int64) <<< ((20:Int32) &&& 0x3f).toInt64))])) _
            refine XT.lcmp X0.here hx rfl (hb hby d1_18) rfl ?_
            show Steps p.tables e below (s₁.setTop (mkF m 19 #[iv p0, iv (20:Int32)] [(.int (XT.cmpL ((1:Int64) <<< ((20:Int32) &&& 0x3f).toInt64) ((4:Int64) * (p0.toInt64))))])) _
            by_cases hm19_5 : ((1:Int64) <<< ((20:Int32) &&& 0x3f).toInt64) < ((4:Int64) * (p0.toInt64))
            · refine XS.ifNo X0.here hx rfl (hb hby d1_19) rfl (XT.ll_ge_f hm19_5) ?_
              show Steps p.tables e below (s₁.setTop (mkF m 22 #[iv p0, iv (20:Int32)] [])) _
              refine XS.iinc X0.here hx rfl (hb hby d1_22) rfl (l' := #[iv p0, iv (21:Int32)]) rfl ?_
              show Steps p.tables e below (s₁.setTop (mkF m 25 #[iv p0, iv (21:Int32)] [])) _
              refine XS.goto X0.here hx rfl (pc0 := 25) (pc' := 3) rfl (hb hby d1_25) (by decide) (by decide) ?_
              show Steps p.tables e below (s₁.setTop (mkF m 3 #[iv p0, iv (21:Int32)] [])) _
              refine XS.iloadN X0.here hx rfl (hb hby d1_3) rfl ?_
              show Steps p.tables e below (s₁.setTop (mkF m 4 #[iv p0, iv (21:Int32)] [(.int (21:Int32))])) _
              refine XS.bipush X0.here hx rfl (hb hby d1_4) ?_
              show Steps p.tables e below (s₁.setTop (mkF m 6 #[iv p0, iv (21:Int32)] [(.int (23:Int32)), (.int (21:Int32))])) _
              refine XS.icmpNo X0.here hx rfl (hb hby d1_6) rfl (XT.ii_ge_f (by decide)) ?_
              show Steps p.tables e below (s₁.setTop (mkF m 9 #[iv p0, iv (21:Int32)] [])) _
              refine XS.lconst X0.here hx rfl (hb hby d1_9) ?_
              show Steps p.tables e below (s₁.setTop (mkF m 10 #[iv p0, iv (21:Int32)] [(.long (1:Int64))])) _
              refine XS.iloadN X0.here hx rfl (hb hby d1_10) rfl ?_
              show Steps p.tables e below (s₁.setTop (mkF m 11 #[iv p0, iv (21:Int32)] [(.int (21:Int32)), (.long (1:Int64))])) _
              refine XS.lshl X0.here hx rfl (hb hby d1_11) rfl ?_
              show Steps p.tables e below (s₁.setTop (mkF m 12 #[iv p0, iv (21:Int32)] [(.long ((1:Int64) <<< ((21:Int32) &&& 0x3f).toInt64))])) _
              refine Jvm.Stand.ldc2J X0 hx hown (mvT hZ (own_h hw 4 rfl)) rfl (hb hby d1_12) ?_
              show Steps p.tables e below (s₁.setTop (mkF m 15 #[iv p0, iv (21:Int32)] [(.long (4:Int64)), (.long ((1:Int64) <<< ((21:Int32) &&& 0x3f).toInt64))])) _
              refine XS.iloadN X0.here hx rfl (hb hby d1_15) rfl ?_
              show Steps p.tables e below (s₁.setTop (mkF m 16 #[iv p0, iv (21:Int32)] [(.int p0), (.long (4:Int64)), (.long ((1:Int64) <<< ((21:Int32) &&& 0x3f).toInt64))])) _
              refine XS.i2l X0.here hx rfl (hb hby d1_16) rfl ?_
              show Steps p.tables e below (s₁.setTop (mkF m 17 #[iv p0, iv (21:Int32)] [(.long (p0.toInt64)), (.long (4:Int64)), (.long ((1:Int64) <<< ((21:Int32) &&& 0x3f).toInt64))])) _
              refine XS.lmul X0.here hx rfl (hb hby d1_17) rfl ?_
              show Steps p.tables e below (s₁.setTop (mkF m 18 #[iv p0, iv (21:Int32)] [(.long ((4:Int64) * (p0.toInt64))), (.long ((1:Int64) <<< ((21:Int32) &&& 0x3f).toInt64))])) _
              refine XT.lcmp X0.here hx rfl (hb hby d1_18) rfl ?_
              show Steps p.tables e below (s₁.setTop (mkF m 19 #[iv p0, iv (21:Int32)] [(.int (XT.cmpL ((1:Int64) <<< ((21:Int32) &&& 0x3f).toInt64) ((4:Int64) * (p0.toInt64))))])) _
              by_cases hm19_6 : ((1:Int64) <<< ((21:Int32) &&& 0x3f).toInt64) < ((4:Int64) * (p0.toInt64))
              · refine XS.ifNo X0.here hx rfl (hb hby d1_19) rfl (XT.ll_ge_f hm19_6) ?_
                show Steps p.tables e below (s₁.setTop (mkF m 22 #[iv p0, iv (21:Int32)] [])) _
                refine XS.iinc X0.here hx rfl (hb hby d1_22) rfl (l' := #[iv p0, iv (22:Int32)]) rfl ?_
                show Steps p.tables e below (s₁.setTop (mkF m 25 #[iv p0, iv (22:Int32)] [])) _
                refine XS.goto X0.here hx rfl (pc0 := 25) (pc' := 3) rfl (hb hby d1_25) (by decide) (by decide) ?_
                show Steps p.tables e below (s₁.setTop (mkF m 3 #[iv p0, iv (22:Int32)] [])) _
                refine XS.iloadN X0.here hx rfl (hb hby d1_3) rfl ?_
                show Steps p.tables e below (s₁.setTop (mkF m 4 #[iv p0, iv (22:Int32)] [(.int (22:Int32))])) _
                refine XS.bipush X0.here hx rfl (hb hby d1_4) ?_
                show Steps p.tables e below (s₁.setTop (mkF m 6 #[iv p0, iv (22:Int32)] [(.int (23:Int32)), (.int (22:Int32))])) _
                refine XS.icmpNo X0.here hx rfl (hb hby d1_6) rfl (XT.ii_ge_f (by decide)) ?_
                show Steps p.tables e below (s₁.setTop (mkF m 9 #[iv p0, iv (22:Int32)] [])) _
                refine XS.lconst X0.here hx rfl (hb hby d1_9) ?_
                show Steps p.tables e below (s₁.setTop (mkF m 10 #[iv p0, iv (22:Int32)] [(.long (1:Int64))])) _
                refine XS.iloadN X0.here hx rfl (hb hby d1_10) rfl ?_
                show Steps p.tables e below (s₁.setTop (mkF m 11 #[iv p0, iv (22:Int32)] [(.int (22:Int32)), (.long (1:Int64))])) _
                refine XS.lshl X0.here hx rfl (hb hby d1_11) rfl ?_
                show Steps p.tables e below (s₁.setTop (mkF m 12 #[iv p0, iv (22:Int32)] [(.long ((1:Int64) <<< ((22:Int32) &&& 0x3f).toInt64))])) _
                refine Jvm.Stand.ldc2J X0 hx hown (mvT hZ (own_h hw 4 rfl)) rfl (hb hby d1_12) ?_
                show Steps p.tables e below (s₁.setTop (mkF m 15 #[iv p0, iv (22:Int32)] [(.long (4:Int64)), (.long ((1:Int64) <<< ((22:Int32) &&& 0x3f).toInt64))])) _
                refine XS.iloadN X0.here hx rfl (hb hby d1_15) rfl ?_
                show Steps p.tables e below (s₁.setTop (mkF m 16 #[iv p0, iv (22:Int32)] [(.int p0), (.long (4:Int64)), (.long ((1:Int64) <<< ((22:Int32) &&& 0x3f).toInt64))])) _
                refine XS.i2l X0.here hx rfl (hb hby d1_16) rfl ?_
                show Steps p.tables e below (s₁.setTop (mkF m 17 #[iv p0, iv (22:Int32)] [(.long (p0.toInt64)), (.long (4:Int64)), (.long ((1:Int64) <<< ((22:Int32) &&& 0x3f).toInt64))])) _
                refine XS.lmul X0.here hx rfl (hb hby d1_17) rfl ?_
                show Steps p.tables e below (s₁.setTop (mkF m 18 #[iv p0, iv (22:Int32)] [(.long ((4:Int64) * (p0.toInt64))), (.long ((1:Int64) <<< ((22:Int32) &&& 0x3f).toInt64))])) _
                refine XT.lcmp X0.here hx rfl (hb hby d1_18) rfl ?_
                show Steps p.tables e below (s₁.setTop (mkF m 19 #[iv p0, iv (22:Int32)] [(.int (XT.cmpL ((1:Int64) <<< ((22:Int32) &&& 0x3f).toInt64) ((4:Int64) * (p0.toInt64))))])) _
                by_cases hm19_7 : ((1:Int64) <<< ((22:Int32) &&& 0x3f).toInt64) < ((4:Int64) * (p0.toInt64))
                · refine XS.ifNo X0.here hx rfl (hb hby d1_19) rfl (XT.ll_ge_f hm19_7) ?_
                  show Steps p.tables e below (s₁.setTop (mkF m 22 #[iv p0, iv (22:Int32)] [])) _
                  refine XS.iinc X0.here hx rfl (hb hby d1_22) rfl (l' := #[iv p0, iv (23:Int32)]) rfl ?_
                  show Steps p.tables e below (s₁.setTop (mkF m 25 #[iv p0, iv (23:Int32)] [])) _
                  refine XS.goto X0.here hx rfl (pc0 := 25) (pc' := 3) rfl (hb hby d1_25) (by decide) (by decide) ?_
                  show Steps p.tables e below (s₁.setTop (mkF m 3 #[iv p0, iv (23:Int32)] [])) _
                  refine XS.iloadN X0.here hx rfl (hb hby d1_3) rfl ?_
                  show Steps p.tables e below (s₁.setTop (mkF m 4 #[iv p0, iv (23:Int32)] [(.int (23:Int32))])) _
                  refine XS.bipush X0.here hx rfl (hb hby d1_4) ?_
                  show Steps p.tables e below (s₁.setTop (mkF m 6 #[iv p0, iv (23:Int32)] [(.int (23:Int32)), (.int (23:Int32))])) _
                  refine XS.icmpYes X0.here hx rfl (pc0 := 6) (pc' := 28) rfl (hb hby d1_6) rfl (XT.ii_ge_t (by decide)) (by decide) (by decide) ?_
                  rw [hw1_1.trans (((((((if_pos hm19_1).trans (if_pos hm19_2)).trans (if_pos hm19_3)).trans (if_pos hm19_4)).trans (if_pos hm19_5)).trans (if_pos hm19_6)).trans (if_pos hm19_7))] at k
                  exact k
                · refine XS.ifYes X0.here hx rfl (pc0 := 19) (pc' := 28) rfl (hb hby d1_19) rfl (XT.ll_ge_t hm19_7) (by decide) (by decide) ?_
                  rw [hw1_1.trans (((((((if_pos hm19_1).trans (if_pos hm19_2)).trans (if_pos hm19_3)).trans (if_pos hm19_4)).trans (if_pos hm19_5)).trans (if_pos hm19_6)).trans (if_neg hm19_7))] at k
                  exact k
              · refine XS.ifYes X0.here hx rfl (pc0 := 19) (pc' := 28) rfl (hb hby d1_19) rfl (XT.ll_ge_t hm19_6) (by decide) (by decide) ?_
                rw [hw1_1.trans ((((((if_pos hm19_1).trans (if_pos hm19_2)).trans (if_pos hm19_3)).trans (if_pos hm19_4)).trans (if_pos hm19_5)).trans (if_neg hm19_6))] at k
                exact k
            · refine XS.ifYes X0.here hx rfl (pc0 := 19) (pc' := 28) rfl (hb hby d1_19) rfl (XT.ll_ge_t hm19_5) (by decide) (by decide) ?_
              rw [hw1_1.trans (((((if_pos hm19_1).trans (if_pos hm19_2)).trans (if_pos hm19_3)).trans (if_pos hm19_4)).trans (if_neg hm19_5))] at k
              exact k
          · refine XS.ifYes X0.here hx rfl (pc0 := 19) (pc' := 28) rfl (hb hby d1_19) rfl (XT.ll_ge_t hm19_4) (by decide) (by decide) ?_
            rw [hw1_1.trans ((((if_pos hm19_1).trans (if_pos hm19_2)).trans (if_pos hm19_3)).trans (if_neg hm19_4))] at k
            exact k
        · refine XS.ifYes X0.here hx rfl (pc0 := 19) (pc' := 28) rfl (hb hby d1_19) rfl (XT.ll_ge_t hm19_3) (by decide) (by decide) ?_
          rw [hw1_1.trans (((if_pos hm19_1).trans (if_pos hm19_2)).trans (if_neg hm19_3))] at k
          exact k
      · refine XS.ifYes X0.here hx rfl (pc0 := 19) (pc' := 28) rfl (hb hby d1_19) rfl (XT.ll_ge_t hm19_2) (by decide) (by decide) ?_
        rw [hw1_1.trans ((if_pos hm19_1).trans (if_neg hm19_2))] at k
        exact k
    · refine XS.ifYes X0.here hx rfl (pc0 := 19) (pc' := 28) rfl (hb hby d1_19) rfl (XT.ll_ge_t hm19_1) (by decide) (by decide) ?_
      rw [hw1_1.trans (if_neg hm19_1)] at k
      exact k
  refine own_pre (A := s₁.setTop (mkF m 29 #[iv p0, iv w1_1] [(.int w1_1)])) (fun t k => ?_) ?_
  · show Steps p.tables e below (s₁.setTop (mkF m 28 #[iv p0, iv w1_1] [])) _
    refine XS.iloadN X0.here hx rfl (hb hby d1_28) rfl ?_
    exact k
  have hv1 : w1_1 = f1 p0 := by subst hw1_1; rfl
  exact own_end X0 (BodyLoose.notSynchronized Bd) (fun h => by rw [Bd.returns] at h; cases h) (v := some (.int w1_1)) (fun fs hr => retOut X0 hx Bd.returns rfl (by simp [Value.isRef, FieldType.isReference]) (hb hby d1_29) hr) (by show Q1 Z p0 h0 n0 _ s₁.heap _; rw [e0]; exact ⟨(congrArg (fun z => some (Value.int z)) hv1), N0, rfl⟩) (by decide) (by decide)
theorem own_pn1 : plainName "com/example/rowfold/rowfold/codec/FieldModelMostTableBitsPinLaw" = true := by first | (simp [plainName, overriddenIn]; done) | decide +kernel
theorem own_pd0 : parseMethodDescriptor "(I)I" = some ⟨[.int], some .int⟩ := by decide +kernel
theorem ef0 (m : MethodId) (p0 : Int32) : entryFrame m #[(.int p0)] maxLocals = mkF m 0 #[iv p0, .unset, .unset, .unset, .unset, .unset] [] := by first | (simp [entryFrame, mkF, argsToLocals, Value.category, maxLocals]; done) | rfl
def f0 (p0 : Int32) : Int32 := (if (f1 p0) < (16:Int32) then (0:Int32) else (if (23:Int32) < (f1 p0) then (0:Int32) else (let w0_1 : Int32 := (if (f1 p0) = (23:Int32) then (1:Int32) else (if ((1:Int64) <<< ((f1 p0) &&& 0x3f).toInt64) < ((4:Int64) * (p0.toInt64)) then (0:Int32) else (1:Int32))); let w0_2 : Int32 := (if (f1 p0) = (16:Int32) then (1:Int32) else (if ((1:Int64) <<< (((f1 p0) - (1:Int32)) &&& 0x3f).toInt64) < ((4:Int64) * (p0.toInt64)) then (1:Int32) else (0:Int32))); let w0_3 : Int32 := (if w0_1 = (0:Int32) then (0:Int32) else (if w0_2 = (0:Int32) then (0:Int32) else (1:Int32))); (w0_3 &&& 1))))
def Q0 (Z : State) (p0 : Int32)  (h0 : Heap) (n0 : Nat) (v : Option Value) (h : Heap) (L : List Loc) : Prop := v = some (.int (f0 p0)) ∧ Fr n0 L
set_option maxRecDepth 65536 in
set_option maxHeartbeats 40000000 in
theorem rm0 (l : Launch) (Z : State) (aZ : Array Value) (hw : ∀ d ∈ tables_1, d.before aZ Z = true) (ws : List Jvm.Cond) (p0 : Int32)  (h0 : Heap) (n0 : Nat) (Z0 : n0 ≤ h0.size)  :
    MetFree l x (head1 (Jvm.Cond.code x code maxLocals ret :: ws) room_1) (fun a U => a = #[(.int p0)] ∧ Z.Warmed39 U.vm ∧ U.heap = h0) (fun _ _ _ _ _ => True) (fun _ U o U' => ∃ v L, o = .returned v ∧ Q0 Z p0 h0 n0 v U'.heap L ∧ FrameEnd U o U' L 0 0) := by
  refine MetFree.of_bodySF (plainFor_of_name own_pn1) hisR ?_
  intro p e s m args below meth c s₁ Bd hml0 hP hK
  obtain ⟨rfl, hZ, hh⟩ := hP
  have hx := Bd.exec
  have hby := Bd.bytes
  have hml : c.maxLocals = 6 := hml0
  have hown : s.vm.findClass "com/example/rowfold/rowfold/codec/FieldModelMostTableBitsPinLaw" = some m.cls := findClass_of_methodNamed Bd.named
  have hnm := (name_of_methodNamed Bd.named Bd.method).1
  have X0 : Stand p l e room_1 s m #[(.int p0)] below meth c s₁ [] 0 0 := Stand.of_body Bd
  have e0 : s₁.heap = h0 := by rw [← hh, Bd.state]; rfl
  have N0 := Fr.nil n0
  show own_Goes p e below s (Q0 Z p0 h0 n0) 0 0 _
  refine own_pre (fun t k => castTop (ef0 m p0) k) ?_
  refine own_pre (A := s₁.setTop (mkF m 1 #[iv p0, .unset, .unset, .unset, .unset, .unset] [(.int p0)])) (fun t k => ?_) ?_
  · show Steps p.tables e below (s₁.setTop (mkF m 0 #[iv p0, .unset, .unset, .unset, .unset, .unset] [])) _
    refine XS.iloadN X0.here hx rfl (hb hby at_0) rfl ?_
    exact k
  obtain ⟨_, _, ⟨T2, L2, k2, n2⟩, -, X2, ⟨Lc2, hQ2, l2, y2, z2⟩, st2⟩ := Jvm.LawKit.callS X0 hx (y := (⟨"com/example/rowfold/rowfold/codec/FieldModel", "mostTableBits", "(I)I"⟩ : MethodName)) hown (mvT hZ (own_h hw 0 rfl)) (mvT hZ (own_h hw 1 rfl)) (mvT hZ (own_h hw 2 rfl)) (mvT hZ (own_h hw 3 rfl)) (by decide) (backOf (W := 0) (rm1 l Z aZ hw [] p0 h0 n0 Z0 ) hZ (own_h hw 3 rfl) (own_h hw 2 rfl) (by decide) (by decide)) (g := (mkF m 1 #[iv p0, .unset, .unset, .unset, .unset, .unset] [(.int p0)])) rfl (by rw [hml]; rfl) (argsL := [(.int p0)]) (rest := []) (lenOf own_pd0 rfl) rfl (by show 2 * 0 + _ ≤ _; exact Nat.le_of_eq rfl) (hb hby at_1) (fun _ _ => ⟨rfl, e0, (by decide : 0 + 0 ≤ _), (by decide : 0 + 0 ≤ _)⟩)
  dsimp only [Pt.U, Pt.locs, Pt.cells, Pt.slots] at X2 l2 y2 z2 st2 hQ2
  subst l2 y2 z2
  obtain ⟨rfl, N2q, eh2⟩ := hQ2
  have N2 := Fr.app N0 N2q
  refine own_pre st2 ?_
  refine own_pre (A := T2.setTop (mkF m 8 #[iv p0, iv (f1 p0), .unset, .unset, .unset, .unset] [(.int (16:Int32)), (.int (f1 p0))])) (fun t k => ?_) ?_
  · show Steps p.tables e below (T2.setTop (mkF m 4 #[iv p0, .unset, .unset, .unset, .unset, .unset] [(.int (f1 p0))])) _
    refine XS.istoreN X2.here hx rfl (hb hby at_4) rfl (l' := #[iv p0, iv (f1 p0), .unset, .unset, .unset, .unset]) rfl ?_
    show Steps p.tables e below (T2.setTop (mkF m 5 #[iv p0, iv (f1 p0), .unset, .unset, .unset, .unset] [])) _
    refine XS.iloadN X2.here hx rfl (hb hby at_5) rfl ?_
    show Steps p.tables e below (T2.setTop (mkF m 6 #[iv p0, iv (f1 p0), .unset, .unset, .unset, .unset] [(.int (f1 p0))])) _
    refine XS.bipush X2.here hx rfl (hb hby at_6) ?_
    exact k
  by_cases hs8_1 : (f1 p0) < (16:Int32)
  · refine own_pre (A := T2.setTop (mkF m 18 #[iv p0, iv (f1 p0), .unset, .unset, .unset, .unset] [(.int (0:Int32))])) (fun t k => ?_) ?_
    · show Steps p.tables e below (T2.setTop (mkF m 8 #[iv p0, iv (f1 p0), .unset, .unset, .unset, .unset] [(.int (16:Int32)), (.int (f1 p0))])) _
      refine XS.icmpYes X2.here hx rfl (pc0 := 8) (pc' := 17) rfl (hb hby at_8) rfl (XT.ii_lt_t hs8_1) (by decide) (by decide) ?_
      show Steps p.tables e below (T2.setTop (mkF m 17 #[iv p0, iv (f1 p0), .unset, .unset, .unset, .unset] [])) _
      refine XS.iconst X2.here hx rfl (hb hby at_17) ?_
      exact k
    have hv3 : (0:Int32) = f0 p0 := by simp only [f0, if_pos hs8_1]
    exact own_end X2 (BodyLoose.notSynchronized Bd) (fun h => by rw [Bd.returns] at h; cases h) (v := some (.int (0:Int32))) (fun fs hr => retN X2 hx (t := .boolean) Bd.returns (by simp) (hb hby at_18) hr) (by show Q0 Z p0 h0 n0 _ T2.heap _; rw [eh2]; exact ⟨(congrArg (fun z => some (Value.int z)) hv3), N2⟩) (by decide) (by decide)
  · refine own_pre (A := T2.setTop (mkF m 14 #[iv p0, iv (f1 p0), .unset, .unset, .unset, .unset] [(.int (23:Int32)), (.int (f1 p0))])) (fun t k => ?_) ?_
    · show Steps p.tables e below (T2.setTop (mkF m 8 #[iv p0, iv (f1 p0), .unset, .unset, .unset, .unset] [(.int (16:Int32)), (.int (f1 p0))])) _
      refine XS.icmpNo X2.here hx rfl (hb hby at_8) rfl (XT.ii_lt_f hs8_1) ?_
      show Steps p.tables e below (T2.setTop (mkF m 11 #[iv p0, iv (f1 p0), .unset, .unset, .unset, .unset] [])) _
      refine XS.iloadN X2.here hx rfl (hb hby at_11) rfl ?_
      show Steps p.tables e below (T2.setTop (mkF m 12 #[iv p0, iv (f1 p0), .unset, .unset, .unset, .unset] [(.int (f1 p0))])) _
      refine XS.bipush X2.here hx rfl (hb hby at_12) ?_
      exact k
    by_cases hs14_2 : (23:Int32) < (f1 p0)
    · refine own_pre (A := T2.setTop (mkF m 18 #[iv p0, iv (f1 p0), .unset, .unset, .unset, .unset] [(.int (0:Int32))])) (fun t k => ?_) ?_
      · show Steps p.tables e below (T2.setTop (mkF m 14 #[iv p0, iv (f1 p0), .unset, .unset, .unset, .unset] [(.int (23:Int32)), (.int (f1 p0))])) _
        refine XS.icmpNo X2.here hx rfl (hb hby at_14) rfl (XT.ii_le_f hs14_2) ?_
        show Steps p.tables e below (T2.setTop (mkF m 17 #[iv p0, iv (f1 p0), .unset, .unset, .unset, .unset] [])) _
        refine XS.iconst X2.here hx rfl (hb hby at_17) ?_
        exact k
      have hv4 : (0:Int32) = f0 p0 := by simp only [f0, if_neg hs8_1, if_pos hs14_2]
      exact own_end X2 (BodyLoose.notSynchronized Bd) (fun h => by rw [Bd.returns] at h; cases h) (v := some (.int (0:Int32))) (fun fs hr => retN X2 hx (t := .boolean) Bd.returns (by simp) (hb hby at_18) hr) (by show Q0 Z p0 h0 n0 _ T2.heap _; rw [eh2]; exact ⟨(congrArg (fun z => some (Value.int z)) hv4), N2⟩) (by decide) (by decide)
    · refine own_pre (A := T2.setTop (mkF m 29 #[iv p0, iv (f1 p0), .val (.long ((4:Int64) * (p0.toInt64))), .second, .unset, .unset] [(.int (23:Int32)), (.int (f1 p0))])) (fun t k => ?_) ?_
      · show Steps p.tables e below (T2.setTop (mkF m 14 #[iv p0, iv (f1 p0), .unset, .unset, .unset, .unset] [(.int (23:Int32)), (.int (f1 p0))])) _
        refine XS.icmpYes X2.here hx rfl (pc0 := 14) (pc' := 19) rfl (hb hby at_14) rfl (XT.ii_le_t hs14_2) (by decide) (by decide) ?_
        show Steps p.tables e below (T2.setTop (mkF m 19 #[iv p0, iv (f1 p0), .unset, .unset, .unset, .unset] [])) _
        refine Jvm.Stand.ldc2J X2 hx hown (mvT hZ (own_h hw 5 rfl)) rfl (hb hby at_19) ?_
        show Steps p.tables e below (T2.setTop (mkF m 22 #[iv p0, iv (f1 p0), .unset, .unset, .unset, .unset] [(.long (4:Int64))])) _
        refine XS.iloadN X2.here hx rfl (hb hby at_22) rfl ?_
        show Steps p.tables e below (T2.setTop (mkF m 23 #[iv p0, iv (f1 p0), .unset, .unset, .unset, .unset] [(.int p0), (.long (4:Int64))])) _
        refine XS.i2l X2.here hx rfl (hb hby at_23) rfl ?_
        show Steps p.tables e below (T2.setTop (mkF m 24 #[iv p0, iv (f1 p0), .unset, .unset, .unset, .unset] [(.long (p0.toInt64)), (.long (4:Int64))])) _
        refine XS.lmul X2.here hx rfl (hb hby at_24) rfl ?_
        show Steps p.tables e below (T2.setTop (mkF m 25 #[iv p0, iv (f1 p0), .unset, .unset, .unset, .unset] [(.long ((4:Int64) * (p0.toInt64)))])) _
        refine XS.lstoreN X2.here hx rfl (hb hby at_25) rfl (l' := #[iv p0, iv (f1 p0), .val (.long ((4:Int64) * (p0.toInt64))), .second, .unset, .unset]) rfl ?_
        show Steps p.tables e below (T2.setTop (mkF m 26 #[iv p0, iv (f1 p0), .val (.long ((4:Int64) * (p0.toInt64))), .second, .unset, .unset] [])) _
        refine XS.iloadN X2.here hx rfl (hb hby at_26) rfl ?_
        show Steps p.tables e below (T2.setTop (mkF m 27 #[iv p0, iv (f1 p0), .val (.long ((4:Int64) * (p0.toInt64))), .second, .unset, .unset] [(.int (f1 p0))])) _
        refine XS.bipush X2.here hx rfl (hb hby at_27) ?_
        exact k
      obtain ⟨w0_1, hw0_1⟩ : ∃ z : Int32, z = (if (f1 p0) = (23:Int32) then (1:Int32) else (if ((1:Int64) <<< ((f1 p0) &&& 0x3f).toInt64) < ((4:Int64) * (p0.toInt64)) then (0:Int32) else (1:Int32))) := ⟨_, rfl⟩
      refine own_pre (A := T2.setTop (mkF m 45 #[iv p0, iv (f1 p0), .val (.long ((4:Int64) * (p0.toInt64))), .second, .unset, .unset] [(.int w0_1)])) (fun t k => ?_) ?_
      · show Steps p.tables e below (T2.setTop (mkF m 29 #[iv p0, iv (f1 p0), .val (.long ((4:Int64) * (p0.toInt64))), .second, .unset, .unset] [(.int (23:Int32)), (.int (f1 p0))])) _
        by_cases hm29_3 : (f1 p0) = (23:Int32)
        · refine XS.icmpYes X2.here hx rfl (pc0 := 29) (pc' := 40) rfl (hb hby at_29) rfl (XT.ii_eq_t hm29_3) (by decide) (by decide) ?_
          show Steps p.tables e below (T2.setTop (mkF m 40 #[iv p0, iv (f1 p0), .val (.long ((4:Int64) * (p0.toInt64))), .second, .unset, .unset] [])) _
          refine XS.iconst X2.here hx rfl (hb hby at_40) ?_
          show Steps p.tables e below (T2.setTop (mkF m 41 #[iv p0, iv (f1 p0), .val (.long ((4:Int64) * (p0.toInt64))), .second, .unset, .unset] [(.int (1:Int32))])) _
          refine XS.goto X2.here hx rfl (pc0 := 41) (pc' := 45) rfl (hb hby at_41) (by decide) (by decide) ?_
          rw [hw0_1.trans (if_pos hm29_3)] at k
          exact k
        · refine XS.icmpNo X2.here hx rfl (hb hby at_29) rfl (XT.ii_eq_f hm29_3) ?_
          show Steps p.tables e below (T2.setTop (mkF m 32 #[iv p0, iv (f1 p0), .val (.long ((4:Int64) * (p0.toInt64))), .second, .unset, .unset] [])) _
          refine XS.lconst X2.here hx rfl (hb hby at_32) ?_
          show Steps p.tables e below (T2.setTop (mkF m 33 #[iv p0, iv (f1 p0), .val (.long ((4:Int64) * (p0.toInt64))), .second, .unset, .unset] [(.long (1:Int64))])) _
          refine XS.iloadN X2.here hx rfl (hb hby at_33) rfl ?_
          show Steps p.tables e below (T2.setTop (mkF m 34 #[iv p0, iv (f1 p0), .val (.long ((4:Int64) * (p0.toInt64))), .second, .unset, .unset] [(.int (f1 p0)), (.long (1:Int64))])) _
          refine XS.lshl X2.here hx rfl (hb hby at_34) rfl ?_
          show Steps p.tables e below (T2.setTop (mkF m 35 #[iv p0, iv (f1 p0), .val (.long ((4:Int64) * (p0.toInt64))), .second, .unset, .unset] [(.long ((1:Int64) <<< ((f1 p0) &&& 0x3f).toInt64))])) _
          refine XS.lloadN X2.here hx rfl (hb hby at_35) rfl ?_
          show Steps p.tables e below (T2.setTop (mkF m 36 #[iv p0, iv (f1 p0), .val (.long ((4:Int64) * (p0.toInt64))), .second, .unset, .unset] [(.long ((4:Int64) * (p0.toInt64))), (.long ((1:Int64) <<< ((f1 p0) &&& 0x3f).toInt64))])) _
          refine XT.lcmp X2.here hx rfl (hb hby at_36) rfl ?_
          show Steps p.tables e below (T2.setTop (mkF m 37 #[iv p0, iv (f1 p0), .val (.long ((4:Int64) * (p0.toInt64))), .second, .unset, .unset] [(.int (XT.cmpL ((1:Int64) <<< ((f1 p0) &&& 0x3f).toInt64) ((4:Int64) * (p0.toInt64))))])) _
          by_cases hm37_4 : ((1:Int64) <<< ((f1 p0) &&& 0x3f).toInt64) < ((4:Int64) * (p0.toInt64))
          · refine XS.ifYes X2.here hx rfl (pc0 := 37) (pc' := 44) rfl (hb hby at_37) rfl (XT.ll_lt_t hm37_4) (by decide) (by decide) ?_
            show Steps p.tables e below (T2.setTop (mkF m 44 #[iv p0, iv (f1 p0), .val (.long ((4:Int64) * (p0.toInt64))), .second, .unset, .unset] [])) _
            refine XS.iconst X2.here hx rfl (hb hby at_44) ?_
            rw [hw0_1.trans ((if_neg hm29_3).trans (if_pos hm37_4))] at k
            exact k
          · refine XS.ifNo X2.here hx rfl (hb hby at_37) rfl (XT.ll_lt_f hm37_4) ?_
            show Steps p.tables e below (T2.setTop (mkF m 40 #[iv p0, iv (f1 p0), .val (.long ((4:Int64) * (p0.toInt64))), .second, .unset, .unset] [])) _
            refine XS.iconst X2.here hx rfl (hb hby at_40) ?_
            show Steps p.tables e below (T2.setTop (mkF m 41 #[iv p0, iv (f1 p0), .val (.long ((4:Int64) * (p0.toInt64))), .second, .unset, .unset] [(.int (1:Int32))])) _
            refine XS.goto X2.here hx rfl (pc0 := 41) (pc' := 45) rfl (hb hby at_41) (by decide) (by decide) ?_
            rw [hw0_1.trans ((if_neg hm29_3).trans (if_neg hm37_4))] at k
            exact k
      refine own_pre (A := T2.setTop (mkF m 50 #[iv p0, iv (f1 p0), .val (.long ((4:Int64) * (p0.toInt64))), .second, iv w0_1, .unset] [(.int (16:Int32)), (.int (f1 p0))])) (fun t k => ?_) ?_
      · show Steps p.tables e below (T2.setTop (mkF m 45 #[iv p0, iv (f1 p0), .val (.long ((4:Int64) * (p0.toInt64))), .second, .unset, .unset] [(.int w0_1)])) _
        refine XS.istore X2.here hx rfl (hb hby at_45) rfl (l' := #[iv p0, iv (f1 p0), .val (.long ((4:Int64) * (p0.toInt64))), .second, iv w0_1, .unset]) rfl ?_
        show Steps p.tables e below (T2.setTop (mkF m 47 #[iv p0, iv (f1 p0), .val (.long ((4:Int64) * (p0.toInt64))), .second, iv w0_1, .unset] [])) _
        refine XS.iloadN X2.here hx rfl (hb hby at_47) rfl ?_
        show Steps p.tables e below (T2.setTop (mkF m 48 #[iv p0, iv (f1 p0), .val (.long ((4:Int64) * (p0.toInt64))), .second, iv w0_1, .unset] [(.int (f1 p0))])) _
        refine XS.bipush X2.here hx rfl (hb hby at_48) ?_
        exact k
      obtain ⟨w0_2, hw0_2⟩ : ∃ z : Int32, z = (if (f1 p0) = (16:Int32) then (1:Int32) else (if ((1:Int64) <<< (((f1 p0) - (1:Int32)) &&& 0x3f).toInt64) < ((4:Int64) * (p0.toInt64)) then (1:Int32) else (0:Int32))) := ⟨_, rfl⟩
      refine own_pre (A := T2.setTop (mkF m 68 #[iv p0, iv (f1 p0), .val (.long ((4:Int64) * (p0.toInt64))), .second, iv w0_1, .unset] [(.int w0_2)])) (fun t k => ?_) ?_
      · show Steps p.tables e below (T2.setTop (mkF m 50 #[iv p0, iv (f1 p0), .val (.long ((4:Int64) * (p0.toInt64))), .second, iv w0_1, .unset] [(.int (16:Int32)), (.int (f1 p0))])) _
        by_cases hm50_5 : (f1 p0) = (16:Int32)
        · refine XS.icmpYes X2.here hx rfl (pc0 := 50) (pc' := 63) rfl (hb hby at_50) rfl (XT.ii_eq_t hm50_5) (by decide) (by decide) ?_
          show Steps p.tables e below (T2.setTop (mkF m 63 #[iv p0, iv (f1 p0), .val (.long ((4:Int64) * (p0.toInt64))), .second, iv w0_1, .unset] [])) _
          refine XS.iconst X2.here hx rfl (hb hby at_63) ?_
          show Steps p.tables e below (T2.setTop (mkF m 64 #[iv p0, iv (f1 p0), .val (.long ((4:Int64) * (p0.toInt64))), .second, iv w0_1, .unset] [(.int (1:Int32))])) _
          refine XS.goto X2.here hx rfl (pc0 := 64) (pc' := 68) rfl (hb hby at_64) (by decide) (by decide) ?_
          rw [hw0_2.trans (if_pos hm50_5)] at k
          exact k
        · refine XS.icmpNo X2.here hx rfl (hb hby at_50) rfl (XT.ii_eq_f hm50_5) ?_
          show Steps p.tables e below (T2.setTop (mkF m 53 #[iv p0, iv (f1 p0), .val (.long ((4:Int64) * (p0.toInt64))), .second, iv w0_1, .unset] [])) _
          refine XS.lconst X2.here hx rfl (hb hby at_53) ?_
          show Steps p.tables e below (T2.setTop (mkF m 54 #[iv p0, iv (f1 p0), .val (.long ((4:Int64) * (p0.toInt64))), .second, iv w0_1, .unset] [(.long (1:Int64))])) _
          refine XS.iloadN X2.here hx rfl (hb hby at_54) rfl ?_
          show Steps p.tables e below (T2.setTop (mkF m 55 #[iv p0, iv (f1 p0), .val (.long ((4:Int64) * (p0.toInt64))), .second, iv w0_1, .unset] [(.int (f1 p0)), (.long (1:Int64))])) _
          refine XS.iconst X2.here hx rfl (hb hby at_55) ?_
          show Steps p.tables e below (T2.setTop (mkF m 56 #[iv p0, iv (f1 p0), .val (.long ((4:Int64) * (p0.toInt64))), .second, iv w0_1, .unset] [(.int (1:Int32)), (.int (f1 p0)), (.long (1:Int64))])) _
          refine XS.isub X2.here hx rfl (hb hby at_56) rfl ?_
          show Steps p.tables e below (T2.setTop (mkF m 57 #[iv p0, iv (f1 p0), .val (.long ((4:Int64) * (p0.toInt64))), .second, iv w0_1, .unset] [(.int ((f1 p0) - (1:Int32))), (.long (1:Int64))])) _
          refine XS.lshl X2.here hx rfl (hb hby at_57) rfl ?_
          show Steps p.tables e below (T2.setTop (mkF m 58 #[iv p0, iv (f1 p0), .val (.long ((4:Int64) * (p0.toInt64))), .second, iv w0_1, .unset] [(.long ((1:Int64) <<< (((f1 p0) - (1:Int32)) &&& 0x3f).toInt64))])) _
          refine XS.lloadN X2.here hx rfl (hb hby at_58) rfl ?_
          show Steps p.tables e below (T2.setTop (mkF m 59 #[iv p0, iv (f1 p0), .val (.long ((4:Int64) * (p0.toInt64))), .second, iv w0_1, .unset] [(.long ((4:Int64) * (p0.toInt64))), (.long ((1:Int64) <<< (((f1 p0) - (1:Int32)) &&& 0x3f).toInt64))])) _
          refine XT.lcmp X2.here hx rfl (hb hby at_59) rfl ?_
          show Steps p.tables e below (T2.setTop (mkF m 60 #[iv p0, iv (f1 p0), .val (.long ((4:Int64) * (p0.toInt64))), .second, iv w0_1, .unset] [(.int (XT.cmpL ((1:Int64) <<< (((f1 p0) - (1:Int32)) &&& 0x3f).toInt64) ((4:Int64) * (p0.toInt64))))])) _
          by_cases hm60_6 : ((1:Int64) <<< (((f1 p0) - (1:Int32)) &&& 0x3f).toInt64) < ((4:Int64) * (p0.toInt64))
          · refine XS.ifNo X2.here hx rfl (hb hby at_60) rfl (XT.ll_ge_f hm60_6) ?_
            show Steps p.tables e below (T2.setTop (mkF m 63 #[iv p0, iv (f1 p0), .val (.long ((4:Int64) * (p0.toInt64))), .second, iv w0_1, .unset] [])) _
            refine XS.iconst X2.here hx rfl (hb hby at_63) ?_
            show Steps p.tables e below (T2.setTop (mkF m 64 #[iv p0, iv (f1 p0), .val (.long ((4:Int64) * (p0.toInt64))), .second, iv w0_1, .unset] [(.int (1:Int32))])) _
            refine XS.goto X2.here hx rfl (pc0 := 64) (pc' := 68) rfl (hb hby at_64) (by decide) (by decide) ?_
            rw [hw0_2.trans ((if_neg hm50_5).trans (if_pos hm60_6))] at k
            exact k
          · refine XS.ifYes X2.here hx rfl (pc0 := 60) (pc' := 67) rfl (hb hby at_60) rfl (XT.ll_ge_t hm60_6) (by decide) (by decide) ?_
            show Steps p.tables e below (T2.setTop (mkF m 67 #[iv p0, iv (f1 p0), .val (.long ((4:Int64) * (p0.toInt64))), .second, iv w0_1, .unset] [])) _
            refine XS.iconst X2.here hx rfl (hb hby at_67) ?_
            rw [hw0_2.trans ((if_neg hm50_5).trans (if_neg hm60_6))] at k
            exact k
      refine own_pre (A := T2.setTop (mkF m 72 #[iv p0, iv (f1 p0), .val (.long ((4:Int64) * (p0.toInt64))), .second, iv w0_1, iv w0_2] [(.int w0_1)])) (fun t k => ?_) ?_
      · show Steps p.tables e below (T2.setTop (mkF m 68 #[iv p0, iv (f1 p0), .val (.long ((4:Int64) * (p0.toInt64))), .second, iv w0_1, .unset] [(.int w0_2)])) _
        refine XS.istore X2.here hx rfl (hb hby at_68) rfl (l' := #[iv p0, iv (f1 p0), .val (.long ((4:Int64) * (p0.toInt64))), .second, iv w0_1, iv w0_2]) rfl ?_
        show Steps p.tables e below (T2.setTop (mkF m 70 #[iv p0, iv (f1 p0), .val (.long ((4:Int64) * (p0.toInt64))), .second, iv w0_1, iv w0_2] [])) _
        refine XS.iload X2.here hx rfl (hb hby at_70) rfl ?_
        exact k
      obtain ⟨w0_3, hw0_3⟩ : ∃ z : Int32, z = (if w0_1 = (0:Int32) then (0:Int32) else (if w0_2 = (0:Int32) then (0:Int32) else (1:Int32))) := ⟨_, rfl⟩
      refine own_pre (A := T2.setTop (mkF m 85 #[iv p0, iv (f1 p0), .val (.long ((4:Int64) * (p0.toInt64))), .second, iv w0_1, iv w0_2] [(.int w0_3)])) (fun t k => ?_) ?_
      · show Steps p.tables e below (T2.setTop (mkF m 72 #[iv p0, iv (f1 p0), .val (.long ((4:Int64) * (p0.toInt64))), .second, iv w0_1, iv w0_2] [(.int w0_1)])) _
        by_cases hm72_7 : w0_1 = (0:Int32)
        · refine XS.ifYes X2.here hx rfl (pc0 := 72) (pc' := 84) rfl (hb hby at_72) rfl (XT.i0_eq_t hm72_7) (by decide) (by decide) ?_
          show Steps p.tables e below (T2.setTop (mkF m 84 #[iv p0, iv (f1 p0), .val (.long ((4:Int64) * (p0.toInt64))), .second, iv w0_1, iv w0_2] [])) _
          refine XS.iconst X2.here hx rfl (hb hby at_84) ?_
          rw [hw0_3.trans (if_pos hm72_7)] at k
          exact k
        · refine XS.ifNo X2.here hx rfl (hb hby at_72) rfl (XT.i0_eq_f hm72_7) ?_
          show Steps p.tables e below (T2.setTop (mkF m 75 #[iv p0, iv (f1 p0), .val (.long ((4:Int64) * (p0.toInt64))), .second, iv w0_1, iv w0_2] [])) _
          refine XS.iload X2.here hx rfl (hb hby at_75) rfl ?_
          show Steps p.tables e below (T2.setTop (mkF m 77 #[iv p0, iv (f1 p0), .val (.long ((4:Int64) * (p0.toInt64))), .second, iv w0_1, iv w0_2] [(.int w0_2)])) _
          by_cases hm77_8 : w0_2 = (0:Int32)
          · refine XS.ifYes X2.here hx rfl (pc0 := 77) (pc' := 84) rfl (hb hby at_77) rfl (XT.i0_eq_t hm77_8) (by decide) (by decide) ?_
            show Steps p.tables e below (T2.setTop (mkF m 84 #[iv p0, iv (f1 p0), .val (.long ((4:Int64) * (p0.toInt64))), .second, iv w0_1, iv w0_2] [])) _
            refine XS.iconst X2.here hx rfl (hb hby at_84) ?_
            rw [hw0_3.trans ((if_neg hm72_7).trans (if_pos hm77_8))] at k
            exact k
          · refine XS.ifNo X2.here hx rfl (hb hby at_77) rfl (XT.i0_eq_f hm77_8) ?_
            show Steps p.tables e below (T2.setTop (mkF m 80 #[iv p0, iv (f1 p0), .val (.long ((4:Int64) * (p0.toInt64))), .second, iv w0_1, iv w0_2] [])) _
            refine XS.iconst X2.here hx rfl (hb hby at_80) ?_
            show Steps p.tables e below (T2.setTop (mkF m 81 #[iv p0, iv (f1 p0), .val (.long ((4:Int64) * (p0.toInt64))), .second, iv w0_1, iv w0_2] [(.int (1:Int32))])) _
            refine XS.goto X2.here hx rfl (pc0 := 81) (pc' := 85) rfl (hb hby at_81) (by decide) (by decide) ?_
            rw [hw0_3.trans ((if_neg hm72_7).trans (if_neg hm77_8))] at k
            exact k
      have hv5 : (w0_3 &&& 1) = f0 p0 := by subst hw0_1 hw0_2 hw0_3; simp only [f0, if_neg hs8_1, if_neg hs14_2]
      exact own_end X2 (BodyLoose.notSynchronized Bd) (fun h => by rw [Bd.returns] at h; cases h) (v := some (.int (w0_3 &&& 1))) (fun fs hr => retN X2 hx (t := .boolean) Bd.returns (by simp) (hb hby at_85) hr) (by show Q0 Z p0 h0 n0 _ T2.heap _; rw [eh2]; exact ⟨(congrArg (fun z => some (Value.int z)) hv5), N2⟩) (by decide) (by decide)
theorem own_plain (p0 : Int32) : f0 p0 = 1 := by
  have s16 : ((1:Int64) <<< ((16:Int32) &&& 0x3f).toInt64) = 65536 := by decide
  have s17 : ((1:Int64) <<< ((17:Int32) &&& 0x3f).toInt64) = 131072 := by decide
  have s18 : ((1:Int64) <<< ((18:Int32) &&& 0x3f).toInt64) = 262144 := by decide
  have s19 : ((1:Int64) <<< ((19:Int32) &&& 0x3f).toInt64) = 524288 := by decide
  have s20 : ((1:Int64) <<< ((20:Int32) &&& 0x3f).toInt64) = 1048576 := by decide
  have s21 : ((1:Int64) <<< ((21:Int32) &&& 0x3f).toInt64) = 2097152 := by decide
  have s22 : ((1:Int64) <<< ((22:Int32) &&& 0x3f).toInt64) = 4194304 := by decide
  have s23 : ((1:Int64) <<< ((23:Int32) &&& 0x3f).toInt64) = 8388608 := by decide
  have hf : f1 p0 = 16 ∧ ¬ (65536 < (4:Int64) * p0.toInt64) ∨ f1 p0 = 17 ∧ (65536 < (4:Int64) * p0.toInt64) ∧ ¬ (131072 < (4:Int64) * p0.toInt64) ∨ f1 p0 = 18 ∧ (131072 < (4:Int64) * p0.toInt64) ∧ ¬ (262144 < (4:Int64) * p0.toInt64) ∨ f1 p0 = 19 ∧ (262144 < (4:Int64) * p0.toInt64) ∧ ¬ (524288 < (4:Int64) * p0.toInt64)
     ∨ f1 p0 = 20 ∧ (524288 < (4:Int64) * p0.toInt64) ∧ ¬ (1048576 < (4:Int64) * p0.toInt64) ∨ f1 p0 = 21 ∧ (1048576 < (4:Int64) * p0.toInt64) ∧ ¬ (2097152 < (4:Int64) * p0.toInt64) ∨ f1 p0 = 22 ∧ (2097152 < (4:Int64) * p0.toInt64) ∧ ¬ (4194304 < (4:Int64) * p0.toInt64) ∨ f1 p0 = 23 ∧ (4194304 < (4:Int64) * p0.toInt64) := by
    simp only [f1, s16, s17, s18, s19, s20, s21, s22]
    repeat' (split <;> simp_all)
  have t17 : (17:Int32) - 1 = 16 := by decide
  have t18 : (18:Int32) - 1 = 17 := by decide
  have t19 : (19:Int32) - 1 = 18 := by decide
  have t20 : (20:Int32) - 1 = 19 := by decide
  have t21 : (21:Int32) - 1 = 20 := by decide
  have t22 : (22:Int32) - 1 = 21 := by decide
  have t23 : (23:Int32) - 1 = 22 := by decide
  simp only [f0]
  rcases hf with ⟨h, a⟩ | ⟨h, a, b⟩ | ⟨h, a, b⟩ | ⟨h, a, b⟩ | ⟨h, a, b⟩ | ⟨h, a, b⟩ | ⟨h, a, b⟩ | ⟨h, a⟩
  all_goals
    simp only [h, t17, t18, t19, t20, t21, t22, t23, s16, s17, s18, s19, s20, s21, s22, s23]
    first | (simp only [if_neg a]; simp; done) | (simp only [if_neg b, if_pos a]; simp; done) | (simp only [if_pos a]; simp; done) | (simp; done)
set_option maxRecDepth 65536 in
set_option maxHeartbeats 40000000 in
theorem comes_1 {Post : Tables → Env → Array Value → State → Outcome → State → Prop} (hpost : ∀ tb e args s v u, (limb_1_1.after args s (.returned v) u = true ∧ limb_1_2.after args s (.returned v) u = true ∧ True) → FrameEnd s (.returned v) u (Jvm.fieldLocs frame_1_writes args s ++ Jvm.arrayLocs frame_1_arrays args s ++ Jvm.staticLocs frame_1_statics s) 0 0 → Post tb e args s (.returned v) u) :
    ArmFor flags0 classFile x code maxLocals ret World_1 tables_1 room_1 Calls_1 rest_1 Pre_1 Post := by
  intro l hfl _ _ p e ha hc hk s m args below hf hA hF happ hP
  obtain ⟨hcalls, hrest, hpre⟩ := hP
  obtain ⟨-, -, -, hnamed, -, -, -, hat⟩ := (Spec.applies_iff hf).mp happ
  obtain ⟨hg, hn⟩ := and_e (Cond.before_iff.mp (show (Jvm.Cond.and given_1 narrow_1).before args s = true from hpre))
  obtain ⟨g2, g3⟩ := and_e hg
  obtain ⟨w0, rfl⟩ : ∃ w0 : Value, args = #[w0] := by
    have hs : args.size = 1 := by simpa [Cond.value, given_1] using g2
    obtain ⟨L⟩ := args
    match L, hs with
    | [w0], _ => exact ⟨w0, rfl⟩
  have hw := fun d (hd : d ∈ tables_1) => atoms_spec (ws := Jvm.Cond.code x code maxLocals ret :: tables_1) hat d (List.mem_cons_of_mem _ hd)
  obtain ⟨i0, ei0⟩ := is_v g3
  obtain rfl : w0 = (.int i0) := Option.some.inj ei0
  obtain ⟨n, o, h1, h2, h3, _, L, rfl, ⟨hv, N⟩, hq⟩ := rm0 l s _ hw tables_1 i0 s.heap s.heap.size (Nat.le_refl _)  p e ha hc hk s m _ below hf ((Spec.applies_iff_loose hf).mp happ).1 ⟨rfl, State.Warmed39.refl s, rfl⟩ trivial
  rw [own_plain] at hv
  subst hv
  refine ⟨n, _, h1, h2, h3, hpost _ _ _ _ _ _ ⟨Cond.after_iff.mpr rfl, Cond.after_iff.mpr (eq_i res_at (Term.int_eval (1)) rfl), trivial⟩ ⟨hq.1, hq.2.1, (hq.2.2.sift fun y hy => Or.inr (N y hy)).mono (by decide) (by decide)⟩⟩
theorem main_1_1 : Claimed_1_1 := comes_1 fun _ _ _ _ _ _ h hF => ⟨h.1, hF⟩
theorem main_1_2 : Claimed_1_2 := comes_1 fun _ _ _ _ _ _ h hF => ⟨h.2.1, hF⟩
end Jvm.Pilot.@@N@@
namespace Jvm.Pilot.@@N@@
open Jvm Jvm.ClassFile Sem Op Lib Jvm.Free Jvm.Stand Jvm.Pilot.@@N@@.Jvm.D
/-! MADE BY PROGRAM (witnessworld.py) out of the Statement's table words and the real class files: 9 classes; the members and pool entries that the words name. The judged class is class 1, her method 1. -/
namespace start1
open Jvm.ClassFile
def u (s : String) : CpInfo := .utf8 (stringToUtf16 s)
/-- a pool by its gaps: so many unusable entries, then the entry; so many at the end -/
def gap : Nat → List CpInfo → List CpInfo
  | 0, r => r
  | n + 1, r => .unusable :: gap n r
def poolList (es : List (Nat × CpInfo)) (last : Nat) : List CpInfo := es.foldr (fun e r => gap e.1 (e.2 :: r)) (gap last [])
def pool (es : List (Nat × CpInfo)) (last : Nat) : Array CpInfo := ⟨poolList es last⟩
def fileOf (pool : Array CpInfo) (this : Nat) (attrs : Array Attribute := #[]) (ms : Array MethodInfo := #[]) (fl : Nat := 33) (sup : Nat := 0) (ifs : Array Nat := #[]) (fds : Array FieldInfo := #[]) : ClassFile where
  minorVersion := 0
  majorVersion := 65
  constantPool := pool
  accessFlags := fl
  thisClass := this
  superClass := sup
  interfaces := ifs
  fields := fds
  methods := ms
  attributes := attrs
def plain (name : String) (sup : Option ClassId) : Class where
  name := name
  kind := .ordinary
  loader := none
  accessFlags := 33
  super := sup
  interfaces := #[]
  cf := none
  fields := #[]
  methods := #[]
  instanceTypes := #[]
  staticTypes := #[]
  resolved := #[]
  callSites := []
  init := .initialized
  statics := none
  mirror := none

def pool0 : Array CpInfo := pool [(5, u "<init>"), (0, u "()V"), (1, .class_ 10), (1, u "java/lang/Object")] 113

def k0m0 : Method := { name := "<init>", desc := "()V", sig := { parameters := [], returnType := none }, accessFlags := 1, code := none }
/-- java/lang/Object -/
def k0 : Class := { plain "java/lang/Object" none with
  accessFlags := 33
  interfaces := #[]
  cf := some (fileOf pool0 8 #[] #[{ accessFlags := 1, nameIndex := 5, descriptorIndex := 6, attributes := #[] }] 33 0 #[] #[])
  fields := #[]
  methods := #[k0m0]
  instanceTypes := #[]
  staticTypes := #[]
  resolved := Array.replicate 124 none
  statics := none }

def pool1 : Array CpInfo := pool [(2, .class_ 4), (1, u "java/lang/Object"), (0, u "<init>"), (0, u "()V"), (0, .methodref 8 9), (0, .class_ 10), (0, .nameAndType 11 12), (0, u "com/example/rowfold/rowfold/codec/FieldModel"), (0, u "mostTableBits"), (0, u "(I)I"), (0, .long 4), (1, .class_ 16), (0, u "com/example/rowfold/rowfold/codec/FieldModelMostTableBitsPinLaw"), (2, u "law"), (0, u "(I)Z")] 3

def k1m0 : Method := { name := "<init>", desc := "()V", sig := { parameters := [], returnType := none }, accessFlags := 2, code := none }
def k1c1 : Code := { maxStack := 4, maxLocals := 6, code := code, exceptionTable := #[], attributes := #[] }
def k1m1 : Method := { name := "law", desc := "(I)Z", sig := { parameters := [.int], returnType := some .boolean }, accessFlags := 9, code := some k1c1 }
/-- com/example/rowfold/rowfold/codec/FieldModelMostTableBitsPinLaw -/
def k1 : Class := { plain "com/example/rowfold/rowfold/codec/FieldModelMostTableBitsPinLaw" (some 0) with
  accessFlags := 49
  interfaces := #[]
  cf := some (fileOf pool1 15 #[] #[{ accessFlags := 2, nameIndex := 5, descriptorIndex := 6, attributes := #[] }, { accessFlags := 9, nameIndex := 19, descriptorIndex := 20, attributes := #[] }] 49 2 #[] #[])
  fields := #[]
  methods := #[k1m0, k1m1]
  instanceTypes := #[]
  staticTypes := #[]
  resolved := Array.replicate 24 none
  statics := none }

def pool2 : Array CpInfo := pool [(1, .class_ 2), (0, u "com/example/rowfold/rowfold/codec/FieldModel"), (1, .class_ 6), (1, u "java/lang/Object"), (4, u "contextHashes"), (0, u "[I"), (2, u "orderZeroApm"), (3, u "orderOneApm"), (2, u "expectedBit"), (0, u "I"), (2, u "matchProbabilities"), (2, u "previousFieldStart"), (1, .class_ 33), (1, u "com/example/rowfold/rowfold/codec/FieldModel$Kind"), (0, u "contexts"), (8, u "count"), (2, u "matching"), (0, u "Z"), (3, u "hashes"), (2, u "buckets"), (2, u "slots"), (2, u "states"), (2, u "probabilities"), (2, u "inputs"), (2, u "weights"), (2, u "history"), (0, u "[B"), (2, u "table"), (2, u "tableMask"), (2, u "matches"), (8, u "(I)I"), (46, u "REPEAT_BASE_POWER"), (0, u "J"), (14, .class_ 155), (0, u "com/example/rowfold/rowfold/codec/FieldModel$Plan"), (24, u "mostTableBits"), (2, .long 4), (7, u "position"), (15, u "fieldStart"), (9, u "last4"), (16, u "matchAt"), (15, u "expectedByte"), (2, u "matchLength"), (2, u "before4"), (2, u "word"), (2, u "previousWord"), (2, u "previousFieldLength"), (6, u "matchPointer"), (11, u "LEAST_TABLE_BITS"), (2, u "MOST_TABLE_BITS"), (1, u "BUCKET_BYTES"), (0, u "TABLE_BYTES_PER_CONTEXT"), (1, u "COUNTING_BITS"), (1, u "CONTEXTS"), (1, u "ALIGNED_SHARE"), (1, u "REPEAT_BYTES"), (1, u "REPEATED_SHARE"), (0, u "REPEAT_SAMPLE_BITS"), (1, u "REPEAT_SAMPLE"), (1, u "REPEAT_BASE"), (0, u "LAST_ONE"), (1, u "LAST_TWO"), (1, u "LAST_THREE"), (1, u "LAST_FOUR"), (1, u "LAST_SIX"), (1, u "WORDS"), (0, u "ABOVE"), (0, u "MATCH_INPUTS"), (0, u "WEIGHT_SETS"), (1, u "TABLE_BYTES_PER_MATCH_SLOT"), (0, u "MATCH_MIN"), (0, u "MATCH_MEASURE"), (0, u "MATCH_LENGTHS"), (0, u "APM_STEPS"), (1, u "ORDER_ONE_APM_BITS")] 30

def k2c0 : Code := { maxStack := 6, maxLocals := 2, code := prog_6_method_4_code, exceptionTable := #[], attributes := #[] }
def k2m0 : Method := { name := "mostTableBits", desc := "(I)I", sig := { parameters := [.int], returnType := some .int }, accessFlags := 8, code := some k2c0 }
/-- com/example/rowfold/rowfold/codec/FieldModel -/
def k2 : Class := { plain "com/example/rowfold/rowfold/codec/FieldModel" (some 0) with
  accessFlags := 48
  interfaces := #[]
  cf := some (fileOf pool2 1 #[.nestMembers #[154, 31]] #[{ accessFlags := 8, nameIndex := 180, descriptorIndex := 91, attributes := #[] }] 48 4 #[] #[{ accessFlags := 24, nameIndex := 284, descriptorIndex := 23, attributes := #[] }, { accessFlags := 26, nameIndex := 287, descriptorIndex := 23, attributes := #[] }, { accessFlags := 26, nameIndex := 289, descriptorIndex := 23, attributes := #[] }, { accessFlags := 26, nameIndex := 290, descriptorIndex := 23, attributes := #[] }, { accessFlags := 26, nameIndex := 292, descriptorIndex := 23, attributes := #[] }, { accessFlags := 26, nameIndex := 294, descriptorIndex := 23, attributes := #[] }, { accessFlags := 26, nameIndex := 296, descriptorIndex := 23, attributes := #[] }, { accessFlags := 26, nameIndex := 298, descriptorIndex := 23, attributes := #[] }, { accessFlags := 26, nameIndex := 300, descriptorIndex := 23, attributes := #[] }, { accessFlags := 26, nameIndex := 301, descriptorIndex := 23, attributes := #[] }, { accessFlags := 26, nameIndex := 303, descriptorIndex := 23, attributes := #[] }, { accessFlags := 26, nameIndex := 305, descriptorIndex := 139, attributes := #[] }, { accessFlags := 26, nameIndex := 138, descriptorIndex := 139, attributes := #[] }, { accessFlags := 26, nameIndex := 306, descriptorIndex := 23, attributes := #[] }, { accessFlags := 26, nameIndex := 308, descriptorIndex := 23, attributes := #[] }, { accessFlags := 26, nameIndex := 310, descriptorIndex := 23, attributes := #[] }, { accessFlags := 26, nameIndex := 312, descriptorIndex := 23, attributes := #[] }, { accessFlags := 26, nameIndex := 314, descriptorIndex := 23, attributes := #[] }, { accessFlags := 26, nameIndex := 316, descriptorIndex := 23, attributes := #[] }, { accessFlags := 26, nameIndex := 317, descriptorIndex := 23, attributes := #[] }, { accessFlags := 26, nameIndex := 318, descriptorIndex := 23, attributes := #[] }, { accessFlags := 26, nameIndex := 319, descriptorIndex := 23, attributes := #[] }, { accessFlags := 26, nameIndex := 321, descriptorIndex := 23, attributes := #[] }, { accessFlags := 26, nameIndex := 322, descriptorIndex := 23, attributes := #[] }, { accessFlags := 26, nameIndex := 323, descriptorIndex := 23, attributes := #[] }, { accessFlags := 26, nameIndex := 324, descriptorIndex := 23, attributes := #[] }, { accessFlags := 26, nameIndex := 325, descriptorIndex := 23, attributes := #[] }, { accessFlags := 26, nameIndex := 327, descriptorIndex := 23, attributes := #[] }, { accessFlags := 18, nameIndex := 72, descriptorIndex := 73, attributes := #[] }, { accessFlags := 2, nameIndex := 191, descriptorIndex := 23, attributes := #[] }, { accessFlags := 18, nameIndex := 76, descriptorIndex := 73, attributes := #[] }, { accessFlags := 18, nameIndex := 79, descriptorIndex := 23, attributes := #[] }, { accessFlags := 18, nameIndex := 34, descriptorIndex := 12, attributes := #[] }, { accessFlags := 18, nameIndex := 43, descriptorIndex := 23, attributes := #[] }, { accessFlags := 18, nameIndex := 46, descriptorIndex := 47, attributes := #[] }, { accessFlags := 18, nameIndex := 11, descriptorIndex := 12, attributes := #[] }, { accessFlags := 18, nameIndex := 51, descriptorIndex := 12, attributes := #[] }, { accessFlags := 18, nameIndex := 54, descriptorIndex := 12, attributes := #[] }, { accessFlags := 18, nameIndex := 57, descriptorIndex := 12, attributes := #[] }, { accessFlags := 18, nameIndex := 60, descriptorIndex := 12, attributes := #[] }, { accessFlags := 18, nameIndex := 63, descriptorIndex := 12, attributes := #[] }, { accessFlags := 18, nameIndex := 66, descriptorIndex := 12, attributes := #[] }, { accessFlags := 18, nameIndex := 69, descriptorIndex := 12, attributes := #[] }, { accessFlags := 18, nameIndex := 15, descriptorIndex := 12, attributes := #[] }, { accessFlags := 18, nameIndex := 19, descriptorIndex := 12, attributes := #[] }, { accessFlags := 18, nameIndex := 82, descriptorIndex := 12, attributes := #[] }, { accessFlags := 2, nameIndex := 272, descriptorIndex := 23, attributes := #[] }, { accessFlags := 2, nameIndex := 253, descriptorIndex := 23, attributes := #[] }, { accessFlags := 2, nameIndex := 250, descriptorIndex := 23, attributes := #[] }, { accessFlags := 2, nameIndex := 22, descriptorIndex := 23, attributes := #[] }, { accessFlags := 18, nameIndex := 26, descriptorIndex := 12, attributes := #[] }, { accessFlags := 2, nameIndex := 234, descriptorIndex := 23, attributes := #[] }, { accessFlags := 2, nameIndex := 217, descriptorIndex := 23, attributes := #[] }, { accessFlags := 2, nameIndex := 256, descriptorIndex := 23, attributes := #[] }, { accessFlags := 2, nameIndex := 259, descriptorIndex := 23, attributes := #[] }, { accessFlags := 2, nameIndex := 262, descriptorIndex := 23, attributes := #[] }, { accessFlags := 2, nameIndex := 207, descriptorIndex := 23, attributes := #[] }, { accessFlags := 2, nameIndex := 29, descriptorIndex := 23, attributes := #[] }, { accessFlags := 2, nameIndex := 265, descriptorIndex := 23, attributes := #[] }])
  fields := #[{ name := "LEAST_TABLE_BITS", type := .int, accessFlags := 24, slot := 0, constantValue := 0 }, { name := "MOST_TABLE_BITS", type := .int, accessFlags := 26, slot := 1, constantValue := 0 }, { name := "BUCKET_BYTES", type := .int, accessFlags := 26, slot := 2, constantValue := 0 }, { name := "TABLE_BYTES_PER_CONTEXT", type := .int, accessFlags := 26, slot := 3, constantValue := 0 }, { name := "COUNTING_BITS", type := .int, accessFlags := 26, slot := 4, constantValue := 0 }, { name := "CONTEXTS", type := .int, accessFlags := 26, slot := 5, constantValue := 0 }, { name := "ALIGNED_SHARE", type := .int, accessFlags := 26, slot := 6, constantValue := 0 }, { name := "REPEAT_BYTES", type := .int, accessFlags := 26, slot := 7, constantValue := 0 }, { name := "REPEATED_SHARE", type := .int, accessFlags := 26, slot := 8, constantValue := 0 }, { name := "REPEAT_SAMPLE_BITS", type := .int, accessFlags := 26, slot := 9, constantValue := 0 }, { name := "REPEAT_SAMPLE", type := .int, accessFlags := 26, slot := 10, constantValue := 0 }, { name := "REPEAT_BASE", type := .long, accessFlags := 26, slot := 11, constantValue := 0 }, { name := "REPEAT_BASE_POWER", type := .long, accessFlags := 26, slot := 12, constantValue := 0 }, { name := "LAST_ONE", type := .int, accessFlags := 26, slot := 13, constantValue := 0 }, { name := "LAST_TWO", type := .int, accessFlags := 26, slot := 14, constantValue := 0 }, { name := "LAST_THREE", type := .int, accessFlags := 26, slot := 15, constantValue := 0 }, { name := "LAST_FOUR", type := .int, accessFlags := 26, slot := 16, constantValue := 0 }, { name := "LAST_SIX", type := .int, accessFlags := 26, slot := 17, constantValue := 0 }, { name := "WORDS", type := .int, accessFlags := 26, slot := 18, constantValue := 0 }, { name := "ABOVE", type := .int, accessFlags := 26, slot := 19, constantValue := 0 }, { name := "MATCH_INPUTS", type := .int, accessFlags := 26, slot := 20, constantValue := 0 }, { name := "WEIGHT_SETS", type := .int, accessFlags := 26, slot := 21, constantValue := 0 }, { name := "TABLE_BYTES_PER_MATCH_SLOT", type := .int, accessFlags := 26, slot := 22, constantValue := 0 }, { name := "MATCH_MIN", type := .int, accessFlags := 26, slot := 23, constantValue := 0 }, { name := "MATCH_MEASURE", type := .int, accessFlags := 26, slot := 24, constantValue := 0 }, { name := "MATCH_LENGTHS", type := .int, accessFlags := 26, slot := 25, constantValue := 0 }, { name := "APM_STEPS", type := .int, accessFlags := 26, slot := 26, constantValue := 0 }, { name := "ORDER_ONE_APM_BITS", type := .int, accessFlags := 26, slot := 27, constantValue := 0 }, { name := "history", type := (.array .byte), accessFlags := 18, slot := 0, constantValue := 0 }, { name := "position", type := .int, accessFlags := 2, slot := 1, constantValue := 0 }, { name := "table", type := (.array .byte), accessFlags := 18, slot := 2, constantValue := 0 }, { name := "tableMask", type := .int, accessFlags := 18, slot := 3, constantValue := 0 }, { name := "contexts", type := (.array .int), accessFlags := 18, slot := 4, constantValue := 0 }, { name := "count", type := .int, accessFlags := 18, slot := 5, constantValue := 0 }, { name := "matching", type := .boolean, accessFlags := 18, slot := 6, constantValue := 0 }, { name := "contextHashes", type := (.array .int), accessFlags := 18, slot := 7, constantValue := 0 }, { name := "hashes", type := (.array .int), accessFlags := 18, slot := 8, constantValue := 0 }, { name := "buckets", type := (.array .int), accessFlags := 18, slot := 9, constantValue := 0 }, { name := "slots", type := (.array .int), accessFlags := 18, slot := 10, constantValue := 0 }, { name := "states", type := (.array .int), accessFlags := 18, slot := 11, constantValue := 0 }, { name := "probabilities", type := (.array .int), accessFlags := 18, slot := 12, constantValue := 0 }, { name := "inputs", type := (.array .int), accessFlags := 18, slot := 13, constantValue := 0 }, { name := "weights", type := (.array .int), accessFlags := 18, slot := 14, constantValue := 0 }, { name := "orderZeroApm", type := (.array .int), accessFlags := 18, slot := 15, constantValue := 0 }, { name := "orderOneApm", type := (.array .int), accessFlags := 18, slot := 16, constantValue := 0 }, { name := "matches", type := (.array .int), accessFlags := 18, slot := 17, constantValue := 0 }, { name := "matchPointer", type := .int, accessFlags := 2, slot := 18, constantValue := 0 }, { name := "matchLength", type := .int, accessFlags := 2, slot := 19, constantValue := 0 }, { name := "expectedByte", type := .int, accessFlags := 2, slot := 20, constantValue := 0 }, { name := "expectedBit", type := .int, accessFlags := 2, slot := 21, constantValue := 0 }, { name := "matchProbabilities", type := (.array .int), accessFlags := 18, slot := 22, constantValue := 0 }, { name := "matchAt", type := .int, accessFlags := 2, slot := 23, constantValue := 0 }, { name := "last4", type := .int, accessFlags := 2, slot := 24, constantValue := 0 }, { name := "before4", type := .int, accessFlags := 2, slot := 25, constantValue := 0 }, { name := "word", type := .int, accessFlags := 2, slot := 26, constantValue := 0 }, { name := "previousWord", type := .int, accessFlags := 2, slot := 27, constantValue := 0 }, { name := "fieldStart", type := .int, accessFlags := 2, slot := 28, constantValue := 0 }, { name := "previousFieldStart", type := .int, accessFlags := 2, slot := 29, constantValue := 0 }, { name := "previousFieldLength", type := .int, accessFlags := 2, slot := 30, constantValue := 0 }]
  methods := #[k2m0]
  instanceTypes := #[(.array .byte), .int, (.array .byte), .int, (.array .int), .int, .boolean, (.array .int), (.array .int), (.array .int), (.array .int), (.array .int), (.array .int), (.array .int), (.array .int), (.array .int), (.array .int), (.array .int), .int, .int, .int, .int, (.array .int), .int, .int, .int, .int, .int, .int, .int, .int]
  staticTypes := #[.int, .int, .int, .int, .int, .int, .int, .int, .int, .int, .int, .long, .long, .int, .int, .int, .int, .int, .int, .int, .int, .int, .int, .int, .int, .int, .int, .int]
  resolved := Array.replicate 358 none
  statics := none }

def pool3 : Array CpInfo := pool [(1, u "java/lang/Cloneable"), (0, .class_ 1), (0, u "java/lang/Object"), (0, .class_ 3)] 3

/-- java/lang/Cloneable -/
def k3 : Class := { plain "java/lang/Cloneable" (some 0) with
  accessFlags := 1537
  interfaces := #[]
  cf := some (fileOf pool3 2 #[] #[] 1537 4 #[] #[])
  fields := #[]
  methods := #[]
  instanceTypes := #[]
  staticTypes := #[]
  resolved := Array.replicate 8 none
  statics := none }

def pool4 : Array CpInfo := pool [(1, u "java/io/Serializable"), (0, .class_ 1), (0, u "java/lang/Object"), (0, .class_ 3)] 3

/-- java/io/Serializable -/
def k4 : Class := { plain "java/io/Serializable" (some 0) with
  accessFlags := 1537
  interfaces := #[]
  cf := some (fileOf pool4 2 #[] #[] 1537 4 #[] #[])
  fields := #[]
  methods := #[]
  instanceTypes := #[]
  staticTypes := #[]
  resolved := Array.replicate 8 none
  statics := none }

/-- the primitive byte -/
def k5 : Class := { plain "byte" none with kind := .primitive 'B', accessFlags := 0x411 }
/-- [B -/
def k6 : Class := { plain "[B" (some 0) with kind := .array 5 .byte, interfaces := #[3, 4], accessFlags := 1041 }

/-- the primitive int -/
def k7 : Class := { plain "int" none with kind := .primitive 'I', accessFlags := 0x411 }
/-- [I -/
def k8 : Class := { plain "[I" (some 0) with kind := .array 7 .int, interfaces := #[3, 4], accessFlags := 1041 }

def heap : Heap := #[]
def classes : Array Class := #[k0, k1, k2, k3, k4, k5, k6, k7, k8]
def interned : List (Array UInt16 × Addr) := []
def slotsUsed : Nat := 0
def theMethod : MethodId := ⟨1, 1⟩
def args0 : Array Value := #[.int 5]
def aboutOver (below : List Frame) : State where
  vm := { classes := classes, interned := interned.toArray }
  heap := heap
  slotsUsed := slotsUsed
  threads := #[{ frames := .invoking theMethod args0 :: below }]
def below0 : List Frame := [.native { method := ⟨0, 0⟩, args := #[] }]
def about1 : State := aboutOver below0
def p0 : Program := .bare "" "" ""
def e0 : Env := launch0.env 0 0 0
theorem w_frames : about1.frames = Frame.invoking theMethod args0 :: below0 := rfl
set_option maxRecDepth 65536 in
theorem w_args : argsFit about1.vm theMethod args0 = true := by decide +kernel
set_option maxRecDepth 65536 in
theorem w_heap : heapFits about1 = true := by decide +kernel
set_option maxRecDepth 65536 in
theorem w_runnable : about1.curStatus? = some .runnable := by decide +kernel
set_option maxRecDepth 65536 in
theorem w_alone : about1.alone = true := by decide +kernel
set_option maxRecDepth 65536 in
theorem w_named : about1.methodNamed? x = some theMethod := by decide +kernel
set_option maxRecDepth 65536 in
theorem w_hears : about1.hears theMethod below0 = true := by decide +kernel
set_option maxRecDepth 65536 in
theorem w_ripe : about1.ripe theMethod args0 below0 = true := by decide +kernel
theorem w_running : about1.status = .running := rfl
set_option maxRecDepth 65536 in
theorem w_room : about1.hasRoom e0.platform room_1 = true :=
  launch0.hasRoom_least _ room_1 (by decide +kernel) (by decide +kernel) (by decide +kernel) (by decide +kernel) (by decide +kernel) (by decide +kernel)
theorem allAtoms_all (ts : List Jvm.Cond) (a : Array Jvm.Value) (st : Jvm.State) : (allAtoms ts).before a st = ts.all (fun c => c.before a st) := by
  induction ts with
  | nil => rfl
  | cons c t ih =>
    show (Jvm.Cond.and c (allAtoms t)).before a st = _
    rw [Jvm.Cond.before_and, ih, List.all_cons]
def words1 : List Jvm.Cond := Jvm.Cond.code x code maxLocals ret :: tables_1
/-- a 'code' word, met by the world's own term for the bytes: nothing is compared byte by byte -/
theorem code_word {y : MethodName} {bytes : ByteArray} {mx : Nat} {rt : Option FieldType} {a : Array Value} {s : State} {m : MethodId} {meth : Method} {c : Code} (h1 : s.methodNamed? y = some m) (h2 : s.vm.method? m = some meth) (h3 : meth.code = some c) (h4 : c.code = bytes)
    (h5 : (c.maxLocals == mx && c.exceptionTable.isEmpty && decide (c.maxStack ≤ mostOperands) && decide (meth.sig.returnType = rt) && !meth.locks && decide (parseMethodDescriptor y.desc = some meth.sig)) = true) : (Jvm.Cond.code y bytes mx rt).before a s = true := by
  simp only [Bool.and_eq_true, beq_iff_eq, Bool.not_eq_true', decide_eq_true_eq] at h5
  obtain ⟨⟨⟨⟨⟨g1, g2⟩, g3⟩, g4⟩, g5⟩, g6⟩ := h5
  simp [Cond.before, Cond.holds, Cond.value, h1, h2, h3, h4, g1, g2, g3, g4, g5, g6]
def isCode : Jvm.Cond → Bool
  | .code _ _ _ _ => true
  | _ => false
theorem all_split {L : List Jvm.Cond} {P : Jvm.Cond → Bool} (h1 : L.all (fun c => isCode c || P c) = true) (h2 : ∀ c ∈ L.filter isCode, P c = true) : L.all P = true := by
  refine List.all_eq_true.mpr fun c hc => ?_
  have h := List.all_eq_true.mp h1 c hc
  rcases Bool.eq_false_or_eq_true (isCode c) with hi | hi
  · exact h2 c (List.mem_filter.mpr ⟨hc, hi⟩)
  · simpa [hi] using h
set_option maxRecDepth 65536 in
theorem w_c0 : (Jvm.Cond.code x code maxLocals ret).before args0 about1 = true := code_word (m := ⟨1, 1⟩) (meth := k1m1) (c := k1c1) (by decide +kernel) rfl rfl rfl (by decide +kernel)
set_option maxRecDepth 65536 in
theorem w_c1 : (Jvm.Cond.code ({ cls := "com/example/rowfold/rowfold/codec/FieldModel", name := "mostTableBits", desc := "(I)I" } : Jvm.MethodName) prog_6_method_4_code (2 : Nat) (Option.some Jvm.ClassFile.FieldType.int)).before args0 about1 = true := code_word (m := ⟨2, 0⟩) (meth := k2m0) (c := k2c0) (by decide +kernel) rfl rfl rfl (by decide +kernel)
def codes1 : List Jvm.Cond := [Jvm.Cond.code x code maxLocals ret, Jvm.Cond.code ({ cls := "com/example/rowfold/rowfold/codec/FieldModel", name := "mostTableBits", desc := "(I)I" } : Jvm.MethodName) prog_6_method_4_code (2 : Nat) (Option.some Jvm.ClassFile.FieldType.int)]
set_option maxRecDepth 65536 in
theorem codes_eq : words1.filter isCode = codes1 := rfl
theorem w_codes : ∀ c ∈ words1.filter isCode, c.before args0 about1 = true := by
  rw [codes_eq]
  intro c hc
  simp only [codes1, List.mem_cons, List.not_mem_nil, or_false] at hc
  rcases hc with rfl | rfl
  · exact w_c0
  · exact w_c1
set_option maxRecDepth 65536 in
theorem w_t1 : words1.all (fun c => isCode c || c.before args0 about1) = true := by decide +kernel
theorem w_tables : (allAtoms (Jvm.Cond.code x code maxLocals ret :: tables_1)).before args0 about1 = true := by
  rw [allAtoms_all]
  show words1.all (fun c => c.before args0 about1) = true
  refine all_split ?_ w_codes
  rw [w_t1]
set_option maxRecDepth 65536 in
theorem w_case : (Jvm.Cond.and given_1 narrow_1).before args0 about1 = true := by decide +kernel
theorem w_applies : (headSpec (Jvm.Cond.code x code maxLocals ret :: tables_1) room_1).applies x e0.platform about1 = true :=
  (Spec.applies_iff w_frames).mpr ⟨w_running, w_runnable, w_alone, w_named, w_hears, w_ripe, w_room, w_tables⟩
theorem atStart : AtStart classFile x code maxLocals ret World_1 tables_1 room_1 Calls_1 rest_1 Pre_1 launch0 p0 e0 about1 theMethod args0 below0 :=
  ⟨lists_1, trivial, launch0.admits_env _ _ _, launch0.least_env, fairChoices_fair.cas, fairChoices_fair.clock, w_frames, w_args, w_heap, w_applies, trivial, trivial, w_case⟩
end start1
theorem witness_1 : WitnessClaimed_1 := ⟨start1.p0, start1.e0, start1.about1, start1.theMethod, start1.args0, start1.below0, start1.atStart⟩
end Jvm.Pilot.@@N@@
