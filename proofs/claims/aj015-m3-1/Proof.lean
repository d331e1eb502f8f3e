import JvmDerived
import JvmDerived.Pilot.@@N@@Statement
import JvmDerived.Pilot.@@N@@Code
set_option linter.unusedVariables false
set_option linter.unusedSimpArgs false
@@BLOCK:NumsL.lean.txt@@
namespace Jvm.Pilot.@@N@@
open Jvm Jvm.ClassFile Sem Op Lib Jvm.Free Jvm.Stand Jvm.LawKit Jvm.RoadKit Bundle Jvm.Pilot.@@N@@.Jvm.D
def own_Goes (p : Program) (e : Env) (below : List Frame) (s : State) (Q : Option Value → Heap → List Loc → Prop) (ce sl : Nat) (A : State) : Prop :=
  ∃ s₂ o, Steps p.tables e below A s₂ ∧ s₂.status = .running ∧ Ended s₂ below o ∧ ∃ v L, o = .returned v ∧ Q v s₂.heap L ∧ FrameEnd s o s₂ L ce sl
theorem own_pre {p : Program} {e : Env} {below : List Frame} {s : State} {Q : Option Value → Heap → List Loc → Prop} {ce sl : Nat} {A B : State} (h : ∀ t, Steps p.tables e below A t → Steps p.tables e below B t) (G : own_Goes p e below s Q ce sl A) : own_Goes p e below s Q ce sl B := by
  obtain ⟨s₂, o, h1, r⟩ := G
  exact ⟨s₂, o, h _ h1, r⟩
theorem own_end {p : Program} {l : Launch} {e : Env} {R : Room} {s : State} {m : MethodId} {args : Array Value} {below : List Frame} {meth : Method} {c : Code} {T : State} {locs : List Loc} {cells slots : Nat} (X : Stand p l e R s m args below meth c T locs cells slots)
    {v : Option Value} {Q : Option Value → Heap → List Loc → Prop} {ce sl : Nat} {A : State} (hlocks : meth.locks = false) (hv : meth.sig.returnType = none → v = none)
    (hstep : ∀ fs, (∀ (f : JFrame) (acts : List Action), f.method = m → f.locked = none → f.entered = [] → (doReturn e (T.setTop f) acts v).1 = T.setFrames fs) → Steps p.tables e below A (T.setFrames fs))
    (hQ : Q v T.heap locs) (hc : cells ≤ ce) (hs : slots ≤ sl) : own_Goes p e below s Q ce sl A := by
  obtain ⟨fs, hr, hrun, hended, hW, hsame⟩ := X.leave hv hlocks
  exact ⟨_, _, hstep fs hr, hrun, hended, _, _, rfl, hQ, ⟨_, rfl⟩, hW, hsame.mono hc hs⟩
theorem own_lrem_eq (x y : Int64) : x - (x / y) * y = x % y := Int64.toInt_inj.mp (by rw [Jvm.Kit.i64_rem, Int64.toInt_mod])
theorem own_lrem {tb : Tables} [Ours tb] {e : Env} {below : List Frame} {T target : State} {m : MethodId} {c : Code} {g : JFrame} (h : At T m c below) (hx : tb.exec = Jvm.exec) (hg : g.method = m) {x y : Int64} {rest : List Value} (hd : decode c.code g.pc = .ok (.lrem, 1)) (hs : g.stack = .long y :: .long x :: rest) (hy : y ≠ 0)
    (hr : Steps tb e below (T.setTop { g with pc := g.pc + 1, stack := .long (x % y) :: rest }) target) : Steps tb e below (T.setTop g) target :=
  XS.lrem h hx hg hd hs hy (by rw [own_lrem_eq]; exact hr)
theorem own_h {a0 : Array Value} {Z : State} {L : List Jvm.Cond} (hw : ∀ d ∈ L, d.before a0 Z = true) (i : Nat) {d : Jvm.Cond} (h : L[i]? = some d) : d.before a0 Z = true := hw _ (List.mem_of_getElem? h)
theorem own_small {y : Int32} (h : y.toBitVec.toNat < 2 ^ 31) : y.toInt = (y.toBitVec.toNat : Int) := by
  show BitVec.toInt _ = _
  rw [BitVec.toInt_eq_toNat_of_lt]; omega
theorem own_nat {y : Int32} (h : 0 ≤ y.toInt) : y.toInt = (y.toBitVec.toNat : Int) := by
  apply own_small
  have h' : 0 ≤ y.toBitVec.toInt := h
  have := BitVec.toInt_eq_toNat_cond y.toBitVec
  have h2 := y.toBitVec.isLt
  split at this <;> omega
theorem own_c16 (x : Int32) : 0 ≤ (x.toUInt32.toUInt16.toUInt32.toInt32).toInt ∧ (x.toUInt32.toUInt16.toUInt32.toInt32).toInt < 65536 := by
  have e : (x.toUInt32.toUInt16.toUInt32.toInt32).toBitVec.toNat = x.toUInt32.toUInt16.toUInt32.toNat := rfl
  have h : x.toUInt32.toUInt16.toUInt32.toNat < 65536 := by rw [UInt16.toNat_toUInt32]; exact UInt16.toNat_lt _
  rw [own_small (by rw [e]; omega), e]; omega
theorem own_nor32 (n : Nat) : n ||| 32 = if n % 64 < 32 then n + 32 else n := by
  have hd : n = 2 ^ 6 * (n / 64) ||| (n % 64) := by rw [← Nat.two_pow_add_eq_or_of_lt (by omega)]; omega
  have key : ∀ r < 64, r ||| 32 = if r < 32 then r + 32 else r := by decide
  have hr := key (n % 64) (by omega)
  have h2 : n % 64 ||| 32 < 2 ^ 6 := by rw [hr]; split <;> omega
  have e : n ||| 32 = 2 ^ 6 * (n / 64) + (n % 64 ||| 32) := by
    rw [Nat.two_pow_add_eq_or_of_lt h2, ← Nat.or_assoc, ← hd]
  rw [e, hr]; split <;> omega
theorem own_or32 (c : Int32) (h0 : 0 ≤ c.toInt) (h1 : c.toInt < 65536) : (c ||| 32).toInt = if c.toInt % 64 < 32 then c.toInt + 32 else c.toInt := by
  have hn := own_nat h0
  have e1 : (c ||| 32).toBitVec.toNat = c.toBitVec.toNat ||| 32 := by
    rw [Int32.toBitVec_or, BitVec.toNat_or]; rfl
  have e2 := own_nor32 c.toBitVec.toNat
  have h3 : (c ||| 32).toBitVec.toNat < 2 ^ 31 := by rw [e1, e2]; split <;> omega
  rw [own_small h3, e1, e2, hn]
  split <;> split <;> omega
theorem own_pn0 : plainName "com/example/nestor/nestor/policy/Names" = true := by first | (simp [plainName, overriddenIn]; done) | decide +kernel
theorem d2_0 : decode prog_66_method_5_code 0 = .ok (.iload_n 0, 1) := by decide +kernel
theorem d2_1 : decode prog_66_method_5_code 1 = .ok (.bipush 65, 2) := by decide +kernel
theorem d2_3 : decode prog_66_method_5_code 3 = .ok (.if_icmp .lt 9, 3) := by decide +kernel
theorem d2_6 : decode prog_66_method_5_code 6 = .ok (.iload_n 0, 1) := by decide +kernel
theorem d2_7 : decode prog_66_method_5_code 7 = .ok (.bipush 90, 2) := by decide +kernel
theorem d2_9 : decode prog_66_method_5_code 9 = .ok (.if_icmp .le 15, 3) := by decide +kernel
theorem d2_12 : decode prog_66_method_5_code 12 = .ok (.iload_n 0, 1) := by decide +kernel
theorem d2_13 : decode prog_66_method_5_code 13 = .ok (.bipush 97, 2) := by decide +kernel
theorem d2_15 : decode prog_66_method_5_code 15 = .ok (.if_icmp .lt 13, 3) := by decide +kernel
theorem d2_18 : decode prog_66_method_5_code 18 = .ok (.iload_n 0, 1) := by decide +kernel
theorem d2_19 : decode prog_66_method_5_code 19 = .ok (.bipush 122, 2) := by decide +kernel
theorem d2_21 : decode prog_66_method_5_code 21 = .ok (.if_icmp .gt 7, 3) := by decide +kernel
theorem d2_24 : decode prog_66_method_5_code 24 = .ok (.iconst 1, 1) := by decide +kernel
theorem d2_25 : decode prog_66_method_5_code 25 = .ok (.goto 4, 3) := by decide +kernel
theorem d2_28 : decode prog_66_method_5_code 28 = .ok (.iconst 0, 1) := by decide +kernel
theorem d2_29 : decode prog_66_method_5_code 29 = .ok (.ireturn, 1) := by decide +kernel
theorem ef2 (m : MethodId) (p0 : Int32) : entryFrame m #[(.int p0)] 1 = mkF m 0 #[iv p0] [] := by first | (simp [entryFrame, mkF, argsToLocals, Value.category]; done) | rfl
def f2 (p0 : Int32) : Int32 := (let w2_1 : Int32 := (if p0 < (65:Int32) then (if p0 < (97:Int32) then (0:Int32) else (if (122:Int32) < p0 then (0:Int32) else (1:Int32))) else (if (90:Int32) < p0 then (if p0 < (97:Int32) then (0:Int32) else (if (122:Int32) < p0 then (0:Int32) else (1:Int32))) else (1:Int32))); (w2_1 &&& 1))
def Q2 (Z : State) (p0 : Int32)  (h0 : Heap) (n0 : Nat) (v : Option Value) (h : Heap) (L : List Loc) : Prop := v = some (.int (f2 p0)) ∧ Fr n0 L ∧ h = h0
set_option maxRecDepth 65536 in
set_option maxHeartbeats 40000000 in
theorem rm2 (l : Launch) (Z : State) (aZ : Array Value) (hw : ∀ d ∈ tables_1, d.before aZ Z = true) (ws : List Jvm.Cond) (p0 : Int32)  (h0 : Heap) (n0 : Nat) (Z0 : n0 ≤ h0.size)  :
    MetFree l (⟨"com/example/nestor/nestor/policy/Names", "isNameStart", "(C)Z"⟩ : MethodName) (head1 (Jvm.Cond.code (⟨"com/example/nestor/nestor/policy/Names", "isNameStart", "(C)Z"⟩ : MethodName) prog_66_method_5_code 1 (some .boolean) :: ws) ({ frames := 0, cells := 0, slots := 0, locals := 0 } : Room)) (fun a U => a = #[(.int p0)] ∧ Z.Warmed39 U.vm ∧ U.heap = h0) (fun _ _ _ _ _ => True) (fun _ U o U' => ∃ v L, o = .returned v ∧ Q2 Z p0 h0 n0 v U'.heap L ∧ FrameEnd U o U' L ({ frames := 0, cells := 0, slots := 0, locals := 0 } : Room).cells ({ frames := 0, cells := 0, slots := 0, locals := 0 } : Room).slots) := by
  refine MetFree.of_bodySF (plainFor_of_name own_pn0) hisR ?_
  intro p e s m args below meth c s₁ Bd hml0 hP hK
  obtain ⟨rfl, hZ, hh⟩ := hP
  have hx := Bd.exec
  have hby := Bd.bytes
  have hml : c.maxLocals = 1 := hml0
  have hown : s.vm.findClass "com/example/nestor/nestor/policy/Names" = some m.cls := findClass_of_methodNamed Bd.named
  have hnm := (name_of_methodNamed Bd.named Bd.method).1
  have X0 : Stand p l e ({ frames := 0, cells := 0, slots := 0, locals := 0 } : Room) s m #[(.int p0)] below meth c s₁ [] 0 0 := Stand.of_body Bd
  have e0 : s₁.heap = h0 := by rw [← hh, Bd.state]; rfl
  have N0 := Fr.nil n0
  show own_Goes p e below s (Q2 Z p0 h0 n0) ({ frames := 0, cells := 0, slots := 0, locals := 0 } : Room).cells ({ frames := 0, cells := 0, slots := 0, locals := 0 } : Room).slots _
  refine own_pre (fun t k => castTop (ef2 m p0) k) ?_
  refine own_pre (A := s₁.setTop (mkF m 3 #[iv p0] [(.int (65:Int32)), (.int p0)])) (fun t k => ?_) ?_
  · show Steps p.tables e below (s₁.setTop (mkF m 0 #[iv p0] [])) _
    refine XS.iloadN X0.here hx rfl (hb hby d2_0) rfl ?_
    show Steps p.tables e below (s₁.setTop (mkF m 1 #[iv p0] [(.int p0)])) _
    refine XS.bipush X0.here hx rfl (hb hby d2_1) ?_
    exact k
  obtain ⟨w2_1, hw2_1⟩ : ∃ z : Int32, z = (if p0 < (65:Int32) then (if p0 < (97:Int32) then (0:Int32) else (if (122:Int32) < p0 then (0:Int32) else (1:Int32))) else (if (90:Int32) < p0 then (if p0 < (97:Int32) then (0:Int32) else (if (122:Int32) < p0 then (0:Int32) else (1:Int32))) else (1:Int32))) := ⟨_, rfl⟩
  refine own_pre (A := s₁.setTop (mkF m 29 #[iv p0] [(.int w2_1)])) (fun t k => ?_) ?_
  · show Steps p.tables e below (s₁.setTop (mkF m 3 #[iv p0] [(.int (65:Int32)), (.int p0)])) _
    by_cases hm3_1 : p0 < (65:Int32)
    · refine XS.icmpYes X0.here hx rfl (pc0 := 3) (pc' := 12) rfl (hb hby d2_3) rfl (XT.ii_lt_t hm3_1) (by decide) (by decide) ?_
      show Steps p.tables e below (s₁.setTop (mkF m 12 #[iv p0] [])) _
      refine XS.iloadN X0.here hx rfl (hb hby d2_12) rfl ?_
      show Steps p.tables e below (s₁.setTop (mkF m 13 #[iv p0] [(.int p0)])) _
      refine XS.bipush X0.here hx rfl (hb hby d2_13) ?_
      show Steps p.tables e below (s₁.setTop (mkF m 15 #[iv p0] [(.int (97:Int32)), (.int p0)])) _
      by_cases hm15_2 : p0 < (97:Int32)
      · refine XS.icmpYes X0.here hx rfl (pc0 := 15) (pc' := 28) rfl (hb hby d2_15) rfl (XT.ii_lt_t hm15_2) (by decide) (by decide) ?_
        show Steps p.tables e below (s₁.setTop (mkF m 28 #[iv p0] [])) _
        refine XS.iconst X0.here hx rfl (hb hby d2_28) ?_
        rw [hw2_1.trans ((if_pos hm3_1).trans (if_pos hm15_2))] at k
        exact k
      · refine XS.icmpNo X0.here hx rfl (hb hby d2_15) rfl (XT.ii_lt_f hm15_2) ?_
        show Steps p.tables e below (s₁.setTop (mkF m 18 #[iv p0] [])) _
        refine XS.iloadN X0.here hx rfl (hb hby d2_18) rfl ?_
        show Steps p.tables e below (s₁.setTop (mkF m 19 #[iv p0] [(.int p0)])) _
        refine XS.bipush X0.here hx rfl (hb hby d2_19) ?_
        show Steps p.tables e below (s₁.setTop (mkF m 21 #[iv p0] [(.int (122:Int32)), (.int p0)])) _
        by_cases hm21_3 : (122:Int32) < p0
        · refine XS.icmpYes X0.here hx rfl (pc0 := 21) (pc' := 28) rfl (hb hby d2_21) rfl (XT.ii_gt_t hm21_3) (by decide) (by decide) ?_
          show Steps p.tables e below (s₁.setTop (mkF m 28 #[iv p0] [])) _
          refine XS.iconst X0.here hx rfl (hb hby d2_28) ?_
          rw [hw2_1.trans (((if_pos hm3_1).trans (if_neg hm15_2)).trans (if_pos hm21_3))] at k
          exact k
        · refine XS.icmpNo X0.here hx rfl (hb hby d2_21) rfl (XT.ii_gt_f hm21_3) ?_
          show Steps p.tables e below (s₁.setTop (mkF m 24 #[iv p0] [])) _
          refine XS.iconst X0.here hx rfl (hb hby d2_24) ?_
          show Steps p.tables e below (s₁.setTop (mkF m 25 #[iv p0] [(.int (1:Int32))])) _
          refine XS.goto X0.here hx rfl (pc0 := 25) (pc' := 29) rfl (hb hby d2_25) (by decide) (by decide) ?_
          rw [hw2_1.trans (((if_pos hm3_1).trans (if_neg hm15_2)).trans (if_neg hm21_3))] at k
          exact k
    · refine XS.icmpNo X0.here hx rfl (hb hby d2_3) rfl (XT.ii_lt_f hm3_1) ?_
      show Steps p.tables e below (s₁.setTop (mkF m 6 #[iv p0] [])) _
      refine XS.iloadN X0.here hx rfl (hb hby d2_6) rfl ?_
      show Steps p.tables e below (s₁.setTop (mkF m 7 #[iv p0] [(.int p0)])) _
      refine XS.bipush X0.here hx rfl (hb hby d2_7) ?_
      show Steps p.tables e below (s₁.setTop (mkF m 9 #[iv p0] [(.int (90:Int32)), (.int p0)])) _
      by_cases hm9_4 : (90:Int32) < p0
      · refine XS.icmpNo X0.here hx rfl (hb hby d2_9) rfl (XT.ii_le_f hm9_4) ?_
        show Steps p.tables e below (s₁.setTop (mkF m 12 #[iv p0] [])) _
        refine XS.iloadN X0.here hx rfl (hb hby d2_12) rfl ?_
        show Steps p.tables e below (s₁.setTop (mkF m 13 #[iv p0] [(.int p0)])) _
        refine XS.bipush X0.here hx rfl (hb hby d2_13) ?_
        show Steps p.tables e below (s₁.setTop (mkF m 15 #[iv p0] [(.int (97:Int32)), (.int p0)])) _
        by_cases hm15_5 : p0 < (97:Int32)
        · refine XS.icmpYes X0.here hx rfl (pc0 := 15) (pc' := 28) rfl (hb hby d2_15) rfl (XT.ii_lt_t hm15_5) (by decide) (by decide) ?_
          show Steps p.tables e below (s₁.setTop (mkF m 28 #[iv p0] [])) _
          refine XS.iconst X0.here hx rfl (hb hby d2_28) ?_
          rw [hw2_1.trans (((if_neg hm3_1).trans (if_pos hm9_4)).trans (if_pos hm15_5))] at k
          exact k
        · refine XS.icmpNo X0.here hx rfl (hb hby d2_15) rfl (XT.ii_lt_f hm15_5) ?_
          show Steps p.tables e below (s₁.setTop (mkF m 18 #[iv p0] [])) _
          refine XS.iloadN X0.here hx rfl (hb hby d2_18) rfl ?_
          show Steps p.tables e below (s₁.setTop (mkF m 19 #[iv p0] [(.int p0)])) _
          refine XS.bipush X0.here hx rfl (hb hby d2_19) ?_
          show Steps p.tables e below (s₁.setTop (mkF m 21 #[iv p0] [(.int (122:Int32)), (.int p0)])) _
          by_cases hm21_6 : (122:Int32) < p0
          · refine XS.icmpYes X0.here hx rfl (pc0 := 21) (pc' := 28) rfl (hb hby d2_21) rfl (XT.ii_gt_t hm21_6) (by decide) (by decide) ?_
            show Steps p.tables e below (s₁.setTop (mkF m 28 #[iv p0] [])) _
            refine XS.iconst X0.here hx rfl (hb hby d2_28) ?_
            rw [hw2_1.trans ((((if_neg hm3_1).trans (if_pos hm9_4)).trans (if_neg hm15_5)).trans (if_pos hm21_6))] at k
            exact k
          · refine XS.icmpNo X0.here hx rfl (hb hby d2_21) rfl (XT.ii_gt_f hm21_6) ?_
            show Steps p.tables e below (s₁.setTop (mkF m 24 #[iv p0] [])) _
            refine XS.iconst X0.here hx rfl (hb hby d2_24) ?_
            show Steps p.tables e below (s₁.setTop (mkF m 25 #[iv p0] [(.int (1:Int32))])) _
            refine XS.goto X0.here hx rfl (pc0 := 25) (pc' := 29) rfl (hb hby d2_25) (by decide) (by decide) ?_
            rw [hw2_1.trans ((((if_neg hm3_1).trans (if_pos hm9_4)).trans (if_neg hm15_5)).trans (if_neg hm21_6))] at k
            exact k
      · refine XS.icmpYes X0.here hx rfl (pc0 := 9) (pc' := 24) rfl (hb hby d2_9) rfl (XT.ii_le_t hm9_4) (by decide) (by decide) ?_
        show Steps p.tables e below (s₁.setTop (mkF m 24 #[iv p0] [])) _
        refine XS.iconst X0.here hx rfl (hb hby d2_24) ?_
        show Steps p.tables e below (s₁.setTop (mkF m 25 #[iv p0] [(.int (1:Int32))])) _
        refine XS.goto X0.here hx rfl (pc0 := 25) (pc' := 29) rfl (hb hby d2_25) (by decide) (by decide) ?_
        rw [hw2_1.trans ((if_neg hm3_1).trans (if_neg hm9_4))] at k
        exact k
  have hv1 : (w2_1 &&& 1) = f2 p0 := by subst hw2_1; rfl
  exact own_end X0 (BodyLoose.notSynchronized Bd) (fun h => by rw [Bd.returns] at h; cases h) (v := some (.int (w2_1 &&& 1))) (fun fs hr => retN X0 hx (t := .boolean) Bd.returns (by simp) (hb hby d2_29) hr) (by show Q2 Z p0 h0 n0 _ s₁.heap _; rw [e0]; exact ⟨(congrArg (fun z => some (Value.int z)) hv1), N0, rfl⟩) (by decide) (by decide)
theorem own_pd0 : parseMethodDescriptor "(C)Z" = some ⟨[.char], some .boolean⟩ := by decide +kernel
theorem d1_0 : decode prog_66_method_6_code 0 = .ok (.iload_n 0, 1) := by decide +kernel
theorem d1_1 : decode prog_66_method_6_code 1 = .ok (.invokestatic 17, 3) := by decide +kernel
theorem d1_4 : decode prog_66_method_6_code 4 = .ok (.ifCond .ne 21, 3) := by decide +kernel
theorem d1_7 : decode prog_66_method_6_code 7 = .ok (.iload_n 0, 1) := by decide +kernel
theorem d1_8 : decode prog_66_method_6_code 8 = .ok (.bipush 48, 2) := by decide +kernel
theorem d1_10 : decode prog_66_method_6_code 10 = .ok (.if_icmp .lt 9, 3) := by decide +kernel
theorem d1_13 : decode prog_66_method_6_code 13 = .ok (.iload_n 0, 1) := by decide +kernel
theorem d1_14 : decode prog_66_method_6_code 14 = .ok (.bipush 57, 2) := by decide +kernel
theorem d1_16 : decode prog_66_method_6_code 16 = .ok (.if_icmp .le 9, 3) := by decide +kernel
theorem d1_19 : decode prog_66_method_6_code 19 = .ok (.iload_n 0, 1) := by decide +kernel
theorem d1_20 : decode prog_66_method_6_code 20 = .ok (.bipush 95, 2) := by decide +kernel
theorem d1_22 : decode prog_66_method_6_code 22 = .ok (.if_icmp .ne 7, 3) := by decide +kernel
theorem d1_25 : decode prog_66_method_6_code 25 = .ok (.iconst 1, 1) := by decide +kernel
theorem d1_26 : decode prog_66_method_6_code 26 = .ok (.goto 4, 3) := by decide +kernel
theorem d1_29 : decode prog_66_method_6_code 29 = .ok (.iconst 0, 1) := by decide +kernel
theorem d1_30 : decode prog_66_method_6_code 30 = .ok (.ireturn, 1) := by decide +kernel
theorem ef1 (m : MethodId) (p0 : Int32) : entryFrame m #[(.int p0)] 1 = mkF m 0 #[iv p0] [] := by first | (simp [entryFrame, mkF, argsToLocals, Value.category]; done) | rfl
def f1 (p0 : Int32) : Int32 := (let w1_1 : Int32 := (if (f2 p0) = (0:Int32) then (if p0 < (48:Int32) then (if p0 = (95:Int32) then (1:Int32) else (0:Int32)) else (if (57:Int32) < p0 then (if p0 = (95:Int32) then (1:Int32) else (0:Int32)) else (1:Int32))) else (1:Int32)); (w1_1 &&& 1))
def Q1 (Z : State) (p0 : Int32)  (h0 : Heap) (n0 : Nat) (v : Option Value) (h : Heap) (L : List Loc) : Prop := v = some (.int (f1 p0)) ∧ Fr n0 L ∧ h = h0
set_option maxRecDepth 65536 in
set_option maxHeartbeats 40000000 in
theorem rm1 (l : Launch) (Z : State) (aZ : Array Value) (hw : ∀ d ∈ tables_1, d.before aZ Z = true) (ws : List Jvm.Cond) (p0 : Int32)  (h0 : Heap) (n0 : Nat) (Z0 : n0 ≤ h0.size)  :
    MetFree l (⟨"com/example/nestor/nestor/policy/Names", "isNamePart", "(C)Z"⟩ : MethodName) (head1 (Jvm.Cond.code (⟨"com/example/nestor/nestor/policy/Names", "isNamePart", "(C)Z"⟩ : MethodName) prog_66_method_6_code 1 (some .boolean) :: ws) ({ frames := 1, cells := 0, slots := 0, locals := 12 } : Room)) (fun a U => a = #[(.int p0)] ∧ Z.Warmed39 U.vm ∧ U.heap = h0) (fun _ _ _ _ _ => True) (fun _ U o U' => ∃ v L, o = .returned v ∧ Q1 Z p0 h0 n0 v U'.heap L ∧ FrameEnd U o U' L ({ frames := 1, cells := 0, slots := 0, locals := 12 } : Room).cells ({ frames := 1, cells := 0, slots := 0, locals := 12 } : Room).slots) := by
  refine MetFree.of_bodySF (plainFor_of_name own_pn0) hisR ?_
  intro p e s m args below meth c s₁ Bd hml0 hP hK
  obtain ⟨rfl, hZ, hh⟩ := hP
  have hx := Bd.exec
  have hby := Bd.bytes
  have hml : c.maxLocals = 1 := hml0
  have hown : s.vm.findClass "com/example/nestor/nestor/policy/Names" = some m.cls := findClass_of_methodNamed Bd.named
  have hnm := (name_of_methodNamed Bd.named Bd.method).1
  have X0 : Stand p l e ({ frames := 1, cells := 0, slots := 0, locals := 12 } : Room) s m #[(.int p0)] below meth c s₁ [] 0 0 := Stand.of_body Bd
  have e0 : s₁.heap = h0 := by rw [← hh, Bd.state]; rfl
  have N0 := Fr.nil n0
  show own_Goes p e below s (Q1 Z p0 h0 n0) ({ frames := 1, cells := 0, slots := 0, locals := 12 } : Room).cells ({ frames := 1, cells := 0, slots := 0, locals := 12 } : Room).slots _
  refine own_pre (fun t k => castTop (ef1 m p0) k) ?_
  refine own_pre (A := s₁.setTop (mkF m 1 #[iv p0] [(.int p0)])) (fun t k => ?_) ?_
  · show Steps p.tables e below (s₁.setTop (mkF m 0 #[iv p0] [])) _
    refine XS.iloadN X0.here hx rfl (hb hby d1_0) rfl ?_
    exact k
  obtain ⟨_, _, ⟨T2, L2, k2, n2⟩, -, X2, ⟨Lc2, hQ2, l2, y2, z2⟩, st2⟩ := Jvm.LawKit.callS X0 hx (y := (⟨"com/example/nestor/nestor/policy/Names", "isNameStart", "(C)Z"⟩ : MethodName)) hown (mvT hZ (own_h hw 4 rfl)) (mvT hZ (own_h hw 5 rfl)) (mvT hZ (own_h hw 2 rfl)) (mvT hZ (own_h hw 6 rfl)) (by decide) (backOf (W := 0) (rm2 l Z aZ hw [] p0 h0 n0 Z0 ) hZ (own_h hw 6 rfl) (own_h hw 2 rfl) (by decide) (by decide)) (g := (mkF m 1 #[iv p0] [(.int p0)])) rfl (by rw [hml]; rfl) (argsL := [(.int p0)]) (rest := []) (lenOf own_pd0 rfl) rfl (by show 2 * 0 + _ ≤ _; exact Nat.le_of_eq rfl) (hb hby d1_1) (fun _ _ => ⟨rfl, e0, (by decide : 0 + 0 ≤ _), (by decide : 0 + 0 ≤ _)⟩)
  dsimp only [Pt.U, Pt.locs, Pt.cells, Pt.slots] at X2 l2 y2 z2 st2 hQ2
  subst l2 y2 z2
  obtain ⟨rfl, N2q, eh2⟩ := hQ2
  have N2 := Fr.app N0 N2q
  refine own_pre st2 ?_
  obtain ⟨w1_1, hw1_1⟩ : ∃ z : Int32, z = (if (f2 p0) = (0:Int32) then (if p0 < (48:Int32) then (if p0 = (95:Int32) then (1:Int32) else (0:Int32)) else (if (57:Int32) < p0 then (if p0 = (95:Int32) then (1:Int32) else (0:Int32)) else (1:Int32))) else (1:Int32)) := ⟨_, rfl⟩
  refine own_pre (A := T2.setTop (mkF m 30 #[iv p0] [(.int w1_1)])) (fun t k => ?_) ?_
  · show Steps p.tables e below (T2.setTop (mkF m 4 #[iv p0] [(.int (f2 p0))])) _
    by_cases hm4_1 : (f2 p0) = (0:Int32)
    · refine XS.ifNo X2.here hx rfl (hb hby d1_4) rfl (XT.i0_ne_f hm4_1) ?_
      show Steps p.tables e below (T2.setTop (mkF m 7 #[iv p0] [])) _
      refine XS.iloadN X2.here hx rfl (hb hby d1_7) rfl ?_
      show Steps p.tables e below (T2.setTop (mkF m 8 #[iv p0] [(.int p0)])) _
      refine XS.bipush X2.here hx rfl (hb hby d1_8) ?_
      show Steps p.tables e below (T2.setTop (mkF m 10 #[iv p0] [(.int (48:Int32)), (.int p0)])) _
      by_cases hm10_2 : p0 < (48:Int32)
      · refine XS.icmpYes X2.here hx rfl (pc0 := 10) (pc' := 19) rfl (hb hby d1_10) rfl (XT.ii_lt_t hm10_2) (by decide) (by decide) ?_
        show Steps p.tables e below (T2.setTop (mkF m 19 #[iv p0] [])) _
        refine XS.iloadN X2.here hx rfl (hb hby d1_19) rfl ?_
        show Steps p.tables e below (T2.setTop (mkF m 20 #[iv p0] [(.int p0)])) _
        refine XS.bipush X2.here hx rfl (hb hby d1_20) ?_
        show Steps p.tables e below (T2.setTop (mkF m 22 #[iv p0] [(.int (95:Int32)), (.int p0)])) _
        by_cases hm22_3 : p0 = (95:Int32)
        · refine XS.icmpNo X2.here hx rfl (hb hby d1_22) rfl (XT.ii_ne_f hm22_3) ?_
          show Steps p.tables e below (T2.setTop (mkF m 25 #[iv p0] [])) _
          refine XS.iconst X2.here hx rfl (hb hby d1_25) ?_
          show Steps p.tables e below (T2.setTop (mkF m 26 #[iv p0] [(.int (1:Int32))])) _
          refine XS.goto X2.here hx rfl (pc0 := 26) (pc' := 30) rfl (hb hby d1_26) (by decide) (by decide) ?_
          rw [hw1_1.trans (((if_pos hm4_1).trans (if_pos hm10_2)).trans (if_pos hm22_3))] at k
          exact k
        · refine XS.icmpYes X2.here hx rfl (pc0 := 22) (pc' := 29) rfl (hb hby d1_22) rfl (XT.ii_ne_t hm22_3) (by decide) (by decide) ?_
          show Steps p.tables e below (T2.setTop (mkF m 29 #[iv p0] [])) _
          refine XS.iconst X2.here hx rfl (hb hby d1_29) ?_
          rw [hw1_1.trans (((if_pos hm4_1).trans (if_pos hm10_2)).trans (if_neg hm22_3))] at k
          exact k
      · refine XS.icmpNo X2.here hx rfl (hb hby d1_10) rfl (XT.ii_lt_f hm10_2) ?_
        show Steps p.tables e below (T2.setTop (mkF m 13 #[iv p0] [])) _
        refine XS.iloadN X2.here hx rfl (hb hby d1_13) rfl ?_
        show Steps p.tables e below (T2.setTop (mkF m 14 #[iv p0] [(.int p0)])) _
        refine XS.bipush X2.here hx rfl (hb hby d1_14) ?_
        show Steps p.tables e below (T2.setTop (mkF m 16 #[iv p0] [(.int (57:Int32)), (.int p0)])) _
        by_cases hm16_4 : (57:Int32) < p0
        · refine XS.icmpNo X2.here hx rfl (hb hby d1_16) rfl (XT.ii_le_f hm16_4) ?_
          show Steps p.tables e below (T2.setTop (mkF m 19 #[iv p0] [])) _
          refine XS.iloadN X2.here hx rfl (hb hby d1_19) rfl ?_
          show Steps p.tables e below (T2.setTop (mkF m 20 #[iv p0] [(.int p0)])) _
          refine XS.bipush X2.here hx rfl (hb hby d1_20) ?_
          show Steps p.tables e below (T2.setTop (mkF m 22 #[iv p0] [(.int (95:Int32)), (.int p0)])) _
          by_cases hm22_5 : p0 = (95:Int32)
          · refine XS.icmpNo X2.here hx rfl (hb hby d1_22) rfl (XT.ii_ne_f hm22_5) ?_
            show Steps p.tables e below (T2.setTop (mkF m 25 #[iv p0] [])) _
            refine XS.iconst X2.here hx rfl (hb hby d1_25) ?_
            show Steps p.tables e below (T2.setTop (mkF m 26 #[iv p0] [(.int (1:Int32))])) _
            refine XS.goto X2.here hx rfl (pc0 := 26) (pc' := 30) rfl (hb hby d1_26) (by decide) (by decide) ?_
            rw [hw1_1.trans ((((if_pos hm4_1).trans (if_neg hm10_2)).trans (if_pos hm16_4)).trans (if_pos hm22_5))] at k
            exact k
          · refine XS.icmpYes X2.here hx rfl (pc0 := 22) (pc' := 29) rfl (hb hby d1_22) rfl (XT.ii_ne_t hm22_5) (by decide) (by decide) ?_
            show Steps p.tables e below (T2.setTop (mkF m 29 #[iv p0] [])) _
            refine XS.iconst X2.here hx rfl (hb hby d1_29) ?_
            rw [hw1_1.trans ((((if_pos hm4_1).trans (if_neg hm10_2)).trans (if_pos hm16_4)).trans (if_neg hm22_5))] at k
            exact k
        · refine XS.icmpYes X2.here hx rfl (pc0 := 16) (pc' := 25) rfl (hb hby d1_16) rfl (XT.ii_le_t hm16_4) (by decide) (by decide) ?_
          show Steps p.tables e below (T2.setTop (mkF m 25 #[iv p0] [])) _
          refine XS.iconst X2.here hx rfl (hb hby d1_25) ?_
          show Steps p.tables e below (T2.setTop (mkF m 26 #[iv p0] [(.int (1:Int32))])) _
          refine XS.goto X2.here hx rfl (pc0 := 26) (pc' := 30) rfl (hb hby d1_26) (by decide) (by decide) ?_
          rw [hw1_1.trans (((if_pos hm4_1).trans (if_neg hm10_2)).trans (if_neg hm16_4))] at k
          exact k
    · refine XS.ifYes X2.here hx rfl (pc0 := 4) (pc' := 25) rfl (hb hby d1_4) rfl (XT.i0_ne_t hm4_1) (by decide) (by decide) ?_
      show Steps p.tables e below (T2.setTop (mkF m 25 #[iv p0] [])) _
      refine XS.iconst X2.here hx rfl (hb hby d1_25) ?_
      show Steps p.tables e below (T2.setTop (mkF m 26 #[iv p0] [(.int (1:Int32))])) _
      refine XS.goto X2.here hx rfl (pc0 := 26) (pc' := 30) rfl (hb hby d1_26) (by decide) (by decide) ?_
      rw [hw1_1.trans (if_neg hm4_1)] at k
      exact k
  have hv3 : (w1_1 &&& 1) = f1 p0 := by subst hw1_1; rfl
  exact own_end X2 (BodyLoose.notSynchronized Bd) (fun h => by rw [Bd.returns] at h; cases h) (v := some (.int (w1_1 &&& 1))) (fun fs hr => retN X2 hx (t := .boolean) Bd.returns (by simp) (hb hby d1_30) hr) (by show Q1 Z p0 h0 n0 _ T2.heap _; rw [eh2]; exact ⟨(congrArg (fun z => some (Value.int z)) hv3), N2, rfl⟩) (by decide) (by decide)
theorem own_pn1 : plainName "com/example/nestor/nestor/policy/NamesIsNamePartPinLaw" = true := by first | (simp [plainName, overriddenIn]; done) | decide +kernel
theorem d3_0 : decode method_2_code 0 = .ok (.iload_n 0, 1) := by decide +kernel
theorem d3_1 : decode method_2_code 1 = .ok (.istore_n 1, 1) := by decide +kernel
theorem d3_2 : decode method_2_code 2 = .ok (.iload_n 1, 1) := by decide +kernel
theorem d3_3 : decode method_2_code 3 = .ok (.bipush 32, 2) := by decide +kernel
theorem d3_5 : decode method_2_code 5 = .ok (.ior, 1) := by decide +kernel
theorem d3_6 : decode method_2_code 6 = .ok (.istore_n 2, 1) := by decide +kernel
theorem d3_7 : decode method_2_code 7 = .ok (.iload_n 1, 1) := by decide +kernel
theorem d3_8 : decode method_2_code 8 = .ok (.sipush 128, 3) := by decide +kernel
theorem d3_11 : decode method_2_code 11 = .ok (.if_icmp .ge 19, 3) := by decide +kernel
theorem d3_14 : decode method_2_code 14 = .ok (.iload_n 2, 1) := by decide +kernel
theorem d3_15 : decode method_2_code 15 = .ok (.bipush 97, 2) := by decide +kernel
theorem d3_17 : decode method_2_code 17 = .ok (.if_icmp .lt 13, 3) := by decide +kernel
theorem d3_20 : decode method_2_code 20 = .ok (.iload_n 2, 1) := by decide +kernel
theorem d3_21 : decode method_2_code 21 = .ok (.bipush 122, 2) := by decide +kernel
theorem d3_23 : decode method_2_code 23 = .ok (.if_icmp .gt 7, 3) := by decide +kernel
theorem d3_26 : decode method_2_code 26 = .ok (.iconst 1, 1) := by decide +kernel
theorem d3_27 : decode method_2_code 27 = .ok (.goto 4, 3) := by decide +kernel
theorem d3_30 : decode method_2_code 30 = .ok (.iconst 0, 1) := by decide +kernel
theorem d3_31 : decode method_2_code 31 = .ok (.istore_n 3, 1) := by decide +kernel
theorem d3_32 : decode method_2_code 32 = .ok (.iload_n 1, 1) := by decide +kernel
theorem d3_33 : decode method_2_code 33 = .ok (.bipush 48, 2) := by decide +kernel
theorem d3_35 : decode method_2_code 35 = .ok (.isub, 1) := by decide +kernel
theorem d3_36 : decode method_2_code 36 = .ok (.istore 4, 2) := by decide +kernel
theorem d3_38 : decode method_2_code 38 = .ok (.iload 4, 2) := by decide +kernel
theorem d3_40 : decode method_2_code 40 = .ok (.ifCond .lt 14, 3) := by decide +kernel
theorem d3_43 : decode method_2_code 43 = .ok (.iload 4, 2) := by decide +kernel
theorem d3_45 : decode method_2_code 45 = .ok (.bipush 10, 2) := by decide +kernel
theorem d3_47 : decode method_2_code 47 = .ok (.if_icmp .ge 7, 3) := by decide +kernel
theorem d3_50 : decode method_2_code 50 = .ok (.iconst 1, 1) := by decide +kernel
theorem d3_51 : decode method_2_code 51 = .ok (.goto 4, 3) := by decide +kernel
theorem d3_54 : decode method_2_code 54 = .ok (.iconst 0, 1) := by decide +kernel
theorem d3_55 : decode method_2_code 55 = .ok (.istore 5, 2) := by decide +kernel
theorem d3_57 : decode method_2_code 57 = .ok (.iload_n 1, 1) := by decide +kernel
theorem d3_58 : decode method_2_code 58 = .ok (.bipush 95, 2) := by decide +kernel
theorem d3_60 : decode method_2_code 60 = .ok (.if_icmp .ne 7, 3) := by decide +kernel
theorem d3_63 : decode method_2_code 63 = .ok (.iconst 1, 1) := by decide +kernel
theorem d3_64 : decode method_2_code 64 = .ok (.goto 4, 3) := by decide +kernel
theorem d3_67 : decode method_2_code 67 = .ok (.iconst 0, 1) := by decide +kernel
theorem d3_68 : decode method_2_code 68 = .ok (.istore 6, 2) := by decide +kernel
theorem d3_70 : decode method_2_code 70 = .ok (.iload_n 3, 1) := by decide +kernel
theorem d3_71 : decode method_2_code 71 = .ok (.ifCond .ne 13, 3) := by decide +kernel
theorem d3_74 : decode method_2_code 74 = .ok (.iload 5, 2) := by decide +kernel
theorem d3_76 : decode method_2_code 76 = .ok (.ifCond .ne 8, 3) := by decide +kernel
theorem d3_79 : decode method_2_code 79 = .ok (.iload 6, 2) := by decide +kernel
theorem d3_81 : decode method_2_code 81 = .ok (.ifCond .eq 7, 3) := by decide +kernel
theorem d3_84 : decode method_2_code 84 = .ok (.iconst 1, 1) := by decide +kernel
theorem d3_85 : decode method_2_code 85 = .ok (.goto 4, 3) := by decide +kernel
theorem d3_88 : decode method_2_code 88 = .ok (.iconst 0, 1) := by decide +kernel
theorem d3_89 : decode method_2_code 89 = .ok (.ireturn, 1) := by decide +kernel
theorem ef3 (m : MethodId) (p0 : Int32) : entryFrame m #[(.int p0)] 7 = mkF m 0 #[iv p0, .unset, .unset, .unset, .unset, .unset, .unset] [] := by first | (simp [entryFrame, mkF, argsToLocals, Value.category]; done) | rfl
def f3 (p0 : Int32) : Int32 := (let w3_1 : Int32 := (if p0 < (128:Int32) then (if (p0 ||| (32:Int32)) < (97:Int32) then (0:Int32) else (if (122:Int32) < (p0 ||| (32:Int32)) then (0:Int32) else (1:Int32))) else (0:Int32)); let w3_2 : Int32 := (if (p0 - (48:Int32)) < (0:Int32) then (0:Int32) else (if (p0 - (48:Int32)) < (10:Int32) then (1:Int32) else (0:Int32))); let w3_3 : Int32 := (if p0 = (95:Int32) then (1:Int32) else (0:Int32)); let w3_4 : Int32 := (if w3_1 = (0:Int32) then (if w3_2 = (0:Int32) then (if w3_3 = (0:Int32) then (0:Int32) else (1:Int32)) else (1:Int32)) else (1:Int32)); (w3_4 &&& 1))
def Q3 (Z : State) (p0 : Int32)  (h0 : Heap) (n0 : Nat) (v : Option Value) (h : Heap) (L : List Loc) : Prop := v = some (.int (f3 p0)) ∧ Fr n0 L ∧ h = h0
set_option maxRecDepth 65536 in
set_option maxHeartbeats 40000000 in
theorem rm3 (l : Launch) (Z : State) (aZ : Array Value) (hw : ∀ d ∈ tables_1, d.before aZ Z = true) (ws : List Jvm.Cond) (p0 : Int32)  (h0 : Heap) (n0 : Nat) (Z0 : n0 ≤ h0.size)  :
    MetFree l (⟨"com/example/nestor/nestor/policy/NamesIsNamePartPinLaw", "expected", "(C)Z"⟩ : MethodName) (head1 (Jvm.Cond.code (⟨"com/example/nestor/nestor/policy/NamesIsNamePartPinLaw", "expected", "(C)Z"⟩ : MethodName) method_2_code 7 (some .boolean) :: ws) ({ frames := 0, cells := 0, slots := 0, locals := 0 } : Room)) (fun a U => a = #[(.int p0)] ∧ Z.Warmed39 U.vm ∧ U.heap = h0) (fun _ _ _ _ _ => True) (fun _ U o U' => ∃ v L, o = .returned v ∧ Q3 Z p0 h0 n0 v U'.heap L ∧ FrameEnd U o U' L ({ frames := 0, cells := 0, slots := 0, locals := 0 } : Room).cells ({ frames := 0, cells := 0, slots := 0, locals := 0 } : Room).slots) := by
  refine MetFree.of_bodySF (plainFor_of_name own_pn1) hisR ?_
  intro p e s m args below meth c s₁ Bd hml0 hP hK
  obtain ⟨rfl, hZ, hh⟩ := hP
  have hx := Bd.exec
  have hby := Bd.bytes
  have hml : c.maxLocals = 7 := hml0
  have hown : s.vm.findClass "com/example/nestor/nestor/policy/NamesIsNamePartPinLaw" = some m.cls := findClass_of_methodNamed Bd.named
  have hnm := (name_of_methodNamed Bd.named Bd.method).1
  have X0 : Stand p l e ({ frames := 0, cells := 0, slots := 0, locals := 0 } : Room) s m #[(.int p0)] below meth c s₁ [] 0 0 := Stand.of_body Bd
  have e0 : s₁.heap = h0 := by rw [← hh, Bd.state]; rfl
  have N0 := Fr.nil n0
  show own_Goes p e below s (Q3 Z p0 h0 n0) ({ frames := 0, cells := 0, slots := 0, locals := 0 } : Room).cells ({ frames := 0, cells := 0, slots := 0, locals := 0 } : Room).slots _
  refine own_pre (fun t k => castTop (ef3 m p0) k) ?_
  refine own_pre (A := s₁.setTop (mkF m 11 #[iv p0, iv p0, iv (p0 ||| (32:Int32)), .unset, .unset, .unset, .unset] [(.int (128:Int32)), (.int p0)])) (fun t k => ?_) ?_
  · show Steps p.tables e below (s₁.setTop (mkF m 0 #[iv p0, .unset, .unset, .unset, .unset, .unset, .unset] [])) _
    refine XS.iloadN X0.here hx rfl (hb hby d3_0) rfl ?_
    show Steps p.tables e below (s₁.setTop (mkF m 1 #[iv p0, .unset, .unset, .unset, .unset, .unset, .unset] [(.int p0)])) _
    refine XS.istoreN X0.here hx rfl (hb hby d3_1) rfl (l' := #[iv p0, iv p0, .unset, .unset, .unset, .unset, .unset]) rfl ?_
    show Steps p.tables e below (s₁.setTop (mkF m 2 #[iv p0, iv p0, .unset, .unset, .unset, .unset, .unset] [])) _
    refine XS.iloadN X0.here hx rfl (hb hby d3_2) rfl ?_
    show Steps p.tables e below (s₁.setTop (mkF m 3 #[iv p0, iv p0, .unset, .unset, .unset, .unset, .unset] [(.int p0)])) _
    refine XS.bipush X0.here hx rfl (hb hby d3_3) ?_
    show Steps p.tables e below (s₁.setTop (mkF m 5 #[iv p0, iv p0, .unset, .unset, .unset, .unset, .unset] [(.int (32:Int32)), (.int p0)])) _
    refine XS.ior X0.here hx rfl (hb hby d3_5) rfl ?_
    show Steps p.tables e below (s₁.setTop (mkF m 6 #[iv p0, iv p0, .unset, .unset, .unset, .unset, .unset] [(.int (p0 ||| (32:Int32)))])) _
    refine XS.istoreN X0.here hx rfl (hb hby d3_6) rfl (l' := #[iv p0, iv p0, iv (p0 ||| (32:Int32)), .unset, .unset, .unset, .unset]) rfl ?_
    show Steps p.tables e below (s₁.setTop (mkF m 7 #[iv p0, iv p0, iv (p0 ||| (32:Int32)), .unset, .unset, .unset, .unset] [])) _
    refine XS.iloadN X0.here hx rfl (hb hby d3_7) rfl ?_
    show Steps p.tables e below (s₁.setTop (mkF m 8 #[iv p0, iv p0, iv (p0 ||| (32:Int32)), .unset, .unset, .unset, .unset] [(.int p0)])) _
    refine XS.sipush X0.here hx rfl (hb hby d3_8) ?_
    exact k
  obtain ⟨w3_1, hw3_1⟩ : ∃ z : Int32, z = (if p0 < (128:Int32) then (if (p0 ||| (32:Int32)) < (97:Int32) then (0:Int32) else (if (122:Int32) < (p0 ||| (32:Int32)) then (0:Int32) else (1:Int32))) else (0:Int32)) := ⟨_, rfl⟩
  refine own_pre (A := s₁.setTop (mkF m 31 #[iv p0, iv p0, iv (p0 ||| (32:Int32)), .unset, .unset, .unset, .unset] [(.int w3_1)])) (fun t k => ?_) ?_
  · show Steps p.tables e below (s₁.setTop (mkF m 11 #[iv p0, iv p0, iv (p0 ||| (32:Int32)), .unset, .unset, .unset, .unset] [(.int (128:Int32)), (.int p0)])) _
    by_cases hm11_1 : p0 < (128:Int32)
    · refine XS.icmpNo X0.here hx rfl (hb hby d3_11) rfl (XT.ii_ge_f hm11_1) ?_
      show Steps p.tables e below (s₁.setTop (mkF m 14 #[iv p0, iv p0, iv (p0 ||| (32:Int32)), .unset, .unset, .unset, .unset] [])) _
      refine XS.iloadN X0.here hx rfl (hb hby d3_14) rfl ?_
      show Steps p.tables e below (s₁.setTop (mkF m 15 #[iv p0, iv p0, iv (p0 ||| (32:Int32)), .unset, .unset, .unset, .unset] [(.int (p0 ||| (32:Int32)))])) _
      refine XS.bipush X0.here hx rfl (hb hby d3_15) ?_
      show Steps p.tables e below (s₁.setTop (mkF m 17 #[iv p0, iv p0, iv (p0 ||| (32:Int32)), .unset, .unset, .unset, .unset] [(.int (97:Int32)), (.int (p0 ||| (32:Int32)))])) _
      by_cases hm17_2 : (p0 ||| (32:Int32)) < (97:Int32)
      · refine XS.icmpYes X0.here hx rfl (pc0 := 17) (pc' := 30) rfl (hb hby d3_17) rfl (XT.ii_lt_t hm17_2) (by decide) (by decide) ?_
        show Steps p.tables e below (s₁.setTop (mkF m 30 #[iv p0, iv p0, iv (p0 ||| (32:Int32)), .unset, .unset, .unset, .unset] [])) _
        refine XS.iconst X0.here hx rfl (hb hby d3_30) ?_
        rw [hw3_1.trans ((if_pos hm11_1).trans (if_pos hm17_2))] at k
        exact k
      · refine XS.icmpNo X0.here hx rfl (hb hby d3_17) rfl (XT.ii_lt_f hm17_2) ?_
        show Steps p.tables e below (s₁.setTop (mkF m 20 #[iv p0, iv p0, iv (p0 ||| (32:Int32)), .unset, .unset, .unset, .unset] [])) _
        refine XS.iloadN X0.here hx rfl (hb hby d3_20) rfl ?_
        show Steps p.tables e below (s₁.setTop (mkF m 21 #[iv p0, iv p0, iv (p0 ||| (32:Int32)), .unset, .unset, .unset, .unset] [(.int (p0 ||| (32:Int32)))])) _
        refine XS.bipush X0.here hx rfl (hb hby d3_21) ?_
        show Steps p.tables e below (s₁.setTop (mkF m 23 #[iv p0, iv p0, iv (p0 ||| (32:Int32)), .unset, .unset, .unset, .unset] [(.int (122:Int32)), (.int (p0 ||| (32:Int32)))])) _
        by_cases hm23_3 : (122:Int32) < (p0 ||| (32:Int32))
        · refine XS.icmpYes X0.here hx rfl (pc0 := 23) (pc' := 30) rfl (hb hby d3_23) rfl (XT.ii_gt_t hm23_3) (by decide) (by decide) ?_
          show Steps p.tables e below (s₁.setTop (mkF m 30 #[iv p0, iv p0, iv (p0 ||| (32:Int32)), .unset, .unset, .unset, .unset] [])) _
          refine XS.iconst X0.here hx rfl (hb hby d3_30) ?_
          rw [hw3_1.trans (((if_pos hm11_1).trans (if_neg hm17_2)).trans (if_pos hm23_3))] at k
          exact k
        · refine XS.icmpNo X0.here hx rfl (hb hby d3_23) rfl (XT.ii_gt_f hm23_3) ?_
          show Steps p.tables e below (s₁.setTop (mkF m 26 #[iv p0, iv p0, iv (p0 ||| (32:Int32)), .unset, .unset, .unset, .unset] [])) _
          refine XS.iconst X0.here hx rfl (hb hby d3_26) ?_
          show Steps p.tables e below (s₁.setTop (mkF m 27 #[iv p0, iv p0, iv (p0 ||| (32:Int32)), .unset, .unset, .unset, .unset] [(.int (1:Int32))])) _
          refine XS.goto X0.here hx rfl (pc0 := 27) (pc' := 31) rfl (hb hby d3_27) (by decide) (by decide) ?_
          rw [hw3_1.trans (((if_pos hm11_1).trans (if_neg hm17_2)).trans (if_neg hm23_3))] at k
          exact k
    · refine XS.icmpYes X0.here hx rfl (pc0 := 11) (pc' := 30) rfl (hb hby d3_11) rfl (XT.ii_ge_t hm11_1) (by decide) (by decide) ?_
      show Steps p.tables e below (s₁.setTop (mkF m 30 #[iv p0, iv p0, iv (p0 ||| (32:Int32)), .unset, .unset, .unset, .unset] [])) _
      refine XS.iconst X0.here hx rfl (hb hby d3_30) ?_
      rw [hw3_1.trans (if_neg hm11_1)] at k
      exact k
  refine own_pre (A := s₁.setTop (mkF m 40 #[iv p0, iv p0, iv (p0 ||| (32:Int32)), iv w3_1, iv (p0 - (48:Int32)), .unset, .unset] [(.int (p0 - (48:Int32)))])) (fun t k => ?_) ?_
  · show Steps p.tables e below (s₁.setTop (mkF m 31 #[iv p0, iv p0, iv (p0 ||| (32:Int32)), .unset, .unset, .unset, .unset] [(.int w3_1)])) _
    refine XS.istoreN X0.here hx rfl (hb hby d3_31) rfl (l' := #[iv p0, iv p0, iv (p0 ||| (32:Int32)), iv w3_1, .unset, .unset, .unset]) rfl ?_
    show Steps p.tables e below (s₁.setTop (mkF m 32 #[iv p0, iv p0, iv (p0 ||| (32:Int32)), iv w3_1, .unset, .unset, .unset] [])) _
    refine XS.iloadN X0.here hx rfl (hb hby d3_32) rfl ?_
    show Steps p.tables e below (s₁.setTop (mkF m 33 #[iv p0, iv p0, iv (p0 ||| (32:Int32)), iv w3_1, .unset, .unset, .unset] [(.int p0)])) _
    refine XS.bipush X0.here hx rfl (hb hby d3_33) ?_
    show Steps p.tables e below (s₁.setTop (mkF m 35 #[iv p0, iv p0, iv (p0 ||| (32:Int32)), iv w3_1, .unset, .unset, .unset] [(.int (48:Int32)), (.int p0)])) _
    refine XS.isub X0.here hx rfl (hb hby d3_35) rfl ?_
    show Steps p.tables e below (s₁.setTop (mkF m 36 #[iv p0, iv p0, iv (p0 ||| (32:Int32)), iv w3_1, .unset, .unset, .unset] [(.int (p0 - (48:Int32)))])) _
    refine XS.istore X0.here hx rfl (hb hby d3_36) rfl (l' := #[iv p0, iv p0, iv (p0 ||| (32:Int32)), iv w3_1, iv (p0 - (48:Int32)), .unset, .unset]) rfl ?_
    show Steps p.tables e below (s₁.setTop (mkF m 38 #[iv p0, iv p0, iv (p0 ||| (32:Int32)), iv w3_1, iv (p0 - (48:Int32)), .unset, .unset] [])) _
    refine XS.iload X0.here hx rfl (hb hby d3_38) rfl ?_
    exact k
  obtain ⟨w3_2, hw3_2⟩ : ∃ z : Int32, z = (if (p0 - (48:Int32)) < (0:Int32) then (0:Int32) else (if (p0 - (48:Int32)) < (10:Int32) then (1:Int32) else (0:Int32))) := ⟨_, rfl⟩
  refine own_pre (A := s₁.setTop (mkF m 55 #[iv p0, iv p0, iv (p0 ||| (32:Int32)), iv w3_1, iv (p0 - (48:Int32)), .unset, .unset] [(.int w3_2)])) (fun t k => ?_) ?_
  · show Steps p.tables e below (s₁.setTop (mkF m 40 #[iv p0, iv p0, iv (p0 ||| (32:Int32)), iv w3_1, iv (p0 - (48:Int32)), .unset, .unset] [(.int (p0 - (48:Int32)))])) _
    by_cases hm40_4 : (p0 - (48:Int32)) < (0:Int32)
    · refine XS.ifYes X0.here hx rfl (pc0 := 40) (pc' := 54) rfl (hb hby d3_40) rfl (XT.i0_lt_t hm40_4) (by decide) (by decide) ?_
      show Steps p.tables e below (s₁.setTop (mkF m 54 #[iv p0, iv p0, iv (p0 ||| (32:Int32)), iv w3_1, iv (p0 - (48:Int32)), .unset, .unset] [])) _
      refine XS.iconst X0.here hx rfl (hb hby d3_54) ?_
      rw [hw3_2.trans (if_pos hm40_4)] at k
      exact k
    · refine XS.ifNo X0.here hx rfl (hb hby d3_40) rfl (XT.i0_lt_f hm40_4) ?_
      show Steps p.tables e below (s₁.setTop (mkF m 43 #[iv p0, iv p0, iv (p0 ||| (32:Int32)), iv w3_1, iv (p0 - (48:Int32)), .unset, .unset] [])) _
      refine XS.iload X0.here hx rfl (hb hby d3_43) rfl ?_
      show Steps p.tables e below (s₁.setTop (mkF m 45 #[iv p0, iv p0, iv (p0 ||| (32:Int32)), iv w3_1, iv (p0 - (48:Int32)), .unset, .unset] [(.int (p0 - (48:Int32)))])) _
      refine XS.bipush X0.here hx rfl (hb hby d3_45) ?_
      show Steps p.tables e below (s₁.setTop (mkF m 47 #[iv p0, iv p0, iv (p0 ||| (32:Int32)), iv w3_1, iv (p0 - (48:Int32)), .unset, .unset] [(.int (10:Int32)), (.int (p0 - (48:Int32)))])) _
      by_cases hm47_5 : (p0 - (48:Int32)) < (10:Int32)
      · refine XS.icmpNo X0.here hx rfl (hb hby d3_47) rfl (XT.ii_ge_f hm47_5) ?_
        show Steps p.tables e below (s₁.setTop (mkF m 50 #[iv p0, iv p0, iv (p0 ||| (32:Int32)), iv w3_1, iv (p0 - (48:Int32)), .unset, .unset] [])) _
        refine XS.iconst X0.here hx rfl (hb hby d3_50) ?_
        show Steps p.tables e below (s₁.setTop (mkF m 51 #[iv p0, iv p0, iv (p0 ||| (32:Int32)), iv w3_1, iv (p0 - (48:Int32)), .unset, .unset] [(.int (1:Int32))])) _
        refine XS.goto X0.here hx rfl (pc0 := 51) (pc' := 55) rfl (hb hby d3_51) (by decide) (by decide) ?_
        rw [hw3_2.trans ((if_neg hm40_4).trans (if_pos hm47_5))] at k
        exact k
      · refine XS.icmpYes X0.here hx rfl (pc0 := 47) (pc' := 54) rfl (hb hby d3_47) rfl (XT.ii_ge_t hm47_5) (by decide) (by decide) ?_
        show Steps p.tables e below (s₁.setTop (mkF m 54 #[iv p0, iv p0, iv (p0 ||| (32:Int32)), iv w3_1, iv (p0 - (48:Int32)), .unset, .unset] [])) _
        refine XS.iconst X0.here hx rfl (hb hby d3_54) ?_
        rw [hw3_2.trans ((if_neg hm40_4).trans (if_neg hm47_5))] at k
        exact k
  refine own_pre (A := s₁.setTop (mkF m 60 #[iv p0, iv p0, iv (p0 ||| (32:Int32)), iv w3_1, iv (p0 - (48:Int32)), iv w3_2, .unset] [(.int (95:Int32)), (.int p0)])) (fun t k => ?_) ?_
  · show Steps p.tables e below (s₁.setTop (mkF m 55 #[iv p0, iv p0, iv (p0 ||| (32:Int32)), iv w3_1, iv (p0 - (48:Int32)), .unset, .unset] [(.int w3_2)])) _
    refine XS.istore X0.here hx rfl (hb hby d3_55) rfl (l' := #[iv p0, iv p0, iv (p0 ||| (32:Int32)), iv w3_1, iv (p0 - (48:Int32)), iv w3_2, .unset]) rfl ?_
    show Steps p.tables e below (s₁.setTop (mkF m 57 #[iv p0, iv p0, iv (p0 ||| (32:Int32)), iv w3_1, iv (p0 - (48:Int32)), iv w3_2, .unset] [])) _
    refine XS.iloadN X0.here hx rfl (hb hby d3_57) rfl ?_
    show Steps p.tables e below (s₁.setTop (mkF m 58 #[iv p0, iv p0, iv (p0 ||| (32:Int32)), iv w3_1, iv (p0 - (48:Int32)), iv w3_2, .unset] [(.int p0)])) _
    refine XS.bipush X0.here hx rfl (hb hby d3_58) ?_
    exact k
  obtain ⟨w3_3, hw3_3⟩ : ∃ z : Int32, z = (if p0 = (95:Int32) then (1:Int32) else (0:Int32)) := ⟨_, rfl⟩
  refine own_pre (A := s₁.setTop (mkF m 68 #[iv p0, iv p0, iv (p0 ||| (32:Int32)), iv w3_1, iv (p0 - (48:Int32)), iv w3_2, .unset] [(.int w3_3)])) (fun t k => ?_) ?_
  · show Steps p.tables e below (s₁.setTop (mkF m 60 #[iv p0, iv p0, iv (p0 ||| (32:Int32)), iv w3_1, iv (p0 - (48:Int32)), iv w3_2, .unset] [(.int (95:Int32)), (.int p0)])) _
    by_cases hm60_6 : p0 = (95:Int32)
    · refine XS.icmpNo X0.here hx rfl (hb hby d3_60) rfl (XT.ii_ne_f hm60_6) ?_
      show Steps p.tables e below (s₁.setTop (mkF m 63 #[iv p0, iv p0, iv (p0 ||| (32:Int32)), iv w3_1, iv (p0 - (48:Int32)), iv w3_2, .unset] [])) _
      refine XS.iconst X0.here hx rfl (hb hby d3_63) ?_
      show Steps p.tables e below (s₁.setTop (mkF m 64 #[iv p0, iv p0, iv (p0 ||| (32:Int32)), iv w3_1, iv (p0 - (48:Int32)), iv w3_2, .unset] [(.int (1:Int32))])) _
      refine XS.goto X0.here hx rfl (pc0 := 64) (pc' := 68) rfl (hb hby d3_64) (by decide) (by decide) ?_
      rw [hw3_3.trans (if_pos hm60_6)] at k
      exact k
    · refine XS.icmpYes X0.here hx rfl (pc0 := 60) (pc' := 67) rfl (hb hby d3_60) rfl (XT.ii_ne_t hm60_6) (by decide) (by decide) ?_
      show Steps p.tables e below (s₁.setTop (mkF m 67 #[iv p0, iv p0, iv (p0 ||| (32:Int32)), iv w3_1, iv (p0 - (48:Int32)), iv w3_2, .unset] [])) _
      refine XS.iconst X0.here hx rfl (hb hby d3_67) ?_
      rw [hw3_3.trans (if_neg hm60_6)] at k
      exact k
  refine own_pre (A := s₁.setTop (mkF m 71 #[iv p0, iv p0, iv (p0 ||| (32:Int32)), iv w3_1, iv (p0 - (48:Int32)), iv w3_2, iv w3_3] [(.int w3_1)])) (fun t k => ?_) ?_
  · show Steps p.tables e below (s₁.setTop (mkF m 68 #[iv p0, iv p0, iv (p0 ||| (32:Int32)), iv w3_1, iv (p0 - (48:Int32)), iv w3_2, .unset] [(.int w3_3)])) _
    refine XS.istore X0.here hx rfl (hb hby d3_68) rfl (l' := #[iv p0, iv p0, iv (p0 ||| (32:Int32)), iv w3_1, iv (p0 - (48:Int32)), iv w3_2, iv w3_3]) rfl ?_
    show Steps p.tables e below (s₁.setTop (mkF m 70 #[iv p0, iv p0, iv (p0 ||| (32:Int32)), iv w3_1, iv (p0 - (48:Int32)), iv w3_2, iv w3_3] [])) _
    refine XS.iloadN X0.here hx rfl (hb hby d3_70) rfl ?_
    exact k
  obtain ⟨w3_4, hw3_4⟩ : ∃ z : Int32, z = (if w3_1 = (0:Int32) then (if w3_2 = (0:Int32) then (if w3_3 = (0:Int32) then (0:Int32) else (1:Int32)) else (1:Int32)) else (1:Int32)) := ⟨_, rfl⟩
  refine own_pre (A := s₁.setTop (mkF m 89 #[iv p0, iv p0, iv (p0 ||| (32:Int32)), iv w3_1, iv (p0 - (48:Int32)), iv w3_2, iv w3_3] [(.int w3_4)])) (fun t k => ?_) ?_
  · show Steps p.tables e below (s₁.setTop (mkF m 71 #[iv p0, iv p0, iv (p0 ||| (32:Int32)), iv w3_1, iv (p0 - (48:Int32)), iv w3_2, iv w3_3] [(.int w3_1)])) _
    by_cases hm71_7 : w3_1 = (0:Int32)
    · refine XS.ifNo X0.here hx rfl (hb hby d3_71) rfl (XT.i0_ne_f hm71_7) ?_
      show Steps p.tables e below (s₁.setTop (mkF m 74 #[iv p0, iv p0, iv (p0 ||| (32:Int32)), iv w3_1, iv (p0 - (48:Int32)), iv w3_2, iv w3_3] [])) _
      refine XS.iload X0.here hx rfl (hb hby d3_74) rfl ?_
      show Steps p.tables e below (s₁.setTop (mkF m 76 #[iv p0, iv p0, iv (p0 ||| (32:Int32)), iv w3_1, iv (p0 - (48:Int32)), iv w3_2, iv w3_3] [(.int w3_2)])) _
      by_cases hm76_8 : w3_2 = (0:Int32)
      · refine XS.ifNo X0.here hx rfl (hb hby d3_76) rfl (XT.i0_ne_f hm76_8) ?_
        show Steps p.tables e below (s₁.setTop (mkF m 79 #[iv p0, iv p0, iv (p0 ||| (32:Int32)), iv w3_1, iv (p0 - (48:Int32)), iv w3_2, iv w3_3] [])) _
        refine XS.iload X0.here hx rfl (hb hby d3_79) rfl ?_
        show Steps p.tables e below (s₁.setTop (mkF m 81 #[iv p0, iv p0, iv (p0 ||| (32:Int32)), iv w3_1, iv (p0 - (48:Int32)), iv w3_2, iv w3_3] [(.int w3_3)])) _
        by_cases hm81_9 : w3_3 = (0:Int32)
        · refine XS.ifYes X0.here hx rfl (pc0 := 81) (pc' := 88) rfl (hb hby d3_81) rfl (XT.i0_eq_t hm81_9) (by decide) (by decide) ?_
          show Steps p.tables e below (s₁.setTop (mkF m 88 #[iv p0, iv p0, iv (p0 ||| (32:Int32)), iv w3_1, iv (p0 - (48:Int32)), iv w3_2, iv w3_3] [])) _
          refine XS.iconst X0.here hx rfl (hb hby d3_88) ?_
          rw [hw3_4.trans (((if_pos hm71_7).trans (if_pos hm76_8)).trans (if_pos hm81_9))] at k
          exact k
        · refine XS.ifNo X0.here hx rfl (hb hby d3_81) rfl (XT.i0_eq_f hm81_9) ?_
          show Steps p.tables e below (s₁.setTop (mkF m 84 #[iv p0, iv p0, iv (p0 ||| (32:Int32)), iv w3_1, iv (p0 - (48:Int32)), iv w3_2, iv w3_3] [])) _
          refine XS.iconst X0.here hx rfl (hb hby d3_84) ?_
          show Steps p.tables e below (s₁.setTop (mkF m 85 #[iv p0, iv p0, iv (p0 ||| (32:Int32)), iv w3_1, iv (p0 - (48:Int32)), iv w3_2, iv w3_3] [(.int (1:Int32))])) _
          refine XS.goto X0.here hx rfl (pc0 := 85) (pc' := 89) rfl (hb hby d3_85) (by decide) (by decide) ?_
          rw [hw3_4.trans (((if_pos hm71_7).trans (if_pos hm76_8)).trans (if_neg hm81_9))] at k
          exact k
      · refine XS.ifYes X0.here hx rfl (pc0 := 76) (pc' := 84) rfl (hb hby d3_76) rfl (XT.i0_ne_t hm76_8) (by decide) (by decide) ?_
        show Steps p.tables e below (s₁.setTop (mkF m 84 #[iv p0, iv p0, iv (p0 ||| (32:Int32)), iv w3_1, iv (p0 - (48:Int32)), iv w3_2, iv w3_3] [])) _
        refine XS.iconst X0.here hx rfl (hb hby d3_84) ?_
        show Steps p.tables e below (s₁.setTop (mkF m 85 #[iv p0, iv p0, iv (p0 ||| (32:Int32)), iv w3_1, iv (p0 - (48:Int32)), iv w3_2, iv w3_3] [(.int (1:Int32))])) _
        refine XS.goto X0.here hx rfl (pc0 := 85) (pc' := 89) rfl (hb hby d3_85) (by decide) (by decide) ?_
        rw [hw3_4.trans ((if_pos hm71_7).trans (if_neg hm76_8))] at k
        exact k
    · refine XS.ifYes X0.here hx rfl (pc0 := 71) (pc' := 84) rfl (hb hby d3_71) rfl (XT.i0_ne_t hm71_7) (by decide) (by decide) ?_
      show Steps p.tables e below (s₁.setTop (mkF m 84 #[iv p0, iv p0, iv (p0 ||| (32:Int32)), iv w3_1, iv (p0 - (48:Int32)), iv w3_2, iv w3_3] [])) _
      refine XS.iconst X0.here hx rfl (hb hby d3_84) ?_
      show Steps p.tables e below (s₁.setTop (mkF m 85 #[iv p0, iv p0, iv (p0 ||| (32:Int32)), iv w3_1, iv (p0 - (48:Int32)), iv w3_2, iv w3_3] [(.int (1:Int32))])) _
      refine XS.goto X0.here hx rfl (pc0 := 85) (pc' := 89) rfl (hb hby d3_85) (by decide) (by decide) ?_
      rw [hw3_4.trans (if_neg hm71_7)] at k
      exact k
  have hv4 : (w3_4 &&& 1) = f3 p0 := by subst hw3_1 hw3_2 hw3_3 hw3_4; rfl
  exact own_end X0 (BodyLoose.notSynchronized Bd) (fun h => by rw [Bd.returns] at h; cases h) (v := some (.int (w3_4 &&& 1))) (fun fs hr => retN X0 hx (t := .boolean) Bd.returns (by simp) (hb hby d3_89) hr) (by show Q3 Z p0 h0 n0 _ s₁.heap _; rw [e0]; exact ⟨(congrArg (fun z => some (Value.int z)) hv4), N0, rfl⟩) (by decide) (by decide)
theorem ef0 (m : MethodId) (p0 : Int32) (p1 : Int32) : entryFrame m #[(.int p0), (.int p1)] maxLocals = mkF m 0 #[iv p0, iv p1, .unset, .unset, .unset] [] := by first | (simp [entryFrame, mkF, argsToLocals, Value.category, maxLocals]; done) | rfl
def f0 (p0 : Int32) (p1 : Int32) : Int32 := (let w0_1 : Int32 := (if (p1 &&& (1:Int32)) = (0:Int32) then (p0.toUInt32.toUInt16.toUInt32.toInt32) else ((p0 &&& (127:Int32)).toUInt32.toUInt16.toUInt32.toInt32)); let w0_2 : Int32 := (if (f1 w0_1) = (f3 w0_1) then (if (f2 w0_1) = (0:Int32) then (1:Int32) else (if (f1 w0_1) = (0:Int32) then (0:Int32) else (1:Int32))) else (0:Int32)); (w0_2 &&& 1))
def Q0 (Z : State) (p0 : Int32) (p1 : Int32)  (h0 : Heap) (n0 : Nat) (v : Option Value) (h : Heap) (L : List Loc) : Prop := v = some (.int (f0 p0 p1)) ∧ Fr n0 L
set_option maxRecDepth 65536 in
set_option maxHeartbeats 40000000 in
theorem rm0 (l : Launch) (Z : State) (aZ : Array Value) (hw : ∀ d ∈ tables_1, d.before aZ Z = true) (ws : List Jvm.Cond) (p0 : Int32) (p1 : Int32)  (h0 : Heap) (n0 : Nat) (Z0 : n0 ≤ h0.size)  :
    MetFree l x (head1 (Jvm.Cond.code x code maxLocals ret :: ws) room_1) (fun a U => a = #[(.int p0), (.int p1)] ∧ Z.Warmed39 U.vm ∧ U.heap = h0) (fun _ _ _ _ _ => True) (fun _ U o U' => ∃ v L, o = .returned v ∧ Q0 Z p0 p1 h0 n0 v U'.heap L ∧ FrameEnd U o U' L 0 0) := by
  refine MetFree.of_bodySF (plainFor_of_name own_pn1) hisR ?_
  intro p e s m args below meth c s₁ Bd hml0 hP hK
  obtain ⟨rfl, hZ, hh⟩ := hP
  have hx := Bd.exec
  have hby := Bd.bytes
  have hml : c.maxLocals = 5 := hml0
  have hown : s.vm.findClass "com/example/nestor/nestor/policy/NamesIsNamePartPinLaw" = some m.cls := findClass_of_methodNamed Bd.named
  have hnm := (name_of_methodNamed Bd.named Bd.method).1
  have X0 : Stand p l e room_1 s m #[(.int p0), (.int p1)] below meth c s₁ [] 0 0 := Stand.of_body Bd
  have e0 : s₁.heap = h0 := by rw [← hh, Bd.state]; rfl
  have N0 := Fr.nil n0
  show own_Goes p e below s (Q0 Z p0 p1 h0 n0) 0 0 _
  refine own_pre (fun t k => castTop (ef0 m p0 p1) k) ?_
  refine own_pre (A := s₁.setTop (mkF m 3 #[iv p0, iv p1, .unset, .unset, .unset] [(.int (p1 &&& (1:Int32)))])) (fun t k => ?_) ?_
  · show Steps p.tables e below (s₁.setTop (mkF m 0 #[iv p0, iv p1, .unset, .unset, .unset] [])) _
    refine XS.iloadN X0.here hx rfl (hb hby at_0) rfl ?_
    show Steps p.tables e below (s₁.setTop (mkF m 1 #[iv p0, iv p1, .unset, .unset, .unset] [(.int p1)])) _
    refine XS.iconst X0.here hx rfl (hb hby at_1) ?_
    show Steps p.tables e below (s₁.setTop (mkF m 2 #[iv p0, iv p1, .unset, .unset, .unset] [(.int (1:Int32)), (.int p1)])) _
    refine XS.iand X0.here hx rfl (hb hby at_2) rfl ?_
    exact k
  obtain ⟨w0_1, hw0_1⟩ : ∃ z : Int32, z = (if (p1 &&& (1:Int32)) = (0:Int32) then (p0.toUInt32.toUInt16.toUInt32.toInt32) else ((p0 &&& (127:Int32)).toUInt32.toUInt16.toUInt32.toInt32)) := ⟨_, rfl⟩
  refine own_pre (A := s₁.setTop (mkF m 18 #[iv p0, iv p1, iv w0_1, .unset, .unset] [])) (fun t k => ?_) ?_
  · show Steps p.tables e below (s₁.setTop (mkF m 3 #[iv p0, iv p1, .unset, .unset, .unset] [(.int (p1 &&& (1:Int32)))])) _
    by_cases hm3_1 : (p1 &&& (1:Int32)) = (0:Int32)
    · refine XS.ifYes X0.here hx rfl (pc0 := 3) (pc' := 15) rfl (hb hby at_3) rfl (XT.i0_eq_t hm3_1) (by decide) (by decide) ?_
      show Steps p.tables e below (s₁.setTop (mkF m 15 #[iv p0, iv p1, .unset, .unset, .unset] [])) _
      refine XS.iloadN X0.here hx rfl (hb hby at_15) rfl ?_
      show Steps p.tables e below (s₁.setTop (mkF m 16 #[iv p0, iv p1, .unset, .unset, .unset] [(.int p0)])) _
      refine XS.i2c X0.here hx rfl (hb hby at_16) rfl ?_
      show Steps p.tables e below (s₁.setTop (mkF m 17 #[iv p0, iv p1, .unset, .unset, .unset] [(.int (p0.toUInt32.toUInt16.toUInt32.toInt32))])) _
      refine XS.istoreN X0.here hx rfl (hb hby at_17) rfl (l' := #[iv p0, iv p1, iv (p0.toUInt32.toUInt16.toUInt32.toInt32), .unset, .unset]) rfl ?_
      rw [hw0_1.trans (if_pos hm3_1)] at k
      exact k
    · refine XS.ifNo X0.here hx rfl (hb hby at_3) rfl (XT.i0_eq_f hm3_1) ?_
      show Steps p.tables e below (s₁.setTop (mkF m 6 #[iv p0, iv p1, .unset, .unset, .unset] [])) _
      refine XS.iloadN X0.here hx rfl (hb hby at_6) rfl ?_
      show Steps p.tables e below (s₁.setTop (mkF m 7 #[iv p0, iv p1, .unset, .unset, .unset] [(.int p0)])) _
      refine XS.bipush X0.here hx rfl (hb hby at_7) ?_
      show Steps p.tables e below (s₁.setTop (mkF m 9 #[iv p0, iv p1, .unset, .unset, .unset] [(.int (127:Int32)), (.int p0)])) _
      refine XS.iand X0.here hx rfl (hb hby at_9) rfl ?_
      show Steps p.tables e below (s₁.setTop (mkF m 10 #[iv p0, iv p1, .unset, .unset, .unset] [(.int (p0 &&& (127:Int32)))])) _
      refine XS.i2c X0.here hx rfl (hb hby at_10) rfl ?_
      show Steps p.tables e below (s₁.setTop (mkF m 11 #[iv p0, iv p1, .unset, .unset, .unset] [(.int ((p0 &&& (127:Int32)).toUInt32.toUInt16.toUInt32.toInt32))])) _
      refine XS.istoreN X0.here hx rfl (hb hby at_11) rfl (l' := #[iv p0, iv p1, iv ((p0 &&& (127:Int32)).toUInt32.toUInt16.toUInt32.toInt32), .unset, .unset]) rfl ?_
      show Steps p.tables e below (s₁.setTop (mkF m 12 #[iv p0, iv p1, iv ((p0 &&& (127:Int32)).toUInt32.toUInt16.toUInt32.toInt32), .unset, .unset] [])) _
      refine XS.goto X0.here hx rfl (pc0 := 12) (pc' := 18) rfl (hb hby at_12) (by decide) (by decide) ?_
      rw [hw0_1.trans (if_neg hm3_1)] at k
      exact k
  refine own_pre (A := s₁.setTop (mkF m 19 #[iv p0, iv p1, iv w0_1, .unset, .unset] [(.int w0_1)])) (fun t k => ?_) ?_
  · show Steps p.tables e below (s₁.setTop (mkF m 18 #[iv p0, iv p1, iv w0_1, .unset, .unset] [])) _
    refine XS.iloadN X0.here hx rfl (hb hby at_18) rfl ?_
    exact k
  obtain ⟨_, _, ⟨T5, L5, k5, n5⟩, -, X5, ⟨Lc5, hQ5, l5, y5, z5⟩, st5⟩ := Jvm.LawKit.callS X0 hx (y := (⟨"com/example/nestor/nestor/policy/Names", "isNamePart", "(C)Z"⟩ : MethodName)) hown (mvT hZ (own_h hw 0 rfl)) (mvT hZ (own_h hw 1 rfl)) (mvT hZ (own_h hw 2 rfl)) (mvT hZ (own_h hw 3 rfl)) (by decide) (backOf (W := 0) (rm1 l Z aZ hw [] w0_1 h0 n0 Z0 ) hZ (own_h hw 3 rfl) (own_h hw 2 rfl) (by decide) (by decide)) (g := (mkF m 19 #[iv p0, iv p1, iv w0_1, .unset, .unset] [(.int w0_1)])) rfl (by rw [hml]; rfl) (argsL := [(.int w0_1)]) (rest := []) (lenOf own_pd0 rfl) rfl (by show 2 * 0 + _ ≤ _; exact Nat.le_of_eq rfl) (hb hby at_19) (fun _ _ => ⟨rfl, e0, (by decide : 0 + 0 ≤ _), (by decide : 0 + 0 ≤ _)⟩)
  dsimp only [Pt.U, Pt.locs, Pt.cells, Pt.slots] at X5 l5 y5 z5 st5 hQ5
  subst l5 y5 z5
  obtain ⟨rfl, N5q, eh5⟩ := hQ5
  have N5 := Fr.app N0 N5q
  refine own_pre st5 ?_
  refine own_pre (A := T5.setTop (mkF m 24 #[iv p0, iv p1, iv w0_1, iv (f1 w0_1), .unset] [(.int w0_1)])) (fun t k => ?_) ?_
  · show Steps p.tables e below (T5.setTop (mkF m 22 #[iv p0, iv p1, iv w0_1, .unset, .unset] [(.int (f1 w0_1))])) _
    refine XS.istoreN X5.here hx rfl (hb hby at_22) rfl (l' := #[iv p0, iv p1, iv w0_1, iv (f1 w0_1), .unset]) rfl ?_
    show Steps p.tables e below (T5.setTop (mkF m 23 #[iv p0, iv p1, iv w0_1, iv (f1 w0_1), .unset] [])) _
    refine XS.iloadN X5.here hx rfl (hb hby at_23) rfl ?_
    exact k
  obtain ⟨_, _, ⟨T6, L6, k6, n6⟩, -, X6, ⟨Lc6, hQ6, l6, y6, z6⟩, st6⟩ := Jvm.LawKit.callS X5 hx (y := (⟨"com/example/nestor/nestor/policy/Names", "isNameStart", "(C)Z"⟩ : MethodName)) hown (mvT hZ (own_h hw 7 rfl)) (mvT hZ (own_h hw 5 rfl)) (mvT hZ (own_h hw 2 rfl)) (mvT hZ (own_h hw 6 rfl)) (by decide) (backOf (W := 0) (rm2 l Z aZ hw [] w0_1 h0 n0 Z0 ) hZ (own_h hw 6 rfl) (own_h hw 2 rfl) (by decide) (by decide)) (g := (mkF m 24 #[iv p0, iv p1, iv w0_1, iv (f1 w0_1), .unset] [(.int w0_1)])) rfl (by rw [hml]; rfl) (argsL := [(.int w0_1)]) (rest := []) (lenOf own_pd0 rfl) rfl (by show 2 * 0 + _ ≤ _; exact Nat.le_of_eq rfl) (hb hby at_24) (fun _ _ => ⟨rfl, eh5, (by decide : 0 + 0 ≤ _), (by decide : 0 + 0 ≤ _)⟩)
  dsimp only [Pt.U, Pt.locs, Pt.cells, Pt.slots] at X6 l6 y6 z6 st6 hQ6
  subst l6 y6 z6
  obtain ⟨rfl, N6q, eh6⟩ := hQ6
  have N6 := Fr.app N5 N6q
  refine own_pre st6 ?_
  refine own_pre (A := T6.setTop (mkF m 31 #[iv p0, iv p1, iv w0_1, iv (f1 w0_1), iv (f2 w0_1)] [(.int w0_1), (.int (f1 w0_1))])) (fun t k => ?_) ?_
  · show Steps p.tables e below (T6.setTop (mkF m 27 #[iv p0, iv p1, iv w0_1, iv (f1 w0_1), .unset] [(.int (f2 w0_1))])) _
    refine XS.istore X6.here hx rfl (hb hby at_27) rfl (l' := #[iv p0, iv p1, iv w0_1, iv (f1 w0_1), iv (f2 w0_1)]) rfl ?_
    show Steps p.tables e below (T6.setTop (mkF m 29 #[iv p0, iv p1, iv w0_1, iv (f1 w0_1), iv (f2 w0_1)] [])) _
    refine XS.iloadN X6.here hx rfl (hb hby at_29) rfl ?_
    show Steps p.tables e below (T6.setTop (mkF m 30 #[iv p0, iv p1, iv w0_1, iv (f1 w0_1), iv (f2 w0_1)] [(.int (f1 w0_1))])) _
    refine XS.iloadN X6.here hx rfl (hb hby at_30) rfl ?_
    exact k
  obtain ⟨_, _, ⟨T7, L7, k7, n7⟩, -, X7, ⟨Lc7, hQ7, l7, y7, z7⟩, st7⟩ := Jvm.LawKit.callS X6 hx (y := (⟨"com/example/nestor/nestor/policy/NamesIsNamePartPinLaw", "expected", "(C)Z"⟩ : MethodName)) hown (mvT hZ (own_h hw 8 rfl)) (mvT hZ (own_h hw 9 rfl)) (mvT hZ (own_h hw 10 rfl)) (mvT hZ (own_h hw 11 rfl)) (by decide) (backOf (W := 1) (rm3 l Z aZ hw [] w0_1 h0 n0 Z0 ) hZ (own_h hw 11 rfl) (own_h hw 10 rfl) (by decide) (by decide)) (g := (mkF m 31 #[iv p0, iv p1, iv w0_1, iv (f1 w0_1), iv (f2 w0_1)] [(.int w0_1), (.int (f1 w0_1))])) rfl (by rw [hml]; rfl) (argsL := [(.int w0_1)]) (rest := [(.int (f1 w0_1))]) (lenOf own_pd0 rfl) rfl (by show 2 * 0 + _ ≤ _; exact Nat.le_of_eq rfl) (hb hby at_31) (fun _ _ => ⟨rfl, eh6, (by decide : 0 + 0 ≤ _), (by decide : 0 + 0 ≤ _)⟩)
  dsimp only [Pt.U, Pt.locs, Pt.cells, Pt.slots] at X7 l7 y7 z7 st7 hQ7
  subst l7 y7 z7
  obtain ⟨rfl, N7q, eh7⟩ := hQ7
  have N7 := Fr.app N6 N7q
  refine own_pre st7 ?_
  obtain ⟨w0_2, hw0_2⟩ : ∃ z : Int32, z = (if (f1 w0_1) = (f3 w0_1) then (if (f2 w0_1) = (0:Int32) then (1:Int32) else (if (f1 w0_1) = (0:Int32) then (0:Int32) else (1:Int32))) else (0:Int32)) := ⟨_, rfl⟩
  refine own_pre (A := T7.setTop (mkF m 51 #[iv p0, iv p1, iv w0_1, iv (f1 w0_1), iv (f2 w0_1)] [(.int w0_2)])) (fun t k => ?_) ?_
  · show Steps p.tables e below (T7.setTop (mkF m 34 #[iv p0, iv p1, iv w0_1, iv (f1 w0_1), iv (f2 w0_1)] [(.int (f3 w0_1)), (.int (f1 w0_1))])) _
    by_cases hm34_2 : (f1 w0_1) = (f3 w0_1)
    · refine XS.icmpNo X7.here hx rfl (hb hby at_34) rfl (XT.ii_ne_f hm34_2) ?_
      show Steps p.tables e below (T7.setTop (mkF m 37 #[iv p0, iv p1, iv w0_1, iv (f1 w0_1), iv (f2 w0_1)] [])) _
      refine XS.iload X7.here hx rfl (hb hby at_37) rfl ?_
      show Steps p.tables e below (T7.setTop (mkF m 39 #[iv p0, iv p1, iv w0_1, iv (f1 w0_1), iv (f2 w0_1)] [(.int (f2 w0_1))])) _
      by_cases hm39_3 : (f2 w0_1) = (0:Int32)
      · refine XS.ifYes X7.here hx rfl (pc0 := 39) (pc' := 46) rfl (hb hby at_39) rfl (XT.i0_eq_t hm39_3) (by decide) (by decide) ?_
        show Steps p.tables e below (T7.setTop (mkF m 46 #[iv p0, iv p1, iv w0_1, iv (f1 w0_1), iv (f2 w0_1)] [])) _
        refine XS.iconst X7.here hx rfl (hb hby at_46) ?_
        show Steps p.tables e below (T7.setTop (mkF m 47 #[iv p0, iv p1, iv w0_1, iv (f1 w0_1), iv (f2 w0_1)] [(.int (1:Int32))])) _
        refine XS.goto X7.here hx rfl (pc0 := 47) (pc' := 51) rfl (hb hby at_47) (by decide) (by decide) ?_
        rw [hw0_2.trans ((if_pos hm34_2).trans (if_pos hm39_3))] at k
        exact k
      · refine XS.ifNo X7.here hx rfl (hb hby at_39) rfl (XT.i0_eq_f hm39_3) ?_
        show Steps p.tables e below (T7.setTop (mkF m 42 #[iv p0, iv p1, iv w0_1, iv (f1 w0_1), iv (f2 w0_1)] [])) _
        refine XS.iloadN X7.here hx rfl (hb hby at_42) rfl ?_
        show Steps p.tables e below (T7.setTop (mkF m 43 #[iv p0, iv p1, iv w0_1, iv (f1 w0_1), iv (f2 w0_1)] [(.int (f1 w0_1))])) _
        by_cases hm43_4 : (f1 w0_1) = (0:Int32)
        · refine XS.ifYes X7.here hx rfl (pc0 := 43) (pc' := 50) rfl (hb hby at_43) rfl (XT.i0_eq_t hm43_4) (by decide) (by decide) ?_
          show Steps p.tables e below (T7.setTop (mkF m 50 #[iv p0, iv p1, iv w0_1, iv (f1 w0_1), iv (f2 w0_1)] [])) _
          refine XS.iconst X7.here hx rfl (hb hby at_50) ?_
          rw [hw0_2.trans (((if_pos hm34_2).trans (if_neg hm39_3)).trans (if_pos hm43_4))] at k
          exact k
        · refine XS.ifNo X7.here hx rfl (hb hby at_43) rfl (XT.i0_eq_f hm43_4) ?_
          show Steps p.tables e below (T7.setTop (mkF m 46 #[iv p0, iv p1, iv w0_1, iv (f1 w0_1), iv (f2 w0_1)] [])) _
          refine XS.iconst X7.here hx rfl (hb hby at_46) ?_
          show Steps p.tables e below (T7.setTop (mkF m 47 #[iv p0, iv p1, iv w0_1, iv (f1 w0_1), iv (f2 w0_1)] [(.int (1:Int32))])) _
          refine XS.goto X7.here hx rfl (pc0 := 47) (pc' := 51) rfl (hb hby at_47) (by decide) (by decide) ?_
          rw [hw0_2.trans (((if_pos hm34_2).trans (if_neg hm39_3)).trans (if_neg hm43_4))] at k
          exact k
    · refine XS.icmpYes X7.here hx rfl (pc0 := 34) (pc' := 50) rfl (hb hby at_34) rfl (XT.ii_ne_t hm34_2) (by decide) (by decide) ?_
      show Steps p.tables e below (T7.setTop (mkF m 50 #[iv p0, iv p1, iv w0_1, iv (f1 w0_1), iv (f2 w0_1)] [])) _
      refine XS.iconst X7.here hx rfl (hb hby at_50) ?_
      rw [hw0_2.trans (if_neg hm34_2)] at k
      exact k
  have hv8 : (w0_2 &&& 1) = f0 p0 p1 := by subst hw0_1 hw0_2; rfl
  exact own_end X7 (BodyLoose.notSynchronized Bd) (fun h => by rw [Bd.returns] at h; cases h) (v := some (.int (w0_2 &&& 1))) (fun fs hr => retN X7 hx (t := .boolean) Bd.returns (by simp) (hb hby at_51) hr) (by show Q0 Z p0 p1 h0 n0 _ T7.heap _; rw [eh7]; exact ⟨(congrArg (fun z => some (Value.int z)) hv8), N7⟩) (by decide) (by decide)
theorem own_key (c : Int32) (h0 : 0 ≤ c.toInt) (h1 : c.toInt < 65536) : f1 c = f3 c ∧ (f2 c = 0 ∨ ¬ (f1 c = 0)) := by
  have e := own_or32 c h0 h1
  have l1 : (65:Int32).toInt = 65 := rfl
  have l2 : (90:Int32).toInt = 90 := rfl
  have l3 : (97:Int32).toInt = 97 := rfl
  have l4 : (122:Int32).toInt = 122 := rfl
  have l5 : (48:Int32).toInt = 48 := rfl
  have l6 : (57:Int32).toInt = 57 := rfl
  have l7 : (95:Int32).toInt = 95 := rfl
  have l8 : (128:Int32).toInt = 128 := rfl
  have l9 : (0:Int32).toInt = 0 := rfl
  have l10 : (10:Int32).toInt = 10 := rfl
  have s : (c - 48).toInt = c.toInt - 48 := Jvm.Kit.i32_sub (by rw [l5]; omega) (by rw [l5]; omega)
  have d1 : f2 c = if (65 ≤ c.toInt ∧ c.toInt ≤ 90) ∨ (97 ≤ c.toInt ∧ c.toInt ≤ 122) then 1 else 0 := by
    simp only [f2, Int32.lt_iff_toInt_lt, l1, l2, l3, l4]
    (repeat' split) <;> first | rfl | (exfalso; omega)
  have d2 : f1 c = if ((65 ≤ c.toInt ∧ c.toInt ≤ 90) ∨ (97 ≤ c.toInt ∧ c.toInt ≤ 122)) ∨ (48 ≤ c.toInt ∧ c.toInt ≤ 57) ∨ c.toInt = 95 then 1 else 0 := by
    simp only [f1, d1, Int32.lt_iff_toInt_lt, ← Int32.toInt_inj, l5, l6, l7]
    (repeat' split) <;> first | rfl | (exfalso; simp_all; done) | (exfalso; simp_all; omega)
  have d3 : f3 c = if ((65 ≤ c.toInt ∧ c.toInt ≤ 90) ∨ (97 ≤ c.toInt ∧ c.toInt ≤ 122)) ∨ (48 ≤ c.toInt ∧ c.toInt ≤ 57) ∨ c.toInt = 95 then 1 else 0 := by
    have a1 : (if c < (128:Int32) then (if (c ||| (32:Int32)) < (97:Int32) then (0:Int32) else (if (122:Int32) < (c ||| (32:Int32)) then (0:Int32) else (1:Int32))) else (0:Int32)) = if (65 ≤ c.toInt ∧ c.toInt ≤ 90) ∨ (97 ≤ c.toInt ∧ c.toInt ≤ 122) then 1 else 0 := by
      simp only [Int32.lt_iff_toInt_lt, e, l3, l4, l8]
      by_cases q : c.toInt % 64 < 32
      · simp only [if_pos q]; (repeat' split) <;> first | rfl | (exfalso; omega)
      · simp only [if_neg q]; (repeat' split) <;> first | rfl | (exfalso; omega)
    have a2 : (if (c - (48:Int32)) < (0:Int32) then (0:Int32) else (if (c - (48:Int32)) < (10:Int32) then (1:Int32) else (0:Int32))) = if 48 ≤ c.toInt ∧ c.toInt ≤ 57 then 1 else 0 := by
      simp only [Int32.lt_iff_toInt_lt, s, l9, l10]
      (repeat' split) <;> first | rfl | (exfalso; omega)
    have a3 : (if c = (95:Int32) then (1:Int32) else (0:Int32)) = if c.toInt = 95 then 1 else 0 := by
      simp only [← Int32.toInt_inj, l7]
    simp only [f3, a1, a2, a3]
    by_cases q1 : (65 ≤ c.toInt ∧ c.toInt ≤ 90) ∨ (97 ≤ c.toInt ∧ c.toInt ≤ 122) <;> by_cases q2 : 48 ≤ c.toInt ∧ c.toInt ≤ 57 <;> by_cases q3 : c.toInt = 95 <;> simp [q1, q2, q3]
  refine ⟨d2.trans d3.symm, ?_⟩
  rw [d1, d2]
  by_cases q1 : (65 ≤ c.toInt ∧ c.toInt ≤ 90) ∨ (97 ≤ c.toInt ∧ c.toInt ≤ 122)
  · right; rw [if_pos (Or.inl q1)]; decide
  · left; rw [if_neg q1]
theorem own_plain (p0 p1 : Int32) : f0 p0 p1 = 1 := by
  have hk : ∀ c : Int32, 0 ≤ c.toInt → c.toInt < 65536 → ((if (f1 c) = (f3 c) then (if (f2 c) = (0:Int32) then (1:Int32) else (if (f1 c) = (0:Int32) then (0:Int32) else (1:Int32))) else (0:Int32)) &&& 1) = 1 := by
    intro c h0 h1
    obtain ⟨k1, k2⟩ := own_key c h0 h1
    rcases k2 with k2 | k2 <;> simp [k1, k2]
    rw [← k1]; simp [k2]
  simp only [f0]
  apply hk
  · split
    · exact (own_c16 _).1
    · exact (own_c16 _).1
  · split
    · exact (own_c16 _).2
    · exact (own_c16 _).2
set_option maxRecDepth 65536 in
set_option maxHeartbeats 40000000 in
theorem comes_1 {Post : Tables → Env → Array Value → State → Outcome → State → Prop} (hpost : ∀ tb e args s v u, (limb_1_1.after args s (.returned v) u = true ∧ limb_1_2.after args s (.returned v) u = true ∧ True) → FrameEnd s (.returned v) u (Jvm.fieldLocs frame_1_writes args s ++ Jvm.arrayLocs frame_1_arrays args s ++ Jvm.staticLocs frame_1_statics s) 0 0 → Post tb e args s (.returned v) u) :
    ArmFor flags0 classFile x code maxLocals ret World_1 tables_1 room_1 Calls_1 rest_1 Pre_1 Post := by
  intro l hfl _ _ p e ha hc hk s m args below hf hA hF happ hP
  obtain ⟨hcalls, hrest, hpre⟩ := hP
  obtain ⟨-, -, -, hnamed, -, -, -, hat⟩ := (Spec.applies_iff hf).mp happ
  obtain ⟨hg, hn⟩ := and_e (Cond.before_iff.mp (show (Jvm.Cond.and given_1 narrow_1).before args s = true from hpre))
  obtain ⟨g2, g3⟩ := and_e hg
  obtain ⟨g4, g5⟩ := and_e g3
  obtain ⟨w0, w1, rfl⟩ : ∃ w0 w1 : Value, args = #[w0, w1] := by
    have hs : args.size = 2 := by simpa [Cond.value, given_1] using g2
    obtain ⟨L⟩ := args
    match L, hs with
    | [w0, w1], _ => exact ⟨w0, w1, rfl⟩
  have hw := fun d (hd : d ∈ tables_1) => atoms_spec (ws := Jvm.Cond.code x code maxLocals ret :: tables_1) hat d (List.mem_cons_of_mem _ hd)
  obtain ⟨i0, ei0⟩ := is_v g4
  obtain rfl : w0 = (.int i0) := Option.some.inj ei0
  obtain ⟨i1, ei1⟩ := is_v g5
  obtain rfl : w1 = (.int i1) := Option.some.inj ei1
  obtain ⟨n, o, h1, h2, h3, _, L, rfl, ⟨hv, N⟩, hq⟩ := rm0 l s _ hw tables_1 i0 i1 s.heap s.heap.size (Nat.le_refl _)  p e ha hc hk s m _ below hf ((Spec.applies_iff_loose hf).mp happ).1 ⟨rfl, State.Warmed39.refl s, rfl⟩ trivial
  rw [own_plain] at hv
  subst hv
  refine ⟨n, _, h1, h2, h3, hpost _ _ _ _ _ _ ⟨Cond.after_iff.mpr rfl, Cond.after_iff.mpr (eq_i res_at (Term.int_eval (1)) rfl), trivial⟩ ⟨hq.1, hq.2.1, (hq.2.2.sift fun y hy => Or.inr (N y hy)).mono (by decide) (by decide)⟩⟩
theorem main_1_1 : Claimed_1_1 := comes_1 fun _ _ _ _ _ _ h hF => ⟨h.1, hF⟩
theorem main_1_2 : Claimed_1_2 := comes_1 fun _ _ _ _ _ _ h hF => ⟨h.2.1, hF⟩
end Jvm.Pilot.@@N@@
namespace Jvm.Pilot.@@N@@
open Jvm Jvm.ClassFile Sem Op Lib Jvm.Free Jvm.Stand Jvm.Pilot.@@N@@.Jvm.D
/-! MADE BY PROGRAM (witnessworld.py) out of the Statement's table words and the real class files: 9 classes; the members and pool entries that the words name. The judged class is class 1, her method 2. -/
namespace start1
open Jvm.ClassFile
def u (s : String) : CpInfo := .utf8 (stringToUtf16 s)
/-- a pool by its gaps: so many unusable entries, then the entry; so many at the end -/
def gap : Nat → List CpInfo → List CpInfo
  | 0, r => r
  | n + 1, r => .unusable :: gap n r
def poolList (es : List (Nat × CpInfo)) (last : Nat) : List CpInfo := es.foldr (fun e r => gap e.1 (e.2 :: r)) (gap last [])
def pool (es : List (Nat × CpInfo)) (last : Nat) : Array CpInfo := ⟨poolList es last⟩
def fileOf (pool : Array CpInfo) (this : Nat) (attrs : Array Attribute := #[]) (ms : Array MethodInfo := #[]) (fl : Nat := 33) (sup : Nat := 0) (ifs : Array Nat := #[]) (fds : Array FieldInfo := #[]) : ClassFile where
  minorVersion := 0
  majorVersion := 65
  constantPool := pool
  accessFlags := fl
  thisClass := this
  superClass := sup
  interfaces := ifs
  fields := fds
  methods := ms
  attributes := attrs
def plain (name : String) (sup : Option ClassId) : Class where
  name := name
  kind := .ordinary
  loader := none
  accessFlags := 33
  super := sup
  interfaces := #[]
  cf := none
  fields := #[]
  methods := #[]
  instanceTypes := #[]
  staticTypes := #[]
  resolved := #[]
  callSites := []
  init := .initialized
  statics := none
  mirror := none

def pool0 : Array CpInfo := pool [(5, u "<init>"), (0, u "()V"), (1, .class_ 10), (1, u "java/lang/Object")] 113

def k0m0 : Method := { name := "<init>", desc := "()V", sig := { parameters := [], returnType := none }, accessFlags := 1, code := none }
/-- java/lang/Object -/
def k0 : Class := { plain "java/lang/Object" none with
  accessFlags := 33
  interfaces := #[]
  cf := some (fileOf pool0 8 #[] #[{ accessFlags := 1, nameIndex := 5, descriptorIndex := 6, attributes := #[] }] 33 0 #[] #[])
  fields := #[]
  methods := #[k0m0]
  instanceTypes := #[]
  staticTypes := #[]
  resolved := Array.replicate 124 none
  statics := none }

def pool1 : Array CpInfo := pool [(2, .class_ 4), (1, u "java/lang/Object"), (0, u "<init>"), (0, u "()V"), (0, .methodref 8 9), (0, .class_ 10), (0, .nameAndType 11 12), (0, u "com/example/nestor/nestor/policy/Names"), (0, u "isNamePart"), (0, u "(C)Z"), (0, .methodref 8 14), (0, .nameAndType 15 12), (0, u "isNameStart"), (0, .methodref 17 18), (0, .class_ 19), (0, .nameAndType 20 12), (0, u "com/example/nestor/nestor/policy/NamesIsNamePartPinLaw"), (0, u "expected"), (3, u "law"), (0, u "(II)Z")] 2

def k1m0 : Method := { name := "<init>", desc := "()V", sig := { parameters := [], returnType := none }, accessFlags := 2, code := none }
def k1c1 : Code := { maxStack := 2, maxLocals := 7, code := method_2_code, exceptionTable := #[], attributes := #[] }
def k1m1 : Method := { name := "expected", desc := "(C)Z", sig := { parameters := [.char], returnType := some .boolean }, accessFlags := 10, code := some k1c1 }
def k1c2 : Code := { maxStack := 2, maxLocals := 5, code := code, exceptionTable := #[], attributes := #[] }
def k1m2 : Method := { name := "law", desc := "(II)Z", sig := { parameters := [.int, .int], returnType := some .boolean }, accessFlags := 9, code := some k1c2 }
/-- com/example/nestor/nestor/policy/NamesIsNamePartPinLaw -/
def k1 : Class := { plain "com/example/nestor/nestor/policy/NamesIsNamePartPinLaw" (some 0) with
  accessFlags := 49
  interfaces := #[]
  cf := some (fileOf pool1 17 #[] #[{ accessFlags := 2, nameIndex := 5, descriptorIndex := 6, attributes := #[] }, { accessFlags := 10, nameIndex := 20, descriptorIndex := 12, attributes := #[] }, { accessFlags := 9, nameIndex := 24, descriptorIndex := 25, attributes := #[] }] 49 2 #[] #[])
  fields := #[]
  methods := #[k1m0, k1m1, k1m2]
  instanceTypes := #[]
  staticTypes := #[]
  resolved := Array.replicate 28 none
  statics := none }

def pool2 : Array CpInfo := pool [(2, .class_ 4), (1, u "java/lang/Object"), (0, u "<init>"), (0, u "()V"), (10, .methodref 18 19), (0, .class_ 20), (0, .nameAndType 21 22), (0, u "com/example/nestor/nestor/policy/Names"), (0, u "isNameStart"), (0, u "(C)Z"), (10, u "isNamePart"), (49, u "KEYWORDS"), (0, u "Ljava/util/Set;")] 19

def k2m0 : Method := { name := "<init>", desc := "()V", sig := { parameters := [], returnType := none }, accessFlags := 2, code := none }
def k2c1 : Code := { maxStack := 2, maxLocals := 1, code := prog_66_method_5_code, exceptionTable := #[], attributes := #[] }
def k2m1 : Method := { name := "isNameStart", desc := "(C)Z", sig := { parameters := [.char], returnType := some .boolean }, accessFlags := 8, code := some k2c1 }
def k2c2 : Code := { maxStack := 2, maxLocals := 1, code := prog_66_method_6_code, exceptionTable := #[], attributes := #[] }
def k2m2 : Method := { name := "isNamePart", desc := "(C)Z", sig := { parameters := [.char], returnType := some .boolean }, accessFlags := 8, code := some k2c2 }
/-- com/example/nestor/nestor/policy/Names -/
def k2 : Class := { plain "com/example/nestor/nestor/policy/Names" (some 0) with
  accessFlags := 49
  interfaces := #[]
  cf := some (fileOf pool2 18 #[] #[{ accessFlags := 2, nameIndex := 5, descriptorIndex := 6, attributes := #[] }, { accessFlags := 8, nameIndex := 21, descriptorIndex := 22, attributes := #[] }, { accessFlags := 8, nameIndex := 33, descriptorIndex := 22, attributes := #[] }] 49 2 #[] #[{ accessFlags := 26, nameIndex := 83, descriptorIndex := 84, attributes := #[] }])
  fields := #[{ name := "KEYWORDS", type := (.object "java/util/Set"), accessFlags := 26, slot := 0, constantValue := 0 }]
  methods := #[k2m0, k2m1, k2m2]
  instanceTypes := #[]
  staticTypes := #[(.object "java/util/Set")]
  resolved := Array.replicate 104 none
  statics := none }

def pool3 : Array CpInfo := pool [(1, u "java/lang/Cloneable"), (0, .class_ 1), (0, u "java/lang/Object"), (0, .class_ 3)] 3

/-- java/lang/Cloneable -/
def k3 : Class := { plain "java/lang/Cloneable" (some 0) with
  accessFlags := 1537
  interfaces := #[]
  cf := some (fileOf pool3 2 #[] #[] 1537 4 #[] #[])
  fields := #[]
  methods := #[]
  instanceTypes := #[]
  staticTypes := #[]
  resolved := Array.replicate 8 none
  statics := none }

def pool4 : Array CpInfo := pool [(1, u "java/io/Serializable"), (0, .class_ 1), (0, u "java/lang/Object"), (0, .class_ 3)] 3

/-- java/io/Serializable -/
def k4 : Class := { plain "java/io/Serializable" (some 0) with
  accessFlags := 1537
  interfaces := #[]
  cf := some (fileOf pool4 2 #[] #[] 1537 4 #[] #[])
  fields := #[]
  methods := #[]
  instanceTypes := #[]
  staticTypes := #[]
  resolved := Array.replicate 8 none
  statics := none }

/-- the primitive byte -/
def k5 : Class := { plain "byte" none with kind := .primitive 'B', accessFlags := 0x411 }
/-- [B -/
def k6 : Class := { plain "[B" (some 0) with kind := .array 5 .byte, interfaces := #[3, 4], accessFlags := 1041 }

/-- the primitive int -/
def k7 : Class := { plain "int" none with kind := .primitive 'I', accessFlags := 0x411 }
/-- [I -/
def k8 : Class := { plain "[I" (some 0) with kind := .array 7 .int, interfaces := #[3, 4], accessFlags := 1041 }

def heap : Heap := #[]
def classes : Array Class := #[k0, k1, k2, k3, k4, k5, k6, k7, k8]
def interned : List (Array UInt16 × Addr) := []
def slotsUsed : Nat := 0
def theMethod : MethodId := ⟨1, 2⟩
def args0 : Array Value := #[.int 5, .int 5]
def aboutOver (below : List Frame) : State where
  vm := { classes := classes, interned := interned.toArray }
  heap := heap
  slotsUsed := slotsUsed
  threads := #[{ frames := .invoking theMethod args0 :: below }]
def below0 : List Frame := [.native { method := ⟨0, 0⟩, args := #[] }]
def about1 : State := aboutOver below0
def p0 : Program := .bare "" "" ""
def e0 : Env := launch0.env 0 0 0
theorem w_frames : about1.frames = Frame.invoking theMethod args0 :: below0 := rfl
set_option maxRecDepth 65536 in
theorem w_args : argsFit about1.vm theMethod args0 = true := by decide +kernel
set_option maxRecDepth 65536 in
theorem w_heap : heapFits about1 = true := by decide +kernel
set_option maxRecDepth 65536 in
theorem w_runnable : about1.curStatus? = some .runnable := by decide +kernel
set_option maxRecDepth 65536 in
theorem w_alone : about1.alone = true := by decide +kernel
set_option maxRecDepth 65536 in
theorem w_named : about1.methodNamed? x = some theMethod := by decide +kernel
set_option maxRecDepth 65536 in
theorem w_hears : about1.hears theMethod below0 = true := by decide +kernel
set_option maxRecDepth 65536 in
theorem w_ripe : about1.ripe theMethod args0 below0 = true := by decide +kernel
theorem w_running : about1.status = .running := rfl
set_option maxRecDepth 65536 in
theorem w_room : about1.hasRoom e0.platform room_1 = true :=
  launch0.hasRoom_least _ room_1 (by decide +kernel) (by decide +kernel) (by decide +kernel) (by decide +kernel) (by decide +kernel) (by decide +kernel)
theorem allAtoms_all (ts : List Jvm.Cond) (a : Array Jvm.Value) (st : Jvm.State) : (allAtoms ts).before a st = ts.all (fun c => c.before a st) := by
  induction ts with
  | nil => rfl
  | cons c t ih =>
    show (Jvm.Cond.and c (allAtoms t)).before a st = _
    rw [Jvm.Cond.before_and, ih, List.all_cons]
def words1 : List Jvm.Cond := Jvm.Cond.code x code maxLocals ret :: tables_1
/-- a 'code' word, met by the world's own term for the bytes: nothing is compared byte by byte -/
theorem code_word {y : MethodName} {bytes : ByteArray} {mx : Nat} {rt : Option FieldType} {a : Array Value} {s : State} {m : MethodId} {meth : Method} {c : Code} (h1 : s.methodNamed? y = some m) (h2 : s.vm.method? m = some meth) (h3 : meth.code = some c) (h4 : c.code = bytes)
    (h5 : (c.maxLocals == mx && c.exceptionTable.isEmpty && decide (c.maxStack ≤ mostOperands) && decide (meth.sig.returnType = rt) && !meth.locks && decide (parseMethodDescriptor y.desc = some meth.sig)) = true) : (Jvm.Cond.code y bytes mx rt).before a s = true := by
  simp only [Bool.and_eq_true, beq_iff_eq, Bool.not_eq_true', decide_eq_true_eq] at h5
  obtain ⟨⟨⟨⟨⟨g1, g2⟩, g3⟩, g4⟩, g5⟩, g6⟩ := h5
  simp [Cond.before, Cond.holds, Cond.value, h1, h2, h3, h4, g1, g2, g3, g4, g5, g6]
def isCode : Jvm.Cond → Bool
  | .code _ _ _ _ => true
  | _ => false
theorem all_split {L : List Jvm.Cond} {P : Jvm.Cond → Bool} (h1 : L.all (fun c => isCode c || P c) = true) (h2 : ∀ c ∈ L.filter isCode, P c = true) : L.all P = true := by
  refine List.all_eq_true.mpr fun c hc => ?_
  have h := List.all_eq_true.mp h1 c hc
  rcases Bool.eq_false_or_eq_true (isCode c) with hi | hi
  · exact h2 c (List.mem_filter.mpr ⟨hc, hi⟩)
  · simpa [hi] using h
set_option maxRecDepth 65536 in
theorem w_c0 : (Jvm.Cond.code x code maxLocals ret).before args0 about1 = true := code_word (m := ⟨1, 2⟩) (meth := k1m2) (c := k1c2) (by decide +kernel) rfl rfl rfl (by decide +kernel)
set_option maxRecDepth 65536 in
theorem w_c1 : (Jvm.Cond.code ({ cls := "com/example/nestor/nestor/policy/Names", name := "isNamePart", desc := "(C)Z" } : Jvm.MethodName) prog_66_method_6_code (1 : Nat) (Option.some Jvm.ClassFile.FieldType.boolean)).before args0 about1 = true := code_word (m := ⟨2, 2⟩) (meth := k2m2) (c := k2c2) (by decide +kernel) rfl rfl rfl (by decide +kernel)
set_option maxRecDepth 65536 in
theorem w_c2 : (Jvm.Cond.code ({ cls := "com/example/nestor/nestor/policy/Names", name := "isNameStart", desc := "(C)Z" } : Jvm.MethodName) prog_66_method_5_code (1 : Nat) (Option.some Jvm.ClassFile.FieldType.boolean)).before args0 about1 = true := code_word (m := ⟨2, 1⟩) (meth := k2m1) (c := k2c1) (by decide +kernel) rfl rfl rfl (by decide +kernel)
set_option maxRecDepth 65536 in
theorem w_c3 : (Jvm.Cond.code ({ cls := "com/example/nestor/nestor/policy/NamesIsNamePartPinLaw", name := "expected", desc := "(C)Z" } : Jvm.MethodName) method_2_code (7 : Nat) (Option.some Jvm.ClassFile.FieldType.boolean)).before args0 about1 = true := code_word (m := ⟨1, 1⟩) (meth := k1m1) (c := k1c1) (by decide +kernel) rfl rfl rfl (by decide +kernel)
def codes1 : List Jvm.Cond := [Jvm.Cond.code x code maxLocals ret, Jvm.Cond.code ({ cls := "com/example/nestor/nestor/policy/Names", name := "isNamePart", desc := "(C)Z" } : Jvm.MethodName) prog_66_method_6_code (1 : Nat) (Option.some Jvm.ClassFile.FieldType.boolean), Jvm.Cond.code ({ cls := "com/example/nestor/nestor/policy/Names", name := "isNameStart", desc := "(C)Z" } : Jvm.MethodName) prog_66_method_5_code (1 : Nat) (Option.some Jvm.ClassFile.FieldType.boolean), Jvm.Cond.code ({ cls := "com/example/nestor/nestor/policy/NamesIsNamePartPinLaw", name := "expected", desc := "(C)Z" } : Jvm.MethodName) method_2_code (7 : Nat) (Option.some Jvm.ClassFile.FieldType.boolean)]
set_option maxRecDepth 65536 in
theorem codes_eq : words1.filter isCode = codes1 := rfl
theorem w_codes : ∀ c ∈ words1.filter isCode, c.before args0 about1 = true := by
  rw [codes_eq]
  intro c hc
  simp only [codes1, List.mem_cons, List.not_mem_nil, or_false] at hc
  rcases hc with rfl | rfl | rfl | rfl
  · exact w_c0
  · exact w_c1
  · exact w_c2
  · exact w_c3
set_option maxRecDepth 65536 in
theorem w_t1 : words1.all (fun c => isCode c || c.before args0 about1) = true := by decide +kernel
theorem w_tables : (allAtoms (Jvm.Cond.code x code maxLocals ret :: tables_1)).before args0 about1 = true := by
  rw [allAtoms_all]
  show words1.all (fun c => c.before args0 about1) = true
  refine all_split ?_ w_codes
  rw [w_t1]
set_option maxRecDepth 65536 in
theorem w_case : (Jvm.Cond.and given_1 narrow_1).before args0 about1 = true := by decide +kernel
theorem w_applies : (headSpec (Jvm.Cond.code x code maxLocals ret :: tables_1) room_1).applies x e0.platform about1 = true :=
  (Spec.applies_iff w_frames).mpr ⟨w_running, w_runnable, w_alone, w_named, w_hears, w_ripe, w_room, w_tables⟩
theorem atStart : AtStart classFile x code maxLocals ret World_1 tables_1 room_1 Calls_1 rest_1 Pre_1 launch0 p0 e0 about1 theMethod args0 below0 :=
  ⟨lists_1, trivial, launch0.admits_env _ _ _, launch0.least_env, fairChoices_fair.cas, fairChoices_fair.clock, w_frames, w_args, w_heap, w_applies, trivial, trivial, w_case⟩
end start1
theorem witness_1 : WitnessClaimed_1 := ⟨start1.p0, start1.e0, start1.about1, start1.theMethod, start1.args0, start1.below0, start1.atStart⟩
end Jvm.Pilot.@@N@@
