import JvmDerived
import JvmDerived.Pilot.@@N@@Statement
import JvmDerived.Pilot.@@N@@Code
set_option linter.unusedVariables false
set_option linter.unusedSimpArgs false
@@BLOCK:NumsL.lean.txt@@
namespace Jvm.Pilot.@@N@@
open Jvm Jvm.ClassFile Sem Op Lib Jvm.Free Jvm.Stand Jvm.LawKit Jvm.RoadKit Bundle Jvm.Pilot.@@N@@.Jvm.D
def own_Goes (p : Program) (e : Env) (below : List Frame) (s : State) (Q : Option Value → Heap → List Loc → Prop) (ce sl : Nat) (A : State) : Prop :=
  ∃ s₂ o, Steps p.tables e below A s₂ ∧ s₂.status = .running ∧ Ended s₂ below o ∧ ∃ v L, o = .returned v ∧ Q v s₂.heap L ∧ FrameEnd s o s₂ L ce sl
theorem own_pre {p : Program} {e : Env} {below : List Frame} {s : State} {Q : Option Value → Heap → List Loc → Prop} {ce sl : Nat} {A B : State} (h : ∀ t, Steps p.tables e below A t → Steps p.tables e below B t) (G : own_Goes p e below s Q ce sl A) : own_Goes p e below s Q ce sl B := by
  obtain ⟨s₂, o, h1, r⟩ := G
  exact ⟨s₂, o, h _ h1, r⟩
theorem own_end {p : Program} {l : Launch} {e : Env} {R : Room} {s : State} {m : MethodId} {args : Array Value} {below : List Frame} {meth : Method} {c : Code} {T : State} {locs : List Loc} {cells slots : Nat} (X : Stand p l e R s m args below meth c T locs cells slots)
    {v : Option Value} {Q : Option Value → Heap → List Loc → Prop} {ce sl : Nat} {A : State} (hlocks : meth.locks = false) (hv : meth.sig.returnType = none → v = none)
    (hstep : ∀ fs, (∀ (f : JFrame) (acts : List Action), f.method = m → f.locked = none → f.entered = [] → (doReturn e (T.setTop f) acts v).1 = T.setFrames fs) → Steps p.tables e below A (T.setFrames fs))
    (hQ : Q v T.heap locs) (hc : cells ≤ ce) (hs : slots ≤ sl) : own_Goes p e below s Q ce sl A := by
  obtain ⟨fs, hr, hrun, hended, hW, hsame⟩ := X.leave hv hlocks
  exact ⟨_, _, hstep fs hr, hrun, hended, _, _, rfl, hQ, ⟨_, rfl⟩, hW, hsame.mono hc hs⟩
theorem own_lrem_eq (x y : Int64) : x - (x / y) * y = x % y := Int64.toInt_inj.mp (by rw [Jvm.Kit.i64_rem, Int64.toInt_mod])
theorem own_lrem {tb : Tables} [Ours tb] {e : Env} {below : List Frame} {T target : State} {m : MethodId} {c : Code} {g : JFrame} (h : At T m c below) (hx : tb.exec = Jvm.exec) (hg : g.method = m) {x y : Int64} {rest : List Value} (hd : decode c.code g.pc = .ok (.lrem, 1)) (hs : g.stack = .long y :: .long x :: rest) (hy : y ≠ 0)
    (hr : Steps tb e below (T.setTop { g with pc := g.pc + 1, stack := .long (x % y) :: rest }) target) : Steps tb e below (T.setTop g) target :=
  XS.lrem h hx hg hd hs hy (by rw [own_lrem_eq]; exact hr)
theorem own_h {a0 : Array Value} {Z : State} {L : List Jvm.Cond} (hw : ∀ d ∈ L, d.before a0 Z = true) (i : Nat) {d : Jvm.Cond} (h : L[i]? = some d) : d.before a0 Z = true := hw _ (List.mem_of_getElem? h)
theorem own_small {y : Int32} (h : y.toBitVec.toNat < 2 ^ 31) : y.toInt = (y.toBitVec.toNat : Int) := by
  show BitVec.toInt _ = _
  rw [BitVec.toInt_eq_toNat_of_lt]; omega
theorem own_nat {y : Int32} (h : 0 ≤ y.toInt) : y.toInt = (y.toBitVec.toNat : Int) := by
  apply own_small
  have h' : 0 ≤ y.toBitVec.toInt := h
  have := BitVec.toInt_eq_toNat_cond y.toBitVec
  have h2 := y.toBitVec.isLt
  split at this <;> omega
theorem own_c16 (x : Int32) : 0 ≤ (x.toUInt32.toUInt16.toUInt32.toInt32).toInt ∧ (x.toUInt32.toUInt16.toUInt32.toInt32).toInt < 65536 := by
  have e : (x.toUInt32.toUInt16.toUInt32.toInt32).toBitVec.toNat = x.toUInt32.toUInt16.toUInt32.toNat := rfl
  have h : x.toUInt32.toUInt16.toUInt32.toNat < 65536 := by rw [UInt16.toNat_toUInt32]; exact UInt16.toNat_lt _
  rw [own_small (by rw [e]; omega), e]; omega
theorem own_nor32 (n : Nat) : n ||| 32 = if n % 64 < 32 then n + 32 else n := by
  have hd : n = 2 ^ 6 * (n / 64) ||| (n % 64) := by rw [← Nat.two_pow_add_eq_or_of_lt (by omega)]; omega
  have key : ∀ r < 64, r ||| 32 = if r < 32 then r + 32 else r := by decide
  have hr := key (n % 64) (by omega)
  have h2 : n % 64 ||| 32 < 2 ^ 6 := by rw [hr]; split <;> omega
  have e : n ||| 32 = 2 ^ 6 * (n / 64) + (n % 64 ||| 32) := by
    rw [Nat.two_pow_add_eq_or_of_lt h2, ← Nat.or_assoc, ← hd]
  rw [e, hr]; split <;> omega
theorem own_or32 (c : Int32) (h0 : 0 ≤ c.toInt) (h1 : c.toInt < 65536) : (c ||| 32).toInt = if c.toInt % 64 < 32 then c.toInt + 32 else c.toInt := by
  have hn := own_nat h0
  have e1 : (c ||| 32).toBitVec.toNat = c.toBitVec.toNat ||| 32 := by
    rw [Int32.toBitVec_or, BitVec.toNat_or]; rfl
  have e2 := own_nor32 c.toBitVec.toNat
  have h3 : (c ||| 32).toBitVec.toNat < 2 ^ 31 := by rw [e1, e2]; split <;> omega
  rw [own_small h3, e1, e2, hn]
  split <;> split <;> omega
theorem own_pn0 : plainName "com/example/nestor/nestor/policy/NamesIsNameStartPinLaw" = true := by first | (simp [plainName, overriddenIn]; done) | decide +kernel
theorem d1_0 : decode method_3_code 0 = .ok (.iload_n 0, 1) := by decide +kernel
theorem d1_1 : decode method_3_code 1 = .ok (.bipush 32, 2) := by decide +kernel
theorem d1_3 : decode method_3_code 3 = .ok (.ior, 1) := by decide +kernel
theorem d1_4 : decode method_3_code 4 = .ok (.istore_n 1, 1) := by decide +kernel
theorem d1_5 : decode method_3_code 5 = .ok (.iload_n 1, 1) := by decide +kernel
theorem d1_6 : decode method_3_code 6 = .ok (.bipush 97, 2) := by decide +kernel
theorem d1_8 : decode method_3_code 8 = .ok (.if_icmp .lt 13, 3) := by decide +kernel
theorem d1_11 : decode method_3_code 11 = .ok (.iload_n 1, 1) := by decide +kernel
theorem d1_12 : decode method_3_code 12 = .ok (.bipush 122, 2) := by decide +kernel
theorem d1_14 : decode method_3_code 14 = .ok (.if_icmp .gt 7, 3) := by decide +kernel
theorem d1_17 : decode method_3_code 17 = .ok (.iconst 1, 1) := by decide +kernel
theorem d1_18 : decode method_3_code 18 = .ok (.goto 4, 3) := by decide +kernel
theorem d1_21 : decode method_3_code 21 = .ok (.iconst 0, 1) := by decide +kernel
theorem d1_22 : decode method_3_code 22 = .ok (.ireturn, 1) := by decide +kernel
theorem ef1 (m : MethodId) (p0 : Int32) : entryFrame m #[(.int p0)] 2 = mkF m 0 #[iv p0, .unset] [] := by first | (simp [entryFrame, mkF, argsToLocals, Value.category]; done) | rfl
def f1 (p0 : Int32) : Int32 := (let w1_1 : Int32 := (if (p0 ||| (32:Int32)) < (97:Int32) then (0:Int32) else (if (122:Int32) < (p0 ||| (32:Int32)) then (0:Int32) else (1:Int32))); (w1_1 &&& 1))
def Q1 (Z : State) (p0 : Int32)  (h0 : Heap) (n0 : Nat) (v : Option Value) (h : Heap) (L : List Loc) : Prop := v = some (.int (f1 p0)) ∧ Fr n0 L ∧ h = h0
set_option maxRecDepth 65536 in
set_option maxHeartbeats 40000000 in
theorem rm1 (l : Launch) (Z : State) (aZ : Array Value) (hw : ∀ d ∈ tables_1, d.before aZ Z = true) (ws : List Jvm.Cond) (p0 : Int32)  (h0 : Heap) (n0 : Nat) (Z0 : n0 ≤ h0.size)  :
    MetFree l (⟨"com/example/nestor/nestor/policy/NamesIsNameStartPinLaw", "isAsciiLetter", "(C)Z"⟩ : MethodName) (head1 (Jvm.Cond.code (⟨"com/example/nestor/nestor/policy/NamesIsNameStartPinLaw", "isAsciiLetter", "(C)Z"⟩ : MethodName) method_3_code 2 (some .boolean) :: ws) ({ frames := 0, cells := 0, slots := 0, locals := 0 } : Room)) (fun a U => a = #[(.int p0)] ∧ Z.Warmed39 U.vm ∧ U.heap = h0) (fun _ _ _ _ _ => True) (fun _ U o U' => ∃ v L, o = .returned v ∧ Q1 Z p0 h0 n0 v U'.heap L ∧ FrameEnd U o U' L ({ frames := 0, cells := 0, slots := 0, locals := 0 } : Room).cells ({ frames := 0, cells := 0, slots := 0, locals := 0 } : Room).slots) := by
  refine MetFree.of_bodySF (plainFor_of_name own_pn0) hisR ?_
  intro p e s m args below meth c s₁ Bd hml0 hP hK
  obtain ⟨rfl, hZ, hh⟩ := hP
  have hx := Bd.exec
  have hby := Bd.bytes
  have hml : c.maxLocals = 2 := hml0
  have hown : s.vm.findClass "com/example/nestor/nestor/policy/NamesIsNameStartPinLaw" = some m.cls := findClass_of_methodNamed Bd.named
  have hnm := (name_of_methodNamed Bd.named Bd.method).1
  have X0 : Stand p l e ({ frames := 0, cells := 0, slots := 0, locals := 0 } : Room) s m #[(.int p0)] below meth c s₁ [] 0 0 := Stand.of_body Bd
  have e0 : s₁.heap = h0 := by rw [← hh, Bd.state]; rfl
  have N0 := Fr.nil n0
  show own_Goes p e below s (Q1 Z p0 h0 n0) ({ frames := 0, cells := 0, slots := 0, locals := 0 } : Room).cells ({ frames := 0, cells := 0, slots := 0, locals := 0 } : Room).slots _
  refine own_pre (fun t k => castTop (ef1 m p0) k) ?_
  refine own_pre (A := s₁.setTop (mkF m 8 #[iv p0, iv (p0 ||| (32:Int32))] [(.int (97:Int32)), (.int (p0 ||| (32:Int32)))])) (fun t k => ?_) ?_
  · show Steps p.tables e below (s₁.setTop (mkF m 0 #[iv p0, .unset] [])) _
    refine XS.iloadN X0.here hx rfl (hb hby d1_0) rfl ?_
    show Steps p.tables e below (s₁.setTop (mkF m 1 #[iv p0, .unset] [(.int p0)])) _
    refine XS.bipush X0.here hx rfl (hb hby d1_1) ?_
    show Steps p.tables e below (s₁.setTop (mkF m 3 #[iv p0, .unset] [(.int (32:Int32)), (.int p0)])) _
    refine XS.ior X0.here hx rfl (hb hby d1_3) rfl ?_
    show Steps p.tables e below (s₁.setTop (mkF m 4 #[iv p0, .unset] [(.int (p0 ||| (32:Int32)))])) _
    refine XS.istoreN X0.here hx rfl (hb hby d1_4) rfl (l' := #[iv p0, iv (p0 ||| (32:Int32))]) rfl ?_
    show Steps p.tables e below (s₁.setTop (mkF m 5 #[iv p0, iv (p0 ||| (32:Int32))] [])) _
    refine XS.iloadN X0.here hx rfl (hb hby d1_5) rfl ?_
    show Steps p.tables e below (s₁.setTop (mkF m 6 #[iv p0, iv (p0 ||| (32:Int32))] [(.int (p0 ||| (32:Int32)))])) _
    refine XS.bipush X0.here hx rfl (hb hby d1_6) ?_
    exact k
  obtain ⟨w1_1, hw1_1⟩ : ∃ z : Int32, z = (if (p0 ||| (32:Int32)) < (97:Int32) then (0:Int32) else (if (122:Int32) < (p0 ||| (32:Int32)) then (0:Int32) else (1:Int32))) := ⟨_, rfl⟩
  refine own_pre (A := s₁.setTop (mkF m 22 #[iv p0, iv (p0 ||| (32:Int32))] [(.int w1_1)])) (fun t k => ?_) ?_
  · show Steps p.tables e below (s₁.setTop (mkF m 8 #[iv p0, iv (p0 ||| (32:Int32))] [(.int (97:Int32)), (.int (p0 ||| (32:Int32)))])) _
    by_cases hm8_1 : (p0 ||| (32:Int32)) < (97:Int32)
    · refine XS.icmpYes X0.here hx rfl (pc0 := 8) (pc' := 21) rfl (hb hby d1_8) rfl (XT.ii_lt_t hm8_1) (by decide) (by decide) ?_
      show Steps p.tables e below (s₁.setTop (mkF m 21 #[iv p0, iv (p0 ||| (32:Int32))] [])) _
      refine XS.iconst X0.here hx rfl (hb hby d1_21) ?_
      rw [hw1_1.trans (if_pos hm8_1)] at k
      exact k
    · refine XS.icmpNo X0.here hx rfl (hb hby d1_8) rfl (XT.ii_lt_f hm8_1) ?_
      show Steps p.tables e below (s₁.setTop (mkF m 11 #[iv p0, iv (p0 ||| (32:Int32))] [])) _
      refine XS.iloadN X0.here hx rfl (hb hby d1_11) rfl ?_
      show Steps p.tables e below (s₁.setTop (mkF m 12 #[iv p0, iv (p0 ||| (32:Int32))] [(.int (p0 ||| (32:Int32)))])) _
      refine XS.bipush X0.here hx rfl (hb hby d1_12) ?_
      show Steps p.tables e below (s₁.setTop (mkF m 14 #[iv p0, iv (p0 ||| (32:Int32))] [(.int (122:Int32)), (.int (p0 ||| (32:Int32)))])) _
      by_cases hm14_2 : (122:Int32) < (p0 ||| (32:Int32))
      · refine XS.icmpYes X0.here hx rfl (pc0 := 14) (pc' := 21) rfl (hb hby d1_14) rfl (XT.ii_gt_t hm14_2) (by decide) (by decide) ?_
        show Steps p.tables e below (s₁.setTop (mkF m 21 #[iv p0, iv (p0 ||| (32:Int32))] [])) _
        refine XS.iconst X0.here hx rfl (hb hby d1_21) ?_
        rw [hw1_1.trans ((if_neg hm8_1).trans (if_pos hm14_2))] at k
        exact k
      · refine XS.icmpNo X0.here hx rfl (hb hby d1_14) rfl (XT.ii_gt_f hm14_2) ?_
        show Steps p.tables e below (s₁.setTop (mkF m 17 #[iv p0, iv (p0 ||| (32:Int32))] [])) _
        refine XS.iconst X0.here hx rfl (hb hby d1_17) ?_
        show Steps p.tables e below (s₁.setTop (mkF m 18 #[iv p0, iv (p0 ||| (32:Int32))] [(.int (1:Int32))])) _
        refine XS.goto X0.here hx rfl (pc0 := 18) (pc' := 22) rfl (hb hby d1_18) (by decide) (by decide) ?_
        rw [hw1_1.trans ((if_neg hm8_1).trans (if_neg hm14_2))] at k
        exact k
  have hv1 : (w1_1 &&& 1) = f1 p0 := by subst hw1_1; rfl
  exact own_end X0 (BodyLoose.notSynchronized Bd) (fun h => by rw [Bd.returns] at h; cases h) (v := some (.int (w1_1 &&& 1))) (fun fs hr => retN X0 hx (t := .boolean) Bd.returns (by simp) (hb hby d1_22) hr) (by show Q1 Z p0 h0 n0 _ s₁.heap _; rw [e0]; exact ⟨(congrArg (fun z => some (Value.int z)) hv1), N0, rfl⟩) (by decide) (by decide)
theorem own_pn1 : plainName "com/example/nestor/nestor/policy/Names" = true := by first | (simp [plainName, overriddenIn]; done) | decide +kernel
theorem d2_0 : decode prog_66_method_5_code 0 = .ok (.iload_n 0, 1) := by decide +kernel
theorem d2_1 : decode prog_66_method_5_code 1 = .ok (.bipush 65, 2) := by decide +kernel
theorem d2_3 : decode prog_66_method_5_code 3 = .ok (.if_icmp .lt 9, 3) := by decide +kernel
theorem d2_6 : decode prog_66_method_5_code 6 = .ok (.iload_n 0, 1) := by decide +kernel
theorem d2_7 : decode prog_66_method_5_code 7 = .ok (.bipush 90, 2) := by decide +kernel
theorem d2_9 : decode prog_66_method_5_code 9 = .ok (.if_icmp .le 15, 3) := by decide +kernel
theorem d2_12 : decode prog_66_method_5_code 12 = .ok (.iload_n 0, 1) := by decide +kernel
theorem d2_13 : decode prog_66_method_5_code 13 = .ok (.bipush 97, 2) := by decide +kernel
theorem d2_15 : decode prog_66_method_5_code 15 = .ok (.if_icmp .lt 13, 3) := by decide +kernel
theorem d2_18 : decode prog_66_method_5_code 18 = .ok (.iload_n 0, 1) := by decide +kernel
theorem d2_19 : decode prog_66_method_5_code 19 = .ok (.bipush 122, 2) := by decide +kernel
theorem d2_21 : decode prog_66_method_5_code 21 = .ok (.if_icmp .gt 7, 3) := by decide +kernel
theorem d2_24 : decode prog_66_method_5_code 24 = .ok (.iconst 1, 1) := by decide +kernel
theorem d2_25 : decode prog_66_method_5_code 25 = .ok (.goto 4, 3) := by decide +kernel
theorem d2_28 : decode prog_66_method_5_code 28 = .ok (.iconst 0, 1) := by decide +kernel
theorem d2_29 : decode prog_66_method_5_code 29 = .ok (.ireturn, 1) := by decide +kernel
theorem ef2 (m : MethodId) (p0 : Int32) : entryFrame m #[(.int p0)] 1 = mkF m 0 #[iv p0] [] := by first | (simp [entryFrame, mkF, argsToLocals, Value.category]; done) | rfl
def f2 (p0 : Int32) : Int32 := (let w2_1 : Int32 := (if p0 < (65:Int32) then (if p0 < (97:Int32) then (0:Int32) else (if (122:Int32) < p0 then (0:Int32) else (1:Int32))) else (if (90:Int32) < p0 then (if p0 < (97:Int32) then (0:Int32) else (if (122:Int32) < p0 then (0:Int32) else (1:Int32))) else (1:Int32))); (w2_1 &&& 1))
def Q2 (Z : State) (p0 : Int32)  (h0 : Heap) (n0 : Nat) (v : Option Value) (h : Heap) (L : List Loc) : Prop := v = some (.int (f2 p0)) ∧ Fr n0 L ∧ h = h0
set_option maxRecDepth 65536 in
set_option maxHeartbeats 40000000 in
theorem rm2 (l : Launch) (Z : State) (aZ : Array Value) (hw : ∀ d ∈ tables_1, d.before aZ Z = true) (ws : List Jvm.Cond) (p0 : Int32)  (h0 : Heap) (n0 : Nat) (Z0 : n0 ≤ h0.size)  :
    MetFree l (⟨"com/example/nestor/nestor/policy/Names", "isNameStart", "(C)Z"⟩ : MethodName) (head1 (Jvm.Cond.code (⟨"com/example/nestor/nestor/policy/Names", "isNameStart", "(C)Z"⟩ : MethodName) prog_66_method_5_code 1 (some .boolean) :: ws) ({ frames := 0, cells := 0, slots := 0, locals := 0 } : Room)) (fun a U => a = #[(.int p0)] ∧ Z.Warmed39 U.vm ∧ U.heap = h0) (fun _ _ _ _ _ => True) (fun _ U o U' => ∃ v L, o = .returned v ∧ Q2 Z p0 h0 n0 v U'.heap L ∧ FrameEnd U o U' L ({ frames := 0, cells := 0, slots := 0, locals := 0 } : Room).cells ({ frames := 0, cells := 0, slots := 0, locals := 0 } : Room).slots) := by
  refine MetFree.of_bodySF (plainFor_of_name own_pn1) hisR ?_
  intro p e s m args below meth c s₁ Bd hml0 hP hK
  obtain ⟨rfl, hZ, hh⟩ := hP
  have hx := Bd.exec
  have hby := Bd.bytes
  have hml : c.maxLocals = 1 := hml0
  have hown : s.vm.findClass "com/example/nestor/nestor/policy/Names" = some m.cls := findClass_of_methodNamed Bd.named
  have hnm := (name_of_methodNamed Bd.named Bd.method).1
  have X0 : Stand p l e ({ frames := 0, cells := 0, slots := 0, locals := 0 } : Room) s m #[(.int p0)] below meth c s₁ [] 0 0 := Stand.of_body Bd
  have e0 : s₁.heap = h0 := by rw [← hh, Bd.state]; rfl
  have N0 := Fr.nil n0
  show own_Goes p e below s (Q2 Z p0 h0 n0) ({ frames := 0, cells := 0, slots := 0, locals := 0 } : Room).cells ({ frames := 0, cells := 0, slots := 0, locals := 0 } : Room).slots _
  refine own_pre (fun t k => castTop (ef2 m p0) k) ?_
  refine own_pre (A := s₁.setTop (mkF m 3 #[iv p0] [(.int (65:Int32)), (.int p0)])) (fun t k => ?_) ?_
  · show Steps p.tables e below (s₁.setTop (mkF m 0 #[iv p0] [])) _
    refine XS.iloadN X0.here hx rfl (hb hby d2_0) rfl ?_
    show Steps p.tables e below (s₁.setTop (mkF m 1 #[iv p0] [(.int p0)])) _
    refine XS.bipush X0.here hx rfl (hb hby d2_1) ?_
    exact k
  obtain ⟨w2_1, hw2_1⟩ : ∃ z : Int32, z = (if p0 < (65:Int32) then (if p0 < (97:Int32) then (0:Int32) else (if (122:Int32) < p0 then (0:Int32) else (1:Int32))) else (if (90:Int32) < p0 then (if p0 < (97:Int32) then (0:Int32) else (if (122:Int32) < p0 then (0:Int32) else (1:Int32))) else (1:Int32))) := ⟨_, rfl⟩
  refine own_pre (A := s₁.setTop (mkF m 29 #[iv p0] [(.int w2_1)])) (fun t k => ?_) ?_
  · show Steps p.tables e below (s₁.setTop (mkF m 3 #[iv p0] [(.int (65:Int32)), (.int p0)])) _
    by_cases hm3_1 : p0 < (65:Int32)
    · refine XS.icmpYes X0.here hx rfl (pc0 := 3) (pc' := 12) rfl (hb hby d2_3) rfl (XT.ii_lt_t hm3_1) (by decide) (by decide) ?_
      show Steps p.tables e below (s₁.setTop (mkF m 12 #[iv p0] [])) _
      refine XS.iloadN X0.here hx rfl (hb hby d2_12) rfl ?_
      show Steps p.tables e below (s₁.setTop (mkF m 13 #[iv p0] [(.int p0)])) _
      refine XS.bipush X0.here hx rfl (hb hby d2_13) ?_
      show Steps p.tables e below (s₁.setTop (mkF m 15 #[iv p0] [(.int (97:Int32)), (.int p0)])) _
      by_cases hm15_2 : p0 < (97:Int32)
      · refine XS.icmpYes X0.here hx rfl (pc0 := 15) (pc' := 28) rfl (hb hby d2_15) rfl (XT.ii_lt_t hm15_2) (by decide) (by decide) ?_
        show Steps p.tables e below (s₁.setTop (mkF m 28 #[iv p0] [])) _
        refine XS.iconst X0.here hx rfl (hb hby d2_28) ?_
        rw [hw2_1.trans ((if_pos hm3_1).trans (if_pos hm15_2))] at k
        exact k
      · refine XS.icmpNo X0.here hx rfl (hb hby d2_15) rfl (XT.ii_lt_f hm15_2) ?_
        show Steps p.tables e below (s₁.setTop (mkF m 18 #[iv p0] [])) _
        refine XS.iloadN X0.here hx rfl (hb hby d2_18) rfl ?_
        show Steps p.tables e below (s₁.setTop (mkF m 19 #[iv p0] [(.int p0)])) _
        refine XS.bipush X0.here hx rfl (hb hby d2_19) ?_
        show Steps p.tables e below (s₁.setTop (mkF m 21 #[iv p0] [(.int (122:Int32)), (.int p0)])) _
        by_cases hm21_3 : (122:Int32) < p0
        · refine XS.icmpYes X0.here hx rfl (pc0 := 21) (pc' := 28) rfl (hb hby d2_21) rfl (XT.ii_gt_t hm21_3) (by decide) (by decide) ?_
          show Steps p.tables e below (s₁.setTop (mkF m 28 #[iv p0] [])) _
          refine XS.iconst X0.here hx rfl (hb hby d2_28) ?_
          rw [hw2_1.trans (((if_pos hm3_1).trans (if_neg hm15_2)).trans (if_pos hm21_3))] at k
          exact k
        · refine XS.icmpNo X0.here hx rfl (hb hby d2_21) rfl (XT.ii_gt_f hm21_3) ?_
          show Steps p.tables e below (s₁.setTop (mkF m 24 #[iv p0] [])) _
          refine XS.iconst X0.here hx rfl (hb hby d2_24) ?_
          show Steps p.tables e below (s₁.setTop (mkF m 25 #[iv p0] [(.int (1:Int32))])) _
          refine XS.goto X0.here hx rfl (pc0 := 25) (pc' := 29) rfl (hb hby d2_25) (by decide) (by decide) ?_
          rw [hw2_1.trans (((if_pos hm3_1).trans (if_neg hm15_2)).trans (if_neg hm21_3))] at k
          exact k
    · refine XS.icmpNo X0.here hx rfl (hb hby d2_3) rfl (XT.ii_lt_f hm3_1) ?_
      show Steps p.tables e below (s₁.setTop (mkF m 6 #[iv p0] [])) _
      refine XS.iloadN X0.here hx rfl (hb hby d2_6) rfl ?_
      show Steps p.tables e below (s₁.setTop (mkF m 7 #[iv p0] [(.int p0)])) _
      refine XS.bipush X0.here hx rfl (hb hby d2_7) ?_
      show Steps p.tables e below (s₁.setTop (mkF m 9 #[iv p0] [(.int (90:Int32)), (.int p0)])) _
      by_cases hm9_4 : (90:Int32) < p0
      · refine XS.icmpNo X0.here hx rfl (hb hby d2_9) rfl (XT.ii_le_f hm9_4) ?_
        show Steps p.tables e below (s₁.setTop (mkF m 12 #[iv p0] [])) _
        refine XS.iloadN X0.here hx rfl (hb hby d2_12) rfl ?_
        show Steps p.tables e below (s₁.setTop (mkF m 13 #[iv p0] [(.int p0)])) _
        refine XS.bipush X0.here hx rfl (hb hby d2_13) ?_
        show Steps p.tables e below (s₁.setTop (mkF m 15 #[iv p0] [(.int (97:Int32)), (.int p0)])) _
        by_cases hm15_5 : p0 < (97:Int32)
        · refine XS.icmpYes X0.here hx rfl (pc0 := 15) (pc' := 28) rfl (hb hby d2_15) rfl (XT.ii_lt_t hm15_5) (by decide) (by decide) ?_
          show Steps p.tables e below (s₁.setTop (mkF m 28 #[iv p0] [])) _
          refine XS.iconst X0.here hx rfl (hb hby d2_28) ?_
          rw [hw2_1.trans (((if_neg hm3_1).trans (if_pos hm9_4)).trans (if_pos hm15_5))] at k
          exact k
        · refine XS.icmpNo X0.here hx rfl (hb hby d2_15) rfl (XT.ii_lt_f hm15_5) ?_
          show Steps p.tables e below (s₁.setTop (mkF m 18 #[iv p0] [])) _
          refine XS.iloadN X0.here hx rfl (hb hby d2_18) rfl ?_
          show Steps p.tables e below (s₁.setTop (mkF m 19 #[iv p0] [(.int p0)])) _
          refine XS.bipush X0.here hx rfl (hb hby d2_19) ?_
          show Steps p.tables e below (s₁.setTop (mkF m 21 #[iv p0] [(.int (122:Int32)), (.int p0)])) _
          by_cases hm21_6 : (122:Int32) < p0
          · refine XS.icmpYes X0.here hx rfl (pc0 := 21) (pc' := 28) rfl (hb hby d2_21) rfl (XT.ii_gt_t hm21_6) (by decide) (by decide) ?_
            show Steps p.tables e below (s₁.setTop (mkF m 28 #[iv p0] [])) _
            refine XS.iconst X0.here hx rfl (hb hby d2_28) ?_
            rw [hw2_1.trans ((((if_neg hm3_1).trans (if_pos hm9_4)).trans (if_neg hm15_5)).trans (if_pos hm21_6))] at k
            exact k
          · refine XS.icmpNo X0.here hx rfl (hb hby d2_21) rfl (XT.ii_gt_f hm21_6) ?_
            show Steps p.tables e below (s₁.setTop (mkF m 24 #[iv p0] [])) _
            refine XS.iconst X0.here hx rfl (hb hby d2_24) ?_
            show Steps p.tables e below (s₁.setTop (mkF m 25 #[iv p0] [(.int (1:Int32))])) _
            refine XS.goto X0.here hx rfl (pc0 := 25) (pc' := 29) rfl (hb hby d2_25) (by decide) (by decide) ?_
            rw [hw2_1.trans ((((if_neg hm3_1).trans (if_pos hm9_4)).trans (if_neg hm15_5)).trans (if_neg hm21_6))] at k
            exact k
      · refine XS.icmpYes X0.here hx rfl (pc0 := 9) (pc' := 24) rfl (hb hby d2_9) rfl (XT.ii_le_t hm9_4) (by decide) (by decide) ?_
        show Steps p.tables e below (s₁.setTop (mkF m 24 #[iv p0] [])) _
        refine XS.iconst X0.here hx rfl (hb hby d2_24) ?_
        show Steps p.tables e below (s₁.setTop (mkF m 25 #[iv p0] [(.int (1:Int32))])) _
        refine XS.goto X0.here hx rfl (pc0 := 25) (pc' := 29) rfl (hb hby d2_25) (by decide) (by decide) ?_
        rw [hw2_1.trans ((if_neg hm3_1).trans (if_neg hm9_4))] at k
        exact k
  have hv2 : (w2_1 &&& 1) = f2 p0 := by subst hw2_1; rfl
  exact own_end X0 (BodyLoose.notSynchronized Bd) (fun h => by rw [Bd.returns] at h; cases h) (v := some (.int (w2_1 &&& 1))) (fun fs hr => retN X0 hx (t := .boolean) Bd.returns (by simp) (hb hby d2_29) hr) (by show Q2 Z p0 h0 n0 _ s₁.heap _; rw [e0]; exact ⟨(congrArg (fun z => some (Value.int z)) hv2), N0, rfl⟩) (by decide) (by decide)
theorem own_pd0 : parseMethodDescriptor "(C)Z" = some ⟨[.char], some .boolean⟩ := by decide +kernel
theorem ef0 (m : MethodId) (p0 : Int32) : entryFrame m #[(.int p0)] maxLocals = mkF m 0 #[iv p0, .unset, .unset] [] := by first | (simp [entryFrame, mkF, argsToLocals, Value.category, maxLocals]; done) | rfl
def f0 (p0 : Int32) : Int32 := (let w0_1 : Int32 := ((p0 &&& (65535:Int32)).toUInt32.toUInt16.toUInt32.toInt32); let w0_2 : Int32 := (if (f2 w0_1) = (f1 w0_1) then (1:Int32) else (0:Int32)); (w0_2 &&& 1))
def Q0 (Z : State) (p0 : Int32)  (h0 : Heap) (n0 : Nat) (v : Option Value) (h : Heap) (L : List Loc) : Prop := v = some (.int (f0 p0)) ∧ Fr n0 L
set_option maxRecDepth 65536 in
set_option maxHeartbeats 40000000 in
theorem rm0 (l : Launch) (Z : State) (aZ : Array Value) (hw : ∀ d ∈ tables_1, d.before aZ Z = true) (ws : List Jvm.Cond) (p0 : Int32)  (h0 : Heap) (n0 : Nat) (Z0 : n0 ≤ h0.size)  :
    MetFree l x (head1 (Jvm.Cond.code x code maxLocals ret :: ws) room_1) (fun a U => a = #[(.int p0)] ∧ Z.Warmed39 U.vm ∧ U.heap = h0) (fun _ _ _ _ _ => True) (fun _ U o U' => ∃ v L, o = .returned v ∧ Q0 Z p0 h0 n0 v U'.heap L ∧ FrameEnd U o U' L 0 0) := by
  refine MetFree.of_bodySF (plainFor_of_name own_pn0) hisR ?_
  intro p e s m args below meth c s₁ Bd hml0 hP hK
  obtain ⟨rfl, hZ, hh⟩ := hP
  have hx := Bd.exec
  have hby := Bd.bytes
  have hml : c.maxLocals = 3 := hml0
  have hown : s.vm.findClass "com/example/nestor/nestor/policy/NamesIsNameStartPinLaw" = some m.cls := findClass_of_methodNamed Bd.named
  have hnm := (name_of_methodNamed Bd.named Bd.method).1
  have X0 : Stand p l e room_1 s m #[(.int p0)] below meth c s₁ [] 0 0 := Stand.of_body Bd
  have e0 : s₁.heap = h0 := by rw [← hh, Bd.state]; rfl
  have N0 := Fr.nil n0
  show own_Goes p e below s (Q0 Z p0 h0 n0) 0 0 _
  refine own_pre (fun t k => castTop (ef0 m p0) k) ?_
  obtain ⟨w0_1, hw0_1⟩ : ∃ z : Int32, z = ((p0 &&& (65535:Int32)).toUInt32.toUInt16.toUInt32.toInt32) := ⟨_, rfl⟩
  refine own_pre (A := s₁.setTop (mkF m 7 #[iv p0, iv w0_1, .unset] [(.int w0_1)])) (fun t k => ?_) ?_
  · show Steps p.tables e below (s₁.setTop (mkF m 0 #[iv p0, .unset, .unset] [])) _
    refine XS.iloadN X0.here hx rfl (hb hby at_0) rfl ?_
    show Steps p.tables e below (s₁.setTop (mkF m 1 #[iv p0, .unset, .unset] [(.int p0)])) _
    refine Jvm.Stand.ldcI X0 hx hown (mvT hZ (own_h hw 0 rfl)) rfl (hb hby at_1) ?_
    show Steps p.tables e below (s₁.setTop (mkF m 3 #[iv p0, .unset, .unset] [(.int (65535:Int32)), (.int p0)])) _
    refine XS.iand X0.here hx rfl (hb hby at_3) rfl ?_
    show Steps p.tables e below (s₁.setTop (mkF m 4 #[iv p0, .unset, .unset] [(.int (p0 &&& (65535:Int32)))])) _
    refine XS.i2c X0.here hx rfl (hb hby at_4) rfl ?_
    show Steps p.tables e below (s₁.setTop (mkF m 5 #[iv p0, .unset, .unset] [(.int ((p0 &&& (65535:Int32)).toUInt32.toUInt16.toUInt32.toInt32))])) _
    refine XS.istoreN X0.here hx rfl (hb hby at_5) rfl (l' := #[iv p0, iv w0_1, .unset]) (by rw [hw0_1]; rfl) ?_
    show Steps p.tables e below (s₁.setTop (mkF m 6 #[iv p0, iv w0_1, .unset] [])) _
    refine XS.iloadN X0.here hx rfl (hb hby at_6) rfl ?_
    exact k
  obtain ⟨_, _, ⟨T3, L3, k3, n3⟩, -, X3, ⟨Lc3, hQ3, l3, y3, z3⟩, st3⟩ := Jvm.LawKit.callS X0 hx (y := (⟨"com/example/nestor/nestor/policy/NamesIsNameStartPinLaw", "isAsciiLetter", "(C)Z"⟩ : MethodName)) hown (mvT hZ (own_h hw 1 rfl)) (mvT hZ (own_h hw 2 rfl)) (mvT hZ (own_h hw 3 rfl)) (mvT hZ (own_h hw 4 rfl)) (by decide) (backOf (W := 0) (rm1 l Z aZ hw [] w0_1 h0 n0 Z0 ) hZ (own_h hw 4 rfl) (own_h hw 3 rfl) (by decide) (by decide)) (g := (mkF m 7 #[iv p0, iv w0_1, .unset] [(.int w0_1)])) rfl (by rw [hml]; rfl) (argsL := [(.int w0_1)]) (rest := []) (lenOf own_pd0 rfl) rfl (by show 2 * 0 + _ ≤ _; exact Nat.le_of_eq rfl) (hb hby at_7) (fun _ _ => ⟨rfl, e0, (by decide : 0 + 0 ≤ _), (by decide : 0 + 0 ≤ _)⟩)
  dsimp only [Pt.U, Pt.locs, Pt.cells, Pt.slots] at X3 l3 y3 z3 st3 hQ3
  subst l3 y3 z3
  obtain ⟨rfl, N3q, eh3⟩ := hQ3
  have N3 := Fr.app N0 N3q
  refine own_pre st3 ?_
  refine own_pre (A := T3.setTop (mkF m 12 #[iv p0, iv w0_1, iv (f1 w0_1)] [(.int w0_1)])) (fun t k => ?_) ?_
  · show Steps p.tables e below (T3.setTop (mkF m 10 #[iv p0, iv w0_1, .unset] [(.int (f1 w0_1))])) _
    refine XS.istoreN X3.here hx rfl (hb hby at_10) rfl (l' := #[iv p0, iv w0_1, iv (f1 w0_1)]) rfl ?_
    show Steps p.tables e below (T3.setTop (mkF m 11 #[iv p0, iv w0_1, iv (f1 w0_1)] [])) _
    refine XS.iloadN X3.here hx rfl (hb hby at_11) rfl ?_
    exact k
  obtain ⟨_, _, ⟨T4, L4, k4, n4⟩, -, X4, ⟨Lc4, hQ4, l4, y4, z4⟩, st4⟩ := Jvm.LawKit.callS X3 hx (y := (⟨"com/example/nestor/nestor/policy/Names", "isNameStart", "(C)Z"⟩ : MethodName)) hown (mvT hZ (own_h hw 5 rfl)) (mvT hZ (own_h hw 6 rfl)) (mvT hZ (own_h hw 7 rfl)) (mvT hZ (own_h hw 8 rfl)) (by decide) (backOf (W := 0) (rm2 l Z aZ hw [] w0_1 h0 n0 Z0 ) hZ (own_h hw 8 rfl) (own_h hw 7 rfl) (by decide) (by decide)) (g := (mkF m 12 #[iv p0, iv w0_1, iv (f1 w0_1)] [(.int w0_1)])) rfl (by rw [hml]; rfl) (argsL := [(.int w0_1)]) (rest := []) (lenOf own_pd0 rfl) rfl (by show 2 * 0 + _ ≤ _; exact Nat.le_of_eq rfl) (hb hby at_12) (fun _ _ => ⟨rfl, eh3, (by decide : 0 + 0 ≤ _), (by decide : 0 + 0 ≤ _)⟩)
  dsimp only [Pt.U, Pt.locs, Pt.cells, Pt.slots] at X4 l4 y4 z4 st4 hQ4
  subst l4 y4 z4
  obtain ⟨rfl, N4q, eh4⟩ := hQ4
  have N4 := Fr.app N3 N4q
  refine own_pre st4 ?_
  refine own_pre (A := T4.setTop (mkF m 16 #[iv p0, iv w0_1, iv (f1 w0_1)] [(.int (f1 w0_1)), (.int (f2 w0_1))])) (fun t k => ?_) ?_
  · show Steps p.tables e below (T4.setTop (mkF m 15 #[iv p0, iv w0_1, iv (f1 w0_1)] [(.int (f2 w0_1))])) _
    refine XS.iloadN X4.here hx rfl (hb hby at_15) rfl ?_
    exact k
  obtain ⟨w0_2, hw0_2⟩ : ∃ z : Int32, z = (if (f2 w0_1) = (f1 w0_1) then (1:Int32) else (0:Int32)) := ⟨_, rfl⟩
  refine own_pre (A := T4.setTop (mkF m 24 #[iv p0, iv w0_1, iv (f1 w0_1)] [(.int w0_2)])) (fun t k => ?_) ?_
  · show Steps p.tables e below (T4.setTop (mkF m 16 #[iv p0, iv w0_1, iv (f1 w0_1)] [(.int (f1 w0_1)), (.int (f2 w0_1))])) _
    by_cases hm16_1 : (f2 w0_1) = (f1 w0_1)
    · refine XS.icmpNo X4.here hx rfl (hb hby at_16) rfl (XT.ii_ne_f hm16_1) ?_
      show Steps p.tables e below (T4.setTop (mkF m 19 #[iv p0, iv w0_1, iv (f1 w0_1)] [])) _
      refine XS.iconst X4.here hx rfl (hb hby at_19) ?_
      show Steps p.tables e below (T4.setTop (mkF m 20 #[iv p0, iv w0_1, iv (f1 w0_1)] [(.int (1:Int32))])) _
      refine XS.goto X4.here hx rfl (pc0 := 20) (pc' := 24) rfl (hb hby at_20) (by decide) (by decide) ?_
      rw [hw0_2.trans (if_pos hm16_1)] at k
      exact k
    · refine XS.icmpYes X4.here hx rfl (pc0 := 16) (pc' := 23) rfl (hb hby at_16) rfl (XT.ii_ne_t hm16_1) (by decide) (by decide) ?_
      show Steps p.tables e below (T4.setTop (mkF m 23 #[iv p0, iv w0_1, iv (f1 w0_1)] [])) _
      refine XS.iconst X4.here hx rfl (hb hby at_23) ?_
      rw [hw0_2.trans (if_neg hm16_1)] at k
      exact k
  have hv5 : (w0_2 &&& 1) = f0 p0 := by subst hw0_1 hw0_2; rfl
  exact own_end X4 (BodyLoose.notSynchronized Bd) (fun h => by rw [Bd.returns] at h; cases h) (v := some (.int (w0_2 &&& 1))) (fun fs hr => retN X4 hx (t := .boolean) Bd.returns (by simp) (hb hby at_24) hr) (by show Q0 Z p0 h0 n0 _ T4.heap _; rw [eh4]; exact ⟨(congrArg (fun z => some (Value.int z)) hv5), N4⟩) (by decide) (by decide)
theorem own_eq (c : Int32) (h0 : 0 ≤ c.toInt) (h1 : c.toInt < 65536) : f2 c = f1 c := by
  have e := own_or32 c h0 h1
  have l1 : (65:Int32).toInt = 65 := rfl
  have l2 : (90:Int32).toInt = 90 := rfl
  have l3 : (97:Int32).toInt = 97 := rfl
  have l4 : (122:Int32).toInt = 122 := rfl
  simp only [f1, f2, Int32.lt_iff_toInt_lt, e, l1, l2, l3, l4]
  by_cases q : c.toInt % 64 < 32
  · simp only [if_pos q]; (repeat' split) <;> first | rfl | (exfalso; omega)
  · simp only [if_neg q]; (repeat' split) <;> first | rfl | (exfalso; omega)
theorem own_plain (p0 : Int32) : f0 p0 = 1 := by
  simp only [f0]
  rw [own_eq _ (own_c16 _).1 (own_c16 _).2, if_pos rfl]
  rfl
set_option maxRecDepth 65536 in
set_option maxHeartbeats 40000000 in
theorem comes_1 {Post : Tables → Env → Array Value → State → Outcome → State → Prop} (hpost : ∀ tb e args s v u, (limb_1_1.after args s (.returned v) u = true ∧ limb_1_2.after args s (.returned v) u = true ∧ True) → FrameEnd s (.returned v) u (Jvm.fieldLocs frame_1_writes args s ++ Jvm.arrayLocs frame_1_arrays args s ++ Jvm.staticLocs frame_1_statics s) 0 0 → Post tb e args s (.returned v) u) :
    ArmFor flags0 classFile x code maxLocals ret World_1 tables_1 room_1 Calls_1 rest_1 Pre_1 Post := by
  intro l hfl _ _ p e ha hc hk s m args below hf hA hF happ hP
  obtain ⟨hcalls, hrest, hpre⟩ := hP
  obtain ⟨-, -, -, hnamed, -, -, -, hat⟩ := (Spec.applies_iff hf).mp happ
  obtain ⟨hg, hn⟩ := and_e (Cond.before_iff.mp (show (Jvm.Cond.and given_1 narrow_1).before args s = true from hpre))
  obtain ⟨g2, g3⟩ := and_e hg
  obtain ⟨w0, rfl⟩ : ∃ w0 : Value, args = #[w0] := by
    have hs : args.size = 1 := by simpa [Cond.value, given_1] using g2
    obtain ⟨L⟩ := args
    match L, hs with
    | [w0], _ => exact ⟨w0, rfl⟩
  have hw := fun d (hd : d ∈ tables_1) => atoms_spec (ws := Jvm.Cond.code x code maxLocals ret :: tables_1) hat d (List.mem_cons_of_mem _ hd)
  obtain ⟨i0, ei0⟩ := is_v g3
  obtain rfl : w0 = (.int i0) := Option.some.inj ei0
  obtain ⟨n, o, h1, h2, h3, _, L, rfl, ⟨hv, N⟩, hq⟩ := rm0 l s _ hw tables_1 i0 s.heap s.heap.size (Nat.le_refl _)  p e ha hc hk s m _ below hf ((Spec.applies_iff_loose hf).mp happ).1 ⟨rfl, State.Warmed39.refl s, rfl⟩ trivial
  rw [own_plain] at hv
  subst hv
  refine ⟨n, _, h1, h2, h3, hpost _ _ _ _ _ _ ⟨Cond.after_iff.mpr rfl, Cond.after_iff.mpr (eq_i res_at (Term.int_eval (1)) rfl), trivial⟩ ⟨hq.1, hq.2.1, (hq.2.2.sift fun y hy => Or.inr (N y hy)).mono (by decide) (by decide)⟩⟩
theorem main_1_1 : Claimed_1_1 := comes_1 fun _ _ _ _ _ _ h hF => ⟨h.1, hF⟩
theorem main_1_2 : Claimed_1_2 := comes_1 fun _ _ _ _ _ _ h hF => ⟨h.2.1, hF⟩
end Jvm.Pilot.@@N@@
namespace Jvm.Pilot.@@N@@
open Jvm Jvm.ClassFile Sem Op Lib Jvm.Free Jvm.Stand Jvm.Pilot.@@N@@.Jvm.D
/-! MADE BY PROGRAM (witnessworld.py) out of the Statement's table words and the real class files: 9 classes; the members and pool entries that the words name. The judged class is class 1, her method 1. -/
namespace start1
open Jvm.ClassFile
def u (s : String) : CpInfo := .utf8 (stringToUtf16 s)
/-- a pool by its gaps: so many unusable entries, then the entry; so many at the end -/
def gap : Nat → List CpInfo → List CpInfo
  | 0, r => r
  | n + 1, r => .unusable :: gap n r
def poolList (es : List (Nat × CpInfo)) (last : Nat) : List CpInfo := es.foldr (fun e r => gap e.1 (e.2 :: r)) (gap last [])
def pool (es : List (Nat × CpInfo)) (last : Nat) : Array CpInfo := ⟨poolList es last⟩
def fileOf (pool : Array CpInfo) (this : Nat) (attrs : Array Attribute := #[]) (ms : Array MethodInfo := #[]) (fl : Nat := 33) (sup : Nat := 0) (ifs : Array Nat := #[]) (fds : Array FieldInfo := #[]) : ClassFile where
  minorVersion := 0
  majorVersion := 65
  constantPool := pool
  accessFlags := fl
  thisClass := this
  superClass := sup
  interfaces := ifs
  fields := fds
  methods := ms
  attributes := attrs
def plain (name : String) (sup : Option ClassId) : Class where
  name := name
  kind := .ordinary
  loader := none
  accessFlags := 33
  super := sup
  interfaces := #[]
  cf := none
  fields := #[]
  methods := #[]
  instanceTypes := #[]
  staticTypes := #[]
  resolved := #[]
  callSites := []
  init := .initialized
  statics := none
  mirror := none

def pool0 : Array CpInfo := pool [(5, u "<init>"), (0, u "()V"), (1, .class_ 10), (1, u "java/lang/Object")] 113

def k0m0 : Method := { name := "<init>", desc := "()V", sig := { parameters := [], returnType := none }, accessFlags := 1, code := none }
/-- java/lang/Object -/
def k0 : Class := { plain "java/lang/Object" none with
  accessFlags := 33
  interfaces := #[]
  cf := some (fileOf pool0 8 #[] #[{ accessFlags := 1, nameIndex := 5, descriptorIndex := 6, attributes := #[] }] 33 0 #[] #[])
  fields := #[]
  methods := #[k0m0]
  instanceTypes := #[]
  staticTypes := #[]
  resolved := Array.replicate 124 none
  statics := none }

def pool1 : Array CpInfo := pool [(2, .class_ 4), (1, u "java/lang/Object"), (0, u "<init>"), (0, u "()V"), (0, .integer 65535), (0, .methodref 9 10), (0, .class_ 11), (0, .nameAndType 12 13), (0, u "com/example/nestor/nestor/policy/NamesIsNameStartPinLaw"), (0, u "isAsciiLetter"), (0, u "(C)Z"), (0, .methodref 15 16), (0, .class_ 17), (0, .nameAndType 18 13), (0, u "com/example/nestor/nestor/policy/Names"), (0, u "isNameStart"), (2, u "law"), (0, u "(I)Z")] 3

def k1m0 : Method := { name := "<init>", desc := "()V", sig := { parameters := [], returnType := none }, accessFlags := 2, code := none }
def k1c1 : Code := { maxStack := 2, maxLocals := 3, code := code, exceptionTable := #[], attributes := #[] }
def k1m1 : Method := { name := "law", desc := "(I)Z", sig := { parameters := [.int], returnType := some .boolean }, accessFlags := 9, code := some k1c1 }
def k1c2 : Code := { maxStack := 2, maxLocals := 2, code := method_3_code, exceptionTable := #[], attributes := #[] }
def k1m2 : Method := { name := "isAsciiLetter", desc := "(C)Z", sig := { parameters := [.char], returnType := some .boolean }, accessFlags := 10, code := some k1c2 }
/-- com/example/nestor/nestor/policy/NamesIsNameStartPinLaw -/
def k1 : Class := { plain "com/example/nestor/nestor/policy/NamesIsNameStartPinLaw" (some 0) with
  accessFlags := 49
  interfaces := #[]
  cf := some (fileOf pool1 9 #[] #[{ accessFlags := 2, nameIndex := 5, descriptorIndex := 6, attributes := #[] }, { accessFlags := 9, nameIndex := 21, descriptorIndex := 22, attributes := #[] }, { accessFlags := 10, nameIndex := 12, descriptorIndex := 13, attributes := #[] }] 49 2 #[] #[])
  fields := #[]
  methods := #[k1m0, k1m1, k1m2]
  instanceTypes := #[]
  staticTypes := #[]
  resolved := Array.replicate 26 none
  statics := none }

def pool2 : Array CpInfo := pool [(2, .class_ 4), (1, u "java/lang/Object"), (0, u "<init>"), (0, u "()V"), (11, .class_ 20), (1, u "com/example/nestor/nestor/policy/Names"), (0, u "isNameStart"), (0, u "(C)Z"), (60, u "KEYWORDS"), (0, u "Ljava/util/Set;")] 19

def k2m0 : Method := { name := "<init>", desc := "()V", sig := { parameters := [], returnType := none }, accessFlags := 2, code := none }
def k2c1 : Code := { maxStack := 2, maxLocals := 1, code := prog_66_method_5_code, exceptionTable := #[], attributes := #[] }
def k2m1 : Method := { name := "isNameStart", desc := "(C)Z", sig := { parameters := [.char], returnType := some .boolean }, accessFlags := 8, code := some k2c1 }
/-- com/example/nestor/nestor/policy/Names -/
def k2 : Class := { plain "com/example/nestor/nestor/policy/Names" (some 0) with
  accessFlags := 49
  interfaces := #[]
  cf := some (fileOf pool2 18 #[] #[{ accessFlags := 2, nameIndex := 5, descriptorIndex := 6, attributes := #[] }, { accessFlags := 8, nameIndex := 21, descriptorIndex := 22, attributes := #[] }] 49 2 #[] #[{ accessFlags := 26, nameIndex := 83, descriptorIndex := 84, attributes := #[] }])
  fields := #[{ name := "KEYWORDS", type := (.object "java/util/Set"), accessFlags := 26, slot := 0, constantValue := 0 }]
  methods := #[k2m0, k2m1]
  instanceTypes := #[]
  staticTypes := #[(.object "java/util/Set")]
  resolved := Array.replicate 104 none
  statics := none }

def pool3 : Array CpInfo := pool [(1, u "java/lang/Cloneable"), (0, .class_ 1), (0, u "java/lang/Object"), (0, .class_ 3)] 3

/-- java/lang/Cloneable -/
def k3 : Class := { plain "java/lang/Cloneable" (some 0) with
  accessFlags := 1537
  interfaces := #[]
  cf := some (fileOf pool3 2 #[] #[] 1537 4 #[] #[])
  fields := #[]
  methods := #[]
  instanceTypes := #[]
  staticTypes := #[]
  resolved := Array.replicate 8 none
  statics := none }

def pool4 : Array CpInfo := pool [(1, u "java/io/Serializable"), (0, .class_ 1), (0, u "java/lang/Object"), (0, .class_ 3)] 3

/-- java/io/Serializable -/
def k4 : Class := { plain "java/io/Serializable" (some 0) with
  accessFlags := 1537
  interfaces := #[]
  cf := some (fileOf pool4 2 #[] #[] 1537 4 #[] #[])
  fields := #[]
  methods := #[]
  instanceTypes := #[]
  staticTypes := #[]
  resolved := Array.replicate 8 none
  statics := none }

/-- the primitive byte -/
def k5 : Class := { plain "byte" none with kind := .primitive 'B', accessFlags := 0x411 }
/-- [B -/
def k6 : Class := { plain "[B" (some 0) with kind := .array 5 .byte, interfaces := #[3, 4], accessFlags := 1041 }

/-- the primitive int -/
def k7 : Class := { plain "int" none with kind := .primitive 'I', accessFlags := 0x411 }
/-- [I -/
def k8 : Class := { plain "[I" (some 0) with kind := .array 7 .int, interfaces := #[3, 4], accessFlags := 1041 }

def heap : Heap := #[]
def classes : Array Class := #[k0, k1, k2, k3, k4, k5, k6, k7, k8]
def interned : List (Array UInt16 × Addr) := []
def slotsUsed : Nat := 0
def theMethod : MethodId := ⟨1, 1⟩
def args0 : Array Value := #[.int 5]
def aboutOver (below : List Frame) : State where
  vm := { classes := classes, interned := interned.toArray }
  heap := heap
  slotsUsed := slotsUsed
  threads := #[{ frames := .invoking theMethod args0 :: below }]
def below0 : List Frame := [.native { method := ⟨0, 0⟩, args := #[] }]
def about1 : State := aboutOver below0
def p0 : Program := .bare "" "" ""
def e0 : Env := launch0.env 0 0 0
theorem w_frames : about1.frames = Frame.invoking theMethod args0 :: below0 := rfl
set_option maxRecDepth 65536 in
theorem w_args : argsFit about1.vm theMethod args0 = true := by decide +kernel
set_option maxRecDepth 65536 in
theorem w_heap : heapFits about1 = true := by decide +kernel
set_option maxRecDepth 65536 in
theorem w_runnable : about1.curStatus? = some .runnable := by decide +kernel
set_option maxRecDepth 65536 in
theorem w_alone : about1.alone = true := by decide +kernel
set_option maxRecDepth 65536 in
theorem w_named : about1.methodNamed? x = some theMethod := by decide +kernel
set_option maxRecDepth 65536 in
theorem w_hears : about1.hears theMethod below0 = true := by decide +kernel
set_option maxRecDepth 65536 in
theorem w_ripe : about1.ripe theMethod args0 below0 = true := by decide +kernel
theorem w_running : about1.status = .running := rfl
set_option maxRecDepth 65536 in
theorem w_room : about1.hasRoom e0.platform room_1 = true :=
  launch0.hasRoom_least _ room_1 (by decide +kernel) (by decide +kernel) (by decide +kernel) (by decide +kernel) (by decide +kernel) (by decide +kernel)
theorem allAtoms_all (ts : List Jvm.Cond) (a : Array Jvm.Value) (st : Jvm.State) : (allAtoms ts).before a st = ts.all (fun c => c.before a st) := by
  induction ts with
  | nil => rfl
  | cons c t ih =>
    show (Jvm.Cond.and c (allAtoms t)).before a st = _
    rw [Jvm.Cond.before_and, ih, List.all_cons]
def words1 : List Jvm.Cond := Jvm.Cond.code x code maxLocals ret :: tables_1
/-- a 'code' word, met by the world's own term for the bytes: nothing is compared byte by byte -/
theorem code_word {y : MethodName} {bytes : ByteArray} {mx : Nat} {rt : Option FieldType} {a : Array Value} {s : State} {m : MethodId} {meth : Method} {c : Code} (h1 : s.methodNamed? y = some m) (h2 : s.vm.method? m = some meth) (h3 : meth.code = some c) (h4 : c.code = bytes)
    (h5 : (c.maxLocals == mx && c.exceptionTable.isEmpty && decide (c.maxStack ≤ mostOperands) && decide (meth.sig.returnType = rt) && !meth.locks && decide (parseMethodDescriptor y.desc = some meth.sig)) = true) : (Jvm.Cond.code y bytes mx rt).before a s = true := by
  simp only [Bool.and_eq_true, beq_iff_eq, Bool.not_eq_true', decide_eq_true_eq] at h5
  obtain ⟨⟨⟨⟨⟨g1, g2⟩, g3⟩, g4⟩, g5⟩, g6⟩ := h5
  simp [Cond.before, Cond.holds, Cond.value, h1, h2, h3, h4, g1, g2, g3, g4, g5, g6]
def isCode : Jvm.Cond → Bool
  | .code _ _ _ _ => true
  | _ => false
theorem all_split {L : List Jvm.Cond} {P : Jvm.Cond → Bool} (h1 : L.all (fun c => isCode c || P c) = true) (h2 : ∀ c ∈ L.filter isCode, P c = true) : L.all P = true := by
  refine List.all_eq_true.mpr fun c hc => ?_
  have h := List.all_eq_true.mp h1 c hc
  rcases Bool.eq_false_or_eq_true (isCode c) with hi | hi
  · exact h2 c (List.mem_filter.mpr ⟨hc, hi⟩)
  · simpa [hi] using h
set_option maxRecDepth 65536 in
theorem w_c0 : (Jvm.Cond.code x code maxLocals ret).before args0 about1 = true := code_word (m := ⟨1, 1⟩) (meth := k1m1) (c := k1c1) (by decide +kernel) rfl rfl rfl (by decide +kernel)
set_option maxRecDepth 65536 in
theorem w_c1 : (Jvm.Cond.code ({ cls := "com/example/nestor/nestor/policy/NamesIsNameStartPinLaw", name := "isAsciiLetter", desc := "(C)Z" } : Jvm.MethodName) method_3_code (2 : Nat) (Option.some Jvm.ClassFile.FieldType.boolean)).before args0 about1 = true := code_word (m := ⟨1, 2⟩) (meth := k1m2) (c := k1c2) (by decide +kernel) rfl rfl rfl (by decide +kernel)
set_option maxRecDepth 65536 in
theorem w_c2 : (Jvm.Cond.code ({ cls := "com/example/nestor/nestor/policy/Names", name := "isNameStart", desc := "(C)Z" } : Jvm.MethodName) prog_66_method_5_code (1 : Nat) (Option.some Jvm.ClassFile.FieldType.boolean)).before args0 about1 = true := code_word (m := ⟨2, 1⟩) (meth := k2m1) (c := k2c1) (by decide +kernel) rfl rfl rfl (by decide +kernel)
def codes1 : List Jvm.Cond := [Jvm.Cond.code x code maxLocals ret, Jvm.Cond.code ({ cls := "com/example/nestor/nestor/policy/NamesIsNameStartPinLaw", name := "isAsciiLetter", desc := "(C)Z" } : Jvm.MethodName) method_3_code (2 : Nat) (Option.some Jvm.ClassFile.FieldType.boolean), Jvm.Cond.code ({ cls := "com/example/nestor/nestor/policy/Names", name := "isNameStart", desc := "(C)Z" } : Jvm.MethodName) prog_66_method_5_code (1 : Nat) (Option.some Jvm.ClassFile.FieldType.boolean)]
set_option maxRecDepth 65536 in
theorem codes_eq : words1.filter isCode = codes1 := rfl
theorem w_codes : ∀ c ∈ words1.filter isCode, c.before args0 about1 = true := by
  rw [codes_eq]
  intro c hc
  simp only [codes1, List.mem_cons, List.not_mem_nil, or_false] at hc
  rcases hc with rfl | rfl | rfl
  · exact w_c0
  · exact w_c1
  · exact w_c2
set_option maxRecDepth 65536 in
theorem w_t1 : words1.all (fun c => isCode c || c.before args0 about1) = true := by decide +kernel
theorem w_tables : (allAtoms (Jvm.Cond.code x code maxLocals ret :: tables_1)).before args0 about1 = true := by
  rw [allAtoms_all]
  show words1.all (fun c => c.before args0 about1) = true
  refine all_split ?_ w_codes
  rw [w_t1]
set_option maxRecDepth 65536 in
theorem w_case : (Jvm.Cond.and given_1 narrow_1).before args0 about1 = true := by decide +kernel
theorem w_applies : (headSpec (Jvm.Cond.code x code maxLocals ret :: tables_1) room_1).applies x e0.platform about1 = true :=
  (Spec.applies_iff w_frames).mpr ⟨w_running, w_runnable, w_alone, w_named, w_hears, w_ripe, w_room, w_tables⟩
theorem atStart : AtStart classFile x code maxLocals ret World_1 tables_1 room_1 Calls_1 rest_1 Pre_1 launch0 p0 e0 about1 theMethod args0 below0 :=
  ⟨lists_1, trivial, launch0.admits_env _ _ _, launch0.least_env, fairChoices_fair.cas, fairChoices_fair.clock, w_frames, w_args, w_heap, w_applies, trivial, trivial, w_case⟩
end start1
theorem witness_1 : WitnessClaimed_1 := ⟨start1.p0, start1.e0, start1.about1, start1.theMethod, start1.args0, start1.below0, start1.atStart⟩
end Jvm.Pilot.@@N@@
