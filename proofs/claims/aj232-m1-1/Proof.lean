import JvmDerived
import JvmDerived.Pilot.@@N@@Statement
import JvmDerived.Pilot.@@N@@Code
set_option linter.unusedVariables false
set_option linter.unusedSimpArgs false
@@BLOCK:NumsL.lean.txt@@
namespace Jvm.Pilot.@@N@@
open Jvm Jvm.ClassFile Sem Op Lib Jvm.Free Jvm.Stand Jvm.LawKit Jvm.RoadKit Bundle Jvm.Pilot.@@N@@.Jvm.D
def own_Goes (p : Program) (e : Env) (below : List Frame) (s : State) (Q : Option Value → Heap → List Loc → Prop) (ce sl : Nat) (A : State) : Prop :=
  ∃ s₂ o, Steps p.tables e below A s₂ ∧ s₂.status = .running ∧ Ended s₂ below o ∧ ∃ v L, o = .returned v ∧ Q v s₂.heap L ∧ FrameEnd s o s₂ L ce sl
theorem own_pre {p : Program} {e : Env} {below : List Frame} {s : State} {Q : Option Value → Heap → List Loc → Prop} {ce sl : Nat} {A B : State} (h : ∀ t, Steps p.tables e below A t → Steps p.tables e below B t) (G : own_Goes p e below s Q ce sl A) : own_Goes p e below s Q ce sl B := by
  obtain ⟨s₂, o, h1, r⟩ := G
  exact ⟨s₂, o, h _ h1, r⟩
theorem own_end {p : Program} {l : Launch} {e : Env} {R : Room} {s : State} {m : MethodId} {args : Array Value} {below : List Frame} {meth : Method} {c : Code} {T : State} {locs : List Loc} {cells slots : Nat} (X : Stand p l e R s m args below meth c T locs cells slots)
    {v : Option Value} {Q : Option Value → Heap → List Loc → Prop} {ce sl : Nat} {A : State} (hlocks : meth.locks = false) (hv : meth.sig.returnType = none → v = none)
    (hstep : ∀ fs, (∀ (f : JFrame) (acts : List Action), f.method = m → f.locked = none → f.entered = [] → (doReturn e (T.setTop f) acts v).1 = T.setFrames fs) → Steps p.tables e below A (T.setFrames fs))
    (hQ : Q v T.heap locs) (hc : cells ≤ ce) (hs : slots ≤ sl) : own_Goes p e below s Q ce sl A := by
  obtain ⟨fs, hr, hrun, hended, hW, hsame⟩ := X.leave hv hlocks
  exact ⟨_, _, hstep fs hr, hrun, hended, _, _, rfl, hQ, ⟨_, rfl⟩, hW, hsame.mono hc hs⟩
theorem own_lrem_eq (x y : Int64) : x - (x / y) * y = x % y := Int64.toInt_inj.mp (by rw [Jvm.Kit.i64_rem, Int64.toInt_mod])
theorem own_lrem {tb : Tables} [Ours tb] {e : Env} {below : List Frame} {T target : State} {m : MethodId} {c : Code} {g : JFrame} (h : At T m c below) (hx : tb.exec = Jvm.exec) (hg : g.method = m) {x y : Int64} {rest : List Value} (hd : decode c.code g.pc = .ok (.lrem, 1)) (hs : g.stack = .long y :: .long x :: rest) (hy : y ≠ 0)
    (hr : Steps tb e below (T.setTop { g with pc := g.pc + 1, stack := .long (x % y) :: rest }) target) : Steps tb e below (T.setTop g) target :=
  XS.lrem h hx hg hd hs hy (by rw [own_lrem_eq]; exact hr)
theorem own_h {a0 : Array Value} {Z : State} {L : List Jvm.Cond} (hw : ∀ d ∈ L, d.before a0 Z = true) (i : Nat) {d : Jvm.Cond} (h : L[i]? = some d) : d.before a0 Z = true := hw _ (List.mem_of_getElem? h)
theorem own_amt {y : Int32} {j : Nat} (hj : y.toInt % 64 = (j : Int)) : j < 64 ∧ (y &&& 0x3f) = Int32.ofNat j := by
  have h : (y &&& (0x3f : Int32)).toInt = y.toInt % 2 ^ 6 := Jvm.Kit.i32_mask y _ (k := 6) (by decide) (by decide)
  have hl : j < 64 := by omega
  refine ⟨hl, ?_⟩
  rw [← Int32.toInt_inj, h, Int32.toInt_ofNat_small (by omega)]
  exact hj
theorem own_lshl (x : Int64) {y : Int32} {j : Nat} (hj : y.toInt % 64 = (j : Int)) : (x <<< (y &&& 0x3f).toInt64).toBitVec = x.toBitVec <<< j := by
  obtain ⟨hl, e⟩ := own_amt hj
  have key : ∀ n : Fin 64, ((Int32.ofNat n.val).toInt64.toBitVec.smod 64).toNat = n.val := by decide +kernel
  rw [Int64.toBitVec_shiftLeft, e, BitVec.shiftLeft_eq', key ⟨j, hl⟩]
theorem own_lushr (x : Int64) {y : Int32} {j : Nat} (hj : y.toInt % 64 = (j : Int)) : ((x.toUInt64 >>> (y &&& 0x3f).toInt64.toUInt64).toInt64).toBitVec = x.toBitVec >>> j := by
  obtain ⟨hl, e⟩ := own_amt hj
  have key : ∀ n : Fin 64, ((Int32.ofNat n.val).toInt64.toUInt64.toBitVec % 64).toNat = n.val := by decide +kernel
  rw [UInt64.toBitVec_toInt64, UInt64.toBitVec_shiftRight, Int64.toBitVec_toUInt64, e, BitVec.ushiftRight_eq', key ⟨j, hl⟩]
theorem own_shl1 (x : BitVec 64) (j : Nat) (h : j < 64) : x <<< 1 <<< (63 - j) = if j = 0 then 0 else x <<< (64 - j) := by
  rw [← BitVec.shiftLeft_add]
  split
  · rw [BitVec.shiftLeft_eq_zero (by omega)]; rfl
  · rw [show 1 + (63 - j) = 64 - j by omega]
theorem own_shr1 (x : BitVec 64) (j : Nat) (h : j < 64) : x >>> 1 >>> (63 - j) = if j = 0 then 0 else x >>> (64 - j) := by
  rw [← BitVec.shiftRight_add]
  split
  · rw [BitVec.ushiftRight_eq_zero (by omega)]; rfl
  · rw [show 1 + (63 - j) = 64 - j by omega]
theorem own_pn0 : plainName "com/example/lexarray/lexarray/model/TrieBytesAtLeastPinLaw" = true := by first | (simp [plainName, overriddenIn]; done) | decide +kernel
theorem d1_0 : decode method_3_code 0 = .ok (.lconst 0, 1) := by decide +kernel
theorem d1_1 : decode method_3_code 1 = .ok (.lstore_n 1, 1) := by decide +kernel
theorem d1_2 : decode method_3_code 2 = .ok (.lload_n 1, 1) := by decide +kernel
theorem d1_3 : decode method_3_code 3 = .ok (.iload_n 0, 1) := by decide +kernel
theorem d1_4 : decode method_3_code 4 = .ok (.iconst 1, 1) := by decide +kernel
theorem d1_5 : decode method_3_code 5 = .ok (.iand, 1) := by decide +kernel
theorem d1_6 : decode method_3_code 6 = .ok (.ifCond .eq 9, 3) := by decide +kernel
theorem d1_9 : decode method_3_code 9 = .ok (.ldc2_w 24, 3) := by decide +kernel
theorem d1_12 : decode method_3_code 12 = .ok (.goto 4, 3) := by decide +kernel
theorem d1_15 : decode method_3_code 15 = .ok (.lconst 0, 1) := by decide +kernel
theorem d1_16 : decode method_3_code 16 = .ok (.lor, 1) := by decide +kernel
theorem d1_17 : decode method_3_code 17 = .ok (.lstore_n 1, 1) := by decide +kernel
theorem d1_18 : decode method_3_code 18 = .ok (.lload_n 1, 1) := by decide +kernel
theorem d1_19 : decode method_3_code 19 = .ok (.iload_n 0, 1) := by decide +kernel
theorem d1_20 : decode method_3_code 20 = .ok (.iconst 1, 1) := by decide +kernel
theorem d1_21 : decode method_3_code 21 = .ok (.iushr, 1) := by decide +kernel
theorem d1_22 : decode method_3_code 22 = .ok (.iconst 1, 1) := by decide +kernel
theorem d1_23 : decode method_3_code 23 = .ok (.iand, 1) := by decide +kernel
theorem d1_24 : decode method_3_code 24 = .ok (.ifCond .eq 9, 3) := by decide +kernel
theorem d1_27 : decode method_3_code 27 = .ok (.ldc2_w 26, 3) := by decide +kernel
theorem d1_30 : decode method_3_code 30 = .ok (.goto 4, 3) := by decide +kernel
theorem d1_33 : decode method_3_code 33 = .ok (.lconst 0, 1) := by decide +kernel
theorem d1_34 : decode method_3_code 34 = .ok (.lor, 1) := by decide +kernel
theorem d1_35 : decode method_3_code 35 = .ok (.lstore_n 1, 1) := by decide +kernel
theorem d1_36 : decode method_3_code 36 = .ok (.lload_n 1, 1) := by decide +kernel
theorem d1_37 : decode method_3_code 37 = .ok (.iload_n 0, 1) := by decide +kernel
theorem d1_38 : decode method_3_code 38 = .ok (.iconst 2, 1) := by decide +kernel
theorem d1_39 : decode method_3_code 39 = .ok (.iushr, 1) := by decide +kernel
theorem d1_40 : decode method_3_code 40 = .ok (.iconst 1, 1) := by decide +kernel
theorem d1_41 : decode method_3_code 41 = .ok (.iand, 1) := by decide +kernel
theorem d1_42 : decode method_3_code 42 = .ok (.ifCond .eq 9, 3) := by decide +kernel
theorem d1_45 : decode method_3_code 45 = .ok (.ldc2_w 28, 3) := by decide +kernel
theorem d1_48 : decode method_3_code 48 = .ok (.goto 4, 3) := by decide +kernel
theorem d1_51 : decode method_3_code 51 = .ok (.lconst 0, 1) := by decide +kernel
theorem d1_52 : decode method_3_code 52 = .ok (.lor, 1) := by decide +kernel
theorem d1_53 : decode method_3_code 53 = .ok (.lstore_n 1, 1) := by decide +kernel
theorem d1_54 : decode method_3_code 54 = .ok (.lload_n 1, 1) := by decide +kernel
theorem d1_55 : decode method_3_code 55 = .ok (.iload_n 0, 1) := by decide +kernel
theorem d1_56 : decode method_3_code 56 = .ok (.iconst 3, 1) := by decide +kernel
theorem d1_57 : decode method_3_code 57 = .ok (.iushr, 1) := by decide +kernel
theorem d1_58 : decode method_3_code 58 = .ok (.iconst 1, 1) := by decide +kernel
theorem d1_59 : decode method_3_code 59 = .ok (.iand, 1) := by decide +kernel
theorem d1_60 : decode method_3_code 60 = .ok (.ifCond .eq 9, 3) := by decide +kernel
theorem d1_63 : decode method_3_code 63 = .ok (.ldc2_w 30, 3) := by decide +kernel
theorem d1_66 : decode method_3_code 66 = .ok (.goto 4, 3) := by decide +kernel
theorem d1_69 : decode method_3_code 69 = .ok (.lconst 0, 1) := by decide +kernel
theorem d1_70 : decode method_3_code 70 = .ok (.lor, 1) := by decide +kernel
theorem d1_71 : decode method_3_code 71 = .ok (.lstore_n 1, 1) := by decide +kernel
theorem d1_72 : decode method_3_code 72 = .ok (.lload_n 1, 1) := by decide +kernel
theorem d1_73 : decode method_3_code 73 = .ok (.iload_n 0, 1) := by decide +kernel
theorem d1_74 : decode method_3_code 74 = .ok (.iconst 4, 1) := by decide +kernel
theorem d1_75 : decode method_3_code 75 = .ok (.iushr, 1) := by decide +kernel
theorem d1_76 : decode method_3_code 76 = .ok (.iconst 1, 1) := by decide +kernel
theorem d1_77 : decode method_3_code 77 = .ok (.iand, 1) := by decide +kernel
theorem d1_78 : decode method_3_code 78 = .ok (.ifCond .eq 9, 3) := by decide +kernel
theorem d1_81 : decode method_3_code 81 = .ok (.ldc2_w 32, 3) := by decide +kernel
theorem d1_84 : decode method_3_code 84 = .ok (.goto 4, 3) := by decide +kernel
theorem d1_87 : decode method_3_code 87 = .ok (.lconst 0, 1) := by decide +kernel
theorem d1_88 : decode method_3_code 88 = .ok (.lor, 1) := by decide +kernel
theorem d1_89 : decode method_3_code 89 = .ok (.lstore_n 1, 1) := by decide +kernel
theorem d1_90 : decode method_3_code 90 = .ok (.lload_n 1, 1) := by decide +kernel
theorem d1_91 : decode method_3_code 91 = .ok (.iload_n 0, 1) := by decide +kernel
theorem d1_92 : decode method_3_code 92 = .ok (.iconst 5, 1) := by decide +kernel
theorem d1_93 : decode method_3_code 93 = .ok (.iushr, 1) := by decide +kernel
theorem d1_94 : decode method_3_code 94 = .ok (.iconst 1, 1) := by decide +kernel
theorem d1_95 : decode method_3_code 95 = .ok (.iand, 1) := by decide +kernel
theorem d1_96 : decode method_3_code 96 = .ok (.ifCond .eq 9, 3) := by decide +kernel
theorem d1_99 : decode method_3_code 99 = .ok (.ldc2_w 34, 3) := by decide +kernel
theorem d1_102 : decode method_3_code 102 = .ok (.goto 4, 3) := by decide +kernel
theorem d1_105 : decode method_3_code 105 = .ok (.lconst 0, 1) := by decide +kernel
theorem d1_106 : decode method_3_code 106 = .ok (.lor, 1) := by decide +kernel
theorem d1_107 : decode method_3_code 107 = .ok (.lstore_n 1, 1) := by decide +kernel
theorem d1_108 : decode method_3_code 108 = .ok (.lload_n 1, 1) := by decide +kernel
theorem d1_109 : decode method_3_code 109 = .ok (.iload_n 0, 1) := by decide +kernel
theorem d1_110 : decode method_3_code 110 = .ok (.bipush 6, 2) := by decide +kernel
theorem d1_112 : decode method_3_code 112 = .ok (.iushr, 1) := by decide +kernel
theorem d1_113 : decode method_3_code 113 = .ok (.iconst 1, 1) := by decide +kernel
theorem d1_114 : decode method_3_code 114 = .ok (.iand, 1) := by decide +kernel
theorem d1_115 : decode method_3_code 115 = .ok (.ifCond .eq 9, 3) := by decide +kernel
theorem d1_118 : decode method_3_code 118 = .ok (.ldc2_w 36, 3) := by decide +kernel
theorem d1_121 : decode method_3_code 121 = .ok (.goto 4, 3) := by decide +kernel
theorem d1_124 : decode method_3_code 124 = .ok (.lconst 0, 1) := by decide +kernel
theorem d1_125 : decode method_3_code 125 = .ok (.lor, 1) := by decide +kernel
theorem d1_126 : decode method_3_code 126 = .ok (.lstore_n 1, 1) := by decide +kernel
theorem d1_127 : decode method_3_code 127 = .ok (.lload_n 1, 1) := by decide +kernel
theorem d1_128 : decode method_3_code 128 = .ok (.iload_n 0, 1) := by decide +kernel
theorem d1_129 : decode method_3_code 129 = .ok (.bipush 7, 2) := by decide +kernel
theorem d1_131 : decode method_3_code 131 = .ok (.iushr, 1) := by decide +kernel
theorem d1_132 : decode method_3_code 132 = .ok (.iconst 1, 1) := by decide +kernel
theorem d1_133 : decode method_3_code 133 = .ok (.iand, 1) := by decide +kernel
theorem d1_134 : decode method_3_code 134 = .ok (.ifCond .eq 9, 3) := by decide +kernel
theorem d1_137 : decode method_3_code 137 = .ok (.ldc2_w 38, 3) := by decide +kernel
theorem d1_140 : decode method_3_code 140 = .ok (.goto 4, 3) := by decide +kernel
theorem d1_143 : decode method_3_code 143 = .ok (.lconst 0, 1) := by decide +kernel
theorem d1_144 : decode method_3_code 144 = .ok (.lor, 1) := by decide +kernel
theorem d1_145 : decode method_3_code 145 = .ok (.lstore_n 1, 1) := by decide +kernel
theorem d1_146 : decode method_3_code 146 = .ok (.lload_n 1, 1) := by decide +kernel
theorem d1_147 : decode method_3_code 147 = .ok (.lreturn, 1) := by decide +kernel
theorem ef1 (m : MethodId) (p0 : Int32) : entryFrame m #[(.int p0)] 3 = mkF m 0 #[iv p0, .unset, .unset] [] := by first | (simp [entryFrame, mkF, argsToLocals, Value.category]; done) | rfl
def f1 (p0 : Int32) : Int64 := (let w1_1 : Int64 := (if (p0 &&& (1:Int32)) = (0:Int32) then (0:Int64) else (255:Int64)); let w1_2 : Int64 := (if (((p0.toUInt32 >>> ((1:Int32) &&& 31).toUInt32).toInt32) &&& (1:Int32)) = (0:Int32) then (0:Int64) else (65280:Int64)); let w1_3 : Int64 := (((0:Int64) ||| w1_1) ||| w1_2); let w1_4 : Int64 := (if (((p0.toUInt32 >>> ((2:Int32) &&& 31).toUInt32).toInt32) &&& (1:Int32)) = (0:Int32) then (0:Int64) else (16711680:Int64)); let w1_5 : Int64 := (if (((p0.toUInt32 >>> ((3:Int32) &&& 31).toUInt32).toInt32) &&& (1:Int32)) = (0:Int32) then (0:Int64) else (4278190080:Int64)); let w1_6 : Int64 := (if (((p0.toUInt32 >>> ((4:Int32) &&& 31).toUInt32).toInt32) &&& (1:Int32)) = (0:Int32) then (0:Int64) else (1095216660480:Int64)); let w1_7 : Int64 := (((w1_3 ||| w1_4) ||| w1_5) ||| w1_6); let w1_8 : Int64 := (if (((p0.toUInt32 >>> ((5:Int32) &&& 31).toUInt32).toInt32) &&& (1:Int32)) = (0:Int32) then (0:Int64) else (280375465082880:Int64)); let w1_9 : Int64 := (if (((p0.toUInt32 >>> ((6:Int32) &&& 31).toUInt32).toInt32) &&& (1:Int32)) = (0:Int32) then (0:Int64) else (71776119061217280:Int64)); let w1_10 : Int64 := (if (((p0.toUInt32 >>> ((7:Int32) &&& 31).toUInt32).toInt32) &&& (1:Int32)) = (0:Int32) then (0:Int64) else (-72057594037927936:Int64)); let w1_11 : Int64 := (((w1_7 ||| w1_8) ||| w1_9) ||| w1_10); w1_11)
def Q1 (Z : State) (p0 : Int32)  (h0 : Heap) (n0 : Nat) (v : Option Value) (h : Heap) (L : List Loc) : Prop := v = some (.long (f1 p0)) ∧ Fr n0 L ∧ h = h0
set_option maxRecDepth 65536 in
set_option maxHeartbeats 40000000 in
theorem rm1 (l : Launch) (Z : State) (aZ : Array Value) (hw : ∀ d ∈ tables_1, d.before aZ Z = true) (ws : List Jvm.Cond) (p0 : Int32)  (h0 : Heap) (n0 : Nat) (Z0 : n0 ≤ h0.size)  :
    MetFree l (⟨"com/example/lexarray/lexarray/model/TrieBytesAtLeastPinLaw", "byteMask", "(I)J"⟩ : MethodName) (head1 (Jvm.Cond.code (⟨"com/example/lexarray/lexarray/model/TrieBytesAtLeastPinLaw", "byteMask", "(I)J"⟩ : MethodName) method_3_code 3 (some .long) :: ws) ({ frames := 0, cells := 0, slots := 0, locals := 0 } : Room)) (fun a U => a = #[(.int p0)] ∧ Z.Warmed39 U.vm ∧ U.heap = h0) (fun _ _ _ _ _ => True) (fun _ U o U' => ∃ v L, o = .returned v ∧ Q1 Z p0 h0 n0 v U'.heap L ∧ FrameEnd U o U' L ({ frames := 0, cells := 0, slots := 0, locals := 0 } : Room).cells ({ frames := 0, cells := 0, slots := 0, locals := 0 } : Room).slots) := by
  refine MetFree.of_bodySF (plainFor_of_name own_pn0) hisR ?_
  intro p e s m args below meth c s₁ Bd hml0 hP hK
  obtain ⟨rfl, hZ, hh⟩ := hP
  have hx := Bd.exec
  have hby := Bd.bytes
  have hml : c.maxLocals = 3 := hml0
  have hown : s.vm.findClass "com/example/lexarray/lexarray/model/TrieBytesAtLeastPinLaw" = some m.cls := findClass_of_methodNamed Bd.named
  have hnm := (name_of_methodNamed Bd.named Bd.method).1
  have X0 : Stand p l e ({ frames := 0, cells := 0, slots := 0, locals := 0 } : Room) s m #[(.int p0)] below meth c s₁ [] 0 0 := Stand.of_body Bd
  have e0 : s₁.heap = h0 := by rw [← hh, Bd.state]; rfl
  have N0 := Fr.nil n0
  show own_Goes p e below s (Q1 Z p0 h0 n0) ({ frames := 0, cells := 0, slots := 0, locals := 0 } : Room).cells ({ frames := 0, cells := 0, slots := 0, locals := 0 } : Room).slots _
  refine own_pre (fun t k => castTop (ef1 m p0) k) ?_
  refine own_pre (A := s₁.setTop (mkF m 6 #[iv p0, .val (.long (0:Int64)), .second] [(.int (p0 &&& (1:Int32))), (.long (0:Int64))])) (fun t k => ?_) ?_
  · show Steps p.tables e below (s₁.setTop (mkF m 0 #[iv p0, .unset, .unset] [])) _
    refine XS.lconst X0.here hx rfl (hb hby d1_0) ?_
    show Steps p.tables e below (s₁.setTop (mkF m 1 #[iv p0, .unset, .unset] [(.long (0:Int64))])) _
    refine XS.lstoreN X0.here hx rfl (hb hby d1_1) rfl (l' := #[iv p0, .val (.long (0:Int64)), .second]) rfl ?_
    show Steps p.tables e below (s₁.setTop (mkF m 2 #[iv p0, .val (.long (0:Int64)), .second] [])) _
    refine XS.lloadN X0.here hx rfl (hb hby d1_2) rfl ?_
    show Steps p.tables e below (s₁.setTop (mkF m 3 #[iv p0, .val (.long (0:Int64)), .second] [(.long (0:Int64))])) _
    refine XS.iloadN X0.here hx rfl (hb hby d1_3) rfl ?_
    show Steps p.tables e below (s₁.setTop (mkF m 4 #[iv p0, .val (.long (0:Int64)), .second] [(.int p0), (.long (0:Int64))])) _
    refine XS.iconst X0.here hx rfl (hb hby d1_4) ?_
    show Steps p.tables e below (s₁.setTop (mkF m 5 #[iv p0, .val (.long (0:Int64)), .second] [(.int (1:Int32)), (.int p0), (.long (0:Int64))])) _
    refine XS.iand X0.here hx rfl (hb hby d1_5) rfl ?_
    exact k
  obtain ⟨w1_1, hw1_1⟩ : ∃ z : Int64, z = (if (p0 &&& (1:Int32)) = (0:Int32) then (0:Int64) else (255:Int64)) := ⟨_, rfl⟩
  refine own_pre (A := s₁.setTop (mkF m 16 #[iv p0, .val (.long (0:Int64)), .second] [(.long w1_1), (.long (0:Int64))])) (fun t k => ?_) ?_
  · show Steps p.tables e below (s₁.setTop (mkF m 6 #[iv p0, .val (.long (0:Int64)), .second] [(.int (p0 &&& (1:Int32))), (.long (0:Int64))])) _
    by_cases hm6_1 : (p0 &&& (1:Int32)) = (0:Int32)
    · refine XS.ifYes X0.here hx rfl (pc0 := 6) (pc' := 15) rfl (hb hby d1_6) rfl (XT.i0_eq_t hm6_1) (by decide) (by decide) ?_
      show Steps p.tables e below (s₁.setTop (mkF m 15 #[iv p0, .val (.long (0:Int64)), .second] [(.long (0:Int64))])) _
      refine XS.lconst X0.here hx rfl (hb hby d1_15) ?_
      rw [hw1_1.trans (if_pos hm6_1)] at k
      exact k
    · refine XS.ifNo X0.here hx rfl (hb hby d1_6) rfl (XT.i0_eq_f hm6_1) ?_
      show Steps p.tables e below (s₁.setTop (mkF m 9 #[iv p0, .val (.long (0:Int64)), .second] [(.long (0:Int64))])) _
      refine Jvm.Stand.ldc2J X0 hx hown (mvT hZ (own_h hw 17 rfl)) rfl (hb hby d1_9) ?_
      show Steps p.tables e below (s₁.setTop (mkF m 12 #[iv p0, .val (.long (0:Int64)), .second] [(.long (255:Int64)), (.long (0:Int64))])) _
      refine XS.goto X0.here hx rfl (pc0 := 12) (pc' := 16) rfl (hb hby d1_12) (by decide) (by decide) ?_
      rw [hw1_1.trans (if_neg hm6_1)] at k
      exact k
  refine own_pre (A := s₁.setTop (mkF m 24 #[iv p0, .val (.long ((0:Int64) ||| w1_1)), .second] [(.int (((p0.toUInt32 >>> ((1:Int32) &&& 31).toUInt32).toInt32) &&& (1:Int32))), (.long ((0:Int64) ||| w1_1))])) (fun t k => ?_) ?_
  · show Steps p.tables e below (s₁.setTop (mkF m 16 #[iv p0, .val (.long (0:Int64)), .second] [(.long w1_1), (.long (0:Int64))])) _
    refine XS.lor X0.here hx rfl (hb hby d1_16) rfl ?_
    show Steps p.tables e below (s₁.setTop (mkF m 17 #[iv p0, .val (.long (0:Int64)), .second] [(.long ((0:Int64) ||| w1_1))])) _
    refine XS.lstoreN X0.here hx rfl (hb hby d1_17) rfl (l' := #[iv p0, .val (.long ((0:Int64) ||| w1_1)), .second]) rfl ?_
    show Steps p.tables e below (s₁.setTop (mkF m 18 #[iv p0, .val (.long ((0:Int64) ||| w1_1)), .second] [])) _
    refine XS.lloadN X0.here hx rfl (hb hby d1_18) rfl ?_
    show Steps p.tables e below (s₁.setTop (mkF m 19 #[iv p0, .val (.long ((0:Int64) ||| w1_1)), .second] [(.long ((0:Int64) ||| w1_1))])) _
    refine XS.iloadN X0.here hx rfl (hb hby d1_19) rfl ?_
    show Steps p.tables e below (s₁.setTop (mkF m 20 #[iv p0, .val (.long ((0:Int64) ||| w1_1)), .second] [(.int p0), (.long ((0:Int64) ||| w1_1))])) _
    refine XS.iconst X0.here hx rfl (hb hby d1_20) ?_
    show Steps p.tables e below (s₁.setTop (mkF m 21 #[iv p0, .val (.long ((0:Int64) ||| w1_1)), .second] [(.int (1:Int32)), (.int p0), (.long ((0:Int64) ||| w1_1))])) _
    refine XS.iushr X0.here hx rfl (hb hby d1_21) rfl ?_
    show Steps p.tables e below (s₁.setTop (mkF m 22 #[iv p0, .val (.long ((0:Int64) ||| w1_1)), .second] [(.int ((p0.toUInt32 >>> ((1:Int32) &&& 31).toUInt32).toInt32)), (.long ((0:Int64) ||| w1_1))])) _
    refine XS.iconst X0.here hx rfl (hb hby d1_22) ?_
    show Steps p.tables e below (s₁.setTop (mkF m 23 #[iv p0, .val (.long ((0:Int64) ||| w1_1)), .second] [(.int (1:Int32)), (.int ((p0.toUInt32 >>> ((1:Int32) &&& 31).toUInt32).toInt32)), (.long ((0:Int64) ||| w1_1))])) _
    refine XS.iand X0.here hx rfl (hb hby d1_23) rfl ?_
    exact k
  obtain ⟨w1_2, hw1_2⟩ : ∃ z : Int64, z = (if (((p0.toUInt32 >>> ((1:Int32) &&& 31).toUInt32).toInt32) &&& (1:Int32)) = (0:Int32) then (0:Int64) else (65280:Int64)) := ⟨_, rfl⟩
  refine own_pre (A := s₁.setTop (mkF m 34 #[iv p0, .val (.long ((0:Int64) ||| w1_1)), .second] [(.long w1_2), (.long ((0:Int64) ||| w1_1))])) (fun t k => ?_) ?_
  · show Steps p.tables e below (s₁.setTop (mkF m 24 #[iv p0, .val (.long ((0:Int64) ||| w1_1)), .second] [(.int (((p0.toUInt32 >>> ((1:Int32) &&& 31).toUInt32).toInt32) &&& (1:Int32))), (.long ((0:Int64) ||| w1_1))])) _
    by_cases hm24_2 : (((p0.toUInt32 >>> ((1:Int32) &&& 31).toUInt32).toInt32) &&& (1:Int32)) = (0:Int32)
    · refine XS.ifYes X0.here hx rfl (pc0 := 24) (pc' := 33) rfl (hb hby d1_24) rfl (XT.i0_eq_t hm24_2) (by decide) (by decide) ?_
      show Steps p.tables e below (s₁.setTop (mkF m 33 #[iv p0, .val (.long ((0:Int64) ||| w1_1)), .second] [(.long ((0:Int64) ||| w1_1))])) _
      refine XS.lconst X0.here hx rfl (hb hby d1_33) ?_
      rw [hw1_2.trans (if_pos hm24_2)] at k
      exact k
    · refine XS.ifNo X0.here hx rfl (hb hby d1_24) rfl (XT.i0_eq_f hm24_2) ?_
      show Steps p.tables e below (s₁.setTop (mkF m 27 #[iv p0, .val (.long ((0:Int64) ||| w1_1)), .second] [(.long ((0:Int64) ||| w1_1))])) _
      refine Jvm.Stand.ldc2J X0 hx hown (mvT hZ (own_h hw 18 rfl)) rfl (hb hby d1_27) ?_
      show Steps p.tables e below (s₁.setTop (mkF m 30 #[iv p0, .val (.long ((0:Int64) ||| w1_1)), .second] [(.long (65280:Int64)), (.long ((0:Int64) ||| w1_1))])) _
      refine XS.goto X0.here hx rfl (pc0 := 30) (pc' := 34) rfl (hb hby d1_30) (by decide) (by decide) ?_
      rw [hw1_2.trans (if_neg hm24_2)] at k
      exact k
  obtain ⟨w1_3, hw1_3⟩ : ∃ z : Int64, z = (((0:Int64) ||| w1_1) ||| w1_2) := ⟨_, rfl⟩
  refine own_pre (A := s₁.setTop (mkF m 42 #[iv p0, .val (.long w1_3), .second] [(.int (((p0.toUInt32 >>> ((2:Int32) &&& 31).toUInt32).toInt32) &&& (1:Int32))), (.long w1_3)])) (fun t k => ?_) ?_
  · show Steps p.tables e below (s₁.setTop (mkF m 34 #[iv p0, .val (.long ((0:Int64) ||| w1_1)), .second] [(.long w1_2), (.long ((0:Int64) ||| w1_1))])) _
    refine XS.lor X0.here hx rfl (hb hby d1_34) rfl ?_
    show Steps p.tables e below (s₁.setTop (mkF m 35 #[iv p0, .val (.long ((0:Int64) ||| w1_1)), .second] [(.long (((0:Int64) ||| w1_1) ||| w1_2))])) _
    refine XS.lstoreN X0.here hx rfl (hb hby d1_35) rfl (l' := #[iv p0, .val (.long w1_3), .second]) (by rw [hw1_3]; rfl) ?_
    show Steps p.tables e below (s₁.setTop (mkF m 36 #[iv p0, .val (.long w1_3), .second] [])) _
    refine XS.lloadN X0.here hx rfl (hb hby d1_36) rfl ?_
    show Steps p.tables e below (s₁.setTop (mkF m 37 #[iv p0, .val (.long w1_3), .second] [(.long w1_3)])) _
    refine XS.iloadN X0.here hx rfl (hb hby d1_37) rfl ?_
    show Steps p.tables e below (s₁.setTop (mkF m 38 #[iv p0, .val (.long w1_3), .second] [(.int p0), (.long w1_3)])) _
    refine XS.iconst X0.here hx rfl (hb hby d1_38) ?_
    show Steps p.tables e below (s₁.setTop (mkF m 39 #[iv p0, .val (.long w1_3), .second] [(.int (2:Int32)), (.int p0), (.long w1_3)])) _
    refine XS.iushr X0.here hx rfl (hb hby d1_39) rfl ?_
    show Steps p.tables e below (s₁.setTop (mkF m 40 #[iv p0, .val (.long w1_3), .second] [(.int ((p0.toUInt32 >>> ((2:Int32) &&& 31).toUInt32).toInt32)), (.long w1_3)])) _
    refine XS.iconst X0.here hx rfl (hb hby d1_40) ?_
    show Steps p.tables e below (s₁.setTop (mkF m 41 #[iv p0, .val (.long w1_3), .second] [(.int (1:Int32)), (.int ((p0.toUInt32 >>> ((2:Int32) &&& 31).toUInt32).toInt32)), (.long w1_3)])) _
    refine XS.iand X0.here hx rfl (hb hby d1_41) rfl ?_
    exact k
  obtain ⟨w1_4, hw1_4⟩ : ∃ z : Int64, z = (if (((p0.toUInt32 >>> ((2:Int32) &&& 31).toUInt32).toInt32) &&& (1:Int32)) = (0:Int32) then (0:Int64) else (16711680:Int64)) := ⟨_, rfl⟩
  refine own_pre (A := s₁.setTop (mkF m 52 #[iv p0, .val (.long w1_3), .second] [(.long w1_4), (.long w1_3)])) (fun t k => ?_) ?_
  · show Steps p.tables e below (s₁.setTop (mkF m 42 #[iv p0, .val (.long w1_3), .second] [(.int (((p0.toUInt32 >>> ((2:Int32) &&& 31).toUInt32).toInt32) &&& (1:Int32))), (.long w1_3)])) _
    by_cases hm42_3 : (((p0.toUInt32 >>> ((2:Int32) &&& 31).toUInt32).toInt32) &&& (1:Int32)) = (0:Int32)
    · refine XS.ifYes X0.here hx rfl (pc0 := 42) (pc' := 51) rfl (hb hby d1_42) rfl (XT.i0_eq_t hm42_3) (by decide) (by decide) ?_
      show Steps p.tables e below (s₁.setTop (mkF m 51 #[iv p0, .val (.long w1_3), .second] [(.long w1_3)])) _
      refine XS.lconst X0.here hx rfl (hb hby d1_51) ?_
      rw [hw1_4.trans (if_pos hm42_3)] at k
      exact k
    · refine XS.ifNo X0.here hx rfl (hb hby d1_42) rfl (XT.i0_eq_f hm42_3) ?_
      show Steps p.tables e below (s₁.setTop (mkF m 45 #[iv p0, .val (.long w1_3), .second] [(.long w1_3)])) _
      refine Jvm.Stand.ldc2J X0 hx hown (mvT hZ (own_h hw 19 rfl)) rfl (hb hby d1_45) ?_
      show Steps p.tables e below (s₁.setTop (mkF m 48 #[iv p0, .val (.long w1_3), .second] [(.long (16711680:Int64)), (.long w1_3)])) _
      refine XS.goto X0.here hx rfl (pc0 := 48) (pc' := 52) rfl (hb hby d1_48) (by decide) (by decide) ?_
      rw [hw1_4.trans (if_neg hm42_3)] at k
      exact k
  refine own_pre (A := s₁.setTop (mkF m 60 #[iv p0, .val (.long (w1_3 ||| w1_4)), .second] [(.int (((p0.toUInt32 >>> ((3:Int32) &&& 31).toUInt32).toInt32) &&& (1:Int32))), (.long (w1_3 ||| w1_4))])) (fun t k => ?_) ?_
  · show Steps p.tables e below (s₁.setTop (mkF m 52 #[iv p0, .val (.long w1_3), .second] [(.long w1_4), (.long w1_3)])) _
    refine XS.lor X0.here hx rfl (hb hby d1_52) rfl ?_
    show Steps p.tables e below (s₁.setTop (mkF m 53 #[iv p0, .val (.long w1_3), .second] [(.long (w1_3 ||| w1_4))])) _
    refine XS.lstoreN X0.here hx rfl (hb hby d1_53) rfl (l' := #[iv p0, .val (.long (w1_3 ||| w1_4)), .second]) rfl ?_
    show Steps p.tables e below (s₁.setTop (mkF m 54 #[iv p0, .val (.long (w1_3 ||| w1_4)), .second] [])) _
    refine XS.lloadN X0.here hx rfl (hb hby d1_54) rfl ?_
    show Steps p.tables e below (s₁.setTop (mkF m 55 #[iv p0, .val (.long (w1_3 ||| w1_4)), .second] [(.long (w1_3 ||| w1_4))])) _
    refine XS.iloadN X0.here hx rfl (hb hby d1_55) rfl ?_
    show Steps p.tables e below (s₁.setTop (mkF m 56 #[iv p0, .val (.long (w1_3 ||| w1_4)), .second] [(.int p0), (.long (w1_3 ||| w1_4))])) _
    refine XS.iconst X0.here hx rfl (hb hby d1_56) ?_
    show Steps p.tables e below (s₁.setTop (mkF m 57 #[iv p0, .val (.long (w1_3 ||| w1_4)), .second] [(.int (3:Int32)), (.int p0), (.long (w1_3 ||| w1_4))])) _
    refine XS.iushr X0.here hx rfl (hb hby d1_57) rfl ?_
    show Steps p.tables e below (s₁.setTop (mkF m 58 #[iv p0, .val (.long (w1_3 ||| w1_4)), .second] [(.int ((p0.toUInt32 >>> ((3:Int32) &&& 31).toUInt32).toInt32)), (.long (w1_3 ||| w1_4))])) _
    refine XS.iconst X0.here hx rfl (hb hby d1_58) ?_
    show Steps p.tables e below (s₁.setTop (mkF m 59 #[iv p0, .val (.long (w1_3 ||| w1_4)), .second] [(.int (1:Int32)), (.int ((p0.toUInt32 >>> ((3:Int32) &&& 31).toUInt32).toInt32)), (.long (w1_3 ||| w1_4))])) _
    refine XS.iand X0.here hx rfl (hb hby d1_59) rfl ?_
    exact k
  obtain ⟨w1_5, hw1_5⟩ : ∃ z : Int64, z = (if (((p0.toUInt32 >>> ((3:Int32) &&& 31).toUInt32).toInt32) &&& (1:Int32)) = (0:Int32) then (0:Int64) else (4278190080:Int64)) := ⟨_, rfl⟩
  refine own_pre (A := s₁.setTop (mkF m 70 #[iv p0, .val (.long (w1_3 ||| w1_4)), .second] [(.long w1_5), (.long (w1_3 ||| w1_4))])) (fun t k => ?_) ?_
  · show Steps p.tables e below (s₁.setTop (mkF m 60 #[iv p0, .val (.long (w1_3 ||| w1_4)), .second] [(.int (((p0.toUInt32 >>> ((3:Int32) &&& 31).toUInt32).toInt32) &&& (1:Int32))), (.long (w1_3 ||| w1_4))])) _
    by_cases hm60_4 : (((p0.toUInt32 >>> ((3:Int32) &&& 31).toUInt32).toInt32) &&& (1:Int32)) = (0:Int32)
    · refine XS.ifYes X0.here hx rfl (pc0 := 60) (pc' := 69) rfl (hb hby d1_60) rfl (XT.i0_eq_t hm60_4) (by decide) (by decide) ?_
      show Steps p.tables e below (s₁.setTop (mkF m 69 #[iv p0, .val (.long (w1_3 ||| w1_4)), .second] [(.long (w1_3 ||| w1_4))])) _
      refine XS.lconst X0.here hx rfl (hb hby d1_69) ?_
      rw [hw1_5.trans (if_pos hm60_4)] at k
      exact k
    · refine XS.ifNo X0.here hx rfl (hb hby d1_60) rfl (XT.i0_eq_f hm60_4) ?_
      show Steps p.tables e below (s₁.setTop (mkF m 63 #[iv p0, .val (.long (w1_3 ||| w1_4)), .second] [(.long (w1_3 ||| w1_4))])) _
      refine Jvm.Stand.ldc2J X0 hx hown (mvT hZ (own_h hw 23 rfl)) rfl (hb hby d1_63) ?_
      show Steps p.tables e below (s₁.setTop (mkF m 66 #[iv p0, .val (.long (w1_3 ||| w1_4)), .second] [(.long (4278190080:Int64)), (.long (w1_3 ||| w1_4))])) _
      refine XS.goto X0.here hx rfl (pc0 := 66) (pc' := 70) rfl (hb hby d1_66) (by decide) (by decide) ?_
      rw [hw1_5.trans (if_neg hm60_4)] at k
      exact k
  refine own_pre (A := s₁.setTop (mkF m 78 #[iv p0, .val (.long ((w1_3 ||| w1_4) ||| w1_5)), .second] [(.int (((p0.toUInt32 >>> ((4:Int32) &&& 31).toUInt32).toInt32) &&& (1:Int32))), (.long ((w1_3 ||| w1_4) ||| w1_5))])) (fun t k => ?_) ?_
  · show Steps p.tables e below (s₁.setTop (mkF m 70 #[iv p0, .val (.long (w1_3 ||| w1_4)), .second] [(.long w1_5), (.long (w1_3 ||| w1_4))])) _
    refine XS.lor X0.here hx rfl (hb hby d1_70) rfl ?_
    show Steps p.tables e below (s₁.setTop (mkF m 71 #[iv p0, .val (.long (w1_3 ||| w1_4)), .second] [(.long ((w1_3 ||| w1_4) ||| w1_5))])) _
    refine XS.lstoreN X0.here hx rfl (hb hby d1_71) rfl (l' := #[iv p0, .val (.long ((w1_3 ||| w1_4) ||| w1_5)), .second]) rfl ?_
    show Steps p.tables e below (s₁.setTop (mkF m 72 #[iv p0, .val (.long ((w1_3 ||| w1_4) ||| w1_5)), .second] [])) _
    refine XS.lloadN X0.here hx rfl (hb hby d1_72) rfl ?_
    show Steps p.tables e below (s₁.setTop (mkF m 73 #[iv p0, .val (.long ((w1_3 ||| w1_4) ||| w1_5)), .second] [(.long ((w1_3 ||| w1_4) ||| w1_5))])) _
    refine XS.iloadN X0.here hx rfl (hb hby d1_73) rfl ?_
    show Steps p.tables e below (s₁.setTop (mkF m 74 #[iv p0, .val (.long ((w1_3 ||| w1_4) ||| w1_5)), .second] [(.int p0), (.long ((w1_3 ||| w1_4) ||| w1_5))])) _
    refine XS.iconst X0.here hx rfl (hb hby d1_74) ?_
    show Steps p.tables e below (s₁.setTop (mkF m 75 #[iv p0, .val (.long ((w1_3 ||| w1_4) ||| w1_5)), .second] [(.int (4:Int32)), (.int p0), (.long ((w1_3 ||| w1_4) ||| w1_5))])) _
    refine XS.iushr X0.here hx rfl (hb hby d1_75) rfl ?_
    show Steps p.tables e below (s₁.setTop (mkF m 76 #[iv p0, .val (.long ((w1_3 ||| w1_4) ||| w1_5)), .second] [(.int ((p0.toUInt32 >>> ((4:Int32) &&& 31).toUInt32).toInt32)), (.long ((w1_3 ||| w1_4) ||| w1_5))])) _
    refine XS.iconst X0.here hx rfl (hb hby d1_76) ?_
    show Steps p.tables e below (s₁.setTop (mkF m 77 #[iv p0, .val (.long ((w1_3 ||| w1_4) ||| w1_5)), .second] [(.int (1:Int32)), (.int ((p0.toUInt32 >>> ((4:Int32) &&& 31).toUInt32).toInt32)), (.long ((w1_3 ||| w1_4) ||| w1_5))])) _
    refine XS.iand X0.here hx rfl (hb hby d1_77) rfl ?_
    exact k
  obtain ⟨w1_6, hw1_6⟩ : ∃ z : Int64, z = (if (((p0.toUInt32 >>> ((4:Int32) &&& 31).toUInt32).toInt32) &&& (1:Int32)) = (0:Int32) then (0:Int64) else (1095216660480:Int64)) := ⟨_, rfl⟩
  refine own_pre (A := s₁.setTop (mkF m 88 #[iv p0, .val (.long ((w1_3 ||| w1_4) ||| w1_5)), .second] [(.long w1_6), (.long ((w1_3 ||| w1_4) ||| w1_5))])) (fun t k => ?_) ?_
  · show Steps p.tables e below (s₁.setTop (mkF m 78 #[iv p0, .val (.long ((w1_3 ||| w1_4) ||| w1_5)), .second] [(.int (((p0.toUInt32 >>> ((4:Int32) &&& 31).toUInt32).toInt32) &&& (1:Int32))), (.long ((w1_3 ||| w1_4) ||| w1_5))])) _
    by_cases hm78_5 : (((p0.toUInt32 >>> ((4:Int32) &&& 31).toUInt32).toInt32) &&& (1:Int32)) = (0:Int32)
    · refine XS.ifYes X0.here hx rfl (pc0 := 78) (pc' := 87) rfl (hb hby d1_78) rfl (XT.i0_eq_t hm78_5) (by decide) (by decide) ?_
      show Steps p.tables e below (s₁.setTop (mkF m 87 #[iv p0, .val (.long ((w1_3 ||| w1_4) ||| w1_5)), .second] [(.long ((w1_3 ||| w1_4) ||| w1_5))])) _
      refine XS.lconst X0.here hx rfl (hb hby d1_87) ?_
      rw [hw1_6.trans (if_pos hm78_5)] at k
      exact k
    · refine XS.ifNo X0.here hx rfl (hb hby d1_78) rfl (XT.i0_eq_f hm78_5) ?_
      show Steps p.tables e below (s₁.setTop (mkF m 81 #[iv p0, .val (.long ((w1_3 ||| w1_4) ||| w1_5)), .second] [(.long ((w1_3 ||| w1_4) ||| w1_5))])) _
      refine Jvm.Stand.ldc2J X0 hx hown (mvT hZ (own_h hw 24 rfl)) rfl (hb hby d1_81) ?_
      show Steps p.tables e below (s₁.setTop (mkF m 84 #[iv p0, .val (.long ((w1_3 ||| w1_4) ||| w1_5)), .second] [(.long (1095216660480:Int64)), (.long ((w1_3 ||| w1_4) ||| w1_5))])) _
      refine XS.goto X0.here hx rfl (pc0 := 84) (pc' := 88) rfl (hb hby d1_84) (by decide) (by decide) ?_
      rw [hw1_6.trans (if_neg hm78_5)] at k
      exact k
  obtain ⟨w1_7, hw1_7⟩ : ∃ z : Int64, z = (((w1_3 ||| w1_4) ||| w1_5) ||| w1_6) := ⟨_, rfl⟩
  refine own_pre (A := s₁.setTop (mkF m 96 #[iv p0, .val (.long w1_7), .second] [(.int (((p0.toUInt32 >>> ((5:Int32) &&& 31).toUInt32).toInt32) &&& (1:Int32))), (.long w1_7)])) (fun t k => ?_) ?_
  · show Steps p.tables e below (s₁.setTop (mkF m 88 #[iv p0, .val (.long ((w1_3 ||| w1_4) ||| w1_5)), .second] [(.long w1_6), (.long ((w1_3 ||| w1_4) ||| w1_5))])) _
    refine XS.lor X0.here hx rfl (hb hby d1_88) rfl ?_
    show Steps p.tables e below (s₁.setTop (mkF m 89 #[iv p0, .val (.long ((w1_3 ||| w1_4) ||| w1_5)), .second] [(.long (((w1_3 ||| w1_4) ||| w1_5) ||| w1_6))])) _
    refine XS.lstoreN X0.here hx rfl (hb hby d1_89) rfl (l' := #[iv p0, .val (.long w1_7), .second]) (by rw [hw1_7]; rfl) ?_
    show Steps p.tables e below (s₁.setTop (mkF m 90 #[iv p0, .val (.long w1_7), .second] [])) _
    refine XS.lloadN X0.here hx rfl (hb hby d1_90) rfl ?_
    show Steps p.tables e below (s₁.setTop (mkF m 91 #[iv p0, .val (.long w1_7), .second] [(.long w1_7)])) _
    refine XS.iloadN X0.here hx rfl (hb hby d1_91) rfl ?_
    show Steps p.tables e below (s₁.setTop (mkF m 92 #[iv p0, .val (.long w1_7), .second] [(.int p0), (.long w1_7)])) _
    refine XS.iconst X0.here hx rfl (hb hby d1_92) ?_
    show Steps p.tables e below (s₁.setTop (mkF m 93 #[iv p0, .val (.long w1_7), .second] [(.int (5:Int32)), (.int p0), (.long w1_7)])) _
    refine XS.iushr X0.here hx rfl (hb hby d1_93) rfl ?_
    show Steps p.tables e below (s₁.setTop (mkF m 94 #[iv p0, .val (.long w1_7), .second] [(.int ((p0.toUInt32 >>> ((5:Int32) &&& 31).toUInt32).toInt32)), (.long w1_7)])) _
    refine XS.iconst X0.here hx rfl (hb hby d1_94) ?_
    show Steps p.tables e below (s₁.setTop (mkF m 95 #[iv p0, .val (.long w1_7), .second] [(.int (1:Int32)), (.int ((p0.toUInt32 >>> ((5:Int32) &&& 31).toUInt32).toInt32)), (.long w1_7)])) _
    refine XS.iand X0.here hx rfl (hb hby d1_95) rfl ?_
    exact k
  obtain ⟨w1_8, hw1_8⟩ : ∃ z : Int64, z = (if (((p0.toUInt32 >>> ((5:Int32) &&& 31).toUInt32).toInt32) &&& (1:Int32)) = (0:Int32) then (0:Int64) else (280375465082880:Int64)) := ⟨_, rfl⟩
  refine own_pre (A := s₁.setTop (mkF m 106 #[iv p0, .val (.long w1_7), .second] [(.long w1_8), (.long w1_7)])) (fun t k => ?_) ?_
  · show Steps p.tables e below (s₁.setTop (mkF m 96 #[iv p0, .val (.long w1_7), .second] [(.int (((p0.toUInt32 >>> ((5:Int32) &&& 31).toUInt32).toInt32) &&& (1:Int32))), (.long w1_7)])) _
    by_cases hm96_6 : (((p0.toUInt32 >>> ((5:Int32) &&& 31).toUInt32).toInt32) &&& (1:Int32)) = (0:Int32)
    · refine XS.ifYes X0.here hx rfl (pc0 := 96) (pc' := 105) rfl (hb hby d1_96) rfl (XT.i0_eq_t hm96_6) (by decide) (by decide) ?_
      show Steps p.tables e below (s₁.setTop (mkF m 105 #[iv p0, .val (.long w1_7), .second] [(.long w1_7)])) _
      refine XS.lconst X0.here hx rfl (hb hby d1_105) ?_
      rw [hw1_8.trans (if_pos hm96_6)] at k
      exact k
    · refine XS.ifNo X0.here hx rfl (hb hby d1_96) rfl (XT.i0_eq_f hm96_6) ?_
      show Steps p.tables e below (s₁.setTop (mkF m 99 #[iv p0, .val (.long w1_7), .second] [(.long w1_7)])) _
      refine Jvm.Stand.ldc2J X0 hx hown (mvT hZ (own_h hw 20 rfl)) rfl (hb hby d1_99) ?_
      show Steps p.tables e below (s₁.setTop (mkF m 102 #[iv p0, .val (.long w1_7), .second] [(.long (280375465082880:Int64)), (.long w1_7)])) _
      refine XS.goto X0.here hx rfl (pc0 := 102) (pc' := 106) rfl (hb hby d1_102) (by decide) (by decide) ?_
      rw [hw1_8.trans (if_neg hm96_6)] at k
      exact k
  refine own_pre (A := s₁.setTop (mkF m 115 #[iv p0, .val (.long (w1_7 ||| w1_8)), .second] [(.int (((p0.toUInt32 >>> ((6:Int32) &&& 31).toUInt32).toInt32) &&& (1:Int32))), (.long (w1_7 ||| w1_8))])) (fun t k => ?_) ?_
  · show Steps p.tables e below (s₁.setTop (mkF m 106 #[iv p0, .val (.long w1_7), .second] [(.long w1_8), (.long w1_7)])) _
    refine XS.lor X0.here hx rfl (hb hby d1_106) rfl ?_
    show Steps p.tables e below (s₁.setTop (mkF m 107 #[iv p0, .val (.long w1_7), .second] [(.long (w1_7 ||| w1_8))])) _
    refine XS.lstoreN X0.here hx rfl (hb hby d1_107) rfl (l' := #[iv p0, .val (.long (w1_7 ||| w1_8)), .second]) rfl ?_
    show Steps p.tables e below (s₁.setTop (mkF m 108 #[iv p0, .val (.long (w1_7 ||| w1_8)), .second] [])) _
    refine XS.lloadN X0.here hx rfl (hb hby d1_108) rfl ?_
    show Steps p.tables e below (s₁.setTop (mkF m 109 #[iv p0, .val (.long (w1_7 ||| w1_8)), .second] [(.long (w1_7 ||| w1_8))])) _
    refine XS.iloadN X0.here hx rfl (hb hby d1_109) rfl ?_
    show Steps p.tables e below (s₁.setTop (mkF m 110 #[iv p0, .val (.long (w1_7 ||| w1_8)), .second] [(.int p0), (.long (w1_7 ||| w1_8))])) _
    refine XS.bipush X0.here hx rfl (hb hby d1_110) ?_
    show Steps p.tables e below (s₁.setTop (mkF m 112 #[iv p0, .val (.long (w1_7 ||| w1_8)), .second] [(.int (6:Int32)), (.int p0), (.long (w1_7 ||| w1_8))])) _
    refine XS.iushr X0.here hx rfl (hb hby d1_112) rfl ?_
    show Steps p.tables e below (s₁.setTop (mkF m 113 #[iv p0, .val (.long (w1_7 ||| w1_8)), .second] [(.int ((p0.toUInt32 >>> ((6:Int32) &&& 31).toUInt32).toInt32)), (.long (w1_7 ||| w1_8))])) _
    refine XS.iconst X0.here hx rfl (hb hby d1_113) ?_
    show Steps p.tables e below (s₁.setTop (mkF m 114 #[iv p0, .val (.long (w1_7 ||| w1_8)), .second] [(.int (1:Int32)), (.int ((p0.toUInt32 >>> ((6:Int32) &&& 31).toUInt32).toInt32)), (.long (w1_7 ||| w1_8))])) _
    refine XS.iand X0.here hx rfl (hb hby d1_114) rfl ?_
    exact k
  obtain ⟨w1_9, hw1_9⟩ : ∃ z : Int64, z = (if (((p0.toUInt32 >>> ((6:Int32) &&& 31).toUInt32).toInt32) &&& (1:Int32)) = (0:Int32) then (0:Int64) else (71776119061217280:Int64)) := ⟨_, rfl⟩
  refine own_pre (A := s₁.setTop (mkF m 125 #[iv p0, .val (.long (w1_7 ||| w1_8)), .second] [(.long w1_9), (.long (w1_7 ||| w1_8))])) (fun t k => ?_) ?_
  · show Steps p.tables e below (s₁.setTop (mkF m 115 #[iv p0, .val (.long (w1_7 ||| w1_8)), .second] [(.int (((p0.toUInt32 >>> ((6:Int32) &&& 31).toUInt32).toInt32) &&& (1:Int32))), (.long (w1_7 ||| w1_8))])) _
    by_cases hm115_7 : (((p0.toUInt32 >>> ((6:Int32) &&& 31).toUInt32).toInt32) &&& (1:Int32)) = (0:Int32)
    · refine XS.ifYes X0.here hx rfl (pc0 := 115) (pc' := 124) rfl (hb hby d1_115) rfl (XT.i0_eq_t hm115_7) (by decide) (by decide) ?_
      show Steps p.tables e below (s₁.setTop (mkF m 124 #[iv p0, .val (.long (w1_7 ||| w1_8)), .second] [(.long (w1_7 ||| w1_8))])) _
      refine XS.lconst X0.here hx rfl (hb hby d1_124) ?_
      rw [hw1_9.trans (if_pos hm115_7)] at k
      exact k
    · refine XS.ifNo X0.here hx rfl (hb hby d1_115) rfl (XT.i0_eq_f hm115_7) ?_
      show Steps p.tables e below (s₁.setTop (mkF m 118 #[iv p0, .val (.long (w1_7 ||| w1_8)), .second] [(.long (w1_7 ||| w1_8))])) _
      refine Jvm.Stand.ldc2J X0 hx hown (mvT hZ (own_h hw 21 rfl)) rfl (hb hby d1_118) ?_
      show Steps p.tables e below (s₁.setTop (mkF m 121 #[iv p0, .val (.long (w1_7 ||| w1_8)), .second] [(.long (71776119061217280:Int64)), (.long (w1_7 ||| w1_8))])) _
      refine XS.goto X0.here hx rfl (pc0 := 121) (pc' := 125) rfl (hb hby d1_121) (by decide) (by decide) ?_
      rw [hw1_9.trans (if_neg hm115_7)] at k
      exact k
  refine own_pre (A := s₁.setTop (mkF m 134 #[iv p0, .val (.long ((w1_7 ||| w1_8) ||| w1_9)), .second] [(.int (((p0.toUInt32 >>> ((7:Int32) &&& 31).toUInt32).toInt32) &&& (1:Int32))), (.long ((w1_7 ||| w1_8) ||| w1_9))])) (fun t k => ?_) ?_
  · show Steps p.tables e below (s₁.setTop (mkF m 125 #[iv p0, .val (.long (w1_7 ||| w1_8)), .second] [(.long w1_9), (.long (w1_7 ||| w1_8))])) _
    refine XS.lor X0.here hx rfl (hb hby d1_125) rfl ?_
    show Steps p.tables e below (s₁.setTop (mkF m 126 #[iv p0, .val (.long (w1_7 ||| w1_8)), .second] [(.long ((w1_7 ||| w1_8) ||| w1_9))])) _
    refine XS.lstoreN X0.here hx rfl (hb hby d1_126) rfl (l' := #[iv p0, .val (.long ((w1_7 ||| w1_8) ||| w1_9)), .second]) rfl ?_
    show Steps p.tables e below (s₁.setTop (mkF m 127 #[iv p0, .val (.long ((w1_7 ||| w1_8) ||| w1_9)), .second] [])) _
    refine XS.lloadN X0.here hx rfl (hb hby d1_127) rfl ?_
    show Steps p.tables e below (s₁.setTop (mkF m 128 #[iv p0, .val (.long ((w1_7 ||| w1_8) ||| w1_9)), .second] [(.long ((w1_7 ||| w1_8) ||| w1_9))])) _
    refine XS.iloadN X0.here hx rfl (hb hby d1_128) rfl ?_
    show Steps p.tables e below (s₁.setTop (mkF m 129 #[iv p0, .val (.long ((w1_7 ||| w1_8) ||| w1_9)), .second] [(.int p0), (.long ((w1_7 ||| w1_8) ||| w1_9))])) _
    refine XS.bipush X0.here hx rfl (hb hby d1_129) ?_
    show Steps p.tables e below (s₁.setTop (mkF m 131 #[iv p0, .val (.long ((w1_7 ||| w1_8) ||| w1_9)), .second] [(.int (7:Int32)), (.int p0), (.long ((w1_7 ||| w1_8) ||| w1_9))])) _
    refine XS.iushr X0.here hx rfl (hb hby d1_131) rfl ?_
    show Steps p.tables e below (s₁.setTop (mkF m 132 #[iv p0, .val (.long ((w1_7 ||| w1_8) ||| w1_9)), .second] [(.int ((p0.toUInt32 >>> ((7:Int32) &&& 31).toUInt32).toInt32)), (.long ((w1_7 ||| w1_8) ||| w1_9))])) _
    refine XS.iconst X0.here hx rfl (hb hby d1_132) ?_
    show Steps p.tables e below (s₁.setTop (mkF m 133 #[iv p0, .val (.long ((w1_7 ||| w1_8) ||| w1_9)), .second] [(.int (1:Int32)), (.int ((p0.toUInt32 >>> ((7:Int32) &&& 31).toUInt32).toInt32)), (.long ((w1_7 ||| w1_8) ||| w1_9))])) _
    refine XS.iand X0.here hx rfl (hb hby d1_133) rfl ?_
    exact k
  obtain ⟨w1_10, hw1_10⟩ : ∃ z : Int64, z = (if (((p0.toUInt32 >>> ((7:Int32) &&& 31).toUInt32).toInt32) &&& (1:Int32)) = (0:Int32) then (0:Int64) else (-72057594037927936:Int64)) := ⟨_, rfl⟩
  refine own_pre (A := s₁.setTop (mkF m 144 #[iv p0, .val (.long ((w1_7 ||| w1_8) ||| w1_9)), .second] [(.long w1_10), (.long ((w1_7 ||| w1_8) ||| w1_9))])) (fun t k => ?_) ?_
  · show Steps p.tables e below (s₁.setTop (mkF m 134 #[iv p0, .val (.long ((w1_7 ||| w1_8) ||| w1_9)), .second] [(.int (((p0.toUInt32 >>> ((7:Int32) &&& 31).toUInt32).toInt32) &&& (1:Int32))), (.long ((w1_7 ||| w1_8) ||| w1_9))])) _
    by_cases hm134_8 : (((p0.toUInt32 >>> ((7:Int32) &&& 31).toUInt32).toInt32) &&& (1:Int32)) = (0:Int32)
    · refine XS.ifYes X0.here hx rfl (pc0 := 134) (pc' := 143) rfl (hb hby d1_134) rfl (XT.i0_eq_t hm134_8) (by decide) (by decide) ?_
      show Steps p.tables e below (s₁.setTop (mkF m 143 #[iv p0, .val (.long ((w1_7 ||| w1_8) ||| w1_9)), .second] [(.long ((w1_7 ||| w1_8) ||| w1_9))])) _
      refine XS.lconst X0.here hx rfl (hb hby d1_143) ?_
      rw [hw1_10.trans (if_pos hm134_8)] at k
      exact k
    · refine XS.ifNo X0.here hx rfl (hb hby d1_134) rfl (XT.i0_eq_f hm134_8) ?_
      show Steps p.tables e below (s₁.setTop (mkF m 137 #[iv p0, .val (.long ((w1_7 ||| w1_8) ||| w1_9)), .second] [(.long ((w1_7 ||| w1_8) ||| w1_9))])) _
      refine Jvm.Stand.ldc2J X0 hx hown (mvT hZ (own_h hw 22 rfl)) rfl (hb hby d1_137) ?_
      show Steps p.tables e below (s₁.setTop (mkF m 140 #[iv p0, .val (.long ((w1_7 ||| w1_8) ||| w1_9)), .second] [(.long (-72057594037927936:Int64)), (.long ((w1_7 ||| w1_8) ||| w1_9))])) _
      refine XS.goto X0.here hx rfl (pc0 := 140) (pc' := 144) rfl (hb hby d1_140) (by decide) (by decide) ?_
      rw [hw1_10.trans (if_neg hm134_8)] at k
      exact k
  obtain ⟨w1_11, hw1_11⟩ : ∃ z : Int64, z = (((w1_7 ||| w1_8) ||| w1_9) ||| w1_10) := ⟨_, rfl⟩
  refine own_pre (A := s₁.setTop (mkF m 147 #[iv p0, .val (.long w1_11), .second] [(.long w1_11)])) (fun t k => ?_) ?_
  · show Steps p.tables e below (s₁.setTop (mkF m 144 #[iv p0, .val (.long ((w1_7 ||| w1_8) ||| w1_9)), .second] [(.long w1_10), (.long ((w1_7 ||| w1_8) ||| w1_9))])) _
    refine XS.lor X0.here hx rfl (hb hby d1_144) rfl ?_
    show Steps p.tables e below (s₁.setTop (mkF m 145 #[iv p0, .val (.long ((w1_7 ||| w1_8) ||| w1_9)), .second] [(.long (((w1_7 ||| w1_8) ||| w1_9) ||| w1_10))])) _
    refine XS.lstoreN X0.here hx rfl (hb hby d1_145) rfl (l' := #[iv p0, .val (.long w1_11), .second]) (by rw [hw1_11]; rfl) ?_
    show Steps p.tables e below (s₁.setTop (mkF m 146 #[iv p0, .val (.long w1_11), .second] [])) _
    refine XS.lloadN X0.here hx rfl (hb hby d1_146) rfl ?_
    exact k
  have hv1 : w1_11 = f1 p0 := by subst hw1_1 hw1_2 hw1_3 hw1_4 hw1_5 hw1_6 hw1_7 hw1_8 hw1_9 hw1_10 hw1_11; rfl
  exact own_end X0 (BodyLoose.notSynchronized Bd) (fun h => by rw [Bd.returns] at h; cases h) (v := some (.long w1_11)) (fun fs hr => retOut X0 hx Bd.returns rfl (by simp [Value.isRef, FieldType.isReference]) (hb hby d1_147) hr) (by show Q1 Z p0 h0 n0 _ s₁.heap _; rw [e0]; exact ⟨(congrArg (fun z => some (Value.long z)) hv1), N0, rfl⟩) (by decide) (by decide)
theorem own_pn1 : plainName "com/example/lexarray/lexarray/model/Trie" = true := by first | (simp [plainName, overriddenIn]; done) | decide +kernel
theorem d2_0 : decode prog_20_method_63_code 0 = .ok (.ldc2_w 571, 3) := by decide +kernel
theorem d2_3 : decode prog_20_method_63_code 3 = .ok (.lstore 4, 2) := by decide +kernel
theorem d2_5 : decode prog_20_method_63_code 5 = .ok (.lload_n 0, 1) := by decide +kernel
theorem d2_6 : decode prog_20_method_63_code 6 = .ok (.lload 4, 2) := by decide +kernel
theorem d2_8 : decode prog_20_method_63_code 8 = .ok (.lor, 1) := by decide +kernel
theorem d2_9 : decode prog_20_method_63_code 9 = .ok (.lload_n 2, 1) := by decide +kernel
theorem d2_10 : decode prog_20_method_63_code 10 = .ok (.lload 4, 2) := by decide +kernel
theorem d2_12 : decode prog_20_method_63_code 12 = .ok (.ldc2_w 573, 3) := by decide +kernel
theorem d2_15 : decode prog_20_method_63_code 15 = .ok (.lxor, 1) := by decide +kernel
theorem d2_16 : decode prog_20_method_63_code 16 = .ok (.land, 1) := by decide +kernel
theorem d2_17 : decode prog_20_method_63_code 17 = .ok (.lsub, 1) := by decide +kernel
theorem d2_18 : decode prog_20_method_63_code 18 = .ok (.lstore 6, 2) := by decide +kernel
theorem d2_20 : decode prog_20_method_63_code 20 = .ok (.lload_n 0, 1) := by decide +kernel
theorem d2_21 : decode prog_20_method_63_code 21 = .ok (.lload_n 2, 1) := by decide +kernel
theorem d2_22 : decode prog_20_method_63_code 22 = .ok (.ldc2_w 573, 3) := by decide +kernel
theorem d2_25 : decode prog_20_method_63_code 25 = .ok (.lxor, 1) := by decide +kernel
theorem d2_26 : decode prog_20_method_63_code 26 = .ok (.land, 1) := by decide +kernel
theorem d2_27 : decode prog_20_method_63_code 27 = .ok (.lload_n 0, 1) := by decide +kernel
theorem d2_28 : decode prog_20_method_63_code 28 = .ok (.lload_n 2, 1) := by decide +kernel
theorem d2_29 : decode prog_20_method_63_code 29 = .ok (.lxor, 1) := by decide +kernel
theorem d2_30 : decode prog_20_method_63_code 30 = .ok (.ldc2_w 573, 3) := by decide +kernel
theorem d2_33 : decode prog_20_method_63_code 33 = .ok (.lxor, 1) := by decide +kernel
theorem d2_34 : decode prog_20_method_63_code 34 = .ok (.lload 6, 2) := by decide +kernel
theorem d2_36 : decode prog_20_method_63_code 36 = .ok (.land, 1) := by decide +kernel
theorem d2_37 : decode prog_20_method_63_code 37 = .ok (.lor, 1) := by decide +kernel
theorem d2_38 : decode prog_20_method_63_code 38 = .ok (.lload 4, 2) := by decide +kernel
theorem d2_40 : decode prog_20_method_63_code 40 = .ok (.land, 1) := by decide +kernel
theorem d2_41 : decode prog_20_method_63_code 41 = .ok (.lload 4, 2) := by decide +kernel
theorem d2_43 : decode prog_20_method_63_code 43 = .ok (.lcmp, 1) := by decide +kernel
theorem d2_44 : decode prog_20_method_63_code 44 = .ok (.ifCond .ne 7, 3) := by decide +kernel
theorem d2_47 : decode prog_20_method_63_code 47 = .ok (.iconst 1, 1) := by decide +kernel
theorem d2_48 : decode prog_20_method_63_code 48 = .ok (.goto 4, 3) := by decide +kernel
theorem d2_51 : decode prog_20_method_63_code 51 = .ok (.iconst 0, 1) := by decide +kernel
theorem d2_52 : decode prog_20_method_63_code 52 = .ok (.ireturn, 1) := by decide +kernel
theorem ef2 (m : MethodId) (q0 : Int64) (q1 : Int64) : entryFrame m #[(.long q0), (.long q1)] 8 = mkF m 0 #[.val (.long q0), .second, .val (.long q1), .second, .unset, .unset, .unset, .unset] [] := by first | (simp [entryFrame, mkF, argsToLocals, Value.category]; done) | rfl
def f2 (q0 : Int64) (q1 : Int64) : Int32 := (let w2_1 : Int64 := ((q0 ||| (-9187201950435737472:Int64)) - (q1 &&& ((-9187201950435737472:Int64) ^^^ (-1:Int64)))); let w2_2 : Int32 := (if (((q0 &&& (q1 ^^^ (-1:Int64))) ||| (((q0 ^^^ q1) ^^^ (-1:Int64)) &&& w2_1)) &&& (-9187201950435737472:Int64)) = (-9187201950435737472:Int64) then (1:Int32) else (0:Int32)); (w2_2 &&& 1))
def Q2 (Z : State) (q0 : Int64) (q1 : Int64)  (h0 : Heap) (n0 : Nat) (v : Option Value) (h : Heap) (L : List Loc) : Prop := v = some (.int (f2 q0 q1)) ∧ Fr n0 L ∧ h = h0
set_option maxRecDepth 65536 in
set_option maxHeartbeats 40000000 in
theorem rm2 (l : Launch) (Z : State) (aZ : Array Value) (hw : ∀ d ∈ tables_1, d.before aZ Z = true) (ws : List Jvm.Cond) (q0 : Int64) (q1 : Int64)  (h0 : Heap) (n0 : Nat) (Z0 : n0 ≤ h0.size)  :
    MetFree l (⟨"com/example/lexarray/lexarray/model/Trie", "bytesAtLeast", "(JJ)Z"⟩ : MethodName) (head1 (Jvm.Cond.code (⟨"com/example/lexarray/lexarray/model/Trie", "bytesAtLeast", "(JJ)Z"⟩ : MethodName) prog_20_method_63_code 8 (some .boolean) :: ws) ({ frames := 0, cells := 0, slots := 0, locals := 0 } : Room)) (fun a U => a = #[(.long q0), (.long q1)] ∧ Z.Warmed39 U.vm ∧ U.heap = h0) (fun _ _ _ _ _ => True) (fun _ U o U' => ∃ v L, o = .returned v ∧ Q2 Z q0 q1 h0 n0 v U'.heap L ∧ FrameEnd U o U' L ({ frames := 0, cells := 0, slots := 0, locals := 0 } : Room).cells ({ frames := 0, cells := 0, slots := 0, locals := 0 } : Room).slots) := by
  refine MetFree.of_bodySF (plainFor_of_name own_pn1) hisR ?_
  intro p e s m args below meth c s₁ Bd hml0 hP hK
  obtain ⟨rfl, hZ, hh⟩ := hP
  have hx := Bd.exec
  have hby := Bd.bytes
  have hml : c.maxLocals = 8 := hml0
  have hown : s.vm.findClass "com/example/lexarray/lexarray/model/Trie" = some m.cls := findClass_of_methodNamed Bd.named
  have hnm := (name_of_methodNamed Bd.named Bd.method).1
  have X0 : Stand p l e ({ frames := 0, cells := 0, slots := 0, locals := 0 } : Room) s m #[(.long q0), (.long q1)] below meth c s₁ [] 0 0 := Stand.of_body Bd
  have e0 : s₁.heap = h0 := by rw [← hh, Bd.state]; rfl
  have N0 := Fr.nil n0
  show own_Goes p e below s (Q2 Z q0 q1 h0 n0) ({ frames := 0, cells := 0, slots := 0, locals := 0 } : Room).cells ({ frames := 0, cells := 0, slots := 0, locals := 0 } : Room).slots _
  refine own_pre (fun t k => castTop (ef2 m q0 q1) k) ?_
  obtain ⟨w2_1, hw2_1⟩ : ∃ z : Int64, z = ((q0 ||| (-9187201950435737472:Int64)) - (q1 &&& ((-9187201950435737472:Int64) ^^^ (-1:Int64)))) := ⟨_, rfl⟩
  refine own_pre (A := s₁.setTop (mkF m 44 #[.val (.long q0), .second, .val (.long q1), .second, .val (.long (-9187201950435737472:Int64)), .second, .val (.long w2_1), .second] [(.int (XT.cmpL (((q0 &&& (q1 ^^^ (-1:Int64))) ||| (((q0 ^^^ q1) ^^^ (-1:Int64)) &&& w2_1)) &&& (-9187201950435737472:Int64)) (-9187201950435737472:Int64)))])) (fun t k => ?_) ?_
  · show Steps p.tables e below (s₁.setTop (mkF m 0 #[.val (.long q0), .second, .val (.long q1), .second, .unset, .unset, .unset, .unset] [])) _
    refine Jvm.Stand.ldc2J X0 hx hown (mvT hZ (own_h hw 9 rfl)) rfl (hb hby d2_0) ?_
    show Steps p.tables e below (s₁.setTop (mkF m 3 #[.val (.long q0), .second, .val (.long q1), .second, .unset, .unset, .unset, .unset] [(.long (-9187201950435737472:Int64))])) _
    refine XS.lstore X0.here hx rfl (hb hby d2_3) rfl (l' := #[.val (.long q0), .second, .val (.long q1), .second, .val (.long (-9187201950435737472:Int64)), .second, .unset, .unset]) rfl ?_
    show Steps p.tables e below (s₁.setTop (mkF m 5 #[.val (.long q0), .second, .val (.long q1), .second, .val (.long (-9187201950435737472:Int64)), .second, .unset, .unset] [])) _
    refine XS.lloadN X0.here hx rfl (hb hby d2_5) rfl ?_
    show Steps p.tables e below (s₁.setTop (mkF m 6 #[.val (.long q0), .second, .val (.long q1), .second, .val (.long (-9187201950435737472:Int64)), .second, .unset, .unset] [(.long q0)])) _
    refine XS.lload X0.here hx rfl (hb hby d2_6) rfl ?_
    show Steps p.tables e below (s₁.setTop (mkF m 8 #[.val (.long q0), .second, .val (.long q1), .second, .val (.long (-9187201950435737472:Int64)), .second, .unset, .unset] [(.long (-9187201950435737472:Int64)), (.long q0)])) _
    refine XS.lor X0.here hx rfl (hb hby d2_8) rfl ?_
    show Steps p.tables e below (s₁.setTop (mkF m 9 #[.val (.long q0), .second, .val (.long q1), .second, .val (.long (-9187201950435737472:Int64)), .second, .unset, .unset] [(.long (q0 ||| (-9187201950435737472:Int64)))])) _
    refine XS.lloadN X0.here hx rfl (hb hby d2_9) rfl ?_
    show Steps p.tables e below (s₁.setTop (mkF m 10 #[.val (.long q0), .second, .val (.long q1), .second, .val (.long (-9187201950435737472:Int64)), .second, .unset, .unset] [(.long q1), (.long (q0 ||| (-9187201950435737472:Int64)))])) _
    refine XS.lload X0.here hx rfl (hb hby d2_10) rfl ?_
    show Steps p.tables e below (s₁.setTop (mkF m 12 #[.val (.long q0), .second, .val (.long q1), .second, .val (.long (-9187201950435737472:Int64)), .second, .unset, .unset] [(.long (-9187201950435737472:Int64)), (.long q1), (.long (q0 ||| (-9187201950435737472:Int64)))])) _
    refine Jvm.Stand.ldc2J X0 hx hown (mvT hZ (own_h hw 10 rfl)) rfl (hb hby d2_12) ?_
    show Steps p.tables e below (s₁.setTop (mkF m 15 #[.val (.long q0), .second, .val (.long q1), .second, .val (.long (-9187201950435737472:Int64)), .second, .unset, .unset] [(.long (-1:Int64)), (.long (-9187201950435737472:Int64)), (.long q1), (.long (q0 ||| (-9187201950435737472:Int64)))])) _
    refine XS.lxor X0.here hx rfl (hb hby d2_15) rfl ?_
    show Steps p.tables e below (s₁.setTop (mkF m 16 #[.val (.long q0), .second, .val (.long q1), .second, .val (.long (-9187201950435737472:Int64)), .second, .unset, .unset] [(.long ((-9187201950435737472:Int64) ^^^ (-1:Int64))), (.long q1), (.long (q0 ||| (-9187201950435737472:Int64)))])) _
    refine XS.land X0.here hx rfl (hb hby d2_16) rfl ?_
    show Steps p.tables e below (s₁.setTop (mkF m 17 #[.val (.long q0), .second, .val (.long q1), .second, .val (.long (-9187201950435737472:Int64)), .second, .unset, .unset] [(.long (q1 &&& ((-9187201950435737472:Int64) ^^^ (-1:Int64)))), (.long (q0 ||| (-9187201950435737472:Int64)))])) _
    refine XS.lsub X0.here hx rfl (hb hby d2_17) rfl ?_
    show Steps p.tables e below (s₁.setTop (mkF m 18 #[.val (.long q0), .second, .val (.long q1), .second, .val (.long (-9187201950435737472:Int64)), .second, .unset, .unset] [(.long ((q0 ||| (-9187201950435737472:Int64)) - (q1 &&& ((-9187201950435737472:Int64) ^^^ (-1:Int64)))))])) _
    refine XS.lstore X0.here hx rfl (hb hby d2_18) rfl (l' := #[.val (.long q0), .second, .val (.long q1), .second, .val (.long (-9187201950435737472:Int64)), .second, .val (.long w2_1), .second]) (by rw [hw2_1]; rfl) ?_
    show Steps p.tables e below (s₁.setTop (mkF m 20 #[.val (.long q0), .second, .val (.long q1), .second, .val (.long (-9187201950435737472:Int64)), .second, .val (.long w2_1), .second] [])) _
    refine XS.lloadN X0.here hx rfl (hb hby d2_20) rfl ?_
    show Steps p.tables e below (s₁.setTop (mkF m 21 #[.val (.long q0), .second, .val (.long q1), .second, .val (.long (-9187201950435737472:Int64)), .second, .val (.long w2_1), .second] [(.long q0)])) _
    refine XS.lloadN X0.here hx rfl (hb hby d2_21) rfl ?_
    show Steps p.tables e below (s₁.setTop (mkF m 22 #[.val (.long q0), .second, .val (.long q1), .second, .val (.long (-9187201950435737472:Int64)), .second, .val (.long w2_1), .second] [(.long q1), (.long q0)])) _
    refine Jvm.Stand.ldc2J X0 hx hown (mvT hZ (own_h hw 10 rfl)) rfl (hb hby d2_22) ?_
    show Steps p.tables e below (s₁.setTop (mkF m 25 #[.val (.long q0), .second, .val (.long q1), .second, .val (.long (-9187201950435737472:Int64)), .second, .val (.long w2_1), .second] [(.long (-1:Int64)), (.long q1), (.long q0)])) _
    refine XS.lxor X0.here hx rfl (hb hby d2_25) rfl ?_
    show Steps p.tables e below (s₁.setTop (mkF m 26 #[.val (.long q0), .second, .val (.long q1), .second, .val (.long (-9187201950435737472:Int64)), .second, .val (.long w2_1), .second] [(.long (q1 ^^^ (-1:Int64))), (.long q0)])) _
    refine XS.land X0.here hx rfl (hb hby d2_26) rfl ?_
    show Steps p.tables e below (s₁.setTop (mkF m 27 #[.val (.long q0), .second, .val (.long q1), .second, .val (.long (-9187201950435737472:Int64)), .second, .val (.long w2_1), .second] [(.long (q0 &&& (q1 ^^^ (-1:Int64))))])) _
    refine XS.lloadN X0.here hx rfl (hb hby d2_27) rfl ?_
    show Steps p.tables e below (s₁.setTop (mkF m 28 #[.val (.long q0), .second, .val (.long q1), .second, .val (.long (-9187201950435737472:Int64)), .second, .val (.long w2_1), .second] [(.long q0), (.long (q0 &&& (q1 ^^^ (-1:Int64))))])) _
    refine XS.lloadN X0.here hx rfl (hb hby d2_28) rfl ?_
    show Steps p.tables e below (s₁.setTop (mkF m 29 #[.val (.long q0), .second, .val (.long q1), .second, .val (.long (-9187201950435737472:Int64)), .second, .val (.long w2_1), .second] [(.long q1), (.long q0), (.long (q0 &&& (q1 ^^^ (-1:Int64))))])) _
    refine XS.lxor X0.here hx rfl (hb hby d2_29) rfl ?_
    show Steps p.tables e below (s₁.setTop (mkF m 30 #[.val (.long q0), .second, .val (.long q1), .second, .val (.long (-9187201950435737472:Int64)), .second, .val (.long w2_1), .second] [(.long (q0 ^^^ q1)), (.long (q0 &&& (q1 ^^^ (-1:Int64))))])) _
    refine Jvm.Stand.ldc2J X0 hx hown (mvT hZ (own_h hw 10 rfl)) rfl (hb hby d2_30) ?_
    show Steps p.tables e below (s₁.setTop (mkF m 33 #[.val (.long q0), .second, .val (.long q1), .second, .val (.long (-9187201950435737472:Int64)), .second, .val (.long w2_1), .second] [(.long (-1:Int64)), (.long (q0 ^^^ q1)), (.long (q0 &&& (q1 ^^^ (-1:Int64))))])) _
    refine XS.lxor X0.here hx rfl (hb hby d2_33) rfl ?_
    show Steps p.tables e below (s₁.setTop (mkF m 34 #[.val (.long q0), .second, .val (.long q1), .second, .val (.long (-9187201950435737472:Int64)), .second, .val (.long w2_1), .second] [(.long ((q0 ^^^ q1) ^^^ (-1:Int64))), (.long (q0 &&& (q1 ^^^ (-1:Int64))))])) _
    refine XS.lload X0.here hx rfl (hb hby d2_34) rfl ?_
    show Steps p.tables e below (s₁.setTop (mkF m 36 #[.val (.long q0), .second, .val (.long q1), .second, .val (.long (-9187201950435737472:Int64)), .second, .val (.long w2_1), .second] [(.long w2_1), (.long ((q0 ^^^ q1) ^^^ (-1:Int64))), (.long (q0 &&& (q1 ^^^ (-1:Int64))))])) _
    refine XS.land X0.here hx rfl (hb hby d2_36) rfl ?_
    show Steps p.tables e below (s₁.setTop (mkF m 37 #[.val (.long q0), .second, .val (.long q1), .second, .val (.long (-9187201950435737472:Int64)), .second, .val (.long w2_1), .second] [(.long (((q0 ^^^ q1) ^^^ (-1:Int64)) &&& w2_1)), (.long (q0 &&& (q1 ^^^ (-1:Int64))))])) _
    refine XS.lor X0.here hx rfl (hb hby d2_37) rfl ?_
    show Steps p.tables e below (s₁.setTop (mkF m 38 #[.val (.long q0), .second, .val (.long q1), .second, .val (.long (-9187201950435737472:Int64)), .second, .val (.long w2_1), .second] [(.long ((q0 &&& (q1 ^^^ (-1:Int64))) ||| (((q0 ^^^ q1) ^^^ (-1:Int64)) &&& w2_1)))])) _
    refine XS.lload X0.here hx rfl (hb hby d2_38) rfl ?_
    show Steps p.tables e below (s₁.setTop (mkF m 40 #[.val (.long q0), .second, .val (.long q1), .second, .val (.long (-9187201950435737472:Int64)), .second, .val (.long w2_1), .second] [(.long (-9187201950435737472:Int64)), (.long ((q0 &&& (q1 ^^^ (-1:Int64))) ||| (((q0 ^^^ q1) ^^^ (-1:Int64)) &&& w2_1)))])) _
    refine XS.land X0.here hx rfl (hb hby d2_40) rfl ?_
    show Steps p.tables e below (s₁.setTop (mkF m 41 #[.val (.long q0), .second, .val (.long q1), .second, .val (.long (-9187201950435737472:Int64)), .second, .val (.long w2_1), .second] [(.long (((q0 &&& (q1 ^^^ (-1:Int64))) ||| (((q0 ^^^ q1) ^^^ (-1:Int64)) &&& w2_1)) &&& (-9187201950435737472:Int64)))])) _
    refine XS.lload X0.here hx rfl (hb hby d2_41) rfl ?_
    show Steps p.tables e below (s₁.setTop (mkF m 43 #[.val (.long q0), .second, .val (.long q1), .second, .val (.long (-9187201950435737472:Int64)), .second, .val (.long w2_1), .second] [(.long (-9187201950435737472:Int64)), (.long (((q0 &&& (q1 ^^^ (-1:Int64))) ||| (((q0 ^^^ q1) ^^^ (-1:Int64)) &&& w2_1)) &&& (-9187201950435737472:Int64)))])) _
    refine XT.lcmp X0.here hx rfl (hb hby d2_43) rfl ?_
    exact k
  obtain ⟨w2_2, hw2_2⟩ : ∃ z : Int32, z = (if (((q0 &&& (q1 ^^^ (-1:Int64))) ||| (((q0 ^^^ q1) ^^^ (-1:Int64)) &&& w2_1)) &&& (-9187201950435737472:Int64)) = (-9187201950435737472:Int64) then (1:Int32) else (0:Int32)) := ⟨_, rfl⟩
  refine own_pre (A := s₁.setTop (mkF m 52 #[.val (.long q0), .second, .val (.long q1), .second, .val (.long (-9187201950435737472:Int64)), .second, .val (.long w2_1), .second] [(.int w2_2)])) (fun t k => ?_) ?_
  · show Steps p.tables e below (s₁.setTop (mkF m 44 #[.val (.long q0), .second, .val (.long q1), .second, .val (.long (-9187201950435737472:Int64)), .second, .val (.long w2_1), .second] [(.int (XT.cmpL (((q0 &&& (q1 ^^^ (-1:Int64))) ||| (((q0 ^^^ q1) ^^^ (-1:Int64)) &&& w2_1)) &&& (-9187201950435737472:Int64)) (-9187201950435737472:Int64)))])) _
    by_cases hm44_1 : (((q0 &&& (q1 ^^^ (-1:Int64))) ||| (((q0 ^^^ q1) ^^^ (-1:Int64)) &&& w2_1)) &&& (-9187201950435737472:Int64)) = (-9187201950435737472:Int64)
    · refine XS.ifNo X0.here hx rfl (hb hby d2_44) rfl (XT.ll_ne_f hm44_1) ?_
      show Steps p.tables e below (s₁.setTop (mkF m 47 #[.val (.long q0), .second, .val (.long q1), .second, .val (.long (-9187201950435737472:Int64)), .second, .val (.long w2_1), .second] [])) _
      refine XS.iconst X0.here hx rfl (hb hby d2_47) ?_
      show Steps p.tables e below (s₁.setTop (mkF m 48 #[.val (.long q0), .second, .val (.long q1), .second, .val (.long (-9187201950435737472:Int64)), .second, .val (.long w2_1), .second] [(.int (1:Int32))])) _
      refine XS.goto X0.here hx rfl (pc0 := 48) (pc' := 52) rfl (hb hby d2_48) (by decide) (by decide) ?_
      rw [hw2_2.trans (if_pos hm44_1)] at k
      exact k
    · refine XS.ifYes X0.here hx rfl (pc0 := 44) (pc' := 51) rfl (hb hby d2_44) rfl (XT.ll_ne_t hm44_1) (by decide) (by decide) ?_
      show Steps p.tables e below (s₁.setTop (mkF m 51 #[.val (.long q0), .second, .val (.long q1), .second, .val (.long (-9187201950435737472:Int64)), .second, .val (.long w2_1), .second] [])) _
      refine XS.iconst X0.here hx rfl (hb hby d2_51) ?_
      rw [hw2_2.trans (if_neg hm44_1)] at k
      exact k
  have hv2 : (w2_2 &&& 1) = f2 q0 q1 := by subst hw2_1 hw2_2; rfl
  exact own_end X0 (BodyLoose.notSynchronized Bd) (fun h => by rw [Bd.returns] at h; cases h) (v := some (.int (w2_2 &&& 1))) (fun fs hr => retN X0 hx (t := .boolean) Bd.returns (by simp) (hb hby d2_52) hr) (by show Q2 Z q0 q1 h0 n0 _ s₁.heap _; rw [e0]; exact ⟨(congrArg (fun z => some (Value.int z)) hv2), N0, rfl⟩) (by decide) (by decide)
theorem d4_0 : decode method_4_code 0 = .ok (.bipush 8, 2) := by decide +kernel
theorem d4_2 : decode method_4_code 2 = .ok (.iload 4, 2) := by decide +kernel
theorem d4_4 : decode method_4_code 4 = .ok (.imul, 1) := by decide +kernel
theorem d4_5 : decode method_4_code 5 = .ok (.istore 5, 2) := by decide +kernel
theorem d4_7 : decode method_4_code 7 = .ok (.lload_n 0, 1) := by decide +kernel
theorem d4_8 : decode method_4_code 8 = .ok (.iload 5, 2) := by decide +kernel
theorem d4_10 : decode method_4_code 10 = .ok (.lushr, 1) := by decide +kernel
theorem d4_11 : decode method_4_code 11 = .ok (.ldc2_w 24, 3) := by decide +kernel
theorem d4_14 : decode method_4_code 14 = .ok (.land, 1) := by decide +kernel
theorem d4_15 : decode method_4_code 15 = .ok (.lload_n 2, 1) := by decide +kernel
theorem d4_16 : decode method_4_code 16 = .ok (.iload 5, 2) := by decide +kernel
theorem d4_18 : decode method_4_code 18 = .ok (.lushr, 1) := by decide +kernel
theorem d4_19 : decode method_4_code 19 = .ok (.ldc2_w 24, 3) := by decide +kernel
theorem d4_22 : decode method_4_code 22 = .ok (.land, 1) := by decide +kernel
theorem d4_23 : decode method_4_code 23 = .ok (.lcmp, 1) := by decide +kernel
theorem d4_24 : decode method_4_code 24 = .ok (.ifCond .lt 7, 3) := by decide +kernel
theorem d4_27 : decode method_4_code 27 = .ok (.iconst 1, 1) := by decide +kernel
theorem d4_28 : decode method_4_code 28 = .ok (.goto 4, 3) := by decide +kernel
theorem d4_31 : decode method_4_code 31 = .ok (.iconst 0, 1) := by decide +kernel
theorem d4_32 : decode method_4_code 32 = .ok (.ireturn, 1) := by decide +kernel
theorem ef4 (m : MethodId) (q0 : Int64) (q1 : Int64) (p2 : Int32) : entryFrame m #[(.long q0), (.long q1), (.int p2)] 6 = mkF m 0 #[.val (.long q0), .second, .val (.long q1), .second, iv p2, .unset] [] := by first | (simp [entryFrame, mkF, argsToLocals, Value.category]; done) | rfl
def f4 (q0 : Int64) (q1 : Int64) (p2 : Int32) : Int32 := (let w4_1 : Int32 := (if (((q0.toUInt64 >>> (((8:Int32) * p2) &&& 0x3f).toInt64.toUInt64).toInt64) &&& (255:Int64)) < (((q1.toUInt64 >>> (((8:Int32) * p2) &&& 0x3f).toInt64.toUInt64).toInt64) &&& (255:Int64)) then (0:Int32) else (1:Int32)); (w4_1 &&& 1))
def Q4 (Z : State) (q0 : Int64) (q1 : Int64) (p2 : Int32)  (h0 : Heap) (n0 : Nat) (v : Option Value) (h : Heap) (L : List Loc) : Prop := v = some (.int (f4 q0 q1 p2)) ∧ Fr n0 L ∧ h = h0
set_option maxRecDepth 65536 in
set_option maxHeartbeats 40000000 in
theorem rm4 (l : Launch) (Z : State) (aZ : Array Value) (hw : ∀ d ∈ tables_1, d.before aZ Z = true) (ws : List Jvm.Cond) (q0 : Int64) (q1 : Int64) (p2 : Int32)  (h0 : Heap) (n0 : Nat) (Z0 : n0 ≤ h0.size)  :
    MetFree l (⟨"com/example/lexarray/lexarray/model/TrieBytesAtLeastPinLaw", "byteAtLeast", "(JJI)Z"⟩ : MethodName) (head1 (Jvm.Cond.code (⟨"com/example/lexarray/lexarray/model/TrieBytesAtLeastPinLaw", "byteAtLeast", "(JJI)Z"⟩ : MethodName) method_4_code 6 (some .boolean) :: ws) ({ frames := 0, cells := 0, slots := 0, locals := 0 } : Room)) (fun a U => a = #[(.long q0), (.long q1), (.int p2)] ∧ Z.Warmed39 U.vm ∧ U.heap = h0) (fun _ _ _ _ _ => True) (fun _ U o U' => ∃ v L, o = .returned v ∧ Q4 Z q0 q1 p2 h0 n0 v U'.heap L ∧ FrameEnd U o U' L ({ frames := 0, cells := 0, slots := 0, locals := 0 } : Room).cells ({ frames := 0, cells := 0, slots := 0, locals := 0 } : Room).slots) := by
  refine MetFree.of_bodySF (plainFor_of_name own_pn0) hisR ?_
  intro p e s m args below meth c s₁ Bd hml0 hP hK
  obtain ⟨rfl, hZ, hh⟩ := hP
  have hx := Bd.exec
  have hby := Bd.bytes
  have hml : c.maxLocals = 6 := hml0
  have hown : s.vm.findClass "com/example/lexarray/lexarray/model/TrieBytesAtLeastPinLaw" = some m.cls := findClass_of_methodNamed Bd.named
  have hnm := (name_of_methodNamed Bd.named Bd.method).1
  have X0 : Stand p l e ({ frames := 0, cells := 0, slots := 0, locals := 0 } : Room) s m #[(.long q0), (.long q1), (.int p2)] below meth c s₁ [] 0 0 := Stand.of_body Bd
  have e0 : s₁.heap = h0 := by rw [← hh, Bd.state]; rfl
  have N0 := Fr.nil n0
  show own_Goes p e below s (Q4 Z q0 q1 p2 h0 n0) ({ frames := 0, cells := 0, slots := 0, locals := 0 } : Room).cells ({ frames := 0, cells := 0, slots := 0, locals := 0 } : Room).slots _
  refine own_pre (fun t k => castTop (ef4 m q0 q1 p2) k) ?_
  refine own_pre (A := s₁.setTop (mkF m 24 #[.val (.long q0), .second, .val (.long q1), .second, iv p2, iv ((8:Int32) * p2)] [(.int (XT.cmpL (((q0.toUInt64 >>> (((8:Int32) * p2) &&& 0x3f).toInt64.toUInt64).toInt64) &&& (255:Int64)) (((q1.toUInt64 >>> (((8:Int32) * p2) &&& 0x3f).toInt64.toUInt64).toInt64) &&& (255:Int64))))])) (fun t k => ?_) ?_
  · show Steps p.tables e below (s₁.setTop (mkF m 0 #[.val (.long q0), .second, .val (.long q1), .second, iv p2, .unset] [])) _
    refine XS.bipush X0.here hx rfl (hb hby d4_0) ?_
    show Steps p.tables e below (s₁.setTop (mkF m 2 #[.val (.long q0), .second, .val (.long q1), .second, iv p2, .unset] [(.int (8:Int32))])) _
    refine XS.iload X0.here hx rfl (hb hby d4_2) rfl ?_
    show Steps p.tables e below (s₁.setTop (mkF m 4 #[.val (.long q0), .second, .val (.long q1), .second, iv p2, .unset] [(.int p2), (.int (8:Int32))])) _
    refine XS.imul X0.here hx rfl (hb hby d4_4) rfl ?_
    show Steps p.tables e below (s₁.setTop (mkF m 5 #[.val (.long q0), .second, .val (.long q1), .second, iv p2, .unset] [(.int ((8:Int32) * p2))])) _
    refine XS.istore X0.here hx rfl (hb hby d4_5) rfl (l' := #[.val (.long q0), .second, .val (.long q1), .second, iv p2, iv ((8:Int32) * p2)]) rfl ?_
    show Steps p.tables e below (s₁.setTop (mkF m 7 #[.val (.long q0), .second, .val (.long q1), .second, iv p2, iv ((8:Int32) * p2)] [])) _
    refine XS.lloadN X0.here hx rfl (hb hby d4_7) rfl ?_
    show Steps p.tables e below (s₁.setTop (mkF m 8 #[.val (.long q0), .second, .val (.long q1), .second, iv p2, iv ((8:Int32) * p2)] [(.long q0)])) _
    refine XS.iload X0.here hx rfl (hb hby d4_8) rfl ?_
    show Steps p.tables e below (s₁.setTop (mkF m 10 #[.val (.long q0), .second, .val (.long q1), .second, iv p2, iv ((8:Int32) * p2)] [(.int ((8:Int32) * p2)), (.long q0)])) _
    refine XS.lushr X0.here hx rfl (hb hby d4_10) rfl ?_
    show Steps p.tables e below (s₁.setTop (mkF m 11 #[.val (.long q0), .second, .val (.long q1), .second, iv p2, iv ((8:Int32) * p2)] [(.long ((q0.toUInt64 >>> (((8:Int32) * p2) &&& 0x3f).toInt64.toUInt64).toInt64))])) _
    refine Jvm.Stand.ldc2J X0 hx hown (mvT hZ (own_h hw 17 rfl)) rfl (hb hby d4_11) ?_
    show Steps p.tables e below (s₁.setTop (mkF m 14 #[.val (.long q0), .second, .val (.long q1), .second, iv p2, iv ((8:Int32) * p2)] [(.long (255:Int64)), (.long ((q0.toUInt64 >>> (((8:Int32) * p2) &&& 0x3f).toInt64.toUInt64).toInt64))])) _
    refine XS.land X0.here hx rfl (hb hby d4_14) rfl ?_
    show Steps p.tables e below (s₁.setTop (mkF m 15 #[.val (.long q0), .second, .val (.long q1), .second, iv p2, iv ((8:Int32) * p2)] [(.long (((q0.toUInt64 >>> (((8:Int32) * p2) &&& 0x3f).toInt64.toUInt64).toInt64) &&& (255:Int64)))])) _
    refine XS.lloadN X0.here hx rfl (hb hby d4_15) rfl ?_
    show Steps p.tables e below (s₁.setTop (mkF m 16 #[.val (.long q0), .second, .val (.long q1), .second, iv p2, iv ((8:Int32) * p2)] [(.long q1), (.long (((q0.toUInt64 >>> (((8:Int32) * p2) &&& 0x3f).toInt64.toUInt64).toInt64) &&& (255:Int64)))])) _
    refine XS.iload X0.here hx rfl (hb hby d4_16) rfl ?_
    show Steps p.tables e below (s₁.setTop (mkF m 18 #[.val (.long q0), .second, .val (.long q1), .second, iv p2, iv ((8:Int32) * p2)] [(.int ((8:Int32) * p2)), (.long q1), (.long (((q0.toUInt64 >>> (((8:Int32) * p2) &&& 0x3f).toInt64.toUInt64).toInt64) &&& (255:Int64)))])) _
    refine XS.lushr X0.here hx rfl (hb hby d4_18) rfl ?_
    show Steps p.tables e below (s₁.setTop (mkF m 19 #[.val (.long q0), .second, .val (.long q1), .second, iv p2, iv ((8:Int32) * p2)] [(.long ((q1.toUInt64 >>> (((8:Int32) * p2) &&& 0x3f).toInt64.toUInt64).toInt64)), (.long (((q0.toUInt64 >>> (((8:Int32) * p2) &&& 0x3f).toInt64.toUInt64).toInt64) &&& (255:Int64)))])) _
    refine Jvm.Stand.ldc2J X0 hx hown (mvT hZ (own_h hw 17 rfl)) rfl (hb hby d4_19) ?_
    show Steps p.tables e below (s₁.setTop (mkF m 22 #[.val (.long q0), .second, .val (.long q1), .second, iv p2, iv ((8:Int32) * p2)] [(.long (255:Int64)), (.long ((q1.toUInt64 >>> (((8:Int32) * p2) &&& 0x3f).toInt64.toUInt64).toInt64)), (.long (((q0.toUInt64 >>> (((8:Int32) * p2) &&& 0x3f).toInt64.toUInt64).toInt64) &&& (255:Int64)))])) _
    refine XS.land X0.here hx rfl (hb hby d4_22) rfl ?_
    show Steps p.tables e below (s₁.setTop (mkF m 23 #[.val (.long q0), .second, .val (.long q1), .second, iv p2, iv ((8:Int32) * p2)] [(.long (((q1.toUInt64 >>> (((8:Int32) * p2) &&& 0x3f).toInt64.toUInt64).toInt64) &&& (255:Int64))), (.long (((q0.toUInt64 >>> (((8:Int32) * p2) &&& 0x3f).toInt64.toUInt64).toInt64) &&& (255:Int64)))])) _
    refine XT.lcmp X0.here hx rfl (hb hby d4_23) rfl ?_
    exact k
  obtain ⟨w4_1, hw4_1⟩ : ∃ z : Int32, z = (if (((q0.toUInt64 >>> (((8:Int32) * p2) &&& 0x3f).toInt64.toUInt64).toInt64) &&& (255:Int64)) < (((q1.toUInt64 >>> (((8:Int32) * p2) &&& 0x3f).toInt64.toUInt64).toInt64) &&& (255:Int64)) then (0:Int32) else (1:Int32)) := ⟨_, rfl⟩
  refine own_pre (A := s₁.setTop (mkF m 32 #[.val (.long q0), .second, .val (.long q1), .second, iv p2, iv ((8:Int32) * p2)] [(.int w4_1)])) (fun t k => ?_) ?_
  · show Steps p.tables e below (s₁.setTop (mkF m 24 #[.val (.long q0), .second, .val (.long q1), .second, iv p2, iv ((8:Int32) * p2)] [(.int (XT.cmpL (((q0.toUInt64 >>> (((8:Int32) * p2) &&& 0x3f).toInt64.toUInt64).toInt64) &&& (255:Int64)) (((q1.toUInt64 >>> (((8:Int32) * p2) &&& 0x3f).toInt64.toUInt64).toInt64) &&& (255:Int64))))])) _
    by_cases hm24_1 : (((q0.toUInt64 >>> (((8:Int32) * p2) &&& 0x3f).toInt64.toUInt64).toInt64) &&& (255:Int64)) < (((q1.toUInt64 >>> (((8:Int32) * p2) &&& 0x3f).toInt64.toUInt64).toInt64) &&& (255:Int64))
    · refine XS.ifYes X0.here hx rfl (pc0 := 24) (pc' := 31) rfl (hb hby d4_24) rfl (XT.ll_lt_t hm24_1) (by decide) (by decide) ?_
      show Steps p.tables e below (s₁.setTop (mkF m 31 #[.val (.long q0), .second, .val (.long q1), .second, iv p2, iv ((8:Int32) * p2)] [])) _
      refine XS.iconst X0.here hx rfl (hb hby d4_31) ?_
      rw [hw4_1.trans (if_pos hm24_1)] at k
      exact k
    · refine XS.ifNo X0.here hx rfl (hb hby d4_24) rfl (XT.ll_lt_f hm24_1) ?_
      show Steps p.tables e below (s₁.setTop (mkF m 27 #[.val (.long q0), .second, .val (.long q1), .second, iv p2, iv ((8:Int32) * p2)] [])) _
      refine XS.iconst X0.here hx rfl (hb hby d4_27) ?_
      show Steps p.tables e below (s₁.setTop (mkF m 28 #[.val (.long q0), .second, .val (.long q1), .second, iv p2, iv ((8:Int32) * p2)] [(.int (1:Int32))])) _
      refine XS.goto X0.here hx rfl (pc0 := 28) (pc' := 32) rfl (hb hby d4_28) (by decide) (by decide) ?_
      rw [hw4_1.trans (if_neg hm24_1)] at k
      exact k
  have hv3 : (w4_1 &&& 1) = f4 q0 q1 p2 := by subst hw4_1; rfl
  exact own_end X0 (BodyLoose.notSynchronized Bd) (fun h => by rw [Bd.returns] at h; cases h) (v := some (.int (w4_1 &&& 1))) (fun fs hr => retN X0 hx (t := .boolean) Bd.returns (by simp) (hb hby d4_32) hr) (by show Q4 Z q0 q1 p2 h0 n0 _ s₁.heap _; rw [e0]; exact ⟨(congrArg (fun z => some (Value.int z)) hv3), N0, rfl⟩) (by decide) (by decide)
theorem own_pd0 : parseMethodDescriptor "(JJI)Z" = some ⟨[.long, .long, .int], some .boolean⟩ := by decide +kernel
theorem d3_0 : decode method_5_code 0 = .ok (.lload_n 0, 1) := by decide +kernel
theorem d3_1 : decode method_5_code 1 = .ok (.lload_n 2, 1) := by decide +kernel
theorem d3_2 : decode method_5_code 2 = .ok (.iconst 0, 1) := by decide +kernel
theorem d3_3 : decode method_5_code 3 = .ok (.invokestatic 40, 3) := by decide +kernel
theorem d3_6 : decode method_5_code 6 = .ok (.ifCond .eq 72, 3) := by decide +kernel
theorem d3_9 : decode method_5_code 9 = .ok (.lload_n 0, 1) := by decide +kernel
theorem d3_10 : decode method_5_code 10 = .ok (.lload_n 2, 1) := by decide +kernel
theorem d3_11 : decode method_5_code 11 = .ok (.iconst 1, 1) := by decide +kernel
theorem d3_12 : decode method_5_code 12 = .ok (.invokestatic 40, 3) := by decide +kernel
theorem d3_15 : decode method_5_code 15 = .ok (.ifCond .eq 63, 3) := by decide +kernel
theorem d3_18 : decode method_5_code 18 = .ok (.lload_n 0, 1) := by decide +kernel
theorem d3_19 : decode method_5_code 19 = .ok (.lload_n 2, 1) := by decide +kernel
theorem d3_20 : decode method_5_code 20 = .ok (.iconst 2, 1) := by decide +kernel
theorem d3_21 : decode method_5_code 21 = .ok (.invokestatic 40, 3) := by decide +kernel
theorem d3_24 : decode method_5_code 24 = .ok (.ifCond .eq 54, 3) := by decide +kernel
theorem d3_27 : decode method_5_code 27 = .ok (.lload_n 0, 1) := by decide +kernel
theorem d3_28 : decode method_5_code 28 = .ok (.lload_n 2, 1) := by decide +kernel
theorem d3_29 : decode method_5_code 29 = .ok (.iconst 3, 1) := by decide +kernel
theorem d3_30 : decode method_5_code 30 = .ok (.invokestatic 40, 3) := by decide +kernel
theorem d3_33 : decode method_5_code 33 = .ok (.ifCond .eq 45, 3) := by decide +kernel
theorem d3_36 : decode method_5_code 36 = .ok (.lload_n 0, 1) := by decide +kernel
theorem d3_37 : decode method_5_code 37 = .ok (.lload_n 2, 1) := by decide +kernel
theorem d3_38 : decode method_5_code 38 = .ok (.iconst 4, 1) := by decide +kernel
theorem d3_39 : decode method_5_code 39 = .ok (.invokestatic 40, 3) := by decide +kernel
theorem d3_42 : decode method_5_code 42 = .ok (.ifCond .eq 36, 3) := by decide +kernel
theorem d3_45 : decode method_5_code 45 = .ok (.lload_n 0, 1) := by decide +kernel
theorem d3_46 : decode method_5_code 46 = .ok (.lload_n 2, 1) := by decide +kernel
theorem d3_47 : decode method_5_code 47 = .ok (.iconst 5, 1) := by decide +kernel
theorem d3_48 : decode method_5_code 48 = .ok (.invokestatic 40, 3) := by decide +kernel
theorem d3_51 : decode method_5_code 51 = .ok (.ifCond .eq 27, 3) := by decide +kernel
theorem d3_54 : decode method_5_code 54 = .ok (.lload_n 0, 1) := by decide +kernel
theorem d3_55 : decode method_5_code 55 = .ok (.lload_n 2, 1) := by decide +kernel
theorem d3_56 : decode method_5_code 56 = .ok (.bipush 6, 2) := by decide +kernel
theorem d3_58 : decode method_5_code 58 = .ok (.invokestatic 40, 3) := by decide +kernel
theorem d3_61 : decode method_5_code 61 = .ok (.ifCond .eq 17, 3) := by decide +kernel
theorem d3_64 : decode method_5_code 64 = .ok (.lload_n 0, 1) := by decide +kernel
theorem d3_65 : decode method_5_code 65 = .ok (.lload_n 2, 1) := by decide +kernel
theorem d3_66 : decode method_5_code 66 = .ok (.bipush 7, 2) := by decide +kernel
theorem d3_68 : decode method_5_code 68 = .ok (.invokestatic 40, 3) := by decide +kernel
theorem d3_71 : decode method_5_code 71 = .ok (.ifCond .eq 7, 3) := by decide +kernel
theorem d3_74 : decode method_5_code 74 = .ok (.iconst 1, 1) := by decide +kernel
theorem d3_75 : decode method_5_code 75 = .ok (.goto 4, 3) := by decide +kernel
theorem d3_78 : decode method_5_code 78 = .ok (.iconst 0, 1) := by decide +kernel
theorem d3_79 : decode method_5_code 79 = .ok (.ireturn, 1) := by decide +kernel
theorem ef3 (m : MethodId) (q0 : Int64) (q1 : Int64) : entryFrame m #[(.long q0), (.long q1)] 4 = mkF m 0 #[.val (.long q0), .second, .val (.long q1), .second] [] := by first | (simp [entryFrame, mkF, argsToLocals, Value.category]; done) | rfl
def f3 (q0 : Int64) (q1 : Int64) : Int32 := (if (f4 q0 q1 (0:Int32)) = (0:Int32) then (0:Int32) else (if (f4 q0 q1 (1:Int32)) = (0:Int32) then (0:Int32) else (if (f4 q0 q1 (2:Int32)) = (0:Int32) then (0:Int32) else (if (f4 q0 q1 (3:Int32)) = (0:Int32) then (0:Int32) else (if (f4 q0 q1 (4:Int32)) = (0:Int32) then (0:Int32) else (if (f4 q0 q1 (5:Int32)) = (0:Int32) then (0:Int32) else (if (f4 q0 q1 (6:Int32)) = (0:Int32) then (0:Int32) else (let w3_1 : Int32 := (if (f4 q0 q1 (7:Int32)) = (0:Int32) then (0:Int32) else (1:Int32)); (w3_1 &&& 1)))))))))
def Q3 (Z : State) (q0 : Int64) (q1 : Int64)  (h0 : Heap) (n0 : Nat) (v : Option Value) (h : Heap) (L : List Loc) : Prop := v = some (.int (f3 q0 q1)) ∧ Fr n0 L ∧ h = h0
set_option maxRecDepth 65536 in
set_option maxHeartbeats 40000000 in
theorem rm3 (l : Launch) (Z : State) (aZ : Array Value) (hw : ∀ d ∈ tables_1, d.before aZ Z = true) (ws : List Jvm.Cond) (q0 : Int64) (q1 : Int64)  (h0 : Heap) (n0 : Nat) (Z0 : n0 ≤ h0.size)  :
    MetFree l (⟨"com/example/lexarray/lexarray/model/TrieBytesAtLeastPinLaw", "reference", "(JJ)Z"⟩ : MethodName) (head1 (Jvm.Cond.code (⟨"com/example/lexarray/lexarray/model/TrieBytesAtLeastPinLaw", "reference", "(JJ)Z"⟩ : MethodName) method_5_code 4 (some .boolean) :: ws) ({ frames := 1, cells := 0, slots := 0, locals := 17 } : Room)) (fun a U => a = #[(.long q0), (.long q1)] ∧ Z.Warmed39 U.vm ∧ U.heap = h0) (fun _ _ _ _ _ => True) (fun _ U o U' => ∃ v L, o = .returned v ∧ Q3 Z q0 q1 h0 n0 v U'.heap L ∧ FrameEnd U o U' L ({ frames := 1, cells := 0, slots := 0, locals := 17 } : Room).cells ({ frames := 1, cells := 0, slots := 0, locals := 17 } : Room).slots) := by
  refine MetFree.of_bodySF (plainFor_of_name own_pn0) hisR ?_
  intro p e s m args below meth c s₁ Bd hml0 hP hK
  obtain ⟨rfl, hZ, hh⟩ := hP
  have hx := Bd.exec
  have hby := Bd.bytes
  have hml : c.maxLocals = 4 := hml0
  have hown : s.vm.findClass "com/example/lexarray/lexarray/model/TrieBytesAtLeastPinLaw" = some m.cls := findClass_of_methodNamed Bd.named
  have hnm := (name_of_methodNamed Bd.named Bd.method).1
  have X0 : Stand p l e ({ frames := 1, cells := 0, slots := 0, locals := 17 } : Room) s m #[(.long q0), (.long q1)] below meth c s₁ [] 0 0 := Stand.of_body Bd
  have e0 : s₁.heap = h0 := by rw [← hh, Bd.state]; rfl
  have N0 := Fr.nil n0
  show own_Goes p e below s (Q3 Z q0 q1 h0 n0) ({ frames := 1, cells := 0, slots := 0, locals := 17 } : Room).cells ({ frames := 1, cells := 0, slots := 0, locals := 17 } : Room).slots _
  refine own_pre (fun t k => castTop (ef3 m q0 q1) k) ?_
  refine own_pre (A := s₁.setTop (mkF m 3 #[.val (.long q0), .second, .val (.long q1), .second] [(.int (0:Int32)), (.long q1), (.long q0)])) (fun t k => ?_) ?_
  · show Steps p.tables e below (s₁.setTop (mkF m 0 #[.val (.long q0), .second, .val (.long q1), .second] [])) _
    refine XS.lloadN X0.here hx rfl (hb hby d3_0) rfl ?_
    show Steps p.tables e below (s₁.setTop (mkF m 1 #[.val (.long q0), .second, .val (.long q1), .second] [(.long q0)])) _
    refine XS.lloadN X0.here hx rfl (hb hby d3_1) rfl ?_
    show Steps p.tables e below (s₁.setTop (mkF m 2 #[.val (.long q0), .second, .val (.long q1), .second] [(.long q1), (.long q0)])) _
    refine XS.iconst X0.here hx rfl (hb hby d3_2) ?_
    exact k
  obtain ⟨_, _, ⟨T4, L4, k4, n4⟩, -, X4, ⟨Lc4, hQ4, l4, y4, z4⟩, st4⟩ := Jvm.LawKit.callS X0 hx (y := (⟨"com/example/lexarray/lexarray/model/TrieBytesAtLeastPinLaw", "byteAtLeast", "(JJI)Z"⟩ : MethodName)) hown (mvT hZ (own_h hw 14 rfl)) (mvT hZ (own_h hw 15 rfl)) (mvT hZ (own_h hw 2 rfl)) (mvT hZ (own_h hw 16 rfl)) (by decide) (backOf (W := 0) (rm4 l Z aZ hw [] q0 q1 (0:Int32) h0 n0 Z0 ) hZ (own_h hw 16 rfl) (own_h hw 2 rfl) (by decide) (by decide)) (g := (mkF m 3 #[.val (.long q0), .second, .val (.long q1), .second] [(.int (0:Int32)), (.long q1), (.long q0)])) rfl (by rw [hml]; rfl) (argsL := [(.long q0), (.long q1), (.int (0:Int32))]) (rest := []) (lenOf own_pd0 rfl) rfl (by show 2 * 0 + _ ≤ _; exact Nat.le_of_eq rfl) (hb hby d3_3) (fun _ _ => ⟨rfl, e0, (by decide : 0 + 0 ≤ _), (by decide : 0 + 0 ≤ _)⟩)
  dsimp only [Pt.U, Pt.locs, Pt.cells, Pt.slots] at X4 l4 y4 z4 st4 hQ4
  subst l4 y4 z4
  obtain ⟨rfl, N4q, eh4⟩ := hQ4
  have N4 := Fr.app N0 N4q
  refine own_pre st4 ?_
  by_cases hs6_2 : (f4 q0 q1 (0:Int32)) = (0:Int32)
  · refine own_pre (A := T4.setTop (mkF m 79 #[.val (.long q0), .second, .val (.long q1), .second] [(.int (0:Int32))])) (fun t k => ?_) ?_
    · show Steps p.tables e below (T4.setTop (mkF m 6 #[.val (.long q0), .second, .val (.long q1), .second] [(.int (f4 q0 q1 (0:Int32)))])) _
      refine XS.ifYes X4.here hx rfl (pc0 := 6) (pc' := 78) rfl (hb hby d3_6) rfl (XT.i0_eq_t hs6_2) (by decide) (by decide) ?_
      show Steps p.tables e below (T4.setTop (mkF m 78 #[.val (.long q0), .second, .val (.long q1), .second] [])) _
      refine XS.iconst X4.here hx rfl (hb hby d3_78) ?_
      exact k
    have hv5 : (0:Int32) = f3 q0 q1 := by simp only [f3, if_pos hs6_2]
    exact own_end X4 (BodyLoose.notSynchronized Bd) (fun h => by rw [Bd.returns] at h; cases h) (v := some (.int (0:Int32))) (fun fs hr => retN X4 hx (t := .boolean) Bd.returns (by simp) (hb hby d3_79) hr) (by show Q3 Z q0 q1 h0 n0 _ T4.heap _; rw [eh4]; exact ⟨(congrArg (fun z => some (Value.int z)) hv5), N4, rfl⟩) (by decide) (by decide)
  · refine own_pre (A := T4.setTop (mkF m 12 #[.val (.long q0), .second, .val (.long q1), .second] [(.int (1:Int32)), (.long q1), (.long q0)])) (fun t k => ?_) ?_
    · show Steps p.tables e below (T4.setTop (mkF m 6 #[.val (.long q0), .second, .val (.long q1), .second] [(.int (f4 q0 q1 (0:Int32)))])) _
      refine XS.ifNo X4.here hx rfl (hb hby d3_6) rfl (XT.i0_eq_f hs6_2) ?_
      show Steps p.tables e below (T4.setTop (mkF m 9 #[.val (.long q0), .second, .val (.long q1), .second] [])) _
      refine XS.lloadN X4.here hx rfl (hb hby d3_9) rfl ?_
      show Steps p.tables e below (T4.setTop (mkF m 10 #[.val (.long q0), .second, .val (.long q1), .second] [(.long q0)])) _
      refine XS.lloadN X4.here hx rfl (hb hby d3_10) rfl ?_
      show Steps p.tables e below (T4.setTop (mkF m 11 #[.val (.long q0), .second, .val (.long q1), .second] [(.long q1), (.long q0)])) _
      refine XS.iconst X4.here hx rfl (hb hby d3_11) ?_
      exact k
    obtain ⟨_, _, ⟨T6, L6, k6, n6⟩, -, X6, ⟨Lc6, hQ6, l6, y6, z6⟩, st6⟩ := Jvm.LawKit.callS X4 hx (y := (⟨"com/example/lexarray/lexarray/model/TrieBytesAtLeastPinLaw", "byteAtLeast", "(JJI)Z"⟩ : MethodName)) hown (mvT hZ (own_h hw 14 rfl)) (mvT hZ (own_h hw 15 rfl)) (mvT hZ (own_h hw 2 rfl)) (mvT hZ (own_h hw 16 rfl)) (by decide) (backOf (W := 0) (rm4 l Z aZ hw [] q0 q1 (1:Int32) h0 n0 Z0 ) hZ (own_h hw 16 rfl) (own_h hw 2 rfl) (by decide) (by decide)) (g := (mkF m 12 #[.val (.long q0), .second, .val (.long q1), .second] [(.int (1:Int32)), (.long q1), (.long q0)])) rfl (by rw [hml]; rfl) (argsL := [(.long q0), (.long q1), (.int (1:Int32))]) (rest := []) (lenOf own_pd0 rfl) rfl (by show 2 * 0 + _ ≤ _; exact Nat.le_of_eq rfl) (hb hby d3_12) (fun _ _ => ⟨rfl, eh4, (by decide : 0 + 0 ≤ _), (by decide : 0 + 0 ≤ _)⟩)
    dsimp only [Pt.U, Pt.locs, Pt.cells, Pt.slots] at X6 l6 y6 z6 st6 hQ6
    subst l6 y6 z6
    obtain ⟨rfl, N6q, eh6⟩ := hQ6
    have N6 := Fr.app N4 N6q
    refine own_pre st6 ?_
    by_cases hs15_4 : (f4 q0 q1 (1:Int32)) = (0:Int32)
    · refine own_pre (A := T6.setTop (mkF m 79 #[.val (.long q0), .second, .val (.long q1), .second] [(.int (0:Int32))])) (fun t k => ?_) ?_
      · show Steps p.tables e below (T6.setTop (mkF m 15 #[.val (.long q0), .second, .val (.long q1), .second] [(.int (f4 q0 q1 (1:Int32)))])) _
        refine XS.ifYes X6.here hx rfl (pc0 := 15) (pc' := 78) rfl (hb hby d3_15) rfl (XT.i0_eq_t hs15_4) (by decide) (by decide) ?_
        show Steps p.tables e below (T6.setTop (mkF m 78 #[.val (.long q0), .second, .val (.long q1), .second] [])) _
        refine XS.iconst X6.here hx rfl (hb hby d3_78) ?_
        exact k
      have hv7 : (0:Int32) = f3 q0 q1 := by simp only [f3, if_neg hs6_2, if_pos hs15_4]
      exact own_end X6 (BodyLoose.notSynchronized Bd) (fun h => by rw [Bd.returns] at h; cases h) (v := some (.int (0:Int32))) (fun fs hr => retN X6 hx (t := .boolean) Bd.returns (by simp) (hb hby d3_79) hr) (by show Q3 Z q0 q1 h0 n0 _ T6.heap _; rw [eh6]; exact ⟨(congrArg (fun z => some (Value.int z)) hv7), N6, rfl⟩) (by decide) (by decide)
    · refine own_pre (A := T6.setTop (mkF m 21 #[.val (.long q0), .second, .val (.long q1), .second] [(.int (2:Int32)), (.long q1), (.long q0)])) (fun t k => ?_) ?_
      · show Steps p.tables e below (T6.setTop (mkF m 15 #[.val (.long q0), .second, .val (.long q1), .second] [(.int (f4 q0 q1 (1:Int32)))])) _
        refine XS.ifNo X6.here hx rfl (hb hby d3_15) rfl (XT.i0_eq_f hs15_4) ?_
        show Steps p.tables e below (T6.setTop (mkF m 18 #[.val (.long q0), .second, .val (.long q1), .second] [])) _
        refine XS.lloadN X6.here hx rfl (hb hby d3_18) rfl ?_
        show Steps p.tables e below (T6.setTop (mkF m 19 #[.val (.long q0), .second, .val (.long q1), .second] [(.long q0)])) _
        refine XS.lloadN X6.here hx rfl (hb hby d3_19) rfl ?_
        show Steps p.tables e below (T6.setTop (mkF m 20 #[.val (.long q0), .second, .val (.long q1), .second] [(.long q1), (.long q0)])) _
        refine XS.iconst X6.here hx rfl (hb hby d3_20) ?_
        exact k
      obtain ⟨_, _, ⟨T8, L8, k8, n8⟩, -, X8, ⟨Lc8, hQ8, l8, y8, z8⟩, st8⟩ := Jvm.LawKit.callS X6 hx (y := (⟨"com/example/lexarray/lexarray/model/TrieBytesAtLeastPinLaw", "byteAtLeast", "(JJI)Z"⟩ : MethodName)) hown (mvT hZ (own_h hw 14 rfl)) (mvT hZ (own_h hw 15 rfl)) (mvT hZ (own_h hw 2 rfl)) (mvT hZ (own_h hw 16 rfl)) (by decide) (backOf (W := 0) (rm4 l Z aZ hw [] q0 q1 (2:Int32) h0 n0 Z0 ) hZ (own_h hw 16 rfl) (own_h hw 2 rfl) (by decide) (by decide)) (g := (mkF m 21 #[.val (.long q0), .second, .val (.long q1), .second] [(.int (2:Int32)), (.long q1), (.long q0)])) rfl (by rw [hml]; rfl) (argsL := [(.long q0), (.long q1), (.int (2:Int32))]) (rest := []) (lenOf own_pd0 rfl) rfl (by show 2 * 0 + _ ≤ _; exact Nat.le_of_eq rfl) (hb hby d3_21) (fun _ _ => ⟨rfl, eh6, (by decide : 0 + 0 ≤ _), (by decide : 0 + 0 ≤ _)⟩)
      dsimp only [Pt.U, Pt.locs, Pt.cells, Pt.slots] at X8 l8 y8 z8 st8 hQ8
      subst l8 y8 z8
      obtain ⟨rfl, N8q, eh8⟩ := hQ8
      have N8 := Fr.app N6 N8q
      refine own_pre st8 ?_
      by_cases hs24_6 : (f4 q0 q1 (2:Int32)) = (0:Int32)
      · refine own_pre (A := T8.setTop (mkF m 79 #[.val (.long q0), .second, .val (.long q1), .second] [(.int (0:Int32))])) (fun t k => ?_) ?_
        · show Steps p.tables e below (T8.setTop (mkF m 24 #[.val (.long q0), .second, .val (.long q1), .second] [(.int (f4 q0 q1 (2:Int32)))])) _
          refine XS.ifYes X8.here hx rfl (pc0 := 24) (pc' := 78) rfl (hb hby d3_24) rfl (XT.i0_eq_t hs24_6) (by decide) (by decide) ?_
          show Steps p.tables e below (T8.setTop (mkF m 78 #[.val (.long q0), .second, .val (.long q1), .second] [])) _
          refine XS.iconst X8.here hx rfl (hb hby d3_78) ?_
          exact k
        have hv9 : (0:Int32) = f3 q0 q1 := by simp only [f3, if_neg hs6_2, if_neg hs15_4, if_pos hs24_6]
        exact own_end X8 (BodyLoose.notSynchronized Bd) (fun h => by rw [Bd.returns] at h; cases h) (v := some (.int (0:Int32))) (fun fs hr => retN X8 hx (t := .boolean) Bd.returns (by simp) (hb hby d3_79) hr) (by show Q3 Z q0 q1 h0 n0 _ T8.heap _; rw [eh8]; exact ⟨(congrArg (fun z => some (Value.int z)) hv9), N8, rfl⟩) (by decide) (by decide)
      · refine own_pre (A := T8.setTop (mkF m 30 #[.val (.long q0), .second, .val (.long q1), .second] [(.int (3:Int32)), (.long q1), (.long q0)])) (fun t k => ?_) ?_
        · show Steps p.tables e below (T8.setTop (mkF m 24 #[.val (.long q0), .second, .val (.long q1), .second] [(.int (f4 q0 q1 (2:Int32)))])) _
          refine XS.ifNo X8.here hx rfl (hb hby d3_24) rfl (XT.i0_eq_f hs24_6) ?_
          show Steps p.tables e below (T8.setTop (mkF m 27 #[.val (.long q0), .second, .val (.long q1), .second] [])) _
          refine XS.lloadN X8.here hx rfl (hb hby d3_27) rfl ?_
          show Steps p.tables e below (T8.setTop (mkF m 28 #[.val (.long q0), .second, .val (.long q1), .second] [(.long q0)])) _
          refine XS.lloadN X8.here hx rfl (hb hby d3_28) rfl ?_
          show Steps p.tables e below (T8.setTop (mkF m 29 #[.val (.long q0), .second, .val (.long q1), .second] [(.long q1), (.long q0)])) _
          refine XS.iconst X8.here hx rfl (hb hby d3_29) ?_
          exact k
        obtain ⟨_, _, ⟨T10, L10, k10, n10⟩, -, X10, ⟨Lc10, hQ10, l10, y10, z10⟩, st10⟩ := Jvm.LawKit.callS X8 hx (y := (⟨"com/example/lexarray/lexarray/model/TrieBytesAtLeastPinLaw", "byteAtLeast", "(JJI)Z"⟩ : MethodName)) hown (mvT hZ (own_h hw 14 rfl)) (mvT hZ (own_h hw 15 rfl)) (mvT hZ (own_h hw 2 rfl)) (mvT hZ (own_h hw 16 rfl)) (by decide) (backOf (W := 0) (rm4 l Z aZ hw [] q0 q1 (3:Int32) h0 n0 Z0 ) hZ (own_h hw 16 rfl) (own_h hw 2 rfl) (by decide) (by decide)) (g := (mkF m 30 #[.val (.long q0), .second, .val (.long q1), .second] [(.int (3:Int32)), (.long q1), (.long q0)])) rfl (by rw [hml]; rfl) (argsL := [(.long q0), (.long q1), (.int (3:Int32))]) (rest := []) (lenOf own_pd0 rfl) rfl (by show 2 * 0 + _ ≤ _; exact Nat.le_of_eq rfl) (hb hby d3_30) (fun _ _ => ⟨rfl, eh8, (by decide : 0 + 0 ≤ _), (by decide : 0 + 0 ≤ _)⟩)
        dsimp only [Pt.U, Pt.locs, Pt.cells, Pt.slots] at X10 l10 y10 z10 st10 hQ10
        subst l10 y10 z10
        obtain ⟨rfl, N10q, eh10⟩ := hQ10
        have N10 := Fr.app N8 N10q
        refine own_pre st10 ?_
        by_cases hs33_8 : (f4 q0 q1 (3:Int32)) = (0:Int32)
        · refine own_pre (A := T10.setTop (mkF m 79 #[.val (.long q0), .second, .val (.long q1), .second] [(.int (0:Int32))])) (fun t k => ?_) ?_
          · show Steps p.tables e below (T10.setTop (mkF m 33 #[.val (.long q0), .second, .val (.long q1), .second] [(.int (f4 q0 q1 (3:Int32)))])) _
            refine XS.ifYes X10.here hx rfl (pc0 := 33) (pc' := 78) rfl (hb hby d3_33) rfl (XT.i0_eq_t hs33_8) (by decide) (by decide) ?_
            show Steps p.tables e below (T10.setTop (mkF m 78 #[.val (.long q0), .second, .val (.long q1), .second] [])) _
            refine XS.iconst X10.here hx rfl (hb hby d3_78) ?_
            exact k
          have hv11 : (0:Int32) = f3 q0 q1 := by simp only [f3, if_neg hs6_2, if_neg hs15_4, if_neg hs24_6, if_pos hs33_8]
          exact own_end X10 (BodyLoose.notSynchronized Bd) (fun h => by rw [Bd.returns] at h; cases h) (v := some (.int (0:Int32))) (fun fs hr => retN X10 hx (t := .boolean) Bd.returns (by simp) (hb hby d3_79) hr) (by show Q3 Z q0 q1 h0 n0 _ T10.heap _; rw [eh10]; exact ⟨(congrArg (fun z => some (Value.int z)) hv11), N10, rfl⟩) (by decide) (by decide)
        · refine own_pre (A := T10.setTop (mkF m 39 #[.val (.long q0), .second, .val (.long q1), .second] [(.int (4:Int32)), (.long q1), (.long q0)])) (fun t k => ?_) ?_
          · show Steps p.tables e below (T10.setTop (mkF m 33 #[.val (.long q0), .second, .val (.long q1), .second] [(.int (f4 q0 q1 (3:Int32)))])) _
            refine XS.ifNo X10.here hx rfl (hb hby d3_33) rfl (XT.i0_eq_f hs33_8) ?_
            show Steps p.tables e below (T10.setTop (mkF m 36 #[.val (.long q0), .second, .val (.long q1), .second] [])) _
            refine XS.lloadN X10.here hx rfl (hb hby d3_36) rfl ?_
            show Steps p.tables e below (T10.setTop (mkF m 37 #[.val (.long q0), .second, .val (.long q1), .second] [(.long q0)])) _
            refine XS.lloadN X10.here hx rfl (hb hby d3_37) rfl ?_
            show Steps p.tables e below (T10.setTop (mkF m 38 #[.val (.long q0), .second, .val (.long q1), .second] [(.long q1), (.long q0)])) _
            refine XS.iconst X10.here hx rfl (hb hby d3_38) ?_
            exact k
          obtain ⟨_, _, ⟨T12, L12, k12, n12⟩, -, X12, ⟨Lc12, hQ12, l12, y12, z12⟩, st12⟩ := Jvm.LawKit.callS X10 hx (y := (⟨"com/example/lexarray/lexarray/model/TrieBytesAtLeastPinLaw", "byteAtLeast", "(JJI)Z"⟩ : MethodName)) hown (mvT hZ (own_h hw 14 rfl)) (mvT hZ (own_h hw 15 rfl)) (mvT hZ (own_h hw 2 rfl)) (mvT hZ (own_h hw 16 rfl)) (by decide) (backOf (W := 0) (rm4 l Z aZ hw [] q0 q1 (4:Int32) h0 n0 Z0 ) hZ (own_h hw 16 rfl) (own_h hw 2 rfl) (by decide) (by decide)) (g := (mkF m 39 #[.val (.long q0), .second, .val (.long q1), .second] [(.int (4:Int32)), (.long q1), (.long q0)])) rfl (by rw [hml]; rfl) (argsL := [(.long q0), (.long q1), (.int (4:Int32))]) (rest := []) (lenOf own_pd0 rfl) rfl (by show 2 * 0 + _ ≤ _; exact Nat.le_of_eq rfl) (hb hby d3_39) (fun _ _ => ⟨rfl, eh10, (by decide : 0 + 0 ≤ _), (by decide : 0 + 0 ≤ _)⟩)
          dsimp only [Pt.U, Pt.locs, Pt.cells, Pt.slots] at X12 l12 y12 z12 st12 hQ12
          subst l12 y12 z12
          obtain ⟨rfl, N12q, eh12⟩ := hQ12
          have N12 := Fr.app N10 N12q
          refine own_pre st12 ?_
          by_cases hs42_10 : (f4 q0 q1 (4:Int32)) = (0:Int32)
          · refine own_pre (A := T12.setTop (mkF m 79 #[.val (.long q0), .second, .val (.long q1), .second] [(.int (0:Int32))])) (fun t k => ?_) ?_
            · show Steps p.tables e below (T12.setTop (mkF m 42 #[.val (.long q0), .second, .val (.long q1), .second] [(.int (f4 q0 q1 (4:Int32)))])) _
              refine XS.ifYes X12.here hx rfl (pc0 := 42) (pc' := 78) rfl (hb hby d3_42) rfl (XT.i0_eq_t hs42_10) (by decide) (by decide) ?_
              show Steps p.tables e below (T12.setTop (mkF m 78 #[.val (.long q0), .second, .val (.long q1), .second] [])) _
              refine XS.iconst X12.here hx rfl (hb hby d3_78) ?_
              exact k
            have hv13 : (0:Int32) = f3 q0 q1 := by simp only [f3, if_neg hs6_2, if_neg hs15_4, if_neg hs24_6, if_neg hs33_8, if_pos hs42_10]
            exact own_end X12 (BodyLoose.notSynchronized Bd) (fun h => by rw [Bd.returns] at h; cases h) (v := some (.int (0:Int32))) (fun fs hr => retN X12 hx (t := .boolean) Bd.returns (by simp) (hb hby d3_79) hr) (by show Q3 Z q0 q1 h0 n0 _ T12.heap _; rw [eh12]; exact ⟨(congrArg (fun z => some (Value.int z)) hv13), N12, rfl⟩) (by decide) (by decide)
          · refine own_pre (A := T12.setTop (mkF m 48 #[.val (.long q0), .second, .val (.long q1), .second] [(.int (5:Int32)), (.long q1), (.long q0)])) (fun t k => ?_) ?_
            · show Steps p.tables e below (T12.setTop (mkF m 42 #[.val (.long q0), .second, .val (.long q1), .second] [(.int (f4 q0 q1 (4:Int32)))])) _
              refine XS.ifNo X12.here hx rfl (hb hby d3_42) rfl (XT.i0_eq_f hs42_10) ?_
              show Steps p.tables e below (T12.setTop (mkF m 45 #[.val (.long q0), .second, .val (.long q1), .second] [])) _
              refine XS.lloadN X12.here hx rfl (hb hby d3_45) rfl ?_
              show Steps p.tables e below (T12.setTop (mkF m 46 #[.val (.long q0), .second, .val (.long q1), .second] [(.long q0)])) _
              refine XS.lloadN X12.here hx rfl (hb hby d3_46) rfl ?_
              show Steps p.tables e below (T12.setTop (mkF m 47 #[.val (.long q0), .second, .val (.long q1), .second] [(.long q1), (.long q0)])) _
              refine XS.iconst X12.here hx rfl (hb hby d3_47) ?_
              exact k
            obtain ⟨_, _, ⟨T14, L14, k14, n14⟩, -, X14, ⟨Lc14, hQ14, l14, y14, z14⟩, st14⟩ := Jvm.LawKit.callS X12 hx (y := (⟨"com/example/lexarray/lexarray/model/TrieBytesAtLeastPinLaw", "byteAtLeast", "(JJI)Z"⟩ : MethodName)) hown (mvT hZ (own_h hw 14 rfl)) (mvT hZ (own_h hw 15 rfl)) (mvT hZ (own_h hw 2 rfl)) (mvT hZ (own_h hw 16 rfl)) (by decide) (backOf (W := 0) (rm4 l Z aZ hw [] q0 q1 (5:Int32) h0 n0 Z0 ) hZ (own_h hw 16 rfl) (own_h hw 2 rfl) (by decide) (by decide)) (g := (mkF m 48 #[.val (.long q0), .second, .val (.long q1), .second] [(.int (5:Int32)), (.long q1), (.long q0)])) rfl (by rw [hml]; rfl) (argsL := [(.long q0), (.long q1), (.int (5:Int32))]) (rest := []) (lenOf own_pd0 rfl) rfl (by show 2 * 0 + _ ≤ _; exact Nat.le_of_eq rfl) (hb hby d3_48) (fun _ _ => ⟨rfl, eh12, (by decide : 0 + 0 ≤ _), (by decide : 0 + 0 ≤ _)⟩)
            dsimp only [Pt.U, Pt.locs, Pt.cells, Pt.slots] at X14 l14 y14 z14 st14 hQ14
            subst l14 y14 z14
            obtain ⟨rfl, N14q, eh14⟩ := hQ14
            have N14 := Fr.app N12 N14q
            refine own_pre st14 ?_
            by_cases hs51_12 : (f4 q0 q1 (5:Int32)) = (0:Int32)
            · refine own_pre (A := T14.setTop (mkF m 79 #[.val (.long q0), .second, .val (.long q1), .second] [(.int (0:Int32))])) (fun t k => ?_) ?_
              · show Steps p.tables e below (T14.setTop (mkF m 51 #[.val (.long q0), .second, .val (.long q1), .second] [(.int (f4 q0 q1 (5:Int32)))])) _
                refine XS.ifYes X14.here hx rfl (pc0 := 51) (pc' := 78) rfl (hb hby d3_51) rfl (XT.i0_eq_t hs51_12) (by decide) (by decide) ?_
                show Steps p.tables e below (T14.setTop (mkF m 78 #[.val (.long q0), .second, .val (.long q1), .second] [])) _
                refine XS.iconst X14.here hx rfl (hb hby d3_78) ?_
                exact k
              have hv15 : (0:Int32) = f3 q0 q1 := by simp only [f3, if_neg hs6_2, if_neg hs15_4, if_neg hs24_6, if_neg hs33_8, if_neg hs42_10, if_pos hs51_12]
              exact own_end X14 (BodyLoose.notSynchronized Bd) (fun h => by rw [Bd.returns] at h; cases h) (v := some (.int (0:Int32))) (fun fs hr => retN X14 hx (t := .boolean) Bd.returns (by simp) (hb hby d3_79) hr) (by show Q3 Z q0 q1 h0 n0 _ T14.heap _; rw [eh14]; exact ⟨(congrArg (fun z => some (Value.int z)) hv15), N14, rfl⟩) (by decide) (by decide)
            · refine own_pre (A := T14.setTop (mkF m 58 #[.val (.long q0), .second, .val (.long q1), .second] [(.int (6:Int32)), (.long q1), (.long q0)])) (fun t k => ?_) ?_
              · show Steps p.tables e below (T14.setTop (mkF m 51 #[.val (.long q0), .second, .val (.long q1), .second] [(.int (f4 q0 q1 (5:Int32)))])) _
                refine XS.ifNo X14.here hx rfl (hb hby d3_51) rfl (XT.i0_eq_f hs51_12) ?_
                show Steps p.tables e below (T14.setTop (mkF m 54 #[.val (.long q0), .second, .val (.long q1), .second] [])) _
                refine XS.lloadN X14.here hx rfl (hb hby d3_54) rfl ?_
                show Steps p.tables e below (T14.setTop (mkF m 55 #[.val (.long q0), .second, .val (.long q1), .second] [(.long q0)])) _
                refine XS.lloadN X14.here hx rfl (hb hby d3_55) rfl ?_
                show Steps p.tables e below (T14.setTop (mkF m 56 #[.val (.long q0), .second, .val (.long q1), .second] [(.long q1), (.long q0)])) _
                refine XS.bipush X14.here hx rfl (hb hby d3_56) ?_
                exact k
              obtain ⟨_, _, ⟨T16, L16, k16, n16⟩, -, X16, ⟨Lc16, hQ16, l16, y16, z16⟩, st16⟩ := Jvm.LawKit.callS X14 hx (y := (⟨"com/example/lexarray/lexarray/model/TrieBytesAtLeastPinLaw", "byteAtLeast", "(JJI)Z"⟩ : MethodName)) hown (mvT hZ (own_h hw 14 rfl)) (mvT hZ (own_h hw 15 rfl)) (mvT hZ (own_h hw 2 rfl)) (mvT hZ (own_h hw 16 rfl)) (by decide) (backOf (W := 0) (rm4 l Z aZ hw [] q0 q1 (6:Int32) h0 n0 Z0 ) hZ (own_h hw 16 rfl) (own_h hw 2 rfl) (by decide) (by decide)) (g := (mkF m 58 #[.val (.long q0), .second, .val (.long q1), .second] [(.int (6:Int32)), (.long q1), (.long q0)])) rfl (by rw [hml]; rfl) (argsL := [(.long q0), (.long q1), (.int (6:Int32))]) (rest := []) (lenOf own_pd0 rfl) rfl (by show 2 * 0 + _ ≤ _; exact Nat.le_of_eq rfl) (hb hby d3_58) (fun _ _ => ⟨rfl, eh14, (by decide : 0 + 0 ≤ _), (by decide : 0 + 0 ≤ _)⟩)
              dsimp only [Pt.U, Pt.locs, Pt.cells, Pt.slots] at X16 l16 y16 z16 st16 hQ16
              subst l16 y16 z16
              obtain ⟨rfl, N16q, eh16⟩ := hQ16
              have N16 := Fr.app N14 N16q
              refine own_pre st16 ?_
              by_cases hs61_14 : (f4 q0 q1 (6:Int32)) = (0:Int32)
              · refine own_pre (A := T16.setTop (mkF m 79 #[.val (.long q0), .second, .val (.long q1), .second] [(.int (0:Int32))])) (fun t k => ?_) ?_
                · show Steps p.tables e below (T16.setTop (mkF m 61 #[.val (.long q0), .second, .val (.long q1), .second] [(.int (f4 q0 q1 (6:Int32)))])) _
                  refine XS.ifYes X16.here hx rfl (pc0 := 61) (pc' := 78) rfl (hb hby d3_61) rfl (XT.i0_eq_t hs61_14) (by decide) (by decide) ?_
                  show Steps p.tables e below (T16.setTop (mkF m 78 #[.val (.long q0), .second, .val (.long q1), .second] [])) _
                  refine XS.iconst X16.here hx rfl (hb hby d3_78) ?_
                  exact k
                have hv17 : (0:Int32) = f3 q0 q1 := by simp only [f3, if_neg hs6_2, if_neg hs15_4, if_neg hs24_6, if_neg hs33_8, if_neg hs42_10, if_neg hs51_12, if_pos hs61_14]
                exact own_end X16 (BodyLoose.notSynchronized Bd) (fun h => by rw [Bd.returns] at h; cases h) (v := some (.int (0:Int32))) (fun fs hr => retN X16 hx (t := .boolean) Bd.returns (by simp) (hb hby d3_79) hr) (by show Q3 Z q0 q1 h0 n0 _ T16.heap _; rw [eh16]; exact ⟨(congrArg (fun z => some (Value.int z)) hv17), N16, rfl⟩) (by decide) (by decide)
              · refine own_pre (A := T16.setTop (mkF m 68 #[.val (.long q0), .second, .val (.long q1), .second] [(.int (7:Int32)), (.long q1), (.long q0)])) (fun t k => ?_) ?_
                · show Steps p.tables e below (T16.setTop (mkF m 61 #[.val (.long q0), .second, .val (.long q1), .second] [(.int (f4 q0 q1 (6:Int32)))])) _
                  refine XS.ifNo X16.here hx rfl (hb hby d3_61) rfl (XT.i0_eq_f hs61_14) ?_
                  show Steps p.tables e below (T16.setTop (mkF m 64 #[.val (.long q0), .second, .val (.long q1), .second] [])) _
                  refine XS.lloadN X16.here hx rfl (hb hby d3_64) rfl ?_
                  show Steps p.tables e below (T16.setTop (mkF m 65 #[.val (.long q0), .second, .val (.long q1), .second] [(.long q0)])) _
                  refine XS.lloadN X16.here hx rfl (hb hby d3_65) rfl ?_
                  show Steps p.tables e below (T16.setTop (mkF m 66 #[.val (.long q0), .second, .val (.long q1), .second] [(.long q1), (.long q0)])) _
                  refine XS.bipush X16.here hx rfl (hb hby d3_66) ?_
                  exact k
                obtain ⟨_, _, ⟨T18, L18, k18, n18⟩, -, X18, ⟨Lc18, hQ18, l18, y18, z18⟩, st18⟩ := Jvm.LawKit.callS X16 hx (y := (⟨"com/example/lexarray/lexarray/model/TrieBytesAtLeastPinLaw", "byteAtLeast", "(JJI)Z"⟩ : MethodName)) hown (mvT hZ (own_h hw 14 rfl)) (mvT hZ (own_h hw 15 rfl)) (mvT hZ (own_h hw 2 rfl)) (mvT hZ (own_h hw 16 rfl)) (by decide) (backOf (W := 0) (rm4 l Z aZ hw [] q0 q1 (7:Int32) h0 n0 Z0 ) hZ (own_h hw 16 rfl) (own_h hw 2 rfl) (by decide) (by decide)) (g := (mkF m 68 #[.val (.long q0), .second, .val (.long q1), .second] [(.int (7:Int32)), (.long q1), (.long q0)])) rfl (by rw [hml]; rfl) (argsL := [(.long q0), (.long q1), (.int (7:Int32))]) (rest := []) (lenOf own_pd0 rfl) rfl (by show 2 * 0 + _ ≤ _; exact Nat.le_of_eq rfl) (hb hby d3_68) (fun _ _ => ⟨rfl, eh16, (by decide : 0 + 0 ≤ _), (by decide : 0 + 0 ≤ _)⟩)
                dsimp only [Pt.U, Pt.locs, Pt.cells, Pt.slots] at X18 l18 y18 z18 st18 hQ18
                subst l18 y18 z18
                obtain ⟨rfl, N18q, eh18⟩ := hQ18
                have N18 := Fr.app N16 N18q
                refine own_pre st18 ?_
                obtain ⟨w3_1, hw3_1⟩ : ∃ z : Int32, z = (if (f4 q0 q1 (7:Int32)) = (0:Int32) then (0:Int32) else (1:Int32)) := ⟨_, rfl⟩
                refine own_pre (A := T18.setTop (mkF m 79 #[.val (.long q0), .second, .val (.long q1), .second] [(.int w3_1)])) (fun t k => ?_) ?_
                · show Steps p.tables e below (T18.setTop (mkF m 71 #[.val (.long q0), .second, .val (.long q1), .second] [(.int (f4 q0 q1 (7:Int32)))])) _
                  by_cases hm71_15 : (f4 q0 q1 (7:Int32)) = (0:Int32)
                  · refine XS.ifYes X18.here hx rfl (pc0 := 71) (pc' := 78) rfl (hb hby d3_71) rfl (XT.i0_eq_t hm71_15) (by decide) (by decide) ?_
                    show Steps p.tables e below (T18.setTop (mkF m 78 #[.val (.long q0), .second, .val (.long q1), .second] [])) _
                    refine XS.iconst X18.here hx rfl (hb hby d3_78) ?_
                    rw [hw3_1.trans (if_pos hm71_15)] at k
                    exact k
                  · refine XS.ifNo X18.here hx rfl (hb hby d3_71) rfl (XT.i0_eq_f hm71_15) ?_
                    show Steps p.tables e below (T18.setTop (mkF m 74 #[.val (.long q0), .second, .val (.long q1), .second] [])) _
                    refine XS.iconst X18.here hx rfl (hb hby d3_74) ?_
                    show Steps p.tables e below (T18.setTop (mkF m 75 #[.val (.long q0), .second, .val (.long q1), .second] [(.int (1:Int32))])) _
                    refine XS.goto X18.here hx rfl (pc0 := 75) (pc' := 79) rfl (hb hby d3_75) (by decide) (by decide) ?_
                    rw [hw3_1.trans (if_neg hm71_15)] at k
                    exact k
                have hv19 : (w3_1 &&& 1) = f3 q0 q1 := by subst hw3_1; simp only [f3, if_neg hs6_2, if_neg hs15_4, if_neg hs24_6, if_neg hs33_8, if_neg hs42_10, if_neg hs51_12, if_neg hs61_14]
                exact own_end X18 (BodyLoose.notSynchronized Bd) (fun h => by rw [Bd.returns] at h; cases h) (v := some (.int (w3_1 &&& 1))) (fun fs hr => retN X18 hx (t := .boolean) Bd.returns (by simp) (hb hby d3_79) hr) (by show Q3 Z q0 q1 h0 n0 _ T18.heap _; rw [eh18]; exact ⟨(congrArg (fun z => some (Value.int z)) hv19), N18, rfl⟩) (by decide) (by decide)
theorem own_pd1 : parseMethodDescriptor "(I)J" = some ⟨[.int], some .long⟩ := by decide +kernel
theorem own_pd2 : parseMethodDescriptor "(JJ)Z" = some ⟨[.long, .long], some .boolean⟩ := by decide +kernel
theorem ef0 (m : MethodId) (q0 : Int64) (q1 : Int64) (p2 : Int32) : entryFrame m #[(.long q0), (.long q1), (.int p2)] maxLocals = mkF m 0 #[.val (.long q0), .second, .val (.long q1), .second, iv p2, .unset, .unset, .unset, .unset, .unset, .unset, .unset, .unset] [] := by first | (simp [entryFrame, mkF, argsToLocals, Value.category, maxLocals]; done) | rfl
def f0 (q0 : Int64) (q1 : Int64) (p2 : Int32) : Int32 := (let w0_1 : Int64 := (if (((p2.toUInt32 >>> ((8:Int32) &&& 31).toUInt32).toInt32) &&& (1:Int32)) = (0:Int32) then q1 else (q0 &&& q1)); let w0_2 : Int64 := ((q0 &&& ((f1 p2) ^^^ (-1:Int64))) ||| (w0_1 &&& (f1 p2))); let w0_3 : Int32 := (if (f2 q0 w0_2) = (f3 q0 w0_2) then (1:Int32) else (0:Int32)); let w0_4 : Int32 := (if (f2 q0 q1) = (f3 q0 q1) then (1:Int32) else (0:Int32)); let w0_5 : Int32 := (if w0_3 = (0:Int32) then (0:Int32) else (if w0_4 = (0:Int32) then (0:Int32) else (1:Int32))); (w0_5 &&& 1))
def Q0 (Z : State) (q0 : Int64) (q1 : Int64) (p2 : Int32)  (h0 : Heap) (n0 : Nat) (v : Option Value) (h : Heap) (L : List Loc) : Prop := v = some (.int (f0 q0 q1 p2)) ∧ Fr n0 L
set_option maxRecDepth 65536 in
set_option maxHeartbeats 40000000 in
theorem rm0 (l : Launch) (Z : State) (aZ : Array Value) (hw : ∀ d ∈ tables_1, d.before aZ Z = true) (ws : List Jvm.Cond) (q0 : Int64) (q1 : Int64) (p2 : Int32)  (h0 : Heap) (n0 : Nat) (Z0 : n0 ≤ h0.size)  :
    MetFree l x (head1 (Jvm.Cond.code x code maxLocals ret :: ws) room_1) (fun a U => a = #[(.long q0), (.long q1), (.int p2)] ∧ Z.Warmed39 U.vm ∧ U.heap = h0) (fun _ _ _ _ _ => True) (fun _ U o U' => ∃ v L, o = .returned v ∧ Q0 Z q0 q1 p2 h0 n0 v U'.heap L ∧ FrameEnd U o U' L 0 0) := by
  refine MetFree.of_bodySF (plainFor_of_name own_pn0) hisR ?_
  intro p e s m args below meth c s₁ Bd hml0 hP hK
  obtain ⟨rfl, hZ, hh⟩ := hP
  have hx := Bd.exec
  have hby := Bd.bytes
  have hml : c.maxLocals = 13 := hml0
  have hown : s.vm.findClass "com/example/lexarray/lexarray/model/TrieBytesAtLeastPinLaw" = some m.cls := findClass_of_methodNamed Bd.named
  have hnm := (name_of_methodNamed Bd.named Bd.method).1
  have X0 : Stand p l e room_1 s m #[(.long q0), (.long q1), (.int p2)] below meth c s₁ [] 0 0 := Stand.of_body Bd
  have e0 : s₁.heap = h0 := by rw [← hh, Bd.state]; rfl
  have N0 := Fr.nil n0
  show own_Goes p e below s (Q0 Z q0 q1 p2 h0 n0) 0 0 _
  refine own_pre (fun t k => castTop (ef0 m q0 q1 p2) k) ?_
  refine own_pre (A := s₁.setTop (mkF m 2 #[.val (.long q0), .second, .val (.long q1), .second, iv p2, .unset, .unset, .unset, .unset, .unset, .unset, .unset, .unset] [(.int p2)])) (fun t k => ?_) ?_
  · show Steps p.tables e below (s₁.setTop (mkF m 0 #[.val (.long q0), .second, .val (.long q1), .second, iv p2, .unset, .unset, .unset, .unset, .unset, .unset, .unset, .unset] [])) _
    refine XS.iload X0.here hx rfl (hb hby at_0) rfl ?_
    exact k
  obtain ⟨_, _, ⟨T20, L20, k20, n20⟩, -, X20, ⟨Lc20, hQ20, l20, y20, z20⟩, st20⟩ := Jvm.LawKit.callS X0 hx (y := (⟨"com/example/lexarray/lexarray/model/TrieBytesAtLeastPinLaw", "byteMask", "(I)J"⟩ : MethodName)) hown (mvT hZ (own_h hw 0 rfl)) (mvT hZ (own_h hw 1 rfl)) (mvT hZ (own_h hw 2 rfl)) (mvT hZ (own_h hw 3 rfl)) (by decide) (backOf (W := 0) (rm1 l Z aZ hw [] p2 h0 n0 Z0 ) hZ (own_h hw 3 rfl) (own_h hw 2 rfl) (by decide) (by decide)) (g := (mkF m 2 #[.val (.long q0), .second, .val (.long q1), .second, iv p2, .unset, .unset, .unset, .unset, .unset, .unset, .unset, .unset] [(.int p2)])) rfl (by rw [hml]; rfl) (argsL := [(.int p2)]) (rest := []) (lenOf own_pd1 rfl) rfl (by show 2 * 0 + _ ≤ _; exact Nat.le_of_eq rfl) (hb hby at_2) (fun _ _ => ⟨rfl, e0, (by decide : 0 + 0 ≤ _), (by decide : 0 + 0 ≤ _)⟩)
  dsimp only [Pt.U, Pt.locs, Pt.cells, Pt.slots] at X20 l20 y20 z20 st20 hQ20
  subst l20 y20 z20
  obtain ⟨rfl, N20q, eh20⟩ := hQ20
  have N20 := Fr.app N0 N20q
  refine own_pre st20 ?_
  refine own_pre (A := T20.setTop (mkF m 14 #[.val (.long q0), .second, .val (.long q1), .second, iv p2, .val (.long (f1 p2)), .second, .unset, .unset, .unset, .unset, .unset, .unset] [(.int (((p2.toUInt32 >>> ((8:Int32) &&& 31).toUInt32).toInt32) &&& (1:Int32)))])) (fun t k => ?_) ?_
  · show Steps p.tables e below (T20.setTop (mkF m 5 #[.val (.long q0), .second, .val (.long q1), .second, iv p2, .unset, .unset, .unset, .unset, .unset, .unset, .unset, .unset] [(.long (f1 p2))])) _
    refine XS.lstore X20.here hx rfl (hb hby at_5) rfl (l' := #[.val (.long q0), .second, .val (.long q1), .second, iv p2, .val (.long (f1 p2)), .second, .unset, .unset, .unset, .unset, .unset, .unset]) rfl ?_
    show Steps p.tables e below (T20.setTop (mkF m 7 #[.val (.long q0), .second, .val (.long q1), .second, iv p2, .val (.long (f1 p2)), .second, .unset, .unset, .unset, .unset, .unset, .unset] [])) _
    refine XS.iload X20.here hx rfl (hb hby at_7) rfl ?_
    show Steps p.tables e below (T20.setTop (mkF m 9 #[.val (.long q0), .second, .val (.long q1), .second, iv p2, .val (.long (f1 p2)), .second, .unset, .unset, .unset, .unset, .unset, .unset] [(.int p2)])) _
    refine XS.bipush X20.here hx rfl (hb hby at_9) ?_
    show Steps p.tables e below (T20.setTop (mkF m 11 #[.val (.long q0), .second, .val (.long q1), .second, iv p2, .val (.long (f1 p2)), .second, .unset, .unset, .unset, .unset, .unset, .unset] [(.int (8:Int32)), (.int p2)])) _
    refine XS.iushr X20.here hx rfl (hb hby at_11) rfl ?_
    show Steps p.tables e below (T20.setTop (mkF m 12 #[.val (.long q0), .second, .val (.long q1), .second, iv p2, .val (.long (f1 p2)), .second, .unset, .unset, .unset, .unset, .unset, .unset] [(.int ((p2.toUInt32 >>> ((8:Int32) &&& 31).toUInt32).toInt32))])) _
    refine XS.iconst X20.here hx rfl (hb hby at_12) ?_
    show Steps p.tables e below (T20.setTop (mkF m 13 #[.val (.long q0), .second, .val (.long q1), .second, iv p2, .val (.long (f1 p2)), .second, .unset, .unset, .unset, .unset, .unset, .unset] [(.int (1:Int32)), (.int ((p2.toUInt32 >>> ((8:Int32) &&& 31).toUInt32).toInt32))])) _
    refine XS.iand X20.here hx rfl (hb hby at_13) rfl ?_
    exact k
  obtain ⟨w0_1, hw0_1⟩ : ∃ z : Int64, z = (if (((p2.toUInt32 >>> ((8:Int32) &&& 31).toUInt32).toInt32) &&& (1:Int32)) = (0:Int32) then q1 else (q0 &&& q1)) := ⟨_, rfl⟩
  refine own_pre (A := T20.setTop (mkF m 24 #[.val (.long q0), .second, .val (.long q1), .second, iv p2, .val (.long (f1 p2)), .second, .unset, .unset, .unset, .unset, .unset, .unset] [(.long w0_1)])) (fun t k => ?_) ?_
  · show Steps p.tables e below (T20.setTop (mkF m 14 #[.val (.long q0), .second, .val (.long q1), .second, iv p2, .val (.long (f1 p2)), .second, .unset, .unset, .unset, .unset, .unset, .unset] [(.int (((p2.toUInt32 >>> ((8:Int32) &&& 31).toUInt32).toInt32) &&& (1:Int32)))])) _
    by_cases hm14_1 : (((p2.toUInt32 >>> ((8:Int32) &&& 31).toUInt32).toInt32) &&& (1:Int32)) = (0:Int32)
    · refine XS.ifYes X20.here hx rfl (pc0 := 14) (pc' := 23) rfl (hb hby at_14) rfl (XT.i0_eq_t hm14_1) (by decide) (by decide) ?_
      show Steps p.tables e below (T20.setTop (mkF m 23 #[.val (.long q0), .second, .val (.long q1), .second, iv p2, .val (.long (f1 p2)), .second, .unset, .unset, .unset, .unset, .unset, .unset] [])) _
      refine XS.lloadN X20.here hx rfl (hb hby at_23) rfl ?_
      rw [hw0_1.trans (if_pos hm14_1)] at k
      exact k
    · refine XS.ifNo X20.here hx rfl (hb hby at_14) rfl (XT.i0_eq_f hm14_1) ?_
      show Steps p.tables e below (T20.setTop (mkF m 17 #[.val (.long q0), .second, .val (.long q1), .second, iv p2, .val (.long (f1 p2)), .second, .unset, .unset, .unset, .unset, .unset, .unset] [])) _
      refine XS.lloadN X20.here hx rfl (hb hby at_17) rfl ?_
      show Steps p.tables e below (T20.setTop (mkF m 18 #[.val (.long q0), .second, .val (.long q1), .second, iv p2, .val (.long (f1 p2)), .second, .unset, .unset, .unset, .unset, .unset, .unset] [(.long q0)])) _
      refine XS.lloadN X20.here hx rfl (hb hby at_18) rfl ?_
      show Steps p.tables e below (T20.setTop (mkF m 19 #[.val (.long q0), .second, .val (.long q1), .second, iv p2, .val (.long (f1 p2)), .second, .unset, .unset, .unset, .unset, .unset, .unset] [(.long q1), (.long q0)])) _
      refine XS.land X20.here hx rfl (hb hby at_19) rfl ?_
      show Steps p.tables e below (T20.setTop (mkF m 20 #[.val (.long q0), .second, .val (.long q1), .second, iv p2, .val (.long (f1 p2)), .second, .unset, .unset, .unset, .unset, .unset, .unset] [(.long (q0 &&& q1))])) _
      refine XS.goto X20.here hx rfl (pc0 := 20) (pc' := 24) rfl (hb hby at_20) (by decide) (by decide) ?_
      rw [hw0_1.trans (if_neg hm14_1)] at k
      exact k
  obtain ⟨w0_2, hw0_2⟩ : ∃ z : Int64, z = ((q0 &&& ((f1 p2) ^^^ (-1:Int64))) ||| (w0_1 &&& (f1 p2))) := ⟨_, rfl⟩
  refine own_pre (A := T20.setTop (mkF m 45 #[.val (.long q0), .second, .val (.long q1), .second, iv p2, .val (.long (f1 p2)), .second, .val (.long w0_1), .second, .val (.long w0_2), .second, .unset, .unset] [(.long w0_2), (.long q0)])) (fun t k => ?_) ?_
  · show Steps p.tables e below (T20.setTop (mkF m 24 #[.val (.long q0), .second, .val (.long q1), .second, iv p2, .val (.long (f1 p2)), .second, .unset, .unset, .unset, .unset, .unset, .unset] [(.long w0_1)])) _
    refine XS.lstore X20.here hx rfl (hb hby at_24) rfl (l' := #[.val (.long q0), .second, .val (.long q1), .second, iv p2, .val (.long (f1 p2)), .second, .val (.long w0_1), .second, .unset, .unset, .unset, .unset]) rfl ?_
    show Steps p.tables e below (T20.setTop (mkF m 26 #[.val (.long q0), .second, .val (.long q1), .second, iv p2, .val (.long (f1 p2)), .second, .val (.long w0_1), .second, .unset, .unset, .unset, .unset] [])) _
    refine XS.lloadN X20.here hx rfl (hb hby at_26) rfl ?_
    show Steps p.tables e below (T20.setTop (mkF m 27 #[.val (.long q0), .second, .val (.long q1), .second, iv p2, .val (.long (f1 p2)), .second, .val (.long w0_1), .second, .unset, .unset, .unset, .unset] [(.long q0)])) _
    refine XS.lload X20.here hx rfl (hb hby at_27) rfl ?_
    show Steps p.tables e below (T20.setTop (mkF m 29 #[.val (.long q0), .second, .val (.long q1), .second, iv p2, .val (.long (f1 p2)), .second, .val (.long w0_1), .second, .unset, .unset, .unset, .unset] [(.long (f1 p2)), (.long q0)])) _
    refine Jvm.Stand.ldc2J X20 hx hown (mvT hZ (own_h hw 4 rfl)) rfl (hb hby at_29) ?_
    show Steps p.tables e below (T20.setTop (mkF m 32 #[.val (.long q0), .second, .val (.long q1), .second, iv p2, .val (.long (f1 p2)), .second, .val (.long w0_1), .second, .unset, .unset, .unset, .unset] [(.long (-1:Int64)), (.long (f1 p2)), (.long q0)])) _
    refine XS.lxor X20.here hx rfl (hb hby at_32) rfl ?_
    show Steps p.tables e below (T20.setTop (mkF m 33 #[.val (.long q0), .second, .val (.long q1), .second, iv p2, .val (.long (f1 p2)), .second, .val (.long w0_1), .second, .unset, .unset, .unset, .unset] [(.long ((f1 p2) ^^^ (-1:Int64))), (.long q0)])) _
    refine XS.land X20.here hx rfl (hb hby at_33) rfl ?_
    show Steps p.tables e below (T20.setTop (mkF m 34 #[.val (.long q0), .second, .val (.long q1), .second, iv p2, .val (.long (f1 p2)), .second, .val (.long w0_1), .second, .unset, .unset, .unset, .unset] [(.long (q0 &&& ((f1 p2) ^^^ (-1:Int64))))])) _
    refine XS.lload X20.here hx rfl (hb hby at_34) rfl ?_
    show Steps p.tables e below (T20.setTop (mkF m 36 #[.val (.long q0), .second, .val (.long q1), .second, iv p2, .val (.long (f1 p2)), .second, .val (.long w0_1), .second, .unset, .unset, .unset, .unset] [(.long w0_1), (.long (q0 &&& ((f1 p2) ^^^ (-1:Int64))))])) _
    refine XS.lload X20.here hx rfl (hb hby at_36) rfl ?_
    show Steps p.tables e below (T20.setTop (mkF m 38 #[.val (.long q0), .second, .val (.long q1), .second, iv p2, .val (.long (f1 p2)), .second, .val (.long w0_1), .second, .unset, .unset, .unset, .unset] [(.long (f1 p2)), (.long w0_1), (.long (q0 &&& ((f1 p2) ^^^ (-1:Int64))))])) _
    refine XS.land X20.here hx rfl (hb hby at_38) rfl ?_
    show Steps p.tables e below (T20.setTop (mkF m 39 #[.val (.long q0), .second, .val (.long q1), .second, iv p2, .val (.long (f1 p2)), .second, .val (.long w0_1), .second, .unset, .unset, .unset, .unset] [(.long (w0_1 &&& (f1 p2))), (.long (q0 &&& ((f1 p2) ^^^ (-1:Int64))))])) _
    refine XS.lor X20.here hx rfl (hb hby at_39) rfl ?_
    show Steps p.tables e below (T20.setTop (mkF m 40 #[.val (.long q0), .second, .val (.long q1), .second, iv p2, .val (.long (f1 p2)), .second, .val (.long w0_1), .second, .unset, .unset, .unset, .unset] [(.long ((q0 &&& ((f1 p2) ^^^ (-1:Int64))) ||| (w0_1 &&& (f1 p2))))])) _
    refine XS.lstore X20.here hx rfl (hb hby at_40) rfl (l' := #[.val (.long q0), .second, .val (.long q1), .second, iv p2, .val (.long (f1 p2)), .second, .val (.long w0_1), .second, .val (.long w0_2), .second, .unset, .unset]) (by rw [hw0_2]; rfl) ?_
    show Steps p.tables e below (T20.setTop (mkF m 42 #[.val (.long q0), .second, .val (.long q1), .second, iv p2, .val (.long (f1 p2)), .second, .val (.long w0_1), .second, .val (.long w0_2), .second, .unset, .unset] [])) _
    refine XS.lloadN X20.here hx rfl (hb hby at_42) rfl ?_
    show Steps p.tables e below (T20.setTop (mkF m 43 #[.val (.long q0), .second, .val (.long q1), .second, iv p2, .val (.long (f1 p2)), .second, .val (.long w0_1), .second, .val (.long w0_2), .second, .unset, .unset] [(.long q0)])) _
    refine XS.lload X20.here hx rfl (hb hby at_43) rfl ?_
    exact k
  obtain ⟨_, _, ⟨T21, L21, k21, n21⟩, -, X21, ⟨Lc21, hQ21, l21, y21, z21⟩, st21⟩ := Jvm.LawKit.callS X20 hx (y := (⟨"com/example/lexarray/lexarray/model/Trie", "bytesAtLeast", "(JJ)Z"⟩ : MethodName)) hown (mvT hZ (own_h hw 5 rfl)) (mvT hZ (own_h hw 6 rfl)) (mvT hZ (own_h hw 7 rfl)) (mvT hZ (own_h hw 8 rfl)) (by decide) (backOf (W := 0) (rm2 l Z aZ hw [] q0 w0_2 h0 n0 Z0 ) hZ (own_h hw 8 rfl) (own_h hw 7 rfl) (by decide) (by decide)) (g := (mkF m 45 #[.val (.long q0), .second, .val (.long q1), .second, iv p2, .val (.long (f1 p2)), .second, .val (.long w0_1), .second, .val (.long w0_2), .second, .unset, .unset] [(.long w0_2), (.long q0)])) rfl (by rw [hml]; rfl) (argsL := [(.long q0), (.long w0_2)]) (rest := []) (lenOf own_pd2 rfl) rfl (by show 2 * 0 + _ ≤ _; exact Nat.le_of_eq rfl) (hb hby at_45) (fun _ _ => ⟨rfl, eh20, (by decide : 0 + 0 ≤ _), (by decide : 0 + 0 ≤ _)⟩)
  dsimp only [Pt.U, Pt.locs, Pt.cells, Pt.slots] at X21 l21 y21 z21 st21 hQ21
  subst l21 y21 z21
  obtain ⟨rfl, N21q, eh21⟩ := hQ21
  have N21 := Fr.app N20 N21q
  refine own_pre st21 ?_
  refine own_pre (A := T21.setTop (mkF m 51 #[.val (.long q0), .second, .val (.long q1), .second, iv p2, .val (.long (f1 p2)), .second, .val (.long w0_1), .second, .val (.long w0_2), .second, .unset, .unset] [(.long w0_2), (.long q0), (.int (f2 q0 w0_2))])) (fun t k => ?_) ?_
  · show Steps p.tables e below (T21.setTop (mkF m 48 #[.val (.long q0), .second, .val (.long q1), .second, iv p2, .val (.long (f1 p2)), .second, .val (.long w0_1), .second, .val (.long w0_2), .second, .unset, .unset] [(.int (f2 q0 w0_2))])) _
    refine XS.lloadN X21.here hx rfl (hb hby at_48) rfl ?_
    show Steps p.tables e below (T21.setTop (mkF m 49 #[.val (.long q0), .second, .val (.long q1), .second, iv p2, .val (.long (f1 p2)), .second, .val (.long w0_1), .second, .val (.long w0_2), .second, .unset, .unset] [(.long q0), (.int (f2 q0 w0_2))])) _
    refine XS.lload X21.here hx rfl (hb hby at_49) rfl ?_
    exact k
  obtain ⟨_, _, ⟨T22, L22, k22, n22⟩, -, X22, ⟨Lc22, hQ22, l22, y22, z22⟩, st22⟩ := Jvm.LawKit.callS X21 hx (y := (⟨"com/example/lexarray/lexarray/model/TrieBytesAtLeastPinLaw", "reference", "(JJ)Z"⟩ : MethodName)) hown (mvT hZ (own_h hw 11 rfl)) (mvT hZ (own_h hw 12 rfl)) (mvT hZ (own_h hw 2 rfl)) (mvT hZ (own_h hw 13 rfl)) (by decide) (backOf (W := 1) (rm3 l Z aZ hw [] q0 w0_2 h0 n0 Z0 ) hZ (own_h hw 13 rfl) (own_h hw 2 rfl) (by decide) (by decide)) (g := (mkF m 51 #[.val (.long q0), .second, .val (.long q1), .second, iv p2, .val (.long (f1 p2)), .second, .val (.long w0_1), .second, .val (.long w0_2), .second, .unset, .unset] [(.long w0_2), (.long q0), (.int (f2 q0 w0_2))])) rfl (by rw [hml]; rfl) (argsL := [(.long q0), (.long w0_2)]) (rest := [(.int (f2 q0 w0_2))]) (lenOf own_pd2 rfl) rfl (by show 2 * 0 + _ ≤ _; exact Nat.le_of_eq rfl) (hb hby at_51) (fun _ _ => ⟨rfl, eh21, (by decide : 0 + 0 ≤ _), (by decide : 0 + 0 ≤ _)⟩)
  dsimp only [Pt.U, Pt.locs, Pt.cells, Pt.slots] at X22 l22 y22 z22 st22 hQ22
  subst l22 y22 z22
  obtain ⟨rfl, N22q, eh22⟩ := hQ22
  have N22 := Fr.app N21 N22q
  refine own_pre st22 ?_
  obtain ⟨w0_3, hw0_3⟩ : ∃ z : Int32, z = (if (f2 q0 w0_2) = (f3 q0 w0_2) then (1:Int32) else (0:Int32)) := ⟨_, rfl⟩
  refine own_pre (A := T22.setTop (mkF m 62 #[.val (.long q0), .second, .val (.long q1), .second, iv p2, .val (.long (f1 p2)), .second, .val (.long w0_1), .second, .val (.long w0_2), .second, .unset, .unset] [(.int w0_3)])) (fun t k => ?_) ?_
  · show Steps p.tables e below (T22.setTop (mkF m 54 #[.val (.long q0), .second, .val (.long q1), .second, iv p2, .val (.long (f1 p2)), .second, .val (.long w0_1), .second, .val (.long w0_2), .second, .unset, .unset] [(.int (f3 q0 w0_2)), (.int (f2 q0 w0_2))])) _
    by_cases hm54_2 : (f2 q0 w0_2) = (f3 q0 w0_2)
    · refine XS.icmpNo X22.here hx rfl (hb hby at_54) rfl (XT.ii_ne_f hm54_2) ?_
      show Steps p.tables e below (T22.setTop (mkF m 57 #[.val (.long q0), .second, .val (.long q1), .second, iv p2, .val (.long (f1 p2)), .second, .val (.long w0_1), .second, .val (.long w0_2), .second, .unset, .unset] [])) _
      refine XS.iconst X22.here hx rfl (hb hby at_57) ?_
      show Steps p.tables e below (T22.setTop (mkF m 58 #[.val (.long q0), .second, .val (.long q1), .second, iv p2, .val (.long (f1 p2)), .second, .val (.long w0_1), .second, .val (.long w0_2), .second, .unset, .unset] [(.int (1:Int32))])) _
      refine XS.goto X22.here hx rfl (pc0 := 58) (pc' := 62) rfl (hb hby at_58) (by decide) (by decide) ?_
      rw [hw0_3.trans (if_pos hm54_2)] at k
      exact k
    · refine XS.icmpYes X22.here hx rfl (pc0 := 54) (pc' := 61) rfl (hb hby at_54) rfl (XT.ii_ne_t hm54_2) (by decide) (by decide) ?_
      show Steps p.tables e below (T22.setTop (mkF m 61 #[.val (.long q0), .second, .val (.long q1), .second, iv p2, .val (.long (f1 p2)), .second, .val (.long w0_1), .second, .val (.long w0_2), .second, .unset, .unset] [])) _
      refine XS.iconst X22.here hx rfl (hb hby at_61) ?_
      rw [hw0_3.trans (if_neg hm54_2)] at k
      exact k
  refine own_pre (A := T22.setTop (mkF m 66 #[.val (.long q0), .second, .val (.long q1), .second, iv p2, .val (.long (f1 p2)), .second, .val (.long w0_1), .second, .val (.long w0_2), .second, iv w0_3, .unset] [(.long q1), (.long q0)])) (fun t k => ?_) ?_
  · show Steps p.tables e below (T22.setTop (mkF m 62 #[.val (.long q0), .second, .val (.long q1), .second, iv p2, .val (.long (f1 p2)), .second, .val (.long w0_1), .second, .val (.long w0_2), .second, .unset, .unset] [(.int w0_3)])) _
    refine XS.istore X22.here hx rfl (hb hby at_62) rfl (l' := #[.val (.long q0), .second, .val (.long q1), .second, iv p2, .val (.long (f1 p2)), .second, .val (.long w0_1), .second, .val (.long w0_2), .second, iv w0_3, .unset]) rfl ?_
    show Steps p.tables e below (T22.setTop (mkF m 64 #[.val (.long q0), .second, .val (.long q1), .second, iv p2, .val (.long (f1 p2)), .second, .val (.long w0_1), .second, .val (.long w0_2), .second, iv w0_3, .unset] [])) _
    refine XS.lloadN X22.here hx rfl (hb hby at_64) rfl ?_
    show Steps p.tables e below (T22.setTop (mkF m 65 #[.val (.long q0), .second, .val (.long q1), .second, iv p2, .val (.long (f1 p2)), .second, .val (.long w0_1), .second, .val (.long w0_2), .second, iv w0_3, .unset] [(.long q0)])) _
    refine XS.lloadN X22.here hx rfl (hb hby at_65) rfl ?_
    exact k
  obtain ⟨_, _, ⟨T23, L23, k23, n23⟩, -, X23, ⟨Lc23, hQ23, l23, y23, z23⟩, st23⟩ := Jvm.LawKit.callS X22 hx (y := (⟨"com/example/lexarray/lexarray/model/Trie", "bytesAtLeast", "(JJ)Z"⟩ : MethodName)) hown (mvT hZ (own_h hw 5 rfl)) (mvT hZ (own_h hw 6 rfl)) (mvT hZ (own_h hw 7 rfl)) (mvT hZ (own_h hw 8 rfl)) (by decide) (backOf (W := 0) (rm2 l Z aZ hw [] q0 q1 h0 n0 Z0 ) hZ (own_h hw 8 rfl) (own_h hw 7 rfl) (by decide) (by decide)) (g := (mkF m 66 #[.val (.long q0), .second, .val (.long q1), .second, iv p2, .val (.long (f1 p2)), .second, .val (.long w0_1), .second, .val (.long w0_2), .second, iv w0_3, .unset] [(.long q1), (.long q0)])) rfl (by rw [hml]; rfl) (argsL := [(.long q0), (.long q1)]) (rest := []) (lenOf own_pd2 rfl) rfl (by show 2 * 0 + _ ≤ _; exact Nat.le_of_eq rfl) (hb hby at_66) (fun _ _ => ⟨rfl, eh22, (by decide : 0 + 0 ≤ _), (by decide : 0 + 0 ≤ _)⟩)
  dsimp only [Pt.U, Pt.locs, Pt.cells, Pt.slots] at X23 l23 y23 z23 st23 hQ23
  subst l23 y23 z23
  obtain ⟨rfl, N23q, eh23⟩ := hQ23
  have N23 := Fr.app N22 N23q
  refine own_pre st23 ?_
  refine own_pre (A := T23.setTop (mkF m 71 #[.val (.long q0), .second, .val (.long q1), .second, iv p2, .val (.long (f1 p2)), .second, .val (.long w0_1), .second, .val (.long w0_2), .second, iv w0_3, .unset] [(.long q1), (.long q0), (.int (f2 q0 q1))])) (fun t k => ?_) ?_
  · show Steps p.tables e below (T23.setTop (mkF m 69 #[.val (.long q0), .second, .val (.long q1), .second, iv p2, .val (.long (f1 p2)), .second, .val (.long w0_1), .second, .val (.long w0_2), .second, iv w0_3, .unset] [(.int (f2 q0 q1))])) _
    refine XS.lloadN X23.here hx rfl (hb hby at_69) rfl ?_
    show Steps p.tables e below (T23.setTop (mkF m 70 #[.val (.long q0), .second, .val (.long q1), .second, iv p2, .val (.long (f1 p2)), .second, .val (.long w0_1), .second, .val (.long w0_2), .second, iv w0_3, .unset] [(.long q0), (.int (f2 q0 q1))])) _
    refine XS.lloadN X23.here hx rfl (hb hby at_70) rfl ?_
    exact k
  obtain ⟨_, _, ⟨T24, L24, k24, n24⟩, -, X24, ⟨Lc24, hQ24, l24, y24, z24⟩, st24⟩ := Jvm.LawKit.callS X23 hx (y := (⟨"com/example/lexarray/lexarray/model/TrieBytesAtLeastPinLaw", "reference", "(JJ)Z"⟩ : MethodName)) hown (mvT hZ (own_h hw 11 rfl)) (mvT hZ (own_h hw 12 rfl)) (mvT hZ (own_h hw 2 rfl)) (mvT hZ (own_h hw 13 rfl)) (by decide) (backOf (W := 1) (rm3 l Z aZ hw [] q0 q1 h0 n0 Z0 ) hZ (own_h hw 13 rfl) (own_h hw 2 rfl) (by decide) (by decide)) (g := (mkF m 71 #[.val (.long q0), .second, .val (.long q1), .second, iv p2, .val (.long (f1 p2)), .second, .val (.long w0_1), .second, .val (.long w0_2), .second, iv w0_3, .unset] [(.long q1), (.long q0), (.int (f2 q0 q1))])) rfl (by rw [hml]; rfl) (argsL := [(.long q0), (.long q1)]) (rest := [(.int (f2 q0 q1))]) (lenOf own_pd2 rfl) rfl (by show 2 * 0 + _ ≤ _; exact Nat.le_of_eq rfl) (hb hby at_71) (fun _ _ => ⟨rfl, eh23, (by decide : 0 + 0 ≤ _), (by decide : 0 + 0 ≤ _)⟩)
  dsimp only [Pt.U, Pt.locs, Pt.cells, Pt.slots] at X24 l24 y24 z24 st24 hQ24
  subst l24 y24 z24
  obtain ⟨rfl, N24q, eh24⟩ := hQ24
  have N24 := Fr.app N23 N24q
  refine own_pre st24 ?_
  obtain ⟨w0_4, hw0_4⟩ : ∃ z : Int32, z = (if (f2 q0 q1) = (f3 q0 q1) then (1:Int32) else (0:Int32)) := ⟨_, rfl⟩
  refine own_pre (A := T24.setTop (mkF m 82 #[.val (.long q0), .second, .val (.long q1), .second, iv p2, .val (.long (f1 p2)), .second, .val (.long w0_1), .second, .val (.long w0_2), .second, iv w0_3, .unset] [(.int w0_4)])) (fun t k => ?_) ?_
  · show Steps p.tables e below (T24.setTop (mkF m 74 #[.val (.long q0), .second, .val (.long q1), .second, iv p2, .val (.long (f1 p2)), .second, .val (.long w0_1), .second, .val (.long w0_2), .second, iv w0_3, .unset] [(.int (f3 q0 q1)), (.int (f2 q0 q1))])) _
    by_cases hm74_3 : (f2 q0 q1) = (f3 q0 q1)
    · refine XS.icmpNo X24.here hx rfl (hb hby at_74) rfl (XT.ii_ne_f hm74_3) ?_
      show Steps p.tables e below (T24.setTop (mkF m 77 #[.val (.long q0), .second, .val (.long q1), .second, iv p2, .val (.long (f1 p2)), .second, .val (.long w0_1), .second, .val (.long w0_2), .second, iv w0_3, .unset] [])) _
      refine XS.iconst X24.here hx rfl (hb hby at_77) ?_
      show Steps p.tables e below (T24.setTop (mkF m 78 #[.val (.long q0), .second, .val (.long q1), .second, iv p2, .val (.long (f1 p2)), .second, .val (.long w0_1), .second, .val (.long w0_2), .second, iv w0_3, .unset] [(.int (1:Int32))])) _
      refine XS.goto X24.here hx rfl (pc0 := 78) (pc' := 82) rfl (hb hby at_78) (by decide) (by decide) ?_
      rw [hw0_4.trans (if_pos hm74_3)] at k
      exact k
    · refine XS.icmpYes X24.here hx rfl (pc0 := 74) (pc' := 81) rfl (hb hby at_74) rfl (XT.ii_ne_t hm74_3) (by decide) (by decide) ?_
      show Steps p.tables e below (T24.setTop (mkF m 81 #[.val (.long q0), .second, .val (.long q1), .second, iv p2, .val (.long (f1 p2)), .second, .val (.long w0_1), .second, .val (.long w0_2), .second, iv w0_3, .unset] [])) _
      refine XS.iconst X24.here hx rfl (hb hby at_81) ?_
      rw [hw0_4.trans (if_neg hm74_3)] at k
      exact k
  refine own_pre (A := T24.setTop (mkF m 86 #[.val (.long q0), .second, .val (.long q1), .second, iv p2, .val (.long (f1 p2)), .second, .val (.long w0_1), .second, .val (.long w0_2), .second, iv w0_3, iv w0_4] [(.int w0_3)])) (fun t k => ?_) ?_
  · show Steps p.tables e below (T24.setTop (mkF m 82 #[.val (.long q0), .second, .val (.long q1), .second, iv p2, .val (.long (f1 p2)), .second, .val (.long w0_1), .second, .val (.long w0_2), .second, iv w0_3, .unset] [(.int w0_4)])) _
    refine XS.istore X24.here hx rfl (hb hby at_82) rfl (l' := #[.val (.long q0), .second, .val (.long q1), .second, iv p2, .val (.long (f1 p2)), .second, .val (.long w0_1), .second, .val (.long w0_2), .second, iv w0_3, iv w0_4]) rfl ?_
    show Steps p.tables e below (T24.setTop (mkF m 84 #[.val (.long q0), .second, .val (.long q1), .second, iv p2, .val (.long (f1 p2)), .second, .val (.long w0_1), .second, .val (.long w0_2), .second, iv w0_3, iv w0_4] [])) _
    refine XS.iload X24.here hx rfl (hb hby at_84) rfl ?_
    exact k
  obtain ⟨w0_5, hw0_5⟩ : ∃ z : Int32, z = (if w0_3 = (0:Int32) then (0:Int32) else (if w0_4 = (0:Int32) then (0:Int32) else (1:Int32))) := ⟨_, rfl⟩
  refine own_pre (A := T24.setTop (mkF m 99 #[.val (.long q0), .second, .val (.long q1), .second, iv p2, .val (.long (f1 p2)), .second, .val (.long w0_1), .second, .val (.long w0_2), .second, iv w0_3, iv w0_4] [(.int w0_5)])) (fun t k => ?_) ?_
  · show Steps p.tables e below (T24.setTop (mkF m 86 #[.val (.long q0), .second, .val (.long q1), .second, iv p2, .val (.long (f1 p2)), .second, .val (.long w0_1), .second, .val (.long w0_2), .second, iv w0_3, iv w0_4] [(.int w0_3)])) _
    by_cases hm86_4 : w0_3 = (0:Int32)
    · refine XS.ifYes X24.here hx rfl (pc0 := 86) (pc' := 98) rfl (hb hby at_86) rfl (XT.i0_eq_t hm86_4) (by decide) (by decide) ?_
      show Steps p.tables e below (T24.setTop (mkF m 98 #[.val (.long q0), .second, .val (.long q1), .second, iv p2, .val (.long (f1 p2)), .second, .val (.long w0_1), .second, .val (.long w0_2), .second, iv w0_3, iv w0_4] [])) _
      refine XS.iconst X24.here hx rfl (hb hby at_98) ?_
      rw [hw0_5.trans (if_pos hm86_4)] at k
      exact k
    · refine XS.ifNo X24.here hx rfl (hb hby at_86) rfl (XT.i0_eq_f hm86_4) ?_
      show Steps p.tables e below (T24.setTop (mkF m 89 #[.val (.long q0), .second, .val (.long q1), .second, iv p2, .val (.long (f1 p2)), .second, .val (.long w0_1), .second, .val (.long w0_2), .second, iv w0_3, iv w0_4] [])) _
      refine XS.iload X24.here hx rfl (hb hby at_89) rfl ?_
      show Steps p.tables e below (T24.setTop (mkF m 91 #[.val (.long q0), .second, .val (.long q1), .second, iv p2, .val (.long (f1 p2)), .second, .val (.long w0_1), .second, .val (.long w0_2), .second, iv w0_3, iv w0_4] [(.int w0_4)])) _
      by_cases hm91_5 : w0_4 = (0:Int32)
      · refine XS.ifYes X24.here hx rfl (pc0 := 91) (pc' := 98) rfl (hb hby at_91) rfl (XT.i0_eq_t hm91_5) (by decide) (by decide) ?_
        show Steps p.tables e below (T24.setTop (mkF m 98 #[.val (.long q0), .second, .val (.long q1), .second, iv p2, .val (.long (f1 p2)), .second, .val (.long w0_1), .second, .val (.long w0_2), .second, iv w0_3, iv w0_4] [])) _
        refine XS.iconst X24.here hx rfl (hb hby at_98) ?_
        rw [hw0_5.trans ((if_neg hm86_4).trans (if_pos hm91_5))] at k
        exact k
      · refine XS.ifNo X24.here hx rfl (hb hby at_91) rfl (XT.i0_eq_f hm91_5) ?_
        show Steps p.tables e below (T24.setTop (mkF m 94 #[.val (.long q0), .second, .val (.long q1), .second, iv p2, .val (.long (f1 p2)), .second, .val (.long w0_1), .second, .val (.long w0_2), .second, iv w0_3, iv w0_4] [])) _
        refine XS.iconst X24.here hx rfl (hb hby at_94) ?_
        show Steps p.tables e below (T24.setTop (mkF m 95 #[.val (.long q0), .second, .val (.long q1), .second, iv p2, .val (.long (f1 p2)), .second, .val (.long w0_1), .second, .val (.long w0_2), .second, iv w0_3, iv w0_4] [(.int (1:Int32))])) _
        refine XS.goto X24.here hx rfl (pc0 := 95) (pc' := 99) rfl (hb hby at_95) (by decide) (by decide) ?_
        rw [hw0_5.trans ((if_neg hm86_4).trans (if_neg hm91_5))] at k
        exact k
  have hv25 : (w0_5 &&& 1) = f0 q0 q1 p2 := by subst hw0_1 hw0_2 hw0_3 hw0_4 hw0_5; rfl
  exact own_end X24 (BodyLoose.notSynchronized Bd) (fun h => by rw [Bd.returns] at h; cases h) (v := some (.int (w0_5 &&& 1))) (fun fs hr => retN X24 hx (t := .boolean) Bd.returns (by simp) (hb hby at_99) hr) (by show Q0 Z q0 q1 p2 h0 n0 _ T24.heap _; rw [eh24]; exact ⟨(congrArg (fun z => some (Value.int z)) hv25), N24⟩) (by decide) (by decide)
theorem own_or8 : ∀ r < 256, r ||| 128 = 128 + r % 128 := by decide +kernel
theorem own_and8 : ∀ r < 256, r &&& 127 = r % 128 := by decide +kernel
theorem own_stepor (a b c d : Nat) (hb : b < 2 ^ 8) (hd : d < 2 ^ 8) : (2 ^ 8 * a + b) ||| (2 ^ 8 * c + d) = 2 ^ 8 * (a ||| c) + (b ||| d) := by
  apply Nat.eq_of_testBit_eq; intro i
  rw [Nat.testBit_or, Nat.testBit_two_pow_mul_add a hb, Nat.testBit_two_pow_mul_add c hd, Nat.testBit_two_pow_mul_add (a ||| c) (Nat.or_lt_two_pow hb hd)]
  split <;> simp [Nat.testBit_or]
theorem own_stepand (a b c d : Nat) (hb : b < 2 ^ 8) (hd : d < 2 ^ 8) : (2 ^ 8 * a + b) &&& (2 ^ 8 * c + d) = 2 ^ 8 * (a &&& c) + (b &&& d) := by
  apply Nat.eq_of_testBit_eq; intro i
  rw [Nat.testBit_and, Nat.testBit_two_pow_mul_add a hb, Nat.testBit_two_pow_mul_add c hd, Nat.testBit_two_pow_mul_add (a &&& c) (Nat.and_lt_two_pow b hd)]
  split <;> simp [Nat.testBit_and]
theorem own_stA (X h : Nat) : X ||| (h * 256 + 128) = 256 * (X / 256 ||| h) + (128 + X % 128) := by
  have e : X = 2 ^ 8 * (X / 256) + X % 256 := by omega
  have := own_stepor (X / 256) (X % 256) h 128 (by omega) (by decide)
  rw [← e, own_or8 _ (by omega)] at this
  rw [show h * 256 + 128 = 2 ^ 8 * h + 128 by omega, this]
  have h2 : X % 256 % 128 = X % 128 := by omega
  rw [h2]
theorem own_stB (Y m : Nat) : Y &&& (m * 256 + 127) = 256 * (Y / 256 &&& m) + Y % 128 := by
  have e : Y = 2 ^ 8 * (Y / 256) + Y % 256 := by omega
  have := own_stepand (Y / 256) (Y % 256) m 127 (by omega) (by decide)
  rw [← e, own_and8 _ (by omega)] at this
  rw [show m * 256 + 127 = 2 ^ 8 * m + 127 by omega, this]
  have h2 : Y % 256 % 128 = Y % 128 := by omega
  rw [h2]
def own_up : Nat → Nat → Nat
  | 0, _ => 0
  | n + 1, X => 256 * own_up n (X / 256) + (128 + X % 128)
def own_lo : Nat → Nat → Nat
  | 0, _ => 0
  | n + 1, Y => 256 * own_lo n (Y / 256) + Y % 128
def own_H : Nat → Nat
  | 0 => 0
  | n + 1 => own_H n * 256 + 128
def own_M : Nat → Nat
  | 0 => 0
  | n + 1 => own_M n * 256 + 127
theorem own_orH : ∀ (n X : Nat), X < 256 ^ n → X ||| own_H n = own_up n X
  | 0, X, h => by
    have : X = 0 := by simpa using h
    subst this; rfl
  | n + 1, X, h => by
    show X ||| (own_H n * 256 + 128) = 256 * own_up n (X / 256) + (128 + X % 128)
    rw [own_stA, own_orH n (X / 256) (by rw [Nat.pow_succ] at h; omega)]
theorem own_andM : ∀ (n Y : Nat), Y < 256 ^ n → Y &&& own_M n = own_lo n Y
  | 0, Y, h => by
    have : Y = 0 := by simpa using h
    subst this; rfl
  | n + 1, Y, h => by
    show Y &&& (own_M n * 256 + 127) = 256 * own_lo n (Y / 256) + Y % 128
    rw [own_stB, own_andM n (Y / 256) (by rw [Nat.pow_succ] at h; omega)]
theorem own_loup : ∀ (n X Y : Nat), own_lo n Y ≤ own_up n X
  | 0, _, _ => Nat.le_refl 0
  | n + 1, X, Y => by
    show 256 * own_lo n (Y / 256) + Y % 128 ≤ 256 * own_up n (X / 256) + (128 + X % 128)
    have := own_loup n (X / 256) (Y / 256)
    omega
theorem own_tbit : ∀ (n X Y k : Nat), k < n → ((own_up n X - own_lo n Y) / 2 ^ (8 * k + 7) % 2 = 1 ↔ Y / 2 ^ (8 * k) % 128 ≤ X / 2 ^ (8 * k) % 128)
  | n + 1, X, Y, 0, _ => by
    have h := own_loup n (X / 256) (Y / 256)
    show (256 * own_up n (X / 256) + (128 + X % 128) - (256 * own_lo n (Y / 256) + Y % 128)) / 128 % 2 = 1 ↔ Y / 1 % 128 ≤ X / 1 % 128
    omega
  | n + 1, X, Y, k + 1, hk => by
    have h := own_loup n (X / 256) (Y / 256)
    have ih := own_tbit n (X / 256) (Y / 256) k (by omega)
    have e1 : (own_up (n + 1) X - own_lo (n + 1) Y) / 256 = own_up n (X / 256) - own_lo n (Y / 256) := by
      show (256 * own_up n (X / 256) + (128 + X % 128) - (256 * own_lo n (Y / 256) + Y % 128)) / 256 = _
      omega
    have e2 : 2 ^ (8 * (k + 1) + 7) = 256 * 2 ^ (8 * k + 7) := by rw [show 8 * (k + 1) + 7 = 8 + (8 * k + 7) by omega, Nat.pow_add]
    have e3 : 2 ^ (8 * (k + 1)) = 256 * 2 ^ (8 * k) := by rw [show 8 * (k + 1) = 8 + 8 * k by omega, Nat.pow_add]
    rw [e2, e3, ← Nat.div_div_eq_div_mul, ← Nat.div_div_eq_div_mul, ← Nat.div_div_eq_div_mul, e1]
    exact ih
theorem own_byte (X Y k : Nat) : ((X / 2 ^ (8 * k + 7) % 2 = 1 ∧ ¬ Y / 2 ^ (8 * k + 7) % 2 = 1) ∨ ((X / 2 ^ (8 * k + 7) % 2 = 1 ↔ Y / 2 ^ (8 * k + 7) % 2 = 1) ∧ Y / 2 ^ (8 * k) % 128 ≤ X / 2 ^ (8 * k) % 128)) ↔ Y / 2 ^ (8 * k) % 256 ≤ X / 2 ^ (8 * k) % 256 := by
  have e : 2 ^ (8 * k + 7) = 2 ^ (8 * k) * 128 := by rw [Nat.pow_add]
  rw [e, ← Nat.div_div_eq_div_mul, ← Nat.div_div_eq_div_mul]
  generalize X / 2 ^ (8 * k) = q
  generalize Y / 2 ^ (8 * k) = r
  omega
theorem own_bnat (z : Int64) : z.toInt % 256 = ((z.toBitVec.toNat % 256 : Nat) : Int) := by
  have h : z.toInt = z.toBitVec.toInt := rfl
  have := BitVec.toInt_eq_toNat_cond z.toBitVec
  have h2 := z.toBitVec.isLt
  split at this <;> omega
theorem own_sbyte (x : Int64) (p : Int32) (k : Nat) (hk : ((8:Int32) * p).toInt % 64 = ((8 * k : Nat) : Int)) : (((x.toUInt64 >>> (((8:Int32) * p) &&& 0x3f).toInt64.toUInt64).toInt64) &&& (255:Int64)).toInt = ((x.toBitVec.toNat / 2 ^ (8 * k) % 256 : Nat) : Int) := by
  have e := own_lushr x hk
  rw [Jvm.Kit.i64_mask _ _ (k := 8) (by decide) (by decide)]
  have e2 := own_bnat ((x.toUInt64 >>> (((8:Int32) * p) &&& 0x3f).toInt64.toUInt64).toInt64)
  rw [e, BitVec.toNat_ushiftRight, Nat.shiftRight_eq_div_pow] at e2
  exact e2
theorem own_f4 (x y : Int64) (p : Int32) (k : Nat) (hk : ((8:Int32) * p).toInt % 64 = ((8 * k : Nat) : Int)) : f4 x y p = if y.toBitVec.toNat / 2 ^ (8 * k) % 256 ≤ x.toBitVec.toNat / 2 ^ (8 * k) % 256 then 1 else 0 := by
  simp only [f4, Int64.lt_iff_toInt_lt, own_sbyte x p k hk, own_sbyte y p k hk]
  by_cases h : y.toBitVec.toNat / 2 ^ (8 * k) % 256 ≤ x.toBitVec.toNat / 2 ^ (8 * k) % 256
  · rw [if_pos h, if_neg (by omega)]; rfl
  · rw [if_neg h, if_pos (by omega)]; rfl
theorem own_T (x y : Int64) : ((x ||| (-9187201950435737472:Int64)) - (y &&& ((-9187201950435737472:Int64) ^^^ (-1:Int64)))).toBitVec.toNat = own_up 8 x.toBitVec.toNat - own_lo 8 y.toBitVec.toNat := by
  have hx := x.toBitVec.isLt
  have hy := y.toBitVec.isLt
  have eH : (-9187201950435737472:Int64).toBitVec.toNat = own_H 8 := by decide
  have eM : ((-9187201950435737472:Int64) ^^^ (-1:Int64)).toBitVec.toNat = own_M 8 := by decide
  have a1 : (x ||| (-9187201950435737472:Int64)).toBitVec.toNat = own_up 8 x.toBitVec.toNat := by
    rw [Int64.toBitVec_or, BitVec.toNat_or, eH]; exact own_orH 8 _ hx
  have a2 : (y &&& ((-9187201950435737472:Int64) ^^^ (-1:Int64))).toBitVec.toNat = own_lo 8 y.toBitVec.toNat := by
    rw [Int64.toBitVec_and, BitVec.toNat_and, eM]; exact own_andM 8 _ hy
  have b := (x ||| (-9187201950435737472:Int64)).toBitVec.isLt
  have h := own_loup 8 x.toBitVec.toNat y.toBitVec.toNat
  rw [Int64.toBitVec_sub, BitVec.toNat_sub, a1, a2]
  rw [a1] at b
  omega
theorem own_bit (v : BitVec 64) (i : Nat) : v.getLsbD i = decide (v.toNat / 2 ^ i % 2 = 1) := by
  rw [BitVec.getLsbD, Nat.testBit_eq_decide_div_mod_eq]
theorem own_zbit (x y : Int64) (k : Nat) (hk : k < 8) : (((x &&& (y ^^^ (-1:Int64))) ||| (((x ^^^ y) ^^^ (-1:Int64)) &&& ((x ||| (-9187201950435737472:Int64)) - (y &&& ((-9187201950435737472:Int64) ^^^ (-1:Int64)))))).toBitVec.getLsbD (8 * k + 7) = true) ↔ y.toBitVec.toNat / 2 ^ (8 * k) % 256 ≤ x.toBitVec.toNat / 2 ^ (8 * k) % 256 := by
  have hi : 8 * k + 7 < 64 := by omega
  have m1 : (-1:Int64).toBitVec = BitVec.allOnes 64 := by decide
  rw [← own_byte, ← own_tbit 8 x.toBitVec.toNat y.toBitVec.toNat k hk, ← own_T x y]
  rw [Int64.toBitVec_or, Int64.toBitVec_and, Int64.toBitVec_and, Int64.toBitVec_xor, Int64.toBitVec_xor, Int64.toBitVec_xor, m1]
  simp only [BitVec.getLsbD_or, BitVec.getLsbD_and, BitVec.getLsbD_xor, BitVec.getLsbD_allOnes, hi, decide_true]
  rw [own_bit x.toBitVec, own_bit y.toBitVec, own_bit ((x ||| (-9187201950435737472:Int64)) - (y &&& ((-9187201950435737472:Int64) ^^^ (-1:Int64)))).toBitVec]
  generalize x.toBitVec.toNat / 2 ^ (8 * k + 7) % 2 = a
  generalize y.toBitVec.toNat / 2 ^ (8 * k + 7) % 2 = b
  generalize ((x ||| (-9187201950435737472:Int64)) - (y &&& ((-9187201950435737472:Int64) ^^^ (-1:Int64)))).toBitVec.toNat / 2 ^ (8 * k + 7) % 2 = c
  by_cases ha : a = 1 <;> by_cases hb : b = 1 <;> by_cases hc : c = 1 <;> simp [ha, hb, hc]
theorem own_maskH (z : Int64) : (z &&& (-9187201950435737472:Int64)) = (-9187201950435737472:Int64) ↔ ∀ k, k < 8 → z.toBitVec.getLsbD (8 * k + 7) = true := by
  have key : ∀ i : Fin 64, (-9187201950435737472:Int64).toBitVec.getLsbD i.val = decide (i.val % 8 = 7) := by decide +kernel
  rw [← Int64.toBitVec_inj, Int64.toBitVec_and]
  constructor
  · intro h k hk
    have := congrArg (fun v => BitVec.getLsbD v (8 * k + 7)) h
    simp only [BitVec.getLsbD_and] at this
    rw [key ⟨8 * k + 7, by omega⟩] at this
    have d : decide ((8 * k + 7) % 8 = 7) = true := by rw [decide_eq_true_eq]; omega
    simpa [d] using this
  · intro h
    apply BitVec.eq_of_getLsbD_eq
    intro i hi
    rw [BitVec.getLsbD_and, key ⟨i, hi⟩]
    by_cases d : i % 8 = 7
    · have := h (i / 8) (by omega)
      rw [show 8 * (i / 8) + 7 = i by omega] at this
      simp [d, this]
    · simp [d]
theorem own_eq (x y : Int64) : f2 x y = f3 x y := by
  have g := fun k hk => own_zbit x y k hk
  have h0 := own_f4 x y 0 0 (by decide)
  have h1 := own_f4 x y 1 1 (by decide)
  have h2 := own_f4 x y 2 2 (by decide)
  have h3 := own_f4 x y 3 3 (by decide)
  have h4 := own_f4 x y 4 4 (by decide)
  have h5 := own_f4 x y 5 5 (by decide)
  have h6 := own_f4 x y 6 6 (by decide)
  have h7 := own_f4 x y 7 7 (by decide)
  have hm := own_maskH ((x &&& (y ^^^ (-1:Int64))) ||| (((x ^^^ y) ^^^ (-1:Int64)) &&& ((x ||| (-9187201950435737472:Int64)) - (y &&& ((-9187201950435737472:Int64) ^^^ (-1:Int64))))))
  have hall : ((((x &&& (y ^^^ (-1:Int64))) ||| (((x ^^^ y) ^^^ (-1:Int64)) &&& ((x ||| (-9187201950435737472:Int64)) - (y &&& ((-9187201950435737472:Int64) ^^^ (-1:Int64)))))) &&& (-9187201950435737472:Int64)) = (-9187201950435737472:Int64)) ↔ ∀ k, k < 8 → y.toBitVec.toNat / 2 ^ (8 * k) % 256 ≤ x.toBitVec.toNat / 2 ^ (8 * k) % 256 := by
    rw [hm]
    exact forall_congr' fun k => forall_congr' fun hk => g k hk
  have P : ∀ k : Nat, Decidable (y.toBitVec.toNat / 2 ^ (8 * k) % 256 ≤ x.toBitVec.toNat / 2 ^ (8 * k) % 256) := fun k => inferInstance
  simp only [f2, f3, h0, h1, h2, h3, h4, h5, h6, h7]
  by_cases c : ∀ k, k < 8 → y.toBitVec.toNat / 2 ^ (8 * k) % 256 ≤ x.toBitVec.toNat / 2 ^ (8 * k) % 256
  · rw [if_pos (hall.mpr c), if_pos (c 0 (by decide)), if_pos (c 1 (by decide)), if_pos (c 2 (by decide)), if_pos (c 3 (by decide)), if_pos (c 4 (by decide)), if_pos (c 5 (by decide)), if_pos (c 6 (by decide)), if_pos (c 7 (by decide))]
    rfl
  · rw [if_neg (fun z => c (hall.mp z))]
    generalize hb : (fun k => y.toBitVec.toNat / 2 ^ (8 * k) % 256 ≤ x.toBitVec.toNat / 2 ^ (8 * k) % 256) = B
    by_cases b0 : y.toBitVec.toNat / 2 ^ (8 * 0) % 256 ≤ x.toBitVec.toNat / 2 ^ (8 * 0) % 256
    · by_cases b1 : y.toBitVec.toNat / 2 ^ (8 * 1) % 256 ≤ x.toBitVec.toNat / 2 ^ (8 * 1) % 256
      · by_cases b2 : y.toBitVec.toNat / 2 ^ (8 * 2) % 256 ≤ x.toBitVec.toNat / 2 ^ (8 * 2) % 256
        · by_cases b3 : y.toBitVec.toNat / 2 ^ (8 * 3) % 256 ≤ x.toBitVec.toNat / 2 ^ (8 * 3) % 256
          · by_cases b4 : y.toBitVec.toNat / 2 ^ (8 * 4) % 256 ≤ x.toBitVec.toNat / 2 ^ (8 * 4) % 256
            · by_cases b5 : y.toBitVec.toNat / 2 ^ (8 * 5) % 256 ≤ x.toBitVec.toNat / 2 ^ (8 * 5) % 256
              · by_cases b6 : y.toBitVec.toNat / 2 ^ (8 * 6) % 256 ≤ x.toBitVec.toNat / 2 ^ (8 * 6) % 256
                · have b7 : ¬ (y.toBitVec.toNat / 2 ^ (8 * 7) % 256 ≤ x.toBitVec.toNat / 2 ^ (8 * 7) % 256) := by
                    intro b7; apply c
                    intro k hk
                    match k, hk with
                    | 0, _ => exact b0
                    | 1, _ => exact b1
                    | 2, _ => exact b2
                    | 3, _ => exact b3
                    | 4, _ => exact b4
                    | 5, _ => exact b5
                    | 6, _ => exact b6
                    | 7, _ => exact b7
                  rw [if_pos b0, if_pos b1, if_pos b2, if_pos b3, if_pos b4, if_pos b5, if_pos b6, if_neg b7]; rfl
                · rw [if_pos b0, if_pos b1, if_pos b2, if_pos b3, if_pos b4, if_pos b5, if_neg b6]; rfl
              · rw [if_pos b0, if_pos b1, if_pos b2, if_pos b3, if_pos b4, if_neg b5]; rfl
            · rw [if_pos b0, if_pos b1, if_pos b2, if_pos b3, if_neg b4]; rfl
          · rw [if_pos b0, if_pos b1, if_pos b2, if_neg b3]; rfl
        · rw [if_pos b0, if_pos b1, if_neg b2]; rfl
      · rw [if_pos b0, if_neg b1]; rfl
    · rw [if_neg b0]; rfl
theorem own_plain (q0 q1 : Int64) (p2 : Int32) : f0 q0 q1 p2 = 1 := by
  simp only [f0, own_eq, if_pos]
  rfl
set_option maxRecDepth 65536 in
set_option maxHeartbeats 40000000 in
theorem comes_1 {Post : Tables → Env → Array Value → State → Outcome → State → Prop} (hpost : ∀ tb e args s v u, (limb_1_1.after args s (.returned v) u = true ∧ limb_1_2.after args s (.returned v) u = true ∧ True) → FrameEnd s (.returned v) u (Jvm.fieldLocs frame_1_writes args s ++ Jvm.arrayLocs frame_1_arrays args s ++ Jvm.staticLocs frame_1_statics s) 0 0 → Post tb e args s (.returned v) u) :
    ArmFor flags0 classFile x code maxLocals ret World_1 tables_1 room_1 Calls_1 rest_1 Pre_1 Post := by
  intro l hfl _ _ p e ha hc hk s m args below hf hA hF happ hP
  obtain ⟨hcalls, hrest, hpre⟩ := hP
  obtain ⟨-, -, -, hnamed, -, -, -, hat⟩ := (Spec.applies_iff hf).mp happ
  obtain ⟨hg, hn⟩ := and_e (Cond.before_iff.mp (show (Jvm.Cond.and given_1 narrow_1).before args s = true from hpre))
  obtain ⟨g2, g3⟩ := and_e hg
  obtain ⟨g4, g5⟩ := and_e g3
  obtain ⟨g6, g7⟩ := and_e g5
  obtain ⟨w0, w1, w2, rfl⟩ : ∃ w0 w1 w2 : Value, args = #[w0, w1, w2] := by
    have hs : args.size = 3 := by simpa [Cond.value, given_1] using g2
    obtain ⟨L⟩ := args
    match L, hs with
    | [w0, w1, w2], _ => exact ⟨w0, w1, w2, rfl⟩
  have hw := fun d (hd : d ∈ tables_1) => atoms_spec (ws := Jvm.Cond.code x code maxLocals ret :: tables_1) hat d (List.mem_cons_of_mem _ hd)
  obtain ⟨i0, ei0⟩ := isL_v g4
  obtain rfl : w0 = (.long i0) := Option.some.inj ei0
  obtain ⟨i1, ei1⟩ := isL_v g6
  obtain rfl : w1 = (.long i1) := Option.some.inj ei1
  obtain ⟨i2, ei2⟩ := is_v g7
  obtain rfl : w2 = (.int i2) := Option.some.inj ei2
  obtain ⟨n, o, h1, h2, h3, _, L, rfl, ⟨hv, N⟩, hq⟩ := rm0 l s _ hw tables_1 i0 i1 i2 s.heap s.heap.size (Nat.le_refl _)  p e ha hc hk s m _ below hf ((Spec.applies_iff_loose hf).mp happ).1 ⟨rfl, State.Warmed39.refl s, rfl⟩ trivial
  rw [own_plain] at hv
  subst hv
  refine ⟨n, _, h1, h2, h3, hpost _ _ _ _ _ _ ⟨Cond.after_iff.mpr rfl, Cond.after_iff.mpr (eq_i res_at (Term.int_eval (1)) rfl), trivial⟩ ⟨hq.1, hq.2.1, (hq.2.2.sift fun y hy => Or.inr (N y hy)).mono (by decide) (by decide)⟩⟩
theorem main_1_1 : Claimed_1_1 := comes_1 fun _ _ _ _ _ _ h hF => ⟨h.1, hF⟩
theorem main_1_2 : Claimed_1_2 := comes_1 fun _ _ _ _ _ _ h hF => ⟨h.2.1, hF⟩
end Jvm.Pilot.@@N@@
namespace Jvm.Pilot.@@N@@
open Jvm Jvm.ClassFile Sem Op Lib Jvm.Free Jvm.Stand Jvm.Pilot.@@N@@.Jvm.D
/-! MADE BY PROGRAM (witnessworld.py) out of the Statement's table words and the real class files: 9 classes; the members and pool entries that the words name. The judged class is class 1, her method 1. -/
namespace start1
open Jvm.ClassFile
def u (s : String) : CpInfo := .utf8 (stringToUtf16 s)
/-- a pool by its gaps: so many unusable entries, then the entry; so many at the end -/
def gap : Nat → List CpInfo → List CpInfo
  | 0, r => r
  | n + 1, r => .unusable :: gap n r
def poolList (es : List (Nat × CpInfo)) (last : Nat) : List CpInfo := es.foldr (fun e r => gap e.1 (e.2 :: r)) (gap last [])
def pool (es : List (Nat × CpInfo)) (last : Nat) : Array CpInfo := ⟨poolList es last⟩
def fileOf (pool : Array CpInfo) (this : Nat) (attrs : Array Attribute := #[]) (ms : Array MethodInfo := #[]) (fl : Nat := 33) (sup : Nat := 0) (ifs : Array Nat := #[]) (fds : Array FieldInfo := #[]) : ClassFile where
  minorVersion := 0
  majorVersion := 65
  constantPool := pool
  accessFlags := fl
  thisClass := this
  superClass := sup
  interfaces := ifs
  fields := fds
  methods := ms
  attributes := attrs
def plain (name : String) (sup : Option ClassId) : Class where
  name := name
  kind := .ordinary
  loader := none
  accessFlags := 33
  super := sup
  interfaces := #[]
  cf := none
  fields := #[]
  methods := #[]
  instanceTypes := #[]
  staticTypes := #[]
  resolved := #[]
  callSites := []
  init := .initialized
  statics := none
  mirror := none

def pool0 : Array CpInfo := pool [(5, u "<init>"), (0, u "()V"), (1, .class_ 10), (1, u "java/lang/Object")] 113

def k0m0 : Method := { name := "<init>", desc := "()V", sig := { parameters := [], returnType := none }, accessFlags := 1, code := none }
/-- java/lang/Object -/
def k0 : Class := { plain "java/lang/Object" none with
  accessFlags := 33
  interfaces := #[]
  cf := some (fileOf pool0 8 #[] #[{ accessFlags := 1, nameIndex := 5, descriptorIndex := 6, attributes := #[] }] 33 0 #[] #[])
  fields := #[]
  methods := #[k0m0]
  instanceTypes := #[]
  staticTypes := #[]
  resolved := Array.replicate 124 none
  statics := none }

def pool1 : Array CpInfo := pool [(2, .class_ 4), (1, u "java/lang/Object"), (0, u "<init>"), (0, u "()V"), (0, .methodref 8 9), (0, .class_ 10), (0, .nameAndType 11 12), (0, u "com/example/lexarray/lexarray/model/TrieBytesAtLeastPinLaw"), (0, u "byteMask"), (0, u "(I)J"), (0, .long 18446744073709551615), (1, .methodref 16 17), (0, .class_ 18), (0, .nameAndType 19 20), (0, u "com/example/lexarray/lexarray/model/Trie"), (0, u "bytesAtLeast"), (0, u "(JJ)Z"), (0, .methodref 8 22), (0, .nameAndType 23 20), (0, u "reference"), (0, .long 255), (1, .long 65280), (1, .long 16711680), (1, .long 4278190080), (1, .long 1095216660480), (1, .long 280375465082880), (1, .long 71776119061217280), (1, .long 18374686479671623680), (1, .methodref 8 41), (0, .nameAndType 42 43), (0, u "byteAtLeast"), (0, u "(JJI)Z"), (2, u "law")] 3

def k1m0 : Method := { name := "<init>", desc := "()V", sig := { parameters := [], returnType := none }, accessFlags := 1, code := none }
def k1c1 : Code := { maxStack := 6, maxLocals := 13, code := code, exceptionTable := #[], attributes := #[] }
def k1m1 : Method := { name := "law", desc := "(JJI)Z", sig := { parameters := [.long, .long, .int], returnType := some .boolean }, accessFlags := 9, code := some k1c1 }
def k1c2 : Code := { maxStack := 4, maxLocals := 3, code := method_3_code, exceptionTable := #[], attributes := #[] }
def k1m2 : Method := { name := "byteMask", desc := "(I)J", sig := { parameters := [.int], returnType := some .long }, accessFlags := 10, code := some k1c2 }
def k1c3 : Code := { maxStack := 6, maxLocals := 6, code := method_4_code, exceptionTable := #[], attributes := #[] }
def k1m3 : Method := { name := "byteAtLeast", desc := "(JJI)Z", sig := { parameters := [.long, .long, .int], returnType := some .boolean }, accessFlags := 10, code := some k1c3 }
def k1c4 : Code := { maxStack := 5, maxLocals := 4, code := method_5_code, exceptionTable := #[], attributes := #[] }
def k1m4 : Method := { name := "reference", desc := "(JJ)Z", sig := { parameters := [.long, .long], returnType := some .boolean }, accessFlags := 10, code := some k1c4 }
/-- com/example/lexarray/lexarray/model/TrieBytesAtLeastPinLaw -/
def k1 : Class := { plain "com/example/lexarray/lexarray/model/TrieBytesAtLeastPinLaw" (some 0) with
  accessFlags := 49
  interfaces := #[]
  cf := some (fileOf pool1 8 #[] #[{ accessFlags := 1, nameIndex := 5, descriptorIndex := 6, attributes := #[] }, { accessFlags := 9, nameIndex := 46, descriptorIndex := 43, attributes := #[] }, { accessFlags := 10, nameIndex := 11, descriptorIndex := 12, attributes := #[] }, { accessFlags := 10, nameIndex := 42, descriptorIndex := 43, attributes := #[] }, { accessFlags := 10, nameIndex := 23, descriptorIndex := 20, attributes := #[] }] 49 2 #[] #[])
  fields := #[]
  methods := #[k1m0, k1m1, k1m2, k1m3, k1m4]
  instanceTypes := #[]
  staticTypes := #[]
  resolved := Array.replicate 50 none
  statics := none }

def pool2 : Array CpInfo := pool [(3, .class_ 4), (0, u "com/example/lexarray/lexarray/model/Trie"), (3, .class_ 10), (1, u "java/lang/Object"), (4, u "PARTS"), (0, u "[Lcom/example/lexarray/lexarray/model/Trie$Part;"), (2, u "parts"), (0, u "[Ljava/lang/Object;"), (2, u "nodes"), (0, u "I"), (2, u "codeCount"), (2, u "keyCount"), (2, u "idUnits"), (2, u "levelThree"), (2, u "highBits"), (4, .class_ 46), (1, u "com/example/lexarray/lexarray/model/Trie$Part"), (15, u "[I"), (2, u "roots"), (4, u "[B"), (2, u "displacements"), (5, u "twoDeep"), (5, u "wideGrands"), (4, u "[J"), (2, u "highCodes"), (4, u "[C"), (2, u "codes"), (5, u "offsets"), (5, u "blocks"), (5, u "wideFirsts"), (5, u "failureDepths"), (5, u "keyBits"), (5, u "belowBits"), (5, u "idHeads"), (5, u "idData"), (2, u "DEEP"), (2, u "deep"), (18, .class_ 176), (1, u "com/example/lexarray/lexarray/model/Trie$Source"), (90, .class_ 269), (1, u "com/example/lexarray/lexarray/model/Trie$Sink"), (188, .class_ 460), (1, u "com/example/lexarray/lexarray/model/Trie$KeyListener"), (102, u "bytesAtLeast"), (0, u "(JJ)Z"), (6, .long 9259542123273814144), (1, .long 18446744073709551615), (21, u "ROOT"), (2, u "NONE"), (1, u "BLOCK"), (1, u "OFFSET_MASK"), (2, u "LOW_BITS"), (0, u "ROOT_INTS"), (1, u "ROOT_FIRST"), (0, u "ROOT_ID"), (1, u "ROOT_GRANDS"), (1, u "LOW_MASK"), (0, u "KEY_BIT"), (0, u "GRAND_SHIFT"), (1, u "MAX_GRAND_OFFSET"), (1, u "SLOTS_PER_DISPLACEMENT"), (1, u "WIDTH_BITS"), (1, u "ID_UNIT"), (1, u "MAX_ID_UNITS"), (1, u "DEEP_INTS"), (0, u "MAX_CODES"), (0, u "COUNTS"), (1, u "NODES_THREE_DEEP_MISCOUNTED"), (0, u "Ljava/lang/String;"), (0, u "CHUNK_BYTES"), (0, u "NO_TWO_DEEP"), (0, u "J")] 62

def k2c0 : Code := { maxStack := 8, maxLocals := 8, code := prog_20_method_63_code, exceptionTable := #[], attributes := #[] }
def k2m0 : Method := { name := "bytesAtLeast", desc := "(JJ)Z", sig := { parameters := [.long, .long], returnType := some .boolean }, accessFlags := 8, code := some k2c0 }
/-- com/example/lexarray/lexarray/model/Trie -/
def k2 : Class := { plain "com/example/lexarray/lexarray/model/Trie" (some 0) with
  accessFlags := 49
  interfaces := #[]
  cf := some (fileOf pool2 3 #[.nestMembers #[458, 267, 174, 44]] #[{ accessFlags := 8, nameIndex := 563, descriptorIndex := 564, attributes := #[] }] 49 8 #[] #[{ accessFlags := 25, nameIndex := 595, descriptorIndex := 24, attributes := #[] }, { accessFlags := 25, nameIndex := 598, descriptorIndex := 24, attributes := #[] }, { accessFlags := 24, nameIndex := 600, descriptorIndex := 24, attributes := #[] }, { accessFlags := 24, nameIndex := 602, descriptorIndex := 24, attributes := #[] }, { accessFlags := 24, nameIndex := 152, descriptorIndex := 24, attributes := #[] }, { accessFlags := 24, nameIndex := 605, descriptorIndex := 24, attributes := #[] }, { accessFlags := 24, nameIndex := 606, descriptorIndex := 24, attributes := #[] }, { accessFlags := 24, nameIndex := 608, descriptorIndex := 24, attributes := #[] }, { accessFlags := 24, nameIndex := 609, descriptorIndex := 24, attributes := #[] }, { accessFlags := 24, nameIndex := 611, descriptorIndex := 24, attributes := #[] }, { accessFlags := 24, nameIndex := 613, descriptorIndex := 24, attributes := #[] }, { accessFlags := 24, nameIndex := 614, descriptorIndex := 24, attributes := #[] }, { accessFlags := 24, nameIndex := 615, descriptorIndex := 24, attributes := #[] }, { accessFlags := 24, nameIndex := 617, descriptorIndex := 24, attributes := #[] }, { accessFlags := 24, nameIndex := 619, descriptorIndex := 24, attributes := #[] }, { accessFlags := 24, nameIndex := 621, descriptorIndex := 24, attributes := #[] }, { accessFlags := 24, nameIndex := 623, descriptorIndex := 24, attributes := #[] }, { accessFlags := 24, nameIndex := 625, descriptorIndex := 24, attributes := #[] }, { accessFlags := 24, nameIndex := 627, descriptorIndex := 24, attributes := #[] }, { accessFlags := 24, nameIndex := 628, descriptorIndex := 24, attributes := #[] }, { accessFlags := 26, nameIndex := 629, descriptorIndex := 24, attributes := #[] }, { accessFlags := 26, nameIndex := 631, descriptorIndex := 632, attributes := #[] }, { accessFlags := 26, nameIndex := 633, descriptorIndex := 24, attributes := #[] }, { accessFlags := 26, nameIndex := 634, descriptorIndex := 635, attributes := #[] }, { accessFlags := 26, nameIndex := 15, descriptorIndex := 16, attributes := #[] }, { accessFlags := 16, nameIndex := 23, descriptorIndex := 24, attributes := #[] }, { accessFlags := 16, nameIndex := 27, descriptorIndex := 24, attributes := #[] }, { accessFlags := 16, nameIndex := 30, descriptorIndex := 24, attributes := #[] }, { accessFlags := 16, nameIndex := 33, descriptorIndex := 24, attributes := #[] }, { accessFlags := 16, nameIndex := 39, descriptorIndex := 24, attributes := #[] }, { accessFlags := 16, nameIndex := 36, descriptorIndex := 24, attributes := #[] }, { accessFlags := 18, nameIndex := 19, descriptorIndex := 20, attributes := #[] }, { accessFlags := 16, nameIndex := 65, descriptorIndex := 62, attributes := #[] }, { accessFlags := 16, nameIndex := 73, descriptorIndex := 70, attributes := #[] }, { accessFlags := 16, nameIndex := 79, descriptorIndex := 62, attributes := #[] }, { accessFlags := 16, nameIndex := 85, descriptorIndex := 62, attributes := #[] }, { accessFlags := 16, nameIndex := 93, descriptorIndex := 90, attributes := #[] }, { accessFlags := 16, nameIndex := 101, descriptorIndex := 98, attributes := #[] }, { accessFlags := 16, nameIndex := 107, descriptorIndex := 90, attributes := #[] }, { accessFlags := 16, nameIndex := 113, descriptorIndex := 62, attributes := #[] }, { accessFlags := 16, nameIndex := 119, descriptorIndex := 62, attributes := #[] }, { accessFlags := 16, nameIndex := 125, descriptorIndex := 70, attributes := #[] }, { accessFlags := 16, nameIndex := 131, descriptorIndex := 90, attributes := #[] }, { accessFlags := 16, nameIndex := 137, descriptorIndex := 90, attributes := #[] }, { accessFlags := 16, nameIndex := 143, descriptorIndex := 62, attributes := #[] }, { accessFlags := 16, nameIndex := 149, descriptorIndex := 90, attributes := #[] }, { accessFlags := 16, nameIndex := 155, descriptorIndex := 62, attributes := #[] }])
  fields := #[{ name := "ROOT", type := .int, accessFlags := 25, slot := 0, constantValue := 0 }, { name := "NONE", type := .int, accessFlags := 25, slot := 1, constantValue := 0 }, { name := "BLOCK", type := .int, accessFlags := 24, slot := 2, constantValue := 0 }, { name := "OFFSET_MASK", type := .int, accessFlags := 24, slot := 3, constantValue := 0 }, { name := "DEEP", type := .int, accessFlags := 24, slot := 4, constantValue := 0 }, { name := "LOW_BITS", type := .int, accessFlags := 24, slot := 5, constantValue := 0 }, { name := "ROOT_INTS", type := .int, accessFlags := 24, slot := 6, constantValue := 0 }, { name := "ROOT_FIRST", type := .int, accessFlags := 24, slot := 7, constantValue := 0 }, { name := "ROOT_ID", type := .int, accessFlags := 24, slot := 8, constantValue := 0 }, { name := "ROOT_GRANDS", type := .int, accessFlags := 24, slot := 9, constantValue := 0 }, { name := "LOW_MASK", type := .int, accessFlags := 24, slot := 10, constantValue := 0 }, { name := "KEY_BIT", type := .int, accessFlags := 24, slot := 11, constantValue := 0 }, { name := "GRAND_SHIFT", type := .int, accessFlags := 24, slot := 12, constantValue := 0 }, { name := "MAX_GRAND_OFFSET", type := .int, accessFlags := 24, slot := 13, constantValue := 0 }, { name := "SLOTS_PER_DISPLACEMENT", type := .int, accessFlags := 24, slot := 14, constantValue := 0 }, { name := "WIDTH_BITS", type := .int, accessFlags := 24, slot := 15, constantValue := 0 }, { name := "ID_UNIT", type := .int, accessFlags := 24, slot := 16, constantValue := 0 }, { name := "MAX_ID_UNITS", type := .int, accessFlags := 24, slot := 17, constantValue := 0 }, { name := "DEEP_INTS", type := .int, accessFlags := 24, slot := 18, constantValue := 0 }, { name := "MAX_CODES", type := .int, accessFlags := 24, slot := 19, constantValue := 0 }, { name := "COUNTS", type := .int, accessFlags := 26, slot := 20, constantValue := 0 }, { name := "NODES_THREE_DEEP_MISCOUNTED", type := (.object "java/lang/String"), accessFlags := 26, slot := 21, constantValue := 0 }, { name := "CHUNK_BYTES", type := .int, accessFlags := 26, slot := 22, constantValue := 0 }, { name := "NO_TWO_DEEP", type := .long, accessFlags := 26, slot := 23, constantValue := 0 }, { name := "PARTS", type := (.array (.object "com/example/lexarray/lexarray/model/Trie$Part")), accessFlags := 26, slot := 24, constantValue := 0 }, { name := "nodes", type := .int, accessFlags := 16, slot := 0, constantValue := 0 }, { name := "codeCount", type := .int, accessFlags := 16, slot := 1, constantValue := 0 }, { name := "keyCount", type := .int, accessFlags := 16, slot := 2, constantValue := 0 }, { name := "idUnits", type := .int, accessFlags := 16, slot := 3, constantValue := 0 }, { name := "highBits", type := .int, accessFlags := 16, slot := 4, constantValue := 0 }, { name := "levelThree", type := .int, accessFlags := 16, slot := 5, constantValue := 0 }, { name := "parts", type := (.array (.object "java/lang/Object")), accessFlags := 18, slot := 6, constantValue := 0 }, { name := "roots", type := (.array .int), accessFlags := 16, slot := 7, constantValue := 0 }, { name := "displacements", type := (.array .byte), accessFlags := 16, slot := 8, constantValue := 0 }, { name := "twoDeep", type := (.array .int), accessFlags := 16, slot := 9, constantValue := 0 }, { name := "wideGrands", type := (.array .int), accessFlags := 16, slot := 10, constantValue := 0 }, { name := "highCodes", type := (.array .long), accessFlags := 16, slot := 11, constantValue := 0 }, { name := "codes", type := (.array .char), accessFlags := 16, slot := 12, constantValue := 0 }, { name := "offsets", type := (.array .long), accessFlags := 16, slot := 13, constantValue := 0 }, { name := "blocks", type := (.array .int), accessFlags := 16, slot := 14, constantValue := 0 }, { name := "wideFirsts", type := (.array .int), accessFlags := 16, slot := 15, constantValue := 0 }, { name := "failureDepths", type := (.array .byte), accessFlags := 16, slot := 16, constantValue := 0 }, { name := "keyBits", type := (.array .long), accessFlags := 16, slot := 17, constantValue := 0 }, { name := "belowBits", type := (.array .long), accessFlags := 16, slot := 18, constantValue := 0 }, { name := "idHeads", type := (.array .int), accessFlags := 16, slot := 19, constantValue := 0 }, { name := "idData", type := (.array .long), accessFlags := 16, slot := 20, constantValue := 0 }, { name := "deep", type := (.array .int), accessFlags := 16, slot := 21, constantValue := 0 }]
  methods := #[k2m0]
  instanceTypes := #[.int, .int, .int, .int, .int, .int, (.array (.object "java/lang/Object")), (.array .int), (.array .byte), (.array .int), (.array .int), (.array .long), (.array .char), (.array .long), (.array .int), (.array .int), (.array .byte), (.array .long), (.array .long), (.array .int), (.array .long), (.array .int)]
  staticTypes := #[.int, .int, .int, .int, .int, .int, .int, .int, .int, .int, .int, .int, .int, .int, .int, .int, .int, .int, .int, .int, .int, (.object "java/lang/String"), .int, .long, (.array (.object "com/example/lexarray/lexarray/model/Trie$Part"))]
  resolved := Array.replicate 698 none
  statics := none }

def pool3 : Array CpInfo := pool [(1, u "java/lang/Cloneable"), (0, .class_ 1), (0, u "java/lang/Object"), (0, .class_ 3)] 3

/-- java/lang/Cloneable -/
def k3 : Class := { plain "java/lang/Cloneable" (some 0) with
  accessFlags := 1537
  interfaces := #[]
  cf := some (fileOf pool3 2 #[] #[] 1537 4 #[] #[])
  fields := #[]
  methods := #[]
  instanceTypes := #[]
  staticTypes := #[]
  resolved := Array.replicate 8 none
  statics := none }

def pool4 : Array CpInfo := pool [(1, u "java/io/Serializable"), (0, .class_ 1), (0, u "java/lang/Object"), (0, .class_ 3)] 3

/-- java/io/Serializable -/
def k4 : Class := { plain "java/io/Serializable" (some 0) with
  accessFlags := 1537
  interfaces := #[]
  cf := some (fileOf pool4 2 #[] #[] 1537 4 #[] #[])
  fields := #[]
  methods := #[]
  instanceTypes := #[]
  staticTypes := #[]
  resolved := Array.replicate 8 none
  statics := none }

/-- the primitive byte -/
def k5 : Class := { plain "byte" none with kind := .primitive 'B', accessFlags := 0x411 }
/-- [B -/
def k6 : Class := { plain "[B" (some 0) with kind := .array 5 .byte, interfaces := #[3, 4], accessFlags := 1041 }

/-- the primitive int -/
def k7 : Class := { plain "int" none with kind := .primitive 'I', accessFlags := 0x411 }
/-- [I -/
def k8 : Class := { plain "[I" (some 0) with kind := .array 7 .int, interfaces := #[3, 4], accessFlags := 1041 }

def heap : Heap := #[]
def classes : Array Class := #[k0, k1, k2, k3, k4, k5, k6, k7, k8]
def interned : List (Array UInt16 × Addr) := []
def slotsUsed : Nat := 0
def theMethod : MethodId := ⟨1, 1⟩
def args0 : Array Value := #[.long 5, .long 5, .int 5]
def aboutOver (below : List Frame) : State where
  vm := { classes := classes, interned := interned.toArray }
  heap := heap
  slotsUsed := slotsUsed
  threads := #[{ frames := .invoking theMethod args0 :: below }]
def below0 : List Frame := [.native { method := ⟨0, 0⟩, args := #[] }]
def about1 : State := aboutOver below0
def p0 : Program := .bare "" "" ""
def e0 : Env := launch0.env 0 0 0
theorem w_frames : about1.frames = Frame.invoking theMethod args0 :: below0 := rfl
set_option maxRecDepth 65536 in
theorem w_args : argsFit about1.vm theMethod args0 = true := by decide +kernel
set_option maxRecDepth 65536 in
theorem w_heap : heapFits about1 = true := by decide +kernel
set_option maxRecDepth 65536 in
theorem w_runnable : about1.curStatus? = some .runnable := by decide +kernel
set_option maxRecDepth 65536 in
theorem w_alone : about1.alone = true := by decide +kernel
set_option maxRecDepth 65536 in
theorem w_named : about1.methodNamed? x = some theMethod := by decide +kernel
set_option maxRecDepth 65536 in
theorem w_hears : about1.hears theMethod below0 = true := by decide +kernel
set_option maxRecDepth 65536 in
theorem w_ripe : about1.ripe theMethod args0 below0 = true := by decide +kernel
theorem w_running : about1.status = .running := rfl
set_option maxRecDepth 65536 in
theorem w_room : about1.hasRoom e0.platform room_1 = true :=
  launch0.hasRoom_least _ room_1 (by decide +kernel) (by decide +kernel) (by decide +kernel) (by decide +kernel) (by decide +kernel) (by decide +kernel)
theorem allAtoms_all (ts : List Jvm.Cond) (a : Array Jvm.Value) (st : Jvm.State) : (allAtoms ts).before a st = ts.all (fun c => c.before a st) := by
  induction ts with
  | nil => rfl
  | cons c t ih =>
    show (Jvm.Cond.and c (allAtoms t)).before a st = _
    rw [Jvm.Cond.before_and, ih, List.all_cons]
def words1 : List Jvm.Cond := Jvm.Cond.code x code maxLocals ret :: tables_1
/-- a 'code' word, met by the world's own term for the bytes: nothing is compared byte by byte -/
theorem code_word {y : MethodName} {bytes : ByteArray} {mx : Nat} {rt : Option FieldType} {a : Array Value} {s : State} {m : MethodId} {meth : Method} {c : Code} (h1 : s.methodNamed? y = some m) (h2 : s.vm.method? m = some meth) (h3 : meth.code = some c) (h4 : c.code = bytes)
    (h5 : (c.maxLocals == mx && c.exceptionTable.isEmpty && decide (c.maxStack ≤ mostOperands) && decide (meth.sig.returnType = rt) && !meth.locks && decide (parseMethodDescriptor y.desc = some meth.sig)) = true) : (Jvm.Cond.code y bytes mx rt).before a s = true := by
  simp only [Bool.and_eq_true, beq_iff_eq, Bool.not_eq_true', decide_eq_true_eq] at h5
  obtain ⟨⟨⟨⟨⟨g1, g2⟩, g3⟩, g4⟩, g5⟩, g6⟩ := h5
  simp [Cond.before, Cond.holds, Cond.value, h1, h2, h3, h4, g1, g2, g3, g4, g5, g6]
def isCode : Jvm.Cond → Bool
  | .code _ _ _ _ => true
  | _ => false
theorem all_split {L : List Jvm.Cond} {P : Jvm.Cond → Bool} (h1 : L.all (fun c => isCode c || P c) = true) (h2 : ∀ c ∈ L.filter isCode, P c = true) : L.all P = true := by
  refine List.all_eq_true.mpr fun c hc => ?_
  have h := List.all_eq_true.mp h1 c hc
  rcases Bool.eq_false_or_eq_true (isCode c) with hi | hi
  · exact h2 c (List.mem_filter.mpr ⟨hc, hi⟩)
  · simpa [hi] using h
set_option maxRecDepth 65536 in
theorem w_c0 : (Jvm.Cond.code x code maxLocals ret).before args0 about1 = true := code_word (m := ⟨1, 1⟩) (meth := k1m1) (c := k1c1) (by decide +kernel) rfl rfl rfl (by decide +kernel)
set_option maxRecDepth 65536 in
theorem w_c1 : (Jvm.Cond.code ({ cls := "com/example/lexarray/lexarray/model/TrieBytesAtLeastPinLaw", name := "byteMask", desc := "(I)J" } : Jvm.MethodName) method_3_code (3 : Nat) (Option.some Jvm.ClassFile.FieldType.long)).before args0 about1 = true := code_word (m := ⟨1, 2⟩) (meth := k1m2) (c := k1c2) (by decide +kernel) rfl rfl rfl (by decide +kernel)
set_option maxRecDepth 65536 in
theorem w_c2 : (Jvm.Cond.code ({ cls := "com/example/lexarray/lexarray/model/Trie", name := "bytesAtLeast", desc := "(JJ)Z" } : Jvm.MethodName) prog_20_method_63_code (8 : Nat) (Option.some Jvm.ClassFile.FieldType.boolean)).before args0 about1 = true := code_word (m := ⟨2, 0⟩) (meth := k2m0) (c := k2c0) (by decide +kernel) rfl rfl rfl (by decide +kernel)
set_option maxRecDepth 65536 in
theorem w_c3 : (Jvm.Cond.code ({ cls := "com/example/lexarray/lexarray/model/TrieBytesAtLeastPinLaw", name := "reference", desc := "(JJ)Z" } : Jvm.MethodName) method_5_code (4 : Nat) (Option.some Jvm.ClassFile.FieldType.boolean)).before args0 about1 = true := code_word (m := ⟨1, 4⟩) (meth := k1m4) (c := k1c4) (by decide +kernel) rfl rfl rfl (by decide +kernel)
set_option maxRecDepth 65536 in
theorem w_c4 : (Jvm.Cond.code ({ cls := "com/example/lexarray/lexarray/model/TrieBytesAtLeastPinLaw", name := "byteAtLeast", desc := "(JJI)Z" } : Jvm.MethodName) method_4_code (6 : Nat) (Option.some Jvm.ClassFile.FieldType.boolean)).before args0 about1 = true := code_word (m := ⟨1, 3⟩) (meth := k1m3) (c := k1c3) (by decide +kernel) rfl rfl rfl (by decide +kernel)
def codes1 : List Jvm.Cond := [Jvm.Cond.code x code maxLocals ret, Jvm.Cond.code ({ cls := "com/example/lexarray/lexarray/model/TrieBytesAtLeastPinLaw", name := "byteMask", desc := "(I)J" } : Jvm.MethodName) method_3_code (3 : Nat) (Option.some Jvm.ClassFile.FieldType.long), Jvm.Cond.code ({ cls := "com/example/lexarray/lexarray/model/Trie", name := "bytesAtLeast", desc := "(JJ)Z" } : Jvm.MethodName) prog_20_method_63_code (8 : Nat) (Option.some Jvm.ClassFile.FieldType.boolean), Jvm.Cond.code ({ cls := "com/example/lexarray/lexarray/model/TrieBytesAtLeastPinLaw", name := "reference", desc := "(JJ)Z" } : Jvm.MethodName) method_5_code (4 : Nat) (Option.some Jvm.ClassFile.FieldType.boolean), Jvm.Cond.code ({ cls := "com/example/lexarray/lexarray/model/TrieBytesAtLeastPinLaw", name := "byteAtLeast", desc := "(JJI)Z" } : Jvm.MethodName) method_4_code (6 : Nat) (Option.some Jvm.ClassFile.FieldType.boolean)]
set_option maxRecDepth 65536 in
theorem codes_eq : words1.filter isCode = codes1 := rfl
theorem w_codes : ∀ c ∈ words1.filter isCode, c.before args0 about1 = true := by
  rw [codes_eq]
  intro c hc
  simp only [codes1, List.mem_cons, List.not_mem_nil, or_false] at hc
  rcases hc with rfl | rfl | rfl | rfl | rfl
  · exact w_c0
  · exact w_c1
  · exact w_c2
  · exact w_c3
  · exact w_c4
set_option maxRecDepth 65536 in
theorem w_t1 : (words1.take 24).all (fun c => isCode c || c.before args0 about1) = true := by decide +kernel
set_option maxRecDepth 65536 in
theorem w_t2 : (words1.drop 24).all (fun c => isCode c || c.before args0 about1) = true := by decide +kernel
theorem w_tables : (allAtoms (Jvm.Cond.code x code maxLocals ret :: tables_1)).before args0 about1 = true := by
  rw [allAtoms_all]
  show words1.all (fun c => c.before args0 about1) = true
  refine all_split ?_ w_codes
  rw [← List.take_append_drop 24 words1, List.all_append, w_t1, w_t2]
  rfl
set_option maxRecDepth 65536 in
theorem w_case : (Jvm.Cond.and given_1 narrow_1).before args0 about1 = true := by decide +kernel
theorem w_applies : (headSpec (Jvm.Cond.code x code maxLocals ret :: tables_1) room_1).applies x e0.platform about1 = true :=
  (Spec.applies_iff w_frames).mpr ⟨w_running, w_runnable, w_alone, w_named, w_hears, w_ripe, w_room, w_tables⟩
theorem atStart : AtStart classFile x code maxLocals ret World_1 tables_1 room_1 Calls_1 rest_1 Pre_1 launch0 p0 e0 about1 theMethod args0 below0 :=
  ⟨lists_1, trivial, launch0.admits_env _ _ _, launch0.least_env, fairChoices_fair.cas, fairChoices_fair.clock, w_frames, w_args, w_heap, w_applies, trivial, trivial, w_case⟩
end start1
theorem witness_1 : WitnessClaimed_1 := ⟨start1.p0, start1.e0, start1.about1, start1.theMethod, start1.args0, start1.below0, start1.atStart⟩
end Jvm.Pilot.@@N@@
