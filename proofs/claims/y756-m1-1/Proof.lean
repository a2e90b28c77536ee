import JvmDerived
import JvmDerived.Pilot.@@N@@Statement
import JvmDerived.Pilot.@@N@@Code
set_option linter.unusedVariables false
set_option linter.unusedSimpArgs false
namespace Jvm.RoadKit
open Sem ClassFile Op Lib Jvm.Stand Jvm.Free Jvm.LawKit
section New
variable {p : Program} {l : Launch} {e : Env} {R : Room} {s : State} {m : MethodId} {args : Array Value} {below : List Frame} {meth : Method} {c : Code} {T : State} {locs : List Loc} {cells slots : Nat}
theorem retI (X : Stand p l e R s m args below meth c T locs cells slots) (hx : p.tables.exec = Jvm.exec) {pc : Nat} {Ls : Array Slot} {z : Int32} {rest : List Value} (hret : meth.sig.returnType = some .int) (hd : decode c.code pc = .ok (.ireturn, 1)) {fs : List Frame}
    (hl : ∀ (f : JFrame) (acts : List Action), f.method = m → f.locked = none → f.entered = [] → (doReturn e (T.setTop f) acts (some (.int z))).1 = T.setFrames fs) : Steps p.tables e below (T.setTop (mkF m pc Ls (.int z :: rest))) (T.setFrames fs) := by
  have hm' : T.vm.method? m = some meth := X.method'
  have hn : narrow .int (.int z) = .int z := rfl
  show Steps p.tables e below (T.setTop { method := m, pc := pc, locals := Ls, stack := _ :: rest, locked := none }) _
  jvm_step X.here [X.here.top, hx, hd, hm', hret, hn]
  first | (intro acts; rw [hl _ acts rfl rfl rfl]) | rw [hl _ _ rfl rfl rfl]
  exact Steps.refl _
end New
end Jvm.RoadKit
@@BLOCK:NumsL.lean.txt@@
namespace Jvm.Pilot.@@N@@
open Jvm Jvm.ClassFile Sem Op Lib Jvm.Free Jvm.Stand Jvm.LawKit Jvm.RoadKit Bundle Jvm.Pilot.@@N@@.Jvm.D
theorem own_hi (b s : Int32) : ((((b.toInt64 <<< ((32 : Int32) &&& 0x3f).toInt64) ||| (s.toInt64 &&& (4294967295 : Int64))).toUInt64 >>> ((32 : Int32) &&& 0x3f).toInt64.toUInt64).toInt64).toInt32 = b := by
  apply Int32.toBitVec_inj.mp
  have e1 : (b.toInt64 <<< ((32 : Int32) &&& 0x3f).toInt64).toBitVec = (b.toBitVec.signExtend 64) <<< 32 := rfl
  have e2 : ((((b.toInt64 <<< ((32 : Int32) &&& 0x3f).toInt64) ||| (s.toInt64 &&& (4294967295 : Int64))).toUInt64 >>> ((32 : Int32) &&& 0x3f).toInt64.toUInt64).toInt64).toInt32.toBitVec = ((((b.toBitVec.signExtend 64) <<< 32) ||| ((s.toBitVec.signExtend 64) &&& 4294967295#64)) >>> 32).signExtend 32 := rfl
  rw [e2, BitVec.signExtend_eq_setWidth_of_le _ (by decide : 32 ≤ 64)]
  apply BitVec.eq_of_getLsbD_eq
  intro i hi
  have hm : (4294967295#64).getLsbD (32 + i) = false := by
    rw [BitVec.getLsbD, show (4294967295#64).toNat = 4294967295 from rfl]
    exact Nat.testBit_lt_two_pow (Nat.lt_of_lt_of_le (by decide : 4294967295 < 2 ^ 32) (Nat.pow_le_pow_right (by decide) (by omega)))
  simp only [BitVec.getLsbD_setWidth, BitVec.getLsbD_ushiftRight, BitVec.getLsbD_or, BitVec.getLsbD_shiftLeft, BitVec.getLsbD_signExtend, BitVec.getLsbD_and, hm]
  simp [hi, show 32 + i < 64 from by omega, show ¬ 32 + i < 32 from by omega, show i < 64 from by omega]
theorem own_lo (b s : Int32) : (((b.toInt64 <<< ((32 : Int32) &&& 0x3f).toInt64) ||| (s.toInt64 &&& (4294967295 : Int64)))).toInt32 = s := by
  apply Int32.toBitVec_inj.mp
  have e2 : (((b.toInt64 <<< ((32 : Int32) &&& 0x3f).toInt64) ||| (s.toInt64 &&& (4294967295 : Int64)))).toInt32.toBitVec = (((b.toBitVec.signExtend 64) <<< 32) ||| ((s.toBitVec.signExtend 64) &&& 4294967295#64)).signExtend 32 := rfl
  rw [e2, BitVec.signExtend_eq_setWidth_of_le _ (by decide : 32 ≤ 64)]
  apply BitVec.eq_of_getLsbD_eq
  intro i hi
  have hm : (4294967295#64).getLsbD i = true := by
    rw [BitVec.getLsbD, show (4294967295#64).toNat = 2 ^ 32 - 1 from rfl, Nat.testBit_two_pow_sub_one]
    simp [hi]
  simp only [BitVec.getLsbD_setWidth, BitVec.getLsbD_ushiftRight, BitVec.getLsbD_or, BitVec.getLsbD_shiftLeft, BitVec.getLsbD_signExtend, BitVec.getLsbD_and, hm]
  simp [hi, show 32 + i < 64 from by omega, show ¬ 32 + i < 32 from by omega, show i < 64 from by omega]
theorem pn_com_example_tallyhouse_tallyhouse_settle_QueuedTrades : plainName "com/example/tallyhouse/tallyhouse/settle/QueuedTrades" = true := by first | (simp [plainName, overriddenIn]; done) | decide +kernel
theorem d1_0 : decode prog_38_method_1_code 0 = .ok (.aload_n 0, 1) := by decide +kernel
theorem d1_1 : decode prog_38_method_1_code 1 = .ok (.invokespecial 3, 3) := by decide +kernel
theorem d1_4 : decode prog_38_method_1_code 4 = .ok (.aload_n 0, 1) := by decide +kernel
theorem d1_5 : decode prog_38_method_1_code 5 = .ok (.bipush 112, 2) := by decide +kernel
theorem d1_7 : decode prog_38_method_1_code 7 = .ok (.newarray .long, 2) := by decide +kernel
theorem d1_9 : decode prog_38_method_1_code 9 = .ok (.putfield 11, 3) := by decide +kernel
theorem d1_12 : decode prog_38_method_1_code 12 = .ok (.return_, 1) := by decide +kernel
theorem ef_1 (m : MethodId) (x0 : Addr) : entryFrame m #[(.ref x0)] 1 = mkF m 0 #[.val (.ref x0)] [] := by first | (simp [entryFrame, mkF, argsToLocals, Value.category]; done) | rfl
def Q1 (Z : State) (aa0 : Addr) (ut : Value) (h0 : Heap) (n0 : Nat) (v : Option Value) (h : Heap) (L : List Loc) : Prop := ∃ (bx : Addr), ∃ (kx : ClassId), ∃ (vx : List Value), v = none ∧ Fr n0 L ∧ Keep h0 h [aa0] ∧ n0 ≤ bx ∧ h0.size ≤ bx ∧ (Fld Z h aa0 "com/example/tallyhouse/tallyhouse/settle/QueuedTrades" "trades" "[J" (.ref bx)) ∧ (Arv Z h bx kx .long (112 : Int32) vx (.long (0 : Int64))) ∧ (Fld Z h aa0 "com/example/tallyhouse/tallyhouse/settle/QueuedTrades" "size" "I" (.int (0 : Int32))) ∧ (vx.length = 112)
set_option maxRecDepth 65536 in
set_option maxHeartbeats 40000000 in
theorem rm1 (l : Launch) (Z : State) (a0 : Array Value) (hw : ∀ d ∈ tables_1, d.before a0 Z = true) (ws : List Jvm.Cond) (aa0 : Addr) (ut : Value) (h0 : Heap) (n0 : Nat) (Z0 : n0 ≤ h0.size) (E_aa0 : Exa Z h0 aa0 "com/example/tallyhouse/tallyhouse/settle/QueuedTrades") (g_aa0 : n0 ≤ aa0) (F_aa0_trades : Fld Z h0 aa0 "com/example/tallyhouse/tallyhouse/settle/QueuedTrades" "trades" "[J" ut) (F_aa0_size : Fld Z h0 aa0 "com/example/tallyhouse/tallyhouse/settle/QueuedTrades" "size" "I" (.int (0 : Int32))) :
    MetFree l (⟨"com/example/tallyhouse/tallyhouse/settle/QueuedTrades", "<init>", "()V"⟩ : MethodName) (head1 (Jvm.Cond.code (⟨"com/example/tallyhouse/tallyhouse/settle/QueuedTrades", "<init>", "()V"⟩ : MethodName) prog_38_method_1_code 1 none :: ws) ({ frames := 1, cells := 1, slots := 112, locals := 12 } : Room)) (fun a U => a = #[(.ref aa0)] ∧ Z.Warmed39 U.vm ∧ U.heap = h0) (fun _ _ _ _ _ => True) (fun _ U o U' => ∃ v L, o = .returned v ∧ Q1 Z aa0 ut h0 n0 v U'.heap L ∧ FrameEnd U o U' L ({ frames := 1, cells := 1, slots := 112, locals := 12 } : Room).cells ({ frames := 1, cells := 1, slots := 112, locals := 12 } : Room).slots) := by
  refine MetFree.of_bodySF (plainFor_of_name pn_com_example_tallyhouse_tallyhouse_settle_QueuedTrades) hisR ?_
  intro p e s m args below meth c s₁ Bd hml0 hP hK
  obtain ⟨rfl, hZ, hh⟩ := hP
  have hx := Bd.exec
  have hby := Bd.bytes
  have hml : c.maxLocals = 1 := hml0
  have hown : s.vm.findClass "com/example/tallyhouse/tallyhouse/settle/QueuedTrades" = some m.cls := findClass_of_methodNamed Bd.named
  have hnm := (name_of_methodNamed Bd.named Bd.method).1
  have X0 : Stand p l e ({ frames := 1, cells := 1, slots := 112, locals := 12 } : Room) s m #[(.ref aa0)] below meth c s₁ [] 0 0 := Stand.of_body Bd
  have e0 : s₁.heap = h0 := by rw [← hh, Bd.state]; rfl
  have N0 := Fr.nil n0
  have pre0 : ∀ t, Steps p.tables e below (s₁.setTop (mkF m 0 #[.val (.ref aa0)] [])) t → Steps p.tables e below (s₁.setTop (entryFrame m #[(.ref aa0)] 1)) t := fun t k => castTop (ef_1 m aa0) k
  obtain ⟨T1, X1, e1, st1⟩ := initO X0 hx hZ hown (hw _ (List.mem_of_getElem? (i := 6) rfl)) (hw _ (List.mem_of_getElem? (i := 7) rfl)) (hw _ (List.mem_of_getElem? (i := 8) rfl)) e0 (g := (mkF m 1 #[.val (.ref aa0)] [(.ref aa0)])) rfl (by rw [hml]; rfl) rfl (hb hby d1_1) (by decide) (W := 0) (by show 2 * 0 + _ ≤ _; exact Nat.le_of_eq rfl) (by decide)
  obtain ⟨T2, h2, k2, X2, e2, E2, A2, st2⟩ := newP X1 hx hZ (hw _ (List.mem_of_getElem? (i := 9) rfl)) e1 (g := (mkF m 7 #[.val (.ref aa0)] [(.int (112 : Int32)), (.ref aa0)])) rfl (hb hby d1_7) rfl (by decide) (cap := 112) (by decide) (by decide) (by decide) (by decide)
  obtain ⟨b2, g2⟩ : ∃ z, z = h0.size := ⟨_, rfl⟩
  rw [← g2] at A2 st2
  have g_b2 : n0 ≤ b2 := Nat.le_trans Z0 (Nat.le_of_eq g2.symm)
  have sz_b2 : h0.size ≤ b2 := Nat.le_trans (Keep.refl h0 [aa0]).1 (Nat.le_of_eq g2.symm)
  have Z2 : n0 ≤ h2.size := Nat.le_trans Z0 E2.1
  have K2 : Keep h0 h2 [aa0] := (Keep.refl h0 [aa0]).ext E2
  have V2 : Arv Z h2 b2 k2 .long (112 : Int32) (List.replicate 112 (.long (0 : Int64))) (.long (0 : Int64)) := (Arv.new A2 (by decide)).pad (pad_rep [] (.long (0 : Int64)) 112)
  have E_3 : Exa Z h2 aa0 "com/example/tallyhouse/tallyhouse/settle/QueuedTrades" := (E_aa0.ext E2)
  have F_4 : Fld Z h2 aa0 "com/example/tallyhouse/tallyhouse/settle/QueuedTrades" "trades" "[J" ut := (F_aa0_trades.ext E2)
  obtain ⟨T5, h5, X5, e5, W5, st5⟩ := putF X2 hx hZ hown (host := "") (Or.inl (hw _ (List.mem_of_getElem? (i := 10) rfl))) Via.refl e2 F_4 E_3 (Or.inl (hw _ (List.mem_of_getElem? (i := 11) rfl))) (hw _ (List.mem_of_getElem? (i := 1) rfl)) (ty := (.array .long)) (by decide) rfl rfl (g := (mkF m 9 #[.val (.ref aa0)] [(.ref b2), (.ref aa0)])) rfl rfl (hb hby d1_9)
  have N5 := Fr.snoc X5 N0 g_aa0
  have Z5 : n0 ≤ h5.size := Nat.le_trans Z2 (Keep.of_wr W5).1
  have K5 : Keep h0 h5 [aa0] := K2.wr W5 (Or.inl (List.mem_of_getElem? (i := 0) rfl))
  have F5 : Fld Z h5 aa0 "com/example/tallyhouse/tallyhouse/settle/QueuedTrades" "trades" "[J" (.ref b2) := F_4.same W5
  have V_6 : Arv Z h5 b2 k2 .long (112 : Int32) (List.replicate 112 (.long (0 : Int64))) (.long (0 : Int64)) := (V2.other W5 (Ne.symm (Nat.ne_of_lt (Nat.lt_of_lt_of_le E_aa0.lt (Nat.le_of_eq g2.symm)))))
  have F_7 : Fld Z h5 aa0 "com/example/tallyhouse/tallyhouse/settle/QueuedTrades" "size" "I" (.int (0 : Int32)) := ((F_aa0_size.ext E2).other W5 (Or.inr (slot_ne (Or.inl (hw _ (List.mem_of_getElem? (i := 18) rfl))) (Or.inl (hw _ (List.mem_of_getElem? (i := 11) rfl))) (by decide) (t := .int) (t' := (.array .long)) (by decide) (by decide))))
  obtain ⟨fs, hr, hrun, hended, hW, hsame⟩ := X5.leave (v := none) (fun _ => rfl)
  refine ⟨_, _, pre0 _ ?_, hrun, hended, _, _, rfl, ?_, ⟨_, rfl⟩, hW, hsame.mono (by decide) (by decide)⟩
  · show Steps p.tables e below (s₁.setTop (mkF m 0 #[.val (.ref aa0)] [])) _
    refine XS.aloadN X0.here hx rfl (hb hby d1_0) rfl rfl ?_
    show Steps p.tables e below (s₁.setTop (mkF m 1 #[.val (.ref aa0)] [(.ref aa0)])) _
    refine st1 _ ?_
    show Steps p.tables e below (T1.setTop (mkF m 4 #[.val (.ref aa0)] [])) _
    refine XS.aloadN X1.here hx rfl (hb hby d1_4) rfl rfl ?_
    show Steps p.tables e below (T1.setTop (mkF m 5 #[.val (.ref aa0)] [(.ref aa0)])) _
    refine XS.bipush X1.here hx rfl (hb hby d1_5) ?_
    show Steps p.tables e below (T1.setTop (mkF m 7 #[.val (.ref aa0)] [(.int (112 : Int32)), (.ref aa0)])) _
    refine st2 _ ?_
    show Steps p.tables e below (T2.setTop (mkF m 9 #[.val (.ref aa0)] [(.ref b2), (.ref aa0)])) _
    refine st5 _ ?_
    show Steps p.tables e below (T5.setTop (mkF m 12 #[.val (.ref aa0)] [])) _
    exact X5.returnOut hx Bd.returns (hb hby d1_12) hr
  · show Q1 Z aa0 ut h0 n0 _ T5.heap _
    rw [e5]
    exact ⟨b2, k2, (List.replicate 112 (.long (0 : Int64))), rfl, N5, K5, g_b2, sz_b2, F5, V_6, F_7, List.length_replicate ..⟩
theorem d3_0 : decode prog_38_method_2_code 0 = .ok (.aload_n 0, 1) := by decide +kernel
theorem d3_1 : decode prog_38_method_2_code 1 = .ok (.getfield 15, 3) := by decide +kernel
theorem d3_4 : decode prog_38_method_2_code 4 = .ok (.iconst 1, 1) := by decide +kernel
theorem d3_5 : decode prog_38_method_2_code 5 = .ok (.iadd, 1) := by decide +kernel
theorem d3_6 : decode prog_38_method_2_code 6 = .ok (.bipush 7, 2) := by decide +kernel
theorem d3_8 : decode prog_38_method_2_code 8 = .ok (.imul, 1) := by decide +kernel
theorem d3_9 : decode prog_38_method_2_code 9 = .ok (.aload_n 0, 1) := by decide +kernel
theorem d3_10 : decode prog_38_method_2_code 10 = .ok (.getfield 11, 3) := by decide +kernel
theorem d3_13 : decode prog_38_method_2_code 13 = .ok (.arraylength, 1) := by decide +kernel
theorem d3_14 : decode prog_38_method_2_code 14 = .ok (.if_icmp .le 21, 3) := by decide +kernel
theorem d3_35 : decode prog_38_method_2_code 35 = .ok (.aload_n 0, 1) := by decide +kernel
theorem d3_36 : decode prog_38_method_2_code 36 = .ok (.dup, 1) := by decide +kernel
theorem d3_37 : decode prog_38_method_2_code 37 = .ok (.getfield 15, 3) := by decide +kernel
theorem d3_40 : decode prog_38_method_2_code 40 = .ok (.dup_x1, 1) := by decide +kernel
theorem d3_41 : decode prog_38_method_2_code 41 = .ok (.iconst 1, 1) := by decide +kernel
theorem d3_42 : decode prog_38_method_2_code 42 = .ok (.iadd, 1) := by decide +kernel
theorem d3_43 : decode prog_38_method_2_code 43 = .ok (.putfield 15, 3) := by decide +kernel
theorem d3_46 : decode prog_38_method_2_code 46 = .ok (.bipush 7, 2) := by decide +kernel
theorem d3_48 : decode prog_38_method_2_code 48 = .ok (.imul, 1) := by decide +kernel
theorem d3_49 : decode prog_38_method_2_code 49 = .ok (.istore 16, 2) := by decide +kernel
theorem d3_51 : decode prog_38_method_2_code 51 = .ok (.aload_n 0, 1) := by decide +kernel
theorem d3_52 : decode prog_38_method_2_code 52 = .ok (.getfield 11, 3) := by decide +kernel
theorem d3_55 : decode prog_38_method_2_code 55 = .ok (.iload 16, 2) := by decide +kernel
theorem d3_57 : decode prog_38_method_2_code 57 = .ok (.iconst 0, 1) := by decide +kernel
theorem d3_58 : decode prog_38_method_2_code 58 = .ok (.iadd, 1) := by decide +kernel
theorem d3_59 : decode prog_38_method_2_code 59 = .ok (.iload_n 1, 1) := by decide +kernel
theorem d3_60 : decode prog_38_method_2_code 60 = .ok (.i2l, 1) := by decide +kernel
theorem d3_61 : decode prog_38_method_2_code 61 = .ok (.bipush 32, 2) := by decide +kernel
theorem d3_63 : decode prog_38_method_2_code 63 = .ok (.lshl, 1) := by decide +kernel
theorem d3_64 : decode prog_38_method_2_code 64 = .ok (.iload_n 2, 1) := by decide +kernel
theorem d3_65 : decode prog_38_method_2_code 65 = .ok (.i2l, 1) := by decide +kernel
theorem d3_66 : decode prog_38_method_2_code 66 = .ok (.ldc2_w 27, 3) := by decide +kernel
theorem d3_69 : decode prog_38_method_2_code 69 = .ok (.land, 1) := by decide +kernel
theorem d3_70 : decode prog_38_method_2_code 70 = .ok (.lor, 1) := by decide +kernel
theorem d3_71 : decode prog_38_method_2_code 71 = .ok (.lastore, 1) := by decide +kernel
theorem d3_72 : decode prog_38_method_2_code 72 = .ok (.aload_n 0, 1) := by decide +kernel
theorem d3_73 : decode prog_38_method_2_code 73 = .ok (.getfield 11, 3) := by decide +kernel
theorem d3_76 : decode prog_38_method_2_code 76 = .ok (.iload 16, 2) := by decide +kernel
theorem d3_78 : decode prog_38_method_2_code 78 = .ok (.iconst 1, 1) := by decide +kernel
theorem d3_79 : decode prog_38_method_2_code 79 = .ok (.iadd, 1) := by decide +kernel
theorem d3_80 : decode prog_38_method_2_code 80 = .ok (.iload_n 3, 1) := by decide +kernel
theorem d3_81 : decode prog_38_method_2_code 81 = .ok (.i2l, 1) := by decide +kernel
theorem d3_82 : decode prog_38_method_2_code 82 = .ok (.bipush 32, 2) := by decide +kernel
theorem d3_84 : decode prog_38_method_2_code 84 = .ok (.lshl, 1) := by decide +kernel
theorem d3_85 : decode prog_38_method_2_code 85 = .ok (.iload 4, 2) := by decide +kernel
theorem d3_87 : decode prog_38_method_2_code 87 = .ok (.i2l, 1) := by decide +kernel
theorem d3_88 : decode prog_38_method_2_code 88 = .ok (.ldc2_w 27, 3) := by decide +kernel
theorem d3_91 : decode prog_38_method_2_code 91 = .ok (.land, 1) := by decide +kernel
theorem d3_92 : decode prog_38_method_2_code 92 = .ok (.lor, 1) := by decide +kernel
theorem d3_93 : decode prog_38_method_2_code 93 = .ok (.lastore, 1) := by decide +kernel
theorem d3_94 : decode prog_38_method_2_code 94 = .ok (.aload_n 0, 1) := by decide +kernel
theorem d3_95 : decode prog_38_method_2_code 95 = .ok (.getfield 11, 3) := by decide +kernel
theorem d3_98 : decode prog_38_method_2_code 98 = .ok (.iload 16, 2) := by decide +kernel
theorem d3_100 : decode prog_38_method_2_code 100 = .ok (.iconst 2, 1) := by decide +kernel
theorem d3_101 : decode prog_38_method_2_code 101 = .ok (.iadd, 1) := by decide +kernel
theorem d3_102 : decode prog_38_method_2_code 102 = .ok (.lload 5, 2) := by decide +kernel
theorem d3_104 : decode prog_38_method_2_code 104 = .ok (.lastore, 1) := by decide +kernel
theorem d3_105 : decode prog_38_method_2_code 105 = .ok (.aload_n 0, 1) := by decide +kernel
theorem d3_106 : decode prog_38_method_2_code 106 = .ok (.getfield 11, 3) := by decide +kernel
theorem d3_109 : decode prog_38_method_2_code 109 = .ok (.iload 16, 2) := by decide +kernel
theorem d3_111 : decode prog_38_method_2_code 111 = .ok (.iconst 3, 1) := by decide +kernel
theorem d3_112 : decode prog_38_method_2_code 112 = .ok (.iadd, 1) := by decide +kernel
theorem d3_113 : decode prog_38_method_2_code 113 = .ok (.iload 7, 2) := by decide +kernel
theorem d3_115 : decode prog_38_method_2_code 115 = .ok (.i2l, 1) := by decide +kernel
theorem d3_116 : decode prog_38_method_2_code 116 = .ok (.bipush 40, 2) := by decide +kernel
theorem d3_118 : decode prog_38_method_2_code 118 = .ok (.lshl, 1) := by decide +kernel
theorem d3_119 : decode prog_38_method_2_code 119 = .ok (.lload 8, 2) := by decide +kernel
theorem d3_121 : decode prog_38_method_2_code 121 = .ok (.lor, 1) := by decide +kernel
theorem d3_122 : decode prog_38_method_2_code 122 = .ok (.lastore, 1) := by decide +kernel
theorem d3_123 : decode prog_38_method_2_code 123 = .ok (.aload_n 0, 1) := by decide +kernel
theorem d3_124 : decode prog_38_method_2_code 124 = .ok (.getfield 11, 3) := by decide +kernel
theorem d3_127 : decode prog_38_method_2_code 127 = .ok (.iload 16, 2) := by decide +kernel
theorem d3_129 : decode prog_38_method_2_code 129 = .ok (.iconst 4, 1) := by decide +kernel
theorem d3_130 : decode prog_38_method_2_code 130 = .ok (.iadd, 1) := by decide +kernel
theorem d3_131 : decode prog_38_method_2_code 131 = .ok (.iload 10, 2) := by decide +kernel
theorem d3_133 : decode prog_38_method_2_code 133 = .ok (.i2l, 1) := by decide +kernel
theorem d3_134 : decode prog_38_method_2_code 134 = .ok (.bipush 32, 2) := by decide +kernel
theorem d3_136 : decode prog_38_method_2_code 136 = .ok (.lshl, 1) := by decide +kernel
theorem d3_137 : decode prog_38_method_2_code 137 = .ok (.iload 15, 2) := by decide +kernel
theorem d3_139 : decode prog_38_method_2_code 139 = .ok (.i2l, 1) := by decide +kernel
theorem d3_140 : decode prog_38_method_2_code 140 = .ok (.lor, 1) := by decide +kernel
theorem d3_141 : decode prog_38_method_2_code 141 = .ok (.lastore, 1) := by decide +kernel
theorem d3_142 : decode prog_38_method_2_code 142 = .ok (.aload_n 0, 1) := by decide +kernel
theorem d3_143 : decode prog_38_method_2_code 143 = .ok (.getfield 11, 3) := by decide +kernel
theorem d3_146 : decode prog_38_method_2_code 146 = .ok (.iload 16, 2) := by decide +kernel
theorem d3_148 : decode prog_38_method_2_code 148 = .ok (.iconst 5, 1) := by decide +kernel
theorem d3_149 : decode prog_38_method_2_code 149 = .ok (.iadd, 1) := by decide +kernel
theorem d3_150 : decode prog_38_method_2_code 150 = .ok (.lload 11, 2) := by decide +kernel
theorem d3_152 : decode prog_38_method_2_code 152 = .ok (.lastore, 1) := by decide +kernel
theorem d3_153 : decode prog_38_method_2_code 153 = .ok (.aload_n 0, 1) := by decide +kernel
theorem d3_154 : decode prog_38_method_2_code 154 = .ok (.getfield 11, 3) := by decide +kernel
theorem d3_157 : decode prog_38_method_2_code 157 = .ok (.iload 16, 2) := by decide +kernel
theorem d3_159 : decode prog_38_method_2_code 159 = .ok (.iconst 5, 1) := by decide +kernel
theorem d3_160 : decode prog_38_method_2_code 160 = .ok (.iadd, 1) := by decide +kernel
theorem d3_161 : decode prog_38_method_2_code 161 = .ok (.iconst 1, 1) := by decide +kernel
theorem d3_162 : decode prog_38_method_2_code 162 = .ok (.iadd, 1) := by decide +kernel
theorem d3_163 : decode prog_38_method_2_code 163 = .ok (.lload 13, 2) := by decide +kernel
theorem d3_165 : decode prog_38_method_2_code 165 = .ok (.lastore, 1) := by decide +kernel
theorem d3_166 : decode prog_38_method_2_code 166 = .ok (.return_, 1) := by decide +kernel
theorem ef_3_0 (m : MethodId) (x0 : Addr) (x1 : Int32) (x2 : Int32) (x3 : Int32) (x4 : Int32) (x5 : Int64) (x6 : Int32) (x7 : Int64) (x8 : Int32) (x9 : Int64) (x10 : Int64) (x11 : Int32) : entryFrame m #[(.ref x0), (.int x1), (.int x2), (.int x3), (.int x4), (.long x5), (.int x6), (.long x7), (.int x8), (.long x9), (.long x10), (.int x11)] 17 = mkF m 0 #[.val (.ref x0), .val (.int x1), .val (.int x2), .val (.int x3), .val (.int x4), .val (.long x5), .second, .val (.int x6), .val (.long x7), .second, .val (.int x8), .val (.long x9), .second, .val (.long x10), .second, .val (.int x11), .unset] [] := by first | (simp [entryFrame, mkF, argsToLocals, Value.category]; done) | rfl
def Q3_0 (Z : State) (aa0 : Addr) (pp1 : Int32) (pp2 : Int32) (pp3 : Int32) (pp4 : Int32) (qq5 : Int64) (pp6 : Int32) (qq7 : Int64) (pp8 : Int32) (qq9 : Int64) (qq10 : Int64) (pp11 : Int32) (bx : Addr) (kx : ClassId) (vx : List Value) (h0 : Heap) (n0 : Nat) (v : Option Value) (h : Heap) (L : List Loc) : Prop := ∃ (vy : List Value), v = none ∧ Fr n0 L ∧ Keep h0 h [aa0, bx] ∧ (Fld Z h aa0 "com/example/tallyhouse/tallyhouse/settle/QueuedTrades" "trades" "[J" (.ref bx)) ∧ (Arv Z h bx kx .long (112 : Int32) vy (.long (0 : Int64))) ∧ (Fld Z h aa0 "com/example/tallyhouse/tallyhouse/settle/QueuedTrades" "size" "I" (.int (1 : Int32))) ∧ (vy.length = 112) ∧ (vy.getD 1 (.long (0 : Int64)) = .long ((pp3.toInt64 <<< ((32 : Int32) &&& 0x3f).toInt64) ||| (pp4.toInt64 &&& (4294967295 : Int64))))
set_option maxRecDepth 65536 in
set_option maxHeartbeats 40000000 in
theorem rm3_0 (l : Launch) (Z : State) (a0 : Array Value) (hw : ∀ d ∈ tables_1, d.before a0 Z = true) (ws : List Jvm.Cond) (aa0 : Addr) (pp1 : Int32) (pp2 : Int32) (pp3 : Int32) (pp4 : Int32) (qq5 : Int64) (pp6 : Int32) (qq7 : Int64) (pp8 : Int32) (qq9 : Int64) (qq10 : Int64) (pp11 : Int32) (bx : Addr) (kx : ClassId) (vx : List Value) (h0 : Heap) (n0 : Nat) (Z0 : n0 ≤ h0.size) (E_aa0 : Exa Z h0 aa0 "com/example/tallyhouse/tallyhouse/settle/QueuedTrades") (g_aa0 : n0 ≤ aa0) (g_bx : n0 ≤ bx) (ne_aa0_bx : aa0 ≠ bx) (F_aa0_trades : Fld Z h0 aa0 "com/example/tallyhouse/tallyhouse/settle/QueuedTrades" "trades" "[J" (.ref bx)) (V_bx : Arv Z h0 bx kx .long (112 : Int32) vx (.long (0 : Int64))) (F_aa0_size : Fld Z h0 aa0 "com/example/tallyhouse/tallyhouse/settle/QueuedTrades" "size" "I" (.int (0 : Int32))) (hl : vx.length = 112) :
    MetFree l (⟨"com/example/tallyhouse/tallyhouse/settle/QueuedTrades", "add", "(IIIIJIJIJJI)V"⟩ : MethodName) (head1 (Jvm.Cond.code (⟨"com/example/tallyhouse/tallyhouse/settle/QueuedTrades", "add", "(IIIIJIJIJJI)V"⟩ : MethodName) prog_38_method_2_code 17 none :: ws) ({ frames := 0, cells := 0, slots := 0, locals := 0 } : Room)) (fun a U => a = #[(.ref aa0), (.int pp1), (.int pp2), (.int pp3), (.int pp4), (.long qq5), (.int pp6), (.long qq7), (.int pp8), (.long qq9), (.long qq10), (.int pp11)] ∧ Z.Warmed39 U.vm ∧ U.heap = h0) (fun _ _ _ _ _ => True) (fun _ U o U' => ∃ v L, o = .returned v ∧ Q3_0 Z aa0 pp1 pp2 pp3 pp4 qq5 pp6 qq7 pp8 qq9 qq10 pp11 bx kx vx h0 n0 v U'.heap L ∧ FrameEnd U o U' L ({ frames := 0, cells := 0, slots := 0, locals := 0 } : Room).cells ({ frames := 0, cells := 0, slots := 0, locals := 0 } : Room).slots) := by
  refine MetFree.of_bodySF (plainFor_of_name pn_com_example_tallyhouse_tallyhouse_settle_QueuedTrades) hisR ?_
  intro p e s m args below meth c s₁ Bd hml0 hP hK
  obtain ⟨rfl, hZ, hh⟩ := hP
  have hx := Bd.exec
  have hby := Bd.bytes
  have hml : c.maxLocals = 17 := hml0
  have hown : s.vm.findClass "com/example/tallyhouse/tallyhouse/settle/QueuedTrades" = some m.cls := findClass_of_methodNamed Bd.named
  have hnm := (name_of_methodNamed Bd.named Bd.method).1
  have X0 : Stand p l e ({ frames := 0, cells := 0, slots := 0, locals := 0 } : Room) s m #[(.ref aa0), (.int pp1), (.int pp2), (.int pp3), (.int pp4), (.long qq5), (.int pp6), (.long qq7), (.int pp8), (.long qq9), (.long qq10), (.int pp11)] below meth c s₁ [] 0 0 := Stand.of_body Bd
  have e0 : s₁.heap = h0 := by rw [← hh, Bd.state]; rfl
  have N0 := Fr.nil n0
  have pre0 : ∀ t, Steps p.tables e below (s₁.setTop (mkF m 0 #[.val (.ref aa0), .val (.int pp1), .val (.int pp2), .val (.int pp3), .val (.int pp4), .val (.long qq5), .second, .val (.int pp6), .val (.long qq7), .second, .val (.int pp8), .val (.long qq9), .second, .val (.long qq10), .second, .val (.int pp11), .unset] [])) t → Steps p.tables e below (s₁.setTop (entryFrame m #[(.ref aa0), (.int pp1), (.int pp2), (.int pp3), (.int pp4), (.long qq5), (.int pp6), (.long qq7), (.int pp8), (.long qq9), (.long qq10), (.int pp11)] 17)) t := fun t k => castTop (ef_3_0 m aa0 pp1 pp2 pp3 pp4 qq5 pp6 qq7 pp8 qq9 qq10 pp11) k
  obtain ⟨T1, X1, e1, st1⟩ := getF X0 hx hZ hown (host := "") (Or.inl (hw _ (List.mem_of_getElem? (i := 17) rfl))) Via.refl e0 F_aa0_size (g := (mkF m 1 #[.val (.ref aa0), .val (.int pp1), .val (.int pp2), .val (.int pp3), .val (.int pp4), .val (.long qq5), .second, .val (.int pp6), .val (.long qq7), .second, .val (.int pp8), .val (.long qq9), .second, .val (.long qq10), .second, .val (.int pp11), .unset] [(.ref aa0)])) rfl rfl (hb hby d3_1)
  obtain ⟨T2, X2, e2, st2⟩ := getF X1 hx hZ hown (host := "") (Or.inl (hw _ (List.mem_of_getElem? (i := 10) rfl))) Via.refl e1 F_aa0_trades (g := (mkF m 10 #[.val (.ref aa0), .val (.int pp1), .val (.int pp2), .val (.int pp3), .val (.int pp4), .val (.long qq5), .second, .val (.int pp6), .val (.long qq7), .second, .val (.int pp8), .val (.long qq9), .second, .val (.long qq10), .second, .val (.int pp11), .unset] [(.ref aa0), (.int (7 : Int32))])) rfl rfl (hb hby d3_10)
  obtain ⟨cl_3, Ar_3, -, Sz_3, Nn_3, -, -⟩ := id V_bx
  have hc14 : ¬ ((112 : Int32) < (7 : Int32)) := by decide
  obtain ⟨T4, X4, e4, st4⟩ := getF X2 hx hZ hown (host := "") (Or.inl (hw _ (List.mem_of_getElem? (i := 17) rfl))) Via.refl e2 F_aa0_size (g := (mkF m 37 #[.val (.ref aa0), .val (.int pp1), .val (.int pp2), .val (.int pp3), .val (.int pp4), .val (.long qq5), .second, .val (.int pp6), .val (.long qq7), .second, .val (.int pp8), .val (.long qq9), .second, .val (.long qq10), .second, .val (.int pp11), .unset] [(.ref aa0), (.ref aa0)])) rfl rfl (hb hby d3_37)
  obtain ⟨T5, h5, X5, e5, W5, st5⟩ := putF X4 hx hZ hown (host := "") (Or.inl (hw _ (List.mem_of_getElem? (i := 17) rfl))) Via.refl e4 F_aa0_size E_aa0 (Or.inl (hw _ (List.mem_of_getElem? (i := 18) rfl))) (hw _ (List.mem_of_getElem? (i := 1) rfl)) (ty := .int) (by decide) rfl rfl (g := (mkF m 43 #[.val (.ref aa0), .val (.int pp1), .val (.int pp2), .val (.int pp3), .val (.int pp4), .val (.long qq5), .second, .val (.int pp6), .val (.long qq7), .second, .val (.int pp8), .val (.long qq9), .second, .val (.long qq10), .second, .val (.int pp11), .unset] [(.int (1 : Int32)), (.ref aa0), (.int (0 : Int32))])) rfl rfl (hb hby d3_43)
  have N5 := Fr.snoc X5 N0 g_aa0
  have Z5 : n0 ≤ h5.size := Nat.le_trans Z0 (Keep.of_wr W5).1
  have K5 : Keep h0 h5 [aa0, bx] := (Keep.refl h0 [aa0, bx]).wr W5 (Or.inl (List.mem_of_getElem? (i := 0) rfl))
  have F5 : Fld Z h5 aa0 "com/example/tallyhouse/tallyhouse/settle/QueuedTrades" "size" "I" (.int (1 : Int32)) := F_aa0_size.same W5
  have F_6 : Fld Z h5 aa0 "com/example/tallyhouse/tallyhouse/settle/QueuedTrades" "trades" "[J" (.ref bx) := (F_aa0_trades.other W5 (Or.inr (slot_ne (Or.inl (hw _ (List.mem_of_getElem? (i := 11) rfl))) (Or.inl (hw _ (List.mem_of_getElem? (i := 18) rfl))) (by decide) (t := (.array .long)) (t' := .int) (by decide) (by decide))))
  obtain ⟨T7, X7, e7, st7⟩ := getF X5 hx hZ hown (host := "") (Or.inl (hw _ (List.mem_of_getElem? (i := 10) rfl))) Via.refl e5 F_6 (g := (mkF m 52 #[.val (.ref aa0), .val (.int pp1), .val (.int pp2), .val (.int pp3), .val (.int pp4), .val (.long qq5), .second, .val (.int pp6), .val (.long qq7), .second, .val (.int pp8), .val (.long qq9), .second, .val (.long qq10), .second, .val (.int pp11), .val (.int (0 : Int32))] [(.ref aa0)])) rfl rfl (hb hby d3_52)
  have V_8 : Arv Z h5 bx kx .long (112 : Int32) vx (.long (0 : Int64)) := (V_bx.other W5 (Ne.symm ne_aa0_bx))
  obtain ⟨cl_9, Ar_9, qq_9, Sz_9, Nn_9, Hh_9, Gg_9⟩ := id V_8
  have hin_9 : ¬ ((0 : Int32) < 0 ∨ cl_9.slots.size ≤ ((0 : Int32)).toNatClampNeg) := inb_of Sz_9 ⟨by decide, by decide⟩
  obtain ⟨T10, h10, X10, e10, W10, st10⟩ := stJ X7 hx hZ e7 Ar_9 (j := (0 : Int32)) hin_9 (g := (mkF m 71 #[.val (.ref aa0), .val (.int pp1), .val (.int pp2), .val (.int pp3), .val (.int pp4), .val (.long qq5), .second, .val (.int pp6), .val (.long qq7), .second, .val (.int pp8), .val (.long qq9), .second, .val (.long qq10), .second, .val (.int pp11), .val (.int (0 : Int32))] [(.long (((pp1.toInt64) <<< ((32 : Int32) &&& 0x3f).toInt64) ||| ((pp2.toInt64) &&& (4294967295 : Int64)))), (.int (0 : Int32)), (.ref bx)])) rfl rfl (hb hby d3_71)
  have N10 := Fr.snoc X10 N5 g_bx
  have Z10 : n0 ≤ h10.size := Nat.le_trans Z5 (Keep.of_wr W10).1
  have K10 : Keep h0 h10 [aa0, bx] := K5.wr W10 (Or.inl (List.mem_of_getElem? (i := 1) rfl))
  have V10 : Arv Z h10 bx kx .long (112 : Int32) (List.set vx 0 (.long (((pp1.toInt64) <<< ((32 : Int32) &&& 0x3f).toInt64) ||| ((pp2.toInt64) &&& (4294967295 : Int64))))) (.long (0 : Int64)) := Arv.set Ar_9 qq_9 Sz_9 Nn_9 Hh_9 Gg_9 rfl W10 0 rfl (by first | omega | (simp only [List.length_set]; omega) | (simp only [List.length_set, List.length_replicate]; omega))
  have F_11 : Fld Z h10 aa0 "com/example/tallyhouse/tallyhouse/settle/QueuedTrades" "trades" "[J" (.ref bx) := (F_6.other W10 (Or.inl ne_aa0_bx))
  obtain ⟨T12, X12, e12, st12⟩ := getF X10 hx hZ hown (host := "") (Or.inl (hw _ (List.mem_of_getElem? (i := 10) rfl))) Via.refl e10 F_11 (g := (mkF m 73 #[.val (.ref aa0), .val (.int pp1), .val (.int pp2), .val (.int pp3), .val (.int pp4), .val (.long qq5), .second, .val (.int pp6), .val (.long qq7), .second, .val (.int pp8), .val (.long qq9), .second, .val (.long qq10), .second, .val (.int pp11), .val (.int (0 : Int32))] [(.ref aa0)])) rfl rfl (hb hby d3_73)
  obtain ⟨cl_13, Ar_13, qq_13, Sz_13, Nn_13, Hh_13, Gg_13⟩ := id V10
  have hin_13 : ¬ ((1 : Int32) < 0 ∨ cl_13.slots.size ≤ ((1 : Int32)).toNatClampNeg) := inb_of Sz_13 ⟨by decide, by decide⟩
  obtain ⟨T14, h14, X14, e14, W14, st14⟩ := stJ X12 hx hZ e12 Ar_13 (j := (1 : Int32)) hin_13 (g := (mkF m 93 #[.val (.ref aa0), .val (.int pp1), .val (.int pp2), .val (.int pp3), .val (.int pp4), .val (.long qq5), .second, .val (.int pp6), .val (.long qq7), .second, .val (.int pp8), .val (.long qq9), .second, .val (.long qq10), .second, .val (.int pp11), .val (.int (0 : Int32))] [(.long (((pp3.toInt64) <<< ((32 : Int32) &&& 0x3f).toInt64) ||| ((pp4.toInt64) &&& (4294967295 : Int64)))), (.int (1 : Int32)), (.ref bx)])) rfl rfl (hb hby d3_93)
  have N14 := Fr.snoc X14 N10 g_bx
  have Z14 : n0 ≤ h14.size := Nat.le_trans Z10 (Keep.of_wr W14).1
  have K14 : Keep h0 h14 [aa0, bx] := K10.wr W14 (Or.inl (List.mem_of_getElem? (i := 1) rfl))
  have V14 : Arv Z h14 bx kx .long (112 : Int32) (List.set (List.set vx 0 (.long (((pp1.toInt64) <<< ((32 : Int32) &&& 0x3f).toInt64) ||| ((pp2.toInt64) &&& (4294967295 : Int64))))) 1 (.long (((pp3.toInt64) <<< ((32 : Int32) &&& 0x3f).toInt64) ||| ((pp4.toInt64) &&& (4294967295 : Int64))))) (.long (0 : Int64)) := Arv.set Ar_13 qq_13 Sz_13 Nn_13 Hh_13 Gg_13 rfl W14 1 rfl (by first | omega | (simp only [List.length_set]; omega) | (simp only [List.length_set, List.length_replicate]; omega))
  have F_15 : Fld Z h14 aa0 "com/example/tallyhouse/tallyhouse/settle/QueuedTrades" "trades" "[J" (.ref bx) := (F_11.other W14 (Or.inl ne_aa0_bx))
  obtain ⟨T16, X16, e16, st16⟩ := getF X14 hx hZ hown (host := "") (Or.inl (hw _ (List.mem_of_getElem? (i := 10) rfl))) Via.refl e14 F_15 (g := (mkF m 95 #[.val (.ref aa0), .val (.int pp1), .val (.int pp2), .val (.int pp3), .val (.int pp4), .val (.long qq5), .second, .val (.int pp6), .val (.long qq7), .second, .val (.int pp8), .val (.long qq9), .second, .val (.long qq10), .second, .val (.int pp11), .val (.int (0 : Int32))] [(.ref aa0)])) rfl rfl (hb hby d3_95)
  obtain ⟨cl_17, Ar_17, qq_17, Sz_17, Nn_17, Hh_17, Gg_17⟩ := id V14
  have hin_17 : ¬ ((2 : Int32) < 0 ∨ cl_17.slots.size ≤ ((2 : Int32)).toNatClampNeg) := inb_of Sz_17 ⟨by decide, by decide⟩
  obtain ⟨T18, h18, X18, e18, W18, st18⟩ := stJ X16 hx hZ e16 Ar_17 (j := (2 : Int32)) hin_17 (g := (mkF m 104 #[.val (.ref aa0), .val (.int pp1), .val (.int pp2), .val (.int pp3), .val (.int pp4), .val (.long qq5), .second, .val (.int pp6), .val (.long qq7), .second, .val (.int pp8), .val (.long qq9), .second, .val (.long qq10), .second, .val (.int pp11), .val (.int (0 : Int32))] [(.long qq5), (.int (2 : Int32)), (.ref bx)])) rfl rfl (hb hby d3_104)
  have N18 := Fr.snoc X18 N14 g_bx
  have Z18 : n0 ≤ h18.size := Nat.le_trans Z14 (Keep.of_wr W18).1
  have K18 : Keep h0 h18 [aa0, bx] := K14.wr W18 (Or.inl (List.mem_of_getElem? (i := 1) rfl))
  have V18 : Arv Z h18 bx kx .long (112 : Int32) (List.set (List.set (List.set vx 0 (.long (((pp1.toInt64) <<< ((32 : Int32) &&& 0x3f).toInt64) ||| ((pp2.toInt64) &&& (4294967295 : Int64))))) 1 (.long (((pp3.toInt64) <<< ((32 : Int32) &&& 0x3f).toInt64) ||| ((pp4.toInt64) &&& (4294967295 : Int64))))) 2 (.long qq5)) (.long (0 : Int64)) := Arv.set Ar_17 qq_17 Sz_17 Nn_17 Hh_17 Gg_17 rfl W18 2 rfl (by first | omega | (simp only [List.length_set]; omega) | (simp only [List.length_set, List.length_replicate]; omega))
  have F_19 : Fld Z h18 aa0 "com/example/tallyhouse/tallyhouse/settle/QueuedTrades" "trades" "[J" (.ref bx) := (F_15.other W18 (Or.inl ne_aa0_bx))
  obtain ⟨T20, X20, e20, st20⟩ := getF X18 hx hZ hown (host := "") (Or.inl (hw _ (List.mem_of_getElem? (i := 10) rfl))) Via.refl e18 F_19 (g := (mkF m 106 #[.val (.ref aa0), .val (.int pp1), .val (.int pp2), .val (.int pp3), .val (.int pp4), .val (.long qq5), .second, .val (.int pp6), .val (.long qq7), .second, .val (.int pp8), .val (.long qq9), .second, .val (.long qq10), .second, .val (.int pp11), .val (.int (0 : Int32))] [(.ref aa0)])) rfl rfl (hb hby d3_106)
  obtain ⟨cl_21, Ar_21, qq_21, Sz_21, Nn_21, Hh_21, Gg_21⟩ := id V18
  have hin_21 : ¬ ((3 : Int32) < 0 ∨ cl_21.slots.size ≤ ((3 : Int32)).toNatClampNeg) := inb_of Sz_21 ⟨by decide, by decide⟩
  obtain ⟨T22, h22, X22, e22, W22, st22⟩ := stJ X20 hx hZ e20 Ar_21 (j := (3 : Int32)) hin_21 (g := (mkF m 122 #[.val (.ref aa0), .val (.int pp1), .val (.int pp2), .val (.int pp3), .val (.int pp4), .val (.long qq5), .second, .val (.int pp6), .val (.long qq7), .second, .val (.int pp8), .val (.long qq9), .second, .val (.long qq10), .second, .val (.int pp11), .val (.int (0 : Int32))] [(.long (((pp6.toInt64) <<< ((40 : Int32) &&& 0x3f).toInt64) ||| qq7)), (.int (3 : Int32)), (.ref bx)])) rfl rfl (hb hby d3_122)
  have N22 := Fr.snoc X22 N18 g_bx
  have Z22 : n0 ≤ h22.size := Nat.le_trans Z18 (Keep.of_wr W22).1
  have K22 : Keep h0 h22 [aa0, bx] := K18.wr W22 (Or.inl (List.mem_of_getElem? (i := 1) rfl))
  have V22 : Arv Z h22 bx kx .long (112 : Int32) (List.set (List.set (List.set (List.set vx 0 (.long (((pp1.toInt64) <<< ((32 : Int32) &&& 0x3f).toInt64) ||| ((pp2.toInt64) &&& (4294967295 : Int64))))) 1 (.long (((pp3.toInt64) <<< ((32 : Int32) &&& 0x3f).toInt64) ||| ((pp4.toInt64) &&& (4294967295 : Int64))))) 2 (.long qq5)) 3 (.long (((pp6.toInt64) <<< ((40 : Int32) &&& 0x3f).toInt64) ||| qq7))) (.long (0 : Int64)) := Arv.set Ar_21 qq_21 Sz_21 Nn_21 Hh_21 Gg_21 rfl W22 3 rfl (by first | omega | (simp only [List.length_set]; omega) | (simp only [List.length_set, List.length_replicate]; omega))
  have F_23 : Fld Z h22 aa0 "com/example/tallyhouse/tallyhouse/settle/QueuedTrades" "trades" "[J" (.ref bx) := (F_19.other W22 (Or.inl ne_aa0_bx))
  obtain ⟨T24, X24, e24, st24⟩ := getF X22 hx hZ hown (host := "") (Or.inl (hw _ (List.mem_of_getElem? (i := 10) rfl))) Via.refl e22 F_23 (g := (mkF m 124 #[.val (.ref aa0), .val (.int pp1), .val (.int pp2), .val (.int pp3), .val (.int pp4), .val (.long qq5), .second, .val (.int pp6), .val (.long qq7), .second, .val (.int pp8), .val (.long qq9), .second, .val (.long qq10), .second, .val (.int pp11), .val (.int (0 : Int32))] [(.ref aa0)])) rfl rfl (hb hby d3_124)
  obtain ⟨cl_25, Ar_25, qq_25, Sz_25, Nn_25, Hh_25, Gg_25⟩ := id V22
  have hin_25 : ¬ ((4 : Int32) < 0 ∨ cl_25.slots.size ≤ ((4 : Int32)).toNatClampNeg) := inb_of Sz_25 ⟨by decide, by decide⟩
  obtain ⟨T26, h26, X26, e26, W26, st26⟩ := stJ X24 hx hZ e24 Ar_25 (j := (4 : Int32)) hin_25 (g := (mkF m 141 #[.val (.ref aa0), .val (.int pp1), .val (.int pp2), .val (.int pp3), .val (.int pp4), .val (.long qq5), .second, .val (.int pp6), .val (.long qq7), .second, .val (.int pp8), .val (.long qq9), .second, .val (.long qq10), .second, .val (.int pp11), .val (.int (0 : Int32))] [(.long (((pp8.toInt64) <<< ((32 : Int32) &&& 0x3f).toInt64) ||| (pp11.toInt64))), (.int (4 : Int32)), (.ref bx)])) rfl rfl (hb hby d3_141)
  have N26 := Fr.snoc X26 N22 g_bx
  have Z26 : n0 ≤ h26.size := Nat.le_trans Z22 (Keep.of_wr W26).1
  have K26 : Keep h0 h26 [aa0, bx] := K22.wr W26 (Or.inl (List.mem_of_getElem? (i := 1) rfl))
  have V26 : Arv Z h26 bx kx .long (112 : Int32) (List.set (List.set (List.set (List.set (List.set vx 0 (.long (((pp1.toInt64) <<< ((32 : Int32) &&& 0x3f).toInt64) ||| ((pp2.toInt64) &&& (4294967295 : Int64))))) 1 (.long (((pp3.toInt64) <<< ((32 : Int32) &&& 0x3f).toInt64) ||| ((pp4.toInt64) &&& (4294967295 : Int64))))) 2 (.long qq5)) 3 (.long (((pp6.toInt64) <<< ((40 : Int32) &&& 0x3f).toInt64) ||| qq7))) 4 (.long (((pp8.toInt64) <<< ((32 : Int32) &&& 0x3f).toInt64) ||| (pp11.toInt64)))) (.long (0 : Int64)) := Arv.set Ar_25 qq_25 Sz_25 Nn_25 Hh_25 Gg_25 rfl W26 4 rfl (by first | omega | (simp only [List.length_set]; omega) | (simp only [List.length_set, List.length_replicate]; omega))
  have F_27 : Fld Z h26 aa0 "com/example/tallyhouse/tallyhouse/settle/QueuedTrades" "trades" "[J" (.ref bx) := (F_23.other W26 (Or.inl ne_aa0_bx))
  obtain ⟨T28, X28, e28, st28⟩ := getF X26 hx hZ hown (host := "") (Or.inl (hw _ (List.mem_of_getElem? (i := 10) rfl))) Via.refl e26 F_27 (g := (mkF m 143 #[.val (.ref aa0), .val (.int pp1), .val (.int pp2), .val (.int pp3), .val (.int pp4), .val (.long qq5), .second, .val (.int pp6), .val (.long qq7), .second, .val (.int pp8), .val (.long qq9), .second, .val (.long qq10), .second, .val (.int pp11), .val (.int (0 : Int32))] [(.ref aa0)])) rfl rfl (hb hby d3_143)
  obtain ⟨cl_29, Ar_29, qq_29, Sz_29, Nn_29, Hh_29, Gg_29⟩ := id V26
  have hin_29 : ¬ ((5 : Int32) < 0 ∨ cl_29.slots.size ≤ ((5 : Int32)).toNatClampNeg) := inb_of Sz_29 ⟨by decide, by decide⟩
  obtain ⟨T30, h30, X30, e30, W30, st30⟩ := stJ X28 hx hZ e28 Ar_29 (j := (5 : Int32)) hin_29 (g := (mkF m 152 #[.val (.ref aa0), .val (.int pp1), .val (.int pp2), .val (.int pp3), .val (.int pp4), .val (.long qq5), .second, .val (.int pp6), .val (.long qq7), .second, .val (.int pp8), .val (.long qq9), .second, .val (.long qq10), .second, .val (.int pp11), .val (.int (0 : Int32))] [(.long qq9), (.int (5 : Int32)), (.ref bx)])) rfl rfl (hb hby d3_152)
  have N30 := Fr.snoc X30 N26 g_bx
  have Z30 : n0 ≤ h30.size := Nat.le_trans Z26 (Keep.of_wr W30).1
  have K30 : Keep h0 h30 [aa0, bx] := K26.wr W30 (Or.inl (List.mem_of_getElem? (i := 1) rfl))
  have V30 : Arv Z h30 bx kx .long (112 : Int32) (List.set (List.set (List.set (List.set (List.set (List.set vx 0 (.long (((pp1.toInt64) <<< ((32 : Int32) &&& 0x3f).toInt64) ||| ((pp2.toInt64) &&& (4294967295 : Int64))))) 1 (.long (((pp3.toInt64) <<< ((32 : Int32) &&& 0x3f).toInt64) ||| ((pp4.toInt64) &&& (4294967295 : Int64))))) 2 (.long qq5)) 3 (.long (((pp6.toInt64) <<< ((40 : Int32) &&& 0x3f).toInt64) ||| qq7))) 4 (.long (((pp8.toInt64) <<< ((32 : Int32) &&& 0x3f).toInt64) ||| (pp11.toInt64)))) 5 (.long qq9)) (.long (0 : Int64)) := Arv.set Ar_29 qq_29 Sz_29 Nn_29 Hh_29 Gg_29 rfl W30 5 rfl (by first | omega | (simp only [List.length_set]; omega) | (simp only [List.length_set, List.length_replicate]; omega))
  have F_31 : Fld Z h30 aa0 "com/example/tallyhouse/tallyhouse/settle/QueuedTrades" "trades" "[J" (.ref bx) := (F_27.other W30 (Or.inl ne_aa0_bx))
  obtain ⟨T32, X32, e32, st32⟩ := getF X30 hx hZ hown (host := "") (Or.inl (hw _ (List.mem_of_getElem? (i := 10) rfl))) Via.refl e30 F_31 (g := (mkF m 154 #[.val (.ref aa0), .val (.int pp1), .val (.int pp2), .val (.int pp3), .val (.int pp4), .val (.long qq5), .second, .val (.int pp6), .val (.long qq7), .second, .val (.int pp8), .val (.long qq9), .second, .val (.long qq10), .second, .val (.int pp11), .val (.int (0 : Int32))] [(.ref aa0)])) rfl rfl (hb hby d3_154)
  obtain ⟨cl_33, Ar_33, qq_33, Sz_33, Nn_33, Hh_33, Gg_33⟩ := id V30
  have hin_33 : ¬ ((6 : Int32) < 0 ∨ cl_33.slots.size ≤ ((6 : Int32)).toNatClampNeg) := inb_of Sz_33 ⟨by decide, by decide⟩
  obtain ⟨T34, h34, X34, e34, W34, st34⟩ := stJ X32 hx hZ e32 Ar_33 (j := (6 : Int32)) hin_33 (g := (mkF m 165 #[.val (.ref aa0), .val (.int pp1), .val (.int pp2), .val (.int pp3), .val (.int pp4), .val (.long qq5), .second, .val (.int pp6), .val (.long qq7), .second, .val (.int pp8), .val (.long qq9), .second, .val (.long qq10), .second, .val (.int pp11), .val (.int (0 : Int32))] [(.long qq10), (.int (6 : Int32)), (.ref bx)])) rfl rfl (hb hby d3_165)
  have N34 := Fr.snoc X34 N30 g_bx
  have Z34 : n0 ≤ h34.size := Nat.le_trans Z30 (Keep.of_wr W34).1
  have K34 : Keep h0 h34 [aa0, bx] := K30.wr W34 (Or.inl (List.mem_of_getElem? (i := 1) rfl))
  have V34 : Arv Z h34 bx kx .long (112 : Int32) (List.set (List.set (List.set (List.set (List.set (List.set (List.set vx 0 (.long (((pp1.toInt64) <<< ((32 : Int32) &&& 0x3f).toInt64) ||| ((pp2.toInt64) &&& (4294967295 : Int64))))) 1 (.long (((pp3.toInt64) <<< ((32 : Int32) &&& 0x3f).toInt64) ||| ((pp4.toInt64) &&& (4294967295 : Int64))))) 2 (.long qq5)) 3 (.long (((pp6.toInt64) <<< ((40 : Int32) &&& 0x3f).toInt64) ||| qq7))) 4 (.long (((pp8.toInt64) <<< ((32 : Int32) &&& 0x3f).toInt64) ||| (pp11.toInt64)))) 5 (.long qq9)) 6 (.long qq10)) (.long (0 : Int64)) := Arv.set Ar_33 qq_33 Sz_33 Nn_33 Hh_33 Gg_33 rfl W34 6 rfl (by first | omega | (simp only [List.length_set]; omega) | (simp only [List.length_set, List.length_replicate]; omega))
  have F_35 : Fld Z h34 aa0 "com/example/tallyhouse/tallyhouse/settle/QueuedTrades" "trades" "[J" (.ref bx) := (F_31.other W34 (Or.inl ne_aa0_bx))
  have F_36 : Fld Z h34 aa0 "com/example/tallyhouse/tallyhouse/settle/QueuedTrades" "size" "I" (.int (1 : Int32)) := (((((((F5.other W10 (Or.inl ne_aa0_bx)).other W14 (Or.inl ne_aa0_bx)).other W18 (Or.inl ne_aa0_bx)).other W22 (Or.inl ne_aa0_bx)).other W26 (Or.inl ne_aa0_bx)).other W30 (Or.inl ne_aa0_bx)).other W34 (Or.inl ne_aa0_bx))
  obtain ⟨fs, hr, hrun, hended, hW, hsame⟩ := X34.leave (v := none) (fun _ => rfl)
  refine ⟨_, _, pre0 _ ?_, hrun, hended, _, _, rfl, ?_, ⟨_, rfl⟩, hW, hsame.mono (by decide) (by decide)⟩
  · show Steps p.tables e below (s₁.setTop (mkF m 0 #[.val (.ref aa0), .val (.int pp1), .val (.int pp2), .val (.int pp3), .val (.int pp4), .val (.long qq5), .second, .val (.int pp6), .val (.long qq7), .second, .val (.int pp8), .val (.long qq9), .second, .val (.long qq10), .second, .val (.int pp11), .unset] [])) _
    refine XS.aloadN X0.here hx rfl (hb hby d3_0) rfl rfl ?_
    show Steps p.tables e below (s₁.setTop (mkF m 1 #[.val (.ref aa0), .val (.int pp1), .val (.int pp2), .val (.int pp3), .val (.int pp4), .val (.long qq5), .second, .val (.int pp6), .val (.long qq7), .second, .val (.int pp8), .val (.long qq9), .second, .val (.long qq10), .second, .val (.int pp11), .unset] [(.ref aa0)])) _
    refine st1 _ ?_
    show Steps p.tables e below (T1.setTop (mkF m 4 #[.val (.ref aa0), .val (.int pp1), .val (.int pp2), .val (.int pp3), .val (.int pp4), .val (.long qq5), .second, .val (.int pp6), .val (.long qq7), .second, .val (.int pp8), .val (.long qq9), .second, .val (.long qq10), .second, .val (.int pp11), .unset] [(.int (0 : Int32))])) _
    refine XS.iconst X1.here hx rfl (hb hby d3_4) ?_
    show Steps p.tables e below (T1.setTop (mkF m 5 #[.val (.ref aa0), .val (.int pp1), .val (.int pp2), .val (.int pp3), .val (.int pp4), .val (.long qq5), .second, .val (.int pp6), .val (.long qq7), .second, .val (.int pp8), .val (.long qq9), .second, .val (.long qq10), .second, .val (.int pp11), .unset] [(.int (1 : Int32)), (.int (0 : Int32))])) _
    refine XS.iadd X1.here hx rfl (hb hby d3_5) rfl ?_
    show Steps p.tables e below (T1.setTop (mkF m 6 #[.val (.ref aa0), .val (.int pp1), .val (.int pp2), .val (.int pp3), .val (.int pp4), .val (.long qq5), .second, .val (.int pp6), .val (.long qq7), .second, .val (.int pp8), .val (.long qq9), .second, .val (.long qq10), .second, .val (.int pp11), .unset] [(.int (1 : Int32))])) _
    refine XS.bipush X1.here hx rfl (hb hby d3_6) ?_
    show Steps p.tables e below (T1.setTop (mkF m 8 #[.val (.ref aa0), .val (.int pp1), .val (.int pp2), .val (.int pp3), .val (.int pp4), .val (.long qq5), .second, .val (.int pp6), .val (.long qq7), .second, .val (.int pp8), .val (.long qq9), .second, .val (.long qq10), .second, .val (.int pp11), .unset] [(.int (7 : Int32)), (.int (1 : Int32))])) _
    refine XS.imul X1.here hx rfl (hb hby d3_8) rfl ?_
    show Steps p.tables e below (T1.setTop (mkF m 9 #[.val (.ref aa0), .val (.int pp1), .val (.int pp2), .val (.int pp3), .val (.int pp4), .val (.long qq5), .second, .val (.int pp6), .val (.long qq7), .second, .val (.int pp8), .val (.long qq9), .second, .val (.long qq10), .second, .val (.int pp11), .unset] [(.int (7 : Int32))])) _
    refine XS.aloadN X1.here hx rfl (hb hby d3_9) rfl rfl ?_
    show Steps p.tables e below (T1.setTop (mkF m 10 #[.val (.ref aa0), .val (.int pp1), .val (.int pp2), .val (.int pp3), .val (.int pp4), .val (.long qq5), .second, .val (.int pp6), .val (.long qq7), .second, .val (.int pp8), .val (.long qq9), .second, .val (.long qq10), .second, .val (.int pp11), .unset] [(.ref aa0), (.int (7 : Int32))])) _
    refine st2 _ ?_
    show Steps p.tables e below (T2.setTop (mkF m 13 #[.val (.ref aa0), .val (.int pp1), .val (.int pp2), .val (.int pp3), .val (.int pp4), .val (.long qq5), .second, .val (.int pp6), .val (.long qq7), .second, .val (.int pp8), .val (.long qq9), .second, .val (.long qq10), .second, .val (.int pp11), .unset] [(.ref bx), (.int (7 : Int32))])) _
    refine X2.arraylength hx (by rw [e2]; exact Ar_3.1) (State.isArrayOf_alike hZ.alike Ar_3.2.1) (g := (mkF m 13 #[.val (.ref aa0), .val (.int pp1), .val (.int pp2), .val (.int pp3), .val (.int pp4), .val (.long qq5), .second, .val (.int pp6), .val (.long qq7), .second, .val (.int pp8), .val (.long qq9), .second, .val (.long qq10), .second, .val (.int pp11), .unset] [(.ref bx), (.int (7 : Int32))])) rfl rfl (hb hby d3_13) _ ?_
    rw [len_of Sz_3 Nn_3]
    show Steps p.tables e below (T2.setTop (mkF m 14 #[.val (.ref aa0), .val (.int pp1), .val (.int pp2), .val (.int pp3), .val (.int pp4), .val (.long qq5), .second, .val (.int pp6), .val (.long qq7), .second, .val (.int pp8), .val (.long qq9), .second, .val (.long qq10), .second, .val (.int pp11), .unset] [(.int (112 : Int32)), (.int (7 : Int32))])) _
    refine XS.icmpYes X2.here hx rfl (pc0 := 14) (pc' := 35) rfl (hb hby d3_14) rfl (flt hc14).2.2.2 (by decide) (by decide) ?_
    show Steps p.tables e below (T2.setTop (mkF m 35 #[.val (.ref aa0), .val (.int pp1), .val (.int pp2), .val (.int pp3), .val (.int pp4), .val (.long qq5), .second, .val (.int pp6), .val (.long qq7), .second, .val (.int pp8), .val (.long qq9), .second, .val (.long qq10), .second, .val (.int pp11), .unset] [])) _
    refine XS.aloadN X2.here hx rfl (hb hby d3_35) rfl rfl ?_
    show Steps p.tables e below (T2.setTop (mkF m 36 #[.val (.ref aa0), .val (.int pp1), .val (.int pp2), .val (.int pp3), .val (.int pp4), .val (.long qq5), .second, .val (.int pp6), .val (.long qq7), .second, .val (.int pp8), .val (.long qq9), .second, .val (.long qq10), .second, .val (.int pp11), .unset] [(.ref aa0)])) _
    refine XS.dup X2.here hx rfl (hb hby d3_36) rfl rfl ?_
    show Steps p.tables e below (T2.setTop (mkF m 37 #[.val (.ref aa0), .val (.int pp1), .val (.int pp2), .val (.int pp3), .val (.int pp4), .val (.long qq5), .second, .val (.int pp6), .val (.long qq7), .second, .val (.int pp8), .val (.long qq9), .second, .val (.long qq10), .second, .val (.int pp11), .unset] [(.ref aa0), (.ref aa0)])) _
    refine st4 _ ?_
    show Steps p.tables e below (T4.setTop (mkF m 40 #[.val (.ref aa0), .val (.int pp1), .val (.int pp2), .val (.int pp3), .val (.int pp4), .val (.long qq5), .second, .val (.int pp6), .val (.long qq7), .second, .val (.int pp8), .val (.long qq9), .second, .val (.long qq10), .second, .val (.int pp11), .unset] [(.int (0 : Int32)), (.ref aa0)])) _
    refine XS.dupX1 X4.here hx rfl (hb hby d3_40) rfl rfl rfl ?_
    show Steps p.tables e below (T4.setTop (mkF m 41 #[.val (.ref aa0), .val (.int pp1), .val (.int pp2), .val (.int pp3), .val (.int pp4), .val (.long qq5), .second, .val (.int pp6), .val (.long qq7), .second, .val (.int pp8), .val (.long qq9), .second, .val (.long qq10), .second, .val (.int pp11), .unset] [(.int (0 : Int32)), (.ref aa0), (.int (0 : Int32))])) _
    refine XS.iconst X4.here hx rfl (hb hby d3_41) ?_
    show Steps p.tables e below (T4.setTop (mkF m 42 #[.val (.ref aa0), .val (.int pp1), .val (.int pp2), .val (.int pp3), .val (.int pp4), .val (.long qq5), .second, .val (.int pp6), .val (.long qq7), .second, .val (.int pp8), .val (.long qq9), .second, .val (.long qq10), .second, .val (.int pp11), .unset] [(.int (1 : Int32)), (.int (0 : Int32)), (.ref aa0), (.int (0 : Int32))])) _
    refine XS.iadd X4.here hx rfl (hb hby d3_42) rfl ?_
    show Steps p.tables e below (T4.setTop (mkF m 43 #[.val (.ref aa0), .val (.int pp1), .val (.int pp2), .val (.int pp3), .val (.int pp4), .val (.long qq5), .second, .val (.int pp6), .val (.long qq7), .second, .val (.int pp8), .val (.long qq9), .second, .val (.long qq10), .second, .val (.int pp11), .unset] [(.int (1 : Int32)), (.ref aa0), (.int (0 : Int32))])) _
    refine st5 _ ?_
    show Steps p.tables e below (T5.setTop (mkF m 46 #[.val (.ref aa0), .val (.int pp1), .val (.int pp2), .val (.int pp3), .val (.int pp4), .val (.long qq5), .second, .val (.int pp6), .val (.long qq7), .second, .val (.int pp8), .val (.long qq9), .second, .val (.long qq10), .second, .val (.int pp11), .unset] [(.int (0 : Int32))])) _
    refine XS.bipush X5.here hx rfl (hb hby d3_46) ?_
    show Steps p.tables e below (T5.setTop (mkF m 48 #[.val (.ref aa0), .val (.int pp1), .val (.int pp2), .val (.int pp3), .val (.int pp4), .val (.long qq5), .second, .val (.int pp6), .val (.long qq7), .second, .val (.int pp8), .val (.long qq9), .second, .val (.long qq10), .second, .val (.int pp11), .unset] [(.int (7 : Int32)), (.int (0 : Int32))])) _
    refine XS.imul X5.here hx rfl (hb hby d3_48) rfl ?_
    show Steps p.tables e below (T5.setTop (mkF m 49 #[.val (.ref aa0), .val (.int pp1), .val (.int pp2), .val (.int pp3), .val (.int pp4), .val (.long qq5), .second, .val (.int pp6), .val (.long qq7), .second, .val (.int pp8), .val (.long qq9), .second, .val (.long qq10), .second, .val (.int pp11), .unset] [(.int (0 : Int32))])) _
    refine XS.istore X5.here hx rfl (hb hby d3_49) rfl (l' := #[.val (.ref aa0), .val (.int pp1), .val (.int pp2), .val (.int pp3), .val (.int pp4), .val (.long qq5), .second, .val (.int pp6), .val (.long qq7), .second, .val (.int pp8), .val (.long qq9), .second, .val (.long qq10), .second, .val (.int pp11), .val (.int (0 : Int32))]) rfl ?_
    show Steps p.tables e below (T5.setTop (mkF m 51 #[.val (.ref aa0), .val (.int pp1), .val (.int pp2), .val (.int pp3), .val (.int pp4), .val (.long qq5), .second, .val (.int pp6), .val (.long qq7), .second, .val (.int pp8), .val (.long qq9), .second, .val (.long qq10), .second, .val (.int pp11), .val (.int (0 : Int32))] [])) _
    refine XS.aloadN X5.here hx rfl (hb hby d3_51) rfl rfl ?_
    show Steps p.tables e below (T5.setTop (mkF m 52 #[.val (.ref aa0), .val (.int pp1), .val (.int pp2), .val (.int pp3), .val (.int pp4), .val (.long qq5), .second, .val (.int pp6), .val (.long qq7), .second, .val (.int pp8), .val (.long qq9), .second, .val (.long qq10), .second, .val (.int pp11), .val (.int (0 : Int32))] [(.ref aa0)])) _
    refine st7 _ ?_
    show Steps p.tables e below (T7.setTop (mkF m 55 #[.val (.ref aa0), .val (.int pp1), .val (.int pp2), .val (.int pp3), .val (.int pp4), .val (.long qq5), .second, .val (.int pp6), .val (.long qq7), .second, .val (.int pp8), .val (.long qq9), .second, .val (.long qq10), .second, .val (.int pp11), .val (.int (0 : Int32))] [(.ref bx)])) _
    refine XS.iload X7.here hx rfl (hb hby d3_55) rfl ?_
    show Steps p.tables e below (T7.setTop (mkF m 57 #[.val (.ref aa0), .val (.int pp1), .val (.int pp2), .val (.int pp3), .val (.int pp4), .val (.long qq5), .second, .val (.int pp6), .val (.long qq7), .second, .val (.int pp8), .val (.long qq9), .second, .val (.long qq10), .second, .val (.int pp11), .val (.int (0 : Int32))] [(.int (0 : Int32)), (.ref bx)])) _
    refine XS.iconst X7.here hx rfl (hb hby d3_57) ?_
    show Steps p.tables e below (T7.setTop (mkF m 58 #[.val (.ref aa0), .val (.int pp1), .val (.int pp2), .val (.int pp3), .val (.int pp4), .val (.long qq5), .second, .val (.int pp6), .val (.long qq7), .second, .val (.int pp8), .val (.long qq9), .second, .val (.long qq10), .second, .val (.int pp11), .val (.int (0 : Int32))] [(.int (0 : Int32)), (.int (0 : Int32)), (.ref bx)])) _
    refine XS.iadd X7.here hx rfl (hb hby d3_58) rfl ?_
    show Steps p.tables e below (T7.setTop (mkF m 59 #[.val (.ref aa0), .val (.int pp1), .val (.int pp2), .val (.int pp3), .val (.int pp4), .val (.long qq5), .second, .val (.int pp6), .val (.long qq7), .second, .val (.int pp8), .val (.long qq9), .second, .val (.long qq10), .second, .val (.int pp11), .val (.int (0 : Int32))] [(.int (0 : Int32)), (.ref bx)])) _
    refine XS.iloadN X7.here hx rfl (hb hby d3_59) rfl ?_
    show Steps p.tables e below (T7.setTop (mkF m 60 #[.val (.ref aa0), .val (.int pp1), .val (.int pp2), .val (.int pp3), .val (.int pp4), .val (.long qq5), .second, .val (.int pp6), .val (.long qq7), .second, .val (.int pp8), .val (.long qq9), .second, .val (.long qq10), .second, .val (.int pp11), .val (.int (0 : Int32))] [(.int pp1), (.int (0 : Int32)), (.ref bx)])) _
    refine XS.i2l X7.here hx rfl (hb hby d3_60) rfl ?_
    show Steps p.tables e below (T7.setTop (mkF m 61 #[.val (.ref aa0), .val (.int pp1), .val (.int pp2), .val (.int pp3), .val (.int pp4), .val (.long qq5), .second, .val (.int pp6), .val (.long qq7), .second, .val (.int pp8), .val (.long qq9), .second, .val (.long qq10), .second, .val (.int pp11), .val (.int (0 : Int32))] [(.long (pp1.toInt64)), (.int (0 : Int32)), (.ref bx)])) _
    refine XS.bipush X7.here hx rfl (hb hby d3_61) ?_
    show Steps p.tables e below (T7.setTop (mkF m 63 #[.val (.ref aa0), .val (.int pp1), .val (.int pp2), .val (.int pp3), .val (.int pp4), .val (.long qq5), .second, .val (.int pp6), .val (.long qq7), .second, .val (.int pp8), .val (.long qq9), .second, .val (.long qq10), .second, .val (.int pp11), .val (.int (0 : Int32))] [(.int (32 : Int32)), (.long (pp1.toInt64)), (.int (0 : Int32)), (.ref bx)])) _
    refine XS.lshl X7.here hx rfl (hb hby d3_63) rfl ?_
    show Steps p.tables e below (T7.setTop (mkF m 64 #[.val (.ref aa0), .val (.int pp1), .val (.int pp2), .val (.int pp3), .val (.int pp4), .val (.long qq5), .second, .val (.int pp6), .val (.long qq7), .second, .val (.int pp8), .val (.long qq9), .second, .val (.long qq10), .second, .val (.int pp11), .val (.int (0 : Int32))] [(.long ((pp1.toInt64) <<< ((32 : Int32) &&& 0x3f).toInt64)), (.int (0 : Int32)), (.ref bx)])) _
    refine XS.iloadN X7.here hx rfl (hb hby d3_64) rfl ?_
    show Steps p.tables e below (T7.setTop (mkF m 65 #[.val (.ref aa0), .val (.int pp1), .val (.int pp2), .val (.int pp3), .val (.int pp4), .val (.long qq5), .second, .val (.int pp6), .val (.long qq7), .second, .val (.int pp8), .val (.long qq9), .second, .val (.long qq10), .second, .val (.int pp11), .val (.int (0 : Int32))] [(.int pp2), (.long ((pp1.toInt64) <<< ((32 : Int32) &&& 0x3f).toInt64)), (.int (0 : Int32)), (.ref bx)])) _
    refine XS.i2l X7.here hx rfl (hb hby d3_65) rfl ?_
    show Steps p.tables e below (T7.setTop (mkF m 66 #[.val (.ref aa0), .val (.int pp1), .val (.int pp2), .val (.int pp3), .val (.int pp4), .val (.long qq5), .second, .val (.int pp6), .val (.long qq7), .second, .val (.int pp8), .val (.long qq9), .second, .val (.long qq10), .second, .val (.int pp11), .val (.int (0 : Int32))] [(.long (pp2.toInt64)), (.long ((pp1.toInt64) <<< ((32 : Int32) &&& 0x3f).toInt64)), (.int (0 : Int32)), (.ref bx)])) _
    refine X7.ldc2Long hx hown (mvT hZ (hw _ (List.mem_of_getElem? (i := 19) rfl))) (g := (mkF m 66 #[.val (.ref aa0), .val (.int pp1), .val (.int pp2), .val (.int pp3), .val (.int pp4), .val (.long qq5), .second, .val (.int pp6), .val (.long qq7), .second, .val (.int pp8), .val (.long qq9), .second, .val (.long qq10), .second, .val (.int pp11), .val (.int (0 : Int32))] [(.long (pp2.toInt64)), (.long ((pp1.toInt64) <<< ((32 : Int32) &&& 0x3f).toInt64)), (.int (0 : Int32)), (.ref bx)])) rfl (hb hby d3_66) _ ?_
    show Steps p.tables e below (T7.setTop (mkF m 69 #[.val (.ref aa0), .val (.int pp1), .val (.int pp2), .val (.int pp3), .val (.int pp4), .val (.long qq5), .second, .val (.int pp6), .val (.long qq7), .second, .val (.int pp8), .val (.long qq9), .second, .val (.long qq10), .second, .val (.int pp11), .val (.int (0 : Int32))] [(.long (4294967295 : Int64)), (.long (pp2.toInt64)), (.long ((pp1.toInt64) <<< ((32 : Int32) &&& 0x3f).toInt64)), (.int (0 : Int32)), (.ref bx)])) _
    refine XS.land X7.here hx rfl (hb hby d3_69) rfl ?_
    show Steps p.tables e below (T7.setTop (mkF m 70 #[.val (.ref aa0), .val (.int pp1), .val (.int pp2), .val (.int pp3), .val (.int pp4), .val (.long qq5), .second, .val (.int pp6), .val (.long qq7), .second, .val (.int pp8), .val (.long qq9), .second, .val (.long qq10), .second, .val (.int pp11), .val (.int (0 : Int32))] [(.long ((pp2.toInt64) &&& (4294967295 : Int64))), (.long ((pp1.toInt64) <<< ((32 : Int32) &&& 0x3f).toInt64)), (.int (0 : Int32)), (.ref bx)])) _
    refine XS.lor X7.here hx rfl (hb hby d3_70) rfl ?_
    show Steps p.tables e below (T7.setTop (mkF m 71 #[.val (.ref aa0), .val (.int pp1), .val (.int pp2), .val (.int pp3), .val (.int pp4), .val (.long qq5), .second, .val (.int pp6), .val (.long qq7), .second, .val (.int pp8), .val (.long qq9), .second, .val (.long qq10), .second, .val (.int pp11), .val (.int (0 : Int32))] [(.long (((pp1.toInt64) <<< ((32 : Int32) &&& 0x3f).toInt64) ||| ((pp2.toInt64) &&& (4294967295 : Int64)))), (.int (0 : Int32)), (.ref bx)])) _
    refine st10 _ ?_
    show Steps p.tables e below (T10.setTop (mkF m 72 #[.val (.ref aa0), .val (.int pp1), .val (.int pp2), .val (.int pp3), .val (.int pp4), .val (.long qq5), .second, .val (.int pp6), .val (.long qq7), .second, .val (.int pp8), .val (.long qq9), .second, .val (.long qq10), .second, .val (.int pp11), .val (.int (0 : Int32))] [])) _
    refine XS.aloadN X10.here hx rfl (hb hby d3_72) rfl rfl ?_
    show Steps p.tables e below (T10.setTop (mkF m 73 #[.val (.ref aa0), .val (.int pp1), .val (.int pp2), .val (.int pp3), .val (.int pp4), .val (.long qq5), .second, .val (.int pp6), .val (.long qq7), .second, .val (.int pp8), .val (.long qq9), .second, .val (.long qq10), .second, .val (.int pp11), .val (.int (0 : Int32))] [(.ref aa0)])) _
    refine st12 _ ?_
    show Steps p.tables e below (T12.setTop (mkF m 76 #[.val (.ref aa0), .val (.int pp1), .val (.int pp2), .val (.int pp3), .val (.int pp4), .val (.long qq5), .second, .val (.int pp6), .val (.long qq7), .second, .val (.int pp8), .val (.long qq9), .second, .val (.long qq10), .second, .val (.int pp11), .val (.int (0 : Int32))] [(.ref bx)])) _
    refine XS.iload X12.here hx rfl (hb hby d3_76) rfl ?_
    show Steps p.tables e below (T12.setTop (mkF m 78 #[.val (.ref aa0), .val (.int pp1), .val (.int pp2), .val (.int pp3), .val (.int pp4), .val (.long qq5), .second, .val (.int pp6), .val (.long qq7), .second, .val (.int pp8), .val (.long qq9), .second, .val (.long qq10), .second, .val (.int pp11), .val (.int (0 : Int32))] [(.int (0 : Int32)), (.ref bx)])) _
    refine XS.iconst X12.here hx rfl (hb hby d3_78) ?_
    show Steps p.tables e below (T12.setTop (mkF m 79 #[.val (.ref aa0), .val (.int pp1), .val (.int pp2), .val (.int pp3), .val (.int pp4), .val (.long qq5), .second, .val (.int pp6), .val (.long qq7), .second, .val (.int pp8), .val (.long qq9), .second, .val (.long qq10), .second, .val (.int pp11), .val (.int (0 : Int32))] [(.int (1 : Int32)), (.int (0 : Int32)), (.ref bx)])) _
    refine XS.iadd X12.here hx rfl (hb hby d3_79) rfl ?_
    show Steps p.tables e below (T12.setTop (mkF m 80 #[.val (.ref aa0), .val (.int pp1), .val (.int pp2), .val (.int pp3), .val (.int pp4), .val (.long qq5), .second, .val (.int pp6), .val (.long qq7), .second, .val (.int pp8), .val (.long qq9), .second, .val (.long qq10), .second, .val (.int pp11), .val (.int (0 : Int32))] [(.int (1 : Int32)), (.ref bx)])) _
    refine XS.iloadN X12.here hx rfl (hb hby d3_80) rfl ?_
    show Steps p.tables e below (T12.setTop (mkF m 81 #[.val (.ref aa0), .val (.int pp1), .val (.int pp2), .val (.int pp3), .val (.int pp4), .val (.long qq5), .second, .val (.int pp6), .val (.long qq7), .second, .val (.int pp8), .val (.long qq9), .second, .val (.long qq10), .second, .val (.int pp11), .val (.int (0 : Int32))] [(.int pp3), (.int (1 : Int32)), (.ref bx)])) _
    refine XS.i2l X12.here hx rfl (hb hby d3_81) rfl ?_
    show Steps p.tables e below (T12.setTop (mkF m 82 #[.val (.ref aa0), .val (.int pp1), .val (.int pp2), .val (.int pp3), .val (.int pp4), .val (.long qq5), .second, .val (.int pp6), .val (.long qq7), .second, .val (.int pp8), .val (.long qq9), .second, .val (.long qq10), .second, .val (.int pp11), .val (.int (0 : Int32))] [(.long (pp3.toInt64)), (.int (1 : Int32)), (.ref bx)])) _
    refine XS.bipush X12.here hx rfl (hb hby d3_82) ?_
    show Steps p.tables e below (T12.setTop (mkF m 84 #[.val (.ref aa0), .val (.int pp1), .val (.int pp2), .val (.int pp3), .val (.int pp4), .val (.long qq5), .second, .val (.int pp6), .val (.long qq7), .second, .val (.int pp8), .val (.long qq9), .second, .val (.long qq10), .second, .val (.int pp11), .val (.int (0 : Int32))] [(.int (32 : Int32)), (.long (pp3.toInt64)), (.int (1 : Int32)), (.ref bx)])) _
    refine XS.lshl X12.here hx rfl (hb hby d3_84) rfl ?_
    show Steps p.tables e below (T12.setTop (mkF m 85 #[.val (.ref aa0), .val (.int pp1), .val (.int pp2), .val (.int pp3), .val (.int pp4), .val (.long qq5), .second, .val (.int pp6), .val (.long qq7), .second, .val (.int pp8), .val (.long qq9), .second, .val (.long qq10), .second, .val (.int pp11), .val (.int (0 : Int32))] [(.long ((pp3.toInt64) <<< ((32 : Int32) &&& 0x3f).toInt64)), (.int (1 : Int32)), (.ref bx)])) _
    refine XS.iload X12.here hx rfl (hb hby d3_85) rfl ?_
    show Steps p.tables e below (T12.setTop (mkF m 87 #[.val (.ref aa0), .val (.int pp1), .val (.int pp2), .val (.int pp3), .val (.int pp4), .val (.long qq5), .second, .val (.int pp6), .val (.long qq7), .second, .val (.int pp8), .val (.long qq9), .second, .val (.long qq10), .second, .val (.int pp11), .val (.int (0 : Int32))] [(.int pp4), (.long ((pp3.toInt64) <<< ((32 : Int32) &&& 0x3f).toInt64)), (.int (1 : Int32)), (.ref bx)])) _
    refine XS.i2l X12.here hx rfl (hb hby d3_87) rfl ?_
    show Steps p.tables e below (T12.setTop (mkF m 88 #[.val (.ref aa0), .val (.int pp1), .val (.int pp2), .val (.int pp3), .val (.int pp4), .val (.long qq5), .second, .val (.int pp6), .val (.long qq7), .second, .val (.int pp8), .val (.long qq9), .second, .val (.long qq10), .second, .val (.int pp11), .val (.int (0 : Int32))] [(.long (pp4.toInt64)), (.long ((pp3.toInt64) <<< ((32 : Int32) &&& 0x3f).toInt64)), (.int (1 : Int32)), (.ref bx)])) _
    refine X12.ldc2Long hx hown (mvT hZ (hw _ (List.mem_of_getElem? (i := 19) rfl))) (g := (mkF m 88 #[.val (.ref aa0), .val (.int pp1), .val (.int pp2), .val (.int pp3), .val (.int pp4), .val (.long qq5), .second, .val (.int pp6), .val (.long qq7), .second, .val (.int pp8), .val (.long qq9), .second, .val (.long qq10), .second, .val (.int pp11), .val (.int (0 : Int32))] [(.long (pp4.toInt64)), (.long ((pp3.toInt64) <<< ((32 : Int32) &&& 0x3f).toInt64)), (.int (1 : Int32)), (.ref bx)])) rfl (hb hby d3_88) _ ?_
    show Steps p.tables e below (T12.setTop (mkF m 91 #[.val (.ref aa0), .val (.int pp1), .val (.int pp2), .val (.int pp3), .val (.int pp4), .val (.long qq5), .second, .val (.int pp6), .val (.long qq7), .second, .val (.int pp8), .val (.long qq9), .second, .val (.long qq10), .second, .val (.int pp11), .val (.int (0 : Int32))] [(.long (4294967295 : Int64)), (.long (pp4.toInt64)), (.long ((pp3.toInt64) <<< ((32 : Int32) &&& 0x3f).toInt64)), (.int (1 : Int32)), (.ref bx)])) _
    refine XS.land X12.here hx rfl (hb hby d3_91) rfl ?_
    show Steps p.tables e below (T12.setTop (mkF m 92 #[.val (.ref aa0), .val (.int pp1), .val (.int pp2), .val (.int pp3), .val (.int pp4), .val (.long qq5), .second, .val (.int pp6), .val (.long qq7), .second, .val (.int pp8), .val (.long qq9), .second, .val (.long qq10), .second, .val (.int pp11), .val (.int (0 : Int32))] [(.long ((pp4.toInt64) &&& (4294967295 : Int64))), (.long ((pp3.toInt64) <<< ((32 : Int32) &&& 0x3f).toInt64)), (.int (1 : Int32)), (.ref bx)])) _
    refine XS.lor X12.here hx rfl (hb hby d3_92) rfl ?_
    show Steps p.tables e below (T12.setTop (mkF m 93 #[.val (.ref aa0), .val (.int pp1), .val (.int pp2), .val (.int pp3), .val (.int pp4), .val (.long qq5), .second, .val (.int pp6), .val (.long qq7), .second, .val (.int pp8), .val (.long qq9), .second, .val (.long qq10), .second, .val (.int pp11), .val (.int (0 : Int32))] [(.long (((pp3.toInt64) <<< ((32 : Int32) &&& 0x3f).toInt64) ||| ((pp4.toInt64) &&& (4294967295 : Int64)))), (.int (1 : Int32)), (.ref bx)])) _
    refine st14 _ ?_
    show Steps p.tables e below (T14.setTop (mkF m 94 #[.val (.ref aa0), .val (.int pp1), .val (.int pp2), .val (.int pp3), .val (.int pp4), .val (.long qq5), .second, .val (.int pp6), .val (.long qq7), .second, .val (.int pp8), .val (.long qq9), .second, .val (.long qq10), .second, .val (.int pp11), .val (.int (0 : Int32))] [])) _
    refine XS.aloadN X14.here hx rfl (hb hby d3_94) rfl rfl ?_
    show Steps p.tables e below (T14.setTop (mkF m 95 #[.val (.ref aa0), .val (.int pp1), .val (.int pp2), .val (.int pp3), .val (.int pp4), .val (.long qq5), .second, .val (.int pp6), .val (.long qq7), .second, .val (.int pp8), .val (.long qq9), .second, .val (.long qq10), .second, .val (.int pp11), .val (.int (0 : Int32))] [(.ref aa0)])) _
    refine st16 _ ?_
    show Steps p.tables e below (T16.setTop (mkF m 98 #[.val (.ref aa0), .val (.int pp1), .val (.int pp2), .val (.int pp3), .val (.int pp4), .val (.long qq5), .second, .val (.int pp6), .val (.long qq7), .second, .val (.int pp8), .val (.long qq9), .second, .val (.long qq10), .second, .val (.int pp11), .val (.int (0 : Int32))] [(.ref bx)])) _
    refine XS.iload X16.here hx rfl (hb hby d3_98) rfl ?_
    show Steps p.tables e below (T16.setTop (mkF m 100 #[.val (.ref aa0), .val (.int pp1), .val (.int pp2), .val (.int pp3), .val (.int pp4), .val (.long qq5), .second, .val (.int pp6), .val (.long qq7), .second, .val (.int pp8), .val (.long qq9), .second, .val (.long qq10), .second, .val (.int pp11), .val (.int (0 : Int32))] [(.int (0 : Int32)), (.ref bx)])) _
    refine XS.iconst X16.here hx rfl (hb hby d3_100) ?_
    show Steps p.tables e below (T16.setTop (mkF m 101 #[.val (.ref aa0), .val (.int pp1), .val (.int pp2), .val (.int pp3), .val (.int pp4), .val (.long qq5), .second, .val (.int pp6), .val (.long qq7), .second, .val (.int pp8), .val (.long qq9), .second, .val (.long qq10), .second, .val (.int pp11), .val (.int (0 : Int32))] [(.int (2 : Int32)), (.int (0 : Int32)), (.ref bx)])) _
    refine XS.iadd X16.here hx rfl (hb hby d3_101) rfl ?_
    show Steps p.tables e below (T16.setTop (mkF m 102 #[.val (.ref aa0), .val (.int pp1), .val (.int pp2), .val (.int pp3), .val (.int pp4), .val (.long qq5), .second, .val (.int pp6), .val (.long qq7), .second, .val (.int pp8), .val (.long qq9), .second, .val (.long qq10), .second, .val (.int pp11), .val (.int (0 : Int32))] [(.int (2 : Int32)), (.ref bx)])) _
    refine XS.lload X16.here hx rfl (hb hby d3_102) rfl ?_
    show Steps p.tables e below (T16.setTop (mkF m 104 #[.val (.ref aa0), .val (.int pp1), .val (.int pp2), .val (.int pp3), .val (.int pp4), .val (.long qq5), .second, .val (.int pp6), .val (.long qq7), .second, .val (.int pp8), .val (.long qq9), .second, .val (.long qq10), .second, .val (.int pp11), .val (.int (0 : Int32))] [(.long qq5), (.int (2 : Int32)), (.ref bx)])) _
    refine st18 _ ?_
    show Steps p.tables e below (T18.setTop (mkF m 105 #[.val (.ref aa0), .val (.int pp1), .val (.int pp2), .val (.int pp3), .val (.int pp4), .val (.long qq5), .second, .val (.int pp6), .val (.long qq7), .second, .val (.int pp8), .val (.long qq9), .second, .val (.long qq10), .second, .val (.int pp11), .val (.int (0 : Int32))] [])) _
    refine XS.aloadN X18.here hx rfl (hb hby d3_105) rfl rfl ?_
    show Steps p.tables e below (T18.setTop (mkF m 106 #[.val (.ref aa0), .val (.int pp1), .val (.int pp2), .val (.int pp3), .val (.int pp4), .val (.long qq5), .second, .val (.int pp6), .val (.long qq7), .second, .val (.int pp8), .val (.long qq9), .second, .val (.long qq10), .second, .val (.int pp11), .val (.int (0 : Int32))] [(.ref aa0)])) _
    refine st20 _ ?_
    show Steps p.tables e below (T20.setTop (mkF m 109 #[.val (.ref aa0), .val (.int pp1), .val (.int pp2), .val (.int pp3), .val (.int pp4), .val (.long qq5), .second, .val (.int pp6), .val (.long qq7), .second, .val (.int pp8), .val (.long qq9), .second, .val (.long qq10), .second, .val (.int pp11), .val (.int (0 : Int32))] [(.ref bx)])) _
    refine XS.iload X20.here hx rfl (hb hby d3_109) rfl ?_
    show Steps p.tables e below (T20.setTop (mkF m 111 #[.val (.ref aa0), .val (.int pp1), .val (.int pp2), .val (.int pp3), .val (.int pp4), .val (.long qq5), .second, .val (.int pp6), .val (.long qq7), .second, .val (.int pp8), .val (.long qq9), .second, .val (.long qq10), .second, .val (.int pp11), .val (.int (0 : Int32))] [(.int (0 : Int32)), (.ref bx)])) _
    refine XS.iconst X20.here hx rfl (hb hby d3_111) ?_
    show Steps p.tables e below (T20.setTop (mkF m 112 #[.val (.ref aa0), .val (.int pp1), .val (.int pp2), .val (.int pp3), .val (.int pp4), .val (.long qq5), .second, .val (.int pp6), .val (.long qq7), .second, .val (.int pp8), .val (.long qq9), .second, .val (.long qq10), .second, .val (.int pp11), .val (.int (0 : Int32))] [(.int (3 : Int32)), (.int (0 : Int32)), (.ref bx)])) _
    refine XS.iadd X20.here hx rfl (hb hby d3_112) rfl ?_
    show Steps p.tables e below (T20.setTop (mkF m 113 #[.val (.ref aa0), .val (.int pp1), .val (.int pp2), .val (.int pp3), .val (.int pp4), .val (.long qq5), .second, .val (.int pp6), .val (.long qq7), .second, .val (.int pp8), .val (.long qq9), .second, .val (.long qq10), .second, .val (.int pp11), .val (.int (0 : Int32))] [(.int (3 : Int32)), (.ref bx)])) _
    refine XS.iload X20.here hx rfl (hb hby d3_113) rfl ?_
    show Steps p.tables e below (T20.setTop (mkF m 115 #[.val (.ref aa0), .val (.int pp1), .val (.int pp2), .val (.int pp3), .val (.int pp4), .val (.long qq5), .second, .val (.int pp6), .val (.long qq7), .second, .val (.int pp8), .val (.long qq9), .second, .val (.long qq10), .second, .val (.int pp11), .val (.int (0 : Int32))] [(.int pp6), (.int (3 : Int32)), (.ref bx)])) _
    refine XS.i2l X20.here hx rfl (hb hby d3_115) rfl ?_
    show Steps p.tables e below (T20.setTop (mkF m 116 #[.val (.ref aa0), .val (.int pp1), .val (.int pp2), .val (.int pp3), .val (.int pp4), .val (.long qq5), .second, .val (.int pp6), .val (.long qq7), .second, .val (.int pp8), .val (.long qq9), .second, .val (.long qq10), .second, .val (.int pp11), .val (.int (0 : Int32))] [(.long (pp6.toInt64)), (.int (3 : Int32)), (.ref bx)])) _
    refine XS.bipush X20.here hx rfl (hb hby d3_116) ?_
    show Steps p.tables e below (T20.setTop (mkF m 118 #[.val (.ref aa0), .val (.int pp1), .val (.int pp2), .val (.int pp3), .val (.int pp4), .val (.long qq5), .second, .val (.int pp6), .val (.long qq7), .second, .val (.int pp8), .val (.long qq9), .second, .val (.long qq10), .second, .val (.int pp11), .val (.int (0 : Int32))] [(.int (40 : Int32)), (.long (pp6.toInt64)), (.int (3 : Int32)), (.ref bx)])) _
    refine XS.lshl X20.here hx rfl (hb hby d3_118) rfl ?_
    show Steps p.tables e below (T20.setTop (mkF m 119 #[.val (.ref aa0), .val (.int pp1), .val (.int pp2), .val (.int pp3), .val (.int pp4), .val (.long qq5), .second, .val (.int pp6), .val (.long qq7), .second, .val (.int pp8), .val (.long qq9), .second, .val (.long qq10), .second, .val (.int pp11), .val (.int (0 : Int32))] [(.long ((pp6.toInt64) <<< ((40 : Int32) &&& 0x3f).toInt64)), (.int (3 : Int32)), (.ref bx)])) _
    refine XS.lload X20.here hx rfl (hb hby d3_119) rfl ?_
    show Steps p.tables e below (T20.setTop (mkF m 121 #[.val (.ref aa0), .val (.int pp1), .val (.int pp2), .val (.int pp3), .val (.int pp4), .val (.long qq5), .second, .val (.int pp6), .val (.long qq7), .second, .val (.int pp8), .val (.long qq9), .second, .val (.long qq10), .second, .val (.int pp11), .val (.int (0 : Int32))] [(.long qq7), (.long ((pp6.toInt64) <<< ((40 : Int32) &&& 0x3f).toInt64)), (.int (3 : Int32)), (.ref bx)])) _
    refine XS.lor X20.here hx rfl (hb hby d3_121) rfl ?_
    show Steps p.tables e below (T20.setTop (mkF m 122 #[.val (.ref aa0), .val (.int pp1), .val (.int pp2), .val (.int pp3), .val (.int pp4), .val (.long qq5), .second, .val (.int pp6), .val (.long qq7), .second, .val (.int pp8), .val (.long qq9), .second, .val (.long qq10), .second, .val (.int pp11), .val (.int (0 : Int32))] [(.long (((pp6.toInt64) <<< ((40 : Int32) &&& 0x3f).toInt64) ||| qq7)), (.int (3 : Int32)), (.ref bx)])) _
    refine st22 _ ?_
    show Steps p.tables e below (T22.setTop (mkF m 123 #[.val (.ref aa0), .val (.int pp1), .val (.int pp2), .val (.int pp3), .val (.int pp4), .val (.long qq5), .second, .val (.int pp6), .val (.long qq7), .second, .val (.int pp8), .val (.long qq9), .second, .val (.long qq10), .second, .val (.int pp11), .val (.int (0 : Int32))] [])) _
    refine XS.aloadN X22.here hx rfl (hb hby d3_123) rfl rfl ?_
    show Steps p.tables e below (T22.setTop (mkF m 124 #[.val (.ref aa0), .val (.int pp1), .val (.int pp2), .val (.int pp3), .val (.int pp4), .val (.long qq5), .second, .val (.int pp6), .val (.long qq7), .second, .val (.int pp8), .val (.long qq9), .second, .val (.long qq10), .second, .val (.int pp11), .val (.int (0 : Int32))] [(.ref aa0)])) _
    refine st24 _ ?_
    show Steps p.tables e below (T24.setTop (mkF m 127 #[.val (.ref aa0), .val (.int pp1), .val (.int pp2), .val (.int pp3), .val (.int pp4), .val (.long qq5), .second, .val (.int pp6), .val (.long qq7), .second, .val (.int pp8), .val (.long qq9), .second, .val (.long qq10), .second, .val (.int pp11), .val (.int (0 : Int32))] [(.ref bx)])) _
    refine XS.iload X24.here hx rfl (hb hby d3_127) rfl ?_
    show Steps p.tables e below (T24.setTop (mkF m 129 #[.val (.ref aa0), .val (.int pp1), .val (.int pp2), .val (.int pp3), .val (.int pp4), .val (.long qq5), .second, .val (.int pp6), .val (.long qq7), .second, .val (.int pp8), .val (.long qq9), .second, .val (.long qq10), .second, .val (.int pp11), .val (.int (0 : Int32))] [(.int (0 : Int32)), (.ref bx)])) _
    refine XS.iconst X24.here hx rfl (hb hby d3_129) ?_
    show Steps p.tables e below (T24.setTop (mkF m 130 #[.val (.ref aa0), .val (.int pp1), .val (.int pp2), .val (.int pp3), .val (.int pp4), .val (.long qq5), .second, .val (.int pp6), .val (.long qq7), .second, .val (.int pp8), .val (.long qq9), .second, .val (.long qq10), .second, .val (.int pp11), .val (.int (0 : Int32))] [(.int (4 : Int32)), (.int (0 : Int32)), (.ref bx)])) _
    refine XS.iadd X24.here hx rfl (hb hby d3_130) rfl ?_
    show Steps p.tables e below (T24.setTop (mkF m 131 #[.val (.ref aa0), .val (.int pp1), .val (.int pp2), .val (.int pp3), .val (.int pp4), .val (.long qq5), .second, .val (.int pp6), .val (.long qq7), .second, .val (.int pp8), .val (.long qq9), .second, .val (.long qq10), .second, .val (.int pp11), .val (.int (0 : Int32))] [(.int (4 : Int32)), (.ref bx)])) _
    refine XS.iload X24.here hx rfl (hb hby d3_131) rfl ?_
    show Steps p.tables e below (T24.setTop (mkF m 133 #[.val (.ref aa0), .val (.int pp1), .val (.int pp2), .val (.int pp3), .val (.int pp4), .val (.long qq5), .second, .val (.int pp6), .val (.long qq7), .second, .val (.int pp8), .val (.long qq9), .second, .val (.long qq10), .second, .val (.int pp11), .val (.int (0 : Int32))] [(.int pp8), (.int (4 : Int32)), (.ref bx)])) _
    refine XS.i2l X24.here hx rfl (hb hby d3_133) rfl ?_
    show Steps p.tables e below (T24.setTop (mkF m 134 #[.val (.ref aa0), .val (.int pp1), .val (.int pp2), .val (.int pp3), .val (.int pp4), .val (.long qq5), .second, .val (.int pp6), .val (.long qq7), .second, .val (.int pp8), .val (.long qq9), .second, .val (.long qq10), .second, .val (.int pp11), .val (.int (0 : Int32))] [(.long (pp8.toInt64)), (.int (4 : Int32)), (.ref bx)])) _
    refine XS.bipush X24.here hx rfl (hb hby d3_134) ?_
    show Steps p.tables e below (T24.setTop (mkF m 136 #[.val (.ref aa0), .val (.int pp1), .val (.int pp2), .val (.int pp3), .val (.int pp4), .val (.long qq5), .second, .val (.int pp6), .val (.long qq7), .second, .val (.int pp8), .val (.long qq9), .second, .val (.long qq10), .second, .val (.int pp11), .val (.int (0 : Int32))] [(.int (32 : Int32)), (.long (pp8.toInt64)), (.int (4 : Int32)), (.ref bx)])) _
    refine XS.lshl X24.here hx rfl (hb hby d3_136) rfl ?_
    show Steps p.tables e below (T24.setTop (mkF m 137 #[.val (.ref aa0), .val (.int pp1), .val (.int pp2), .val (.int pp3), .val (.int pp4), .val (.long qq5), .second, .val (.int pp6), .val (.long qq7), .second, .val (.int pp8), .val (.long qq9), .second, .val (.long qq10), .second, .val (.int pp11), .val (.int (0 : Int32))] [(.long ((pp8.toInt64) <<< ((32 : Int32) &&& 0x3f).toInt64)), (.int (4 : Int32)), (.ref bx)])) _
    refine XS.iload X24.here hx rfl (hb hby d3_137) rfl ?_
    show Steps p.tables e below (T24.setTop (mkF m 139 #[.val (.ref aa0), .val (.int pp1), .val (.int pp2), .val (.int pp3), .val (.int pp4), .val (.long qq5), .second, .val (.int pp6), .val (.long qq7), .second, .val (.int pp8), .val (.long qq9), .second, .val (.long qq10), .second, .val (.int pp11), .val (.int (0 : Int32))] [(.int pp11), (.long ((pp8.toInt64) <<< ((32 : Int32) &&& 0x3f).toInt64)), (.int (4 : Int32)), (.ref bx)])) _
    refine XS.i2l X24.here hx rfl (hb hby d3_139) rfl ?_
    show Steps p.tables e below (T24.setTop (mkF m 140 #[.val (.ref aa0), .val (.int pp1), .val (.int pp2), .val (.int pp3), .val (.int pp4), .val (.long qq5), .second, .val (.int pp6), .val (.long qq7), .second, .val (.int pp8), .val (.long qq9), .second, .val (.long qq10), .second, .val (.int pp11), .val (.int (0 : Int32))] [(.long (pp11.toInt64)), (.long ((pp8.toInt64) <<< ((32 : Int32) &&& 0x3f).toInt64)), (.int (4 : Int32)), (.ref bx)])) _
    refine XS.lor X24.here hx rfl (hb hby d3_140) rfl ?_
    show Steps p.tables e below (T24.setTop (mkF m 141 #[.val (.ref aa0), .val (.int pp1), .val (.int pp2), .val (.int pp3), .val (.int pp4), .val (.long qq5), .second, .val (.int pp6), .val (.long qq7), .second, .val (.int pp8), .val (.long qq9), .second, .val (.long qq10), .second, .val (.int pp11), .val (.int (0 : Int32))] [(.long (((pp8.toInt64) <<< ((32 : Int32) &&& 0x3f).toInt64) ||| (pp11.toInt64))), (.int (4 : Int32)), (.ref bx)])) _
    refine st26 _ ?_
    show Steps p.tables e below (T26.setTop (mkF m 142 #[.val (.ref aa0), .val (.int pp1), .val (.int pp2), .val (.int pp3), .val (.int pp4), .val (.long qq5), .second, .val (.int pp6), .val (.long qq7), .second, .val (.int pp8), .val (.long qq9), .second, .val (.long qq10), .second, .val (.int pp11), .val (.int (0 : Int32))] [])) _
    refine XS.aloadN X26.here hx rfl (hb hby d3_142) rfl rfl ?_
    show Steps p.tables e below (T26.setTop (mkF m 143 #[.val (.ref aa0), .val (.int pp1), .val (.int pp2), .val (.int pp3), .val (.int pp4), .val (.long qq5), .second, .val (.int pp6), .val (.long qq7), .second, .val (.int pp8), .val (.long qq9), .second, .val (.long qq10), .second, .val (.int pp11), .val (.int (0 : Int32))] [(.ref aa0)])) _
    refine st28 _ ?_
    show Steps p.tables e below (T28.setTop (mkF m 146 #[.val (.ref aa0), .val (.int pp1), .val (.int pp2), .val (.int pp3), .val (.int pp4), .val (.long qq5), .second, .val (.int pp6), .val (.long qq7), .second, .val (.int pp8), .val (.long qq9), .second, .val (.long qq10), .second, .val (.int pp11), .val (.int (0 : Int32))] [(.ref bx)])) _
    refine XS.iload X28.here hx rfl (hb hby d3_146) rfl ?_
    show Steps p.tables e below (T28.setTop (mkF m 148 #[.val (.ref aa0), .val (.int pp1), .val (.int pp2), .val (.int pp3), .val (.int pp4), .val (.long qq5), .second, .val (.int pp6), .val (.long qq7), .second, .val (.int pp8), .val (.long qq9), .second, .val (.long qq10), .second, .val (.int pp11), .val (.int (0 : Int32))] [(.int (0 : Int32)), (.ref bx)])) _
    refine XS.iconst X28.here hx rfl (hb hby d3_148) ?_
    show Steps p.tables e below (T28.setTop (mkF m 149 #[.val (.ref aa0), .val (.int pp1), .val (.int pp2), .val (.int pp3), .val (.int pp4), .val (.long qq5), .second, .val (.int pp6), .val (.long qq7), .second, .val (.int pp8), .val (.long qq9), .second, .val (.long qq10), .second, .val (.int pp11), .val (.int (0 : Int32))] [(.int (5 : Int32)), (.int (0 : Int32)), (.ref bx)])) _
    refine XS.iadd X28.here hx rfl (hb hby d3_149) rfl ?_
    show Steps p.tables e below (T28.setTop (mkF m 150 #[.val (.ref aa0), .val (.int pp1), .val (.int pp2), .val (.int pp3), .val (.int pp4), .val (.long qq5), .second, .val (.int pp6), .val (.long qq7), .second, .val (.int pp8), .val (.long qq9), .second, .val (.long qq10), .second, .val (.int pp11), .val (.int (0 : Int32))] [(.int (5 : Int32)), (.ref bx)])) _
    refine XS.lload X28.here hx rfl (hb hby d3_150) rfl ?_
    show Steps p.tables e below (T28.setTop (mkF m 152 #[.val (.ref aa0), .val (.int pp1), .val (.int pp2), .val (.int pp3), .val (.int pp4), .val (.long qq5), .second, .val (.int pp6), .val (.long qq7), .second, .val (.int pp8), .val (.long qq9), .second, .val (.long qq10), .second, .val (.int pp11), .val (.int (0 : Int32))] [(.long qq9), (.int (5 : Int32)), (.ref bx)])) _
    refine st30 _ ?_
    show Steps p.tables e below (T30.setTop (mkF m 153 #[.val (.ref aa0), .val (.int pp1), .val (.int pp2), .val (.int pp3), .val (.int pp4), .val (.long qq5), .second, .val (.int pp6), .val (.long qq7), .second, .val (.int pp8), .val (.long qq9), .second, .val (.long qq10), .second, .val (.int pp11), .val (.int (0 : Int32))] [])) _
    refine XS.aloadN X30.here hx rfl (hb hby d3_153) rfl rfl ?_
    show Steps p.tables e below (T30.setTop (mkF m 154 #[.val (.ref aa0), .val (.int pp1), .val (.int pp2), .val (.int pp3), .val (.int pp4), .val (.long qq5), .second, .val (.int pp6), .val (.long qq7), .second, .val (.int pp8), .val (.long qq9), .second, .val (.long qq10), .second, .val (.int pp11), .val (.int (0 : Int32))] [(.ref aa0)])) _
    refine st32 _ ?_
    show Steps p.tables e below (T32.setTop (mkF m 157 #[.val (.ref aa0), .val (.int pp1), .val (.int pp2), .val (.int pp3), .val (.int pp4), .val (.long qq5), .second, .val (.int pp6), .val (.long qq7), .second, .val (.int pp8), .val (.long qq9), .second, .val (.long qq10), .second, .val (.int pp11), .val (.int (0 : Int32))] [(.ref bx)])) _
    refine XS.iload X32.here hx rfl (hb hby d3_157) rfl ?_
    show Steps p.tables e below (T32.setTop (mkF m 159 #[.val (.ref aa0), .val (.int pp1), .val (.int pp2), .val (.int pp3), .val (.int pp4), .val (.long qq5), .second, .val (.int pp6), .val (.long qq7), .second, .val (.int pp8), .val (.long qq9), .second, .val (.long qq10), .second, .val (.int pp11), .val (.int (0 : Int32))] [(.int (0 : Int32)), (.ref bx)])) _
    refine XS.iconst X32.here hx rfl (hb hby d3_159) ?_
    show Steps p.tables e below (T32.setTop (mkF m 160 #[.val (.ref aa0), .val (.int pp1), .val (.int pp2), .val (.int pp3), .val (.int pp4), .val (.long qq5), .second, .val (.int pp6), .val (.long qq7), .second, .val (.int pp8), .val (.long qq9), .second, .val (.long qq10), .second, .val (.int pp11), .val (.int (0 : Int32))] [(.int (5 : Int32)), (.int (0 : Int32)), (.ref bx)])) _
    refine XS.iadd X32.here hx rfl (hb hby d3_160) rfl ?_
    show Steps p.tables e below (T32.setTop (mkF m 161 #[.val (.ref aa0), .val (.int pp1), .val (.int pp2), .val (.int pp3), .val (.int pp4), .val (.long qq5), .second, .val (.int pp6), .val (.long qq7), .second, .val (.int pp8), .val (.long qq9), .second, .val (.long qq10), .second, .val (.int pp11), .val (.int (0 : Int32))] [(.int (5 : Int32)), (.ref bx)])) _
    refine XS.iconst X32.here hx rfl (hb hby d3_161) ?_
    show Steps p.tables e below (T32.setTop (mkF m 162 #[.val (.ref aa0), .val (.int pp1), .val (.int pp2), .val (.int pp3), .val (.int pp4), .val (.long qq5), .second, .val (.int pp6), .val (.long qq7), .second, .val (.int pp8), .val (.long qq9), .second, .val (.long qq10), .second, .val (.int pp11), .val (.int (0 : Int32))] [(.int (1 : Int32)), (.int (5 : Int32)), (.ref bx)])) _
    refine XS.iadd X32.here hx rfl (hb hby d3_162) rfl ?_
    show Steps p.tables e below (T32.setTop (mkF m 163 #[.val (.ref aa0), .val (.int pp1), .val (.int pp2), .val (.int pp3), .val (.int pp4), .val (.long qq5), .second, .val (.int pp6), .val (.long qq7), .second, .val (.int pp8), .val (.long qq9), .second, .val (.long qq10), .second, .val (.int pp11), .val (.int (0 : Int32))] [(.int (6 : Int32)), (.ref bx)])) _
    refine XS.lload X32.here hx rfl (hb hby d3_163) rfl ?_
    show Steps p.tables e below (T32.setTop (mkF m 165 #[.val (.ref aa0), .val (.int pp1), .val (.int pp2), .val (.int pp3), .val (.int pp4), .val (.long qq5), .second, .val (.int pp6), .val (.long qq7), .second, .val (.int pp8), .val (.long qq9), .second, .val (.long qq10), .second, .val (.int pp11), .val (.int (0 : Int32))] [(.long qq10), (.int (6 : Int32)), (.ref bx)])) _
    refine st34 _ ?_
    show Steps p.tables e below (T34.setTop (mkF m 166 #[.val (.ref aa0), .val (.int pp1), .val (.int pp2), .val (.int pp3), .val (.int pp4), .val (.long qq5), .second, .val (.int pp6), .val (.long qq7), .second, .val (.int pp8), .val (.long qq9), .second, .val (.long qq10), .second, .val (.int pp11), .val (.int (0 : Int32))] [])) _
    exact X34.returnOut hx Bd.returns (hb hby d3_166) hr
  · show Q3_0 Z aa0 pp1 pp2 pp3 pp4 qq5 pp6 qq7 pp8 qq9 qq10 pp11 bx kx vx h0 n0 _ T34.heap _
    rw [e34]
    exact ⟨(List.set (List.set (List.set (List.set (List.set (List.set (List.set vx 0 (.long (((pp1.toInt64) <<< ((32 : Int32) &&& 0x3f).toInt64) ||| ((pp2.toInt64) &&& (4294967295 : Int64))))) 1 (.long (((pp3.toInt64) <<< ((32 : Int32) &&& 0x3f).toInt64) ||| ((pp4.toInt64) &&& (4294967295 : Int64))))) 2 (.long qq5)) 3 (.long (((pp6.toInt64) <<< ((40 : Int32) &&& 0x3f).toInt64) ||| qq7))) 4 (.long (((pp8.toInt64) <<< ((32 : Int32) &&& 0x3f).toInt64) ||| (pp11.toInt64)))) 5 (.long qq9)) 6 (.long qq10)), rfl, N34, K34, F_35, V34, F_36, (by simp only [List.length_set]; exact hl), (by simp [List.getD_eq_getElem?_getD, List.getElem?_set, hl])⟩
theorem ef_3_1 (m : MethodId) (x0 : Addr) (x1 : Int32) (x2 : Int32) (x3 : Int32) (x4 : Int32) (x5 : Int64) (x6 : Int32) (x7 : Int64) (x8 : Int32) (x9 : Int64) (x10 : Int64) (x11 : Int32) : entryFrame m #[(.ref x0), (.int x1), (.int x2), (.int x3), (.int x4), (.long x5), (.int x6), (.long x7), (.int x8), (.long x9), (.long x10), (.int x11)] 17 = mkF m 0 #[.val (.ref x0), .val (.int x1), .val (.int x2), .val (.int x3), .val (.int x4), .val (.long x5), .second, .val (.int x6), .val (.long x7), .second, .val (.int x8), .val (.long x9), .second, .val (.long x10), .second, .val (.int x11), .unset] [] := by first | (simp [entryFrame, mkF, argsToLocals, Value.category]; done) | rfl
def Q3_1 (Z : State) (aa0 : Addr) (pp1 : Int32) (pp2 : Int32) (pp3 : Int32) (pp4 : Int32) (qq5 : Int64) (pp6 : Int32) (qq7 : Int64) (pp8 : Int32) (qq9 : Int64) (qq10 : Int64) (pp11 : Int32) (bx : Addr) (kx : ClassId) (vx : List Value) (h0 : Heap) (n0 : Nat) (v : Option Value) (h : Heap) (L : List Loc) : Prop := ∃ (vy : List Value), v = none ∧ Fr n0 L ∧ Keep h0 h [aa0, bx] ∧ (Fld Z h aa0 "com/example/tallyhouse/tallyhouse/settle/QueuedTrades" "trades" "[J" (.ref bx)) ∧ (Arv Z h bx kx .long (112 : Int32) vy (.long (0 : Int64))) ∧ (Fld Z h aa0 "com/example/tallyhouse/tallyhouse/settle/QueuedTrades" "size" "I" (.int (2 : Int32))) ∧ (vy.length = 112) ∧ (vy.getD 8 (.long (0 : Int64)) = .long ((pp3.toInt64 <<< ((32 : Int32) &&& 0x3f).toInt64) ||| (pp4.toInt64 &&& (4294967295 : Int64)))) ∧ (vy.getD 1 (.long (0 : Int64)) = vx.getD 1 (.long (0 : Int64)))
set_option maxRecDepth 65536 in
set_option maxHeartbeats 40000000 in
theorem rm3_1 (l : Launch) (Z : State) (a0 : Array Value) (hw : ∀ d ∈ tables_1, d.before a0 Z = true) (ws : List Jvm.Cond) (aa0 : Addr) (pp1 : Int32) (pp2 : Int32) (pp3 : Int32) (pp4 : Int32) (qq5 : Int64) (pp6 : Int32) (qq7 : Int64) (pp8 : Int32) (qq9 : Int64) (qq10 : Int64) (pp11 : Int32) (bx : Addr) (kx : ClassId) (vx : List Value) (h0 : Heap) (n0 : Nat) (Z0 : n0 ≤ h0.size) (E_aa0 : Exa Z h0 aa0 "com/example/tallyhouse/tallyhouse/settle/QueuedTrades") (g_aa0 : n0 ≤ aa0) (g_bx : n0 ≤ bx) (ne_aa0_bx : aa0 ≠ bx) (F_aa0_trades : Fld Z h0 aa0 "com/example/tallyhouse/tallyhouse/settle/QueuedTrades" "trades" "[J" (.ref bx)) (V_bx : Arv Z h0 bx kx .long (112 : Int32) vx (.long (0 : Int64))) (F_aa0_size : Fld Z h0 aa0 "com/example/tallyhouse/tallyhouse/settle/QueuedTrades" "size" "I" (.int (1 : Int32))) (hl : vx.length = 112) :
    MetFree l (⟨"com/example/tallyhouse/tallyhouse/settle/QueuedTrades", "add", "(IIIIJIJIJJI)V"⟩ : MethodName) (head1 (Jvm.Cond.code (⟨"com/example/tallyhouse/tallyhouse/settle/QueuedTrades", "add", "(IIIIJIJIJJI)V"⟩ : MethodName) prog_38_method_2_code 17 none :: ws) ({ frames := 0, cells := 0, slots := 0, locals := 0 } : Room)) (fun a U => a = #[(.ref aa0), (.int pp1), (.int pp2), (.int pp3), (.int pp4), (.long qq5), (.int pp6), (.long qq7), (.int pp8), (.long qq9), (.long qq10), (.int pp11)] ∧ Z.Warmed39 U.vm ∧ U.heap = h0) (fun _ _ _ _ _ => True) (fun _ U o U' => ∃ v L, o = .returned v ∧ Q3_1 Z aa0 pp1 pp2 pp3 pp4 qq5 pp6 qq7 pp8 qq9 qq10 pp11 bx kx vx h0 n0 v U'.heap L ∧ FrameEnd U o U' L ({ frames := 0, cells := 0, slots := 0, locals := 0 } : Room).cells ({ frames := 0, cells := 0, slots := 0, locals := 0 } : Room).slots) := by
  refine MetFree.of_bodySF (plainFor_of_name pn_com_example_tallyhouse_tallyhouse_settle_QueuedTrades) hisR ?_
  intro p e s m args below meth c s₁ Bd hml0 hP hK
  obtain ⟨rfl, hZ, hh⟩ := hP
  have hx := Bd.exec
  have hby := Bd.bytes
  have hml : c.maxLocals = 17 := hml0
  have hown : s.vm.findClass "com/example/tallyhouse/tallyhouse/settle/QueuedTrades" = some m.cls := findClass_of_methodNamed Bd.named
  have hnm := (name_of_methodNamed Bd.named Bd.method).1
  have X0 : Stand p l e ({ frames := 0, cells := 0, slots := 0, locals := 0 } : Room) s m #[(.ref aa0), (.int pp1), (.int pp2), (.int pp3), (.int pp4), (.long qq5), (.int pp6), (.long qq7), (.int pp8), (.long qq9), (.long qq10), (.int pp11)] below meth c s₁ [] 0 0 := Stand.of_body Bd
  have e0 : s₁.heap = h0 := by rw [← hh, Bd.state]; rfl
  have N0 := Fr.nil n0
  have pre0 : ∀ t, Steps p.tables e below (s₁.setTop (mkF m 0 #[.val (.ref aa0), .val (.int pp1), .val (.int pp2), .val (.int pp3), .val (.int pp4), .val (.long qq5), .second, .val (.int pp6), .val (.long qq7), .second, .val (.int pp8), .val (.long qq9), .second, .val (.long qq10), .second, .val (.int pp11), .unset] [])) t → Steps p.tables e below (s₁.setTop (entryFrame m #[(.ref aa0), (.int pp1), (.int pp2), (.int pp3), (.int pp4), (.long qq5), (.int pp6), (.long qq7), (.int pp8), (.long qq9), (.long qq10), (.int pp11)] 17)) t := fun t k => castTop (ef_3_1 m aa0 pp1 pp2 pp3 pp4 qq5 pp6 qq7 pp8 qq9 qq10 pp11) k
  obtain ⟨T1, X1, e1, st1⟩ := getF X0 hx hZ hown (host := "") (Or.inl (hw _ (List.mem_of_getElem? (i := 17) rfl))) Via.refl e0 F_aa0_size (g := (mkF m 1 #[.val (.ref aa0), .val (.int pp1), .val (.int pp2), .val (.int pp3), .val (.int pp4), .val (.long qq5), .second, .val (.int pp6), .val (.long qq7), .second, .val (.int pp8), .val (.long qq9), .second, .val (.long qq10), .second, .val (.int pp11), .unset] [(.ref aa0)])) rfl rfl (hb hby d3_1)
  obtain ⟨T2, X2, e2, st2⟩ := getF X1 hx hZ hown (host := "") (Or.inl (hw _ (List.mem_of_getElem? (i := 10) rfl))) Via.refl e1 F_aa0_trades (g := (mkF m 10 #[.val (.ref aa0), .val (.int pp1), .val (.int pp2), .val (.int pp3), .val (.int pp4), .val (.long qq5), .second, .val (.int pp6), .val (.long qq7), .second, .val (.int pp8), .val (.long qq9), .second, .val (.long qq10), .second, .val (.int pp11), .unset] [(.ref aa0), (.int (14 : Int32))])) rfl rfl (hb hby d3_10)
  obtain ⟨cl_3, Ar_3, -, Sz_3, Nn_3, -, -⟩ := id V_bx
  have hc14 : ¬ ((112 : Int32) < (14 : Int32)) := by decide
  obtain ⟨T4, X4, e4, st4⟩ := getF X2 hx hZ hown (host := "") (Or.inl (hw _ (List.mem_of_getElem? (i := 17) rfl))) Via.refl e2 F_aa0_size (g := (mkF m 37 #[.val (.ref aa0), .val (.int pp1), .val (.int pp2), .val (.int pp3), .val (.int pp4), .val (.long qq5), .second, .val (.int pp6), .val (.long qq7), .second, .val (.int pp8), .val (.long qq9), .second, .val (.long qq10), .second, .val (.int pp11), .unset] [(.ref aa0), (.ref aa0)])) rfl rfl (hb hby d3_37)
  obtain ⟨T5, h5, X5, e5, W5, st5⟩ := putF X4 hx hZ hown (host := "") (Or.inl (hw _ (List.mem_of_getElem? (i := 17) rfl))) Via.refl e4 F_aa0_size E_aa0 (Or.inl (hw _ (List.mem_of_getElem? (i := 18) rfl))) (hw _ (List.mem_of_getElem? (i := 1) rfl)) (ty := .int) (by decide) rfl rfl (g := (mkF m 43 #[.val (.ref aa0), .val (.int pp1), .val (.int pp2), .val (.int pp3), .val (.int pp4), .val (.long qq5), .second, .val (.int pp6), .val (.long qq7), .second, .val (.int pp8), .val (.long qq9), .second, .val (.long qq10), .second, .val (.int pp11), .unset] [(.int (2 : Int32)), (.ref aa0), (.int (1 : Int32))])) rfl rfl (hb hby d3_43)
  have N5 := Fr.snoc X5 N0 g_aa0
  have Z5 : n0 ≤ h5.size := Nat.le_trans Z0 (Keep.of_wr W5).1
  have K5 : Keep h0 h5 [aa0, bx] := (Keep.refl h0 [aa0, bx]).wr W5 (Or.inl (List.mem_of_getElem? (i := 0) rfl))
  have F5 : Fld Z h5 aa0 "com/example/tallyhouse/tallyhouse/settle/QueuedTrades" "size" "I" (.int (2 : Int32)) := F_aa0_size.same W5
  have F_6 : Fld Z h5 aa0 "com/example/tallyhouse/tallyhouse/settle/QueuedTrades" "trades" "[J" (.ref bx) := (F_aa0_trades.other W5 (Or.inr (slot_ne (Or.inl (hw _ (List.mem_of_getElem? (i := 11) rfl))) (Or.inl (hw _ (List.mem_of_getElem? (i := 18) rfl))) (by decide) (t := (.array .long)) (t' := .int) (by decide) (by decide))))
  obtain ⟨T7, X7, e7, st7⟩ := getF X5 hx hZ hown (host := "") (Or.inl (hw _ (List.mem_of_getElem? (i := 10) rfl))) Via.refl e5 F_6 (g := (mkF m 52 #[.val (.ref aa0), .val (.int pp1), .val (.int pp2), .val (.int pp3), .val (.int pp4), .val (.long qq5), .second, .val (.int pp6), .val (.long qq7), .second, .val (.int pp8), .val (.long qq9), .second, .val (.long qq10), .second, .val (.int pp11), .val (.int (7 : Int32))] [(.ref aa0)])) rfl rfl (hb hby d3_52)
  have V_8 : Arv Z h5 bx kx .long (112 : Int32) vx (.long (0 : Int64)) := (V_bx.other W5 (Ne.symm ne_aa0_bx))
  obtain ⟨cl_9, Ar_9, qq_9, Sz_9, Nn_9, Hh_9, Gg_9⟩ := id V_8
  have hin_9 : ¬ ((7 : Int32) < 0 ∨ cl_9.slots.size ≤ ((7 : Int32)).toNatClampNeg) := inb_of Sz_9 ⟨by decide, by decide⟩
  obtain ⟨T10, h10, X10, e10, W10, st10⟩ := stJ X7 hx hZ e7 Ar_9 (j := (7 : Int32)) hin_9 (g := (mkF m 71 #[.val (.ref aa0), .val (.int pp1), .val (.int pp2), .val (.int pp3), .val (.int pp4), .val (.long qq5), .second, .val (.int pp6), .val (.long qq7), .second, .val (.int pp8), .val (.long qq9), .second, .val (.long qq10), .second, .val (.int pp11), .val (.int (7 : Int32))] [(.long (((pp1.toInt64) <<< ((32 : Int32) &&& 0x3f).toInt64) ||| ((pp2.toInt64) &&& (4294967295 : Int64)))), (.int (7 : Int32)), (.ref bx)])) rfl rfl (hb hby d3_71)
  have N10 := Fr.snoc X10 N5 g_bx
  have Z10 : n0 ≤ h10.size := Nat.le_trans Z5 (Keep.of_wr W10).1
  have K10 : Keep h0 h10 [aa0, bx] := K5.wr W10 (Or.inl (List.mem_of_getElem? (i := 1) rfl))
  have V10 : Arv Z h10 bx kx .long (112 : Int32) (List.set vx 7 (.long (((pp1.toInt64) <<< ((32 : Int32) &&& 0x3f).toInt64) ||| ((pp2.toInt64) &&& (4294967295 : Int64))))) (.long (0 : Int64)) := Arv.set Ar_9 qq_9 Sz_9 Nn_9 Hh_9 Gg_9 rfl W10 7 rfl (by first | omega | (simp only [List.length_set]; omega) | (simp only [List.length_set, List.length_replicate]; omega))
  have F_11 : Fld Z h10 aa0 "com/example/tallyhouse/tallyhouse/settle/QueuedTrades" "trades" "[J" (.ref bx) := (F_6.other W10 (Or.inl ne_aa0_bx))
  obtain ⟨T12, X12, e12, st12⟩ := getF X10 hx hZ hown (host := "") (Or.inl (hw _ (List.mem_of_getElem? (i := 10) rfl))) Via.refl e10 F_11 (g := (mkF m 73 #[.val (.ref aa0), .val (.int pp1), .val (.int pp2), .val (.int pp3), .val (.int pp4), .val (.long qq5), .second, .val (.int pp6), .val (.long qq7), .second, .val (.int pp8), .val (.long qq9), .second, .val (.long qq10), .second, .val (.int pp11), .val (.int (7 : Int32))] [(.ref aa0)])) rfl rfl (hb hby d3_73)
  obtain ⟨cl_13, Ar_13, qq_13, Sz_13, Nn_13, Hh_13, Gg_13⟩ := id V10
  have hin_13 : ¬ ((8 : Int32) < 0 ∨ cl_13.slots.size ≤ ((8 : Int32)).toNatClampNeg) := inb_of Sz_13 ⟨by decide, by decide⟩
  obtain ⟨T14, h14, X14, e14, W14, st14⟩ := stJ X12 hx hZ e12 Ar_13 (j := (8 : Int32)) hin_13 (g := (mkF m 93 #[.val (.ref aa0), .val (.int pp1), .val (.int pp2), .val (.int pp3), .val (.int pp4), .val (.long qq5), .second, .val (.int pp6), .val (.long qq7), .second, .val (.int pp8), .val (.long qq9), .second, .val (.long qq10), .second, .val (.int pp11), .val (.int (7 : Int32))] [(.long (((pp3.toInt64) <<< ((32 : Int32) &&& 0x3f).toInt64) ||| ((pp4.toInt64) &&& (4294967295 : Int64)))), (.int (8 : Int32)), (.ref bx)])) rfl rfl (hb hby d3_93)
  have N14 := Fr.snoc X14 N10 g_bx
  have Z14 : n0 ≤ h14.size := Nat.le_trans Z10 (Keep.of_wr W14).1
  have K14 : Keep h0 h14 [aa0, bx] := K10.wr W14 (Or.inl (List.mem_of_getElem? (i := 1) rfl))
  have V14 : Arv Z h14 bx kx .long (112 : Int32) (List.set (List.set vx 7 (.long (((pp1.toInt64) <<< ((32 : Int32) &&& 0x3f).toInt64) ||| ((pp2.toInt64) &&& (4294967295 : Int64))))) 8 (.long (((pp3.toInt64) <<< ((32 : Int32) &&& 0x3f).toInt64) ||| ((pp4.toInt64) &&& (4294967295 : Int64))))) (.long (0 : Int64)) := Arv.set Ar_13 qq_13 Sz_13 Nn_13 Hh_13 Gg_13 rfl W14 8 rfl (by first | omega | (simp only [List.length_set]; omega) | (simp only [List.length_set, List.length_replicate]; omega))
  have F_15 : Fld Z h14 aa0 "com/example/tallyhouse/tallyhouse/settle/QueuedTrades" "trades" "[J" (.ref bx) := (F_11.other W14 (Or.inl ne_aa0_bx))
  obtain ⟨T16, X16, e16, st16⟩ := getF X14 hx hZ hown (host := "") (Or.inl (hw _ (List.mem_of_getElem? (i := 10) rfl))) Via.refl e14 F_15 (g := (mkF m 95 #[.val (.ref aa0), .val (.int pp1), .val (.int pp2), .val (.int pp3), .val (.int pp4), .val (.long qq5), .second, .val (.int pp6), .val (.long qq7), .second, .val (.int pp8), .val (.long qq9), .second, .val (.long qq10), .second, .val (.int pp11), .val (.int (7 : Int32))] [(.ref aa0)])) rfl rfl (hb hby d3_95)
  obtain ⟨cl_17, Ar_17, qq_17, Sz_17, Nn_17, Hh_17, Gg_17⟩ := id V14
  have hin_17 : ¬ ((9 : Int32) < 0 ∨ cl_17.slots.size ≤ ((9 : Int32)).toNatClampNeg) := inb_of Sz_17 ⟨by decide, by decide⟩
  obtain ⟨T18, h18, X18, e18, W18, st18⟩ := stJ X16 hx hZ e16 Ar_17 (j := (9 : Int32)) hin_17 (g := (mkF m 104 #[.val (.ref aa0), .val (.int pp1), .val (.int pp2), .val (.int pp3), .val (.int pp4), .val (.long qq5), .second, .val (.int pp6), .val (.long qq7), .second, .val (.int pp8), .val (.long qq9), .second, .val (.long qq10), .second, .val (.int pp11), .val (.int (7 : Int32))] [(.long qq5), (.int (9 : Int32)), (.ref bx)])) rfl rfl (hb hby d3_104)
  have N18 := Fr.snoc X18 N14 g_bx
  have Z18 : n0 ≤ h18.size := Nat.le_trans Z14 (Keep.of_wr W18).1
  have K18 : Keep h0 h18 [aa0, bx] := K14.wr W18 (Or.inl (List.mem_of_getElem? (i := 1) rfl))
  have V18 : Arv Z h18 bx kx .long (112 : Int32) (List.set (List.set (List.set vx 7 (.long (((pp1.toInt64) <<< ((32 : Int32) &&& 0x3f).toInt64) ||| ((pp2.toInt64) &&& (4294967295 : Int64))))) 8 (.long (((pp3.toInt64) <<< ((32 : Int32) &&& 0x3f).toInt64) ||| ((pp4.toInt64) &&& (4294967295 : Int64))))) 9 (.long qq5)) (.long (0 : Int64)) := Arv.set Ar_17 qq_17 Sz_17 Nn_17 Hh_17 Gg_17 rfl W18 9 rfl (by first | omega | (simp only [List.length_set]; omega) | (simp only [List.length_set, List.length_replicate]; omega))
  have F_19 : Fld Z h18 aa0 "com/example/tallyhouse/tallyhouse/settle/QueuedTrades" "trades" "[J" (.ref bx) := (F_15.other W18 (Or.inl ne_aa0_bx))
  obtain ⟨T20, X20, e20, st20⟩ := getF X18 hx hZ hown (host := "") (Or.inl (hw _ (List.mem_of_getElem? (i := 10) rfl))) Via.refl e18 F_19 (g := (mkF m 106 #[.val (.ref aa0), .val (.int pp1), .val (.int pp2), .val (.int pp3), .val (.int pp4), .val (.long qq5), .second, .val (.int pp6), .val (.long qq7), .second, .val (.int pp8), .val (.long qq9), .second, .val (.long qq10), .second, .val (.int pp11), .val (.int (7 : Int32))] [(.ref aa0)])) rfl rfl (hb hby d3_106)
  obtain ⟨cl_21, Ar_21, qq_21, Sz_21, Nn_21, Hh_21, Gg_21⟩ := id V18
  have hin_21 : ¬ ((10 : Int32) < 0 ∨ cl_21.slots.size ≤ ((10 : Int32)).toNatClampNeg) := inb_of Sz_21 ⟨by decide, by decide⟩
  obtain ⟨T22, h22, X22, e22, W22, st22⟩ := stJ X20 hx hZ e20 Ar_21 (j := (10 : Int32)) hin_21 (g := (mkF m 122 #[.val (.ref aa0), .val (.int pp1), .val (.int pp2), .val (.int pp3), .val (.int pp4), .val (.long qq5), .second, .val (.int pp6), .val (.long qq7), .second, .val (.int pp8), .val (.long qq9), .second, .val (.long qq10), .second, .val (.int pp11), .val (.int (7 : Int32))] [(.long (((pp6.toInt64) <<< ((40 : Int32) &&& 0x3f).toInt64) ||| qq7)), (.int (10 : Int32)), (.ref bx)])) rfl rfl (hb hby d3_122)
  have N22 := Fr.snoc X22 N18 g_bx
  have Z22 : n0 ≤ h22.size := Nat.le_trans Z18 (Keep.of_wr W22).1
  have K22 : Keep h0 h22 [aa0, bx] := K18.wr W22 (Or.inl (List.mem_of_getElem? (i := 1) rfl))
  have V22 : Arv Z h22 bx kx .long (112 : Int32) (List.set (List.set (List.set (List.set vx 7 (.long (((pp1.toInt64) <<< ((32 : Int32) &&& 0x3f).toInt64) ||| ((pp2.toInt64) &&& (4294967295 : Int64))))) 8 (.long (((pp3.toInt64) <<< ((32 : Int32) &&& 0x3f).toInt64) ||| ((pp4.toInt64) &&& (4294967295 : Int64))))) 9 (.long qq5)) 10 (.long (((pp6.toInt64) <<< ((40 : Int32) &&& 0x3f).toInt64) ||| qq7))) (.long (0 : Int64)) := Arv.set Ar_21 qq_21 Sz_21 Nn_21 Hh_21 Gg_21 rfl W22 10 rfl (by first | omega | (simp only [List.length_set]; omega) | (simp only [List.length_set, List.length_replicate]; omega))
  have F_23 : Fld Z h22 aa0 "com/example/tallyhouse/tallyhouse/settle/QueuedTrades" "trades" "[J" (.ref bx) := (F_19.other W22 (Or.inl ne_aa0_bx))
  obtain ⟨T24, X24, e24, st24⟩ := getF X22 hx hZ hown (host := "") (Or.inl (hw _ (List.mem_of_getElem? (i := 10) rfl))) Via.refl e22 F_23 (g := (mkF m 124 #[.val (.ref aa0), .val (.int pp1), .val (.int pp2), .val (.int pp3), .val (.int pp4), .val (.long qq5), .second, .val (.int pp6), .val (.long qq7), .second, .val (.int pp8), .val (.long qq9), .second, .val (.long qq10), .second, .val (.int pp11), .val (.int (7 : Int32))] [(.ref aa0)])) rfl rfl (hb hby d3_124)
  obtain ⟨cl_25, Ar_25, qq_25, Sz_25, Nn_25, Hh_25, Gg_25⟩ := id V22
  have hin_25 : ¬ ((11 : Int32) < 0 ∨ cl_25.slots.size ≤ ((11 : Int32)).toNatClampNeg) := inb_of Sz_25 ⟨by decide, by decide⟩
  obtain ⟨T26, h26, X26, e26, W26, st26⟩ := stJ X24 hx hZ e24 Ar_25 (j := (11 : Int32)) hin_25 (g := (mkF m 141 #[.val (.ref aa0), .val (.int pp1), .val (.int pp2), .val (.int pp3), .val (.int pp4), .val (.long qq5), .second, .val (.int pp6), .val (.long qq7), .second, .val (.int pp8), .val (.long qq9), .second, .val (.long qq10), .second, .val (.int pp11), .val (.int (7 : Int32))] [(.long (((pp8.toInt64) <<< ((32 : Int32) &&& 0x3f).toInt64) ||| (pp11.toInt64))), (.int (11 : Int32)), (.ref bx)])) rfl rfl (hb hby d3_141)
  have N26 := Fr.snoc X26 N22 g_bx
  have Z26 : n0 ≤ h26.size := Nat.le_trans Z22 (Keep.of_wr W26).1
  have K26 : Keep h0 h26 [aa0, bx] := K22.wr W26 (Or.inl (List.mem_of_getElem? (i := 1) rfl))
  have V26 : Arv Z h26 bx kx .long (112 : Int32) (List.set (List.set (List.set (List.set (List.set vx 7 (.long (((pp1.toInt64) <<< ((32 : Int32) &&& 0x3f).toInt64) ||| ((pp2.toInt64) &&& (4294967295 : Int64))))) 8 (.long (((pp3.toInt64) <<< ((32 : Int32) &&& 0x3f).toInt64) ||| ((pp4.toInt64) &&& (4294967295 : Int64))))) 9 (.long qq5)) 10 (.long (((pp6.toInt64) <<< ((40 : Int32) &&& 0x3f).toInt64) ||| qq7))) 11 (.long (((pp8.toInt64) <<< ((32 : Int32) &&& 0x3f).toInt64) ||| (pp11.toInt64)))) (.long (0 : Int64)) := Arv.set Ar_25 qq_25 Sz_25 Nn_25 Hh_25 Gg_25 rfl W26 11 rfl (by first | omega | (simp only [List.length_set]; omega) | (simp only [List.length_set, List.length_replicate]; omega))
  have F_27 : Fld Z h26 aa0 "com/example/tallyhouse/tallyhouse/settle/QueuedTrades" "trades" "[J" (.ref bx) := (F_23.other W26 (Or.inl ne_aa0_bx))
  obtain ⟨T28, X28, e28, st28⟩ := getF X26 hx hZ hown (host := "") (Or.inl (hw _ (List.mem_of_getElem? (i := 10) rfl))) Via.refl e26 F_27 (g := (mkF m 143 #[.val (.ref aa0), .val (.int pp1), .val (.int pp2), .val (.int pp3), .val (.int pp4), .val (.long qq5), .second, .val (.int pp6), .val (.long qq7), .second, .val (.int pp8), .val (.long qq9), .second, .val (.long qq10), .second, .val (.int pp11), .val (.int (7 : Int32))] [(.ref aa0)])) rfl rfl (hb hby d3_143)
  obtain ⟨cl_29, Ar_29, qq_29, Sz_29, Nn_29, Hh_29, Gg_29⟩ := id V26
  have hin_29 : ¬ ((12 : Int32) < 0 ∨ cl_29.slots.size ≤ ((12 : Int32)).toNatClampNeg) := inb_of Sz_29 ⟨by decide, by decide⟩
  obtain ⟨T30, h30, X30, e30, W30, st30⟩ := stJ X28 hx hZ e28 Ar_29 (j := (12 : Int32)) hin_29 (g := (mkF m 152 #[.val (.ref aa0), .val (.int pp1), .val (.int pp2), .val (.int pp3), .val (.int pp4), .val (.long qq5), .second, .val (.int pp6), .val (.long qq7), .second, .val (.int pp8), .val (.long qq9), .second, .val (.long qq10), .second, .val (.int pp11), .val (.int (7 : Int32))] [(.long qq9), (.int (12 : Int32)), (.ref bx)])) rfl rfl (hb hby d3_152)
  have N30 := Fr.snoc X30 N26 g_bx
  have Z30 : n0 ≤ h30.size := Nat.le_trans Z26 (Keep.of_wr W30).1
  have K30 : Keep h0 h30 [aa0, bx] := K26.wr W30 (Or.inl (List.mem_of_getElem? (i := 1) rfl))
  have V30 : Arv Z h30 bx kx .long (112 : Int32) (List.set (List.set (List.set (List.set (List.set (List.set vx 7 (.long (((pp1.toInt64) <<< ((32 : Int32) &&& 0x3f).toInt64) ||| ((pp2.toInt64) &&& (4294967295 : Int64))))) 8 (.long (((pp3.toInt64) <<< ((32 : Int32) &&& 0x3f).toInt64) ||| ((pp4.toInt64) &&& (4294967295 : Int64))))) 9 (.long qq5)) 10 (.long (((pp6.toInt64) <<< ((40 : Int32) &&& 0x3f).toInt64) ||| qq7))) 11 (.long (((pp8.toInt64) <<< ((32 : Int32) &&& 0x3f).toInt64) ||| (pp11.toInt64)))) 12 (.long qq9)) (.long (0 : Int64)) := Arv.set Ar_29 qq_29 Sz_29 Nn_29 Hh_29 Gg_29 rfl W30 12 rfl (by first | omega | (simp only [List.length_set]; omega) | (simp only [List.length_set, List.length_replicate]; omega))
  have F_31 : Fld Z h30 aa0 "com/example/tallyhouse/tallyhouse/settle/QueuedTrades" "trades" "[J" (.ref bx) := (F_27.other W30 (Or.inl ne_aa0_bx))
  obtain ⟨T32, X32, e32, st32⟩ := getF X30 hx hZ hown (host := "") (Or.inl (hw _ (List.mem_of_getElem? (i := 10) rfl))) Via.refl e30 F_31 (g := (mkF m 154 #[.val (.ref aa0), .val (.int pp1), .val (.int pp2), .val (.int pp3), .val (.int pp4), .val (.long qq5), .second, .val (.int pp6), .val (.long qq7), .second, .val (.int pp8), .val (.long qq9), .second, .val (.long qq10), .second, .val (.int pp11), .val (.int (7 : Int32))] [(.ref aa0)])) rfl rfl (hb hby d3_154)
  obtain ⟨cl_33, Ar_33, qq_33, Sz_33, Nn_33, Hh_33, Gg_33⟩ := id V30
  have hin_33 : ¬ ((13 : Int32) < 0 ∨ cl_33.slots.size ≤ ((13 : Int32)).toNatClampNeg) := inb_of Sz_33 ⟨by decide, by decide⟩
  obtain ⟨T34, h34, X34, e34, W34, st34⟩ := stJ X32 hx hZ e32 Ar_33 (j := (13 : Int32)) hin_33 (g := (mkF m 165 #[.val (.ref aa0), .val (.int pp1), .val (.int pp2), .val (.int pp3), .val (.int pp4), .val (.long qq5), .second, .val (.int pp6), .val (.long qq7), .second, .val (.int pp8), .val (.long qq9), .second, .val (.long qq10), .second, .val (.int pp11), .val (.int (7 : Int32))] [(.long qq10), (.int (13 : Int32)), (.ref bx)])) rfl rfl (hb hby d3_165)
  have N34 := Fr.snoc X34 N30 g_bx
  have Z34 : n0 ≤ h34.size := Nat.le_trans Z30 (Keep.of_wr W34).1
  have K34 : Keep h0 h34 [aa0, bx] := K30.wr W34 (Or.inl (List.mem_of_getElem? (i := 1) rfl))
  have V34 : Arv Z h34 bx kx .long (112 : Int32) (List.set (List.set (List.set (List.set (List.set (List.set (List.set vx 7 (.long (((pp1.toInt64) <<< ((32 : Int32) &&& 0x3f).toInt64) ||| ((pp2.toInt64) &&& (4294967295 : Int64))))) 8 (.long (((pp3.toInt64) <<< ((32 : Int32) &&& 0x3f).toInt64) ||| ((pp4.toInt64) &&& (4294967295 : Int64))))) 9 (.long qq5)) 10 (.long (((pp6.toInt64) <<< ((40 : Int32) &&& 0x3f).toInt64) ||| qq7))) 11 (.long (((pp8.toInt64) <<< ((32 : Int32) &&& 0x3f).toInt64) ||| (pp11.toInt64)))) 12 (.long qq9)) 13 (.long qq10)) (.long (0 : Int64)) := Arv.set Ar_33 qq_33 Sz_33 Nn_33 Hh_33 Gg_33 rfl W34 13 rfl (by first | omega | (simp only [List.length_set]; omega) | (simp only [List.length_set, List.length_replicate]; omega))
  have F_35 : Fld Z h34 aa0 "com/example/tallyhouse/tallyhouse/settle/QueuedTrades" "trades" "[J" (.ref bx) := (F_31.other W34 (Or.inl ne_aa0_bx))
  have F_36 : Fld Z h34 aa0 "com/example/tallyhouse/tallyhouse/settle/QueuedTrades" "size" "I" (.int (2 : Int32)) := (((((((F5.other W10 (Or.inl ne_aa0_bx)).other W14 (Or.inl ne_aa0_bx)).other W18 (Or.inl ne_aa0_bx)).other W22 (Or.inl ne_aa0_bx)).other W26 (Or.inl ne_aa0_bx)).other W30 (Or.inl ne_aa0_bx)).other W34 (Or.inl ne_aa0_bx))
  obtain ⟨fs, hr, hrun, hended, hW, hsame⟩ := X34.leave (v := none) (fun _ => rfl)
  refine ⟨_, _, pre0 _ ?_, hrun, hended, _, _, rfl, ?_, ⟨_, rfl⟩, hW, hsame.mono (by decide) (by decide)⟩
  · show Steps p.tables e below (s₁.setTop (mkF m 0 #[.val (.ref aa0), .val (.int pp1), .val (.int pp2), .val (.int pp3), .val (.int pp4), .val (.long qq5), .second, .val (.int pp6), .val (.long qq7), .second, .val (.int pp8), .val (.long qq9), .second, .val (.long qq10), .second, .val (.int pp11), .unset] [])) _
    refine XS.aloadN X0.here hx rfl (hb hby d3_0) rfl rfl ?_
    show Steps p.tables e below (s₁.setTop (mkF m 1 #[.val (.ref aa0), .val (.int pp1), .val (.int pp2), .val (.int pp3), .val (.int pp4), .val (.long qq5), .second, .val (.int pp6), .val (.long qq7), .second, .val (.int pp8), .val (.long qq9), .second, .val (.long qq10), .second, .val (.int pp11), .unset] [(.ref aa0)])) _
    refine st1 _ ?_
    show Steps p.tables e below (T1.setTop (mkF m 4 #[.val (.ref aa0), .val (.int pp1), .val (.int pp2), .val (.int pp3), .val (.int pp4), .val (.long qq5), .second, .val (.int pp6), .val (.long qq7), .second, .val (.int pp8), .val (.long qq9), .second, .val (.long qq10), .second, .val (.int pp11), .unset] [(.int (1 : Int32))])) _
    refine XS.iconst X1.here hx rfl (hb hby d3_4) ?_
    show Steps p.tables e below (T1.setTop (mkF m 5 #[.val (.ref aa0), .val (.int pp1), .val (.int pp2), .val (.int pp3), .val (.int pp4), .val (.long qq5), .second, .val (.int pp6), .val (.long qq7), .second, .val (.int pp8), .val (.long qq9), .second, .val (.long qq10), .second, .val (.int pp11), .unset] [(.int (1 : Int32)), (.int (1 : Int32))])) _
    refine XS.iadd X1.here hx rfl (hb hby d3_5) rfl ?_
    show Steps p.tables e below (T1.setTop (mkF m 6 #[.val (.ref aa0), .val (.int pp1), .val (.int pp2), .val (.int pp3), .val (.int pp4), .val (.long qq5), .second, .val (.int pp6), .val (.long qq7), .second, .val (.int pp8), .val (.long qq9), .second, .val (.long qq10), .second, .val (.int pp11), .unset] [(.int (2 : Int32))])) _
    refine XS.bipush X1.here hx rfl (hb hby d3_6) ?_
    show Steps p.tables e below (T1.setTop (mkF m 8 #[.val (.ref aa0), .val (.int pp1), .val (.int pp2), .val (.int pp3), .val (.int pp4), .val (.long qq5), .second, .val (.int pp6), .val (.long qq7), .second, .val (.int pp8), .val (.long qq9), .second, .val (.long qq10), .second, .val (.int pp11), .unset] [(.int (7 : Int32)), (.int (2 : Int32))])) _
    refine XS.imul X1.here hx rfl (hb hby d3_8) rfl ?_
    show Steps p.tables e below (T1.setTop (mkF m 9 #[.val (.ref aa0), .val (.int pp1), .val (.int pp2), .val (.int pp3), .val (.int pp4), .val (.long qq5), .second, .val (.int pp6), .val (.long qq7), .second, .val (.int pp8), .val (.long qq9), .second, .val (.long qq10), .second, .val (.int pp11), .unset] [(.int (14 : Int32))])) _
    refine XS.aloadN X1.here hx rfl (hb hby d3_9) rfl rfl ?_
    show Steps p.tables e below (T1.setTop (mkF m 10 #[.val (.ref aa0), .val (.int pp1), .val (.int pp2), .val (.int pp3), .val (.int pp4), .val (.long qq5), .second, .val (.int pp6), .val (.long qq7), .second, .val (.int pp8), .val (.long qq9), .second, .val (.long qq10), .second, .val (.int pp11), .unset] [(.ref aa0), (.int (14 : Int32))])) _
    refine st2 _ ?_
    show Steps p.tables e below (T2.setTop (mkF m 13 #[.val (.ref aa0), .val (.int pp1), .val (.int pp2), .val (.int pp3), .val (.int pp4), .val (.long qq5), .second, .val (.int pp6), .val (.long qq7), .second, .val (.int pp8), .val (.long qq9), .second, .val (.long qq10), .second, .val (.int pp11), .unset] [(.ref bx), (.int (14 : Int32))])) _
    refine X2.arraylength hx (by rw [e2]; exact Ar_3.1) (State.isArrayOf_alike hZ.alike Ar_3.2.1) (g := (mkF m 13 #[.val (.ref aa0), .val (.int pp1), .val (.int pp2), .val (.int pp3), .val (.int pp4), .val (.long qq5), .second, .val (.int pp6), .val (.long qq7), .second, .val (.int pp8), .val (.long qq9), .second, .val (.long qq10), .second, .val (.int pp11), .unset] [(.ref bx), (.int (14 : Int32))])) rfl rfl (hb hby d3_13) _ ?_
    rw [len_of Sz_3 Nn_3]
    show Steps p.tables e below (T2.setTop (mkF m 14 #[.val (.ref aa0), .val (.int pp1), .val (.int pp2), .val (.int pp3), .val (.int pp4), .val (.long qq5), .second, .val (.int pp6), .val (.long qq7), .second, .val (.int pp8), .val (.long qq9), .second, .val (.long qq10), .second, .val (.int pp11), .unset] [(.int (112 : Int32)), (.int (14 : Int32))])) _
    refine XS.icmpYes X2.here hx rfl (pc0 := 14) (pc' := 35) rfl (hb hby d3_14) rfl (flt hc14).2.2.2 (by decide) (by decide) ?_
    show Steps p.tables e below (T2.setTop (mkF m 35 #[.val (.ref aa0), .val (.int pp1), .val (.int pp2), .val (.int pp3), .val (.int pp4), .val (.long qq5), .second, .val (.int pp6), .val (.long qq7), .second, .val (.int pp8), .val (.long qq9), .second, .val (.long qq10), .second, .val (.int pp11), .unset] [])) _
    refine XS.aloadN X2.here hx rfl (hb hby d3_35) rfl rfl ?_
    show Steps p.tables e below (T2.setTop (mkF m 36 #[.val (.ref aa0), .val (.int pp1), .val (.int pp2), .val (.int pp3), .val (.int pp4), .val (.long qq5), .second, .val (.int pp6), .val (.long qq7), .second, .val (.int pp8), .val (.long qq9), .second, .val (.long qq10), .second, .val (.int pp11), .unset] [(.ref aa0)])) _
    refine XS.dup X2.here hx rfl (hb hby d3_36) rfl rfl ?_
    show Steps p.tables e below (T2.setTop (mkF m 37 #[.val (.ref aa0), .val (.int pp1), .val (.int pp2), .val (.int pp3), .val (.int pp4), .val (.long qq5), .second, .val (.int pp6), .val (.long qq7), .second, .val (.int pp8), .val (.long qq9), .second, .val (.long qq10), .second, .val (.int pp11), .unset] [(.ref aa0), (.ref aa0)])) _
    refine st4 _ ?_
    show Steps p.tables e below (T4.setTop (mkF m 40 #[.val (.ref aa0), .val (.int pp1), .val (.int pp2), .val (.int pp3), .val (.int pp4), .val (.long qq5), .second, .val (.int pp6), .val (.long qq7), .second, .val (.int pp8), .val (.long qq9), .second, .val (.long qq10), .second, .val (.int pp11), .unset] [(.int (1 : Int32)), (.ref aa0)])) _
    refine XS.dupX1 X4.here hx rfl (hb hby d3_40) rfl rfl rfl ?_
    show Steps p.tables e below (T4.setTop (mkF m 41 #[.val (.ref aa0), .val (.int pp1), .val (.int pp2), .val (.int pp3), .val (.int pp4), .val (.long qq5), .second, .val (.int pp6), .val (.long qq7), .second, .val (.int pp8), .val (.long qq9), .second, .val (.long qq10), .second, .val (.int pp11), .unset] [(.int (1 : Int32)), (.ref aa0), (.int (1 : Int32))])) _
    refine XS.iconst X4.here hx rfl (hb hby d3_41) ?_
    show Steps p.tables e below (T4.setTop (mkF m 42 #[.val (.ref aa0), .val (.int pp1), .val (.int pp2), .val (.int pp3), .val (.int pp4), .val (.long qq5), .second, .val (.int pp6), .val (.long qq7), .second, .val (.int pp8), .val (.long qq9), .second, .val (.long qq10), .second, .val (.int pp11), .unset] [(.int (1 : Int32)), (.int (1 : Int32)), (.ref aa0), (.int (1 : Int32))])) _
    refine XS.iadd X4.here hx rfl (hb hby d3_42) rfl ?_
    show Steps p.tables e below (T4.setTop (mkF m 43 #[.val (.ref aa0), .val (.int pp1), .val (.int pp2), .val (.int pp3), .val (.int pp4), .val (.long qq5), .second, .val (.int pp6), .val (.long qq7), .second, .val (.int pp8), .val (.long qq9), .second, .val (.long qq10), .second, .val (.int pp11), .unset] [(.int (2 : Int32)), (.ref aa0), (.int (1 : Int32))])) _
    refine st5 _ ?_
    show Steps p.tables e below (T5.setTop (mkF m 46 #[.val (.ref aa0), .val (.int pp1), .val (.int pp2), .val (.int pp3), .val (.int pp4), .val (.long qq5), .second, .val (.int pp6), .val (.long qq7), .second, .val (.int pp8), .val (.long qq9), .second, .val (.long qq10), .second, .val (.int pp11), .unset] [(.int (1 : Int32))])) _
    refine XS.bipush X5.here hx rfl (hb hby d3_46) ?_
    show Steps p.tables e below (T5.setTop (mkF m 48 #[.val (.ref aa0), .val (.int pp1), .val (.int pp2), .val (.int pp3), .val (.int pp4), .val (.long qq5), .second, .val (.int pp6), .val (.long qq7), .second, .val (.int pp8), .val (.long qq9), .second, .val (.long qq10), .second, .val (.int pp11), .unset] [(.int (7 : Int32)), (.int (1 : Int32))])) _
    refine XS.imul X5.here hx rfl (hb hby d3_48) rfl ?_
    show Steps p.tables e below (T5.setTop (mkF m 49 #[.val (.ref aa0), .val (.int pp1), .val (.int pp2), .val (.int pp3), .val (.int pp4), .val (.long qq5), .second, .val (.int pp6), .val (.long qq7), .second, .val (.int pp8), .val (.long qq9), .second, .val (.long qq10), .second, .val (.int pp11), .unset] [(.int (7 : Int32))])) _
    refine XS.istore X5.here hx rfl (hb hby d3_49) rfl (l' := #[.val (.ref aa0), .val (.int pp1), .val (.int pp2), .val (.int pp3), .val (.int pp4), .val (.long qq5), .second, .val (.int pp6), .val (.long qq7), .second, .val (.int pp8), .val (.long qq9), .second, .val (.long qq10), .second, .val (.int pp11), .val (.int (7 : Int32))]) rfl ?_
    show Steps p.tables e below (T5.setTop (mkF m 51 #[.val (.ref aa0), .val (.int pp1), .val (.int pp2), .val (.int pp3), .val (.int pp4), .val (.long qq5), .second, .val (.int pp6), .val (.long qq7), .second, .val (.int pp8), .val (.long qq9), .second, .val (.long qq10), .second, .val (.int pp11), .val (.int (7 : Int32))] [])) _
    refine XS.aloadN X5.here hx rfl (hb hby d3_51) rfl rfl ?_
    show Steps p.tables e below (T5.setTop (mkF m 52 #[.val (.ref aa0), .val (.int pp1), .val (.int pp2), .val (.int pp3), .val (.int pp4), .val (.long qq5), .second, .val (.int pp6), .val (.long qq7), .second, .val (.int pp8), .val (.long qq9), .second, .val (.long qq10), .second, .val (.int pp11), .val (.int (7 : Int32))] [(.ref aa0)])) _
    refine st7 _ ?_
    show Steps p.tables e below (T7.setTop (mkF m 55 #[.val (.ref aa0), .val (.int pp1), .val (.int pp2), .val (.int pp3), .val (.int pp4), .val (.long qq5), .second, .val (.int pp6), .val (.long qq7), .second, .val (.int pp8), .val (.long qq9), .second, .val (.long qq10), .second, .val (.int pp11), .val (.int (7 : Int32))] [(.ref bx)])) _
    refine XS.iload X7.here hx rfl (hb hby d3_55) rfl ?_
    show Steps p.tables e below (T7.setTop (mkF m 57 #[.val (.ref aa0), .val (.int pp1), .val (.int pp2), .val (.int pp3), .val (.int pp4), .val (.long qq5), .second, .val (.int pp6), .val (.long qq7), .second, .val (.int pp8), .val (.long qq9), .second, .val (.long qq10), .second, .val (.int pp11), .val (.int (7 : Int32))] [(.int (7 : Int32)), (.ref bx)])) _
    refine XS.iconst X7.here hx rfl (hb hby d3_57) ?_
    show Steps p.tables e below (T7.setTop (mkF m 58 #[.val (.ref aa0), .val (.int pp1), .val (.int pp2), .val (.int pp3), .val (.int pp4), .val (.long qq5), .second, .val (.int pp6), .val (.long qq7), .second, .val (.int pp8), .val (.long qq9), .second, .val (.long qq10), .second, .val (.int pp11), .val (.int (7 : Int32))] [(.int (0 : Int32)), (.int (7 : Int32)), (.ref bx)])) _
    refine XS.iadd X7.here hx rfl (hb hby d3_58) rfl ?_
    show Steps p.tables e below (T7.setTop (mkF m 59 #[.val (.ref aa0), .val (.int pp1), .val (.int pp2), .val (.int pp3), .val (.int pp4), .val (.long qq5), .second, .val (.int pp6), .val (.long qq7), .second, .val (.int pp8), .val (.long qq9), .second, .val (.long qq10), .second, .val (.int pp11), .val (.int (7 : Int32))] [(.int (7 : Int32)), (.ref bx)])) _
    refine XS.iloadN X7.here hx rfl (hb hby d3_59) rfl ?_
    show Steps p.tables e below (T7.setTop (mkF m 60 #[.val (.ref aa0), .val (.int pp1), .val (.int pp2), .val (.int pp3), .val (.int pp4), .val (.long qq5), .second, .val (.int pp6), .val (.long qq7), .second, .val (.int pp8), .val (.long qq9), .second, .val (.long qq10), .second, .val (.int pp11), .val (.int (7 : Int32))] [(.int pp1), (.int (7 : Int32)), (.ref bx)])) _
    refine XS.i2l X7.here hx rfl (hb hby d3_60) rfl ?_
    show Steps p.tables e below (T7.setTop (mkF m 61 #[.val (.ref aa0), .val (.int pp1), .val (.int pp2), .val (.int pp3), .val (.int pp4), .val (.long qq5), .second, .val (.int pp6), .val (.long qq7), .second, .val (.int pp8), .val (.long qq9), .second, .val (.long qq10), .second, .val (.int pp11), .val (.int (7 : Int32))] [(.long (pp1.toInt64)), (.int (7 : Int32)), (.ref bx)])) _
    refine XS.bipush X7.here hx rfl (hb hby d3_61) ?_
    show Steps p.tables e below (T7.setTop (mkF m 63 #[.val (.ref aa0), .val (.int pp1), .val (.int pp2), .val (.int pp3), .val (.int pp4), .val (.long qq5), .second, .val (.int pp6), .val (.long qq7), .second, .val (.int pp8), .val (.long qq9), .second, .val (.long qq10), .second, .val (.int pp11), .val (.int (7 : Int32))] [(.int (32 : Int32)), (.long (pp1.toInt64)), (.int (7 : Int32)), (.ref bx)])) _
    refine XS.lshl X7.here hx rfl (hb hby d3_63) rfl ?_
    show Steps p.tables e below (T7.setTop (mkF m 64 #[.val (.ref aa0), .val (.int pp1), .val (.int pp2), .val (.int pp3), .val (.int pp4), .val (.long qq5), .second, .val (.int pp6), .val (.long qq7), .second, .val (.int pp8), .val (.long qq9), .second, .val (.long qq10), .second, .val (.int pp11), .val (.int (7 : Int32))] [(.long ((pp1.toInt64) <<< ((32 : Int32) &&& 0x3f).toInt64)), (.int (7 : Int32)), (.ref bx)])) _
    refine XS.iloadN X7.here hx rfl (hb hby d3_64) rfl ?_
    show Steps p.tables e below (T7.setTop (mkF m 65 #[.val (.ref aa0), .val (.int pp1), .val (.int pp2), .val (.int pp3), .val (.int pp4), .val (.long qq5), .second, .val (.int pp6), .val (.long qq7), .second, .val (.int pp8), .val (.long qq9), .second, .val (.long qq10), .second, .val (.int pp11), .val (.int (7 : Int32))] [(.int pp2), (.long ((pp1.toInt64) <<< ((32 : Int32) &&& 0x3f).toInt64)), (.int (7 : Int32)), (.ref bx)])) _
    refine XS.i2l X7.here hx rfl (hb hby d3_65) rfl ?_
    show Steps p.tables e below (T7.setTop (mkF m 66 #[.val (.ref aa0), .val (.int pp1), .val (.int pp2), .val (.int pp3), .val (.int pp4), .val (.long qq5), .second, .val (.int pp6), .val (.long qq7), .second, .val (.int pp8), .val (.long qq9), .second, .val (.long qq10), .second, .val (.int pp11), .val (.int (7 : Int32))] [(.long (pp2.toInt64)), (.long ((pp1.toInt64) <<< ((32 : Int32) &&& 0x3f).toInt64)), (.int (7 : Int32)), (.ref bx)])) _
    refine X7.ldc2Long hx hown (mvT hZ (hw _ (List.mem_of_getElem? (i := 19) rfl))) (g := (mkF m 66 #[.val (.ref aa0), .val (.int pp1), .val (.int pp2), .val (.int pp3), .val (.int pp4), .val (.long qq5), .second, .val (.int pp6), .val (.long qq7), .second, .val (.int pp8), .val (.long qq9), .second, .val (.long qq10), .second, .val (.int pp11), .val (.int (7 : Int32))] [(.long (pp2.toInt64)), (.long ((pp1.toInt64) <<< ((32 : Int32) &&& 0x3f).toInt64)), (.int (7 : Int32)), (.ref bx)])) rfl (hb hby d3_66) _ ?_
    show Steps p.tables e below (T7.setTop (mkF m 69 #[.val (.ref aa0), .val (.int pp1), .val (.int pp2), .val (.int pp3), .val (.int pp4), .val (.long qq5), .second, .val (.int pp6), .val (.long qq7), .second, .val (.int pp8), .val (.long qq9), .second, .val (.long qq10), .second, .val (.int pp11), .val (.int (7 : Int32))] [(.long (4294967295 : Int64)), (.long (pp2.toInt64)), (.long ((pp1.toInt64) <<< ((32 : Int32) &&& 0x3f).toInt64)), (.int (7 : Int32)), (.ref bx)])) _
    refine XS.land X7.here hx rfl (hb hby d3_69) rfl ?_
    show Steps p.tables e below (T7.setTop (mkF m 70 #[.val (.ref aa0), .val (.int pp1), .val (.int pp2), .val (.int pp3), .val (.int pp4), .val (.long qq5), .second, .val (.int pp6), .val (.long qq7), .second, .val (.int pp8), .val (.long qq9), .second, .val (.long qq10), .second, .val (.int pp11), .val (.int (7 : Int32))] [(.long ((pp2.toInt64) &&& (4294967295 : Int64))), (.long ((pp1.toInt64) <<< ((32 : Int32) &&& 0x3f).toInt64)), (.int (7 : Int32)), (.ref bx)])) _
    refine XS.lor X7.here hx rfl (hb hby d3_70) rfl ?_
    show Steps p.tables e below (T7.setTop (mkF m 71 #[.val (.ref aa0), .val (.int pp1), .val (.int pp2), .val (.int pp3), .val (.int pp4), .val (.long qq5), .second, .val (.int pp6), .val (.long qq7), .second, .val (.int pp8), .val (.long qq9), .second, .val (.long qq10), .second, .val (.int pp11), .val (.int (7 : Int32))] [(.long (((pp1.toInt64) <<< ((32 : Int32) &&& 0x3f).toInt64) ||| ((pp2.toInt64) &&& (4294967295 : Int64)))), (.int (7 : Int32)), (.ref bx)])) _
    refine st10 _ ?_
    show Steps p.tables e below (T10.setTop (mkF m 72 #[.val (.ref aa0), .val (.int pp1), .val (.int pp2), .val (.int pp3), .val (.int pp4), .val (.long qq5), .second, .val (.int pp6), .val (.long qq7), .second, .val (.int pp8), .val (.long qq9), .second, .val (.long qq10), .second, .val (.int pp11), .val (.int (7 : Int32))] [])) _
    refine XS.aloadN X10.here hx rfl (hb hby d3_72) rfl rfl ?_
    show Steps p.tables e below (T10.setTop (mkF m 73 #[.val (.ref aa0), .val (.int pp1), .val (.int pp2), .val (.int pp3), .val (.int pp4), .val (.long qq5), .second, .val (.int pp6), .val (.long qq7), .second, .val (.int pp8), .val (.long qq9), .second, .val (.long qq10), .second, .val (.int pp11), .val (.int (7 : Int32))] [(.ref aa0)])) _
    refine st12 _ ?_
    show Steps p.tables e below (T12.setTop (mkF m 76 #[.val (.ref aa0), .val (.int pp1), .val (.int pp2), .val (.int pp3), .val (.int pp4), .val (.long qq5), .second, .val (.int pp6), .val (.long qq7), .second, .val (.int pp8), .val (.long qq9), .second, .val (.long qq10), .second, .val (.int pp11), .val (.int (7 : Int32))] [(.ref bx)])) _
    refine XS.iload X12.here hx rfl (hb hby d3_76) rfl ?_
    show Steps p.tables e below (T12.setTop (mkF m 78 #[.val (.ref aa0), .val (.int pp1), .val (.int pp2), .val (.int pp3), .val (.int pp4), .val (.long qq5), .second, .val (.int pp6), .val (.long qq7), .second, .val (.int pp8), .val (.long qq9), .second, .val (.long qq10), .second, .val (.int pp11), .val (.int (7 : Int32))] [(.int (7 : Int32)), (.ref bx)])) _
    refine XS.iconst X12.here hx rfl (hb hby d3_78) ?_
    show Steps p.tables e below (T12.setTop (mkF m 79 #[.val (.ref aa0), .val (.int pp1), .val (.int pp2), .val (.int pp3), .val (.int pp4), .val (.long qq5), .second, .val (.int pp6), .val (.long qq7), .second, .val (.int pp8), .val (.long qq9), .second, .val (.long qq10), .second, .val (.int pp11), .val (.int (7 : Int32))] [(.int (1 : Int32)), (.int (7 : Int32)), (.ref bx)])) _
    refine XS.iadd X12.here hx rfl (hb hby d3_79) rfl ?_
    show Steps p.tables e below (T12.setTop (mkF m 80 #[.val (.ref aa0), .val (.int pp1), .val (.int pp2), .val (.int pp3), .val (.int pp4), .val (.long qq5), .second, .val (.int pp6), .val (.long qq7), .second, .val (.int pp8), .val (.long qq9), .second, .val (.long qq10), .second, .val (.int pp11), .val (.int (7 : Int32))] [(.int (8 : Int32)), (.ref bx)])) _
    refine XS.iloadN X12.here hx rfl (hb hby d3_80) rfl ?_
    show Steps p.tables e below (T12.setTop (mkF m 81 #[.val (.ref aa0), .val (.int pp1), .val (.int pp2), .val (.int pp3), .val (.int pp4), .val (.long qq5), .second, .val (.int pp6), .val (.long qq7), .second, .val (.int pp8), .val (.long qq9), .second, .val (.long qq10), .second, .val (.int pp11), .val (.int (7 : Int32))] [(.int pp3), (.int (8 : Int32)), (.ref bx)])) _
    refine XS.i2l X12.here hx rfl (hb hby d3_81) rfl ?_
    show Steps p.tables e below (T12.setTop (mkF m 82 #[.val (.ref aa0), .val (.int pp1), .val (.int pp2), .val (.int pp3), .val (.int pp4), .val (.long qq5), .second, .val (.int pp6), .val (.long qq7), .second, .val (.int pp8), .val (.long qq9), .second, .val (.long qq10), .second, .val (.int pp11), .val (.int (7 : Int32))] [(.long (pp3.toInt64)), (.int (8 : Int32)), (.ref bx)])) _
    refine XS.bipush X12.here hx rfl (hb hby d3_82) ?_
    show Steps p.tables e below (T12.setTop (mkF m 84 #[.val (.ref aa0), .val (.int pp1), .val (.int pp2), .val (.int pp3), .val (.int pp4), .val (.long qq5), .second, .val (.int pp6), .val (.long qq7), .second, .val (.int pp8), .val (.long qq9), .second, .val (.long qq10), .second, .val (.int pp11), .val (.int (7 : Int32))] [(.int (32 : Int32)), (.long (pp3.toInt64)), (.int (8 : Int32)), (.ref bx)])) _
    refine XS.lshl X12.here hx rfl (hb hby d3_84) rfl ?_
    show Steps p.tables e below (T12.setTop (mkF m 85 #[.val (.ref aa0), .val (.int pp1), .val (.int pp2), .val (.int pp3), .val (.int pp4), .val (.long qq5), .second, .val (.int pp6), .val (.long qq7), .second, .val (.int pp8), .val (.long qq9), .second, .val (.long qq10), .second, .val (.int pp11), .val (.int (7 : Int32))] [(.long ((pp3.toInt64) <<< ((32 : Int32) &&& 0x3f).toInt64)), (.int (8 : Int32)), (.ref bx)])) _
    refine XS.iload X12.here hx rfl (hb hby d3_85) rfl ?_
    show Steps p.tables e below (T12.setTop (mkF m 87 #[.val (.ref aa0), .val (.int pp1), .val (.int pp2), .val (.int pp3), .val (.int pp4), .val (.long qq5), .second, .val (.int pp6), .val (.long qq7), .second, .val (.int pp8), .val (.long qq9), .second, .val (.long qq10), .second, .val (.int pp11), .val (.int (7 : Int32))] [(.int pp4), (.long ((pp3.toInt64) <<< ((32 : Int32) &&& 0x3f).toInt64)), (.int (8 : Int32)), (.ref bx)])) _
    refine XS.i2l X12.here hx rfl (hb hby d3_87) rfl ?_
    show Steps p.tables e below (T12.setTop (mkF m 88 #[.val (.ref aa0), .val (.int pp1), .val (.int pp2), .val (.int pp3), .val (.int pp4), .val (.long qq5), .second, .val (.int pp6), .val (.long qq7), .second, .val (.int pp8), .val (.long qq9), .second, .val (.long qq10), .second, .val (.int pp11), .val (.int (7 : Int32))] [(.long (pp4.toInt64)), (.long ((pp3.toInt64) <<< ((32 : Int32) &&& 0x3f).toInt64)), (.int (8 : Int32)), (.ref bx)])) _
    refine X12.ldc2Long hx hown (mvT hZ (hw _ (List.mem_of_getElem? (i := 19) rfl))) (g := (mkF m 88 #[.val (.ref aa0), .val (.int pp1), .val (.int pp2), .val (.int pp3), .val (.int pp4), .val (.long qq5), .second, .val (.int pp6), .val (.long qq7), .second, .val (.int pp8), .val (.long qq9), .second, .val (.long qq10), .second, .val (.int pp11), .val (.int (7 : Int32))] [(.long (pp4.toInt64)), (.long ((pp3.toInt64) <<< ((32 : Int32) &&& 0x3f).toInt64)), (.int (8 : Int32)), (.ref bx)])) rfl (hb hby d3_88) _ ?_
    show Steps p.tables e below (T12.setTop (mkF m 91 #[.val (.ref aa0), .val (.int pp1), .val (.int pp2), .val (.int pp3), .val (.int pp4), .val (.long qq5), .second, .val (.int pp6), .val (.long qq7), .second, .val (.int pp8), .val (.long qq9), .second, .val (.long qq10), .second, .val (.int pp11), .val (.int (7 : Int32))] [(.long (4294967295 : Int64)), (.long (pp4.toInt64)), (.long ((pp3.toInt64) <<< ((32 : Int32) &&& 0x3f).toInt64)), (.int (8 : Int32)), (.ref bx)])) _
    refine XS.land X12.here hx rfl (hb hby d3_91) rfl ?_
    show Steps p.tables e below (T12.setTop (mkF m 92 #[.val (.ref aa0), .val (.int pp1), .val (.int pp2), .val (.int pp3), .val (.int pp4), .val (.long qq5), .second, .val (.int pp6), .val (.long qq7), .second, .val (.int pp8), .val (.long qq9), .second, .val (.long qq10), .second, .val (.int pp11), .val (.int (7 : Int32))] [(.long ((pp4.toInt64) &&& (4294967295 : Int64))), (.long ((pp3.toInt64) <<< ((32 : Int32) &&& 0x3f).toInt64)), (.int (8 : Int32)), (.ref bx)])) _
    refine XS.lor X12.here hx rfl (hb hby d3_92) rfl ?_
    show Steps p.tables e below (T12.setTop (mkF m 93 #[.val (.ref aa0), .val (.int pp1), .val (.int pp2), .val (.int pp3), .val (.int pp4), .val (.long qq5), .second, .val (.int pp6), .val (.long qq7), .second, .val (.int pp8), .val (.long qq9), .second, .val (.long qq10), .second, .val (.int pp11), .val (.int (7 : Int32))] [(.long (((pp3.toInt64) <<< ((32 : Int32) &&& 0x3f).toInt64) ||| ((pp4.toInt64) &&& (4294967295 : Int64)))), (.int (8 : Int32)), (.ref bx)])) _
    refine st14 _ ?_
    show Steps p.tables e below (T14.setTop (mkF m 94 #[.val (.ref aa0), .val (.int pp1), .val (.int pp2), .val (.int pp3), .val (.int pp4), .val (.long qq5), .second, .val (.int pp6), .val (.long qq7), .second, .val (.int pp8), .val (.long qq9), .second, .val (.long qq10), .second, .val (.int pp11), .val (.int (7 : Int32))] [])) _
    refine XS.aloadN X14.here hx rfl (hb hby d3_94) rfl rfl ?_
    show Steps p.tables e below (T14.setTop (mkF m 95 #[.val (.ref aa0), .val (.int pp1), .val (.int pp2), .val (.int pp3), .val (.int pp4), .val (.long qq5), .second, .val (.int pp6), .val (.long qq7), .second, .val (.int pp8), .val (.long qq9), .second, .val (.long qq10), .second, .val (.int pp11), .val (.int (7 : Int32))] [(.ref aa0)])) _
    refine st16 _ ?_
    show Steps p.tables e below (T16.setTop (mkF m 98 #[.val (.ref aa0), .val (.int pp1), .val (.int pp2), .val (.int pp3), .val (.int pp4), .val (.long qq5), .second, .val (.int pp6), .val (.long qq7), .second, .val (.int pp8), .val (.long qq9), .second, .val (.long qq10), .second, .val (.int pp11), .val (.int (7 : Int32))] [(.ref bx)])) _
    refine XS.iload X16.here hx rfl (hb hby d3_98) rfl ?_
    show Steps p.tables e below (T16.setTop (mkF m 100 #[.val (.ref aa0), .val (.int pp1), .val (.int pp2), .val (.int pp3), .val (.int pp4), .val (.long qq5), .second, .val (.int pp6), .val (.long qq7), .second, .val (.int pp8), .val (.long qq9), .second, .val (.long qq10), .second, .val (.int pp11), .val (.int (7 : Int32))] [(.int (7 : Int32)), (.ref bx)])) _
    refine XS.iconst X16.here hx rfl (hb hby d3_100) ?_
    show Steps p.tables e below (T16.setTop (mkF m 101 #[.val (.ref aa0), .val (.int pp1), .val (.int pp2), .val (.int pp3), .val (.int pp4), .val (.long qq5), .second, .val (.int pp6), .val (.long qq7), .second, .val (.int pp8), .val (.long qq9), .second, .val (.long qq10), .second, .val (.int pp11), .val (.int (7 : Int32))] [(.int (2 : Int32)), (.int (7 : Int32)), (.ref bx)])) _
    refine XS.iadd X16.here hx rfl (hb hby d3_101) rfl ?_
    show Steps p.tables e below (T16.setTop (mkF m 102 #[.val (.ref aa0), .val (.int pp1), .val (.int pp2), .val (.int pp3), .val (.int pp4), .val (.long qq5), .second, .val (.int pp6), .val (.long qq7), .second, .val (.int pp8), .val (.long qq9), .second, .val (.long qq10), .second, .val (.int pp11), .val (.int (7 : Int32))] [(.int (9 : Int32)), (.ref bx)])) _
    refine XS.lload X16.here hx rfl (hb hby d3_102) rfl ?_
    show Steps p.tables e below (T16.setTop (mkF m 104 #[.val (.ref aa0), .val (.int pp1), .val (.int pp2), .val (.int pp3), .val (.int pp4), .val (.long qq5), .second, .val (.int pp6), .val (.long qq7), .second, .val (.int pp8), .val (.long qq9), .second, .val (.long qq10), .second, .val (.int pp11), .val (.int (7 : Int32))] [(.long qq5), (.int (9 : Int32)), (.ref bx)])) _
    refine st18 _ ?_
    show Steps p.tables e below (T18.setTop (mkF m 105 #[.val (.ref aa0), .val (.int pp1), .val (.int pp2), .val (.int pp3), .val (.int pp4), .val (.long qq5), .second, .val (.int pp6), .val (.long qq7), .second, .val (.int pp8), .val (.long qq9), .second, .val (.long qq10), .second, .val (.int pp11), .val (.int (7 : Int32))] [])) _
    refine XS.aloadN X18.here hx rfl (hb hby d3_105) rfl rfl ?_
    show Steps p.tables e below (T18.setTop (mkF m 106 #[.val (.ref aa0), .val (.int pp1), .val (.int pp2), .val (.int pp3), .val (.int pp4), .val (.long qq5), .second, .val (.int pp6), .val (.long qq7), .second, .val (.int pp8), .val (.long qq9), .second, .val (.long qq10), .second, .val (.int pp11), .val (.int (7 : Int32))] [(.ref aa0)])) _
    refine st20 _ ?_
    show Steps p.tables e below (T20.setTop (mkF m 109 #[.val (.ref aa0), .val (.int pp1), .val (.int pp2), .val (.int pp3), .val (.int pp4), .val (.long qq5), .second, .val (.int pp6), .val (.long qq7), .second, .val (.int pp8), .val (.long qq9), .second, .val (.long qq10), .second, .val (.int pp11), .val (.int (7 : Int32))] [(.ref bx)])) _
    refine XS.iload X20.here hx rfl (hb hby d3_109) rfl ?_
    show Steps p.tables e below (T20.setTop (mkF m 111 #[.val (.ref aa0), .val (.int pp1), .val (.int pp2), .val (.int pp3), .val (.int pp4), .val (.long qq5), .second, .val (.int pp6), .val (.long qq7), .second, .val (.int pp8), .val (.long qq9), .second, .val (.long qq10), .second, .val (.int pp11), .val (.int (7 : Int32))] [(.int (7 : Int32)), (.ref bx)])) _
    refine XS.iconst X20.here hx rfl (hb hby d3_111) ?_
    show Steps p.tables e below (T20.setTop (mkF m 112 #[.val (.ref aa0), .val (.int pp1), .val (.int pp2), .val (.int pp3), .val (.int pp4), .val (.long qq5), .second, .val (.int pp6), .val (.long qq7), .second, .val (.int pp8), .val (.long qq9), .second, .val (.long qq10), .second, .val (.int pp11), .val (.int (7 : Int32))] [(.int (3 : Int32)), (.int (7 : Int32)), (.ref bx)])) _
    refine XS.iadd X20.here hx rfl (hb hby d3_112) rfl ?_
    show Steps p.tables e below (T20.setTop (mkF m 113 #[.val (.ref aa0), .val (.int pp1), .val (.int pp2), .val (.int pp3), .val (.int pp4), .val (.long qq5), .second, .val (.int pp6), .val (.long qq7), .second, .val (.int pp8), .val (.long qq9), .second, .val (.long qq10), .second, .val (.int pp11), .val (.int (7 : Int32))] [(.int (10 : Int32)), (.ref bx)])) _
    refine XS.iload X20.here hx rfl (hb hby d3_113) rfl ?_
    show Steps p.tables e below (T20.setTop (mkF m 115 #[.val (.ref aa0), .val (.int pp1), .val (.int pp2), .val (.int pp3), .val (.int pp4), .val (.long qq5), .second, .val (.int pp6), .val (.long qq7), .second, .val (.int pp8), .val (.long qq9), .second, .val (.long qq10), .second, .val (.int pp11), .val (.int (7 : Int32))] [(.int pp6), (.int (10 : Int32)), (.ref bx)])) _
    refine XS.i2l X20.here hx rfl (hb hby d3_115) rfl ?_
    show Steps p.tables e below (T20.setTop (mkF m 116 #[.val (.ref aa0), .val (.int pp1), .val (.int pp2), .val (.int pp3), .val (.int pp4), .val (.long qq5), .second, .val (.int pp6), .val (.long qq7), .second, .val (.int pp8), .val (.long qq9), .second, .val (.long qq10), .second, .val (.int pp11), .val (.int (7 : Int32))] [(.long (pp6.toInt64)), (.int (10 : Int32)), (.ref bx)])) _
    refine XS.bipush X20.here hx rfl (hb hby d3_116) ?_
    show Steps p.tables e below (T20.setTop (mkF m 118 #[.val (.ref aa0), .val (.int pp1), .val (.int pp2), .val (.int pp3), .val (.int pp4), .val (.long qq5), .second, .val (.int pp6), .val (.long qq7), .second, .val (.int pp8), .val (.long qq9), .second, .val (.long qq10), .second, .val (.int pp11), .val (.int (7 : Int32))] [(.int (40 : Int32)), (.long (pp6.toInt64)), (.int (10 : Int32)), (.ref bx)])) _
    refine XS.lshl X20.here hx rfl (hb hby d3_118) rfl ?_
    show Steps p.tables e below (T20.setTop (mkF m 119 #[.val (.ref aa0), .val (.int pp1), .val (.int pp2), .val (.int pp3), .val (.int pp4), .val (.long qq5), .second, .val (.int pp6), .val (.long qq7), .second, .val (.int pp8), .val (.long qq9), .second, .val (.long qq10), .second, .val (.int pp11), .val (.int (7 : Int32))] [(.long ((pp6.toInt64) <<< ((40 : Int32) &&& 0x3f).toInt64)), (.int (10 : Int32)), (.ref bx)])) _
    refine XS.lload X20.here hx rfl (hb hby d3_119) rfl ?_
    show Steps p.tables e below (T20.setTop (mkF m 121 #[.val (.ref aa0), .val (.int pp1), .val (.int pp2), .val (.int pp3), .val (.int pp4), .val (.long qq5), .second, .val (.int pp6), .val (.long qq7), .second, .val (.int pp8), .val (.long qq9), .second, .val (.long qq10), .second, .val (.int pp11), .val (.int (7 : Int32))] [(.long qq7), (.long ((pp6.toInt64) <<< ((40 : Int32) &&& 0x3f).toInt64)), (.int (10 : Int32)), (.ref bx)])) _
    refine XS.lor X20.here hx rfl (hb hby d3_121) rfl ?_
    show Steps p.tables e below (T20.setTop (mkF m 122 #[.val (.ref aa0), .val (.int pp1), .val (.int pp2), .val (.int pp3), .val (.int pp4), .val (.long qq5), .second, .val (.int pp6), .val (.long qq7), .second, .val (.int pp8), .val (.long qq9), .second, .val (.long qq10), .second, .val (.int pp11), .val (.int (7 : Int32))] [(.long (((pp6.toInt64) <<< ((40 : Int32) &&& 0x3f).toInt64) ||| qq7)), (.int (10 : Int32)), (.ref bx)])) _
    refine st22 _ ?_
    show Steps p.tables e below (T22.setTop (mkF m 123 #[.val (.ref aa0), .val (.int pp1), .val (.int pp2), .val (.int pp3), .val (.int pp4), .val (.long qq5), .second, .val (.int pp6), .val (.long qq7), .second, .val (.int pp8), .val (.long qq9), .second, .val (.long qq10), .second, .val (.int pp11), .val (.int (7 : Int32))] [])) _
    refine XS.aloadN X22.here hx rfl (hb hby d3_123) rfl rfl ?_
    show Steps p.tables e below (T22.setTop (mkF m 124 #[.val (.ref aa0), .val (.int pp1), .val (.int pp2), .val (.int pp3), .val (.int pp4), .val (.long qq5), .second, .val (.int pp6), .val (.long qq7), .second, .val (.int pp8), .val (.long qq9), .second, .val (.long qq10), .second, .val (.int pp11), .val (.int (7 : Int32))] [(.ref aa0)])) _
    refine st24 _ ?_
    show Steps p.tables e below (T24.setTop (mkF m 127 #[.val (.ref aa0), .val (.int pp1), .val (.int pp2), .val (.int pp3), .val (.int pp4), .val (.long qq5), .second, .val (.int pp6), .val (.long qq7), .second, .val (.int pp8), .val (.long qq9), .second, .val (.long qq10), .second, .val (.int pp11), .val (.int (7 : Int32))] [(.ref bx)])) _
    refine XS.iload X24.here hx rfl (hb hby d3_127) rfl ?_
    show Steps p.tables e below (T24.setTop (mkF m 129 #[.val (.ref aa0), .val (.int pp1), .val (.int pp2), .val (.int pp3), .val (.int pp4), .val (.long qq5), .second, .val (.int pp6), .val (.long qq7), .second, .val (.int pp8), .val (.long qq9), .second, .val (.long qq10), .second, .val (.int pp11), .val (.int (7 : Int32))] [(.int (7 : Int32)), (.ref bx)])) _
    refine XS.iconst X24.here hx rfl (hb hby d3_129) ?_
    show Steps p.tables e below (T24.setTop (mkF m 130 #[.val (.ref aa0), .val (.int pp1), .val (.int pp2), .val (.int pp3), .val (.int pp4), .val (.long qq5), .second, .val (.int pp6), .val (.long qq7), .second, .val (.int pp8), .val (.long qq9), .second, .val (.long qq10), .second, .val (.int pp11), .val (.int (7 : Int32))] [(.int (4 : Int32)), (.int (7 : Int32)), (.ref bx)])) _
    refine XS.iadd X24.here hx rfl (hb hby d3_130) rfl ?_
    show Steps p.tables e below (T24.setTop (mkF m 131 #[.val (.ref aa0), .val (.int pp1), .val (.int pp2), .val (.int pp3), .val (.int pp4), .val (.long qq5), .second, .val (.int pp6), .val (.long qq7), .second, .val (.int pp8), .val (.long qq9), .second, .val (.long qq10), .second, .val (.int pp11), .val (.int (7 : Int32))] [(.int (11 : Int32)), (.ref bx)])) _
    refine XS.iload X24.here hx rfl (hb hby d3_131) rfl ?_
    show Steps p.tables e below (T24.setTop (mkF m 133 #[.val (.ref aa0), .val (.int pp1), .val (.int pp2), .val (.int pp3), .val (.int pp4), .val (.long qq5), .second, .val (.int pp6), .val (.long qq7), .second, .val (.int pp8), .val (.long qq9), .second, .val (.long qq10), .second, .val (.int pp11), .val (.int (7 : Int32))] [(.int pp8), (.int (11 : Int32)), (.ref bx)])) _
    refine XS.i2l X24.here hx rfl (hb hby d3_133) rfl ?_
    show Steps p.tables e below (T24.setTop (mkF m 134 #[.val (.ref aa0), .val (.int pp1), .val (.int pp2), .val (.int pp3), .val (.int pp4), .val (.long qq5), .second, .val (.int pp6), .val (.long qq7), .second, .val (.int pp8), .val (.long qq9), .second, .val (.long qq10), .second, .val (.int pp11), .val (.int (7 : Int32))] [(.long (pp8.toInt64)), (.int (11 : Int32)), (.ref bx)])) _
    refine XS.bipush X24.here hx rfl (hb hby d3_134) ?_
    show Steps p.tables e below (T24.setTop (mkF m 136 #[.val (.ref aa0), .val (.int pp1), .val (.int pp2), .val (.int pp3), .val (.int pp4), .val (.long qq5), .second, .val (.int pp6), .val (.long qq7), .second, .val (.int pp8), .val (.long qq9), .second, .val (.long qq10), .second, .val (.int pp11), .val (.int (7 : Int32))] [(.int (32 : Int32)), (.long (pp8.toInt64)), (.int (11 : Int32)), (.ref bx)])) _
    refine XS.lshl X24.here hx rfl (hb hby d3_136) rfl ?_
    show Steps p.tables e below (T24.setTop (mkF m 137 #[.val (.ref aa0), .val (.int pp1), .val (.int pp2), .val (.int pp3), .val (.int pp4), .val (.long qq5), .second, .val (.int pp6), .val (.long qq7), .second, .val (.int pp8), .val (.long qq9), .second, .val (.long qq10), .second, .val (.int pp11), .val (.int (7 : Int32))] [(.long ((pp8.toInt64) <<< ((32 : Int32) &&& 0x3f).toInt64)), (.int (11 : Int32)), (.ref bx)])) _
    refine XS.iload X24.here hx rfl (hb hby d3_137) rfl ?_
    show Steps p.tables e below (T24.setTop (mkF m 139 #[.val (.ref aa0), .val (.int pp1), .val (.int pp2), .val (.int pp3), .val (.int pp4), .val (.long qq5), .second, .val (.int pp6), .val (.long qq7), .second, .val (.int pp8), .val (.long qq9), .second, .val (.long qq10), .second, .val (.int pp11), .val (.int (7 : Int32))] [(.int pp11), (.long ((pp8.toInt64) <<< ((32 : Int32) &&& 0x3f).toInt64)), (.int (11 : Int32)), (.ref bx)])) _
    refine XS.i2l X24.here hx rfl (hb hby d3_139) rfl ?_
    show Steps p.tables e below (T24.setTop (mkF m 140 #[.val (.ref aa0), .val (.int pp1), .val (.int pp2), .val (.int pp3), .val (.int pp4), .val (.long qq5), .second, .val (.int pp6), .val (.long qq7), .second, .val (.int pp8), .val (.long qq9), .second, .val (.long qq10), .second, .val (.int pp11), .val (.int (7 : Int32))] [(.long (pp11.toInt64)), (.long ((pp8.toInt64) <<< ((32 : Int32) &&& 0x3f).toInt64)), (.int (11 : Int32)), (.ref bx)])) _
    refine XS.lor X24.here hx rfl (hb hby d3_140) rfl ?_
    show Steps p.tables e below (T24.setTop (mkF m 141 #[.val (.ref aa0), .val (.int pp1), .val (.int pp2), .val (.int pp3), .val (.int pp4), .val (.long qq5), .second, .val (.int pp6), .val (.long qq7), .second, .val (.int pp8), .val (.long qq9), .second, .val (.long qq10), .second, .val (.int pp11), .val (.int (7 : Int32))] [(.long (((pp8.toInt64) <<< ((32 : Int32) &&& 0x3f).toInt64) ||| (pp11.toInt64))), (.int (11 : Int32)), (.ref bx)])) _
    refine st26 _ ?_
    show Steps p.tables e below (T26.setTop (mkF m 142 #[.val (.ref aa0), .val (.int pp1), .val (.int pp2), .val (.int pp3), .val (.int pp4), .val (.long qq5), .second, .val (.int pp6), .val (.long qq7), .second, .val (.int pp8), .val (.long qq9), .second, .val (.long qq10), .second, .val (.int pp11), .val (.int (7 : Int32))] [])) _
    refine XS.aloadN X26.here hx rfl (hb hby d3_142) rfl rfl ?_
    show Steps p.tables e below (T26.setTop (mkF m 143 #[.val (.ref aa0), .val (.int pp1), .val (.int pp2), .val (.int pp3), .val (.int pp4), .val (.long qq5), .second, .val (.int pp6), .val (.long qq7), .second, .val (.int pp8), .val (.long qq9), .second, .val (.long qq10), .second, .val (.int pp11), .val (.int (7 : Int32))] [(.ref aa0)])) _
    refine st28 _ ?_
    show Steps p.tables e below (T28.setTop (mkF m 146 #[.val (.ref aa0), .val (.int pp1), .val (.int pp2), .val (.int pp3), .val (.int pp4), .val (.long qq5), .second, .val (.int pp6), .val (.long qq7), .second, .val (.int pp8), .val (.long qq9), .second, .val (.long qq10), .second, .val (.int pp11), .val (.int (7 : Int32))] [(.ref bx)])) _
    refine XS.iload X28.here hx rfl (hb hby d3_146) rfl ?_
    show Steps p.tables e below (T28.setTop (mkF m 148 #[.val (.ref aa0), .val (.int pp1), .val (.int pp2), .val (.int pp3), .val (.int pp4), .val (.long qq5), .second, .val (.int pp6), .val (.long qq7), .second, .val (.int pp8), .val (.long qq9), .second, .val (.long qq10), .second, .val (.int pp11), .val (.int (7 : Int32))] [(.int (7 : Int32)), (.ref bx)])) _
    refine XS.iconst X28.here hx rfl (hb hby d3_148) ?_
    show Steps p.tables e below (T28.setTop (mkF m 149 #[.val (.ref aa0), .val (.int pp1), .val (.int pp2), .val (.int pp3), .val (.int pp4), .val (.long qq5), .second, .val (.int pp6), .val (.long qq7), .second, .val (.int pp8), .val (.long qq9), .second, .val (.long qq10), .second, .val (.int pp11), .val (.int (7 : Int32))] [(.int (5 : Int32)), (.int (7 : Int32)), (.ref bx)])) _
    refine XS.iadd X28.here hx rfl (hb hby d3_149) rfl ?_
    show Steps p.tables e below (T28.setTop (mkF m 150 #[.val (.ref aa0), .val (.int pp1), .val (.int pp2), .val (.int pp3), .val (.int pp4), .val (.long qq5), .second, .val (.int pp6), .val (.long qq7), .second, .val (.int pp8), .val (.long qq9), .second, .val (.long qq10), .second, .val (.int pp11), .val (.int (7 : Int32))] [(.int (12 : Int32)), (.ref bx)])) _
    refine XS.lload X28.here hx rfl (hb hby d3_150) rfl ?_
    show Steps p.tables e below (T28.setTop (mkF m 152 #[.val (.ref aa0), .val (.int pp1), .val (.int pp2), .val (.int pp3), .val (.int pp4), .val (.long qq5), .second, .val (.int pp6), .val (.long qq7), .second, .val (.int pp8), .val (.long qq9), .second, .val (.long qq10), .second, .val (.int pp11), .val (.int (7 : Int32))] [(.long qq9), (.int (12 : Int32)), (.ref bx)])) _
    refine st30 _ ?_
    show Steps p.tables e below (T30.setTop (mkF m 153 #[.val (.ref aa0), .val (.int pp1), .val (.int pp2), .val (.int pp3), .val (.int pp4), .val (.long qq5), .second, .val (.int pp6), .val (.long qq7), .second, .val (.int pp8), .val (.long qq9), .second, .val (.long qq10), .second, .val (.int pp11), .val (.int (7 : Int32))] [])) _
    refine XS.aloadN X30.here hx rfl (hb hby d3_153) rfl rfl ?_
    show Steps p.tables e below (T30.setTop (mkF m 154 #[.val (.ref aa0), .val (.int pp1), .val (.int pp2), .val (.int pp3), .val (.int pp4), .val (.long qq5), .second, .val (.int pp6), .val (.long qq7), .second, .val (.int pp8), .val (.long qq9), .second, .val (.long qq10), .second, .val (.int pp11), .val (.int (7 : Int32))] [(.ref aa0)])) _
    refine st32 _ ?_
    show Steps p.tables e below (T32.setTop (mkF m 157 #[.val (.ref aa0), .val (.int pp1), .val (.int pp2), .val (.int pp3), .val (.int pp4), .val (.long qq5), .second, .val (.int pp6), .val (.long qq7), .second, .val (.int pp8), .val (.long qq9), .second, .val (.long qq10), .second, .val (.int pp11), .val (.int (7 : Int32))] [(.ref bx)])) _
    refine XS.iload X32.here hx rfl (hb hby d3_157) rfl ?_
    show Steps p.tables e below (T32.setTop (mkF m 159 #[.val (.ref aa0), .val (.int pp1), .val (.int pp2), .val (.int pp3), .val (.int pp4), .val (.long qq5), .second, .val (.int pp6), .val (.long qq7), .second, .val (.int pp8), .val (.long qq9), .second, .val (.long qq10), .second, .val (.int pp11), .val (.int (7 : Int32))] [(.int (7 : Int32)), (.ref bx)])) _
    refine XS.iconst X32.here hx rfl (hb hby d3_159) ?_
    show Steps p.tables e below (T32.setTop (mkF m 160 #[.val (.ref aa0), .val (.int pp1), .val (.int pp2), .val (.int pp3), .val (.int pp4), .val (.long qq5), .second, .val (.int pp6), .val (.long qq7), .second, .val (.int pp8), .val (.long qq9), .second, .val (.long qq10), .second, .val (.int pp11), .val (.int (7 : Int32))] [(.int (5 : Int32)), (.int (7 : Int32)), (.ref bx)])) _
    refine XS.iadd X32.here hx rfl (hb hby d3_160) rfl ?_
    show Steps p.tables e below (T32.setTop (mkF m 161 #[.val (.ref aa0), .val (.int pp1), .val (.int pp2), .val (.int pp3), .val (.int pp4), .val (.long qq5), .second, .val (.int pp6), .val (.long qq7), .second, .val (.int pp8), .val (.long qq9), .second, .val (.long qq10), .second, .val (.int pp11), .val (.int (7 : Int32))] [(.int (12 : Int32)), (.ref bx)])) _
    refine XS.iconst X32.here hx rfl (hb hby d3_161) ?_
    show Steps p.tables e below (T32.setTop (mkF m 162 #[.val (.ref aa0), .val (.int pp1), .val (.int pp2), .val (.int pp3), .val (.int pp4), .val (.long qq5), .second, .val (.int pp6), .val (.long qq7), .second, .val (.int pp8), .val (.long qq9), .second, .val (.long qq10), .second, .val (.int pp11), .val (.int (7 : Int32))] [(.int (1 : Int32)), (.int (12 : Int32)), (.ref bx)])) _
    refine XS.iadd X32.here hx rfl (hb hby d3_162) rfl ?_
    show Steps p.tables e below (T32.setTop (mkF m 163 #[.val (.ref aa0), .val (.int pp1), .val (.int pp2), .val (.int pp3), .val (.int pp4), .val (.long qq5), .second, .val (.int pp6), .val (.long qq7), .second, .val (.int pp8), .val (.long qq9), .second, .val (.long qq10), .second, .val (.int pp11), .val (.int (7 : Int32))] [(.int (13 : Int32)), (.ref bx)])) _
    refine XS.lload X32.here hx rfl (hb hby d3_163) rfl ?_
    show Steps p.tables e below (T32.setTop (mkF m 165 #[.val (.ref aa0), .val (.int pp1), .val (.int pp2), .val (.int pp3), .val (.int pp4), .val (.long qq5), .second, .val (.int pp6), .val (.long qq7), .second, .val (.int pp8), .val (.long qq9), .second, .val (.long qq10), .second, .val (.int pp11), .val (.int (7 : Int32))] [(.long qq10), (.int (13 : Int32)), (.ref bx)])) _
    refine st34 _ ?_
    show Steps p.tables e below (T34.setTop (mkF m 166 #[.val (.ref aa0), .val (.int pp1), .val (.int pp2), .val (.int pp3), .val (.int pp4), .val (.long qq5), .second, .val (.int pp6), .val (.long qq7), .second, .val (.int pp8), .val (.long qq9), .second, .val (.long qq10), .second, .val (.int pp11), .val (.int (7 : Int32))] [])) _
    exact X34.returnOut hx Bd.returns (hb hby d3_166) hr
  · show Q3_1 Z aa0 pp1 pp2 pp3 pp4 qq5 pp6 qq7 pp8 qq9 qq10 pp11 bx kx vx h0 n0 _ T34.heap _
    rw [e34]
    exact ⟨(List.set (List.set (List.set (List.set (List.set (List.set (List.set vx 7 (.long (((pp1.toInt64) <<< ((32 : Int32) &&& 0x3f).toInt64) ||| ((pp2.toInt64) &&& (4294967295 : Int64))))) 8 (.long (((pp3.toInt64) <<< ((32 : Int32) &&& 0x3f).toInt64) ||| ((pp4.toInt64) &&& (4294967295 : Int64))))) 9 (.long qq5)) 10 (.long (((pp6.toInt64) <<< ((40 : Int32) &&& 0x3f).toInt64) ||| qq7))) 11 (.long (((pp8.toInt64) <<< ((32 : Int32) &&& 0x3f).toInt64) ||| (pp11.toInt64)))) 12 (.long qq9)) 13 (.long qq10)), rfl, N34, K34, F_35, V34, F_36, (by simp only [List.length_set]; exact hl), (by simp [List.getD_eq_getElem?_getD, List.getElem?_set, hl]), (by simp [List.getD_eq_getElem?_getD, List.getElem?_set])⟩
theorem d4_0 : decode prog_38_method_11_code 0 = .ok (.aload_n 0, 1) := by decide +kernel
theorem d4_1 : decode prog_38_method_11_code 1 = .ok (.getfield 11, 3) := by decide +kernel
theorem d4_4 : decode prog_38_method_11_code 4 = .ok (.iload_n 1, 1) := by decide +kernel
theorem d4_5 : decode prog_38_method_11_code 5 = .ok (.bipush 7, 2) := by decide +kernel
theorem d4_7 : decode prog_38_method_11_code 7 = .ok (.imul, 1) := by decide +kernel
theorem d4_8 : decode prog_38_method_11_code 8 = .ok (.iconst 1, 1) := by decide +kernel
theorem d4_9 : decode prog_38_method_11_code 9 = .ok (.iadd, 1) := by decide +kernel
theorem d4_10 : decode prog_38_method_11_code 10 = .ok (.laload, 1) := by decide +kernel
theorem d4_11 : decode prog_38_method_11_code 11 = .ok (.lstore_n 3, 1) := by decide +kernel
theorem d4_12 : decode prog_38_method_11_code 12 = .ok (.iload_n 2, 1) := by decide +kernel
theorem d4_13 : decode prog_38_method_11_code 13 = .ok (.ifCond .eq 10, 3) := by decide +kernel
theorem d4_16 : decode prog_38_method_11_code 16 = .ok (.lload_n 3, 1) := by decide +kernel
theorem d4_17 : decode prog_38_method_11_code 17 = .ok (.bipush 32, 2) := by decide +kernel
theorem d4_19 : decode prog_38_method_11_code 19 = .ok (.lushr, 1) := by decide +kernel
theorem d4_20 : decode prog_38_method_11_code 20 = .ok (.goto 4, 3) := by decide +kernel
theorem d4_24 : decode prog_38_method_11_code 24 = .ok (.l2i, 1) := by decide +kernel
theorem d4_25 : decode prog_38_method_11_code 25 = .ok (.ireturn, 1) := by decide +kernel
theorem ef_4_01 (m : MethodId) (x0 : Addr) : entryFrame m #[(.ref x0), (.int (0 : Int32)), (.int (1 : Int32))] 5 = mkF m 0 #[.val (.ref x0), .val (.int (0 : Int32)), .val (.int (1 : Int32)), .unset, .unset] [] := by first | (simp [entryFrame, mkF, argsToLocals, Value.category]; done) | rfl
def Q4_01 (Z : State) (aa0 : Addr) (bx : Addr) (kx : ClassId) (vx : List Value) (xx : Int64) (h0 : Heap) (n0 : Nat) (v : Option Value) (h : Heap) (L : List Loc) : Prop := v = some (.int ((xx.toUInt64 >>> ((32 : Int32) &&& 0x3f).toInt64.toUInt64).toInt64.toInt32)) ∧ Fr n0 L ∧ h = h0
set_option maxRecDepth 65536 in
set_option maxHeartbeats 40000000 in
theorem rm4_01 (l : Launch) (Z : State) (a0 : Array Value) (hw : ∀ d ∈ tables_1, d.before a0 Z = true) (ws : List Jvm.Cond) (aa0 : Addr) (bx : Addr) (kx : ClassId) (vx : List Value) (xx : Int64) (h0 : Heap) (n0 : Nat) (Z0 : n0 ≤ h0.size) (F_aa0_trades : Fld Z h0 aa0 "com/example/tallyhouse/tallyhouse/settle/QueuedTrades" "trades" "[J" (.ref bx)) (V_bx : Arv Z h0 bx kx .long (112 : Int32) vx (.long (0 : Int64))) (ha : vx.getD 1 (.long (0 : Int64)) = .long xx) :
    MetFree l (⟨"com/example/tallyhouse/tallyhouse/settle/QueuedTrades", "code", "(IZ)I"⟩ : MethodName) (head1 (Jvm.Cond.code (⟨"com/example/tallyhouse/tallyhouse/settle/QueuedTrades", "code", "(IZ)I"⟩ : MethodName) prog_38_method_11_code 5 (some .int) :: ws) ({ frames := 0, cells := 0, slots := 0, locals := 0 } : Room)) (fun a U => a = #[(.ref aa0), (.int (0 : Int32)), (.int (1 : Int32))] ∧ Z.Warmed39 U.vm ∧ U.heap = h0) (fun _ _ _ _ _ => True) (fun _ U o U' => ∃ v L, o = .returned v ∧ Q4_01 Z aa0 bx kx vx xx h0 n0 v U'.heap L ∧ FrameEnd U o U' L ({ frames := 0, cells := 0, slots := 0, locals := 0 } : Room).cells ({ frames := 0, cells := 0, slots := 0, locals := 0 } : Room).slots) := by
  refine MetFree.of_bodySF (plainFor_of_name pn_com_example_tallyhouse_tallyhouse_settle_QueuedTrades) hisR ?_
  intro p e s m args below meth c s₁ Bd hml0 hP hK
  obtain ⟨rfl, hZ, hh⟩ := hP
  have hx := Bd.exec
  have hby := Bd.bytes
  have hml : c.maxLocals = 5 := hml0
  have hown : s.vm.findClass "com/example/tallyhouse/tallyhouse/settle/QueuedTrades" = some m.cls := findClass_of_methodNamed Bd.named
  have hnm := (name_of_methodNamed Bd.named Bd.method).1
  have X0 : Stand p l e ({ frames := 0, cells := 0, slots := 0, locals := 0 } : Room) s m #[(.ref aa0), (.int (0 : Int32)), (.int (1 : Int32))] below meth c s₁ [] 0 0 := Stand.of_body Bd
  have e0 : s₁.heap = h0 := by rw [← hh, Bd.state]; rfl
  have N0 := Fr.nil n0
  have pre0 : ∀ t, Steps p.tables e below (s₁.setTop (mkF m 0 #[.val (.ref aa0), .val (.int (0 : Int32)), .val (.int (1 : Int32)), .unset, .unset] [])) t → Steps p.tables e below (s₁.setTop (entryFrame m #[(.ref aa0), (.int (0 : Int32)), (.int (1 : Int32))] 5)) t := fun t k => castTop (ef_4_01 m aa0) k
  obtain ⟨T1, X1, e1, st1⟩ := getF X0 hx hZ hown (host := "") (Or.inl (hw _ (List.mem_of_getElem? (i := 10) rfl))) Via.refl e0 F_aa0_trades (g := (mkF m 1 #[.val (.ref aa0), .val (.int (0 : Int32)), .val (.int (1 : Int32)), .unset, .unset] [(.ref aa0)])) rfl rfl (hb hby d4_1)
  obtain ⟨cl_2, Ar_2, qq_2, Sz_2, Nn_2, Hh_2, Gg_2⟩ := id V_bx
  have hin_2 : ¬ ((1 : Int32) < 0 ∨ cl_2.slots.size ≤ ((1 : Int32)).toNatClampNeg) := inb_of Sz_2 ⟨by decide, by decide⟩
  have hat_2 : cl_2.slots[((1 : Int32)).toNatClampNeg]? = some (.long xx) := Has.at Hh_2 hin_2 ha
  have hc13 : ¬ ((1 : Int32) = (0 : Int32)) := by decide
  obtain ⟨fs, hr, hrun, hended, hW, hsame⟩ := X1.leave (v := some (.int (((xx.toUInt64 >>> ((32 : Int32) &&& 0x3f).toInt64.toUInt64).toInt64).toInt32))) (fun h => by rw [Bd.returns] at h; cases h)
  refine ⟨_, _, pre0 _ ?_, hrun, hended, _, _, rfl, ?_, ⟨_, rfl⟩, hW, hsame.mono (by decide) (by decide)⟩
  · show Steps p.tables e below (s₁.setTop (mkF m 0 #[.val (.ref aa0), .val (.int (0 : Int32)), .val (.int (1 : Int32)), .unset, .unset] [])) _
    refine XS.aloadN X0.here hx rfl (hb hby d4_0) rfl rfl ?_
    show Steps p.tables e below (s₁.setTop (mkF m 1 #[.val (.ref aa0), .val (.int (0 : Int32)), .val (.int (1 : Int32)), .unset, .unset] [(.ref aa0)])) _
    refine st1 _ ?_
    show Steps p.tables e below (T1.setTop (mkF m 4 #[.val (.ref aa0), .val (.int (0 : Int32)), .val (.int (1 : Int32)), .unset, .unset] [(.ref bx)])) _
    refine XS.iloadN X1.here hx rfl (hb hby d4_4) rfl ?_
    show Steps p.tables e below (T1.setTop (mkF m 5 #[.val (.ref aa0), .val (.int (0 : Int32)), .val (.int (1 : Int32)), .unset, .unset] [(.int (0 : Int32)), (.ref bx)])) _
    refine XS.bipush X1.here hx rfl (hb hby d4_5) ?_
    show Steps p.tables e below (T1.setTop (mkF m 7 #[.val (.ref aa0), .val (.int (0 : Int32)), .val (.int (1 : Int32)), .unset, .unset] [(.int (7 : Int32)), (.int (0 : Int32)), (.ref bx)])) _
    refine XS.imul X1.here hx rfl (hb hby d4_7) rfl ?_
    show Steps p.tables e below (T1.setTop (mkF m 8 #[.val (.ref aa0), .val (.int (0 : Int32)), .val (.int (1 : Int32)), .unset, .unset] [(.int (0 : Int32)), (.ref bx)])) _
    refine XS.iconst X1.here hx rfl (hb hby d4_8) ?_
    show Steps p.tables e below (T1.setTop (mkF m 9 #[.val (.ref aa0), .val (.int (0 : Int32)), .val (.int (1 : Int32)), .unset, .unset] [(.int (1 : Int32)), (.int (0 : Int32)), (.ref bx)])) _
    refine XS.iadd X1.here hx rfl (hb hby d4_9) rfl ?_
    show Steps p.tables e below (T1.setTop (mkF m 10 #[.val (.ref aa0), .val (.int (0 : Int32)), .val (.int (1 : Int32)), .unset, .unset] [(.int (1 : Int32)), (.ref bx)])) _
    refine X1.laload hx (j := (1 : Int32)) (v := (.long xx)) (by rw [e1]; exact Ar_2.1) (State.isArrayOf_alike hZ.alike Ar_2.2.1) Ar_2.2.2 hin_2 hat_2 (g := (mkF m 10 #[.val (.ref aa0), .val (.int (0 : Int32)), .val (.int (1 : Int32)), .unset, .unset] [(.int (1 : Int32)), (.ref bx)])) rfl rfl (hb hby d4_10) _ ?_
    show Steps p.tables e below (T1.setTop (mkF m 11 #[.val (.ref aa0), .val (.int (0 : Int32)), .val (.int (1 : Int32)), .unset, .unset] [(.long xx)])) _
    refine XS.lstoreN X1.here hx rfl (hb hby d4_11) rfl (l' := #[.val (.ref aa0), .val (.int (0 : Int32)), .val (.int (1 : Int32)), .val (.long xx), .second]) rfl ?_
    show Steps p.tables e below (T1.setTop (mkF m 12 #[.val (.ref aa0), .val (.int (0 : Int32)), .val (.int (1 : Int32)), .val (.long xx), .second] [])) _
    refine XS.iloadN X1.here hx rfl (hb hby d4_12) rfl ?_
    show Steps p.tables e below (T1.setTop (mkF m 13 #[.val (.ref aa0), .val (.int (0 : Int32)), .val (.int (1 : Int32)), .val (.long xx), .second] [(.int (1 : Int32))])) _
    refine XS.ifNo X1.here hx rfl (hb hby d4_13) rfl ((if0 _ _).trans (feq hc13).1) ?_
    show Steps p.tables e below (T1.setTop (mkF m 16 #[.val (.ref aa0), .val (.int (0 : Int32)), .val (.int (1 : Int32)), .val (.long xx), .second] [])) _
    refine XS.lloadN X1.here hx rfl (hb hby d4_16) rfl ?_
    show Steps p.tables e below (T1.setTop (mkF m 17 #[.val (.ref aa0), .val (.int (0 : Int32)), .val (.int (1 : Int32)), .val (.long xx), .second] [(.long xx)])) _
    refine XS.bipush X1.here hx rfl (hb hby d4_17) ?_
    show Steps p.tables e below (T1.setTop (mkF m 19 #[.val (.ref aa0), .val (.int (0 : Int32)), .val (.int (1 : Int32)), .val (.long xx), .second] [(.int (32 : Int32)), (.long xx)])) _
    refine XS.lushr X1.here hx rfl (hb hby d4_19) rfl ?_
    show Steps p.tables e below (T1.setTop (mkF m 20 #[.val (.ref aa0), .val (.int (0 : Int32)), .val (.int (1 : Int32)), .val (.long xx), .second] [(.long ((xx.toUInt64 >>> ((32 : Int32) &&& 0x3f).toInt64.toUInt64).toInt64))])) _
    refine XS.goto X1.here hx rfl (pc0 := 20) (pc' := 24) rfl (hb hby d4_20) (by decide) (by decide) ?_
    show Steps p.tables e below (T1.setTop (mkF m 24 #[.val (.ref aa0), .val (.int (0 : Int32)), .val (.int (1 : Int32)), .val (.long xx), .second] [(.long ((xx.toUInt64 >>> ((32 : Int32) &&& 0x3f).toInt64.toUInt64).toInt64))])) _
    refine XS.l2i X1.here hx rfl (hb hby d4_24) rfl ?_
    show Steps p.tables e below (T1.setTop (mkF m 25 #[.val (.ref aa0), .val (.int (0 : Int32)), .val (.int (1 : Int32)), .val (.long xx), .second] [(.int (((xx.toUInt64 >>> ((32 : Int32) &&& 0x3f).toInt64.toUInt64).toInt64).toInt32))])) _
    exact retI X1 hx Bd.returns (hb hby d4_25) hr
  · show Q4_01 Z aa0 bx kx vx xx h0 n0 _ T1.heap _
    rw [e1]
    exact ⟨rfl, N0, rfl⟩
theorem d4_23 : decode prog_38_method_11_code 23 = .ok (.lload_n 3, 1) := by decide +kernel
theorem ef_4_00 (m : MethodId) (x0 : Addr) : entryFrame m #[(.ref x0), (.int (0 : Int32)), (.int (0 : Int32))] 5 = mkF m 0 #[.val (.ref x0), .val (.int (0 : Int32)), .val (.int (0 : Int32)), .unset, .unset] [] := by first | (simp [entryFrame, mkF, argsToLocals, Value.category]; done) | rfl
def Q4_00 (Z : State) (aa0 : Addr) (bx : Addr) (kx : ClassId) (vx : List Value) (xx : Int64) (h0 : Heap) (n0 : Nat) (v : Option Value) (h : Heap) (L : List Loc) : Prop := v = some (.int (xx.toInt32)) ∧ Fr n0 L ∧ h = h0
set_option maxRecDepth 65536 in
set_option maxHeartbeats 40000000 in
theorem rm4_00 (l : Launch) (Z : State) (a0 : Array Value) (hw : ∀ d ∈ tables_1, d.before a0 Z = true) (ws : List Jvm.Cond) (aa0 : Addr) (bx : Addr) (kx : ClassId) (vx : List Value) (xx : Int64) (h0 : Heap) (n0 : Nat) (Z0 : n0 ≤ h0.size) (F_aa0_trades : Fld Z h0 aa0 "com/example/tallyhouse/tallyhouse/settle/QueuedTrades" "trades" "[J" (.ref bx)) (V_bx : Arv Z h0 bx kx .long (112 : Int32) vx (.long (0 : Int64))) (ha : vx.getD 1 (.long (0 : Int64)) = .long xx) :
    MetFree l (⟨"com/example/tallyhouse/tallyhouse/settle/QueuedTrades", "code", "(IZ)I"⟩ : MethodName) (head1 (Jvm.Cond.code (⟨"com/example/tallyhouse/tallyhouse/settle/QueuedTrades", "code", "(IZ)I"⟩ : MethodName) prog_38_method_11_code 5 (some .int) :: ws) ({ frames := 0, cells := 0, slots := 0, locals := 0 } : Room)) (fun a U => a = #[(.ref aa0), (.int (0 : Int32)), (.int (0 : Int32))] ∧ Z.Warmed39 U.vm ∧ U.heap = h0) (fun _ _ _ _ _ => True) (fun _ U o U' => ∃ v L, o = .returned v ∧ Q4_00 Z aa0 bx kx vx xx h0 n0 v U'.heap L ∧ FrameEnd U o U' L ({ frames := 0, cells := 0, slots := 0, locals := 0 } : Room).cells ({ frames := 0, cells := 0, slots := 0, locals := 0 } : Room).slots) := by
  refine MetFree.of_bodySF (plainFor_of_name pn_com_example_tallyhouse_tallyhouse_settle_QueuedTrades) hisR ?_
  intro p e s m args below meth c s₁ Bd hml0 hP hK
  obtain ⟨rfl, hZ, hh⟩ := hP
  have hx := Bd.exec
  have hby := Bd.bytes
  have hml : c.maxLocals = 5 := hml0
  have hown : s.vm.findClass "com/example/tallyhouse/tallyhouse/settle/QueuedTrades" = some m.cls := findClass_of_methodNamed Bd.named
  have hnm := (name_of_methodNamed Bd.named Bd.method).1
  have X0 : Stand p l e ({ frames := 0, cells := 0, slots := 0, locals := 0 } : Room) s m #[(.ref aa0), (.int (0 : Int32)), (.int (0 : Int32))] below meth c s₁ [] 0 0 := Stand.of_body Bd
  have e0 : s₁.heap = h0 := by rw [← hh, Bd.state]; rfl
  have N0 := Fr.nil n0
  have pre0 : ∀ t, Steps p.tables e below (s₁.setTop (mkF m 0 #[.val (.ref aa0), .val (.int (0 : Int32)), .val (.int (0 : Int32)), .unset, .unset] [])) t → Steps p.tables e below (s₁.setTop (entryFrame m #[(.ref aa0), (.int (0 : Int32)), (.int (0 : Int32))] 5)) t := fun t k => castTop (ef_4_00 m aa0) k
  obtain ⟨T1, X1, e1, st1⟩ := getF X0 hx hZ hown (host := "") (Or.inl (hw _ (List.mem_of_getElem? (i := 10) rfl))) Via.refl e0 F_aa0_trades (g := (mkF m 1 #[.val (.ref aa0), .val (.int (0 : Int32)), .val (.int (0 : Int32)), .unset, .unset] [(.ref aa0)])) rfl rfl (hb hby d4_1)
  obtain ⟨cl_2, Ar_2, qq_2, Sz_2, Nn_2, Hh_2, Gg_2⟩ := id V_bx
  have hin_2 : ¬ ((1 : Int32) < 0 ∨ cl_2.slots.size ≤ ((1 : Int32)).toNatClampNeg) := inb_of Sz_2 ⟨by decide, by decide⟩
  have hat_2 : cl_2.slots[((1 : Int32)).toNatClampNeg]? = some (.long xx) := Has.at Hh_2 hin_2 ha
  have hc13 : (0 : Int32) = (0 : Int32) := by decide
  obtain ⟨fs, hr, hrun, hended, hW, hsame⟩ := X1.leave (v := some (.int (xx.toInt32))) (fun h => by rw [Bd.returns] at h; cases h)
  refine ⟨_, _, pre0 _ ?_, hrun, hended, _, _, rfl, ?_, ⟨_, rfl⟩, hW, hsame.mono (by decide) (by decide)⟩
  · show Steps p.tables e below (s₁.setTop (mkF m 0 #[.val (.ref aa0), .val (.int (0 : Int32)), .val (.int (0 : Int32)), .unset, .unset] [])) _
    refine XS.aloadN X0.here hx rfl (hb hby d4_0) rfl rfl ?_
    show Steps p.tables e below (s₁.setTop (mkF m 1 #[.val (.ref aa0), .val (.int (0 : Int32)), .val (.int (0 : Int32)), .unset, .unset] [(.ref aa0)])) _
    refine st1 _ ?_
    show Steps p.tables e below (T1.setTop (mkF m 4 #[.val (.ref aa0), .val (.int (0 : Int32)), .val (.int (0 : Int32)), .unset, .unset] [(.ref bx)])) _
    refine XS.iloadN X1.here hx rfl (hb hby d4_4) rfl ?_
    show Steps p.tables e below (T1.setTop (mkF m 5 #[.val (.ref aa0), .val (.int (0 : Int32)), .val (.int (0 : Int32)), .unset, .unset] [(.int (0 : Int32)), (.ref bx)])) _
    refine XS.bipush X1.here hx rfl (hb hby d4_5) ?_
    show Steps p.tables e below (T1.setTop (mkF m 7 #[.val (.ref aa0), .val (.int (0 : Int32)), .val (.int (0 : Int32)), .unset, .unset] [(.int (7 : Int32)), (.int (0 : Int32)), (.ref bx)])) _
    refine XS.imul X1.here hx rfl (hb hby d4_7) rfl ?_
    show Steps p.tables e below (T1.setTop (mkF m 8 #[.val (.ref aa0), .val (.int (0 : Int32)), .val (.int (0 : Int32)), .unset, .unset] [(.int (0 : Int32)), (.ref bx)])) _
    refine XS.iconst X1.here hx rfl (hb hby d4_8) ?_
    show Steps p.tables e below (T1.setTop (mkF m 9 #[.val (.ref aa0), .val (.int (0 : Int32)), .val (.int (0 : Int32)), .unset, .unset] [(.int (1 : Int32)), (.int (0 : Int32)), (.ref bx)])) _
    refine XS.iadd X1.here hx rfl (hb hby d4_9) rfl ?_
    show Steps p.tables e below (T1.setTop (mkF m 10 #[.val (.ref aa0), .val (.int (0 : Int32)), .val (.int (0 : Int32)), .unset, .unset] [(.int (1 : Int32)), (.ref bx)])) _
    refine X1.laload hx (j := (1 : Int32)) (v := (.long xx)) (by rw [e1]; exact Ar_2.1) (State.isArrayOf_alike hZ.alike Ar_2.2.1) Ar_2.2.2 hin_2 hat_2 (g := (mkF m 10 #[.val (.ref aa0), .val (.int (0 : Int32)), .val (.int (0 : Int32)), .unset, .unset] [(.int (1 : Int32)), (.ref bx)])) rfl rfl (hb hby d4_10) _ ?_
    show Steps p.tables e below (T1.setTop (mkF m 11 #[.val (.ref aa0), .val (.int (0 : Int32)), .val (.int (0 : Int32)), .unset, .unset] [(.long xx)])) _
    refine XS.lstoreN X1.here hx rfl (hb hby d4_11) rfl (l' := #[.val (.ref aa0), .val (.int (0 : Int32)), .val (.int (0 : Int32)), .val (.long xx), .second]) rfl ?_
    show Steps p.tables e below (T1.setTop (mkF m 12 #[.val (.ref aa0), .val (.int (0 : Int32)), .val (.int (0 : Int32)), .val (.long xx), .second] [])) _
    refine XS.iloadN X1.here hx rfl (hb hby d4_12) rfl ?_
    show Steps p.tables e below (T1.setTop (mkF m 13 #[.val (.ref aa0), .val (.int (0 : Int32)), .val (.int (0 : Int32)), .val (.long xx), .second] [(.int (0 : Int32))])) _
    refine XS.ifYes X1.here hx rfl (pc0 := 13) (pc' := 23) rfl (hb hby d4_13) rfl ((if0 _ _).trans (teq hc13).1) (by decide) (by decide) ?_
    show Steps p.tables e below (T1.setTop (mkF m 23 #[.val (.ref aa0), .val (.int (0 : Int32)), .val (.int (0 : Int32)), .val (.long xx), .second] [])) _
    refine XS.lloadN X1.here hx rfl (hb hby d4_23) rfl ?_
    show Steps p.tables e below (T1.setTop (mkF m 24 #[.val (.ref aa0), .val (.int (0 : Int32)), .val (.int (0 : Int32)), .val (.long xx), .second] [(.long xx)])) _
    refine XS.l2i X1.here hx rfl (hb hby d4_24) rfl ?_
    show Steps p.tables e below (T1.setTop (mkF m 25 #[.val (.ref aa0), .val (.int (0 : Int32)), .val (.int (0 : Int32)), .val (.long xx), .second] [(.int (xx.toInt32))])) _
    exact retI X1 hx Bd.returns (hb hby d4_25) hr
  · show Q4_00 Z aa0 bx kx vx xx h0 n0 _ T1.heap _
    rw [e1]
    exact ⟨rfl, N0, rfl⟩
theorem ef_4_11 (m : MethodId) (x0 : Addr) : entryFrame m #[(.ref x0), (.int (1 : Int32)), (.int (1 : Int32))] 5 = mkF m 0 #[.val (.ref x0), .val (.int (1 : Int32)), .val (.int (1 : Int32)), .unset, .unset] [] := by first | (simp [entryFrame, mkF, argsToLocals, Value.category]; done) | rfl
def Q4_11 (Z : State) (aa0 : Addr) (bx : Addr) (kx : ClassId) (vx : List Value) (xx : Int64) (h0 : Heap) (n0 : Nat) (v : Option Value) (h : Heap) (L : List Loc) : Prop := v = some (.int ((xx.toUInt64 >>> ((32 : Int32) &&& 0x3f).toInt64.toUInt64).toInt64.toInt32)) ∧ Fr n0 L ∧ h = h0
set_option maxRecDepth 65536 in
set_option maxHeartbeats 40000000 in
theorem rm4_11 (l : Launch) (Z : State) (a0 : Array Value) (hw : ∀ d ∈ tables_1, d.before a0 Z = true) (ws : List Jvm.Cond) (aa0 : Addr) (bx : Addr) (kx : ClassId) (vx : List Value) (xx : Int64) (h0 : Heap) (n0 : Nat) (Z0 : n0 ≤ h0.size) (F_aa0_trades : Fld Z h0 aa0 "com/example/tallyhouse/tallyhouse/settle/QueuedTrades" "trades" "[J" (.ref bx)) (V_bx : Arv Z h0 bx kx .long (112 : Int32) vx (.long (0 : Int64))) (ha : vx.getD 8 (.long (0 : Int64)) = .long xx) :
    MetFree l (⟨"com/example/tallyhouse/tallyhouse/settle/QueuedTrades", "code", "(IZ)I"⟩ : MethodName) (head1 (Jvm.Cond.code (⟨"com/example/tallyhouse/tallyhouse/settle/QueuedTrades", "code", "(IZ)I"⟩ : MethodName) prog_38_method_11_code 5 (some .int) :: ws) ({ frames := 0, cells := 0, slots := 0, locals := 0 } : Room)) (fun a U => a = #[(.ref aa0), (.int (1 : Int32)), (.int (1 : Int32))] ∧ Z.Warmed39 U.vm ∧ U.heap = h0) (fun _ _ _ _ _ => True) (fun _ U o U' => ∃ v L, o = .returned v ∧ Q4_11 Z aa0 bx kx vx xx h0 n0 v U'.heap L ∧ FrameEnd U o U' L ({ frames := 0, cells := 0, slots := 0, locals := 0 } : Room).cells ({ frames := 0, cells := 0, slots := 0, locals := 0 } : Room).slots) := by
  refine MetFree.of_bodySF (plainFor_of_name pn_com_example_tallyhouse_tallyhouse_settle_QueuedTrades) hisR ?_
  intro p e s m args below meth c s₁ Bd hml0 hP hK
  obtain ⟨rfl, hZ, hh⟩ := hP
  have hx := Bd.exec
  have hby := Bd.bytes
  have hml : c.maxLocals = 5 := hml0
  have hown : s.vm.findClass "com/example/tallyhouse/tallyhouse/settle/QueuedTrades" = some m.cls := findClass_of_methodNamed Bd.named
  have hnm := (name_of_methodNamed Bd.named Bd.method).1
  have X0 : Stand p l e ({ frames := 0, cells := 0, slots := 0, locals := 0 } : Room) s m #[(.ref aa0), (.int (1 : Int32)), (.int (1 : Int32))] below meth c s₁ [] 0 0 := Stand.of_body Bd
  have e0 : s₁.heap = h0 := by rw [← hh, Bd.state]; rfl
  have N0 := Fr.nil n0
  have pre0 : ∀ t, Steps p.tables e below (s₁.setTop (mkF m 0 #[.val (.ref aa0), .val (.int (1 : Int32)), .val (.int (1 : Int32)), .unset, .unset] [])) t → Steps p.tables e below (s₁.setTop (entryFrame m #[(.ref aa0), (.int (1 : Int32)), (.int (1 : Int32))] 5)) t := fun t k => castTop (ef_4_11 m aa0) k
  obtain ⟨T1, X1, e1, st1⟩ := getF X0 hx hZ hown (host := "") (Or.inl (hw _ (List.mem_of_getElem? (i := 10) rfl))) Via.refl e0 F_aa0_trades (g := (mkF m 1 #[.val (.ref aa0), .val (.int (1 : Int32)), .val (.int (1 : Int32)), .unset, .unset] [(.ref aa0)])) rfl rfl (hb hby d4_1)
  obtain ⟨cl_2, Ar_2, qq_2, Sz_2, Nn_2, Hh_2, Gg_2⟩ := id V_bx
  have hin_2 : ¬ ((8 : Int32) < 0 ∨ cl_2.slots.size ≤ ((8 : Int32)).toNatClampNeg) := inb_of Sz_2 ⟨by decide, by decide⟩
  have hat_2 : cl_2.slots[((8 : Int32)).toNatClampNeg]? = some (.long xx) := Has.at Hh_2 hin_2 ha
  have hc13 : ¬ ((1 : Int32) = (0 : Int32)) := by decide
  obtain ⟨fs, hr, hrun, hended, hW, hsame⟩ := X1.leave (v := some (.int (((xx.toUInt64 >>> ((32 : Int32) &&& 0x3f).toInt64.toUInt64).toInt64).toInt32))) (fun h => by rw [Bd.returns] at h; cases h)
  refine ⟨_, _, pre0 _ ?_, hrun, hended, _, _, rfl, ?_, ⟨_, rfl⟩, hW, hsame.mono (by decide) (by decide)⟩
  · show Steps p.tables e below (s₁.setTop (mkF m 0 #[.val (.ref aa0), .val (.int (1 : Int32)), .val (.int (1 : Int32)), .unset, .unset] [])) _
    refine XS.aloadN X0.here hx rfl (hb hby d4_0) rfl rfl ?_
    show Steps p.tables e below (s₁.setTop (mkF m 1 #[.val (.ref aa0), .val (.int (1 : Int32)), .val (.int (1 : Int32)), .unset, .unset] [(.ref aa0)])) _
    refine st1 _ ?_
    show Steps p.tables e below (T1.setTop (mkF m 4 #[.val (.ref aa0), .val (.int (1 : Int32)), .val (.int (1 : Int32)), .unset, .unset] [(.ref bx)])) _
    refine XS.iloadN X1.here hx rfl (hb hby d4_4) rfl ?_
    show Steps p.tables e below (T1.setTop (mkF m 5 #[.val (.ref aa0), .val (.int (1 : Int32)), .val (.int (1 : Int32)), .unset, .unset] [(.int (1 : Int32)), (.ref bx)])) _
    refine XS.bipush X1.here hx rfl (hb hby d4_5) ?_
    show Steps p.tables e below (T1.setTop (mkF m 7 #[.val (.ref aa0), .val (.int (1 : Int32)), .val (.int (1 : Int32)), .unset, .unset] [(.int (7 : Int32)), (.int (1 : Int32)), (.ref bx)])) _
    refine XS.imul X1.here hx rfl (hb hby d4_7) rfl ?_
    show Steps p.tables e below (T1.setTop (mkF m 8 #[.val (.ref aa0), .val (.int (1 : Int32)), .val (.int (1 : Int32)), .unset, .unset] [(.int (7 : Int32)), (.ref bx)])) _
    refine XS.iconst X1.here hx rfl (hb hby d4_8) ?_
    show Steps p.tables e below (T1.setTop (mkF m 9 #[.val (.ref aa0), .val (.int (1 : Int32)), .val (.int (1 : Int32)), .unset, .unset] [(.int (1 : Int32)), (.int (7 : Int32)), (.ref bx)])) _
    refine XS.iadd X1.here hx rfl (hb hby d4_9) rfl ?_
    show Steps p.tables e below (T1.setTop (mkF m 10 #[.val (.ref aa0), .val (.int (1 : Int32)), .val (.int (1 : Int32)), .unset, .unset] [(.int (8 : Int32)), (.ref bx)])) _
    refine X1.laload hx (j := (8 : Int32)) (v := (.long xx)) (by rw [e1]; exact Ar_2.1) (State.isArrayOf_alike hZ.alike Ar_2.2.1) Ar_2.2.2 hin_2 hat_2 (g := (mkF m 10 #[.val (.ref aa0), .val (.int (1 : Int32)), .val (.int (1 : Int32)), .unset, .unset] [(.int (8 : Int32)), (.ref bx)])) rfl rfl (hb hby d4_10) _ ?_
    show Steps p.tables e below (T1.setTop (mkF m 11 #[.val (.ref aa0), .val (.int (1 : Int32)), .val (.int (1 : Int32)), .unset, .unset] [(.long xx)])) _
    refine XS.lstoreN X1.here hx rfl (hb hby d4_11) rfl (l' := #[.val (.ref aa0), .val (.int (1 : Int32)), .val (.int (1 : Int32)), .val (.long xx), .second]) rfl ?_
    show Steps p.tables e below (T1.setTop (mkF m 12 #[.val (.ref aa0), .val (.int (1 : Int32)), .val (.int (1 : Int32)), .val (.long xx), .second] [])) _
    refine XS.iloadN X1.here hx rfl (hb hby d4_12) rfl ?_
    show Steps p.tables e below (T1.setTop (mkF m 13 #[.val (.ref aa0), .val (.int (1 : Int32)), .val (.int (1 : Int32)), .val (.long xx), .second] [(.int (1 : Int32))])) _
    refine XS.ifNo X1.here hx rfl (hb hby d4_13) rfl ((if0 _ _).trans (feq hc13).1) ?_
    show Steps p.tables e below (T1.setTop (mkF m 16 #[.val (.ref aa0), .val (.int (1 : Int32)), .val (.int (1 : Int32)), .val (.long xx), .second] [])) _
    refine XS.lloadN X1.here hx rfl (hb hby d4_16) rfl ?_
    show Steps p.tables e below (T1.setTop (mkF m 17 #[.val (.ref aa0), .val (.int (1 : Int32)), .val (.int (1 : Int32)), .val (.long xx), .second] [(.long xx)])) _
    refine XS.bipush X1.here hx rfl (hb hby d4_17) ?_
    show Steps p.tables e below (T1.setTop (mkF m 19 #[.val (.ref aa0), .val (.int (1 : Int32)), .val (.int (1 : Int32)), .val (.long xx), .second] [(.int (32 : Int32)), (.long xx)])) _
    refine XS.lushr X1.here hx rfl (hb hby d4_19) rfl ?_
    show Steps p.tables e below (T1.setTop (mkF m 20 #[.val (.ref aa0), .val (.int (1 : Int32)), .val (.int (1 : Int32)), .val (.long xx), .second] [(.long ((xx.toUInt64 >>> ((32 : Int32) &&& 0x3f).toInt64.toUInt64).toInt64))])) _
    refine XS.goto X1.here hx rfl (pc0 := 20) (pc' := 24) rfl (hb hby d4_20) (by decide) (by decide) ?_
    show Steps p.tables e below (T1.setTop (mkF m 24 #[.val (.ref aa0), .val (.int (1 : Int32)), .val (.int (1 : Int32)), .val (.long xx), .second] [(.long ((xx.toUInt64 >>> ((32 : Int32) &&& 0x3f).toInt64.toUInt64).toInt64))])) _
    refine XS.l2i X1.here hx rfl (hb hby d4_24) rfl ?_
    show Steps p.tables e below (T1.setTop (mkF m 25 #[.val (.ref aa0), .val (.int (1 : Int32)), .val (.int (1 : Int32)), .val (.long xx), .second] [(.int (((xx.toUInt64 >>> ((32 : Int32) &&& 0x3f).toInt64.toUInt64).toInt64).toInt32))])) _
    exact retI X1 hx Bd.returns (hb hby d4_25) hr
  · show Q4_11 Z aa0 bx kx vx xx h0 n0 _ T1.heap _
    rw [e1]
    exact ⟨rfl, N0, rfl⟩
theorem ef_4_10 (m : MethodId) (x0 : Addr) : entryFrame m #[(.ref x0), (.int (1 : Int32)), (.int (0 : Int32))] 5 = mkF m 0 #[.val (.ref x0), .val (.int (1 : Int32)), .val (.int (0 : Int32)), .unset, .unset] [] := by first | (simp [entryFrame, mkF, argsToLocals, Value.category]; done) | rfl
def Q4_10 (Z : State) (aa0 : Addr) (bx : Addr) (kx : ClassId) (vx : List Value) (xx : Int64) (h0 : Heap) (n0 : Nat) (v : Option Value) (h : Heap) (L : List Loc) : Prop := v = some (.int (xx.toInt32)) ∧ Fr n0 L ∧ h = h0
set_option maxRecDepth 65536 in
set_option maxHeartbeats 40000000 in
theorem rm4_10 (l : Launch) (Z : State) (a0 : Array Value) (hw : ∀ d ∈ tables_1, d.before a0 Z = true) (ws : List Jvm.Cond) (aa0 : Addr) (bx : Addr) (kx : ClassId) (vx : List Value) (xx : Int64) (h0 : Heap) (n0 : Nat) (Z0 : n0 ≤ h0.size) (F_aa0_trades : Fld Z h0 aa0 "com/example/tallyhouse/tallyhouse/settle/QueuedTrades" "trades" "[J" (.ref bx)) (V_bx : Arv Z h0 bx kx .long (112 : Int32) vx (.long (0 : Int64))) (ha : vx.getD 8 (.long (0 : Int64)) = .long xx) :
    MetFree l (⟨"com/example/tallyhouse/tallyhouse/settle/QueuedTrades", "code", "(IZ)I"⟩ : MethodName) (head1 (Jvm.Cond.code (⟨"com/example/tallyhouse/tallyhouse/settle/QueuedTrades", "code", "(IZ)I"⟩ : MethodName) prog_38_method_11_code 5 (some .int) :: ws) ({ frames := 0, cells := 0, slots := 0, locals := 0 } : Room)) (fun a U => a = #[(.ref aa0), (.int (1 : Int32)), (.int (0 : Int32))] ∧ Z.Warmed39 U.vm ∧ U.heap = h0) (fun _ _ _ _ _ => True) (fun _ U o U' => ∃ v L, o = .returned v ∧ Q4_10 Z aa0 bx kx vx xx h0 n0 v U'.heap L ∧ FrameEnd U o U' L ({ frames := 0, cells := 0, slots := 0, locals := 0 } : Room).cells ({ frames := 0, cells := 0, slots := 0, locals := 0 } : Room).slots) := by
  refine MetFree.of_bodySF (plainFor_of_name pn_com_example_tallyhouse_tallyhouse_settle_QueuedTrades) hisR ?_
  intro p e s m args below meth c s₁ Bd hml0 hP hK
  obtain ⟨rfl, hZ, hh⟩ := hP
  have hx := Bd.exec
  have hby := Bd.bytes
  have hml : c.maxLocals = 5 := hml0
  have hown : s.vm.findClass "com/example/tallyhouse/tallyhouse/settle/QueuedTrades" = some m.cls := findClass_of_methodNamed Bd.named
  have hnm := (name_of_methodNamed Bd.named Bd.method).1
  have X0 : Stand p l e ({ frames := 0, cells := 0, slots := 0, locals := 0 } : Room) s m #[(.ref aa0), (.int (1 : Int32)), (.int (0 : Int32))] below meth c s₁ [] 0 0 := Stand.of_body Bd
  have e0 : s₁.heap = h0 := by rw [← hh, Bd.state]; rfl
  have N0 := Fr.nil n0
  have pre0 : ∀ t, Steps p.tables e below (s₁.setTop (mkF m 0 #[.val (.ref aa0), .val (.int (1 : Int32)), .val (.int (0 : Int32)), .unset, .unset] [])) t → Steps p.tables e below (s₁.setTop (entryFrame m #[(.ref aa0), (.int (1 : Int32)), (.int (0 : Int32))] 5)) t := fun t k => castTop (ef_4_10 m aa0) k
  obtain ⟨T1, X1, e1, st1⟩ := getF X0 hx hZ hown (host := "") (Or.inl (hw _ (List.mem_of_getElem? (i := 10) rfl))) Via.refl e0 F_aa0_trades (g := (mkF m 1 #[.val (.ref aa0), .val (.int (1 : Int32)), .val (.int (0 : Int32)), .unset, .unset] [(.ref aa0)])) rfl rfl (hb hby d4_1)
  obtain ⟨cl_2, Ar_2, qq_2, Sz_2, Nn_2, Hh_2, Gg_2⟩ := id V_bx
  have hin_2 : ¬ ((8 : Int32) < 0 ∨ cl_2.slots.size ≤ ((8 : Int32)).toNatClampNeg) := inb_of Sz_2 ⟨by decide, by decide⟩
  have hat_2 : cl_2.slots[((8 : Int32)).toNatClampNeg]? = some (.long xx) := Has.at Hh_2 hin_2 ha
  have hc13 : (0 : Int32) = (0 : Int32) := by decide
  obtain ⟨fs, hr, hrun, hended, hW, hsame⟩ := X1.leave (v := some (.int (xx.toInt32))) (fun h => by rw [Bd.returns] at h; cases h)
  refine ⟨_, _, pre0 _ ?_, hrun, hended, _, _, rfl, ?_, ⟨_, rfl⟩, hW, hsame.mono (by decide) (by decide)⟩
  · show Steps p.tables e below (s₁.setTop (mkF m 0 #[.val (.ref aa0), .val (.int (1 : Int32)), .val (.int (0 : Int32)), .unset, .unset] [])) _
    refine XS.aloadN X0.here hx rfl (hb hby d4_0) rfl rfl ?_
    show Steps p.tables e below (s₁.setTop (mkF m 1 #[.val (.ref aa0), .val (.int (1 : Int32)), .val (.int (0 : Int32)), .unset, .unset] [(.ref aa0)])) _
    refine st1 _ ?_
    show Steps p.tables e below (T1.setTop (mkF m 4 #[.val (.ref aa0), .val (.int (1 : Int32)), .val (.int (0 : Int32)), .unset, .unset] [(.ref bx)])) _
    refine XS.iloadN X1.here hx rfl (hb hby d4_4) rfl ?_
    show Steps p.tables e below (T1.setTop (mkF m 5 #[.val (.ref aa0), .val (.int (1 : Int32)), .val (.int (0 : Int32)), .unset, .unset] [(.int (1 : Int32)), (.ref bx)])) _
    refine XS.bipush X1.here hx rfl (hb hby d4_5) ?_
    show Steps p.tables e below (T1.setTop (mkF m 7 #[.val (.ref aa0), .val (.int (1 : Int32)), .val (.int (0 : Int32)), .unset, .unset] [(.int (7 : Int32)), (.int (1 : Int32)), (.ref bx)])) _
    refine XS.imul X1.here hx rfl (hb hby d4_7) rfl ?_
    show Steps p.tables e below (T1.setTop (mkF m 8 #[.val (.ref aa0), .val (.int (1 : Int32)), .val (.int (0 : Int32)), .unset, .unset] [(.int (7 : Int32)), (.ref bx)])) _
    refine XS.iconst X1.here hx rfl (hb hby d4_8) ?_
    show Steps p.tables e below (T1.setTop (mkF m 9 #[.val (.ref aa0), .val (.int (1 : Int32)), .val (.int (0 : Int32)), .unset, .unset] [(.int (1 : Int32)), (.int (7 : Int32)), (.ref bx)])) _
    refine XS.iadd X1.here hx rfl (hb hby d4_9) rfl ?_
    show Steps p.tables e below (T1.setTop (mkF m 10 #[.val (.ref aa0), .val (.int (1 : Int32)), .val (.int (0 : Int32)), .unset, .unset] [(.int (8 : Int32)), (.ref bx)])) _
    refine X1.laload hx (j := (8 : Int32)) (v := (.long xx)) (by rw [e1]; exact Ar_2.1) (State.isArrayOf_alike hZ.alike Ar_2.2.1) Ar_2.2.2 hin_2 hat_2 (g := (mkF m 10 #[.val (.ref aa0), .val (.int (1 : Int32)), .val (.int (0 : Int32)), .unset, .unset] [(.int (8 : Int32)), (.ref bx)])) rfl rfl (hb hby d4_10) _ ?_
    show Steps p.tables e below (T1.setTop (mkF m 11 #[.val (.ref aa0), .val (.int (1 : Int32)), .val (.int (0 : Int32)), .unset, .unset] [(.long xx)])) _
    refine XS.lstoreN X1.here hx rfl (hb hby d4_11) rfl (l' := #[.val (.ref aa0), .val (.int (1 : Int32)), .val (.int (0 : Int32)), .val (.long xx), .second]) rfl ?_
    show Steps p.tables e below (T1.setTop (mkF m 12 #[.val (.ref aa0), .val (.int (1 : Int32)), .val (.int (0 : Int32)), .val (.long xx), .second] [])) _
    refine XS.iloadN X1.here hx rfl (hb hby d4_12) rfl ?_
    show Steps p.tables e below (T1.setTop (mkF m 13 #[.val (.ref aa0), .val (.int (1 : Int32)), .val (.int (0 : Int32)), .val (.long xx), .second] [(.int (0 : Int32))])) _
    refine XS.ifYes X1.here hx rfl (pc0 := 13) (pc' := 23) rfl (hb hby d4_13) rfl ((if0 _ _).trans (teq hc13).1) (by decide) (by decide) ?_
    show Steps p.tables e below (T1.setTop (mkF m 23 #[.val (.ref aa0), .val (.int (1 : Int32)), .val (.int (0 : Int32)), .val (.long xx), .second] [])) _
    refine XS.lloadN X1.here hx rfl (hb hby d4_23) rfl ?_
    show Steps p.tables e below (T1.setTop (mkF m 24 #[.val (.ref aa0), .val (.int (1 : Int32)), .val (.int (0 : Int32)), .val (.long xx), .second] [(.long xx)])) _
    refine XS.l2i X1.here hx rfl (hb hby d4_24) rfl ?_
    show Steps p.tables e below (T1.setTop (mkF m 25 #[.val (.ref aa0), .val (.int (1 : Int32)), .val (.int (0 : Int32)), .val (.long xx), .second] [(.int (xx.toInt32))])) _
    exact retI X1 hx Bd.returns (hb hby d4_25) hr
  · show Q4_10 Z aa0 bx kx vx xx h0 n0 _ T1.heap _
    rw [e1]
    exact ⟨rfl, N0, rfl⟩
theorem pd__28__29_V : parseMethodDescriptor "()V" = some ⟨[], none⟩ := by decide +kernel
theorem pd__28_IIIIJIJIJJI_29_V : parseMethodDescriptor "(IIIIJIJIJJI)V" = some ⟨[.int, .int, .int, .int, .long, .int, .long, .int, .long, .long, .int], none⟩ := by decide +kernel
theorem pd__28_IZ_29_I : parseMethodDescriptor "(IZ)I" = some ⟨[.int, .boolean], some .int⟩ := by decide +kernel
theorem pn_com_example_tallyhouse_tallyhouse_settle_QueuedTradesCodePinLaw : plainName "com/example/tallyhouse/tallyhouse/settle/QueuedTradesCodePinLaw" = true := by first | (simp [plainName, overriddenIn]; done) | decide +kernel
theorem ef_0 (m : MethodId) (x0 : Int32) (x1 : Int32) (x2 : Int32) (x3 : Int32) (x4 : Int64) : entryFrame m #[(.int x0), (.int x1), (.int x2), (.int x3), (.long x4)] maxLocals = mkF m 0 #[.val (.int x0), .val (.int x1), .val (.int x2), .val (.int x3), .val (.long x4), .second, .unset] [] := by first | (simp [entryFrame, mkF, argsToLocals, Value.category, maxLocals]; done) | rfl
def Q0 (Z : State) (pp1 : Int32) (pp2 : Int32) (pp3 : Int32) (pp4 : Int32) (qq5 : Int64) (h0 : Heap) (n0 : Nat) (v : Option Value) (h : Heap) (L : List Loc) : Prop := v = some (.int 1) ∧ Fr n0 L
set_option maxRecDepth 65536 in
set_option maxHeartbeats 40000000 in
theorem rm0 (l : Launch) (Z : State) (a0 : Array Value) (hw : ∀ d ∈ tables_1, d.before a0 Z = true) (ws : List Jvm.Cond) (pp1 : Int32) (pp2 : Int32) (pp3 : Int32) (pp4 : Int32) (qq5 : Int64) (h0 : Heap) (n0 : Nat) (Z0 : n0 ≤ h0.size) :
    MetFree l x (head1 (Jvm.Cond.code x code maxLocals ret :: ws) room_1) (fun a U => a = #[(.int pp1), (.int pp2), (.int pp3), (.int pp4), (.long qq5)] ∧ Z.Warmed39 U.vm ∧ U.heap = h0) (fun _ _ _ _ _ => True) (fun _ U o U' => ∃ v L, o = .returned v ∧ Q0 Z pp1 pp2 pp3 pp4 qq5 h0 n0 v U'.heap L ∧ FrameEnd U o U' L room_1.cells room_1.slots) := by
  refine MetFree.of_bodySF (plainFor_of_name pn_com_example_tallyhouse_tallyhouse_settle_QueuedTradesCodePinLaw) hisR ?_
  intro p e s m args below meth c s₁ Bd hml0 hP hK
  obtain ⟨rfl, hZ, hh⟩ := hP
  have hx := Bd.exec
  have hby := Bd.bytes
  have hml : c.maxLocals = 7 := hml0
  have hown : s.vm.findClass "com/example/tallyhouse/tallyhouse/settle/QueuedTradesCodePinLaw" = some m.cls := findClass_of_methodNamed Bd.named
  have hnm := (name_of_methodNamed Bd.named Bd.method).1
  have X0 : Stand p l e room_1 s m #[(.int pp1), (.int pp2), (.int pp3), (.int pp4), (.long qq5)] below meth c s₁ [] 0 0 := Stand.of_body Bd
  have e0 : s₁.heap = h0 := by rw [← hh, Bd.state]; rfl
  have N0 := Fr.nil n0
  have pre0 : ∀ t, Steps p.tables e below (s₁.setTop (mkF m 0 #[.val (.int pp1), .val (.int pp2), .val (.int pp3), .val (.int pp4), .val (.long qq5), .second, .unset] [])) t → Steps p.tables e below (s₁.setTop (entryFrame m #[(.int pp1), (.int pp2), (.int pp3), (.int pp4), (.long qq5)] maxLocals)) t := fun t k => castTop (ef_0 m pp1 pp2 pp3 pp4 qq5) k
  obtain ⟨T1, h1, X1, e1, E1, A1, D1, -, st1⟩ := newO X0 hx hZ hown (hw _ (List.mem_of_getElem? (i := 0) rfl)) (hw _ (List.mem_of_getElem? (i := 1) rfl)) (hw _ (List.mem_of_getElem? (i := 2) rfl)) e0 (g := (mkF m 0 #[.val (.int pp1), .val (.int pp2), .val (.int pp3), .val (.int pp4), .val (.long qq5), .second, .unset] [])) rfl (hb hby at_0) (by decide) (by decide)
  obtain ⟨b1, g1⟩ : ∃ z, z = h0.size := ⟨_, rfl⟩
  rw [← g1] at A1 D1 st1
  have g_b1 : n0 ≤ b1 := Nat.le_trans Z0 (Nat.le_of_eq g1.symm)
  have Z1 : n0 ≤ h1.size := Nat.le_trans Z0 E1.1
  have F1_trades : Fld Z h1 b1 "com/example/tallyhouse/tallyhouse/settle/QueuedTrades" "trades" "[J" .null := D1 (Or.inl (hw _ (List.mem_of_getElem? (i := 11) rfl))) (ty := (.array .long)) (by decide)
  have F1_size : Fld Z h1 b1 "com/example/tallyhouse/tallyhouse/settle/QueuedTrades" "size" "I" (.int (0 : Int32)) := D1 (Or.inl (hw _ (List.mem_of_getElem? (i := 18) rfl))) (ty := .int) (by decide)
  obtain ⟨_, _, ⟨T2, L2, k2, n2⟩, -, X2, ⟨Lc2, hQ2, l2, y2, z2⟩, st2⟩ := X1.specialBack hx (y := (⟨"com/example/tallyhouse/tallyhouse/settle/QueuedTrades", "<init>", "()V"⟩ : MethodName)) rfl hown (mvT hZ (hw _ (List.mem_of_getElem? (i := 3) rfl))) (mvT hZ (hw _ (List.mem_of_getElem? (i := 4) rfl))) (mvT hZ (hw _ (List.mem_of_getElem? (i := 5) rfl))) (by decide) (backOf (W := 1) (rm1 l Z a0 hw [] b1 .null h1 n0 Z1 A1 g_b1 F1_trades F1_size) hZ (hw _ (List.mem_of_getElem? (i := 5) rfl)) (hw _ (List.mem_of_getElem? (i := 2) rfl)) (by decide) (by decide)) (g := (mkF m 4 #[.val (.int pp1), .val (.int pp2), .val (.int pp3), .val (.int pp4), .val (.long qq5), .second, .unset] [(.ref b1), (.ref b1)])) rfl (by rw [hml]; rfl) (Steps.refl _) (a := b1) (argsL := []) (rest := [(.ref b1)]) (lenOf pd__28__29_V rfl) rfl (by show 2 * 0 + _ ≤ _; exact Nat.le_of_eq rfl) (hb hby at_4) (fun _ _ => ⟨rfl, e1, (by decide : 1 + 1 ≤ _), (by decide : 2 + 112 ≤ _)⟩)
  dsimp only [Pt.U, Pt.locs, Pt.cells, Pt.slots] at X2 l2 y2 z2 st2 hQ2
  subst l2 y2 z2
  obtain ⟨bx_2, kx_2, vx_2, rfl, N2q, K2c, g_bx_2, sb_bx_2, R2_0, R2_1, R2_2, hl_2⟩ := hQ2
  have N2 := Fr.app N0 N2q
  have Z2 : n0 ≤ T2.heap.size := Nat.le_trans Z1 K2c.1
  have E_3 : Exa Z T2.heap b1 "com/example/tallyhouse/tallyhouse/settle/QueuedTrades" := (A1.keep K2c)
  obtain ⟨cq4, kq4, q4a, q4b, q4c⟩ := isOf hZ rfl E_3
  obtain ⟨_, _, ⟨T4, L4, k4, n4⟩, -, X4, ⟨Lc4, hQ4, l4, y4, z4⟩, st4⟩ := X2.virtualBack hx (y := (⟨"com/example/tallyhouse/tallyhouse/settle/QueuedTrades", "add", "(IIIIJIJIJJI)V"⟩ : MethodName)) (z := (⟨"com/example/tallyhouse/tallyhouse/settle/QueuedTrades", "add", "(IIIIJIJIJJI)V"⟩ : MethodName)) hown (mvT hZ (hw _ (List.mem_of_getElem? (i := 12) rfl))) (mvT hZ (hw _ (List.mem_of_getElem? (i := 13) rfl))) (notFace_of_selects (args := #[]) (mvT hZ (hw _ (List.mem_of_getElem? (i := 15) rfl)))) (mvT hZ (hw _ (List.mem_of_getElem? (i := 15) rfl))) (mvT hZ (hw _ (List.mem_of_getElem? (i := 14) rfl))) (by decide) (backOf (W := 0) (rm3_0 l Z a0 hw [] b1 (0 : Int32) (0 : Int32) pp1 pp2 qq5 (0 : Int32) (0 : Int64) (0 : Int32) qq5 qq5 (0 : Int32) bx_2 kx_2 vx_2 T2.heap n0 Z2 E_3 g_b1 g_bx_2 (Nat.ne_of_lt (Nat.lt_of_lt_of_le A1.lt sb_bx_2)) R2_0 R2_1 R2_2 (show vx_2.length = 112 from hl_2)) hZ (hw _ (List.mem_of_getElem? (i := 16) rfl)) (hw _ (List.mem_of_getElem? (i := 2) rfl)) (by decide) (by decide)) q4a q4c (g := (mkF m 25 #[.val (.int pp1), .val (.int pp2), .val (.int pp3), .val (.int pp4), .val (.long qq5), .second, .val (.ref b1)] [(.int (0 : Int32)), (.long qq5), (.long qq5), (.int (0 : Int32)), (.long (0 : Int64)), (.int (0 : Int32)), (.long qq5), (.int pp2), (.int pp1), (.int (0 : Int32)), (.int (0 : Int32)), (.ref b1)])) rfl (by rw [hml]; rfl) (Steps.refl _) (argsL := [(.int (0 : Int32)), (.int (0 : Int32)), (.int pp1), (.int pp2), (.long qq5), (.int (0 : Int32)), (.long (0 : Int64)), (.int (0 : Int32)), (.long qq5), (.long qq5), (.int (0 : Int32))]) (rest := []) (lenOf pd__28_IIIIJIJIJJI_29_V rfl) rfl (by show 2 * 0 + _ ≤ _; exact Nat.le_of_eq rfl) (hb hby at_25) (fun _ _ => ⟨rfl, rfl, (by decide : 2 + 0 ≤ _), (by decide : 114 + 0 ≤ _)⟩)
  dsimp only [Pt.U, Pt.locs, Pt.cells, Pt.slots] at X4 l4 y4 z4 st4 hQ4
  subst l4 y4 z4
  obtain ⟨vy_4, rfl, N4q, K4c, R4_0, R4_1, R4_2, hm_4, ha_4⟩ := hQ4
  have N4 := Fr.app N2 N4q
  have Z4 : n0 ≤ T4.heap.size := Nat.le_trans Z2 K4c.1
  have E_5 : Exa Z T4.heap b1 "com/example/tallyhouse/tallyhouse/settle/QueuedTrades" := (E_3.keep K4c)
  obtain ⟨cq6, kq6, q6a, q6b, q6c⟩ := isOf hZ rfl E_5
  obtain ⟨_, _, ⟨T6, L6, k6, n6⟩, -, X6, ⟨Lc6, hQ6, l6, y6, z6⟩, st6⟩ := X4.virtualBack hx (y := (⟨"com/example/tallyhouse/tallyhouse/settle/QueuedTrades", "add", "(IIIIJIJIJJI)V"⟩ : MethodName)) (z := (⟨"com/example/tallyhouse/tallyhouse/settle/QueuedTrades", "add", "(IIIIJIJIJJI)V"⟩ : MethodName)) hown (mvT hZ (hw _ (List.mem_of_getElem? (i := 12) rfl))) (mvT hZ (hw _ (List.mem_of_getElem? (i := 13) rfl))) (notFace_of_selects (args := #[]) (mvT hZ (hw _ (List.mem_of_getElem? (i := 15) rfl)))) (mvT hZ (hw _ (List.mem_of_getElem? (i := 15) rfl))) (mvT hZ (hw _ (List.mem_of_getElem? (i := 14) rfl))) (by decide) (backOf (W := 0) (rm3_1 l Z a0 hw [] b1 (1 : Int32) (1 : Int32) pp3 pp4 qq5 (0 : Int32) (0 : Int64) (0 : Int32) qq5 qq5 (0 : Int32) bx_2 kx_2 vy_4 T4.heap n0 Z4 E_5 g_b1 g_bx_2 (Nat.ne_of_lt (Nat.lt_of_lt_of_le A1.lt sb_bx_2)) R4_0 R4_1 R4_2 (show vy_4.length = 112 from hm_4)) hZ (hw _ (List.mem_of_getElem? (i := 16) rfl)) (hw _ (List.mem_of_getElem? (i := 2) rfl)) (by decide) (by decide)) q6a q6c (g := (mkF m 44 #[.val (.int pp1), .val (.int pp2), .val (.int pp3), .val (.int pp4), .val (.long qq5), .second, .val (.ref b1)] [(.int (0 : Int32)), (.long qq5), (.long qq5), (.int (0 : Int32)), (.long (0 : Int64)), (.int (0 : Int32)), (.long qq5), (.int pp4), (.int pp3), (.int (1 : Int32)), (.int (1 : Int32)), (.ref b1)])) rfl (by rw [hml]; rfl) (Steps.refl _) (argsL := [(.int (1 : Int32)), (.int (1 : Int32)), (.int pp3), (.int pp4), (.long qq5), (.int (0 : Int32)), (.long (0 : Int64)), (.int (0 : Int32)), (.long qq5), (.long qq5), (.int (0 : Int32))]) (rest := []) (lenOf pd__28_IIIIJIJIJJI_29_V rfl) rfl (by show 2 * 0 + _ ≤ _; exact Nat.le_of_eq rfl) (hb hby at_44) (fun _ _ => ⟨rfl, rfl, (by decide : 2 + 0 ≤ _), (by decide : 114 + 0 ≤ _)⟩)
  dsimp only [Pt.U, Pt.locs, Pt.cells, Pt.slots] at X6 l6 y6 z6 st6 hQ6
  subst l6 y6 z6
  obtain ⟨vy_6, rfl, N6q, K6c, R6_0, R6_1, R6_2, hm_6, ha_6, hb_6⟩ := hQ6
  have N6 := Fr.app N4 N6q
  have Z6 : n0 ≤ T6.heap.size := Nat.le_trans Z4 K6c.1
  have E_8 : Exa Z T6.heap b1 "com/example/tallyhouse/tallyhouse/settle/QueuedTrades" := (E_5.keep K6c)
  obtain ⟨cq7, kq7, q7a, q7b, q7c⟩ := isOf hZ rfl E_8
  obtain ⟨_, _, ⟨T7, L7, k7, n7⟩, -, X7, ⟨Lc7, hQ7, l7, y7, z7⟩, st7⟩ := X6.virtualBack hx (y := (⟨"com/example/tallyhouse/tallyhouse/settle/QueuedTrades", "code", "(IZ)I"⟩ : MethodName)) (z := (⟨"com/example/tallyhouse/tallyhouse/settle/QueuedTrades", "code", "(IZ)I"⟩ : MethodName)) hown (mvT hZ (hw _ (List.mem_of_getElem? (i := 20) rfl))) (mvT hZ (hw _ (List.mem_of_getElem? (i := 21) rfl))) (notFace_of_selects (args := #[]) (mvT hZ (hw _ (List.mem_of_getElem? (i := 23) rfl)))) (mvT hZ (hw _ (List.mem_of_getElem? (i := 23) rfl))) (mvT hZ (hw _ (List.mem_of_getElem? (i := 22) rfl))) (by decide) (backOf (W := 0) (rm4_01 l Z a0 hw [] b1 bx_2 kx_2 vy_6 ((pp1.toInt64 <<< ((32 : Int32) &&& 0x3f).toInt64) ||| (pp2.toInt64 &&& (4294967295 : Int64))) T6.heap n0 Z6 R6_0 R6_1 (show vy_6.getD 1 (.long (0 : Int64)) = .long ((pp1.toInt64 <<< ((32 : Int32) &&& 0x3f).toInt64) ||| (pp2.toInt64 &&& (4294967295 : Int64))) from (hb_6.trans ha_4))) hZ (hw _ (List.mem_of_getElem? (i := 24) rfl)) (hw _ (List.mem_of_getElem? (i := 2) rfl)) (by decide) (by decide)) q7a q7c (g := (mkF m 51 #[.val (.int pp1), .val (.int pp2), .val (.int pp3), .val (.int pp4), .val (.long qq5), .second, .val (.ref b1)] [(.int (1 : Int32)), (.int (0 : Int32)), (.ref b1)])) rfl (by rw [hml]; rfl) (Steps.refl _) (argsL := [(.int (0 : Int32)), (.int (1 : Int32))]) (rest := []) (lenOf pd__28_IZ_29_I rfl) rfl (by show 2 * 0 + _ ≤ _; exact Nat.le_of_eq rfl) (hb hby at_51) (fun _ _ => ⟨rfl, rfl, (by decide : 2 + 0 ≤ _), (by decide : 114 + 0 ≤ _)⟩)
  dsimp only [Pt.U, Pt.locs, Pt.cells, Pt.slots] at X7 l7 y7 z7 st7 hQ7
  subst l7 y7 z7
  obtain ⟨rfl, N7q, e7⟩ := hQ7
  have N7 := Fr.app N6 N7q
  have hc55 : ((((pp1.toInt64 <<< ((32 : Int32) &&& 0x3f).toInt64) ||| (pp2.toInt64 &&& (4294967295 : Int64))).toUInt64 >>> ((32 : Int32) &&& 0x3f).toInt64.toUInt64).toInt64.toInt32) = pp1 := own_hi _ _
  obtain ⟨cq9, kq9, q9a, q9b, q9c⟩ := isOf hZ e7 E_8
  obtain ⟨_, _, ⟨T9, L9, k9, n9⟩, -, X9, ⟨Lc9, hQ9, l9, y9, z9⟩, st9⟩ := X7.virtualBack hx (y := (⟨"com/example/tallyhouse/tallyhouse/settle/QueuedTrades", "code", "(IZ)I"⟩ : MethodName)) (z := (⟨"com/example/tallyhouse/tallyhouse/settle/QueuedTrades", "code", "(IZ)I"⟩ : MethodName)) hown (mvT hZ (hw _ (List.mem_of_getElem? (i := 20) rfl))) (mvT hZ (hw _ (List.mem_of_getElem? (i := 21) rfl))) (notFace_of_selects (args := #[]) (mvT hZ (hw _ (List.mem_of_getElem? (i := 23) rfl)))) (mvT hZ (hw _ (List.mem_of_getElem? (i := 23) rfl))) (mvT hZ (hw _ (List.mem_of_getElem? (i := 22) rfl))) (by decide) (backOf (W := 0) (rm4_00 l Z a0 hw [] b1 bx_2 kx_2 vy_6 ((pp1.toInt64 <<< ((32 : Int32) &&& 0x3f).toInt64) ||| (pp2.toInt64 &&& (4294967295 : Int64))) T6.heap n0 Z6 R6_0 R6_1 (show vy_6.getD 1 (.long (0 : Int64)) = .long ((pp1.toInt64 <<< ((32 : Int32) &&& 0x3f).toInt64) ||| (pp2.toInt64 &&& (4294967295 : Int64))) from (hb_6.trans ha_4))) hZ (hw _ (List.mem_of_getElem? (i := 24) rfl)) (hw _ (List.mem_of_getElem? (i := 2) rfl)) (by decide) (by decide)) q9a q9c (g := (mkF m 62 #[.val (.int pp1), .val (.int pp2), .val (.int pp3), .val (.int pp4), .val (.long qq5), .second, .val (.ref b1)] [(.int (0 : Int32)), (.int (0 : Int32)), (.ref b1)])) rfl (by rw [hml]; rfl) (Steps.refl _) (argsL := [(.int (0 : Int32)), (.int (0 : Int32))]) (rest := []) (lenOf pd__28_IZ_29_I rfl) rfl (by show 2 * 0 + _ ≤ _; exact Nat.le_of_eq rfl) (hb hby at_62) (fun _ _ => ⟨rfl, e7, (by decide : 2 + 0 ≤ _), (by decide : 114 + 0 ≤ _)⟩)
  dsimp only [Pt.U, Pt.locs, Pt.cells, Pt.slots] at X9 l9 y9 z9 st9 hQ9
  subst l9 y9 z9
  obtain ⟨rfl, N9q, e9⟩ := hQ9
  have N9 := Fr.app N7 N9q
  have hc66 : (((pp1.toInt64 <<< ((32 : Int32) &&& 0x3f).toInt64) ||| (pp2.toInt64 &&& (4294967295 : Int64))).toInt32) = pp2 := own_lo _ _
  obtain ⟨cq10, kq10, q10a, q10b, q10c⟩ := isOf hZ e9 E_8
  obtain ⟨_, _, ⟨T10, L10, k10, n10⟩, -, X10, ⟨Lc10, hQ10, l10, y10, z10⟩, st10⟩ := X9.virtualBack hx (y := (⟨"com/example/tallyhouse/tallyhouse/settle/QueuedTrades", "code", "(IZ)I"⟩ : MethodName)) (z := (⟨"com/example/tallyhouse/tallyhouse/settle/QueuedTrades", "code", "(IZ)I"⟩ : MethodName)) hown (mvT hZ (hw _ (List.mem_of_getElem? (i := 20) rfl))) (mvT hZ (hw _ (List.mem_of_getElem? (i := 21) rfl))) (notFace_of_selects (args := #[]) (mvT hZ (hw _ (List.mem_of_getElem? (i := 23) rfl)))) (mvT hZ (hw _ (List.mem_of_getElem? (i := 23) rfl))) (mvT hZ (hw _ (List.mem_of_getElem? (i := 22) rfl))) (by decide) (backOf (W := 0) (rm4_11 l Z a0 hw [] b1 bx_2 kx_2 vy_6 ((pp3.toInt64 <<< ((32 : Int32) &&& 0x3f).toInt64) ||| (pp4.toInt64 &&& (4294967295 : Int64))) T6.heap n0 Z6 R6_0 R6_1 (show vy_6.getD 8 (.long (0 : Int64)) = .long ((pp3.toInt64 <<< ((32 : Int32) &&& 0x3f).toInt64) ||| (pp4.toInt64 &&& (4294967295 : Int64))) from ha_6)) hZ (hw _ (List.mem_of_getElem? (i := 24) rfl)) (hw _ (List.mem_of_getElem? (i := 2) rfl)) (by decide) (by decide)) q10a q10c (g := (mkF m 73 #[.val (.int pp1), .val (.int pp2), .val (.int pp3), .val (.int pp4), .val (.long qq5), .second, .val (.ref b1)] [(.int (1 : Int32)), (.int (1 : Int32)), (.ref b1)])) rfl (by rw [hml]; rfl) (Steps.refl _) (argsL := [(.int (1 : Int32)), (.int (1 : Int32))]) (rest := []) (lenOf pd__28_IZ_29_I rfl) rfl (by show 2 * 0 + _ ≤ _; exact Nat.le_of_eq rfl) (hb hby at_73) (fun _ _ => ⟨rfl, e9, (by decide : 2 + 0 ≤ _), (by decide : 114 + 0 ≤ _)⟩)
  dsimp only [Pt.U, Pt.locs, Pt.cells, Pt.slots] at X10 l10 y10 z10 st10 hQ10
  subst l10 y10 z10
  obtain ⟨rfl, N10q, e10⟩ := hQ10
  have N10 := Fr.app N9 N10q
  have hc77 : ((((pp3.toInt64 <<< ((32 : Int32) &&& 0x3f).toInt64) ||| (pp4.toInt64 &&& (4294967295 : Int64))).toUInt64 >>> ((32 : Int32) &&& 0x3f).toInt64.toUInt64).toInt64.toInt32) = pp3 := own_hi _ _
  obtain ⟨cq11, kq11, q11a, q11b, q11c⟩ := isOf hZ e10 E_8
  obtain ⟨_, _, ⟨T11, L11, k11, n11⟩, -, X11, ⟨Lc11, hQ11, l11, y11, z11⟩, st11⟩ := X10.virtualBack hx (y := (⟨"com/example/tallyhouse/tallyhouse/settle/QueuedTrades", "code", "(IZ)I"⟩ : MethodName)) (z := (⟨"com/example/tallyhouse/tallyhouse/settle/QueuedTrades", "code", "(IZ)I"⟩ : MethodName)) hown (mvT hZ (hw _ (List.mem_of_getElem? (i := 20) rfl))) (mvT hZ (hw _ (List.mem_of_getElem? (i := 21) rfl))) (notFace_of_selects (args := #[]) (mvT hZ (hw _ (List.mem_of_getElem? (i := 23) rfl)))) (mvT hZ (hw _ (List.mem_of_getElem? (i := 23) rfl))) (mvT hZ (hw _ (List.mem_of_getElem? (i := 22) rfl))) (by decide) (backOf (W := 0) (rm4_10 l Z a0 hw [] b1 bx_2 kx_2 vy_6 ((pp3.toInt64 <<< ((32 : Int32) &&& 0x3f).toInt64) ||| (pp4.toInt64 &&& (4294967295 : Int64))) T6.heap n0 Z6 R6_0 R6_1 (show vy_6.getD 8 (.long (0 : Int64)) = .long ((pp3.toInt64 <<< ((32 : Int32) &&& 0x3f).toInt64) ||| (pp4.toInt64 &&& (4294967295 : Int64))) from ha_6)) hZ (hw _ (List.mem_of_getElem? (i := 24) rfl)) (hw _ (List.mem_of_getElem? (i := 2) rfl)) (by decide) (by decide)) q11a q11c (g := (mkF m 84 #[.val (.int pp1), .val (.int pp2), .val (.int pp3), .val (.int pp4), .val (.long qq5), .second, .val (.ref b1)] [(.int (0 : Int32)), (.int (1 : Int32)), (.ref b1)])) rfl (by rw [hml]; rfl) (Steps.refl _) (argsL := [(.int (1 : Int32)), (.int (0 : Int32))]) (rest := []) (lenOf pd__28_IZ_29_I rfl) rfl (by show 2 * 0 + _ ≤ _; exact Nat.le_of_eq rfl) (hb hby at_84) (fun _ _ => ⟨rfl, e10, (by decide : 2 + 0 ≤ _), (by decide : 114 + 0 ≤ _)⟩)
  dsimp only [Pt.U, Pt.locs, Pt.cells, Pt.slots] at X11 l11 y11 z11 st11 hQ11
  subst l11 y11 z11
  obtain ⟨rfl, N11q, e11⟩ := hQ11
  have N11 := Fr.app N10 N11q
  have hc88 : (((pp3.toInt64 <<< ((32 : Int32) &&& 0x3f).toInt64) ||| (pp4.toInt64 &&& (4294967295 : Int64))).toInt32) = pp4 := own_lo _ _
  obtain ⟨fs, hr, hrun, hended, hW, hsame⟩ := X11.leave (v := some (.int (1 : Int32))) (fun h => by rw [Bd.returns] at h; cases h)
  refine ⟨_, _, pre0 _ ?_, hrun, hended, _, _, rfl, ?_, ⟨_, rfl⟩, hW, hsame.mono (by decide) (by decide)⟩
  · show Steps p.tables e below (s₁.setTop (mkF m 0 #[.val (.int pp1), .val (.int pp2), .val (.int pp3), .val (.int pp4), .val (.long qq5), .second, .unset] [])) _
    refine st1 _ ?_
    show Steps p.tables e below (T1.setTop (mkF m 3 #[.val (.int pp1), .val (.int pp2), .val (.int pp3), .val (.int pp4), .val (.long qq5), .second, .unset] [(.ref b1)])) _
    refine XS.dup X1.here hx rfl (hb hby at_3) rfl rfl ?_
    show Steps p.tables e below (T1.setTop (mkF m 4 #[.val (.int pp1), .val (.int pp2), .val (.int pp3), .val (.int pp4), .val (.long qq5), .second, .unset] [(.ref b1), (.ref b1)])) _
    refine st2.trans ?_
    show Steps p.tables e below (T2.setTop (mkF m 7 #[.val (.int pp1), .val (.int pp2), .val (.int pp3), .val (.int pp4), .val (.long qq5), .second, .unset] [(.ref b1)])) _
    refine XS.astore X2.here hx rfl (hb hby at_7) rfl rfl (l' := #[.val (.int pp1), .val (.int pp2), .val (.int pp3), .val (.int pp4), .val (.long qq5), .second, .val (.ref b1)]) rfl ?_
    show Steps p.tables e below (T2.setTop (mkF m 9 #[.val (.int pp1), .val (.int pp2), .val (.int pp3), .val (.int pp4), .val (.long qq5), .second, .val (.ref b1)] [])) _
    refine XS.aload X2.here hx rfl (hb hby at_9) rfl rfl ?_
    show Steps p.tables e below (T2.setTop (mkF m 11 #[.val (.int pp1), .val (.int pp2), .val (.int pp3), .val (.int pp4), .val (.long qq5), .second, .val (.ref b1)] [(.ref b1)])) _
    refine XS.iconst X2.here hx rfl (hb hby at_11) ?_
    show Steps p.tables e below (T2.setTop (mkF m 12 #[.val (.int pp1), .val (.int pp2), .val (.int pp3), .val (.int pp4), .val (.long qq5), .second, .val (.ref b1)] [(.int (0 : Int32)), (.ref b1)])) _
    refine XS.iconst X2.here hx rfl (hb hby at_12) ?_
    show Steps p.tables e below (T2.setTop (mkF m 13 #[.val (.int pp1), .val (.int pp2), .val (.int pp3), .val (.int pp4), .val (.long qq5), .second, .val (.ref b1)] [(.int (0 : Int32)), (.int (0 : Int32)), (.ref b1)])) _
    refine XS.iloadN X2.here hx rfl (hb hby at_13) rfl ?_
    show Steps p.tables e below (T2.setTop (mkF m 14 #[.val (.int pp1), .val (.int pp2), .val (.int pp3), .val (.int pp4), .val (.long qq5), .second, .val (.ref b1)] [(.int pp1), (.int (0 : Int32)), (.int (0 : Int32)), (.ref b1)])) _
    refine XS.iloadN X2.here hx rfl (hb hby at_14) rfl ?_
    show Steps p.tables e below (T2.setTop (mkF m 15 #[.val (.int pp1), .val (.int pp2), .val (.int pp3), .val (.int pp4), .val (.long qq5), .second, .val (.ref b1)] [(.int pp2), (.int pp1), (.int (0 : Int32)), (.int (0 : Int32)), (.ref b1)])) _
    refine XS.lload X2.here hx rfl (hb hby at_15) rfl ?_
    show Steps p.tables e below (T2.setTop (mkF m 17 #[.val (.int pp1), .val (.int pp2), .val (.int pp3), .val (.int pp4), .val (.long qq5), .second, .val (.ref b1)] [(.long qq5), (.int pp2), (.int pp1), (.int (0 : Int32)), (.int (0 : Int32)), (.ref b1)])) _
    refine XS.iconst X2.here hx rfl (hb hby at_17) ?_
    show Steps p.tables e below (T2.setTop (mkF m 18 #[.val (.int pp1), .val (.int pp2), .val (.int pp3), .val (.int pp4), .val (.long qq5), .second, .val (.ref b1)] [(.int (0 : Int32)), (.long qq5), (.int pp2), (.int pp1), (.int (0 : Int32)), (.int (0 : Int32)), (.ref b1)])) _
    refine XS.lconst X2.here hx rfl (hb hby at_18) ?_
    show Steps p.tables e below (T2.setTop (mkF m 19 #[.val (.int pp1), .val (.int pp2), .val (.int pp3), .val (.int pp4), .val (.long qq5), .second, .val (.ref b1)] [(.long (0 : Int64)), (.int (0 : Int32)), (.long qq5), (.int pp2), (.int pp1), (.int (0 : Int32)), (.int (0 : Int32)), (.ref b1)])) _
    refine XS.iconst X2.here hx rfl (hb hby at_19) ?_
    show Steps p.tables e below (T2.setTop (mkF m 20 #[.val (.int pp1), .val (.int pp2), .val (.int pp3), .val (.int pp4), .val (.long qq5), .second, .val (.ref b1)] [(.int (0 : Int32)), (.long (0 : Int64)), (.int (0 : Int32)), (.long qq5), (.int pp2), (.int pp1), (.int (0 : Int32)), (.int (0 : Int32)), (.ref b1)])) _
    refine XS.lload X2.here hx rfl (hb hby at_20) rfl ?_
    show Steps p.tables e below (T2.setTop (mkF m 22 #[.val (.int pp1), .val (.int pp2), .val (.int pp3), .val (.int pp4), .val (.long qq5), .second, .val (.ref b1)] [(.long qq5), (.int (0 : Int32)), (.long (0 : Int64)), (.int (0 : Int32)), (.long qq5), (.int pp2), (.int pp1), (.int (0 : Int32)), (.int (0 : Int32)), (.ref b1)])) _
    refine XS.lload X2.here hx rfl (hb hby at_22) rfl ?_
    show Steps p.tables e below (T2.setTop (mkF m 24 #[.val (.int pp1), .val (.int pp2), .val (.int pp3), .val (.int pp4), .val (.long qq5), .second, .val (.ref b1)] [(.long qq5), (.long qq5), (.int (0 : Int32)), (.long (0 : Int64)), (.int (0 : Int32)), (.long qq5), (.int pp2), (.int pp1), (.int (0 : Int32)), (.int (0 : Int32)), (.ref b1)])) _
    refine XS.iconst X2.here hx rfl (hb hby at_24) ?_
    show Steps p.tables e below (T2.setTop (mkF m 25 #[.val (.int pp1), .val (.int pp2), .val (.int pp3), .val (.int pp4), .val (.long qq5), .second, .val (.ref b1)] [(.int (0 : Int32)), (.long qq5), (.long qq5), (.int (0 : Int32)), (.long (0 : Int64)), (.int (0 : Int32)), (.long qq5), (.int pp2), (.int pp1), (.int (0 : Int32)), (.int (0 : Int32)), (.ref b1)])) _
    refine st4.trans ?_
    show Steps p.tables e below (T4.setTop (mkF m 28 #[.val (.int pp1), .val (.int pp2), .val (.int pp3), .val (.int pp4), .val (.long qq5), .second, .val (.ref b1)] [])) _
    refine XS.aload X4.here hx rfl (hb hby at_28) rfl rfl ?_
    show Steps p.tables e below (T4.setTop (mkF m 30 #[.val (.int pp1), .val (.int pp2), .val (.int pp3), .val (.int pp4), .val (.long qq5), .second, .val (.ref b1)] [(.ref b1)])) _
    refine XS.iconst X4.here hx rfl (hb hby at_30) ?_
    show Steps p.tables e below (T4.setTop (mkF m 31 #[.val (.int pp1), .val (.int pp2), .val (.int pp3), .val (.int pp4), .val (.long qq5), .second, .val (.ref b1)] [(.int (1 : Int32)), (.ref b1)])) _
    refine XS.iconst X4.here hx rfl (hb hby at_31) ?_
    show Steps p.tables e below (T4.setTop (mkF m 32 #[.val (.int pp1), .val (.int pp2), .val (.int pp3), .val (.int pp4), .val (.long qq5), .second, .val (.ref b1)] [(.int (1 : Int32)), (.int (1 : Int32)), (.ref b1)])) _
    refine XS.iloadN X4.here hx rfl (hb hby at_32) rfl ?_
    show Steps p.tables e below (T4.setTop (mkF m 33 #[.val (.int pp1), .val (.int pp2), .val (.int pp3), .val (.int pp4), .val (.long qq5), .second, .val (.ref b1)] [(.int pp3), (.int (1 : Int32)), (.int (1 : Int32)), (.ref b1)])) _
    refine XS.iloadN X4.here hx rfl (hb hby at_33) rfl ?_
    show Steps p.tables e below (T4.setTop (mkF m 34 #[.val (.int pp1), .val (.int pp2), .val (.int pp3), .val (.int pp4), .val (.long qq5), .second, .val (.ref b1)] [(.int pp4), (.int pp3), (.int (1 : Int32)), (.int (1 : Int32)), (.ref b1)])) _
    refine XS.lload X4.here hx rfl (hb hby at_34) rfl ?_
    show Steps p.tables e below (T4.setTop (mkF m 36 #[.val (.int pp1), .val (.int pp2), .val (.int pp3), .val (.int pp4), .val (.long qq5), .second, .val (.ref b1)] [(.long qq5), (.int pp4), (.int pp3), (.int (1 : Int32)), (.int (1 : Int32)), (.ref b1)])) _
    refine XS.iconst X4.here hx rfl (hb hby at_36) ?_
    show Steps p.tables e below (T4.setTop (mkF m 37 #[.val (.int pp1), .val (.int pp2), .val (.int pp3), .val (.int pp4), .val (.long qq5), .second, .val (.ref b1)] [(.int (0 : Int32)), (.long qq5), (.int pp4), (.int pp3), (.int (1 : Int32)), (.int (1 : Int32)), (.ref b1)])) _
    refine XS.lconst X4.here hx rfl (hb hby at_37) ?_
    show Steps p.tables e below (T4.setTop (mkF m 38 #[.val (.int pp1), .val (.int pp2), .val (.int pp3), .val (.int pp4), .val (.long qq5), .second, .val (.ref b1)] [(.long (0 : Int64)), (.int (0 : Int32)), (.long qq5), (.int pp4), (.int pp3), (.int (1 : Int32)), (.int (1 : Int32)), (.ref b1)])) _
    refine XS.iconst X4.here hx rfl (hb hby at_38) ?_
    show Steps p.tables e below (T4.setTop (mkF m 39 #[.val (.int pp1), .val (.int pp2), .val (.int pp3), .val (.int pp4), .val (.long qq5), .second, .val (.ref b1)] [(.int (0 : Int32)), (.long (0 : Int64)), (.int (0 : Int32)), (.long qq5), (.int pp4), (.int pp3), (.int (1 : Int32)), (.int (1 : Int32)), (.ref b1)])) _
    refine XS.lload X4.here hx rfl (hb hby at_39) rfl ?_
    show Steps p.tables e below (T4.setTop (mkF m 41 #[.val (.int pp1), .val (.int pp2), .val (.int pp3), .val (.int pp4), .val (.long qq5), .second, .val (.ref b1)] [(.long qq5), (.int (0 : Int32)), (.long (0 : Int64)), (.int (0 : Int32)), (.long qq5), (.int pp4), (.int pp3), (.int (1 : Int32)), (.int (1 : Int32)), (.ref b1)])) _
    refine XS.lload X4.here hx rfl (hb hby at_41) rfl ?_
    show Steps p.tables e below (T4.setTop (mkF m 43 #[.val (.int pp1), .val (.int pp2), .val (.int pp3), .val (.int pp4), .val (.long qq5), .second, .val (.ref b1)] [(.long qq5), (.long qq5), (.int (0 : Int32)), (.long (0 : Int64)), (.int (0 : Int32)), (.long qq5), (.int pp4), (.int pp3), (.int (1 : Int32)), (.int (1 : Int32)), (.ref b1)])) _
    refine XS.iconst X4.here hx rfl (hb hby at_43) ?_
    show Steps p.tables e below (T4.setTop (mkF m 44 #[.val (.int pp1), .val (.int pp2), .val (.int pp3), .val (.int pp4), .val (.long qq5), .second, .val (.ref b1)] [(.int (0 : Int32)), (.long qq5), (.long qq5), (.int (0 : Int32)), (.long (0 : Int64)), (.int (0 : Int32)), (.long qq5), (.int pp4), (.int pp3), (.int (1 : Int32)), (.int (1 : Int32)), (.ref b1)])) _
    refine st6.trans ?_
    show Steps p.tables e below (T6.setTop (mkF m 47 #[.val (.int pp1), .val (.int pp2), .val (.int pp3), .val (.int pp4), .val (.long qq5), .second, .val (.ref b1)] [])) _
    refine XS.aload X6.here hx rfl (hb hby at_47) rfl rfl ?_
    show Steps p.tables e below (T6.setTop (mkF m 49 #[.val (.int pp1), .val (.int pp2), .val (.int pp3), .val (.int pp4), .val (.long qq5), .second, .val (.ref b1)] [(.ref b1)])) _
    refine XS.iconst X6.here hx rfl (hb hby at_49) ?_
    show Steps p.tables e below (T6.setTop (mkF m 50 #[.val (.int pp1), .val (.int pp2), .val (.int pp3), .val (.int pp4), .val (.long qq5), .second, .val (.ref b1)] [(.int (0 : Int32)), (.ref b1)])) _
    refine XS.iconst X6.here hx rfl (hb hby at_50) ?_
    show Steps p.tables e below (T6.setTop (mkF m 51 #[.val (.int pp1), .val (.int pp2), .val (.int pp3), .val (.int pp4), .val (.long qq5), .second, .val (.ref b1)] [(.int (1 : Int32)), (.int (0 : Int32)), (.ref b1)])) _
    refine st7.trans ?_
    show Steps p.tables e below (T7.setTop (mkF m 54 #[.val (.int pp1), .val (.int pp2), .val (.int pp3), .val (.int pp4), .val (.long qq5), .second, .val (.ref b1)] [(.int ((((pp1.toInt64 <<< ((32 : Int32) &&& 0x3f).toInt64) ||| (pp2.toInt64 &&& (4294967295 : Int64))).toUInt64 >>> ((32 : Int32) &&& 0x3f).toInt64.toUInt64).toInt64.toInt32))])) _
    refine XS.iloadN X7.here hx rfl (hb hby at_54) rfl ?_
    show Steps p.tables e below (T7.setTop (mkF m 55 #[.val (.int pp1), .val (.int pp2), .val (.int pp3), .val (.int pp4), .val (.long qq5), .second, .val (.ref b1)] [(.int pp1), (.int ((((pp1.toInt64 <<< ((32 : Int32) &&& 0x3f).toInt64) ||| (pp2.toInt64 &&& (4294967295 : Int64))).toUInt64 >>> ((32 : Int32) &&& 0x3f).toInt64.toUInt64).toInt64.toInt32))])) _
    refine XS.icmpNo X7.here hx rfl (hb hby at_55) rfl (teq hc55).2 ?_
    show Steps p.tables e below (T7.setTop (mkF m 58 #[.val (.int pp1), .val (.int pp2), .val (.int pp3), .val (.int pp4), .val (.long qq5), .second, .val (.ref b1)] [])) _
    refine XS.aload X7.here hx rfl (hb hby at_58) rfl rfl ?_
    show Steps p.tables e below (T7.setTop (mkF m 60 #[.val (.int pp1), .val (.int pp2), .val (.int pp3), .val (.int pp4), .val (.long qq5), .second, .val (.ref b1)] [(.ref b1)])) _
    refine XS.iconst X7.here hx rfl (hb hby at_60) ?_
    show Steps p.tables e below (T7.setTop (mkF m 61 #[.val (.int pp1), .val (.int pp2), .val (.int pp3), .val (.int pp4), .val (.long qq5), .second, .val (.ref b1)] [(.int (0 : Int32)), (.ref b1)])) _
    refine XS.iconst X7.here hx rfl (hb hby at_61) ?_
    show Steps p.tables e below (T7.setTop (mkF m 62 #[.val (.int pp1), .val (.int pp2), .val (.int pp3), .val (.int pp4), .val (.long qq5), .second, .val (.ref b1)] [(.int (0 : Int32)), (.int (0 : Int32)), (.ref b1)])) _
    refine st9.trans ?_
    show Steps p.tables e below (T9.setTop (mkF m 65 #[.val (.int pp1), .val (.int pp2), .val (.int pp3), .val (.int pp4), .val (.long qq5), .second, .val (.ref b1)] [(.int (((pp1.toInt64 <<< ((32 : Int32) &&& 0x3f).toInt64) ||| (pp2.toInt64 &&& (4294967295 : Int64))).toInt32))])) _
    refine XS.iloadN X9.here hx rfl (hb hby at_65) rfl ?_
    show Steps p.tables e below (T9.setTop (mkF m 66 #[.val (.int pp1), .val (.int pp2), .val (.int pp3), .val (.int pp4), .val (.long qq5), .second, .val (.ref b1)] [(.int pp2), (.int (((pp1.toInt64 <<< ((32 : Int32) &&& 0x3f).toInt64) ||| (pp2.toInt64 &&& (4294967295 : Int64))).toInt32))])) _
    refine XS.icmpNo X9.here hx rfl (hb hby at_66) rfl (teq hc66).2 ?_
    show Steps p.tables e below (T9.setTop (mkF m 69 #[.val (.int pp1), .val (.int pp2), .val (.int pp3), .val (.int pp4), .val (.long qq5), .second, .val (.ref b1)] [])) _
    refine XS.aload X9.here hx rfl (hb hby at_69) rfl rfl ?_
    show Steps p.tables e below (T9.setTop (mkF m 71 #[.val (.int pp1), .val (.int pp2), .val (.int pp3), .val (.int pp4), .val (.long qq5), .second, .val (.ref b1)] [(.ref b1)])) _
    refine XS.iconst X9.here hx rfl (hb hby at_71) ?_
    show Steps p.tables e below (T9.setTop (mkF m 72 #[.val (.int pp1), .val (.int pp2), .val (.int pp3), .val (.int pp4), .val (.long qq5), .second, .val (.ref b1)] [(.int (1 : Int32)), (.ref b1)])) _
    refine XS.iconst X9.here hx rfl (hb hby at_72) ?_
    show Steps p.tables e below (T9.setTop (mkF m 73 #[.val (.int pp1), .val (.int pp2), .val (.int pp3), .val (.int pp4), .val (.long qq5), .second, .val (.ref b1)] [(.int (1 : Int32)), (.int (1 : Int32)), (.ref b1)])) _
    refine st10.trans ?_
    show Steps p.tables e below (T10.setTop (mkF m 76 #[.val (.int pp1), .val (.int pp2), .val (.int pp3), .val (.int pp4), .val (.long qq5), .second, .val (.ref b1)] [(.int ((((pp3.toInt64 <<< ((32 : Int32) &&& 0x3f).toInt64) ||| (pp4.toInt64 &&& (4294967295 : Int64))).toUInt64 >>> ((32 : Int32) &&& 0x3f).toInt64.toUInt64).toInt64.toInt32))])) _
    refine XS.iloadN X10.here hx rfl (hb hby at_76) rfl ?_
    show Steps p.tables e below (T10.setTop (mkF m 77 #[.val (.int pp1), .val (.int pp2), .val (.int pp3), .val (.int pp4), .val (.long qq5), .second, .val (.ref b1)] [(.int pp3), (.int ((((pp3.toInt64 <<< ((32 : Int32) &&& 0x3f).toInt64) ||| (pp4.toInt64 &&& (4294967295 : Int64))).toUInt64 >>> ((32 : Int32) &&& 0x3f).toInt64.toUInt64).toInt64.toInt32))])) _
    refine XS.icmpNo X10.here hx rfl (hb hby at_77) rfl (teq hc77).2 ?_
    show Steps p.tables e below (T10.setTop (mkF m 80 #[.val (.int pp1), .val (.int pp2), .val (.int pp3), .val (.int pp4), .val (.long qq5), .second, .val (.ref b1)] [])) _
    refine XS.aload X10.here hx rfl (hb hby at_80) rfl rfl ?_
    show Steps p.tables e below (T10.setTop (mkF m 82 #[.val (.int pp1), .val (.int pp2), .val (.int pp3), .val (.int pp4), .val (.long qq5), .second, .val (.ref b1)] [(.ref b1)])) _
    refine XS.iconst X10.here hx rfl (hb hby at_82) ?_
    show Steps p.tables e below (T10.setTop (mkF m 83 #[.val (.int pp1), .val (.int pp2), .val (.int pp3), .val (.int pp4), .val (.long qq5), .second, .val (.ref b1)] [(.int (1 : Int32)), (.ref b1)])) _
    refine XS.iconst X10.here hx rfl (hb hby at_83) ?_
    show Steps p.tables e below (T10.setTop (mkF m 84 #[.val (.int pp1), .val (.int pp2), .val (.int pp3), .val (.int pp4), .val (.long qq5), .second, .val (.ref b1)] [(.int (0 : Int32)), (.int (1 : Int32)), (.ref b1)])) _
    refine st11.trans ?_
    show Steps p.tables e below (T11.setTop (mkF m 87 #[.val (.int pp1), .val (.int pp2), .val (.int pp3), .val (.int pp4), .val (.long qq5), .second, .val (.ref b1)] [(.int (((pp3.toInt64 <<< ((32 : Int32) &&& 0x3f).toInt64) ||| (pp4.toInt64 &&& (4294967295 : Int64))).toInt32))])) _
    refine XS.iloadN X11.here hx rfl (hb hby at_87) rfl ?_
    show Steps p.tables e below (T11.setTop (mkF m 88 #[.val (.int pp1), .val (.int pp2), .val (.int pp3), .val (.int pp4), .val (.long qq5), .second, .val (.ref b1)] [(.int pp4), (.int (((pp3.toInt64 <<< ((32 : Int32) &&& 0x3f).toInt64) ||| (pp4.toInt64 &&& (4294967295 : Int64))).toInt32))])) _
    refine XS.icmpNo X11.here hx rfl (hb hby at_88) rfl (teq hc88).2 ?_
    show Steps p.tables e below (T11.setTop (mkF m 91 #[.val (.int pp1), .val (.int pp2), .val (.int pp3), .val (.int pp4), .val (.long qq5), .second, .val (.ref b1)] [])) _
    refine XS.iconst X11.here hx rfl (hb hby at_91) ?_
    show Steps p.tables e below (T11.setTop (mkF m 92 #[.val (.int pp1), .val (.int pp2), .val (.int pp3), .val (.int pp4), .val (.long qq5), .second, .val (.ref b1)] [(.int (1 : Int32))])) _
    refine XS.goto X11.here hx rfl (pc0 := 92) (pc' := 96) rfl (hb hby at_92) (by decide) (by decide) ?_
    show Steps p.tables e below (T11.setTop (mkF m 96 #[.val (.int pp1), .val (.int pp2), .val (.int pp3), .val (.int pp4), .val (.long qq5), .second, .val (.ref b1)] [(.int (1 : Int32))])) _
    exact retN X11 hx (t := .boolean) Bd.returns (by simp) (hb hby at_96) hr
  · show Q0 Z pp1 pp2 pp3 pp4 qq5 h0 n0 _ T11.heap _
    rw [e11]
    exact ⟨rfl, N11⟩
set_option maxRecDepth 65536 in
set_option maxHeartbeats 40000000 in
theorem comes_1 {Post : Tables → Env → Array Value → State → Outcome → State → Prop} (hpost : ∀ tb e args s v u, (limb_1_1.after args s (.returned v) u = true ∧ limb_1_2.after args s (.returned v) u = true ∧ True) → FrameEnd s (.returned v) u (Jvm.fieldLocs frame_1_writes args s ++ Jvm.arrayLocs frame_1_arrays args s ++ Jvm.staticLocs frame_1_statics s) 16 320 → Post tb e args s (.returned v) u) :
    ArmFor flags0 classFile x code maxLocals ret World_1 tables_1 room_1 Calls_1 rest_1 Pre_1 Post := by
  intro l hfl _ _ p e ha hc hk s m args below hf hA hF happ hP
  obtain ⟨hcalls, hrest, hpre⟩ := hP
  obtain ⟨-, -, -, hnamed, -, -, -, hat⟩ := (Spec.applies_iff hf).mp happ
  obtain ⟨hg, hn⟩ := and_e (Cond.before_iff.mp (show (Jvm.Cond.and given_1 narrow_1).before args s = true from hpre))
  obtain ⟨g1, g2⟩ := and_e hg
  obtain ⟨g3, g4⟩ := and_e g2
  obtain ⟨g5, g6⟩ := and_e g4
  obtain ⟨g7, g8⟩ := and_e g6
  obtain ⟨g9, g10⟩ := and_e g8
  obtain ⟨w0, w1, w2, w3, w4, rfl⟩ : ∃ w0 w1 w2 w3 w4 : Value, args = #[w0, w1, w2, w3, w4] := by
    have hs : args.size = 5 := by simpa [Cond.value, given_1] using g1
    obtain ⟨L⟩ := args
    match L, hs with
    | [w0, w1, w2, w3, w4], _ => exact ⟨w0, w1, w2, w3, w4, rfl⟩
  have hw := fun d (hd : d ∈ tables_1) => atoms_spec (ws := Jvm.Cond.code x code maxLocals ret :: tables_1) hat d (List.mem_cons_of_mem _ hd)
  have hfit : Fit s := fun {y c} hc i hi => by
    obtain ⟨ha, rfl⟩ := Array.getElem?_eq_some_iff.mp hc
    have q := List.all_eq_true.mp ((Array.all_eq_true_iff_forall_mem.mp hF) _ (Array.getElem_mem ha)) i (List.mem_range.mpr hi)
    simpa [Array.getElem?_eq_getElem hi] using q
  obtain ⟨i0, ei0⟩ := is_v g3
  obtain rfl : w0 = (.int i0) := Option.some.inj ei0
  obtain ⟨i1, ei1⟩ := is_v g5
  obtain rfl : w1 = (.int i1) := Option.some.inj ei1
  obtain ⟨i2, ei2⟩ := is_v g7
  obtain rfl : w2 = (.int i2) := Option.some.inj ei2
  obtain ⟨i3, ei3⟩ := is_v g9
  obtain rfl : w3 = (.int i3) := Option.some.inj ei3
  obtain ⟨i4, ei4⟩ := isL_v g10
  obtain rfl : w4 = (.long i4) := Option.some.inj ei4
  obtain ⟨n, o, h1, h2, h3, _, L, rfl, ⟨rfl, N⟩, hq⟩ := rm0 l s _ hw tables_1 i0 i1 i2 i3 i4 s.heap s.heap.size (Nat.le_refl _)  p e ha hc hk s m _ below hf ((Spec.applies_iff_loose hf).mp happ).1 ⟨rfl, State.Warmed39.refl s, rfl⟩ trivial
  refine ⟨n, _, h1, h2, h3, hpost _ _ _ _ _ _ ⟨Cond.after_iff.mpr rfl, Cond.after_iff.mpr (eq_i res_at (Term.int_eval (1)) rfl), trivial⟩ ⟨hq.1, hq.2.1, (hq.2.2.sift fun y hy => Or.inr (N y hy)).mono (by decide) (by decide)⟩⟩
theorem main_1_1 : Claimed_1_1 := comes_1 fun _ _ _ _ _ _ h hF => ⟨h.1, hF⟩
theorem main_1_2 : Claimed_1_2 := comes_1 fun _ _ _ _ _ _ h hF => ⟨h.2.1, hF⟩
end Jvm.Pilot.@@N@@
namespace Jvm.Pilot.@@N@@
open Jvm Jvm.ClassFile Sem Op Lib Jvm.Free Jvm.Stand Jvm.Pilot.@@N@@.Jvm.D
/-! MADE BY PROGRAM (witnessworld.py) out of the Statement's table words and the real class files: 11 classes; the members and pool entries that the words name. The judged class is class 1, her method 1. -/
namespace start1
open Jvm.ClassFile
def u (s : String) : CpInfo := .utf8 (stringToUtf16 s)
/-- a pool by its gaps: so many unusable entries, then the entry; so many at the end -/
def gap : Nat → List CpInfo → List CpInfo
  | 0, r => r
  | n + 1, r => .unusable :: gap n r
def poolList (es : List (Nat × CpInfo)) (last : Nat) : List CpInfo := es.foldr (fun e r => gap e.1 (e.2 :: r)) (gap last [])
def pool (es : List (Nat × CpInfo)) (last : Nat) : Array CpInfo := ⟨poolList es last⟩
def fileOf (pool : Array CpInfo) (this : Nat) (attrs : Array Attribute := #[]) (ms : Array MethodInfo := #[]) (fl : Nat := 33) (sup : Nat := 0) (ifs : Array Nat := #[]) (fds : Array FieldInfo := #[]) : ClassFile where
  minorVersion := 0
  majorVersion := 65
  constantPool := pool
  accessFlags := fl
  thisClass := this
  superClass := sup
  interfaces := ifs
  fields := fds
  methods := ms
  attributes := attrs
def plain (name : String) (sup : Option ClassId) : Class where
  name := name
  kind := .ordinary
  loader := none
  accessFlags := 33
  super := sup
  interfaces := #[]
  cf := none
  fields := #[]
  methods := #[]
  instanceTypes := #[]
  staticTypes := #[]
  resolved := #[]
  callSites := []
  init := .initialized
  statics := none
  mirror := none

def pool0 : Array CpInfo := pool [(5, u "<init>"), (0, u "()V"), (1, .class_ 10), (1, u "java/lang/Object")] 113

def k0c0 : Code := { maxStack := 0, maxLocals := 1, code := object_method_1_code, exceptionTable := #[], attributes := #[] }
def k0m0 : Method := { name := "<init>", desc := "()V", sig := { parameters := [], returnType := none }, accessFlags := 1, code := some k0c0 }
/-- java/lang/Object -/
def k0 : Class := { plain "java/lang/Object" none with
  accessFlags := 33
  interfaces := #[]
  cf := some (fileOf pool0 8 #[] #[{ accessFlags := 1, nameIndex := 5, descriptorIndex := 6, attributes := #[] }] 33 0 #[] #[])
  fields := #[]
  methods := #[k0m0]
  instanceTypes := #[]
  staticTypes := #[]
  resolved := Array.replicate 124 none
  statics := none }

def pool1 : Array CpInfo := pool [(2, .class_ 4), (0, .nameAndType 5 6), (0, u "java/lang/Object"), (0, u "<init>"), (0, u "()V"), (0, .class_ 8), (0, u "com/example/tallyhouse/tallyhouse/settle/QueuedTrades"), (0, .methodref 7 3), (0, .methodref 7 11), (0, .nameAndType 12 13), (0, u "add"), (0, u "(IIIIJIJIJJI)V"), (0, .methodref 7 15), (0, .nameAndType 16 17), (0, u "code"), (0, u "(IZ)I"), (0, .class_ 19), (0, u "com/example/tallyhouse/tallyhouse/settle/QueuedTradesCodePinLaw"), (2, u "law"), (0, u "(IIIIJ)Z")] 3

def k1m0 : Method := { name := "<init>", desc := "()V", sig := { parameters := [], returnType := none }, accessFlags := 2, code := none }
def k1c1 : Code := { maxStack := 16, maxLocals := 7, code := code, exceptionTable := #[], attributes := #[] }
def k1m1 : Method := { name := "law", desc := "(IIIIJ)Z", sig := { parameters := [.int, .int, .int, .int, .long], returnType := some .boolean }, accessFlags := 9, code := some k1c1 }
/-- com/example/tallyhouse/tallyhouse/settle/QueuedTradesCodePinLaw -/
def k1 : Class := { plain "com/example/tallyhouse/tallyhouse/settle/QueuedTradesCodePinLaw" (some 0) with
  accessFlags := 49
  interfaces := #[]
  cf := some (fileOf pool1 18 #[] #[{ accessFlags := 2, nameIndex := 5, descriptorIndex := 6, attributes := #[] }, { accessFlags := 9, nameIndex := 22, descriptorIndex := 23, attributes := #[] }] 49 2 #[] #[])
  fields := #[]
  methods := #[k1m0, k1m1]
  instanceTypes := #[]
  staticTypes := #[]
  resolved := Array.replicate 27 none
  statics := none }

def pool2 : Array CpInfo := pool [(3, .methodref 4 5), (0, .class_ 6), (0, .nameAndType 7 8), (0, u "java/lang/Object"), (0, u "<init>"), (0, u "()V"), (0, .class_ 10), (0, u "com/example/tallyhouse/tallyhouse/settle/QueuedTrades"), (0, .fieldref 9 12), (0, .nameAndType 13 14), (0, u "trades"), (0, u "[J"), (0, .fieldref 9 16), (0, .nameAndType 17 18), (0, u "size"), (0, u "I"), (8, .long 4294967295), (23, u "(IZ)I"), (5, u "FLAGS"), (0, u "[Lcom/example/tallyhouse/tallyhouse/book/Flag;"), (4, u "PLACE"), (2, u "CODES"), (1, u "QTY"), (1, u "WHERE"), (1, u "ID"), (1, u "NUMBER"), (1, u "STRIDE"), (1, u "LINE_BITS"), (1, u "FIRST_TRADES"), (1, u "LOW"), (0, u "J"), (0, u "OPENS"), (0, u "SIDE_BITS"), (3, u "add"), (0, u "(IIIIJIJIJJI)V"), (9, u "code")] 14

def k2c0 : Code := { maxStack := 2, maxLocals := 1, code := prog_38_method_1_code, exceptionTable := #[], attributes := #[] }
def k2m0 : Method := { name := "<init>", desc := "()V", sig := { parameters := [], returnType := none }, accessFlags := 0, code := some k2c0 }
def k2c1 : Code := { maxStack := 8, maxLocals := 17, code := prog_38_method_2_code, exceptionTable := #[], attributes := #[] }
def k2m1 : Method := { name := "add", desc := "(IIIIJIJIJJI)V", sig := { parameters := [.int, .int, .int, .int, .long, .int, .long, .int, .long, .long, .int], returnType := none }, accessFlags := 0, code := some k2c1 }
def k2c2 : Code := { maxStack := 3, maxLocals := 5, code := prog_38_method_11_code, exceptionTable := #[], attributes := #[] }
def k2m2 : Method := { name := "code", desc := "(IZ)I", sig := { parameters := [.int, .boolean], returnType := some .int }, accessFlags := 0, code := some k2c2 }
/-- com/example/tallyhouse/tallyhouse/settle/QueuedTrades -/
def k2 : Class := { plain "com/example/tallyhouse/tallyhouse/settle/QueuedTrades" (some 0) with
  accessFlags := 48
  interfaces := #[]
  cf := some (fileOf pool2 9 #[] #[{ accessFlags := 0, nameIndex := 7, descriptorIndex := 8, attributes := #[] }, { accessFlags := 0, nameIndex := 89, descriptorIndex := 90, attributes := #[] }, { accessFlags := 0, nameIndex := 100, descriptorIndex := 51, attributes := #[] }] 48 4 #[] #[{ accessFlags := 26, nameIndex := 63, descriptorIndex := 18, attributes := #[] }, { accessFlags := 26, nameIndex := 66, descriptorIndex := 18, attributes := #[] }, { accessFlags := 26, nameIndex := 68, descriptorIndex := 18, attributes := #[] }, { accessFlags := 26, nameIndex := 70, descriptorIndex := 18, attributes := #[] }, { accessFlags := 26, nameIndex := 72, descriptorIndex := 18, attributes := #[] }, { accessFlags := 26, nameIndex := 74, descriptorIndex := 18, attributes := #[] }, { accessFlags := 26, nameIndex := 76, descriptorIndex := 18, attributes := #[] }, { accessFlags := 26, nameIndex := 78, descriptorIndex := 18, attributes := #[] }, { accessFlags := 26, nameIndex := 80, descriptorIndex := 18, attributes := #[] }, { accessFlags := 26, nameIndex := 82, descriptorIndex := 83, attributes := #[] }, { accessFlags := 26, nameIndex := 84, descriptorIndex := 18, attributes := #[] }, { accessFlags := 26, nameIndex := 85, descriptorIndex := 18, attributes := #[] }, { accessFlags := 26, nameIndex := 57, descriptorIndex := 58, attributes := #[] }, { accessFlags := 2, nameIndex := 13, descriptorIndex := 14, attributes := #[] }, { accessFlags := 2, nameIndex := 17, descriptorIndex := 18, attributes := #[] }])
  fields := #[{ name := "PLACE", type := .int, accessFlags := 26, slot := 0, constantValue := 0 }, { name := "CODES", type := .int, accessFlags := 26, slot := 1, constantValue := 0 }, { name := "QTY", type := .int, accessFlags := 26, slot := 2, constantValue := 0 }, { name := "WHERE", type := .int, accessFlags := 26, slot := 3, constantValue := 0 }, { name := "ID", type := .int, accessFlags := 26, slot := 4, constantValue := 0 }, { name := "NUMBER", type := .int, accessFlags := 26, slot := 5, constantValue := 0 }, { name := "STRIDE", type := .int, accessFlags := 26, slot := 6, constantValue := 0 }, { name := "LINE_BITS", type := .int, accessFlags := 26, slot := 7, constantValue := 0 }, { name := "FIRST_TRADES", type := .int, accessFlags := 26, slot := 8, constantValue := 0 }, { name := "LOW", type := .long, accessFlags := 26, slot := 9, constantValue := 0 }, { name := "OPENS", type := .int, accessFlags := 26, slot := 10, constantValue := 0 }, { name := "SIDE_BITS", type := .int, accessFlags := 26, slot := 11, constantValue := 0 }, { name := "FLAGS", type := (.array (.object "com/example/tallyhouse/tallyhouse/book/Flag")), accessFlags := 26, slot := 12, constantValue := 0 }, { name := "trades", type := (.array .long), accessFlags := 2, slot := 0, constantValue := 0 }, { name := "size", type := .int, accessFlags := 2, slot := 1, constantValue := 0 }]
  methods := #[k2m0, k2m1, k2m2]
  instanceTypes := #[(.array .long), .int]
  staticTypes := #[.int, .int, .int, .int, .int, .int, .int, .int, .int, .long, .int, .int, (.array (.object "com/example/tallyhouse/tallyhouse/book/Flag"))]
  resolved := Array.replicate 115 none
  statics := none }

def pool3 : Array CpInfo := pool [(1, u "java/lang/Cloneable"), (0, .class_ 1), (0, u "java/lang/Object"), (0, .class_ 3)] 3

/-- java/lang/Cloneable -/
def k3 : Class := { plain "java/lang/Cloneable" (some 0) with
  accessFlags := 1537
  interfaces := #[]
  cf := some (fileOf pool3 2 #[] #[] 1537 4 #[] #[])
  fields := #[]
  methods := #[]
  instanceTypes := #[]
  staticTypes := #[]
  resolved := Array.replicate 8 none
  statics := none }

def pool4 : Array CpInfo := pool [(1, u "java/io/Serializable"), (0, .class_ 1), (0, u "java/lang/Object"), (0, .class_ 3)] 3

/-- java/io/Serializable -/
def k4 : Class := { plain "java/io/Serializable" (some 0) with
  accessFlags := 1537
  interfaces := #[]
  cf := some (fileOf pool4 2 #[] #[] 1537 4 #[] #[])
  fields := #[]
  methods := #[]
  instanceTypes := #[]
  staticTypes := #[]
  resolved := Array.replicate 8 none
  statics := none }

/-- the primitive byte -/
def k5 : Class := { plain "byte" none with kind := .primitive 'B', accessFlags := 0x411 }
/-- [B -/
def k6 : Class := { plain "[B" (some 0) with kind := .array 5 .byte, interfaces := #[3, 4], accessFlags := 1041 }

/-- the primitive int -/
def k7 : Class := { plain "int" none with kind := .primitive 'I', accessFlags := 0x411 }
/-- [I -/
def k8 : Class := { plain "[I" (some 0) with kind := .array 7 .int, interfaces := #[3, 4], accessFlags := 1041 }

/-- the primitive long -/
def k9 : Class := { plain "long" none with kind := .primitive 'J', accessFlags := 0x411 }
/-- [J -/
def k10 : Class := { plain "[J" (some 0) with kind := .array 9 .long, interfaces := #[3, 4], accessFlags := 1041 }

def heap : Heap := #[]
def classes : Array Class := #[k0, k1, k2, k3, k4, k5, k6, k7, k8, k9, k10]
def interned : List (Array UInt16 × Addr) := []
def slotsUsed : Nat := 0
def theMethod : MethodId := ⟨1, 1⟩
def args0 : Array Value := #[.int 1, .int 2, .int 3, .int 4, .long 5]
def aboutOver (below : List Frame) : State where
  vm := { classes := classes, interned := interned.toArray }
  heap := heap
  slotsUsed := slotsUsed
  threads := #[{ frames := .invoking theMethod args0 :: below }]
def below0 : List Frame := [.native { method := ⟨0, 0⟩, args := #[] }]
def about1 : State := aboutOver below0
def p0 : Program := .bare "" "" ""
def e0 : Env := launch0.env 0 0 0
theorem w_frames : about1.frames = Frame.invoking theMethod args0 :: below0 := rfl
set_option maxRecDepth 65536 in
theorem w_args : argsFit about1.vm theMethod args0 = true := by decide +kernel
set_option maxRecDepth 65536 in
theorem w_heap : heapFits about1 = true := by decide +kernel
set_option maxRecDepth 65536 in
theorem w_runnable : about1.curStatus? = some .runnable := by decide +kernel
set_option maxRecDepth 65536 in
theorem w_alone : about1.alone = true := by decide +kernel
set_option maxRecDepth 65536 in
theorem w_named : about1.methodNamed? x = some theMethod := by decide +kernel
set_option maxRecDepth 65536 in
theorem w_hears : about1.hears theMethod below0 = true := by decide +kernel
set_option maxRecDepth 65536 in
theorem w_ripe : about1.ripe theMethod args0 below0 = true := by decide +kernel
theorem w_running : about1.status = .running := rfl
set_option maxRecDepth 65536 in
theorem w_room : about1.hasRoom e0.platform room_1 = true :=
  launch0.hasRoom_least _ room_1 (by decide +kernel) (by decide +kernel) (by decide +kernel) (by decide +kernel) (by decide +kernel) (by decide +kernel)
theorem allAtoms_all (ts : List Jvm.Cond) (a : Array Jvm.Value) (st : Jvm.State) : (allAtoms ts).before a st = ts.all (fun c => c.before a st) := by
  induction ts with
  | nil => rfl
  | cons c t ih =>
    show (Jvm.Cond.and c (allAtoms t)).before a st = _
    rw [Jvm.Cond.before_and, ih, List.all_cons]
def words1 : List Jvm.Cond := Jvm.Cond.code x code maxLocals ret :: tables_1
/-- a 'code' word, met by the world's own term for the bytes: nothing is compared byte by byte -/
theorem code_word {y : MethodName} {bytes : ByteArray} {mx : Nat} {rt : Option FieldType} {a : Array Value} {s : State} {m : MethodId} {meth : Method} {c : Code} (h1 : s.methodNamed? y = some m) (h2 : s.vm.method? m = some meth) (h3 : meth.code = some c) (h4 : c.code = bytes)
    (h5 : (c.maxLocals == mx && c.exceptionTable.isEmpty && decide (c.maxStack ≤ mostOperands) && decide (meth.sig.returnType = rt) && !meth.locks && decide (parseMethodDescriptor y.desc = some meth.sig)) = true) : (Jvm.Cond.code y bytes mx rt).before a s = true := by
  simp only [Bool.and_eq_true, beq_iff_eq, Bool.not_eq_true', decide_eq_true_eq] at h5
  obtain ⟨⟨⟨⟨⟨g1, g2⟩, g3⟩, g4⟩, g5⟩, g6⟩ := h5
  simp [Cond.before, Cond.holds, Cond.value, h1, h2, h3, h4, g1, g2, g3, g4, g5, g6]
def isCode : Jvm.Cond → Bool
  | .code _ _ _ _ => true
  | _ => false
theorem all_split {L : List Jvm.Cond} {P : Jvm.Cond → Bool} (h1 : L.all (fun c => isCode c || P c) = true) (h2 : ∀ c ∈ L.filter isCode, P c = true) : L.all P = true := by
  refine List.all_eq_true.mpr fun c hc => ?_
  have h := List.all_eq_true.mp h1 c hc
  rcases Bool.eq_false_or_eq_true (isCode c) with hi | hi
  · exact h2 c (List.mem_filter.mpr ⟨hc, hi⟩)
  · simpa [hi] using h
set_option maxRecDepth 65536 in
theorem w_c0 : (Jvm.Cond.code x code maxLocals ret).before args0 about1 = true := code_word (m := ⟨1, 1⟩) (meth := k1m1) (c := k1c1) (by decide +kernel) rfl rfl rfl (by decide +kernel)
set_option maxRecDepth 65536 in
theorem w_c1 : (Jvm.Cond.code ({ cls := "com/example/tallyhouse/tallyhouse/settle/QueuedTrades", name := "<init>", desc := "()V" } : Jvm.MethodName) prog_38_method_1_code (1 : Nat) (Option.none : Option Jvm.ClassFile.FieldType)).before args0 about1 = true := code_word (m := ⟨2, 0⟩) (meth := k2m0) (c := k2c0) (by decide +kernel) rfl rfl rfl (by decide +kernel)
set_option maxRecDepth 65536 in
theorem w_c2 : (Jvm.Cond.code ({ cls := "java/lang/Object", name := "<init>", desc := "()V" } : Jvm.MethodName) object_method_1_code (1 : Nat) (Option.none : Option Jvm.ClassFile.FieldType)).before args0 about1 = true := code_word (m := ⟨0, 0⟩) (meth := k0m0) (c := k0c0) (by decide +kernel) rfl rfl rfl (by decide +kernel)
set_option maxRecDepth 65536 in
theorem w_c3 : (Jvm.Cond.code ({ cls := "com/example/tallyhouse/tallyhouse/settle/QueuedTrades", name := "add", desc := "(IIIIJIJIJJI)V" } : Jvm.MethodName) prog_38_method_2_code (17 : Nat) (Option.none : Option Jvm.ClassFile.FieldType)).before args0 about1 = true := code_word (m := ⟨2, 1⟩) (meth := k2m1) (c := k2c1) (by decide +kernel) rfl rfl rfl (by decide +kernel)
set_option maxRecDepth 65536 in
theorem w_c4 : (Jvm.Cond.code ({ cls := "com/example/tallyhouse/tallyhouse/settle/QueuedTrades", name := "code", desc := "(IZ)I" } : Jvm.MethodName) prog_38_method_11_code (5 : Nat) (Option.some Jvm.ClassFile.FieldType.int)).before args0 about1 = true := code_word (m := ⟨2, 2⟩) (meth := k2m2) (c := k2c2) (by decide +kernel) rfl rfl rfl (by decide +kernel)
def codes1 : List Jvm.Cond := [Jvm.Cond.code x code maxLocals ret, Jvm.Cond.code ({ cls := "com/example/tallyhouse/tallyhouse/settle/QueuedTrades", name := "<init>", desc := "()V" } : Jvm.MethodName) prog_38_method_1_code (1 : Nat) (Option.none : Option Jvm.ClassFile.FieldType), Jvm.Cond.code ({ cls := "java/lang/Object", name := "<init>", desc := "()V" } : Jvm.MethodName) object_method_1_code (1 : Nat) (Option.none : Option Jvm.ClassFile.FieldType), Jvm.Cond.code ({ cls := "com/example/tallyhouse/tallyhouse/settle/QueuedTrades", name := "add", desc := "(IIIIJIJIJJI)V" } : Jvm.MethodName) prog_38_method_2_code (17 : Nat) (Option.none : Option Jvm.ClassFile.FieldType), Jvm.Cond.code ({ cls := "com/example/tallyhouse/tallyhouse/settle/QueuedTrades", name := "code", desc := "(IZ)I" } : Jvm.MethodName) prog_38_method_11_code (5 : Nat) (Option.some Jvm.ClassFile.FieldType.int)]
set_option maxRecDepth 65536 in
theorem codes_eq : words1.filter isCode = codes1 := rfl
theorem w_codes : ∀ c ∈ words1.filter isCode, c.before args0 about1 = true := by
  rw [codes_eq]
  intro c hc
  simp only [codes1, List.mem_cons, List.not_mem_nil, or_false] at hc
  rcases hc with rfl | rfl | rfl | rfl | rfl
  · exact w_c0
  · exact w_c1
  · exact w_c2
  · exact w_c3
  · exact w_c4
set_option maxRecDepth 65536 in
theorem w_t1 : (words1.take 24).all (fun c => isCode c || c.before args0 about1) = true := by decide +kernel
set_option maxRecDepth 65536 in
theorem w_t2 : (words1.drop 24).all (fun c => isCode c || c.before args0 about1) = true := by decide +kernel
theorem w_tables : (allAtoms (Jvm.Cond.code x code maxLocals ret :: tables_1)).before args0 about1 = true := by
  rw [allAtoms_all]
  show words1.all (fun c => c.before args0 about1) = true
  refine all_split ?_ w_codes
  rw [← List.take_append_drop 24 words1, List.all_append, w_t1, w_t2]
  rfl
set_option maxRecDepth 65536 in
theorem w_case : (Jvm.Cond.and given_1 narrow_1).before args0 about1 = true := by decide +kernel
theorem w_applies : (headSpec (Jvm.Cond.code x code maxLocals ret :: tables_1) room_1).applies x e0.platform about1 = true :=
  (Spec.applies_iff w_frames).mpr ⟨w_running, w_runnable, w_alone, w_named, w_hears, w_ripe, w_room, w_tables⟩
theorem atStart : AtStart classFile x code maxLocals ret World_1 tables_1 room_1 Calls_1 rest_1 Pre_1 launch0 p0 e0 about1 theMethod args0 below0 :=
  ⟨lists_1, trivial, launch0.admits_env _ _ _, launch0.least_env, fairChoices_fair.cas, fairChoices_fair.clock, w_frames, w_args, w_heap, w_applies, trivial, trivial, w_case⟩
end start1
theorem witness_1 : WitnessClaimed_1 := ⟨start1.p0, start1.e0, start1.about1, start1.theMethod, start1.args0, start1.below0, start1.atStart⟩
end Jvm.Pilot.@@N@@
