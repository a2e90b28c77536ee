import JvmDerived
import JvmDerived.Pilot.@@N@@Statement
import JvmDerived.Pilot.@@N@@Code
set_option linter.unusedVariables false
set_option linter.unusedSimpArgs false
namespace Jvm.RoadKit
open Sem ClassFile Op Lib Jvm.Stand Jvm.Free Jvm.LawKit
section New
variable {p : Program} {l : Launch} {e : Env} {R : Room} {s : State} {m : MethodId} {args : Array Value} {below : List Frame} {meth : Method} {c : Code} {T : State} {locs : List Loc} {cells slots : Nat}
theorem retI (X : Stand p l e R s m args below meth c T locs cells slots) (hx : p.tables.exec = Jvm.exec) {pc : Nat} {Ls : Array Slot} {z : Int32} {rest : List Value} (hret : meth.sig.returnType = some .int) (hd : decode c.code pc = .ok (.ireturn, 1)) {fs : List Frame}
    (hl : ∀ (f : JFrame) (acts : List Action), f.method = m → f.locked = none → f.entered = [] → (doReturn e (T.setTop f) acts (some (.int z))).1 = T.setFrames fs) : Steps p.tables e below (T.setTop (mkF m pc Ls (.int z :: rest))) (T.setFrames fs) := by
  have hm' : T.vm.method? m = some meth := X.method'
  have hn : narrow .int (.int z) = .int z := rfl
  show Steps p.tables e below (T.setTop { method := m, pc := pc, locals := Ls, stack := _ :: rest, locked := none }) _
  jvm_step X.here [X.here.top, hx, hd, hm', hret, hn]
  first | (intro acts; rw [hl _ acts rfl rfl rfl]) | rw [hl _ _ rfl rfl rfl]
  exact Steps.refl _
end New
end Jvm.RoadKit
@@BLOCK:NumsL.lean.txt@@
namespace Jvm.Pilot.@@N@@
open Jvm Jvm.ClassFile Sem Op Lib Jvm.Free Jvm.Stand Jvm.LawKit Jvm.RoadKit Bundle Jvm.Pilot.@@N@@.Jvm.D
theorem own_pos (r : Int64) : 0 < (((r &&& (9223372036854775807 : Int64)) - ((r &&& (9223372036854775807 : Int64)) / (316224000000000 : Int64)) * (316224000000000 : Int64)) + (1 : Int64)).toInt ∧ (((r &&& (9223372036854775807 : Int64)) - ((r &&& (9223372036854775807 : Int64)) / (316224000000000 : Int64)) * (316224000000000 : Int64)) + (1 : Int64)).toInt ≤ 316224000000000 := by
  have m := Jvm.Kit.i64_mask r 9223372036854775807 (k := 63) (by decide) (by decide)
  have q0 : 0 ≤ (r &&& (9223372036854775807 : Int64)).toInt := by rw [m]; omega
  have e1 := Jvm.Kit.i64_rem_nonneg (y := (316224000000000 : Int64)) q0
  have e : (316224000000000 : Int64).toInt = 316224000000000 := by decide
  have e' : (1 : Int64).toInt = 1 := by decide
  rw [e] at e1
  generalize (r &&& (9223372036854775807 : Int64)) - ((r &&& (9223372036854775807 : Int64)) / (316224000000000 : Int64)) * (316224000000000 : Int64) = z at e1
  have b1 : 0 ≤ z.toInt := by rw [e1]; omega
  have b2 : z.toInt < 316224000000000 := by rw [e1]; omega
  rw [Jvm.Kit.i64_add (by omega) (by omega), e']
  omega
theorem own_org (o : Int64) : -62135596800000 ≤ ((-62135596800000 : Int64) + ((o &&& (9223372036854775807 : Int64)) - ((o &&& (9223372036854775807 : Int64)) / (315537897600000 : Int64)) * (315537897600000 : Int64))).toInt ∧ ((-62135596800000 : Int64) + ((o &&& (9223372036854775807 : Int64)) - ((o &&& (9223372036854775807 : Int64)) / (315537897600000 : Int64)) * (315537897600000 : Int64))).toInt < 253402300800000 := by
  have m := Jvm.Kit.i64_mask o 9223372036854775807 (k := 63) (by decide) (by decide)
  have q0 : 0 ≤ (o &&& (9223372036854775807 : Int64)).toInt := by rw [m]; omega
  have e1 := Jvm.Kit.i64_rem_nonneg (y := (315537897600000 : Int64)) q0
  have e : (315537897600000 : Int64).toInt = 315537897600000 := by decide
  have e' : (-62135596800000 : Int64).toInt = -62135596800000 := by decide
  rw [e] at e1
  generalize (o &&& (9223372036854775807 : Int64)) - ((o &&& (9223372036854775807 : Int64)) / (315537897600000 : Int64)) * (315537897600000 : Int64) = z at e1
  have b1 : 0 ≤ z.toInt := by rw [e1]; omega
  have b2 : z.toInt < 315537897600000 := by rw [e1]; omega
  rw [Jvm.Kit.i64_add (by omega) (by omega), e']
  omega
theorem own_ge1 {r : Int64} (h : 0 < r.toInt) : ¬ r < (1 : Int64) := by
  have e' : (1 : Int64).toInt = 1 := by decide
  rw [Int64.lt_iff_toInt_lt, e']; omega
theorem own_leL {r : Int64} (h : r.toInt ≤ 316224000000000) : ¬ (316224000000000 : Int64) < r := by
  have e' : (316224000000000 : Int64).toInt = 316224000000000 := by decide
  rw [Int64.lt_iff_toInt_lt, e']; omega
theorem own_first (o s : Int64) : o + (0 : Int64) * s = o := by rw [Int64.zero_mul, Int64.add_zero]
theorem own_step (o k s : Int64) : (o + (k + (1 : Int64)) * s) - (o + k * s) = s := by
  rw [Int64.add_mul, Int64.one_mul]
  rw [← Int64.toBitVec_inj]
  simp only [Int64.toBitVec_add, Int64.toBitVec_sub]
  generalize (k * s).toBitVec = x
  generalize o.toBitVec = y
  generalize s.toBitVec = z
  rw [← BitVec.add_assoc, BitVec.add_comm (y + x) z, BitVec.add_sub_cancel]
theorem own_aff (o k j s : Int64) : o + (k + j) * s = ((o + k * s) + (o + j * s)) - o := by
  rw [Int64.add_mul]
  rw [← Int64.toBitVec_inj]
  simp only [Int64.toBitVec_add, Int64.toBitVec_sub]
  generalize (k * s).toBitVec = x
  generalize (j * s).toBitVec = x'
  generalize o.toBitVec = y
  rw [BitVec.add_comm y x', ← BitVec.add_assoc (y + x) x' y, BitVec.add_sub_cancel, BitVec.add_assoc]
theorem own_wid (a r : Int64) : (a + r) - a = r := by
  rw [Int64.add_comm]; exact Int64.add_sub_cancel r a
theorem pn_java_lang_Record : plainName "java/lang/Record" = true := by first | (simp [plainName, overriddenIn]; done) | decide +kernel
theorem d2_0 : decode jdk_30_method_1_code 0 = .ok (.aload_n 0, 1) := by decide +kernel
theorem d2_1 : decode jdk_30_method_1_code 1 = .ok (.invokespecial 1, 3) := by decide +kernel
theorem d2_4 : decode jdk_30_method_1_code 4 = .ok (.return_, 1) := by decide +kernel
theorem ef_2 (m : MethodId) (x0 : Addr) : entryFrame m #[(.ref x0)] 1 = mkF m 0 #[.val (.ref x0)] [] := by first | (simp [entryFrame, mkF, argsToLocals, Value.category]; done) | rfl
def Q2 (Z : State) (aa0 : Addr) (h0 : Heap) (n0 : Nat) (v : Option Value) (h : Heap) (L : List Loc) : Prop := v = none ∧ Fr n0 L ∧ h = h0
set_option maxRecDepth 65536 in
set_option maxHeartbeats 40000000 in
theorem rm2 (l : Launch) (Z : State) (a0 : Array Value) (hw : ∀ d ∈ tables_1, d.before a0 Z = true) (ws : List Jvm.Cond) (aa0 : Addr) (h0 : Heap) (n0 : Nat) (Z0 : n0 ≤ h0.size) :
    MetFree l (⟨"java/lang/Record", "<init>", "()V"⟩ : MethodName) (head1 (Jvm.Cond.code (⟨"java/lang/Record", "<init>", "()V"⟩ : MethodName) jdk_30_method_1_code 1 none :: ws) ({ frames := 1, cells := 0, slots := 0, locals := 12 } : Room)) (fun a U => a = #[(.ref aa0)] ∧ Z.Warmed39 U.vm ∧ U.heap = h0) (fun _ _ _ _ _ => True) (fun _ U o U' => ∃ v L, o = .returned v ∧ Q2 Z aa0 h0 n0 v U'.heap L ∧ FrameEnd U o U' L ({ frames := 1, cells := 0, slots := 0, locals := 12 } : Room).cells ({ frames := 1, cells := 0, slots := 0, locals := 12 } : Room).slots) := by
  refine MetFree.of_bodySF (plainFor_of_name pn_java_lang_Record) hisR ?_
  intro p e s m args below meth c s₁ Bd hml0 hP hK
  obtain ⟨rfl, hZ, hh⟩ := hP
  have hx := Bd.exec
  have hby := Bd.bytes
  have hml : c.maxLocals = 1 := hml0
  have hown : s.vm.findClass "java/lang/Record" = some m.cls := findClass_of_methodNamed Bd.named
  have hnm := (name_of_methodNamed Bd.named Bd.method).1
  have X0 : Stand p l e ({ frames := 1, cells := 0, slots := 0, locals := 12 } : Room) s m #[(.ref aa0)] below meth c s₁ [] 0 0 := Stand.of_body Bd
  have e0 : s₁.heap = h0 := by rw [← hh, Bd.state]; rfl
  have N0 := Fr.nil n0
  have pre0 : ∀ t, Steps p.tables e below (s₁.setTop (mkF m 0 #[.val (.ref aa0)] [])) t → Steps p.tables e below (s₁.setTop (entryFrame m #[(.ref aa0)] 1)) t := fun t k => castTop (ef_2 m aa0) k
  obtain ⟨T1, X1, e1, st1⟩ := initO X0 hx hZ hown (hw _ (List.mem_of_getElem? (i := 27) rfl)) (hw _ (List.mem_of_getElem? (i := 28) rfl)) (hw _ (List.mem_of_getElem? (i := 29) rfl)) e0 (g := (mkF m 1 #[.val (.ref aa0)] [(.ref aa0)])) rfl (by rw [hml]; rfl) rfl (hb hby d2_1) (by decide) (W := 0) (by show 2 * 0 + _ ≤ _; exact Nat.le_of_eq rfl) (by decide)
  obtain ⟨fs, hr, hrun, hended, hW, hsame⟩ := X1.leave (v := none) (fun _ => rfl)
  refine ⟨_, _, pre0 _ ?_, hrun, hended, _, _, rfl, ?_, ⟨_, rfl⟩, hW, hsame.mono (by decide) (by decide)⟩
  · show Steps p.tables e below (s₁.setTop (mkF m 0 #[.val (.ref aa0)] [])) _
    refine XS.aloadN X0.here hx rfl (hb hby d2_0) rfl rfl ?_
    show Steps p.tables e below (s₁.setTop (mkF m 1 #[.val (.ref aa0)] [(.ref aa0)])) _
    refine st1 _ ?_
    show Steps p.tables e below (T1.setTop (mkF m 4 #[.val (.ref aa0)] [])) _
    exact X1.returnOut hx Bd.returns (hb hby d2_4) hr
  · show Q2 Z aa0 h0 n0 _ T1.heap _
    rw [e1]
    exact ⟨rfl, N0, rfl⟩
theorem pd__28__29_V : parseMethodDescriptor "()V" = some ⟨[], none⟩ := by decide +kernel
theorem pn_com_example_corrente_corrente_TimeWindow : plainName "com/example/corrente/corrente/TimeWindow" = true := by first | (simp [plainName, overriddenIn]; done) | decide +kernel
theorem d1_0 : decode prog_12_method_1_code 0 = .ok (.aload_n 0, 1) := by decide +kernel
theorem d1_1 : decode prog_12_method_1_code 1 = .ok (.invokespecial 1, 3) := by decide +kernel
theorem d1_4 : decode prog_12_method_1_code 4 = .ok (.lload_n 3, 1) := by decide +kernel
theorem d1_5 : decode prog_12_method_1_code 5 = .ok (.lconst 1, 1) := by decide +kernel
theorem d1_6 : decode prog_12_method_1_code 6 = .ok (.lcmp, 1) := by decide +kernel
theorem d1_7 : decode prog_12_method_1_code 7 = .ok (.ifCond .lt 27, 3) := by decide +kernel
theorem d1_10 : decode prog_12_method_1_code 10 = .ok (.lload_n 3, 1) := by decide +kernel
theorem d1_11 : decode prog_12_method_1_code 11 = .ok (.ldc2_w 9, 3) := by decide +kernel
theorem d1_14 : decode prog_12_method_1_code 14 = .ok (.lcmp, 1) := by decide +kernel
theorem d1_15 : decode prog_12_method_1_code 15 = .ok (.ifCond .gt 19, 3) := by decide +kernel
theorem d1_18 : decode prog_12_method_1_code 18 = .ok (.lload 5, 2) := by decide +kernel
theorem d1_20 : decode prog_12_method_1_code 20 = .ok (.lconst 1, 1) := by decide +kernel
theorem d1_21 : decode prog_12_method_1_code 21 = .ok (.lcmp, 1) := by decide +kernel
theorem d1_22 : decode prog_12_method_1_code 22 = .ok (.ifCond .lt 12, 3) := by decide +kernel
theorem d1_25 : decode prog_12_method_1_code 25 = .ok (.lload 5, 2) := by decide +kernel
theorem d1_27 : decode prog_12_method_1_code 27 = .ok (.ldc2_w 9, 3) := by decide +kernel
theorem d1_30 : decode prog_12_method_1_code 30 = .ok (.lcmp, 1) := by decide +kernel
theorem d1_31 : decode prog_12_method_1_code 31 = .ok (.ifCond .le 13, 3) := by decide +kernel
theorem d1_44 : decode prog_12_method_1_code 44 = .ok (.aload_n 0, 1) := by decide +kernel
theorem d1_45 : decode prog_12_method_1_code 45 = .ok (.aload_n 1, 1) := by decide +kernel
theorem d1_46 : decode prog_12_method_1_code 46 = .ok (.putfield 18, 3) := by decide +kernel
theorem d1_49 : decode prog_12_method_1_code 49 = .ok (.aload_n 0, 1) := by decide +kernel
theorem d1_50 : decode prog_12_method_1_code 50 = .ok (.aload_n 2, 1) := by decide +kernel
theorem d1_51 : decode prog_12_method_1_code 51 = .ok (.putfield 22, 3) := by decide +kernel
theorem d1_54 : decode prog_12_method_1_code 54 = .ok (.aload_n 0, 1) := by decide +kernel
theorem d1_55 : decode prog_12_method_1_code 55 = .ok (.lload_n 3, 1) := by decide +kernel
theorem d1_56 : decode prog_12_method_1_code 56 = .ok (.putfield 25, 3) := by decide +kernel
theorem d1_59 : decode prog_12_method_1_code 59 = .ok (.aload_n 0, 1) := by decide +kernel
theorem d1_60 : decode prog_12_method_1_code 60 = .ok (.lload 5, 2) := by decide +kernel
theorem d1_62 : decode prog_12_method_1_code 62 = .ok (.putfield 29, 3) := by decide +kernel
theorem d1_65 : decode prog_12_method_1_code 65 = .ok (.aload_n 0, 1) := by decide +kernel
theorem d1_66 : decode prog_12_method_1_code 66 = .ok (.lload 7, 2) := by decide +kernel
theorem d1_68 : decode prog_12_method_1_code 68 = .ok (.putfield 32, 3) := by decide +kernel
theorem d1_71 : decode prog_12_method_1_code 71 = .ok (.aload_n 0, 1) := by decide +kernel
theorem d1_72 : decode prog_12_method_1_code 72 = .ok (.aload 9, 2) := by decide +kernel
theorem d1_74 : decode prog_12_method_1_code 74 = .ok (.putfield 35, 3) := by decide +kernel
theorem d1_77 : decode prog_12_method_1_code 77 = .ok (.aload_n 0, 1) := by decide +kernel
theorem d1_78 : decode prog_12_method_1_code 78 = .ok (.aload 10, 2) := by decide +kernel
theorem d1_80 : decode prog_12_method_1_code 80 = .ok (.putfield 39, 3) := by decide +kernel
theorem d1_83 : decode prog_12_method_1_code 83 = .ok (.return_, 1) := by decide +kernel
theorem ef_1 (m : MethodId) (x0 : Addr) (x1 : Addr) (x2 : Addr) (x3 : Int64) (x4 : Int64) (x5 : Int64) (x6 : Addr) : entryFrame m #[(.ref x0), (.ref x1), (.ref x2), (.long x3), (.long x4), (.long x5), (.ref x6), .null] 11 = mkF m 0 #[.val (.ref x0), .val (.ref x1), .val (.ref x2), .val (.long x3), .second, .val (.long x4), .second, .val (.long x5), .second, .val (.ref x6), .val .null] [] := by first | (simp [entryFrame, mkF, argsToLocals, Value.category]; done) | rfl
def Q1 (Z : State) (aa0 : Addr) (aa1 : Addr) (aa2 : Addr) (qq3 : Int64) (qq4 : Int64) (qq5 : Int64) (aa6 : Addr) (u_name : Value) (u_stream : Value) (u_range : Value) (u_step : Value) (u_origin : Value) (u_report : Value) (u_ontology : Value) (h0 : Heap) (n0 : Nat) (v : Option Value) (h : Heap) (L : List Loc) : Prop := v = none ∧ Fr n0 L ∧ Keep h0 h [aa0] ∧ (Fld Z h aa0 "com/example/corrente/corrente/TimeWindow" "name" "Ljava/lang/String;" (.ref aa1)) ∧ (Fld Z h aa0 "com/example/corrente/corrente/TimeWindow" "stream" "Ljava/lang/String;" (.ref aa2)) ∧ (Fld Z h aa0 "com/example/corrente/corrente/TimeWindow" "range" "J" (.long qq3)) ∧ (Fld Z h aa0 "com/example/corrente/corrente/TimeWindow" "step" "J" (.long qq4)) ∧ (Fld Z h aa0 "com/example/corrente/corrente/TimeWindow" "origin" "J" (.long qq5)) ∧ (Fld Z h aa0 "com/example/corrente/corrente/TimeWindow" "report" "Lcom/example/corrente/corrente/ReportPolicy;" (.ref aa6)) ∧ (Fld Z h aa0 "com/example/corrente/corrente/TimeWindow" "ontology" "Ljava/lang/String;" .null)
set_option maxRecDepth 65536 in
set_option maxHeartbeats 40000000 in
theorem rm1 (l : Launch) (Z : State) (a0 : Array Value) (hw : ∀ d ∈ tables_1, d.before a0 Z = true) (ws : List Jvm.Cond) (aa0 : Addr) (aa1 : Addr) (aa2 : Addr) (qq3 : Int64) (qq4 : Int64) (qq5 : Int64) (aa6 : Addr) (u_name : Value) (u_stream : Value) (u_range : Value) (u_step : Value) (u_origin : Value) (u_report : Value) (u_ontology : Value) (h0 : Heap) (n0 : Nat) (Z0 : n0 ≤ h0.size) (E_aa0 : Exa Z h0 aa0 "com/example/corrente/corrente/TimeWindow") (g_aa0 : n0 ≤ aa0) (F_aa0_name : Fld Z h0 aa0 "com/example/corrente/corrente/TimeWindow" "name" "Ljava/lang/String;" u_name) (F_aa0_stream : Fld Z h0 aa0 "com/example/corrente/corrente/TimeWindow" "stream" "Ljava/lang/String;" u_stream) (F_aa0_range : Fld Z h0 aa0 "com/example/corrente/corrente/TimeWindow" "range" "J" u_range) (F_aa0_step : Fld Z h0 aa0 "com/example/corrente/corrente/TimeWindow" "step" "J" u_step) (F_aa0_origin : Fld Z h0 aa0 "com/example/corrente/corrente/TimeWindow" "origin" "J" u_origin) (F_aa0_report : Fld Z h0 aa0 "com/example/corrente/corrente/TimeWindow" "report" "Lcom/example/corrente/corrente/ReportPolicy;" u_report) (F_aa0_ontology : Fld Z h0 aa0 "com/example/corrente/corrente/TimeWindow" "ontology" "Ljava/lang/String;" u_ontology) (hr1 : ¬ qq3 < (1 : Int64)) (hr2 : ¬ (316224000000000 : Int64) < qq3) (hs1 : ¬ qq4 < (1 : Int64)) (hs2 : ¬ (316224000000000 : Int64) < qq4) :
    MetFree l (⟨"com/example/corrente/corrente/TimeWindow", "<init>", "(Ljava/lang/String;Ljava/lang/String;JJJLcom/example/corrente/corrente/ReportPolicy;Ljava/lang/String;)V"⟩ : MethodName) (head1 (Jvm.Cond.code (⟨"com/example/corrente/corrente/TimeWindow", "<init>", "(Ljava/lang/String;Ljava/lang/String;JJJLcom/example/corrente/corrente/ReportPolicy;Ljava/lang/String;)V"⟩ : MethodName) prog_12_method_1_code 11 none :: ws) ({ frames := 2, cells := 0, slots := 0, locals := 24 } : Room)) (fun a U => a = #[(.ref aa0), (.ref aa1), (.ref aa2), (.long qq3), (.long qq4), (.long qq5), (.ref aa6), .null] ∧ Z.Warmed39 U.vm ∧ U.heap = h0) (fun _ _ _ _ _ => True) (fun _ U o U' => ∃ v L, o = .returned v ∧ Q1 Z aa0 aa1 aa2 qq3 qq4 qq5 aa6 u_name u_stream u_range u_step u_origin u_report u_ontology h0 n0 v U'.heap L ∧ FrameEnd U o U' L ({ frames := 2, cells := 0, slots := 0, locals := 24 } : Room).cells ({ frames := 2, cells := 0, slots := 0, locals := 24 } : Room).slots) := by
  refine MetFree.of_bodySF (plainFor_of_name pn_com_example_corrente_corrente_TimeWindow) hisR ?_
  intro p e s m args below meth c s₁ Bd hml0 hP hK
  obtain ⟨rfl, hZ, hh⟩ := hP
  have hx := Bd.exec
  have hby := Bd.bytes
  have hml : c.maxLocals = 11 := hml0
  have hown : s.vm.findClass "com/example/corrente/corrente/TimeWindow" = some m.cls := findClass_of_methodNamed Bd.named
  have hnm := (name_of_methodNamed Bd.named Bd.method).1
  have X0 : Stand p l e ({ frames := 2, cells := 0, slots := 0, locals := 24 } : Room) s m #[(.ref aa0), (.ref aa1), (.ref aa2), (.long qq3), (.long qq4), (.long qq5), (.ref aa6), .null] below meth c s₁ [] 0 0 := Stand.of_body Bd
  have e0 : s₁.heap = h0 := by rw [← hh, Bd.state]; rfl
  have N0 := Fr.nil n0
  have pre0 : ∀ t, Steps p.tables e below (s₁.setTop (mkF m 0 #[.val (.ref aa0), .val (.ref aa1), .val (.ref aa2), .val (.long qq3), .second, .val (.long qq4), .second, .val (.long qq5), .second, .val (.ref aa6), .val .null] [])) t → Steps p.tables e below (s₁.setTop (entryFrame m #[(.ref aa0), (.ref aa1), (.ref aa2), (.long qq3), (.long qq4), (.long qq5), (.ref aa6), .null] 11)) t := fun t k => castTop (ef_1 m aa0 aa1 aa2 qq3 qq4 qq5 aa6) k
  obtain ⟨_, _, ⟨T1, L1, k1, n1⟩, -, X1, ⟨Lc1, hQ1, l1, y1, z1⟩, st1⟩ := X0.specialBack hx (y := (⟨"java/lang/Record", "<init>", "()V"⟩ : MethodName)) rfl hown (mvT hZ (hw _ (List.mem_of_getElem? (i := 22) rfl))) (mvT hZ (hw _ (List.mem_of_getElem? (i := 23) rfl))) (mvT hZ (hw _ (List.mem_of_getElem? (i := 26) rfl))) (by decide) (backOf (W := 0) (rm2 l Z a0 hw [] aa0 h0 n0 Z0 ) hZ (hw _ (List.mem_of_getElem? (i := 26) rfl)) (hw _ (List.mem_of_getElem? (i := 25) rfl)) (by decide) (by decide)) (g := (mkF m 1 #[.val (.ref aa0), .val (.ref aa1), .val (.ref aa2), .val (.long qq3), .second, .val (.long qq4), .second, .val (.long qq5), .second, .val (.ref aa6), .val .null] [(.ref aa0)])) rfl (by rw [hml]; rfl) (Steps.refl _) (a := aa0) (argsL := []) (rest := []) (lenOf pd__28__29_V rfl) rfl (by show 2 * 0 + _ ≤ _; exact Nat.le_of_eq rfl) (hb hby d1_1) (fun _ _ => ⟨rfl, e0, (by decide : 0 + 0 ≤ _), (by decide : 0 + 0 ≤ _)⟩)
  dsimp only [Pt.U, Pt.locs, Pt.cells, Pt.slots] at X1 l1 y1 z1 st1 hQ1
  subst l1 y1 z1
  obtain ⟨rfl, N1q, e1⟩ := hQ1
  have N1 := Fr.app N0 N1q
  have hc7 : ¬ (qq3 < (1 : Int64)) := hr1
  have hc15 : ¬ ((316224000000000 : Int64) < qq3) := hr2
  have hc22 : ¬ (qq4 < (1 : Int64)) := hs1
  have hc31 : ¬ ((316224000000000 : Int64) < qq4) := hs2
  obtain ⟨T2, h2, X2, e2, W2, st2⟩ := putF X1 hx hZ hown (host := "") (Or.inl (hw _ (List.mem_of_getElem? (i := 31) rfl))) Via.refl e1 F_aa0_name E_aa0 (Or.inr ⟨(hw _ (List.mem_of_getElem? (i := 32) rfl)), rfl, hnm⟩) (hw _ (List.mem_of_getElem? (i := 5) rfl)) (ty := (.object "java/lang/String")) (by decide) rfl rfl (g := (mkF m 46 #[.val (.ref aa0), .val (.ref aa1), .val (.ref aa2), .val (.long qq3), .second, .val (.long qq4), .second, .val (.long qq5), .second, .val (.ref aa6), .val .null] [(.ref aa1), (.ref aa0)])) rfl rfl (hb hby d1_46)
  have N2 := Fr.snoc X2 N1 g_aa0
  have Z2 : n0 ≤ h2.size := Nat.le_trans Z0 (Keep.of_wr W2).1
  have K2 : Keep h0 h2 [aa0] := (Keep.refl h0 [aa0]).wr W2 (Or.inl (List.mem_of_getElem? (i := 0) rfl))
  have F2 : Fld Z h2 aa0 "com/example/corrente/corrente/TimeWindow" "name" "Ljava/lang/String;" (.ref aa1) := F_aa0_name.same W2
  have E_3 : Exa Z h2 aa0 "com/example/corrente/corrente/TimeWindow" := (E_aa0.wr W2)
  have F_4 : Fld Z h2 aa0 "com/example/corrente/corrente/TimeWindow" "stream" "Ljava/lang/String;" u_stream := (F_aa0_stream.other W2 (Or.inr (slot_ne (Or.inr (hw _ (List.mem_of_getElem? (i := 34) rfl))) (Or.inr (hw _ (List.mem_of_getElem? (i := 32) rfl))) (by decide) (t := (.object "java/lang/String")) (t' := (.object "java/lang/String")) (by decide) (by decide))))
  obtain ⟨T5, h5, X5, e5, W5, st5⟩ := putF X2 hx hZ hown (host := "") (Or.inl (hw _ (List.mem_of_getElem? (i := 33) rfl))) Via.refl e2 F_4 E_3 (Or.inr ⟨(hw _ (List.mem_of_getElem? (i := 34) rfl)), rfl, hnm⟩) (hw _ (List.mem_of_getElem? (i := 5) rfl)) (ty := (.object "java/lang/String")) (by decide) rfl rfl (g := (mkF m 51 #[.val (.ref aa0), .val (.ref aa1), .val (.ref aa2), .val (.long qq3), .second, .val (.long qq4), .second, .val (.long qq5), .second, .val (.ref aa6), .val .null] [(.ref aa2), (.ref aa0)])) rfl rfl (hb hby d1_51)
  have N5 := Fr.snoc X5 N2 g_aa0
  have Z5 : n0 ≤ h5.size := Nat.le_trans Z2 (Keep.of_wr W5).1
  have K5 : Keep h0 h5 [aa0] := K2.wr W5 (Or.inl (List.mem_of_getElem? (i := 0) rfl))
  have F5 : Fld Z h5 aa0 "com/example/corrente/corrente/TimeWindow" "stream" "Ljava/lang/String;" (.ref aa2) := F_4.same W5
  have E_6 : Exa Z h5 aa0 "com/example/corrente/corrente/TimeWindow" := (E_3.wr W5)
  have F_7 : Fld Z h5 aa0 "com/example/corrente/corrente/TimeWindow" "range" "J" u_range := ((F_aa0_range.other W2 (Or.inr (slot_ne (Or.inr (hw _ (List.mem_of_getElem? (i := 36) rfl))) (Or.inr (hw _ (List.mem_of_getElem? (i := 32) rfl))) (by decide) (t := .long) (t' := (.object "java/lang/String")) (by decide) (by decide)))).other W5 (Or.inr (slot_ne (Or.inr (hw _ (List.mem_of_getElem? (i := 36) rfl))) (Or.inr (hw _ (List.mem_of_getElem? (i := 34) rfl))) (by decide) (t := .long) (t' := (.object "java/lang/String")) (by decide) (by decide))))
  obtain ⟨T8, h8, X8, e8, W8, st8⟩ := putF X5 hx hZ hown (host := "") (Or.inl (hw _ (List.mem_of_getElem? (i := 35) rfl))) Via.refl e5 F_7 E_6 (Or.inr ⟨(hw _ (List.mem_of_getElem? (i := 36) rfl)), rfl, hnm⟩) (hw _ (List.mem_of_getElem? (i := 5) rfl)) (ty := .long) (by decide) rfl rfl (g := (mkF m 56 #[.val (.ref aa0), .val (.ref aa1), .val (.ref aa2), .val (.long qq3), .second, .val (.long qq4), .second, .val (.long qq5), .second, .val (.ref aa6), .val .null] [(.long qq3), (.ref aa0)])) rfl rfl (hb hby d1_56)
  have N8 := Fr.snoc X8 N5 g_aa0
  have Z8 : n0 ≤ h8.size := Nat.le_trans Z5 (Keep.of_wr W8).1
  have K8 : Keep h0 h8 [aa0] := K5.wr W8 (Or.inl (List.mem_of_getElem? (i := 0) rfl))
  have F8 : Fld Z h8 aa0 "com/example/corrente/corrente/TimeWindow" "range" "J" (.long qq3) := F_7.same W8
  have E_9 : Exa Z h8 aa0 "com/example/corrente/corrente/TimeWindow" := (E_6.wr W8)
  have F_10 : Fld Z h8 aa0 "com/example/corrente/corrente/TimeWindow" "step" "J" u_step := (((F_aa0_step.other W2 (Or.inr (slot_ne (Or.inr (hw _ (List.mem_of_getElem? (i := 38) rfl))) (Or.inr (hw _ (List.mem_of_getElem? (i := 32) rfl))) (by decide) (t := .long) (t' := (.object "java/lang/String")) (by decide) (by decide)))).other W5 (Or.inr (slot_ne (Or.inr (hw _ (List.mem_of_getElem? (i := 38) rfl))) (Or.inr (hw _ (List.mem_of_getElem? (i := 34) rfl))) (by decide) (t := .long) (t' := (.object "java/lang/String")) (by decide) (by decide)))).other W8 (Or.inr (slot_ne (Or.inr (hw _ (List.mem_of_getElem? (i := 38) rfl))) (Or.inr (hw _ (List.mem_of_getElem? (i := 36) rfl))) (by decide) (t := .long) (t' := .long) (by decide) (by decide))))
  obtain ⟨T11, h11, X11, e11, W11, st11⟩ := putF X8 hx hZ hown (host := "") (Or.inl (hw _ (List.mem_of_getElem? (i := 37) rfl))) Via.refl e8 F_10 E_9 (Or.inr ⟨(hw _ (List.mem_of_getElem? (i := 38) rfl)), rfl, hnm⟩) (hw _ (List.mem_of_getElem? (i := 5) rfl)) (ty := .long) (by decide) rfl rfl (g := (mkF m 62 #[.val (.ref aa0), .val (.ref aa1), .val (.ref aa2), .val (.long qq3), .second, .val (.long qq4), .second, .val (.long qq5), .second, .val (.ref aa6), .val .null] [(.long qq4), (.ref aa0)])) rfl rfl (hb hby d1_62)
  have N11 := Fr.snoc X11 N8 g_aa0
  have Z11 : n0 ≤ h11.size := Nat.le_trans Z8 (Keep.of_wr W11).1
  have K11 : Keep h0 h11 [aa0] := K8.wr W11 (Or.inl (List.mem_of_getElem? (i := 0) rfl))
  have F11 : Fld Z h11 aa0 "com/example/corrente/corrente/TimeWindow" "step" "J" (.long qq4) := F_10.same W11
  have E_12 : Exa Z h11 aa0 "com/example/corrente/corrente/TimeWindow" := (E_9.wr W11)
  have F_13 : Fld Z h11 aa0 "com/example/corrente/corrente/TimeWindow" "origin" "J" u_origin := ((((F_aa0_origin.other W2 (Or.inr (slot_ne (Or.inr (hw _ (List.mem_of_getElem? (i := 40) rfl))) (Or.inr (hw _ (List.mem_of_getElem? (i := 32) rfl))) (by decide) (t := .long) (t' := (.object "java/lang/String")) (by decide) (by decide)))).other W5 (Or.inr (slot_ne (Or.inr (hw _ (List.mem_of_getElem? (i := 40) rfl))) (Or.inr (hw _ (List.mem_of_getElem? (i := 34) rfl))) (by decide) (t := .long) (t' := (.object "java/lang/String")) (by decide) (by decide)))).other W8 (Or.inr (slot_ne (Or.inr (hw _ (List.mem_of_getElem? (i := 40) rfl))) (Or.inr (hw _ (List.mem_of_getElem? (i := 36) rfl))) (by decide) (t := .long) (t' := .long) (by decide) (by decide)))).other W11 (Or.inr (slot_ne (Or.inr (hw _ (List.mem_of_getElem? (i := 40) rfl))) (Or.inr (hw _ (List.mem_of_getElem? (i := 38) rfl))) (by decide) (t := .long) (t' := .long) (by decide) (by decide))))
  obtain ⟨T14, h14, X14, e14, W14, st14⟩ := putF X11 hx hZ hown (host := "") (Or.inl (hw _ (List.mem_of_getElem? (i := 39) rfl))) Via.refl e11 F_13 E_12 (Or.inr ⟨(hw _ (List.mem_of_getElem? (i := 40) rfl)), rfl, hnm⟩) (hw _ (List.mem_of_getElem? (i := 5) rfl)) (ty := .long) (by decide) rfl rfl (g := (mkF m 68 #[.val (.ref aa0), .val (.ref aa1), .val (.ref aa2), .val (.long qq3), .second, .val (.long qq4), .second, .val (.long qq5), .second, .val (.ref aa6), .val .null] [(.long qq5), (.ref aa0)])) rfl rfl (hb hby d1_68)
  have N14 := Fr.snoc X14 N11 g_aa0
  have Z14 : n0 ≤ h14.size := Nat.le_trans Z11 (Keep.of_wr W14).1
  have K14 : Keep h0 h14 [aa0] := K11.wr W14 (Or.inl (List.mem_of_getElem? (i := 0) rfl))
  have F14 : Fld Z h14 aa0 "com/example/corrente/corrente/TimeWindow" "origin" "J" (.long qq5) := F_13.same W14
  have E_15 : Exa Z h14 aa0 "com/example/corrente/corrente/TimeWindow" := (E_12.wr W14)
  have F_16 : Fld Z h14 aa0 "com/example/corrente/corrente/TimeWindow" "report" "Lcom/example/corrente/corrente/ReportPolicy;" u_report := (((((F_aa0_report.other W2 (Or.inr (slot_ne (Or.inr (hw _ (List.mem_of_getElem? (i := 42) rfl))) (Or.inr (hw _ (List.mem_of_getElem? (i := 32) rfl))) (by decide) (t := (.object "com/example/corrente/corrente/ReportPolicy")) (t' := (.object "java/lang/String")) (by decide) (by decide)))).other W5 (Or.inr (slot_ne (Or.inr (hw _ (List.mem_of_getElem? (i := 42) rfl))) (Or.inr (hw _ (List.mem_of_getElem? (i := 34) rfl))) (by decide) (t := (.object "com/example/corrente/corrente/ReportPolicy")) (t' := (.object "java/lang/String")) (by decide) (by decide)))).other W8 (Or.inr (slot_ne (Or.inr (hw _ (List.mem_of_getElem? (i := 42) rfl))) (Or.inr (hw _ (List.mem_of_getElem? (i := 36) rfl))) (by decide) (t := (.object "com/example/corrente/corrente/ReportPolicy")) (t' := .long) (by decide) (by decide)))).other W11 (Or.inr (slot_ne (Or.inr (hw _ (List.mem_of_getElem? (i := 42) rfl))) (Or.inr (hw _ (List.mem_of_getElem? (i := 38) rfl))) (by decide) (t := (.object "com/example/corrente/corrente/ReportPolicy")) (t' := .long) (by decide) (by decide)))).other W14 (Or.inr (slot_ne (Or.inr (hw _ (List.mem_of_getElem? (i := 42) rfl))) (Or.inr (hw _ (List.mem_of_getElem? (i := 40) rfl))) (by decide) (t := (.object "com/example/corrente/corrente/ReportPolicy")) (t' := .long) (by decide) (by decide))))
  obtain ⟨T17, h17, X17, e17, W17, st17⟩ := putF X14 hx hZ hown (host := "") (Or.inl (hw _ (List.mem_of_getElem? (i := 41) rfl))) Via.refl e14 F_16 E_15 (Or.inr ⟨(hw _ (List.mem_of_getElem? (i := 42) rfl)), rfl, hnm⟩) (hw _ (List.mem_of_getElem? (i := 5) rfl)) (ty := (.object "com/example/corrente/corrente/ReportPolicy")) (by decide) rfl rfl (g := (mkF m 74 #[.val (.ref aa0), .val (.ref aa1), .val (.ref aa2), .val (.long qq3), .second, .val (.long qq4), .second, .val (.long qq5), .second, .val (.ref aa6), .val .null] [(.ref aa6), (.ref aa0)])) rfl rfl (hb hby d1_74)
  have N17 := Fr.snoc X17 N14 g_aa0
  have Z17 : n0 ≤ h17.size := Nat.le_trans Z14 (Keep.of_wr W17).1
  have K17 : Keep h0 h17 [aa0] := K14.wr W17 (Or.inl (List.mem_of_getElem? (i := 0) rfl))
  have F17 : Fld Z h17 aa0 "com/example/corrente/corrente/TimeWindow" "report" "Lcom/example/corrente/corrente/ReportPolicy;" (.ref aa6) := F_16.same W17
  have E_18 : Exa Z h17 aa0 "com/example/corrente/corrente/TimeWindow" := (E_15.wr W17)
  have F_19 : Fld Z h17 aa0 "com/example/corrente/corrente/TimeWindow" "ontology" "Ljava/lang/String;" u_ontology := ((((((F_aa0_ontology.other W2 (Or.inr (slot_ne (Or.inr (hw _ (List.mem_of_getElem? (i := 44) rfl))) (Or.inr (hw _ (List.mem_of_getElem? (i := 32) rfl))) (by decide) (t := (.object "java/lang/String")) (t' := (.object "java/lang/String")) (by decide) (by decide)))).other W5 (Or.inr (slot_ne (Or.inr (hw _ (List.mem_of_getElem? (i := 44) rfl))) (Or.inr (hw _ (List.mem_of_getElem? (i := 34) rfl))) (by decide) (t := (.object "java/lang/String")) (t' := (.object "java/lang/String")) (by decide) (by decide)))).other W8 (Or.inr (slot_ne (Or.inr (hw _ (List.mem_of_getElem? (i := 44) rfl))) (Or.inr (hw _ (List.mem_of_getElem? (i := 36) rfl))) (by decide) (t := (.object "java/lang/String")) (t' := .long) (by decide) (by decide)))).other W11 (Or.inr (slot_ne (Or.inr (hw _ (List.mem_of_getElem? (i := 44) rfl))) (Or.inr (hw _ (List.mem_of_getElem? (i := 38) rfl))) (by decide) (t := (.object "java/lang/String")) (t' := .long) (by decide) (by decide)))).other W14 (Or.inr (slot_ne (Or.inr (hw _ (List.mem_of_getElem? (i := 44) rfl))) (Or.inr (hw _ (List.mem_of_getElem? (i := 40) rfl))) (by decide) (t := (.object "java/lang/String")) (t' := .long) (by decide) (by decide)))).other W17 (Or.inr (slot_ne (Or.inr (hw _ (List.mem_of_getElem? (i := 44) rfl))) (Or.inr (hw _ (List.mem_of_getElem? (i := 42) rfl))) (by decide) (t := (.object "java/lang/String")) (t' := (.object "com/example/corrente/corrente/ReportPolicy")) (by decide) (by decide))))
  obtain ⟨T20, h20, X20, e20, W20, st20⟩ := putF X17 hx hZ hown (host := "") (Or.inl (hw _ (List.mem_of_getElem? (i := 43) rfl))) Via.refl e17 F_19 E_18 (Or.inr ⟨(hw _ (List.mem_of_getElem? (i := 44) rfl)), rfl, hnm⟩) (hw _ (List.mem_of_getElem? (i := 5) rfl)) (ty := (.object "java/lang/String")) (by decide) rfl rfl (g := (mkF m 80 #[.val (.ref aa0), .val (.ref aa1), .val (.ref aa2), .val (.long qq3), .second, .val (.long qq4), .second, .val (.long qq5), .second, .val (.ref aa6), .val .null] [.null, (.ref aa0)])) rfl rfl (hb hby d1_80)
  have N20 := Fr.snoc X20 N17 g_aa0
  have Z20 : n0 ≤ h20.size := Nat.le_trans Z17 (Keep.of_wr W20).1
  have K20 : Keep h0 h20 [aa0] := K17.wr W20 (Or.inl (List.mem_of_getElem? (i := 0) rfl))
  have F20 : Fld Z h20 aa0 "com/example/corrente/corrente/TimeWindow" "ontology" "Ljava/lang/String;" .null := F_19.same W20
  have F_21 : Fld Z h20 aa0 "com/example/corrente/corrente/TimeWindow" "name" "Ljava/lang/String;" (.ref aa1) := ((((((F2.other W5 (Or.inr (slot_ne (Or.inr (hw _ (List.mem_of_getElem? (i := 32) rfl))) (Or.inr (hw _ (List.mem_of_getElem? (i := 34) rfl))) (by decide) (t := (.object "java/lang/String")) (t' := (.object "java/lang/String")) (by decide) (by decide)))).other W8 (Or.inr (slot_ne (Or.inr (hw _ (List.mem_of_getElem? (i := 32) rfl))) (Or.inr (hw _ (List.mem_of_getElem? (i := 36) rfl))) (by decide) (t := (.object "java/lang/String")) (t' := .long) (by decide) (by decide)))).other W11 (Or.inr (slot_ne (Or.inr (hw _ (List.mem_of_getElem? (i := 32) rfl))) (Or.inr (hw _ (List.mem_of_getElem? (i := 38) rfl))) (by decide) (t := (.object "java/lang/String")) (t' := .long) (by decide) (by decide)))).other W14 (Or.inr (slot_ne (Or.inr (hw _ (List.mem_of_getElem? (i := 32) rfl))) (Or.inr (hw _ (List.mem_of_getElem? (i := 40) rfl))) (by decide) (t := (.object "java/lang/String")) (t' := .long) (by decide) (by decide)))).other W17 (Or.inr (slot_ne (Or.inr (hw _ (List.mem_of_getElem? (i := 32) rfl))) (Or.inr (hw _ (List.mem_of_getElem? (i := 42) rfl))) (by decide) (t := (.object "java/lang/String")) (t' := (.object "com/example/corrente/corrente/ReportPolicy")) (by decide) (by decide)))).other W20 (Or.inr (slot_ne (Or.inr (hw _ (List.mem_of_getElem? (i := 32) rfl))) (Or.inr (hw _ (List.mem_of_getElem? (i := 44) rfl))) (by decide) (t := (.object "java/lang/String")) (t' := (.object "java/lang/String")) (by decide) (by decide))))
  have F_22 : Fld Z h20 aa0 "com/example/corrente/corrente/TimeWindow" "stream" "Ljava/lang/String;" (.ref aa2) := (((((F5.other W8 (Or.inr (slot_ne (Or.inr (hw _ (List.mem_of_getElem? (i := 34) rfl))) (Or.inr (hw _ (List.mem_of_getElem? (i := 36) rfl))) (by decide) (t := (.object "java/lang/String")) (t' := .long) (by decide) (by decide)))).other W11 (Or.inr (slot_ne (Or.inr (hw _ (List.mem_of_getElem? (i := 34) rfl))) (Or.inr (hw _ (List.mem_of_getElem? (i := 38) rfl))) (by decide) (t := (.object "java/lang/String")) (t' := .long) (by decide) (by decide)))).other W14 (Or.inr (slot_ne (Or.inr (hw _ (List.mem_of_getElem? (i := 34) rfl))) (Or.inr (hw _ (List.mem_of_getElem? (i := 40) rfl))) (by decide) (t := (.object "java/lang/String")) (t' := .long) (by decide) (by decide)))).other W17 (Or.inr (slot_ne (Or.inr (hw _ (List.mem_of_getElem? (i := 34) rfl))) (Or.inr (hw _ (List.mem_of_getElem? (i := 42) rfl))) (by decide) (t := (.object "java/lang/String")) (t' := (.object "com/example/corrente/corrente/ReportPolicy")) (by decide) (by decide)))).other W20 (Or.inr (slot_ne (Or.inr (hw _ (List.mem_of_getElem? (i := 34) rfl))) (Or.inr (hw _ (List.mem_of_getElem? (i := 44) rfl))) (by decide) (t := (.object "java/lang/String")) (t' := (.object "java/lang/String")) (by decide) (by decide))))
  have F_23 : Fld Z h20 aa0 "com/example/corrente/corrente/TimeWindow" "range" "J" (.long qq3) := ((((F8.other W11 (Or.inr (slot_ne (Or.inr (hw _ (List.mem_of_getElem? (i := 36) rfl))) (Or.inr (hw _ (List.mem_of_getElem? (i := 38) rfl))) (by decide) (t := .long) (t' := .long) (by decide) (by decide)))).other W14 (Or.inr (slot_ne (Or.inr (hw _ (List.mem_of_getElem? (i := 36) rfl))) (Or.inr (hw _ (List.mem_of_getElem? (i := 40) rfl))) (by decide) (t := .long) (t' := .long) (by decide) (by decide)))).other W17 (Or.inr (slot_ne (Or.inr (hw _ (List.mem_of_getElem? (i := 36) rfl))) (Or.inr (hw _ (List.mem_of_getElem? (i := 42) rfl))) (by decide) (t := .long) (t' := (.object "com/example/corrente/corrente/ReportPolicy")) (by decide) (by decide)))).other W20 (Or.inr (slot_ne (Or.inr (hw _ (List.mem_of_getElem? (i := 36) rfl))) (Or.inr (hw _ (List.mem_of_getElem? (i := 44) rfl))) (by decide) (t := .long) (t' := (.object "java/lang/String")) (by decide) (by decide))))
  have F_24 : Fld Z h20 aa0 "com/example/corrente/corrente/TimeWindow" "step" "J" (.long qq4) := (((F11.other W14 (Or.inr (slot_ne (Or.inr (hw _ (List.mem_of_getElem? (i := 38) rfl))) (Or.inr (hw _ (List.mem_of_getElem? (i := 40) rfl))) (by decide) (t := .long) (t' := .long) (by decide) (by decide)))).other W17 (Or.inr (slot_ne (Or.inr (hw _ (List.mem_of_getElem? (i := 38) rfl))) (Or.inr (hw _ (List.mem_of_getElem? (i := 42) rfl))) (by decide) (t := .long) (t' := (.object "com/example/corrente/corrente/ReportPolicy")) (by decide) (by decide)))).other W20 (Or.inr (slot_ne (Or.inr (hw _ (List.mem_of_getElem? (i := 38) rfl))) (Or.inr (hw _ (List.mem_of_getElem? (i := 44) rfl))) (by decide) (t := .long) (t' := (.object "java/lang/String")) (by decide) (by decide))))
  have F_25 : Fld Z h20 aa0 "com/example/corrente/corrente/TimeWindow" "origin" "J" (.long qq5) := ((F14.other W17 (Or.inr (slot_ne (Or.inr (hw _ (List.mem_of_getElem? (i := 40) rfl))) (Or.inr (hw _ (List.mem_of_getElem? (i := 42) rfl))) (by decide) (t := .long) (t' := (.object "com/example/corrente/corrente/ReportPolicy")) (by decide) (by decide)))).other W20 (Or.inr (slot_ne (Or.inr (hw _ (List.mem_of_getElem? (i := 40) rfl))) (Or.inr (hw _ (List.mem_of_getElem? (i := 44) rfl))) (by decide) (t := .long) (t' := (.object "java/lang/String")) (by decide) (by decide))))
  have F_26 : Fld Z h20 aa0 "com/example/corrente/corrente/TimeWindow" "report" "Lcom/example/corrente/corrente/ReportPolicy;" (.ref aa6) := (F17.other W20 (Or.inr (slot_ne (Or.inr (hw _ (List.mem_of_getElem? (i := 42) rfl))) (Or.inr (hw _ (List.mem_of_getElem? (i := 44) rfl))) (by decide) (t := (.object "com/example/corrente/corrente/ReportPolicy")) (t' := (.object "java/lang/String")) (by decide) (by decide))))
  obtain ⟨fs, hr, hrun, hended, hW, hsame⟩ := X20.leave (v := none) (fun _ => rfl)
  refine ⟨_, _, pre0 _ ?_, hrun, hended, _, _, rfl, ?_, ⟨_, rfl⟩, hW, hsame.mono (by decide) (by decide)⟩
  · show Steps p.tables e below (s₁.setTop (mkF m 0 #[.val (.ref aa0), .val (.ref aa1), .val (.ref aa2), .val (.long qq3), .second, .val (.long qq4), .second, .val (.long qq5), .second, .val (.ref aa6), .val .null] [])) _
    refine XS.aloadN X0.here hx rfl (hb hby d1_0) rfl rfl ?_
    show Steps p.tables e below (s₁.setTop (mkF m 1 #[.val (.ref aa0), .val (.ref aa1), .val (.ref aa2), .val (.long qq3), .second, .val (.long qq4), .second, .val (.long qq5), .second, .val (.ref aa6), .val .null] [(.ref aa0)])) _
    refine st1.trans ?_
    show Steps p.tables e below (T1.setTop (mkF m 4 #[.val (.ref aa0), .val (.ref aa1), .val (.ref aa2), .val (.long qq3), .second, .val (.long qq4), .second, .val (.long qq5), .second, .val (.ref aa6), .val .null] [])) _
    refine XS.lloadN X1.here hx rfl (hb hby d1_4) rfl ?_
    show Steps p.tables e below (T1.setTop (mkF m 5 #[.val (.ref aa0), .val (.ref aa1), .val (.ref aa2), .val (.long qq3), .second, .val (.long qq4), .second, .val (.long qq5), .second, .val (.ref aa6), .val .null] [(.long qq3)])) _
    refine XS.lconst X1.here hx rfl (hb hby d1_5) ?_
    show Steps p.tables e below (T1.setTop (mkF m 6 #[.val (.ref aa0), .val (.ref aa1), .val (.ref aa2), .val (.long qq3), .second, .val (.long qq4), .second, .val (.long qq5), .second, .val (.ref aa6), .val .null] [(.long (1 : Int64)), (.long qq3)])) _
    refine XS.lcmp X1.here hx rfl (hb hby d1_6) rfl ?_
    show Steps p.tables e below (T1.setTop (mkF m 7 #[.val (.ref aa0), .val (.ref aa1), .val (.ref aa2), .val (.long qq3), .second, .val (.long qq4), .second, .val (.long qq5), .second, .val (.ref aa6), .val .null] [(.int (lcmpW qq3 (1 : Int64)))])) _
    refine XS.ifNo X1.here hx rfl (hb hby d1_7) rfl ((if0 _ _).trans (flt (mt (lw_lt _ _).mp hc7)).1) ?_
    show Steps p.tables e below (T1.setTop (mkF m 10 #[.val (.ref aa0), .val (.ref aa1), .val (.ref aa2), .val (.long qq3), .second, .val (.long qq4), .second, .val (.long qq5), .second, .val (.ref aa6), .val .null] [])) _
    refine XS.lloadN X1.here hx rfl (hb hby d1_10) rfl ?_
    show Steps p.tables e below (T1.setTop (mkF m 11 #[.val (.ref aa0), .val (.ref aa1), .val (.ref aa2), .val (.long qq3), .second, .val (.long qq4), .second, .val (.long qq5), .second, .val (.ref aa6), .val .null] [(.long qq3)])) _
    refine X1.ldc2Long hx hown (mvT hZ (hw _ (List.mem_of_getElem? (i := 30) rfl))) (g := (mkF m 11 #[.val (.ref aa0), .val (.ref aa1), .val (.ref aa2), .val (.long qq3), .second, .val (.long qq4), .second, .val (.long qq5), .second, .val (.ref aa6), .val .null] [(.long qq3)])) rfl (hb hby d1_11) _ ?_
    show Steps p.tables e below (T1.setTop (mkF m 14 #[.val (.ref aa0), .val (.ref aa1), .val (.ref aa2), .val (.long qq3), .second, .val (.long qq4), .second, .val (.long qq5), .second, .val (.ref aa6), .val .null] [(.long (316224000000000 : Int64)), (.long qq3)])) _
    refine XS.lcmp X1.here hx rfl (hb hby d1_14) rfl ?_
    show Steps p.tables e below (T1.setTop (mkF m 15 #[.val (.ref aa0), .val (.ref aa1), .val (.ref aa2), .val (.long qq3), .second, .val (.long qq4), .second, .val (.long qq5), .second, .val (.ref aa6), .val .null] [(.int (lcmpW qq3 (316224000000000 : Int64)))])) _
    refine XS.ifNo X1.here hx rfl (hb hby d1_15) rfl ((if0 _ _).trans (flt (mt (lw_gt _ _).mp hc15)).2.2.1) ?_
    show Steps p.tables e below (T1.setTop (mkF m 18 #[.val (.ref aa0), .val (.ref aa1), .val (.ref aa2), .val (.long qq3), .second, .val (.long qq4), .second, .val (.long qq5), .second, .val (.ref aa6), .val .null] [])) _
    refine XS.lload X1.here hx rfl (hb hby d1_18) rfl ?_
    show Steps p.tables e below (T1.setTop (mkF m 20 #[.val (.ref aa0), .val (.ref aa1), .val (.ref aa2), .val (.long qq3), .second, .val (.long qq4), .second, .val (.long qq5), .second, .val (.ref aa6), .val .null] [(.long qq4)])) _
    refine XS.lconst X1.here hx rfl (hb hby d1_20) ?_
    show Steps p.tables e below (T1.setTop (mkF m 21 #[.val (.ref aa0), .val (.ref aa1), .val (.ref aa2), .val (.long qq3), .second, .val (.long qq4), .second, .val (.long qq5), .second, .val (.ref aa6), .val .null] [(.long (1 : Int64)), (.long qq4)])) _
    refine XS.lcmp X1.here hx rfl (hb hby d1_21) rfl ?_
    show Steps p.tables e below (T1.setTop (mkF m 22 #[.val (.ref aa0), .val (.ref aa1), .val (.ref aa2), .val (.long qq3), .second, .val (.long qq4), .second, .val (.long qq5), .second, .val (.ref aa6), .val .null] [(.int (lcmpW qq4 (1 : Int64)))])) _
    refine XS.ifNo X1.here hx rfl (hb hby d1_22) rfl ((if0 _ _).trans (flt (mt (lw_lt _ _).mp hc22)).1) ?_
    show Steps p.tables e below (T1.setTop (mkF m 25 #[.val (.ref aa0), .val (.ref aa1), .val (.ref aa2), .val (.long qq3), .second, .val (.long qq4), .second, .val (.long qq5), .second, .val (.ref aa6), .val .null] [])) _
    refine XS.lload X1.here hx rfl (hb hby d1_25) rfl ?_
    show Steps p.tables e below (T1.setTop (mkF m 27 #[.val (.ref aa0), .val (.ref aa1), .val (.ref aa2), .val (.long qq3), .second, .val (.long qq4), .second, .val (.long qq5), .second, .val (.ref aa6), .val .null] [(.long qq4)])) _
    refine X1.ldc2Long hx hown (mvT hZ (hw _ (List.mem_of_getElem? (i := 30) rfl))) (g := (mkF m 27 #[.val (.ref aa0), .val (.ref aa1), .val (.ref aa2), .val (.long qq3), .second, .val (.long qq4), .second, .val (.long qq5), .second, .val (.ref aa6), .val .null] [(.long qq4)])) rfl (hb hby d1_27) _ ?_
    show Steps p.tables e below (T1.setTop (mkF m 30 #[.val (.ref aa0), .val (.ref aa1), .val (.ref aa2), .val (.long qq3), .second, .val (.long qq4), .second, .val (.long qq5), .second, .val (.ref aa6), .val .null] [(.long (316224000000000 : Int64)), (.long qq4)])) _
    refine XS.lcmp X1.here hx rfl (hb hby d1_30) rfl ?_
    show Steps p.tables e below (T1.setTop (mkF m 31 #[.val (.ref aa0), .val (.ref aa1), .val (.ref aa2), .val (.long qq3), .second, .val (.long qq4), .second, .val (.long qq5), .second, .val (.ref aa6), .val .null] [(.int (lcmpW qq4 (316224000000000 : Int64)))])) _
    refine XS.ifYes X1.here hx rfl (pc0 := 31) (pc' := 44) rfl (hb hby d1_31) rfl ((if0 _ _).trans (flt (mt (lw_gt _ _).mp hc31)).2.2.2) (by decide) (by decide) ?_
    show Steps p.tables e below (T1.setTop (mkF m 44 #[.val (.ref aa0), .val (.ref aa1), .val (.ref aa2), .val (.long qq3), .second, .val (.long qq4), .second, .val (.long qq5), .second, .val (.ref aa6), .val .null] [])) _
    refine XS.aloadN X1.here hx rfl (hb hby d1_44) rfl rfl ?_
    show Steps p.tables e below (T1.setTop (mkF m 45 #[.val (.ref aa0), .val (.ref aa1), .val (.ref aa2), .val (.long qq3), .second, .val (.long qq4), .second, .val (.long qq5), .second, .val (.ref aa6), .val .null] [(.ref aa0)])) _
    refine XS.aloadN X1.here hx rfl (hb hby d1_45) rfl rfl ?_
    show Steps p.tables e below (T1.setTop (mkF m 46 #[.val (.ref aa0), .val (.ref aa1), .val (.ref aa2), .val (.long qq3), .second, .val (.long qq4), .second, .val (.long qq5), .second, .val (.ref aa6), .val .null] [(.ref aa1), (.ref aa0)])) _
    refine st2 _ ?_
    show Steps p.tables e below (T2.setTop (mkF m 49 #[.val (.ref aa0), .val (.ref aa1), .val (.ref aa2), .val (.long qq3), .second, .val (.long qq4), .second, .val (.long qq5), .second, .val (.ref aa6), .val .null] [])) _
    refine XS.aloadN X2.here hx rfl (hb hby d1_49) rfl rfl ?_
    show Steps p.tables e below (T2.setTop (mkF m 50 #[.val (.ref aa0), .val (.ref aa1), .val (.ref aa2), .val (.long qq3), .second, .val (.long qq4), .second, .val (.long qq5), .second, .val (.ref aa6), .val .null] [(.ref aa0)])) _
    refine XS.aloadN X2.here hx rfl (hb hby d1_50) rfl rfl ?_
    show Steps p.tables e below (T2.setTop (mkF m 51 #[.val (.ref aa0), .val (.ref aa1), .val (.ref aa2), .val (.long qq3), .second, .val (.long qq4), .second, .val (.long qq5), .second, .val (.ref aa6), .val .null] [(.ref aa2), (.ref aa0)])) _
    refine st5 _ ?_
    show Steps p.tables e below (T5.setTop (mkF m 54 #[.val (.ref aa0), .val (.ref aa1), .val (.ref aa2), .val (.long qq3), .second, .val (.long qq4), .second, .val (.long qq5), .second, .val (.ref aa6), .val .null] [])) _
    refine XS.aloadN X5.here hx rfl (hb hby d1_54) rfl rfl ?_
    show Steps p.tables e below (T5.setTop (mkF m 55 #[.val (.ref aa0), .val (.ref aa1), .val (.ref aa2), .val (.long qq3), .second, .val (.long qq4), .second, .val (.long qq5), .second, .val (.ref aa6), .val .null] [(.ref aa0)])) _
    refine XS.lloadN X5.here hx rfl (hb hby d1_55) rfl ?_
    show Steps p.tables e below (T5.setTop (mkF m 56 #[.val (.ref aa0), .val (.ref aa1), .val (.ref aa2), .val (.long qq3), .second, .val (.long qq4), .second, .val (.long qq5), .second, .val (.ref aa6), .val .null] [(.long qq3), (.ref aa0)])) _
    refine st8 _ ?_
    show Steps p.tables e below (T8.setTop (mkF m 59 #[.val (.ref aa0), .val (.ref aa1), .val (.ref aa2), .val (.long qq3), .second, .val (.long qq4), .second, .val (.long qq5), .second, .val (.ref aa6), .val .null] [])) _
    refine XS.aloadN X8.here hx rfl (hb hby d1_59) rfl rfl ?_
    show Steps p.tables e below (T8.setTop (mkF m 60 #[.val (.ref aa0), .val (.ref aa1), .val (.ref aa2), .val (.long qq3), .second, .val (.long qq4), .second, .val (.long qq5), .second, .val (.ref aa6), .val .null] [(.ref aa0)])) _
    refine XS.lload X8.here hx rfl (hb hby d1_60) rfl ?_
    show Steps p.tables e below (T8.setTop (mkF m 62 #[.val (.ref aa0), .val (.ref aa1), .val (.ref aa2), .val (.long qq3), .second, .val (.long qq4), .second, .val (.long qq5), .second, .val (.ref aa6), .val .null] [(.long qq4), (.ref aa0)])) _
    refine st11 _ ?_
    show Steps p.tables e below (T11.setTop (mkF m 65 #[.val (.ref aa0), .val (.ref aa1), .val (.ref aa2), .val (.long qq3), .second, .val (.long qq4), .second, .val (.long qq5), .second, .val (.ref aa6), .val .null] [])) _
    refine XS.aloadN X11.here hx rfl (hb hby d1_65) rfl rfl ?_
    show Steps p.tables e below (T11.setTop (mkF m 66 #[.val (.ref aa0), .val (.ref aa1), .val (.ref aa2), .val (.long qq3), .second, .val (.long qq4), .second, .val (.long qq5), .second, .val (.ref aa6), .val .null] [(.ref aa0)])) _
    refine XS.lload X11.here hx rfl (hb hby d1_66) rfl ?_
    show Steps p.tables e below (T11.setTop (mkF m 68 #[.val (.ref aa0), .val (.ref aa1), .val (.ref aa2), .val (.long qq3), .second, .val (.long qq4), .second, .val (.long qq5), .second, .val (.ref aa6), .val .null] [(.long qq5), (.ref aa0)])) _
    refine st14 _ ?_
    show Steps p.tables e below (T14.setTop (mkF m 71 #[.val (.ref aa0), .val (.ref aa1), .val (.ref aa2), .val (.long qq3), .second, .val (.long qq4), .second, .val (.long qq5), .second, .val (.ref aa6), .val .null] [])) _
    refine XS.aloadN X14.here hx rfl (hb hby d1_71) rfl rfl ?_
    show Steps p.tables e below (T14.setTop (mkF m 72 #[.val (.ref aa0), .val (.ref aa1), .val (.ref aa2), .val (.long qq3), .second, .val (.long qq4), .second, .val (.long qq5), .second, .val (.ref aa6), .val .null] [(.ref aa0)])) _
    refine XS.aload X14.here hx rfl (hb hby d1_72) rfl rfl ?_
    show Steps p.tables e below (T14.setTop (mkF m 74 #[.val (.ref aa0), .val (.ref aa1), .val (.ref aa2), .val (.long qq3), .second, .val (.long qq4), .second, .val (.long qq5), .second, .val (.ref aa6), .val .null] [(.ref aa6), (.ref aa0)])) _
    refine st17 _ ?_
    show Steps p.tables e below (T17.setTop (mkF m 77 #[.val (.ref aa0), .val (.ref aa1), .val (.ref aa2), .val (.long qq3), .second, .val (.long qq4), .second, .val (.long qq5), .second, .val (.ref aa6), .val .null] [])) _
    refine XS.aloadN X17.here hx rfl (hb hby d1_77) rfl rfl ?_
    show Steps p.tables e below (T17.setTop (mkF m 78 #[.val (.ref aa0), .val (.ref aa1), .val (.ref aa2), .val (.long qq3), .second, .val (.long qq4), .second, .val (.long qq5), .second, .val (.ref aa6), .val .null] [(.ref aa0)])) _
    refine XS.aload X17.here hx rfl (hb hby d1_78) rfl rfl ?_
    show Steps p.tables e below (T17.setTop (mkF m 80 #[.val (.ref aa0), .val (.ref aa1), .val (.ref aa2), .val (.long qq3), .second, .val (.long qq4), .second, .val (.long qq5), .second, .val (.ref aa6), .val .null] [.null, (.ref aa0)])) _
    refine st20 _ ?_
    show Steps p.tables e below (T20.setTop (mkF m 83 #[.val (.ref aa0), .val (.ref aa1), .val (.ref aa2), .val (.long qq3), .second, .val (.long qq4), .second, .val (.long qq5), .second, .val (.ref aa6), .val .null] [])) _
    exact X20.returnOut hx Bd.returns (hb hby d1_83) hr
  · show Q1 Z aa0 aa1 aa2 qq3 qq4 qq5 aa6 u_name u_stream u_range u_step u_origin u_report u_ontology h0 n0 _ T20.heap _
    rw [e20]
    exact ⟨rfl, N20, K20, F_21, F_22, F_23, F_24, F_25, F_26, F20⟩
theorem d4_0 : decode prog_12_method_2_code 0 = .ok (.aload_n 0, 1) := by decide +kernel
theorem d4_1 : decode prog_12_method_2_code 1 = .ok (.getfield 32, 3) := by decide +kernel
theorem d4_4 : decode prog_12_method_2_code 4 = .ok (.lload_n 1, 1) := by decide +kernel
theorem d4_5 : decode prog_12_method_2_code 5 = .ok (.aload_n 0, 1) := by decide +kernel
theorem d4_6 : decode prog_12_method_2_code 6 = .ok (.getfield 29, 3) := by decide +kernel
theorem d4_9 : decode prog_12_method_2_code 9 = .ok (.lmul, 1) := by decide +kernel
theorem d4_10 : decode prog_12_method_2_code 10 = .ok (.ladd, 1) := by decide +kernel
theorem d4_11 : decode prog_12_method_2_code 11 = .ok (.lreturn, 1) := by decide +kernel
theorem ef_4 (m : MethodId) (x0 : Addr) (x1 : Int64) : entryFrame m #[(.ref x0), (.long x1)] 3 = mkF m 0 #[.val (.ref x0), .val (.long x1), .second] [] := by first | (simp [entryFrame, mkF, argsToLocals, Value.category]; done) | rfl
def Q4 (Z : State) (aa0 : Addr) (qq1 : Int64) (wo : Int64) (ws_ : Int64) (wr : Int64) (h0 : Heap) (n0 : Nat) (v : Option Value) (h : Heap) (L : List Loc) : Prop := v = some (.long (wo + (qq1 * ws_))) ∧ Fr n0 L ∧ h = h0
set_option maxRecDepth 65536 in
set_option maxHeartbeats 40000000 in
theorem rm4 (l : Launch) (Z : State) (a0 : Array Value) (hw : ∀ d ∈ tables_1, d.before a0 Z = true) (ws : List Jvm.Cond) (aa0 : Addr) (qq1 : Int64) (wo : Int64) (ws_ : Int64) (wr : Int64) (h0 : Heap) (n0 : Nat) (Z0 : n0 ≤ h0.size) (F_aa0_origin : Fld Z h0 aa0 "com/example/corrente/corrente/TimeWindow" "origin" "J" (.long wo)) (F_aa0_step : Fld Z h0 aa0 "com/example/corrente/corrente/TimeWindow" "step" "J" (.long ws_)) (F_aa0_range : Fld Z h0 aa0 "com/example/corrente/corrente/TimeWindow" "range" "J" (.long wr)) :
    MetFree l (⟨"com/example/corrente/corrente/TimeWindow", "start", "(J)J"⟩ : MethodName) (head1 (Jvm.Cond.code (⟨"com/example/corrente/corrente/TimeWindow", "start", "(J)J"⟩ : MethodName) prog_12_method_2_code 3 (some .long) :: ws) ({ frames := 0, cells := 0, slots := 0, locals := 0 } : Room)) (fun a U => a = #[(.ref aa0), (.long qq1)] ∧ Z.Warmed39 U.vm ∧ U.heap = h0) (fun _ _ _ _ _ => True) (fun _ U o U' => ∃ v L, o = .returned v ∧ Q4 Z aa0 qq1 wo ws_ wr h0 n0 v U'.heap L ∧ FrameEnd U o U' L ({ frames := 0, cells := 0, slots := 0, locals := 0 } : Room).cells ({ frames := 0, cells := 0, slots := 0, locals := 0 } : Room).slots) := by
  refine MetFree.of_bodySF (plainFor_of_name pn_com_example_corrente_corrente_TimeWindow) hisR ?_
  intro p e s m args below meth c s₁ Bd hml0 hP hK
  obtain ⟨rfl, hZ, hh⟩ := hP
  have hx := Bd.exec
  have hby := Bd.bytes
  have hml : c.maxLocals = 3 := hml0
  have hown : s.vm.findClass "com/example/corrente/corrente/TimeWindow" = some m.cls := findClass_of_methodNamed Bd.named
  have hnm := (name_of_methodNamed Bd.named Bd.method).1
  have X0 : Stand p l e ({ frames := 0, cells := 0, slots := 0, locals := 0 } : Room) s m #[(.ref aa0), (.long qq1)] below meth c s₁ [] 0 0 := Stand.of_body Bd
  have e0 : s₁.heap = h0 := by rw [← hh, Bd.state]; rfl
  have N0 := Fr.nil n0
  have pre0 : ∀ t, Steps p.tables e below (s₁.setTop (mkF m 0 #[.val (.ref aa0), .val (.long qq1), .second] [])) t → Steps p.tables e below (s₁.setTop (entryFrame m #[(.ref aa0), (.long qq1)] 3)) t := fun t k => castTop (ef_4 m aa0 qq1) k
  obtain ⟨T1, X1, e1, st1⟩ := getF X0 hx hZ hown (host := "") (Or.inl (hw _ (List.mem_of_getElem? (i := 39) rfl))) Via.refl e0 F_aa0_origin (g := (mkF m 1 #[.val (.ref aa0), .val (.long qq1), .second] [(.ref aa0)])) rfl rfl (hb hby d4_1)
  obtain ⟨T2, X2, e2, st2⟩ := getF X1 hx hZ hown (host := "") (Or.inl (hw _ (List.mem_of_getElem? (i := 37) rfl))) Via.refl e1 F_aa0_step (g := (mkF m 6 #[.val (.ref aa0), .val (.long qq1), .second] [(.ref aa0), (.long qq1), (.long wo)])) rfl rfl (hb hby d4_6)
  obtain ⟨fs, hr, hrun, hended, hW, hsame⟩ := X2.leave (v := some (.long (wo + (qq1 * ws_)))) (fun h => by rw [Bd.returns] at h; cases h)
  refine ⟨_, _, pre0 _ ?_, hrun, hended, _, _, rfl, ?_, ⟨_, rfl⟩, hW, hsame.mono (by decide) (by decide)⟩
  · show Steps p.tables e below (s₁.setTop (mkF m 0 #[.val (.ref aa0), .val (.long qq1), .second] [])) _
    refine XS.aloadN X0.here hx rfl (hb hby d4_0) rfl rfl ?_
    show Steps p.tables e below (s₁.setTop (mkF m 1 #[.val (.ref aa0), .val (.long qq1), .second] [(.ref aa0)])) _
    refine st1 _ ?_
    show Steps p.tables e below (T1.setTop (mkF m 4 #[.val (.ref aa0), .val (.long qq1), .second] [(.long wo)])) _
    refine XS.lloadN X1.here hx rfl (hb hby d4_4) rfl ?_
    show Steps p.tables e below (T1.setTop (mkF m 5 #[.val (.ref aa0), .val (.long qq1), .second] [(.long qq1), (.long wo)])) _
    refine XS.aloadN X1.here hx rfl (hb hby d4_5) rfl rfl ?_
    show Steps p.tables e below (T1.setTop (mkF m 6 #[.val (.ref aa0), .val (.long qq1), .second] [(.ref aa0), (.long qq1), (.long wo)])) _
    refine st2 _ ?_
    show Steps p.tables e below (T2.setTop (mkF m 9 #[.val (.ref aa0), .val (.long qq1), .second] [(.long ws_), (.long qq1), (.long wo)])) _
    refine XS.lmul X2.here hx rfl (hb hby d4_9) rfl ?_
    show Steps p.tables e below (T2.setTop (mkF m 10 #[.val (.ref aa0), .val (.long qq1), .second] [(.long (qq1 * ws_)), (.long wo)])) _
    refine XS.ladd X2.here hx rfl (hb hby d4_10) rfl ?_
    show Steps p.tables e below (T2.setTop (mkF m 11 #[.val (.ref aa0), .val (.long qq1), .second] [(.long (wo + (qq1 * ws_)))])) _
    jvm_step X2.here [X2.here.top, hx, (hb hby d4_11), X2.method', Bd.returns, narrow]
    first | (intro acts; rw [hr _ acts rfl rfl rfl]) | rw [hr _ _ rfl rfl rfl]
    exact Steps.refl _
  · show Q4 Z aa0 qq1 wo ws_ wr h0 n0 _ T2.heap _
    rw [e2]
    exact ⟨rfl, N0, rfl⟩
theorem d5_0 : decode prog_12_method_3_code 0 = .ok (.aload_n 0, 1) := by decide +kernel
theorem d5_1 : decode prog_12_method_3_code 1 = .ok (.getfield 32, 3) := by decide +kernel
theorem d5_4 : decode prog_12_method_3_code 4 = .ok (.lload_n 1, 1) := by decide +kernel
theorem d5_5 : decode prog_12_method_3_code 5 = .ok (.aload_n 0, 1) := by decide +kernel
theorem d5_6 : decode prog_12_method_3_code 6 = .ok (.getfield 29, 3) := by decide +kernel
theorem d5_9 : decode prog_12_method_3_code 9 = .ok (.lmul, 1) := by decide +kernel
theorem d5_10 : decode prog_12_method_3_code 10 = .ok (.ladd, 1) := by decide +kernel
theorem d5_11 : decode prog_12_method_3_code 11 = .ok (.aload_n 0, 1) := by decide +kernel
theorem d5_12 : decode prog_12_method_3_code 12 = .ok (.getfield 25, 3) := by decide +kernel
theorem d5_15 : decode prog_12_method_3_code 15 = .ok (.ladd, 1) := by decide +kernel
theorem d5_16 : decode prog_12_method_3_code 16 = .ok (.lreturn, 1) := by decide +kernel
theorem ef_5 (m : MethodId) (x0 : Addr) (x1 : Int64) : entryFrame m #[(.ref x0), (.long x1)] 3 = mkF m 0 #[.val (.ref x0), .val (.long x1), .second] [] := by first | (simp [entryFrame, mkF, argsToLocals, Value.category]; done) | rfl
def Q5 (Z : State) (aa0 : Addr) (qq1 : Int64) (wo : Int64) (ws_ : Int64) (wr : Int64) (h0 : Heap) (n0 : Nat) (v : Option Value) (h : Heap) (L : List Loc) : Prop := v = some (.long ((wo + (qq1 * ws_)) + wr)) ∧ Fr n0 L ∧ h = h0
set_option maxRecDepth 65536 in
set_option maxHeartbeats 40000000 in
theorem rm5 (l : Launch) (Z : State) (a0 : Array Value) (hw : ∀ d ∈ tables_1, d.before a0 Z = true) (ws : List Jvm.Cond) (aa0 : Addr) (qq1 : Int64) (wo : Int64) (ws_ : Int64) (wr : Int64) (h0 : Heap) (n0 : Nat) (Z0 : n0 ≤ h0.size) (F_aa0_origin : Fld Z h0 aa0 "com/example/corrente/corrente/TimeWindow" "origin" "J" (.long wo)) (F_aa0_step : Fld Z h0 aa0 "com/example/corrente/corrente/TimeWindow" "step" "J" (.long ws_)) (F_aa0_range : Fld Z h0 aa0 "com/example/corrente/corrente/TimeWindow" "range" "J" (.long wr)) :
    MetFree l (⟨"com/example/corrente/corrente/TimeWindow", "close", "(J)J"⟩ : MethodName) (head1 (Jvm.Cond.code (⟨"com/example/corrente/corrente/TimeWindow", "close", "(J)J"⟩ : MethodName) prog_12_method_3_code 3 (some .long) :: ws) ({ frames := 0, cells := 0, slots := 0, locals := 0 } : Room)) (fun a U => a = #[(.ref aa0), (.long qq1)] ∧ Z.Warmed39 U.vm ∧ U.heap = h0) (fun _ _ _ _ _ => True) (fun _ U o U' => ∃ v L, o = .returned v ∧ Q5 Z aa0 qq1 wo ws_ wr h0 n0 v U'.heap L ∧ FrameEnd U o U' L ({ frames := 0, cells := 0, slots := 0, locals := 0 } : Room).cells ({ frames := 0, cells := 0, slots := 0, locals := 0 } : Room).slots) := by
  refine MetFree.of_bodySF (plainFor_of_name pn_com_example_corrente_corrente_TimeWindow) hisR ?_
  intro p e s m args below meth c s₁ Bd hml0 hP hK
  obtain ⟨rfl, hZ, hh⟩ := hP
  have hx := Bd.exec
  have hby := Bd.bytes
  have hml : c.maxLocals = 3 := hml0
  have hown : s.vm.findClass "com/example/corrente/corrente/TimeWindow" = some m.cls := findClass_of_methodNamed Bd.named
  have hnm := (name_of_methodNamed Bd.named Bd.method).1
  have X0 : Stand p l e ({ frames := 0, cells := 0, slots := 0, locals := 0 } : Room) s m #[(.ref aa0), (.long qq1)] below meth c s₁ [] 0 0 := Stand.of_body Bd
  have e0 : s₁.heap = h0 := by rw [← hh, Bd.state]; rfl
  have N0 := Fr.nil n0
  have pre0 : ∀ t, Steps p.tables e below (s₁.setTop (mkF m 0 #[.val (.ref aa0), .val (.long qq1), .second] [])) t → Steps p.tables e below (s₁.setTop (entryFrame m #[(.ref aa0), (.long qq1)] 3)) t := fun t k => castTop (ef_5 m aa0 qq1) k
  obtain ⟨T1, X1, e1, st1⟩ := getF X0 hx hZ hown (host := "") (Or.inl (hw _ (List.mem_of_getElem? (i := 39) rfl))) Via.refl e0 F_aa0_origin (g := (mkF m 1 #[.val (.ref aa0), .val (.long qq1), .second] [(.ref aa0)])) rfl rfl (hb hby d5_1)
  obtain ⟨T2, X2, e2, st2⟩ := getF X1 hx hZ hown (host := "") (Or.inl (hw _ (List.mem_of_getElem? (i := 37) rfl))) Via.refl e1 F_aa0_step (g := (mkF m 6 #[.val (.ref aa0), .val (.long qq1), .second] [(.ref aa0), (.long qq1), (.long wo)])) rfl rfl (hb hby d5_6)
  obtain ⟨T3, X3, e3, st3⟩ := getF X2 hx hZ hown (host := "") (Or.inl (hw _ (List.mem_of_getElem? (i := 35) rfl))) Via.refl e2 F_aa0_range (g := (mkF m 12 #[.val (.ref aa0), .val (.long qq1), .second] [(.ref aa0), (.long (wo + (qq1 * ws_)))])) rfl rfl (hb hby d5_12)
  obtain ⟨fs, hr, hrun, hended, hW, hsame⟩ := X3.leave (v := some (.long ((wo + (qq1 * ws_)) + wr))) (fun h => by rw [Bd.returns] at h; cases h)
  refine ⟨_, _, pre0 _ ?_, hrun, hended, _, _, rfl, ?_, ⟨_, rfl⟩, hW, hsame.mono (by decide) (by decide)⟩
  · show Steps p.tables e below (s₁.setTop (mkF m 0 #[.val (.ref aa0), .val (.long qq1), .second] [])) _
    refine XS.aloadN X0.here hx rfl (hb hby d5_0) rfl rfl ?_
    show Steps p.tables e below (s₁.setTop (mkF m 1 #[.val (.ref aa0), .val (.long qq1), .second] [(.ref aa0)])) _
    refine st1 _ ?_
    show Steps p.tables e below (T1.setTop (mkF m 4 #[.val (.ref aa0), .val (.long qq1), .second] [(.long wo)])) _
    refine XS.lloadN X1.here hx rfl (hb hby d5_4) rfl ?_
    show Steps p.tables e below (T1.setTop (mkF m 5 #[.val (.ref aa0), .val (.long qq1), .second] [(.long qq1), (.long wo)])) _
    refine XS.aloadN X1.here hx rfl (hb hby d5_5) rfl rfl ?_
    show Steps p.tables e below (T1.setTop (mkF m 6 #[.val (.ref aa0), .val (.long qq1), .second] [(.ref aa0), (.long qq1), (.long wo)])) _
    refine st2 _ ?_
    show Steps p.tables e below (T2.setTop (mkF m 9 #[.val (.ref aa0), .val (.long qq1), .second] [(.long ws_), (.long qq1), (.long wo)])) _
    refine XS.lmul X2.here hx rfl (hb hby d5_9) rfl ?_
    show Steps p.tables e below (T2.setTop (mkF m 10 #[.val (.ref aa0), .val (.long qq1), .second] [(.long (qq1 * ws_)), (.long wo)])) _
    refine XS.ladd X2.here hx rfl (hb hby d5_10) rfl ?_
    show Steps p.tables e below (T2.setTop (mkF m 11 #[.val (.ref aa0), .val (.long qq1), .second] [(.long (wo + (qq1 * ws_)))])) _
    refine XS.aloadN X2.here hx rfl (hb hby d5_11) rfl rfl ?_
    show Steps p.tables e below (T2.setTop (mkF m 12 #[.val (.ref aa0), .val (.long qq1), .second] [(.ref aa0), (.long (wo + (qq1 * ws_)))])) _
    refine st3 _ ?_
    show Steps p.tables e below (T3.setTop (mkF m 15 #[.val (.ref aa0), .val (.long qq1), .second] [(.long wr), (.long (wo + (qq1 * ws_)))])) _
    refine XS.ladd X3.here hx rfl (hb hby d5_15) rfl ?_
    show Steps p.tables e below (T3.setTop (mkF m 16 #[.val (.ref aa0), .val (.long qq1), .second] [(.long ((wo + (qq1 * ws_)) + wr))])) _
    jvm_step X3.here [X3.here.top, hx, (hb hby d5_16), X3.method', Bd.returns, narrow]
    first | (intro acts; rw [hr _ acts rfl rfl rfl]) | rw [hr _ _ rfl rfl rfl]
    exact Steps.refl _
  · show Q5 Z aa0 qq1 wo ws_ wr h0 n0 _ T3.heap _
    rw [e3]
    exact ⟨rfl, N0, rfl⟩
theorem own_str_in : ∀ w ∈ Bundle.stringAtoms, w ∈ tables_1 := by decide +kernel
theorem pd__28_Ljava_2f_lang_2f_String_3b_Ljava_2f_lang_2f_String_3b_JJJLcom_2f_example_2f_corrente_2f_corrente_2f_ReportPolicy_3b_Ljava_2f_lang_2f_String_3b__29_V : parseMethodDescriptor "(Ljava/lang/String;Ljava/lang/String;JJJLcom/example/corrente/corrente/ReportPolicy;Ljava/lang/String;)V" = some ⟨[(.object "java/lang/String"), (.object "java/lang/String"), .long, .long, .long, (.object "com/example/corrente/corrente/ReportPolicy"), (.object "java/lang/String")], none⟩ := by decide +kernel
theorem pd__28_J_29_J : parseMethodDescriptor "(J)J" = some ⟨[.long], some .long⟩ := by decide +kernel
theorem pn_com_example_corrente_corrente_TimeWindowStartPinLaw : plainName "com/example/corrente/corrente/TimeWindowStartPinLaw" = true := by first | (simp [plainName, overriddenIn]; done) | decide +kernel
theorem ef_0 (m : MethodId) (x0 : Int64) (x1 : Int64) (x2 : Int64) (x3 : Int64) (x4 : Int64) : entryFrame m #[(.long x0), (.long x1), (.long x2), (.long x3), (.long x4)] maxLocals = mkF m 0 #[.val (.long x0), .second, .val (.long x1), .second, .val (.long x2), .second, .val (.long x3), .second, .val (.long x4), .second, .unset, .unset, .unset, .unset, .unset, .unset, .unset, .unset, .unset, .unset, .unset, .unset, .unset, .unset, .unset, .unset, .unset, .unset, .unset, .unset, .unset, .unset, .unset, .unset, .unset, .unset, .unset, .unset, .unset] [] := by first | (simp [entryFrame, mkF, argsToLocals, Value.category, maxLocals]; done) | rfl
def Q0 (Z : State) (qq1 : Int64) (qq2 : Int64) (qq3 : Int64) (qq4 : Int64) (qq5 : Int64) (dd : Addr) (h0 : Heap) (n0 : Nat) (v : Option Value) (h : Heap) (L : List Loc) : Prop := v = some (.int 1) ∧ Fr n0 L
set_option maxRecDepth 65536 in
set_option maxHeartbeats 40000000 in
theorem rm0 (l : Launch) (Z : State) (a0 : Array Value) (hw : ∀ d ∈ tables_1, d.before a0 Z = true) (ws : List Jvm.Cond) (qq1 : Int64) (qq2 : Int64) (qq3 : Int64) (qq4 : Int64) (qq5 : Int64) (dd : Addr) (h0 : Heap) (n0 : Nat) (Z0 : n0 ≤ h0.size) (O0 : Old Z n0 h0) (S_DEFAULT : Sta Z Z.heap "com/example/corrente/corrente/ReportPolicy" "DEFAULT" "Lcom/example/corrente/corrente/ReportPolicy;" (.ref dd)) :
    MetFree l x (head1 (Jvm.Cond.code x code maxLocals ret :: ws) room_1) (fun a U => a = #[(.long qq1), (.long qq2), (.long qq3), (.long qq4), (.long qq5)] ∧ Z.Warmed39 U.vm ∧ U.heap = h0) (fun _ _ _ _ _ => True) (fun _ U o U' => ∃ v L, o = .returned v ∧ Q0 Z qq1 qq2 qq3 qq4 qq5 dd h0 n0 v U'.heap L ∧ ReturnedEndW U o U' L room_1.cells room_1.slots) := by
  refine MetFree.of_bodySF (plainFor_of_name pn_com_example_corrente_corrente_TimeWindowStartPinLaw) hisR ?_
  intro p e s m args below meth c s₁ Bd hml0 hP hK
  obtain ⟨rfl, hZ, hh⟩ := hP
  have hx := Bd.exec
  have hby := Bd.bytes
  have hml : c.maxLocals = 39 := hml0
  have hown : s.vm.findClass "com/example/corrente/corrente/TimeWindowStartPinLaw" = some m.cls := findClass_of_methodNamed Bd.named
  have hnm := (name_of_methodNamed Bd.named Bd.method).1
  have X0 : Stand p l e room_1 s m #[(.long qq1), (.long qq2), (.long qq3), (.long qq4), (.long qq5)] below meth c s₁ [] 0 0 := Stand.of_body Bd
  have e0 : s₁.heap = h0 := by rw [← hh, Bd.state]; rfl
  have N0 := Fr.nil n0
  have pre0 : ∀ t, Steps p.tables e below (s₁.setTop (mkF m 0 #[.val (.long qq1), .second, .val (.long qq2), .second, .val (.long qq3), .second, .val (.long qq4), .second, .val (.long qq5), .second, .unset, .unset, .unset, .unset, .unset, .unset, .unset, .unset, .unset, .unset, .unset, .unset, .unset, .unset, .unset, .unset, .unset, .unset, .unset, .unset, .unset, .unset, .unset, .unset, .unset, .unset, .unset, .unset, .unset] [])) t → Steps p.tables e below (s₁.setTop (entryFrame m #[(.long qq1), (.long qq2), (.long qq3), (.long qq4), (.long qq5)] maxLocals)) t := fun t k => castTop (ef_0 m qq1 qq2 qq3 qq4 qq5) k
  have hS0 : s.Since s.vm h0.size := (State.WarmedH.refl s).since _
  have hc8 : (316224000000000 : Int64) ≠ (0 : Int64) := (by decide)
  have hc21 : (316224000000000 : Int64) ≠ (0 : Int64) := (by decide)
  have hc42 : (315537897600000 : Int64) ≠ (0 : Int64) := (by decide)
  have pre1 : ∀ t, Steps p.tables e below (s₁.setTop (mkF m 58 #[.val (.long qq1), .second, .val (.long qq2), .second, .val (.long qq3), .second, .val (.long qq4), .second, .val (.long qq5), .second, .val (.long (((qq1 &&& (9223372036854775807 : Int64)) - ((qq1 &&& (9223372036854775807 : Int64)) / (316224000000000 : Int64)) * (316224000000000 : Int64)) + (1 : Int64))), .second, .val (.long (((qq2 &&& (9223372036854775807 : Int64)) - ((qq2 &&& (9223372036854775807 : Int64)) / (316224000000000 : Int64)) * (316224000000000 : Int64)) + (1 : Int64))), .second, .val (.long (315537897600000 : Int64)), .second, .val (.long ((-62135596800000 : Int64) + ((qq3 &&& (9223372036854775807 : Int64)) - ((qq3 &&& (9223372036854775807 : Int64)) / (315537897600000 : Int64)) * (315537897600000 : Int64)))), .second, .val (.long ((qq4.toUInt64 >>> ((1 : Int32) &&& 0x3f).toInt64.toUInt64).toInt64)), .second, .val (.long ((qq5.toUInt64 >>> ((1 : Int32) &&& 0x3f).toInt64.toUInt64).toInt64)), .second, .unset, .unset, .unset, .unset, .unset, .unset, .unset, .unset, .unset, .unset, .unset, .unset, .unset, .unset, .unset, .unset, .unset] [])) t → Steps p.tables e below (s₁.setTop (entryFrame m #[(.long qq1), (.long qq2), (.long qq3), (.long qq4), (.long qq5)] maxLocals)) t := fun t kt => pre0 t (by
    show Steps p.tables e below (s₁.setTop (mkF m 0 #[.val (.long qq1), .second, .val (.long qq2), .second, .val (.long qq3), .second, .val (.long qq4), .second, .val (.long qq5), .second, .unset, .unset, .unset, .unset, .unset, .unset, .unset, .unset, .unset, .unset, .unset, .unset, .unset, .unset, .unset, .unset, .unset, .unset, .unset, .unset, .unset, .unset, .unset, .unset, .unset, .unset, .unset, .unset, .unset] [])) _
    refine XS.lloadN X0.here hx rfl (hb hby at_0) rfl ?_
    show Steps p.tables e below (s₁.setTop (mkF m 1 #[.val (.long qq1), .second, .val (.long qq2), .second, .val (.long qq3), .second, .val (.long qq4), .second, .val (.long qq5), .second, .unset, .unset, .unset, .unset, .unset, .unset, .unset, .unset, .unset, .unset, .unset, .unset, .unset, .unset, .unset, .unset, .unset, .unset, .unset, .unset, .unset, .unset, .unset, .unset, .unset, .unset, .unset, .unset, .unset] [(.long qq1)])) _
    refine X0.ldc2Long hx hown (mvT hZ (hw _ (List.mem_of_getElem? (i := 0) rfl))) (g := (mkF m 1 #[.val (.long qq1), .second, .val (.long qq2), .second, .val (.long qq3), .second, .val (.long qq4), .second, .val (.long qq5), .second, .unset, .unset, .unset, .unset, .unset, .unset, .unset, .unset, .unset, .unset, .unset, .unset, .unset, .unset, .unset, .unset, .unset, .unset, .unset, .unset, .unset, .unset, .unset, .unset, .unset, .unset, .unset, .unset, .unset] [(.long qq1)])) rfl (hb hby at_1) _ ?_
    show Steps p.tables e below (s₁.setTop (mkF m 4 #[.val (.long qq1), .second, .val (.long qq2), .second, .val (.long qq3), .second, .val (.long qq4), .second, .val (.long qq5), .second, .unset, .unset, .unset, .unset, .unset, .unset, .unset, .unset, .unset, .unset, .unset, .unset, .unset, .unset, .unset, .unset, .unset, .unset, .unset, .unset, .unset, .unset, .unset, .unset, .unset, .unset, .unset, .unset, .unset] [(.long (9223372036854775807 : Int64)), (.long qq1)])) _
    refine XS.land X0.here hx rfl (hb hby at_4) rfl ?_
    show Steps p.tables e below (s₁.setTop (mkF m 5 #[.val (.long qq1), .second, .val (.long qq2), .second, .val (.long qq3), .second, .val (.long qq4), .second, .val (.long qq5), .second, .unset, .unset, .unset, .unset, .unset, .unset, .unset, .unset, .unset, .unset, .unset, .unset, .unset, .unset, .unset, .unset, .unset, .unset, .unset, .unset, .unset, .unset, .unset, .unset, .unset, .unset, .unset, .unset, .unset] [(.long (qq1 &&& (9223372036854775807 : Int64)))])) _
    refine X0.ldc2Long hx hown (mvT hZ (hw _ (List.mem_of_getElem? (i := 1) rfl))) (g := (mkF m 5 #[.val (.long qq1), .second, .val (.long qq2), .second, .val (.long qq3), .second, .val (.long qq4), .second, .val (.long qq5), .second, .unset, .unset, .unset, .unset, .unset, .unset, .unset, .unset, .unset, .unset, .unset, .unset, .unset, .unset, .unset, .unset, .unset, .unset, .unset, .unset, .unset, .unset, .unset, .unset, .unset, .unset, .unset, .unset, .unset] [(.long (qq1 &&& (9223372036854775807 : Int64)))])) rfl (hb hby at_5) _ ?_
    show Steps p.tables e below (s₁.setTop (mkF m 8 #[.val (.long qq1), .second, .val (.long qq2), .second, .val (.long qq3), .second, .val (.long qq4), .second, .val (.long qq5), .second, .unset, .unset, .unset, .unset, .unset, .unset, .unset, .unset, .unset, .unset, .unset, .unset, .unset, .unset, .unset, .unset, .unset, .unset, .unset, .unset, .unset, .unset, .unset, .unset, .unset, .unset, .unset, .unset, .unset] [(.long (316224000000000 : Int64)), (.long (qq1 &&& (9223372036854775807 : Int64)))])) _
    refine XS.lrem X0.here hx rfl (hb hby at_8) rfl hc8 ?_
    show Steps p.tables e below (s₁.setTop (mkF m 9 #[.val (.long qq1), .second, .val (.long qq2), .second, .val (.long qq3), .second, .val (.long qq4), .second, .val (.long qq5), .second, .unset, .unset, .unset, .unset, .unset, .unset, .unset, .unset, .unset, .unset, .unset, .unset, .unset, .unset, .unset, .unset, .unset, .unset, .unset, .unset, .unset, .unset, .unset, .unset, .unset, .unset, .unset, .unset, .unset] [(.long ((qq1 &&& (9223372036854775807 : Int64)) - ((qq1 &&& (9223372036854775807 : Int64)) / (316224000000000 : Int64)) * (316224000000000 : Int64)))])) _
    refine XS.lconst X0.here hx rfl (hb hby at_9) ?_
    show Steps p.tables e below (s₁.setTop (mkF m 10 #[.val (.long qq1), .second, .val (.long qq2), .second, .val (.long qq3), .second, .val (.long qq4), .second, .val (.long qq5), .second, .unset, .unset, .unset, .unset, .unset, .unset, .unset, .unset, .unset, .unset, .unset, .unset, .unset, .unset, .unset, .unset, .unset, .unset, .unset, .unset, .unset, .unset, .unset, .unset, .unset, .unset, .unset, .unset, .unset] [(.long (1 : Int64)), (.long ((qq1 &&& (9223372036854775807 : Int64)) - ((qq1 &&& (9223372036854775807 : Int64)) / (316224000000000 : Int64)) * (316224000000000 : Int64)))])) _
    refine XS.ladd X0.here hx rfl (hb hby at_10) rfl ?_
    show Steps p.tables e below (s₁.setTop (mkF m 11 #[.val (.long qq1), .second, .val (.long qq2), .second, .val (.long qq3), .second, .val (.long qq4), .second, .val (.long qq5), .second, .unset, .unset, .unset, .unset, .unset, .unset, .unset, .unset, .unset, .unset, .unset, .unset, .unset, .unset, .unset, .unset, .unset, .unset, .unset, .unset, .unset, .unset, .unset, .unset, .unset, .unset, .unset, .unset, .unset] [(.long (((qq1 &&& (9223372036854775807 : Int64)) - ((qq1 &&& (9223372036854775807 : Int64)) / (316224000000000 : Int64)) * (316224000000000 : Int64)) + (1 : Int64)))])) _
    refine XS.lstore X0.here hx rfl (hb hby at_11) rfl (l' := #[.val (.long qq1), .second, .val (.long qq2), .second, .val (.long qq3), .second, .val (.long qq4), .second, .val (.long qq5), .second, .val (.long (((qq1 &&& (9223372036854775807 : Int64)) - ((qq1 &&& (9223372036854775807 : Int64)) / (316224000000000 : Int64)) * (316224000000000 : Int64)) + (1 : Int64))), .second, .unset, .unset, .unset, .unset, .unset, .unset, .unset, .unset, .unset, .unset, .unset, .unset, .unset, .unset, .unset, .unset, .unset, .unset, .unset, .unset, .unset, .unset, .unset, .unset, .unset, .unset, .unset]) rfl ?_
    show Steps p.tables e below (s₁.setTop (mkF m 13 #[.val (.long qq1), .second, .val (.long qq2), .second, .val (.long qq3), .second, .val (.long qq4), .second, .val (.long qq5), .second, .val (.long (((qq1 &&& (9223372036854775807 : Int64)) - ((qq1 &&& (9223372036854775807 : Int64)) / (316224000000000 : Int64)) * (316224000000000 : Int64)) + (1 : Int64))), .second, .unset, .unset, .unset, .unset, .unset, .unset, .unset, .unset, .unset, .unset, .unset, .unset, .unset, .unset, .unset, .unset, .unset, .unset, .unset, .unset, .unset, .unset, .unset, .unset, .unset, .unset, .unset] [])) _
    refine XS.lloadN X0.here hx rfl (hb hby at_13) rfl ?_
    show Steps p.tables e below (s₁.setTop (mkF m 14 #[.val (.long qq1), .second, .val (.long qq2), .second, .val (.long qq3), .second, .val (.long qq4), .second, .val (.long qq5), .second, .val (.long (((qq1 &&& (9223372036854775807 : Int64)) - ((qq1 &&& (9223372036854775807 : Int64)) / (316224000000000 : Int64)) * (316224000000000 : Int64)) + (1 : Int64))), .second, .unset, .unset, .unset, .unset, .unset, .unset, .unset, .unset, .unset, .unset, .unset, .unset, .unset, .unset, .unset, .unset, .unset, .unset, .unset, .unset, .unset, .unset, .unset, .unset, .unset, .unset, .unset] [(.long qq2)])) _
    refine X0.ldc2Long hx hown (mvT hZ (hw _ (List.mem_of_getElem? (i := 0) rfl))) (g := (mkF m 14 #[.val (.long qq1), .second, .val (.long qq2), .second, .val (.long qq3), .second, .val (.long qq4), .second, .val (.long qq5), .second, .val (.long (((qq1 &&& (9223372036854775807 : Int64)) - ((qq1 &&& (9223372036854775807 : Int64)) / (316224000000000 : Int64)) * (316224000000000 : Int64)) + (1 : Int64))), .second, .unset, .unset, .unset, .unset, .unset, .unset, .unset, .unset, .unset, .unset, .unset, .unset, .unset, .unset, .unset, .unset, .unset, .unset, .unset, .unset, .unset, .unset, .unset, .unset, .unset, .unset, .unset] [(.long qq2)])) rfl (hb hby at_14) _ ?_
    show Steps p.tables e below (s₁.setTop (mkF m 17 #[.val (.long qq1), .second, .val (.long qq2), .second, .val (.long qq3), .second, .val (.long qq4), .second, .val (.long qq5), .second, .val (.long (((qq1 &&& (9223372036854775807 : Int64)) - ((qq1 &&& (9223372036854775807 : Int64)) / (316224000000000 : Int64)) * (316224000000000 : Int64)) + (1 : Int64))), .second, .unset, .unset, .unset, .unset, .unset, .unset, .unset, .unset, .unset, .unset, .unset, .unset, .unset, .unset, .unset, .unset, .unset, .unset, .unset, .unset, .unset, .unset, .unset, .unset, .unset, .unset, .unset] [(.long (9223372036854775807 : Int64)), (.long qq2)])) _
    refine XS.land X0.here hx rfl (hb hby at_17) rfl ?_
    show Steps p.tables e below (s₁.setTop (mkF m 18 #[.val (.long qq1), .second, .val (.long qq2), .second, .val (.long qq3), .second, .val (.long qq4), .second, .val (.long qq5), .second, .val (.long (((qq1 &&& (9223372036854775807 : Int64)) - ((qq1 &&& (9223372036854775807 : Int64)) / (316224000000000 : Int64)) * (316224000000000 : Int64)) + (1 : Int64))), .second, .unset, .unset, .unset, .unset, .unset, .unset, .unset, .unset, .unset, .unset, .unset, .unset, .unset, .unset, .unset, .unset, .unset, .unset, .unset, .unset, .unset, .unset, .unset, .unset, .unset, .unset, .unset] [(.long (qq2 &&& (9223372036854775807 : Int64)))])) _
    refine X0.ldc2Long hx hown (mvT hZ (hw _ (List.mem_of_getElem? (i := 1) rfl))) (g := (mkF m 18 #[.val (.long qq1), .second, .val (.long qq2), .second, .val (.long qq3), .second, .val (.long qq4), .second, .val (.long qq5), .second, .val (.long (((qq1 &&& (9223372036854775807 : Int64)) - ((qq1 &&& (9223372036854775807 : Int64)) / (316224000000000 : Int64)) * (316224000000000 : Int64)) + (1 : Int64))), .second, .unset, .unset, .unset, .unset, .unset, .unset, .unset, .unset, .unset, .unset, .unset, .unset, .unset, .unset, .unset, .unset, .unset, .unset, .unset, .unset, .unset, .unset, .unset, .unset, .unset, .unset, .unset] [(.long (qq2 &&& (9223372036854775807 : Int64)))])) rfl (hb hby at_18) _ ?_
    show Steps p.tables e below (s₁.setTop (mkF m 21 #[.val (.long qq1), .second, .val (.long qq2), .second, .val (.long qq3), .second, .val (.long qq4), .second, .val (.long qq5), .second, .val (.long (((qq1 &&& (9223372036854775807 : Int64)) - ((qq1 &&& (9223372036854775807 : Int64)) / (316224000000000 : Int64)) * (316224000000000 : Int64)) + (1 : Int64))), .second, .unset, .unset, .unset, .unset, .unset, .unset, .unset, .unset, .unset, .unset, .unset, .unset, .unset, .unset, .unset, .unset, .unset, .unset, .unset, .unset, .unset, .unset, .unset, .unset, .unset, .unset, .unset] [(.long (316224000000000 : Int64)), (.long (qq2 &&& (9223372036854775807 : Int64)))])) _
    refine XS.lrem X0.here hx rfl (hb hby at_21) rfl hc21 ?_
    show Steps p.tables e below (s₁.setTop (mkF m 22 #[.val (.long qq1), .second, .val (.long qq2), .second, .val (.long qq3), .second, .val (.long qq4), .second, .val (.long qq5), .second, .val (.long (((qq1 &&& (9223372036854775807 : Int64)) - ((qq1 &&& (9223372036854775807 : Int64)) / (316224000000000 : Int64)) * (316224000000000 : Int64)) + (1 : Int64))), .second, .unset, .unset, .unset, .unset, .unset, .unset, .unset, .unset, .unset, .unset, .unset, .unset, .unset, .unset, .unset, .unset, .unset, .unset, .unset, .unset, .unset, .unset, .unset, .unset, .unset, .unset, .unset] [(.long ((qq2 &&& (9223372036854775807 : Int64)) - ((qq2 &&& (9223372036854775807 : Int64)) / (316224000000000 : Int64)) * (316224000000000 : Int64)))])) _
    refine XS.lconst X0.here hx rfl (hb hby at_22) ?_
    show Steps p.tables e below (s₁.setTop (mkF m 23 #[.val (.long qq1), .second, .val (.long qq2), .second, .val (.long qq3), .second, .val (.long qq4), .second, .val (.long qq5), .second, .val (.long (((qq1 &&& (9223372036854775807 : Int64)) - ((qq1 &&& (9223372036854775807 : Int64)) / (316224000000000 : Int64)) * (316224000000000 : Int64)) + (1 : Int64))), .second, .unset, .unset, .unset, .unset, .unset, .unset, .unset, .unset, .unset, .unset, .unset, .unset, .unset, .unset, .unset, .unset, .unset, .unset, .unset, .unset, .unset, .unset, .unset, .unset, .unset, .unset, .unset] [(.long (1 : Int64)), (.long ((qq2 &&& (9223372036854775807 : Int64)) - ((qq2 &&& (9223372036854775807 : Int64)) / (316224000000000 : Int64)) * (316224000000000 : Int64)))])) _
    refine XS.ladd X0.here hx rfl (hb hby at_23) rfl ?_
    show Steps p.tables e below (s₁.setTop (mkF m 24 #[.val (.long qq1), .second, .val (.long qq2), .second, .val (.long qq3), .second, .val (.long qq4), .second, .val (.long qq5), .second, .val (.long (((qq1 &&& (9223372036854775807 : Int64)) - ((qq1 &&& (9223372036854775807 : Int64)) / (316224000000000 : Int64)) * (316224000000000 : Int64)) + (1 : Int64))), .second, .unset, .unset, .unset, .unset, .unset, .unset, .unset, .unset, .unset, .unset, .unset, .unset, .unset, .unset, .unset, .unset, .unset, .unset, .unset, .unset, .unset, .unset, .unset, .unset, .unset, .unset, .unset] [(.long (((qq2 &&& (9223372036854775807 : Int64)) - ((qq2 &&& (9223372036854775807 : Int64)) / (316224000000000 : Int64)) * (316224000000000 : Int64)) + (1 : Int64)))])) _
    refine XS.lstore X0.here hx rfl (hb hby at_24) rfl (l' := #[.val (.long qq1), .second, .val (.long qq2), .second, .val (.long qq3), .second, .val (.long qq4), .second, .val (.long qq5), .second, .val (.long (((qq1 &&& (9223372036854775807 : Int64)) - ((qq1 &&& (9223372036854775807 : Int64)) / (316224000000000 : Int64)) * (316224000000000 : Int64)) + (1 : Int64))), .second, .val (.long (((qq2 &&& (9223372036854775807 : Int64)) - ((qq2 &&& (9223372036854775807 : Int64)) / (316224000000000 : Int64)) * (316224000000000 : Int64)) + (1 : Int64))), .second, .unset, .unset, .unset, .unset, .unset, .unset, .unset, .unset, .unset, .unset, .unset, .unset, .unset, .unset, .unset, .unset, .unset, .unset, .unset, .unset, .unset, .unset, .unset, .unset, .unset]) rfl ?_
    show Steps p.tables e below (s₁.setTop (mkF m 26 #[.val (.long qq1), .second, .val (.long qq2), .second, .val (.long qq3), .second, .val (.long qq4), .second, .val (.long qq5), .second, .val (.long (((qq1 &&& (9223372036854775807 : Int64)) - ((qq1 &&& (9223372036854775807 : Int64)) / (316224000000000 : Int64)) * (316224000000000 : Int64)) + (1 : Int64))), .second, .val (.long (((qq2 &&& (9223372036854775807 : Int64)) - ((qq2 &&& (9223372036854775807 : Int64)) / (316224000000000 : Int64)) * (316224000000000 : Int64)) + (1 : Int64))), .second, .unset, .unset, .unset, .unset, .unset, .unset, .unset, .unset, .unset, .unset, .unset, .unset, .unset, .unset, .unset, .unset, .unset, .unset, .unset, .unset, .unset, .unset, .unset, .unset, .unset] [])) _
    refine X0.ldc2Long hx hown (mvT hZ (hw _ (List.mem_of_getElem? (i := 2) rfl))) (g := (mkF m 26 #[.val (.long qq1), .second, .val (.long qq2), .second, .val (.long qq3), .second, .val (.long qq4), .second, .val (.long qq5), .second, .val (.long (((qq1 &&& (9223372036854775807 : Int64)) - ((qq1 &&& (9223372036854775807 : Int64)) / (316224000000000 : Int64)) * (316224000000000 : Int64)) + (1 : Int64))), .second, .val (.long (((qq2 &&& (9223372036854775807 : Int64)) - ((qq2 &&& (9223372036854775807 : Int64)) / (316224000000000 : Int64)) * (316224000000000 : Int64)) + (1 : Int64))), .second, .unset, .unset, .unset, .unset, .unset, .unset, .unset, .unset, .unset, .unset, .unset, .unset, .unset, .unset, .unset, .unset, .unset, .unset, .unset, .unset, .unset, .unset, .unset, .unset, .unset] [])) rfl (hb hby at_26) _ ?_
    show Steps p.tables e below (s₁.setTop (mkF m 29 #[.val (.long qq1), .second, .val (.long qq2), .second, .val (.long qq3), .second, .val (.long qq4), .second, .val (.long qq5), .second, .val (.long (((qq1 &&& (9223372036854775807 : Int64)) - ((qq1 &&& (9223372036854775807 : Int64)) / (316224000000000 : Int64)) * (316224000000000 : Int64)) + (1 : Int64))), .second, .val (.long (((qq2 &&& (9223372036854775807 : Int64)) - ((qq2 &&& (9223372036854775807 : Int64)) / (316224000000000 : Int64)) * (316224000000000 : Int64)) + (1 : Int64))), .second, .unset, .unset, .unset, .unset, .unset, .unset, .unset, .unset, .unset, .unset, .unset, .unset, .unset, .unset, .unset, .unset, .unset, .unset, .unset, .unset, .unset, .unset, .unset, .unset, .unset] [(.long (315537897600000 : Int64))])) _
    refine XS.lstore X0.here hx rfl (hb hby at_29) rfl (l' := #[.val (.long qq1), .second, .val (.long qq2), .second, .val (.long qq3), .second, .val (.long qq4), .second, .val (.long qq5), .second, .val (.long (((qq1 &&& (9223372036854775807 : Int64)) - ((qq1 &&& (9223372036854775807 : Int64)) / (316224000000000 : Int64)) * (316224000000000 : Int64)) + (1 : Int64))), .second, .val (.long (((qq2 &&& (9223372036854775807 : Int64)) - ((qq2 &&& (9223372036854775807 : Int64)) / (316224000000000 : Int64)) * (316224000000000 : Int64)) + (1 : Int64))), .second, .val (.long (315537897600000 : Int64)), .second, .unset, .unset, .unset, .unset, .unset, .unset, .unset, .unset, .unset, .unset, .unset, .unset, .unset, .unset, .unset, .unset, .unset, .unset, .unset, .unset, .unset, .unset, .unset]) rfl ?_
    show Steps p.tables e below (s₁.setTop (mkF m 31 #[.val (.long qq1), .second, .val (.long qq2), .second, .val (.long qq3), .second, .val (.long qq4), .second, .val (.long qq5), .second, .val (.long (((qq1 &&& (9223372036854775807 : Int64)) - ((qq1 &&& (9223372036854775807 : Int64)) / (316224000000000 : Int64)) * (316224000000000 : Int64)) + (1 : Int64))), .second, .val (.long (((qq2 &&& (9223372036854775807 : Int64)) - ((qq2 &&& (9223372036854775807 : Int64)) / (316224000000000 : Int64)) * (316224000000000 : Int64)) + (1 : Int64))), .second, .val (.long (315537897600000 : Int64)), .second, .unset, .unset, .unset, .unset, .unset, .unset, .unset, .unset, .unset, .unset, .unset, .unset, .unset, .unset, .unset, .unset, .unset, .unset, .unset, .unset, .unset, .unset, .unset] [])) _
    refine X0.ldc2Long hx hown (mvT hZ (hw _ (List.mem_of_getElem? (i := 3) rfl))) (g := (mkF m 31 #[.val (.long qq1), .second, .val (.long qq2), .second, .val (.long qq3), .second, .val (.long qq4), .second, .val (.long qq5), .second, .val (.long (((qq1 &&& (9223372036854775807 : Int64)) - ((qq1 &&& (9223372036854775807 : Int64)) / (316224000000000 : Int64)) * (316224000000000 : Int64)) + (1 : Int64))), .second, .val (.long (((qq2 &&& (9223372036854775807 : Int64)) - ((qq2 &&& (9223372036854775807 : Int64)) / (316224000000000 : Int64)) * (316224000000000 : Int64)) + (1 : Int64))), .second, .val (.long (315537897600000 : Int64)), .second, .unset, .unset, .unset, .unset, .unset, .unset, .unset, .unset, .unset, .unset, .unset, .unset, .unset, .unset, .unset, .unset, .unset, .unset, .unset, .unset, .unset, .unset, .unset] [])) rfl (hb hby at_31) _ ?_
    show Steps p.tables e below (s₁.setTop (mkF m 34 #[.val (.long qq1), .second, .val (.long qq2), .second, .val (.long qq3), .second, .val (.long qq4), .second, .val (.long qq5), .second, .val (.long (((qq1 &&& (9223372036854775807 : Int64)) - ((qq1 &&& (9223372036854775807 : Int64)) / (316224000000000 : Int64)) * (316224000000000 : Int64)) + (1 : Int64))), .second, .val (.long (((qq2 &&& (9223372036854775807 : Int64)) - ((qq2 &&& (9223372036854775807 : Int64)) / (316224000000000 : Int64)) * (316224000000000 : Int64)) + (1 : Int64))), .second, .val (.long (315537897600000 : Int64)), .second, .unset, .unset, .unset, .unset, .unset, .unset, .unset, .unset, .unset, .unset, .unset, .unset, .unset, .unset, .unset, .unset, .unset, .unset, .unset, .unset, .unset, .unset, .unset] [(.long (-62135596800000 : Int64))])) _
    refine XS.lload X0.here hx rfl (hb hby at_34) rfl ?_
    show Steps p.tables e below (s₁.setTop (mkF m 36 #[.val (.long qq1), .second, .val (.long qq2), .second, .val (.long qq3), .second, .val (.long qq4), .second, .val (.long qq5), .second, .val (.long (((qq1 &&& (9223372036854775807 : Int64)) - ((qq1 &&& (9223372036854775807 : Int64)) / (316224000000000 : Int64)) * (316224000000000 : Int64)) + (1 : Int64))), .second, .val (.long (((qq2 &&& (9223372036854775807 : Int64)) - ((qq2 &&& (9223372036854775807 : Int64)) / (316224000000000 : Int64)) * (316224000000000 : Int64)) + (1 : Int64))), .second, .val (.long (315537897600000 : Int64)), .second, .unset, .unset, .unset, .unset, .unset, .unset, .unset, .unset, .unset, .unset, .unset, .unset, .unset, .unset, .unset, .unset, .unset, .unset, .unset, .unset, .unset, .unset, .unset] [(.long qq3), (.long (-62135596800000 : Int64))])) _
    refine X0.ldc2Long hx hown (mvT hZ (hw _ (List.mem_of_getElem? (i := 0) rfl))) (g := (mkF m 36 #[.val (.long qq1), .second, .val (.long qq2), .second, .val (.long qq3), .second, .val (.long qq4), .second, .val (.long qq5), .second, .val (.long (((qq1 &&& (9223372036854775807 : Int64)) - ((qq1 &&& (9223372036854775807 : Int64)) / (316224000000000 : Int64)) * (316224000000000 : Int64)) + (1 : Int64))), .second, .val (.long (((qq2 &&& (9223372036854775807 : Int64)) - ((qq2 &&& (9223372036854775807 : Int64)) / (316224000000000 : Int64)) * (316224000000000 : Int64)) + (1 : Int64))), .second, .val (.long (315537897600000 : Int64)), .second, .unset, .unset, .unset, .unset, .unset, .unset, .unset, .unset, .unset, .unset, .unset, .unset, .unset, .unset, .unset, .unset, .unset, .unset, .unset, .unset, .unset, .unset, .unset] [(.long qq3), (.long (-62135596800000 : Int64))])) rfl (hb hby at_36) _ ?_
    show Steps p.tables e below (s₁.setTop (mkF m 39 #[.val (.long qq1), .second, .val (.long qq2), .second, .val (.long qq3), .second, .val (.long qq4), .second, .val (.long qq5), .second, .val (.long (((qq1 &&& (9223372036854775807 : Int64)) - ((qq1 &&& (9223372036854775807 : Int64)) / (316224000000000 : Int64)) * (316224000000000 : Int64)) + (1 : Int64))), .second, .val (.long (((qq2 &&& (9223372036854775807 : Int64)) - ((qq2 &&& (9223372036854775807 : Int64)) / (316224000000000 : Int64)) * (316224000000000 : Int64)) + (1 : Int64))), .second, .val (.long (315537897600000 : Int64)), .second, .unset, .unset, .unset, .unset, .unset, .unset, .unset, .unset, .unset, .unset, .unset, .unset, .unset, .unset, .unset, .unset, .unset, .unset, .unset, .unset, .unset, .unset, .unset] [(.long (9223372036854775807 : Int64)), (.long qq3), (.long (-62135596800000 : Int64))])) _
    refine XS.land X0.here hx rfl (hb hby at_39) rfl ?_
    show Steps p.tables e below (s₁.setTop (mkF m 40 #[.val (.long qq1), .second, .val (.long qq2), .second, .val (.long qq3), .second, .val (.long qq4), .second, .val (.long qq5), .second, .val (.long (((qq1 &&& (9223372036854775807 : Int64)) - ((qq1 &&& (9223372036854775807 : Int64)) / (316224000000000 : Int64)) * (316224000000000 : Int64)) + (1 : Int64))), .second, .val (.long (((qq2 &&& (9223372036854775807 : Int64)) - ((qq2 &&& (9223372036854775807 : Int64)) / (316224000000000 : Int64)) * (316224000000000 : Int64)) + (1 : Int64))), .second, .val (.long (315537897600000 : Int64)), .second, .unset, .unset, .unset, .unset, .unset, .unset, .unset, .unset, .unset, .unset, .unset, .unset, .unset, .unset, .unset, .unset, .unset, .unset, .unset, .unset, .unset, .unset, .unset] [(.long (qq3 &&& (9223372036854775807 : Int64))), (.long (-62135596800000 : Int64))])) _
    refine XS.lload X0.here hx rfl (hb hby at_40) rfl ?_
    show Steps p.tables e below (s₁.setTop (mkF m 42 #[.val (.long qq1), .second, .val (.long qq2), .second, .val (.long qq3), .second, .val (.long qq4), .second, .val (.long qq5), .second, .val (.long (((qq1 &&& (9223372036854775807 : Int64)) - ((qq1 &&& (9223372036854775807 : Int64)) / (316224000000000 : Int64)) * (316224000000000 : Int64)) + (1 : Int64))), .second, .val (.long (((qq2 &&& (9223372036854775807 : Int64)) - ((qq2 &&& (9223372036854775807 : Int64)) / (316224000000000 : Int64)) * (316224000000000 : Int64)) + (1 : Int64))), .second, .val (.long (315537897600000 : Int64)), .second, .unset, .unset, .unset, .unset, .unset, .unset, .unset, .unset, .unset, .unset, .unset, .unset, .unset, .unset, .unset, .unset, .unset, .unset, .unset, .unset, .unset, .unset, .unset] [(.long (315537897600000 : Int64)), (.long (qq3 &&& (9223372036854775807 : Int64))), (.long (-62135596800000 : Int64))])) _
    refine XS.lrem X0.here hx rfl (hb hby at_42) rfl hc42 ?_
    show Steps p.tables e below (s₁.setTop (mkF m 43 #[.val (.long qq1), .second, .val (.long qq2), .second, .val (.long qq3), .second, .val (.long qq4), .second, .val (.long qq5), .second, .val (.long (((qq1 &&& (9223372036854775807 : Int64)) - ((qq1 &&& (9223372036854775807 : Int64)) / (316224000000000 : Int64)) * (316224000000000 : Int64)) + (1 : Int64))), .second, .val (.long (((qq2 &&& (9223372036854775807 : Int64)) - ((qq2 &&& (9223372036854775807 : Int64)) / (316224000000000 : Int64)) * (316224000000000 : Int64)) + (1 : Int64))), .second, .val (.long (315537897600000 : Int64)), .second, .unset, .unset, .unset, .unset, .unset, .unset, .unset, .unset, .unset, .unset, .unset, .unset, .unset, .unset, .unset, .unset, .unset, .unset, .unset, .unset, .unset, .unset, .unset] [(.long ((qq3 &&& (9223372036854775807 : Int64)) - ((qq3 &&& (9223372036854775807 : Int64)) / (315537897600000 : Int64)) * (315537897600000 : Int64))), (.long (-62135596800000 : Int64))])) _
    refine XS.ladd X0.here hx rfl (hb hby at_43) rfl ?_
    show Steps p.tables e below (s₁.setTop (mkF m 44 #[.val (.long qq1), .second, .val (.long qq2), .second, .val (.long qq3), .second, .val (.long qq4), .second, .val (.long qq5), .second, .val (.long (((qq1 &&& (9223372036854775807 : Int64)) - ((qq1 &&& (9223372036854775807 : Int64)) / (316224000000000 : Int64)) * (316224000000000 : Int64)) + (1 : Int64))), .second, .val (.long (((qq2 &&& (9223372036854775807 : Int64)) - ((qq2 &&& (9223372036854775807 : Int64)) / (316224000000000 : Int64)) * (316224000000000 : Int64)) + (1 : Int64))), .second, .val (.long (315537897600000 : Int64)), .second, .unset, .unset, .unset, .unset, .unset, .unset, .unset, .unset, .unset, .unset, .unset, .unset, .unset, .unset, .unset, .unset, .unset, .unset, .unset, .unset, .unset, .unset, .unset] [(.long ((-62135596800000 : Int64) + ((qq3 &&& (9223372036854775807 : Int64)) - ((qq3 &&& (9223372036854775807 : Int64)) / (315537897600000 : Int64)) * (315537897600000 : Int64))))])) _
    refine XS.lstore X0.here hx rfl (hb hby at_44) rfl (l' := #[.val (.long qq1), .second, .val (.long qq2), .second, .val (.long qq3), .second, .val (.long qq4), .second, .val (.long qq5), .second, .val (.long (((qq1 &&& (9223372036854775807 : Int64)) - ((qq1 &&& (9223372036854775807 : Int64)) / (316224000000000 : Int64)) * (316224000000000 : Int64)) + (1 : Int64))), .second, .val (.long (((qq2 &&& (9223372036854775807 : Int64)) - ((qq2 &&& (9223372036854775807 : Int64)) / (316224000000000 : Int64)) * (316224000000000 : Int64)) + (1 : Int64))), .second, .val (.long (315537897600000 : Int64)), .second, .val (.long ((-62135596800000 : Int64) + ((qq3 &&& (9223372036854775807 : Int64)) - ((qq3 &&& (9223372036854775807 : Int64)) / (315537897600000 : Int64)) * (315537897600000 : Int64)))), .second, .unset, .unset, .unset, .unset, .unset, .unset, .unset, .unset, .unset, .unset, .unset, .unset, .unset, .unset, .unset, .unset, .unset, .unset, .unset, .unset, .unset]) rfl ?_
    show Steps p.tables e below (s₁.setTop (mkF m 46 #[.val (.long qq1), .second, .val (.long qq2), .second, .val (.long qq3), .second, .val (.long qq4), .second, .val (.long qq5), .second, .val (.long (((qq1 &&& (9223372036854775807 : Int64)) - ((qq1 &&& (9223372036854775807 : Int64)) / (316224000000000 : Int64)) * (316224000000000 : Int64)) + (1 : Int64))), .second, .val (.long (((qq2 &&& (9223372036854775807 : Int64)) - ((qq2 &&& (9223372036854775807 : Int64)) / (316224000000000 : Int64)) * (316224000000000 : Int64)) + (1 : Int64))), .second, .val (.long (315537897600000 : Int64)), .second, .val (.long ((-62135596800000 : Int64) + ((qq3 &&& (9223372036854775807 : Int64)) - ((qq3 &&& (9223372036854775807 : Int64)) / (315537897600000 : Int64)) * (315537897600000 : Int64)))), .second, .unset, .unset, .unset, .unset, .unset, .unset, .unset, .unset, .unset, .unset, .unset, .unset, .unset, .unset, .unset, .unset, .unset, .unset, .unset, .unset, .unset] [])) _
    refine XS.lload X0.here hx rfl (hb hby at_46) rfl ?_
    show Steps p.tables e below (s₁.setTop (mkF m 48 #[.val (.long qq1), .second, .val (.long qq2), .second, .val (.long qq3), .second, .val (.long qq4), .second, .val (.long qq5), .second, .val (.long (((qq1 &&& (9223372036854775807 : Int64)) - ((qq1 &&& (9223372036854775807 : Int64)) / (316224000000000 : Int64)) * (316224000000000 : Int64)) + (1 : Int64))), .second, .val (.long (((qq2 &&& (9223372036854775807 : Int64)) - ((qq2 &&& (9223372036854775807 : Int64)) / (316224000000000 : Int64)) * (316224000000000 : Int64)) + (1 : Int64))), .second, .val (.long (315537897600000 : Int64)), .second, .val (.long ((-62135596800000 : Int64) + ((qq3 &&& (9223372036854775807 : Int64)) - ((qq3 &&& (9223372036854775807 : Int64)) / (315537897600000 : Int64)) * (315537897600000 : Int64)))), .second, .unset, .unset, .unset, .unset, .unset, .unset, .unset, .unset, .unset, .unset, .unset, .unset, .unset, .unset, .unset, .unset, .unset, .unset, .unset, .unset, .unset] [(.long qq4)])) _
    refine XS.iconst X0.here hx rfl (hb hby at_48) ?_
    show Steps p.tables e below (s₁.setTop (mkF m 49 #[.val (.long qq1), .second, .val (.long qq2), .second, .val (.long qq3), .second, .val (.long qq4), .second, .val (.long qq5), .second, .val (.long (((qq1 &&& (9223372036854775807 : Int64)) - ((qq1 &&& (9223372036854775807 : Int64)) / (316224000000000 : Int64)) * (316224000000000 : Int64)) + (1 : Int64))), .second, .val (.long (((qq2 &&& (9223372036854775807 : Int64)) - ((qq2 &&& (9223372036854775807 : Int64)) / (316224000000000 : Int64)) * (316224000000000 : Int64)) + (1 : Int64))), .second, .val (.long (315537897600000 : Int64)), .second, .val (.long ((-62135596800000 : Int64) + ((qq3 &&& (9223372036854775807 : Int64)) - ((qq3 &&& (9223372036854775807 : Int64)) / (315537897600000 : Int64)) * (315537897600000 : Int64)))), .second, .unset, .unset, .unset, .unset, .unset, .unset, .unset, .unset, .unset, .unset, .unset, .unset, .unset, .unset, .unset, .unset, .unset, .unset, .unset, .unset, .unset] [(.int (1 : Int32)), (.long qq4)])) _
    refine XS.lushr X0.here hx rfl (hb hby at_49) rfl ?_
    show Steps p.tables e below (s₁.setTop (mkF m 50 #[.val (.long qq1), .second, .val (.long qq2), .second, .val (.long qq3), .second, .val (.long qq4), .second, .val (.long qq5), .second, .val (.long (((qq1 &&& (9223372036854775807 : Int64)) - ((qq1 &&& (9223372036854775807 : Int64)) / (316224000000000 : Int64)) * (316224000000000 : Int64)) + (1 : Int64))), .second, .val (.long (((qq2 &&& (9223372036854775807 : Int64)) - ((qq2 &&& (9223372036854775807 : Int64)) / (316224000000000 : Int64)) * (316224000000000 : Int64)) + (1 : Int64))), .second, .val (.long (315537897600000 : Int64)), .second, .val (.long ((-62135596800000 : Int64) + ((qq3 &&& (9223372036854775807 : Int64)) - ((qq3 &&& (9223372036854775807 : Int64)) / (315537897600000 : Int64)) * (315537897600000 : Int64)))), .second, .unset, .unset, .unset, .unset, .unset, .unset, .unset, .unset, .unset, .unset, .unset, .unset, .unset, .unset, .unset, .unset, .unset, .unset, .unset, .unset, .unset] [(.long ((qq4.toUInt64 >>> ((1 : Int32) &&& 0x3f).toInt64.toUInt64).toInt64))])) _
    refine XS.lstore X0.here hx rfl (hb hby at_50) rfl (l' := #[.val (.long qq1), .second, .val (.long qq2), .second, .val (.long qq3), .second, .val (.long qq4), .second, .val (.long qq5), .second, .val (.long (((qq1 &&& (9223372036854775807 : Int64)) - ((qq1 &&& (9223372036854775807 : Int64)) / (316224000000000 : Int64)) * (316224000000000 : Int64)) + (1 : Int64))), .second, .val (.long (((qq2 &&& (9223372036854775807 : Int64)) - ((qq2 &&& (9223372036854775807 : Int64)) / (316224000000000 : Int64)) * (316224000000000 : Int64)) + (1 : Int64))), .second, .val (.long (315537897600000 : Int64)), .second, .val (.long ((-62135596800000 : Int64) + ((qq3 &&& (9223372036854775807 : Int64)) - ((qq3 &&& (9223372036854775807 : Int64)) / (315537897600000 : Int64)) * (315537897600000 : Int64)))), .second, .val (.long ((qq4.toUInt64 >>> ((1 : Int32) &&& 0x3f).toInt64.toUInt64).toInt64)), .second, .unset, .unset, .unset, .unset, .unset, .unset, .unset, .unset, .unset, .unset, .unset, .unset, .unset, .unset, .unset, .unset, .unset, .unset, .unset]) rfl ?_
    show Steps p.tables e below (s₁.setTop (mkF m 52 #[.val (.long qq1), .second, .val (.long qq2), .second, .val (.long qq3), .second, .val (.long qq4), .second, .val (.long qq5), .second, .val (.long (((qq1 &&& (9223372036854775807 : Int64)) - ((qq1 &&& (9223372036854775807 : Int64)) / (316224000000000 : Int64)) * (316224000000000 : Int64)) + (1 : Int64))), .second, .val (.long (((qq2 &&& (9223372036854775807 : Int64)) - ((qq2 &&& (9223372036854775807 : Int64)) / (316224000000000 : Int64)) * (316224000000000 : Int64)) + (1 : Int64))), .second, .val (.long (315537897600000 : Int64)), .second, .val (.long ((-62135596800000 : Int64) + ((qq3 &&& (9223372036854775807 : Int64)) - ((qq3 &&& (9223372036854775807 : Int64)) / (315537897600000 : Int64)) * (315537897600000 : Int64)))), .second, .val (.long ((qq4.toUInt64 >>> ((1 : Int32) &&& 0x3f).toInt64.toUInt64).toInt64)), .second, .unset, .unset, .unset, .unset, .unset, .unset, .unset, .unset, .unset, .unset, .unset, .unset, .unset, .unset, .unset, .unset, .unset, .unset, .unset] [])) _
    refine XS.lload X0.here hx rfl (hb hby at_52) rfl ?_
    show Steps p.tables e below (s₁.setTop (mkF m 54 #[.val (.long qq1), .second, .val (.long qq2), .second, .val (.long qq3), .second, .val (.long qq4), .second, .val (.long qq5), .second, .val (.long (((qq1 &&& (9223372036854775807 : Int64)) - ((qq1 &&& (9223372036854775807 : Int64)) / (316224000000000 : Int64)) * (316224000000000 : Int64)) + (1 : Int64))), .second, .val (.long (((qq2 &&& (9223372036854775807 : Int64)) - ((qq2 &&& (9223372036854775807 : Int64)) / (316224000000000 : Int64)) * (316224000000000 : Int64)) + (1 : Int64))), .second, .val (.long (315537897600000 : Int64)), .second, .val (.long ((-62135596800000 : Int64) + ((qq3 &&& (9223372036854775807 : Int64)) - ((qq3 &&& (9223372036854775807 : Int64)) / (315537897600000 : Int64)) * (315537897600000 : Int64)))), .second, .val (.long ((qq4.toUInt64 >>> ((1 : Int32) &&& 0x3f).toInt64.toUInt64).toInt64)), .second, .unset, .unset, .unset, .unset, .unset, .unset, .unset, .unset, .unset, .unset, .unset, .unset, .unset, .unset, .unset, .unset, .unset, .unset, .unset] [(.long qq5)])) _
    refine XS.iconst X0.here hx rfl (hb hby at_54) ?_
    show Steps p.tables e below (s₁.setTop (mkF m 55 #[.val (.long qq1), .second, .val (.long qq2), .second, .val (.long qq3), .second, .val (.long qq4), .second, .val (.long qq5), .second, .val (.long (((qq1 &&& (9223372036854775807 : Int64)) - ((qq1 &&& (9223372036854775807 : Int64)) / (316224000000000 : Int64)) * (316224000000000 : Int64)) + (1 : Int64))), .second, .val (.long (((qq2 &&& (9223372036854775807 : Int64)) - ((qq2 &&& (9223372036854775807 : Int64)) / (316224000000000 : Int64)) * (316224000000000 : Int64)) + (1 : Int64))), .second, .val (.long (315537897600000 : Int64)), .second, .val (.long ((-62135596800000 : Int64) + ((qq3 &&& (9223372036854775807 : Int64)) - ((qq3 &&& (9223372036854775807 : Int64)) / (315537897600000 : Int64)) * (315537897600000 : Int64)))), .second, .val (.long ((qq4.toUInt64 >>> ((1 : Int32) &&& 0x3f).toInt64.toUInt64).toInt64)), .second, .unset, .unset, .unset, .unset, .unset, .unset, .unset, .unset, .unset, .unset, .unset, .unset, .unset, .unset, .unset, .unset, .unset, .unset, .unset] [(.int (1 : Int32)), (.long qq5)])) _
    refine XS.lushr X0.here hx rfl (hb hby at_55) rfl ?_
    show Steps p.tables e below (s₁.setTop (mkF m 56 #[.val (.long qq1), .second, .val (.long qq2), .second, .val (.long qq3), .second, .val (.long qq4), .second, .val (.long qq5), .second, .val (.long (((qq1 &&& (9223372036854775807 : Int64)) - ((qq1 &&& (9223372036854775807 : Int64)) / (316224000000000 : Int64)) * (316224000000000 : Int64)) + (1 : Int64))), .second, .val (.long (((qq2 &&& (9223372036854775807 : Int64)) - ((qq2 &&& (9223372036854775807 : Int64)) / (316224000000000 : Int64)) * (316224000000000 : Int64)) + (1 : Int64))), .second, .val (.long (315537897600000 : Int64)), .second, .val (.long ((-62135596800000 : Int64) + ((qq3 &&& (9223372036854775807 : Int64)) - ((qq3 &&& (9223372036854775807 : Int64)) / (315537897600000 : Int64)) * (315537897600000 : Int64)))), .second, .val (.long ((qq4.toUInt64 >>> ((1 : Int32) &&& 0x3f).toInt64.toUInt64).toInt64)), .second, .unset, .unset, .unset, .unset, .unset, .unset, .unset, .unset, .unset, .unset, .unset, .unset, .unset, .unset, .unset, .unset, .unset, .unset, .unset] [(.long ((qq5.toUInt64 >>> ((1 : Int32) &&& 0x3f).toInt64.toUInt64).toInt64))])) _
    refine XS.lstore X0.here hx rfl (hb hby at_56) rfl (l' := #[.val (.long qq1), .second, .val (.long qq2), .second, .val (.long qq3), .second, .val (.long qq4), .second, .val (.long qq5), .second, .val (.long (((qq1 &&& (9223372036854775807 : Int64)) - ((qq1 &&& (9223372036854775807 : Int64)) / (316224000000000 : Int64)) * (316224000000000 : Int64)) + (1 : Int64))), .second, .val (.long (((qq2 &&& (9223372036854775807 : Int64)) - ((qq2 &&& (9223372036854775807 : Int64)) / (316224000000000 : Int64)) * (316224000000000 : Int64)) + (1 : Int64))), .second, .val (.long (315537897600000 : Int64)), .second, .val (.long ((-62135596800000 : Int64) + ((qq3 &&& (9223372036854775807 : Int64)) - ((qq3 &&& (9223372036854775807 : Int64)) / (315537897600000 : Int64)) * (315537897600000 : Int64)))), .second, .val (.long ((qq4.toUInt64 >>> ((1 : Int32) &&& 0x3f).toInt64.toUInt64).toInt64)), .second, .val (.long ((qq5.toUInt64 >>> ((1 : Int32) &&& 0x3f).toInt64.toUInt64).toInt64)), .second, .unset, .unset, .unset, .unset, .unset, .unset, .unset, .unset, .unset, .unset, .unset, .unset, .unset, .unset, .unset, .unset, .unset]) rfl ?_
    exact kt)
  obtain ⟨rr, ss, og, kk, jj, h_rr, h_ss, pre2⟩ : ∃ (rr : Int64) (ss : Int64) (og : Int64) (kk : Int64) (jj : Int64), (0 < rr.toInt ∧ rr.toInt ≤ 316224000000000) ∧ (0 < ss.toInt ∧ ss.toInt ≤ 316224000000000) ∧ ∀ t, Steps p.tables e below (s₁.setTop (mkF m 58 #[.val (.long qq1), .second, .val (.long qq2), .second, .val (.long qq3), .second, .val (.long qq4), .second, .val (.long qq5), .second, .val (.long rr), .second, .val (.long ss), .second, .val (.long (315537897600000 : Int64)), .second, .val (.long og), .second, .val (.long kk), .second, .val (.long jj), .second, .unset, .unset, .unset, .unset, .unset, .unset, .unset, .unset, .unset, .unset, .unset, .unset, .unset, .unset, .unset, .unset, .unset] [])) t → Steps p.tables e below (s₁.setTop (entryFrame m #[(.long qq1), (.long qq2), (.long qq3), (.long qq4), (.long qq5)] maxLocals)) t := ⟨(((qq1 &&& (9223372036854775807 : Int64)) - ((qq1 &&& (9223372036854775807 : Int64)) / (316224000000000 : Int64)) * (316224000000000 : Int64)) + (1 : Int64)), (((qq2 &&& (9223372036854775807 : Int64)) - ((qq2 &&& (9223372036854775807 : Int64)) / (316224000000000 : Int64)) * (316224000000000 : Int64)) + (1 : Int64)), ((-62135596800000 : Int64) + ((qq3 &&& (9223372036854775807 : Int64)) - ((qq3 &&& (9223372036854775807 : Int64)) / (315537897600000 : Int64)) * (315537897600000 : Int64))), ((qq4.toUInt64 >>> ((1 : Int32) &&& 0x3f).toInt64.toUInt64).toInt64), ((qq5.toUInt64 >>> ((1 : Int32) &&& 0x3f).toInt64.toUInt64).toInt64), own_pos _, own_pos _, pre1⟩
  obtain ⟨T3, h3, X3, e3, E3, A3, D3, -, st3⟩ := newO X0 hx hZ hown (hw _ (List.mem_of_getElem? (i := 4) rfl)) (hw _ (List.mem_of_getElem? (i := 5) rfl)) (hw _ (List.mem_of_getElem? (i := 6) rfl)) e0 (g := (mkF m 58 #[.val (.long qq1), .second, .val (.long qq2), .second, .val (.long qq3), .second, .val (.long qq4), .second, .val (.long qq5), .second, .val (.long rr), .second, .val (.long ss), .second, .val (.long (315537897600000 : Int64)), .second, .val (.long og), .second, .val (.long kk), .second, .val (.long jj), .second, .unset, .unset, .unset, .unset, .unset, .unset, .unset, .unset, .unset, .unset, .unset, .unset, .unset, .unset, .unset, .unset, .unset] [])) rfl (hb hby at_58) (by decide) (by decide)
  obtain ⟨b3, g3⟩ : ∃ z, z = h0.size := ⟨_, rfl⟩
  rw [← g3] at A3 D3 st3
  have g_b3 : n0 ≤ b3 := Nat.le_trans Z0 (Nat.le_of_eq g3.symm)
  have Z3 : n0 ≤ h3.size := Nat.le_trans Z0 E3.1
  have kz3 := Nat.le_trans (Nat.le_refl _) E3.1
  have F3_name : Fld Z h3 b3 "com/example/corrente/corrente/TimeWindow" "name" "Ljava/lang/String;" .null := D3 (Or.inr (hw _ (List.mem_of_getElem? (i := 32) rfl))) (ty := (.object "java/lang/String")) (by decide)
  have F3_stream : Fld Z h3 b3 "com/example/corrente/corrente/TimeWindow" "stream" "Ljava/lang/String;" .null := D3 (Or.inr (hw _ (List.mem_of_getElem? (i := 34) rfl))) (ty := (.object "java/lang/String")) (by decide)
  have F3_range : Fld Z h3 b3 "com/example/corrente/corrente/TimeWindow" "range" "J" (.long (0 : Int64)) := D3 (Or.inr (hw _ (List.mem_of_getElem? (i := 36) rfl))) (ty := .long) (by decide)
  have F3_step : Fld Z h3 b3 "com/example/corrente/corrente/TimeWindow" "step" "J" (.long (0 : Int64)) := D3 (Or.inr (hw _ (List.mem_of_getElem? (i := 38) rfl))) (ty := .long) (by decide)
  have F3_origin : Fld Z h3 b3 "com/example/corrente/corrente/TimeWindow" "origin" "J" (.long (0 : Int64)) := D3 (Or.inr (hw _ (List.mem_of_getElem? (i := 40) rfl))) (ty := .long) (by decide)
  have F3_report : Fld Z h3 b3 "com/example/corrente/corrente/TimeWindow" "report" "Lcom/example/corrente/corrente/ReportPolicy;" .null := D3 (Or.inr (hw _ (List.mem_of_getElem? (i := 42) rfl))) (ty := (.object "com/example/corrente/corrente/ReportPolicy")) (by decide)
  have F3_ontology : Fld Z h3 b3 "com/example/corrente/corrente/TimeWindow" "ontology" "Ljava/lang/String;" .null := D3 (Or.inr (hw _ (List.mem_of_getElem? (i := 44) rfl))) (ty := (.object "java/lang/String")) (by decide)
  have pre4 : ∀ t, Steps p.tables e below (T3.setTop (mkF m 62 #[.val (.long qq1), .second, .val (.long qq2), .second, .val (.long qq3), .second, .val (.long qq4), .second, .val (.long qq5), .second, .val (.long rr), .second, .val (.long ss), .second, .val (.long (315537897600000 : Int64)), .second, .val (.long og), .second, .val (.long kk), .second, .val (.long jj), .second, .unset, .unset, .unset, .unset, .unset, .unset, .unset, .unset, .unset, .unset, .unset, .unset, .unset, .unset, .unset, .unset, .unset] [(.ref b3), (.ref b3)])) t → Steps p.tables e below (s₁.setTop (entryFrame m #[(.long qq1), (.long qq2), (.long qq3), (.long qq4), (.long qq5)] maxLocals)) t := fun t kt => pre2 t (by
    show Steps p.tables e below (s₁.setTop (mkF m 58 #[.val (.long qq1), .second, .val (.long qq2), .second, .val (.long qq3), .second, .val (.long qq4), .second, .val (.long qq5), .second, .val (.long rr), .second, .val (.long ss), .second, .val (.long (315537897600000 : Int64)), .second, .val (.long og), .second, .val (.long kk), .second, .val (.long jj), .second, .unset, .unset, .unset, .unset, .unset, .unset, .unset, .unset, .unset, .unset, .unset, .unset, .unset, .unset, .unset, .unset, .unset] [])) _
    refine st3 _ ?_
    show Steps p.tables e below (T3.setTop (mkF m 61 #[.val (.long qq1), .second, .val (.long qq2), .second, .val (.long qq3), .second, .val (.long qq4), .second, .val (.long qq5), .second, .val (.long rr), .second, .val (.long ss), .second, .val (.long (315537897600000 : Int64)), .second, .val (.long og), .second, .val (.long kk), .second, .val (.long jj), .second, .unset, .unset, .unset, .unset, .unset, .unset, .unset, .unset, .unset, .unset, .unset, .unset, .unset, .unset, .unset, .unset, .unset] [(.ref b3)])) _
    refine XS.dup X3.here hx rfl (hb hby at_61) rfl rfl ?_
    exact kt)
  obtain ⟨a5, T5, h5, kk5, X5, e5, E5, hS5, kz5, hZ, hown, st5⟩ := ldcS (s := s) (vm0 := s.vm) X3 hx hZ hown (hw _ (List.mem_of_getElem? (i := 7) rfl)) (fun d hd => hw d (own_str_in d hd)) e3 hS0 kz3 (g := (mkF m 62 #[.val (.long qq1), .second, .val (.long qq2), .second, .val (.long qq3), .second, .val (.long qq4), .second, .val (.long qq5), .second, .val (.long rr), .second, .val (.long ss), .second, .val (.long (315537897600000 : Int64)), .second, .val (.long og), .second, .val (.long kk), .second, .val (.long jj), .second, .unset, .unset, .unset, .unset, .unset, .unset, .unset, .unset, .unset, .unset, .unset, .unset, .unset, .unset, .unset, .unset, .unset] [(.ref b3), (.ref b3)])) rfl (hb hby at_62) (n := 4) (by decide) (by decide) (by decide) (by decide)
  have Z5 : n0 ≤ h5.size := Nat.le_trans Z3 E5.1
  have pre6 : ∀ t, Steps p.tables e below (T5.setTop (mkF m 64 #[.val (.long qq1), .second, .val (.long qq2), .second, .val (.long qq3), .second, .val (.long qq4), .second, .val (.long qq5), .second, .val (.long rr), .second, .val (.long ss), .second, .val (.long (315537897600000 : Int64)), .second, .val (.long og), .second, .val (.long kk), .second, .val (.long jj), .second, .unset, .unset, .unset, .unset, .unset, .unset, .unset, .unset, .unset, .unset, .unset, .unset, .unset, .unset, .unset, .unset, .unset] [(.ref a5), (.ref b3), (.ref b3)])) t → Steps p.tables e below (s₁.setTop (entryFrame m #[(.long qq1), (.long qq2), (.long qq3), (.long qq4), (.long qq5)] maxLocals)) t := fun t kt => pre4 t (by
    show Steps p.tables e below (T3.setTop (mkF m 62 #[.val (.long qq1), .second, .val (.long qq2), .second, .val (.long qq3), .second, .val (.long qq4), .second, .val (.long qq5), .second, .val (.long rr), .second, .val (.long ss), .second, .val (.long (315537897600000 : Int64)), .second, .val (.long og), .second, .val (.long kk), .second, .val (.long jj), .second, .unset, .unset, .unset, .unset, .unset, .unset, .unset, .unset, .unset, .unset, .unset, .unset, .unset, .unset, .unset, .unset, .unset] [(.ref b3), (.ref b3)])) _
    refine st5 _ ?_
    exact kt)
  obtain ⟨a7, T7, h7, kk7, X7, e7, E7, hS7, kz7, hZ, hown, st7⟩ := ldcS (s := s) (vm0 := T5.vm) X5 hx hZ hown (hw _ (List.mem_of_getElem? (i := 15) rfl)) (fun d hd => hw d (own_str_in d hd)) e5 hS5 kz5 (g := (mkF m 64 #[.val (.long qq1), .second, .val (.long qq2), .second, .val (.long qq3), .second, .val (.long qq4), .second, .val (.long qq5), .second, .val (.long rr), .second, .val (.long ss), .second, .val (.long (315537897600000 : Int64)), .second, .val (.long og), .second, .val (.long kk), .second, .val (.long jj), .second, .unset, .unset, .unset, .unset, .unset, .unset, .unset, .unset, .unset, .unset, .unset, .unset, .unset, .unset, .unset, .unset, .unset] [(.ref a5), (.ref b3), (.ref b3)])) rfl (hb hby at_64) (n := 4) (by decide) (by decide) (by decide) (by decide)
  have Z7 : n0 ≤ h7.size := Nat.le_trans Z5 E7.1
  have O_8 : Old Z n0 h7 := (((O0.ext E3).ext E5).ext E7)
  obtain ⟨T9, X9, e9, st9⟩ := getS2 X7 hx hZ hown (host := "") (Or.inl (hw _ (List.mem_of_getElem? (i := 16) rfl))) Via.refl e7 (S_DEFAULT.ext O_8.2) (g := (mkF m 72 #[.val (.long qq1), .second, .val (.long qq2), .second, .val (.long qq3), .second, .val (.long qq4), .second, .val (.long qq5), .second, .val (.long rr), .second, .val (.long ss), .second, .val (.long (315537897600000 : Int64)), .second, .val (.long og), .second, .val (.long kk), .second, .val (.long jj), .second, .unset, .unset, .unset, .unset, .unset, .unset, .unset, .unset, .unset, .unset, .unset, .unset, .unset, .unset, .unset, .unset, .unset] [(.long og), (.long ss), (.long rr), (.ref a7), (.ref a5), (.ref b3), (.ref b3)])) rfl (hb hby at_72)
  have E_10 : Exa Z h7 b3 "com/example/corrente/corrente/TimeWindow" := ((A3.ext E5).ext E7)
  have F_11 : Fld Z h7 b3 "com/example/corrente/corrente/TimeWindow" "name" "Ljava/lang/String;" .null := ((F3_name.ext E5).ext E7)
  have F_12 : Fld Z h7 b3 "com/example/corrente/corrente/TimeWindow" "stream" "Ljava/lang/String;" .null := ((F3_stream.ext E5).ext E7)
  have F_13 : Fld Z h7 b3 "com/example/corrente/corrente/TimeWindow" "range" "J" (.long (0 : Int64)) := ((F3_range.ext E5).ext E7)
  have F_14 : Fld Z h7 b3 "com/example/corrente/corrente/TimeWindow" "step" "J" (.long (0 : Int64)) := ((F3_step.ext E5).ext E7)
  have F_15 : Fld Z h7 b3 "com/example/corrente/corrente/TimeWindow" "origin" "J" (.long (0 : Int64)) := ((F3_origin.ext E5).ext E7)
  have F_16 : Fld Z h7 b3 "com/example/corrente/corrente/TimeWindow" "report" "Lcom/example/corrente/corrente/ReportPolicy;" .null := ((F3_report.ext E5).ext E7)
  have F_17 : Fld Z h7 b3 "com/example/corrente/corrente/TimeWindow" "ontology" "Ljava/lang/String;" .null := ((F3_ontology.ext E5).ext E7)
  obtain ⟨_, _, ⟨T18, L18, k18, n18⟩, -, X18, ⟨Lc18, hQ18, l18, y18, z18⟩, st18⟩ := X9.specialBack hx (y := (⟨"com/example/corrente/corrente/TimeWindow", "<init>", "(Ljava/lang/String;Ljava/lang/String;JJJLcom/example/corrente/corrente/ReportPolicy;Ljava/lang/String;)V"⟩ : MethodName)) rfl hown (mvT hZ (hw _ (List.mem_of_getElem? (i := 19) rfl))) (mvT hZ (hw _ (List.mem_of_getElem? (i := 20) rfl))) (mvT hZ (hw _ (List.mem_of_getElem? (i := 21) rfl))) (by decide) (backOf (W := 1) (rm1 l Z a0 hw [] b3 a5 a7 rr ss og dd .null .null (.long (0 : Int64)) (.long (0 : Int64)) (.long (0 : Int64)) .null .null h7 n0 Z7 E_10 g_b3 F_11 F_12 F_13 F_14 F_15 F_16 F_17 (show ¬ rr < (1 : Int64) from own_ge1 h_rr.1) (show ¬ (316224000000000 : Int64) < rr from own_leL h_rr.2) (show ¬ ss < (1 : Int64) from own_ge1 h_ss.1) (show ¬ (316224000000000 : Int64) < ss from own_leL h_ss.2)) hZ (hw _ (List.mem_of_getElem? (i := 21) rfl)) (hw _ (List.mem_of_getElem? (i := 6) rfl)) (by decide) (by decide)) (g := (mkF m 76 #[.val (.long qq1), .second, .val (.long qq2), .second, .val (.long qq3), .second, .val (.long qq4), .second, .val (.long qq5), .second, .val (.long rr), .second, .val (.long ss), .second, .val (.long (315537897600000 : Int64)), .second, .val (.long og), .second, .val (.long kk), .second, .val (.long jj), .second, .unset, .unset, .unset, .unset, .unset, .unset, .unset, .unset, .unset, .unset, .unset, .unset, .unset, .unset, .unset, .unset, .unset] [.null, (.ref dd), (.long og), (.long ss), (.long rr), (.ref a7), (.ref a5), (.ref b3), (.ref b3)])) rfl (by rw [hml]; rfl) (Steps.refl _) (a := b3) (argsL := [(.ref a5), (.ref a7), (.long rr), (.long ss), (.long og), (.ref dd), .null]) (rest := [(.ref b3)]) (lenOf pd__28_Ljava_2f_lang_2f_String_3b_Ljava_2f_lang_2f_String_3b_JJJLcom_2f_example_2f_corrente_2f_corrente_2f_ReportPolicy_3b_Ljava_2f_lang_2f_String_3b__29_V rfl) rfl (by show 2 * 0 + _ ≤ _; exact Nat.le_of_eq rfl) (hb hby at_76) (fun _ _ => ⟨rfl, e9, (by decide : 5 + 0 ≤ _), (by decide : 23 + 0 ≤ _)⟩)
  dsimp only [Pt.U, Pt.locs, Pt.cells, Pt.slots] at X18 l18 y18 z18 st18 hQ18
  subst l18 y18 z18
  obtain ⟨rfl, N18q, K18c, R18_0, R18_1, R18_2, R18_3, R18_4, R18_5, R18_6⟩ := hQ18
  have N18 := Fr.app N0 N18q
  have Z18 : n0 ≤ T18.heap.size := Nat.le_trans Z7 K18c.1
  have kz18 := Nat.le_trans kz7 K18c.1
  have E_20 : Exa Z T18.heap b3 "com/example/corrente/corrente/TimeWindow" := (E_10.keep K18c)
  obtain ⟨cq19, kq19, q19a, q19b, q19c⟩ := isOf hZ rfl E_20
  obtain ⟨_, _, ⟨T19, L19, k19, n19⟩, -, X19, ⟨Lc19, hQ19, l19, y19, z19⟩, st19⟩ := X18.virtualBack hx (y := (⟨"com/example/corrente/corrente/TimeWindow", "start", "(J)J"⟩ : MethodName)) (z := (⟨"com/example/corrente/corrente/TimeWindow", "start", "(J)J"⟩ : MethodName)) hown (mvT hZ (hw _ (List.mem_of_getElem? (i := 45) rfl))) (mvT hZ (hw _ (List.mem_of_getElem? (i := 46) rfl))) (notFace_of_selects (args := #[]) (mvT hZ (hw _ (List.mem_of_getElem? (i := 48) rfl)))) (mvT hZ (hw _ (List.mem_of_getElem? (i := 48) rfl))) (mvT hZ (hw _ (List.mem_of_getElem? (i := 47) rfl))) (by decide) (backOf (W := 0) (rm4 l Z a0 hw [] b3 (0 : Int64) og ss rr T18.heap n0 Z18 R18_4 R18_3 R18_2) hZ (hw _ (List.mem_of_getElem? (i := 49) rfl)) (hw _ (List.mem_of_getElem? (i := 6) rfl)) (by decide) (by decide)) q19a q19c (g := (mkF m 84 #[.val (.long qq1), .second, .val (.long qq2), .second, .val (.long qq3), .second, .val (.long qq4), .second, .val (.long qq5), .second, .val (.long rr), .second, .val (.long ss), .second, .val (.long (315537897600000 : Int64)), .second, .val (.long og), .second, .val (.long kk), .second, .val (.long jj), .second, .val (.ref b3), .unset, .unset, .unset, .unset, .unset, .unset, .unset, .unset, .unset, .unset, .unset, .unset, .unset, .unset, .unset, .unset] [(.long (0 : Int64)), (.ref b3)])) rfl (by rw [hml]; rfl) (Steps.refl _) (argsL := [(.long (0 : Int64))]) (rest := []) (lenOf pd__28_J_29_J rfl) rfl (by show 2 * 0 + _ ≤ _; exact Nat.le_of_eq rfl) (hb hby at_84) (fun _ _ => ⟨rfl, rfl, (by decide : 5 + 0 ≤ _), (by decide : 23 + 0 ≤ _)⟩)
  dsimp only [Pt.U, Pt.locs, Pt.cells, Pt.slots] at X19 l19 y19 z19 st19 hQ19
  subst l19 y19 z19
  obtain ⟨rfl, N19q, e19⟩ := hQ19
  have N19 := Fr.app N18 N19q
  obtain ⟨cq21, kq21, q21a, q21b, q21c⟩ := isOf hZ e19 E_20
  obtain ⟨_, _, ⟨T21, L21, k21, n21⟩, -, X21, ⟨Lc21, hQ21, l21, y21, z21⟩, st21⟩ := X19.virtualBack hx (y := (⟨"com/example/corrente/corrente/TimeWindow", "start", "(J)J"⟩ : MethodName)) (z := (⟨"com/example/corrente/corrente/TimeWindow", "start", "(J)J"⟩ : MethodName)) hown (mvT hZ (hw _ (List.mem_of_getElem? (i := 45) rfl))) (mvT hZ (hw _ (List.mem_of_getElem? (i := 46) rfl))) (notFace_of_selects (args := #[]) (mvT hZ (hw _ (List.mem_of_getElem? (i := 48) rfl)))) (mvT hZ (hw _ (List.mem_of_getElem? (i := 48) rfl))) (mvT hZ (hw _ (List.mem_of_getElem? (i := 47) rfl))) (by decide) (backOf (W := 0) (rm4 l Z a0 hw [] b3 kk og ss rr T18.heap n0 Z18 R18_4 R18_3 R18_2) hZ (hw _ (List.mem_of_getElem? (i := 49) rfl)) (hw _ (List.mem_of_getElem? (i := 6) rfl)) (by decide) (by decide)) q21a q21c (g := (mkF m 93 #[.val (.long qq1), .second, .val (.long qq2), .second, .val (.long qq3), .second, .val (.long qq4), .second, .val (.long qq5), .second, .val (.long rr), .second, .val (.long ss), .second, .val (.long (315537897600000 : Int64)), .second, .val (.long og), .second, .val (.long kk), .second, .val (.long jj), .second, .val (.ref b3), .val (.long (og + ((0 : Int64) * ss))), .second, .unset, .unset, .unset, .unset, .unset, .unset, .unset, .unset, .unset, .unset, .unset, .unset, .unset, .unset] [(.long kk), (.ref b3)])) rfl (by rw [hml]; rfl) (Steps.refl _) (argsL := [(.long kk)]) (rest := []) (lenOf pd__28_J_29_J rfl) rfl (by show 2 * 0 + _ ≤ _; exact Nat.le_of_eq rfl) (hb hby at_93) (fun _ _ => ⟨rfl, e19, (by decide : 5 + 0 ≤ _), (by decide : 23 + 0 ≤ _)⟩)
  dsimp only [Pt.U, Pt.locs, Pt.cells, Pt.slots] at X21 l21 y21 z21 st21 hQ21
  subst l21 y21 z21
  obtain ⟨rfl, N21q, e21⟩ := hQ21
  have N21 := Fr.app N19 N21q
  obtain ⟨cq22, kq22, q22a, q22b, q22c⟩ := isOf hZ e21 E_20
  obtain ⟨_, _, ⟨T22, L22, k22, n22⟩, -, X22, ⟨Lc22, hQ22, l22, y22, z22⟩, st22⟩ := X21.virtualBack hx (y := (⟨"com/example/corrente/corrente/TimeWindow", "start", "(J)J"⟩ : MethodName)) (z := (⟨"com/example/corrente/corrente/TimeWindow", "start", "(J)J"⟩ : MethodName)) hown (mvT hZ (hw _ (List.mem_of_getElem? (i := 45) rfl))) (mvT hZ (hw _ (List.mem_of_getElem? (i := 46) rfl))) (notFace_of_selects (args := #[]) (mvT hZ (hw _ (List.mem_of_getElem? (i := 48) rfl)))) (mvT hZ (hw _ (List.mem_of_getElem? (i := 48) rfl))) (mvT hZ (hw _ (List.mem_of_getElem? (i := 47) rfl))) (by decide) (backOf (W := 0) (rm4 l Z a0 hw [] b3 (kk + (1 : Int64)) og ss rr T18.heap n0 Z18 R18_4 R18_3 R18_2) hZ (hw _ (List.mem_of_getElem? (i := 49) rfl)) (hw _ (List.mem_of_getElem? (i := 6) rfl)) (by decide) (by decide)) q22a q22c (g := (mkF m 104 #[.val (.long qq1), .second, .val (.long qq2), .second, .val (.long qq3), .second, .val (.long qq4), .second, .val (.long qq5), .second, .val (.long rr), .second, .val (.long ss), .second, .val (.long (315537897600000 : Int64)), .second, .val (.long og), .second, .val (.long kk), .second, .val (.long jj), .second, .val (.ref b3), .val (.long (og + ((0 : Int64) * ss))), .second, .val (.long (og + (kk * ss))), .second, .unset, .unset, .unset, .unset, .unset, .unset, .unset, .unset, .unset, .unset, .unset, .unset] [(.long (kk + (1 : Int64))), (.ref b3)])) rfl (by rw [hml]; rfl) (Steps.refl _) (argsL := [(.long (kk + (1 : Int64)))]) (rest := []) (lenOf pd__28_J_29_J rfl) rfl (by show 2 * 0 + _ ≤ _; exact Nat.le_of_eq rfl) (hb hby at_104) (fun _ _ => ⟨rfl, e21, (by decide : 5 + 0 ≤ _), (by decide : 23 + 0 ≤ _)⟩)
  dsimp only [Pt.U, Pt.locs, Pt.cells, Pt.slots] at X22 l22 y22 z22 st22 hQ22
  subst l22 y22 z22
  obtain ⟨rfl, N22q, e22⟩ := hQ22
  have N22 := Fr.app N21 N22q
  obtain ⟨cq23, kq23, q23a, q23b, q23c⟩ := isOf hZ e22 E_20
  obtain ⟨_, _, ⟨T23, L23, k23, n23⟩, -, X23, ⟨Lc23, hQ23, l23, y23, z23⟩, st23⟩ := X22.virtualBack hx (y := (⟨"com/example/corrente/corrente/TimeWindow", "start", "(J)J"⟩ : MethodName)) (z := (⟨"com/example/corrente/corrente/TimeWindow", "start", "(J)J"⟩ : MethodName)) hown (mvT hZ (hw _ (List.mem_of_getElem? (i := 45) rfl))) (mvT hZ (hw _ (List.mem_of_getElem? (i := 46) rfl))) (notFace_of_selects (args := #[]) (mvT hZ (hw _ (List.mem_of_getElem? (i := 48) rfl)))) (mvT hZ (hw _ (List.mem_of_getElem? (i := 48) rfl))) (mvT hZ (hw _ (List.mem_of_getElem? (i := 47) rfl))) (by decide) (backOf (W := 0) (rm4 l Z a0 hw [] b3 jj og ss rr T18.heap n0 Z18 R18_4 R18_3 R18_2) hZ (hw _ (List.mem_of_getElem? (i := 49) rfl)) (hw _ (List.mem_of_getElem? (i := 6) rfl)) (by decide) (by decide)) q23a q23c (g := (mkF m 113 #[.val (.long qq1), .second, .val (.long qq2), .second, .val (.long qq3), .second, .val (.long qq4), .second, .val (.long qq5), .second, .val (.long rr), .second, .val (.long ss), .second, .val (.long (315537897600000 : Int64)), .second, .val (.long og), .second, .val (.long kk), .second, .val (.long jj), .second, .val (.ref b3), .val (.long (og + ((0 : Int64) * ss))), .second, .val (.long (og + (kk * ss))), .second, .val (.long (og + ((kk + (1 : Int64)) * ss))), .second, .unset, .unset, .unset, .unset, .unset, .unset, .unset, .unset, .unset, .unset] [(.long jj), (.ref b3)])) rfl (by rw [hml]; rfl) (Steps.refl _) (argsL := [(.long jj)]) (rest := []) (lenOf pd__28_J_29_J rfl) rfl (by show 2 * 0 + _ ≤ _; exact Nat.le_of_eq rfl) (hb hby at_113) (fun _ _ => ⟨rfl, e22, (by decide : 5 + 0 ≤ _), (by decide : 23 + 0 ≤ _)⟩)
  dsimp only [Pt.U, Pt.locs, Pt.cells, Pt.slots] at X23 l23 y23 z23 st23 hQ23
  subst l23 y23 z23
  obtain ⟨rfl, N23q, e23⟩ := hQ23
  have N23 := Fr.app N22 N23q
  obtain ⟨cq24, kq24, q24a, q24b, q24c⟩ := isOf hZ e23 E_20
  obtain ⟨_, _, ⟨T24, L24, k24, n24⟩, -, X24, ⟨Lc24, hQ24, l24, y24, z24⟩, st24⟩ := X23.virtualBack hx (y := (⟨"com/example/corrente/corrente/TimeWindow", "start", "(J)J"⟩ : MethodName)) (z := (⟨"com/example/corrente/corrente/TimeWindow", "start", "(J)J"⟩ : MethodName)) hown (mvT hZ (hw _ (List.mem_of_getElem? (i := 45) rfl))) (mvT hZ (hw _ (List.mem_of_getElem? (i := 46) rfl))) (notFace_of_selects (args := #[]) (mvT hZ (hw _ (List.mem_of_getElem? (i := 48) rfl)))) (mvT hZ (hw _ (List.mem_of_getElem? (i := 48) rfl))) (mvT hZ (hw _ (List.mem_of_getElem? (i := 47) rfl))) (by decide) (backOf (W := 0) (rm4 l Z a0 hw [] b3 (kk + jj) og ss rr T18.heap n0 Z18 R18_4 R18_3 R18_2) hZ (hw _ (List.mem_of_getElem? (i := 49) rfl)) (hw _ (List.mem_of_getElem? (i := 6) rfl)) (by decide) (by decide)) q24a q24c (g := (mkF m 125 #[.val (.long qq1), .second, .val (.long qq2), .second, .val (.long qq3), .second, .val (.long qq4), .second, .val (.long qq5), .second, .val (.long rr), .second, .val (.long ss), .second, .val (.long (315537897600000 : Int64)), .second, .val (.long og), .second, .val (.long kk), .second, .val (.long jj), .second, .val (.ref b3), .val (.long (og + ((0 : Int64) * ss))), .second, .val (.long (og + (kk * ss))), .second, .val (.long (og + ((kk + (1 : Int64)) * ss))), .second, .val (.long (og + (jj * ss))), .second, .unset, .unset, .unset, .unset, .unset, .unset, .unset, .unset] [(.long (kk + jj)), (.ref b3)])) rfl (by rw [hml]; rfl) (Steps.refl _) (argsL := [(.long (kk + jj))]) (rest := []) (lenOf pd__28_J_29_J rfl) rfl (by show 2 * 0 + _ ≤ _; exact Nat.le_of_eq rfl) (hb hby at_125) (fun _ _ => ⟨rfl, e23, (by decide : 5 + 0 ≤ _), (by decide : 23 + 0 ≤ _)⟩)
  dsimp only [Pt.U, Pt.locs, Pt.cells, Pt.slots] at X24 l24 y24 z24 st24 hQ24
  subst l24 y24 z24
  obtain ⟨rfl, N24q, e24⟩ := hQ24
  have N24 := Fr.app N23 N24q
  obtain ⟨cq25, kq25, q25a, q25b, q25c⟩ := isOf hZ e24 E_20
  obtain ⟨_, _, ⟨T25, L25, k25, n25⟩, -, X25, ⟨Lc25, hQ25, l25, y25, z25⟩, st25⟩ := X24.virtualBack hx (y := (⟨"com/example/corrente/corrente/TimeWindow", "close", "(J)J"⟩ : MethodName)) (z := (⟨"com/example/corrente/corrente/TimeWindow", "close", "(J)J"⟩ : MethodName)) hown (mvT hZ (hw _ (List.mem_of_getElem? (i := 50) rfl))) (mvT hZ (hw _ (List.mem_of_getElem? (i := 51) rfl))) (notFace_of_selects (args := #[]) (mvT hZ (hw _ (List.mem_of_getElem? (i := 53) rfl)))) (mvT hZ (hw _ (List.mem_of_getElem? (i := 53) rfl))) (mvT hZ (hw _ (List.mem_of_getElem? (i := 52) rfl))) (by decide) (backOf (W := 0) (rm5 l Z a0 hw [] b3 kk og ss rr T18.heap n0 Z18 R18_4 R18_3 R18_2) hZ (hw _ (List.mem_of_getElem? (i := 54) rfl)) (hw _ (List.mem_of_getElem? (i := 6) rfl)) (by decide) (by decide)) q25a q25c (g := (mkF m 134 #[.val (.long qq1), .second, .val (.long qq2), .second, .val (.long qq3), .second, .val (.long qq4), .second, .val (.long qq5), .second, .val (.long rr), .second, .val (.long ss), .second, .val (.long (315537897600000 : Int64)), .second, .val (.long og), .second, .val (.long kk), .second, .val (.long jj), .second, .val (.ref b3), .val (.long (og + ((0 : Int64) * ss))), .second, .val (.long (og + (kk * ss))), .second, .val (.long (og + ((kk + (1 : Int64)) * ss))), .second, .val (.long (og + (jj * ss))), .second, .val (.long (og + ((kk + jj) * ss))), .second, .unset, .unset, .unset, .unset, .unset, .unset] [(.long kk), (.ref b3)])) rfl (by rw [hml]; rfl) (Steps.refl _) (argsL := [(.long kk)]) (rest := []) (lenOf pd__28_J_29_J rfl) rfl (by show 2 * 0 + _ ≤ _; exact Nat.le_of_eq rfl) (hb hby at_134) (fun _ _ => ⟨rfl, e24, (by decide : 5 + 0 ≤ _), (by decide : 23 + 0 ≤ _)⟩)
  dsimp only [Pt.U, Pt.locs, Pt.cells, Pt.slots] at X25 l25 y25 z25 st25 hQ25
  subst l25 y25 z25
  obtain ⟨rfl, N25q, e25⟩ := hQ25
  have N25 := Fr.app N24 N25q
  have hc144 : (og + ((0 : Int64) * ss)) = og := own_first _ _
  have hc162 : ((og + ((kk + (1 : Int64)) * ss)) - (og + (kk * ss))) = ss := own_step _ _ _
  have hc183 : (og + ((kk + jj) * ss)) = (((og + (kk * ss)) + (og + (jj * ss))) - og) := own_aff _ _ _ _
  have hc201 : (((og + (kk * ss)) + rr) - (og + (kk * ss))) = rr := own_wid _ _
  have hc213 : ¬ ((1 : Int32) = (0 : Int32)) := by decide
  have hc218 : ¬ ((1 : Int32) = (0 : Int32)) := by decide
  have hc223 : ¬ ((1 : Int32) = (0 : Int32)) := by decide
  have hc228 : ¬ ((1 : Int32) = (0 : Int32)) := by decide
  obtain ⟨fs, hr, hrun, hended, qe1, qe2, qe3, qe4⟩ := Stand.leaveW (s := s) (vm₁ := T7.vm) X25 hS7 (by rw [e25]; exact kz18) (v := some (.int (1 : Int32))) (fun h => by rw [Bd.returns] at h; cases h)
  refine ⟨_, _, pre6 _ ?_, hrun, hended, _, _, rfl, ?_, qe1, qe2, qe3, qe4.mono (by decide) (by decide)⟩
  · show Steps p.tables e below (T5.setTop (mkF m 64 #[.val (.long qq1), .second, .val (.long qq2), .second, .val (.long qq3), .second, .val (.long qq4), .second, .val (.long qq5), .second, .val (.long rr), .second, .val (.long ss), .second, .val (.long (315537897600000 : Int64)), .second, .val (.long og), .second, .val (.long kk), .second, .val (.long jj), .second, .unset, .unset, .unset, .unset, .unset, .unset, .unset, .unset, .unset, .unset, .unset, .unset, .unset, .unset, .unset, .unset, .unset] [(.ref a5), (.ref b3), (.ref b3)])) _
    refine st7 _ ?_
    show Steps p.tables e below (T7.setTop (mkF m 66 #[.val (.long qq1), .second, .val (.long qq2), .second, .val (.long qq3), .second, .val (.long qq4), .second, .val (.long qq5), .second, .val (.long rr), .second, .val (.long ss), .second, .val (.long (315537897600000 : Int64)), .second, .val (.long og), .second, .val (.long kk), .second, .val (.long jj), .second, .unset, .unset, .unset, .unset, .unset, .unset, .unset, .unset, .unset, .unset, .unset, .unset, .unset, .unset, .unset, .unset, .unset] [(.ref a7), (.ref a5), (.ref b3), (.ref b3)])) _
    refine XS.lload X7.here hx rfl (hb hby at_66) rfl ?_
    show Steps p.tables e below (T7.setTop (mkF m 68 #[.val (.long qq1), .second, .val (.long qq2), .second, .val (.long qq3), .second, .val (.long qq4), .second, .val (.long qq5), .second, .val (.long rr), .second, .val (.long ss), .second, .val (.long (315537897600000 : Int64)), .second, .val (.long og), .second, .val (.long kk), .second, .val (.long jj), .second, .unset, .unset, .unset, .unset, .unset, .unset, .unset, .unset, .unset, .unset, .unset, .unset, .unset, .unset, .unset, .unset, .unset] [(.long rr), (.ref a7), (.ref a5), (.ref b3), (.ref b3)])) _
    refine XS.lload X7.here hx rfl (hb hby at_68) rfl ?_
    show Steps p.tables e below (T7.setTop (mkF m 70 #[.val (.long qq1), .second, .val (.long qq2), .second, .val (.long qq3), .second, .val (.long qq4), .second, .val (.long qq5), .second, .val (.long rr), .second, .val (.long ss), .second, .val (.long (315537897600000 : Int64)), .second, .val (.long og), .second, .val (.long kk), .second, .val (.long jj), .second, .unset, .unset, .unset, .unset, .unset, .unset, .unset, .unset, .unset, .unset, .unset, .unset, .unset, .unset, .unset, .unset, .unset] [(.long ss), (.long rr), (.ref a7), (.ref a5), (.ref b3), (.ref b3)])) _
    refine XS.lload X7.here hx rfl (hb hby at_70) rfl ?_
    show Steps p.tables e below (T7.setTop (mkF m 72 #[.val (.long qq1), .second, .val (.long qq2), .second, .val (.long qq3), .second, .val (.long qq4), .second, .val (.long qq5), .second, .val (.long rr), .second, .val (.long ss), .second, .val (.long (315537897600000 : Int64)), .second, .val (.long og), .second, .val (.long kk), .second, .val (.long jj), .second, .unset, .unset, .unset, .unset, .unset, .unset, .unset, .unset, .unset, .unset, .unset, .unset, .unset, .unset, .unset, .unset, .unset] [(.long og), (.long ss), (.long rr), (.ref a7), (.ref a5), (.ref b3), (.ref b3)])) _
    refine st9 _ ?_
    show Steps p.tables e below (T9.setTop (mkF m 75 #[.val (.long qq1), .second, .val (.long qq2), .second, .val (.long qq3), .second, .val (.long qq4), .second, .val (.long qq5), .second, .val (.long rr), .second, .val (.long ss), .second, .val (.long (315537897600000 : Int64)), .second, .val (.long og), .second, .val (.long kk), .second, .val (.long jj), .second, .unset, .unset, .unset, .unset, .unset, .unset, .unset, .unset, .unset, .unset, .unset, .unset, .unset, .unset, .unset, .unset, .unset] [(.ref dd), (.long og), (.long ss), (.long rr), (.ref a7), (.ref a5), (.ref b3), (.ref b3)])) _
    refine XS.aconstNull X9.here hx rfl (hb hby at_75) ?_
    show Steps p.tables e below (T9.setTop (mkF m 76 #[.val (.long qq1), .second, .val (.long qq2), .second, .val (.long qq3), .second, .val (.long qq4), .second, .val (.long qq5), .second, .val (.long rr), .second, .val (.long ss), .second, .val (.long (315537897600000 : Int64)), .second, .val (.long og), .second, .val (.long kk), .second, .val (.long jj), .second, .unset, .unset, .unset, .unset, .unset, .unset, .unset, .unset, .unset, .unset, .unset, .unset, .unset, .unset, .unset, .unset, .unset] [.null, (.ref dd), (.long og), (.long ss), (.long rr), (.ref a7), (.ref a5), (.ref b3), (.ref b3)])) _
    refine st18.trans ?_
    show Steps p.tables e below (T18.setTop (mkF m 79 #[.val (.long qq1), .second, .val (.long qq2), .second, .val (.long qq3), .second, .val (.long qq4), .second, .val (.long qq5), .second, .val (.long rr), .second, .val (.long ss), .second, .val (.long (315537897600000 : Int64)), .second, .val (.long og), .second, .val (.long kk), .second, .val (.long jj), .second, .unset, .unset, .unset, .unset, .unset, .unset, .unset, .unset, .unset, .unset, .unset, .unset, .unset, .unset, .unset, .unset, .unset] [(.ref b3)])) _
    refine XS.astore X18.here hx rfl (hb hby at_79) rfl rfl (l' := #[.val (.long qq1), .second, .val (.long qq2), .second, .val (.long qq3), .second, .val (.long qq4), .second, .val (.long qq5), .second, .val (.long rr), .second, .val (.long ss), .second, .val (.long (315537897600000 : Int64)), .second, .val (.long og), .second, .val (.long kk), .second, .val (.long jj), .second, .val (.ref b3), .unset, .unset, .unset, .unset, .unset, .unset, .unset, .unset, .unset, .unset, .unset, .unset, .unset, .unset, .unset, .unset]) rfl ?_
    show Steps p.tables e below (T18.setTop (mkF m 81 #[.val (.long qq1), .second, .val (.long qq2), .second, .val (.long qq3), .second, .val (.long qq4), .second, .val (.long qq5), .second, .val (.long rr), .second, .val (.long ss), .second, .val (.long (315537897600000 : Int64)), .second, .val (.long og), .second, .val (.long kk), .second, .val (.long jj), .second, .val (.ref b3), .unset, .unset, .unset, .unset, .unset, .unset, .unset, .unset, .unset, .unset, .unset, .unset, .unset, .unset, .unset, .unset] [])) _
    refine XS.aload X18.here hx rfl (hb hby at_81) rfl rfl ?_
    show Steps p.tables e below (T18.setTop (mkF m 83 #[.val (.long qq1), .second, .val (.long qq2), .second, .val (.long qq3), .second, .val (.long qq4), .second, .val (.long qq5), .second, .val (.long rr), .second, .val (.long ss), .second, .val (.long (315537897600000 : Int64)), .second, .val (.long og), .second, .val (.long kk), .second, .val (.long jj), .second, .val (.ref b3), .unset, .unset, .unset, .unset, .unset, .unset, .unset, .unset, .unset, .unset, .unset, .unset, .unset, .unset, .unset, .unset] [(.ref b3)])) _
    refine XS.lconst X18.here hx rfl (hb hby at_83) ?_
    show Steps p.tables e below (T18.setTop (mkF m 84 #[.val (.long qq1), .second, .val (.long qq2), .second, .val (.long qq3), .second, .val (.long qq4), .second, .val (.long qq5), .second, .val (.long rr), .second, .val (.long ss), .second, .val (.long (315537897600000 : Int64)), .second, .val (.long og), .second, .val (.long kk), .second, .val (.long jj), .second, .val (.ref b3), .unset, .unset, .unset, .unset, .unset, .unset, .unset, .unset, .unset, .unset, .unset, .unset, .unset, .unset, .unset, .unset] [(.long (0 : Int64)), (.ref b3)])) _
    refine st19.trans ?_
    show Steps p.tables e below (T19.setTop (mkF m 87 #[.val (.long qq1), .second, .val (.long qq2), .second, .val (.long qq3), .second, .val (.long qq4), .second, .val (.long qq5), .second, .val (.long rr), .second, .val (.long ss), .second, .val (.long (315537897600000 : Int64)), .second, .val (.long og), .second, .val (.long kk), .second, .val (.long jj), .second, .val (.ref b3), .unset, .unset, .unset, .unset, .unset, .unset, .unset, .unset, .unset, .unset, .unset, .unset, .unset, .unset, .unset, .unset] [(.long (og + ((0 : Int64) * ss)))])) _
    refine XS.lstore X19.here hx rfl (hb hby at_87) rfl (l' := #[.val (.long qq1), .second, .val (.long qq2), .second, .val (.long qq3), .second, .val (.long qq4), .second, .val (.long qq5), .second, .val (.long rr), .second, .val (.long ss), .second, .val (.long (315537897600000 : Int64)), .second, .val (.long og), .second, .val (.long kk), .second, .val (.long jj), .second, .val (.ref b3), .val (.long (og + ((0 : Int64) * ss))), .second, .unset, .unset, .unset, .unset, .unset, .unset, .unset, .unset, .unset, .unset, .unset, .unset, .unset, .unset]) rfl ?_
    show Steps p.tables e below (T19.setTop (mkF m 89 #[.val (.long qq1), .second, .val (.long qq2), .second, .val (.long qq3), .second, .val (.long qq4), .second, .val (.long qq5), .second, .val (.long rr), .second, .val (.long ss), .second, .val (.long (315537897600000 : Int64)), .second, .val (.long og), .second, .val (.long kk), .second, .val (.long jj), .second, .val (.ref b3), .val (.long (og + ((0 : Int64) * ss))), .second, .unset, .unset, .unset, .unset, .unset, .unset, .unset, .unset, .unset, .unset, .unset, .unset, .unset, .unset] [])) _
    refine XS.aload X19.here hx rfl (hb hby at_89) rfl rfl ?_
    show Steps p.tables e below (T19.setTop (mkF m 91 #[.val (.long qq1), .second, .val (.long qq2), .second, .val (.long qq3), .second, .val (.long qq4), .second, .val (.long qq5), .second, .val (.long rr), .second, .val (.long ss), .second, .val (.long (315537897600000 : Int64)), .second, .val (.long og), .second, .val (.long kk), .second, .val (.long jj), .second, .val (.ref b3), .val (.long (og + ((0 : Int64) * ss))), .second, .unset, .unset, .unset, .unset, .unset, .unset, .unset, .unset, .unset, .unset, .unset, .unset, .unset, .unset] [(.ref b3)])) _
    refine XS.lload X19.here hx rfl (hb hby at_91) rfl ?_
    show Steps p.tables e below (T19.setTop (mkF m 93 #[.val (.long qq1), .second, .val (.long qq2), .second, .val (.long qq3), .second, .val (.long qq4), .second, .val (.long qq5), .second, .val (.long rr), .second, .val (.long ss), .second, .val (.long (315537897600000 : Int64)), .second, .val (.long og), .second, .val (.long kk), .second, .val (.long jj), .second, .val (.ref b3), .val (.long (og + ((0 : Int64) * ss))), .second, .unset, .unset, .unset, .unset, .unset, .unset, .unset, .unset, .unset, .unset, .unset, .unset, .unset, .unset] [(.long kk), (.ref b3)])) _
    refine st21.trans ?_
    show Steps p.tables e below (T21.setTop (mkF m 96 #[.val (.long qq1), .second, .val (.long qq2), .second, .val (.long qq3), .second, .val (.long qq4), .second, .val (.long qq5), .second, .val (.long rr), .second, .val (.long ss), .second, .val (.long (315537897600000 : Int64)), .second, .val (.long og), .second, .val (.long kk), .second, .val (.long jj), .second, .val (.ref b3), .val (.long (og + ((0 : Int64) * ss))), .second, .unset, .unset, .unset, .unset, .unset, .unset, .unset, .unset, .unset, .unset, .unset, .unset, .unset, .unset] [(.long (og + (kk * ss)))])) _
    refine XS.lstore X21.here hx rfl (hb hby at_96) rfl (l' := #[.val (.long qq1), .second, .val (.long qq2), .second, .val (.long qq3), .second, .val (.long qq4), .second, .val (.long qq5), .second, .val (.long rr), .second, .val (.long ss), .second, .val (.long (315537897600000 : Int64)), .second, .val (.long og), .second, .val (.long kk), .second, .val (.long jj), .second, .val (.ref b3), .val (.long (og + ((0 : Int64) * ss))), .second, .val (.long (og + (kk * ss))), .second, .unset, .unset, .unset, .unset, .unset, .unset, .unset, .unset, .unset, .unset, .unset, .unset]) rfl ?_
    show Steps p.tables e below (T21.setTop (mkF m 98 #[.val (.long qq1), .second, .val (.long qq2), .second, .val (.long qq3), .second, .val (.long qq4), .second, .val (.long qq5), .second, .val (.long rr), .second, .val (.long ss), .second, .val (.long (315537897600000 : Int64)), .second, .val (.long og), .second, .val (.long kk), .second, .val (.long jj), .second, .val (.ref b3), .val (.long (og + ((0 : Int64) * ss))), .second, .val (.long (og + (kk * ss))), .second, .unset, .unset, .unset, .unset, .unset, .unset, .unset, .unset, .unset, .unset, .unset, .unset] [])) _
    refine XS.aload X21.here hx rfl (hb hby at_98) rfl rfl ?_
    show Steps p.tables e below (T21.setTop (mkF m 100 #[.val (.long qq1), .second, .val (.long qq2), .second, .val (.long qq3), .second, .val (.long qq4), .second, .val (.long qq5), .second, .val (.long rr), .second, .val (.long ss), .second, .val (.long (315537897600000 : Int64)), .second, .val (.long og), .second, .val (.long kk), .second, .val (.long jj), .second, .val (.ref b3), .val (.long (og + ((0 : Int64) * ss))), .second, .val (.long (og + (kk * ss))), .second, .unset, .unset, .unset, .unset, .unset, .unset, .unset, .unset, .unset, .unset, .unset, .unset] [(.ref b3)])) _
    refine XS.lload X21.here hx rfl (hb hby at_100) rfl ?_
    show Steps p.tables e below (T21.setTop (mkF m 102 #[.val (.long qq1), .second, .val (.long qq2), .second, .val (.long qq3), .second, .val (.long qq4), .second, .val (.long qq5), .second, .val (.long rr), .second, .val (.long ss), .second, .val (.long (315537897600000 : Int64)), .second, .val (.long og), .second, .val (.long kk), .second, .val (.long jj), .second, .val (.ref b3), .val (.long (og + ((0 : Int64) * ss))), .second, .val (.long (og + (kk * ss))), .second, .unset, .unset, .unset, .unset, .unset, .unset, .unset, .unset, .unset, .unset, .unset, .unset] [(.long kk), (.ref b3)])) _
    refine XS.lconst X21.here hx rfl (hb hby at_102) ?_
    show Steps p.tables e below (T21.setTop (mkF m 103 #[.val (.long qq1), .second, .val (.long qq2), .second, .val (.long qq3), .second, .val (.long qq4), .second, .val (.long qq5), .second, .val (.long rr), .second, .val (.long ss), .second, .val (.long (315537897600000 : Int64)), .second, .val (.long og), .second, .val (.long kk), .second, .val (.long jj), .second, .val (.ref b3), .val (.long (og + ((0 : Int64) * ss))), .second, .val (.long (og + (kk * ss))), .second, .unset, .unset, .unset, .unset, .unset, .unset, .unset, .unset, .unset, .unset, .unset, .unset] [(.long (1 : Int64)), (.long kk), (.ref b3)])) _
    refine XS.ladd X21.here hx rfl (hb hby at_103) rfl ?_
    show Steps p.tables e below (T21.setTop (mkF m 104 #[.val (.long qq1), .second, .val (.long qq2), .second, .val (.long qq3), .second, .val (.long qq4), .second, .val (.long qq5), .second, .val (.long rr), .second, .val (.long ss), .second, .val (.long (315537897600000 : Int64)), .second, .val (.long og), .second, .val (.long kk), .second, .val (.long jj), .second, .val (.ref b3), .val (.long (og + ((0 : Int64) * ss))), .second, .val (.long (og + (kk * ss))), .second, .unset, .unset, .unset, .unset, .unset, .unset, .unset, .unset, .unset, .unset, .unset, .unset] [(.long (kk + (1 : Int64))), (.ref b3)])) _
    refine st22.trans ?_
    show Steps p.tables e below (T22.setTop (mkF m 107 #[.val (.long qq1), .second, .val (.long qq2), .second, .val (.long qq3), .second, .val (.long qq4), .second, .val (.long qq5), .second, .val (.long rr), .second, .val (.long ss), .second, .val (.long (315537897600000 : Int64)), .second, .val (.long og), .second, .val (.long kk), .second, .val (.long jj), .second, .val (.ref b3), .val (.long (og + ((0 : Int64) * ss))), .second, .val (.long (og + (kk * ss))), .second, .unset, .unset, .unset, .unset, .unset, .unset, .unset, .unset, .unset, .unset, .unset, .unset] [(.long (og + ((kk + (1 : Int64)) * ss)))])) _
    refine XS.lstore X22.here hx rfl (hb hby at_107) rfl (l' := #[.val (.long qq1), .second, .val (.long qq2), .second, .val (.long qq3), .second, .val (.long qq4), .second, .val (.long qq5), .second, .val (.long rr), .second, .val (.long ss), .second, .val (.long (315537897600000 : Int64)), .second, .val (.long og), .second, .val (.long kk), .second, .val (.long jj), .second, .val (.ref b3), .val (.long (og + ((0 : Int64) * ss))), .second, .val (.long (og + (kk * ss))), .second, .val (.long (og + ((kk + (1 : Int64)) * ss))), .second, .unset, .unset, .unset, .unset, .unset, .unset, .unset, .unset, .unset, .unset]) rfl ?_
    show Steps p.tables e below (T22.setTop (mkF m 109 #[.val (.long qq1), .second, .val (.long qq2), .second, .val (.long qq3), .second, .val (.long qq4), .second, .val (.long qq5), .second, .val (.long rr), .second, .val (.long ss), .second, .val (.long (315537897600000 : Int64)), .second, .val (.long og), .second, .val (.long kk), .second, .val (.long jj), .second, .val (.ref b3), .val (.long (og + ((0 : Int64) * ss))), .second, .val (.long (og + (kk * ss))), .second, .val (.long (og + ((kk + (1 : Int64)) * ss))), .second, .unset, .unset, .unset, .unset, .unset, .unset, .unset, .unset, .unset, .unset] [])) _
    refine XS.aload X22.here hx rfl (hb hby at_109) rfl rfl ?_
    show Steps p.tables e below (T22.setTop (mkF m 111 #[.val (.long qq1), .second, .val (.long qq2), .second, .val (.long qq3), .second, .val (.long qq4), .second, .val (.long qq5), .second, .val (.long rr), .second, .val (.long ss), .second, .val (.long (315537897600000 : Int64)), .second, .val (.long og), .second, .val (.long kk), .second, .val (.long jj), .second, .val (.ref b3), .val (.long (og + ((0 : Int64) * ss))), .second, .val (.long (og + (kk * ss))), .second, .val (.long (og + ((kk + (1 : Int64)) * ss))), .second, .unset, .unset, .unset, .unset, .unset, .unset, .unset, .unset, .unset, .unset] [(.ref b3)])) _
    refine XS.lload X22.here hx rfl (hb hby at_111) rfl ?_
    show Steps p.tables e below (T22.setTop (mkF m 113 #[.val (.long qq1), .second, .val (.long qq2), .second, .val (.long qq3), .second, .val (.long qq4), .second, .val (.long qq5), .second, .val (.long rr), .second, .val (.long ss), .second, .val (.long (315537897600000 : Int64)), .second, .val (.long og), .second, .val (.long kk), .second, .val (.long jj), .second, .val (.ref b3), .val (.long (og + ((0 : Int64) * ss))), .second, .val (.long (og + (kk * ss))), .second, .val (.long (og + ((kk + (1 : Int64)) * ss))), .second, .unset, .unset, .unset, .unset, .unset, .unset, .unset, .unset, .unset, .unset] [(.long jj), (.ref b3)])) _
    refine st23.trans ?_
    show Steps p.tables e below (T23.setTop (mkF m 116 #[.val (.long qq1), .second, .val (.long qq2), .second, .val (.long qq3), .second, .val (.long qq4), .second, .val (.long qq5), .second, .val (.long rr), .second, .val (.long ss), .second, .val (.long (315537897600000 : Int64)), .second, .val (.long og), .second, .val (.long kk), .second, .val (.long jj), .second, .val (.ref b3), .val (.long (og + ((0 : Int64) * ss))), .second, .val (.long (og + (kk * ss))), .second, .val (.long (og + ((kk + (1 : Int64)) * ss))), .second, .unset, .unset, .unset, .unset, .unset, .unset, .unset, .unset, .unset, .unset] [(.long (og + (jj * ss)))])) _
    refine XS.lstore X23.here hx rfl (hb hby at_116) rfl (l' := #[.val (.long qq1), .second, .val (.long qq2), .second, .val (.long qq3), .second, .val (.long qq4), .second, .val (.long qq5), .second, .val (.long rr), .second, .val (.long ss), .second, .val (.long (315537897600000 : Int64)), .second, .val (.long og), .second, .val (.long kk), .second, .val (.long jj), .second, .val (.ref b3), .val (.long (og + ((0 : Int64) * ss))), .second, .val (.long (og + (kk * ss))), .second, .val (.long (og + ((kk + (1 : Int64)) * ss))), .second, .val (.long (og + (jj * ss))), .second, .unset, .unset, .unset, .unset, .unset, .unset, .unset, .unset]) rfl ?_
    show Steps p.tables e below (T23.setTop (mkF m 118 #[.val (.long qq1), .second, .val (.long qq2), .second, .val (.long qq3), .second, .val (.long qq4), .second, .val (.long qq5), .second, .val (.long rr), .second, .val (.long ss), .second, .val (.long (315537897600000 : Int64)), .second, .val (.long og), .second, .val (.long kk), .second, .val (.long jj), .second, .val (.ref b3), .val (.long (og + ((0 : Int64) * ss))), .second, .val (.long (og + (kk * ss))), .second, .val (.long (og + ((kk + (1 : Int64)) * ss))), .second, .val (.long (og + (jj * ss))), .second, .unset, .unset, .unset, .unset, .unset, .unset, .unset, .unset] [])) _
    refine XS.aload X23.here hx rfl (hb hby at_118) rfl rfl ?_
    show Steps p.tables e below (T23.setTop (mkF m 120 #[.val (.long qq1), .second, .val (.long qq2), .second, .val (.long qq3), .second, .val (.long qq4), .second, .val (.long qq5), .second, .val (.long rr), .second, .val (.long ss), .second, .val (.long (315537897600000 : Int64)), .second, .val (.long og), .second, .val (.long kk), .second, .val (.long jj), .second, .val (.ref b3), .val (.long (og + ((0 : Int64) * ss))), .second, .val (.long (og + (kk * ss))), .second, .val (.long (og + ((kk + (1 : Int64)) * ss))), .second, .val (.long (og + (jj * ss))), .second, .unset, .unset, .unset, .unset, .unset, .unset, .unset, .unset] [(.ref b3)])) _
    refine XS.lload X23.here hx rfl (hb hby at_120) rfl ?_
    show Steps p.tables e below (T23.setTop (mkF m 122 #[.val (.long qq1), .second, .val (.long qq2), .second, .val (.long qq3), .second, .val (.long qq4), .second, .val (.long qq5), .second, .val (.long rr), .second, .val (.long ss), .second, .val (.long (315537897600000 : Int64)), .second, .val (.long og), .second, .val (.long kk), .second, .val (.long jj), .second, .val (.ref b3), .val (.long (og + ((0 : Int64) * ss))), .second, .val (.long (og + (kk * ss))), .second, .val (.long (og + ((kk + (1 : Int64)) * ss))), .second, .val (.long (og + (jj * ss))), .second, .unset, .unset, .unset, .unset, .unset, .unset, .unset, .unset] [(.long kk), (.ref b3)])) _
    refine XS.lload X23.here hx rfl (hb hby at_122) rfl ?_
    show Steps p.tables e below (T23.setTop (mkF m 124 #[.val (.long qq1), .second, .val (.long qq2), .second, .val (.long qq3), .second, .val (.long qq4), .second, .val (.long qq5), .second, .val (.long rr), .second, .val (.long ss), .second, .val (.long (315537897600000 : Int64)), .second, .val (.long og), .second, .val (.long kk), .second, .val (.long jj), .second, .val (.ref b3), .val (.long (og + ((0 : Int64) * ss))), .second, .val (.long (og + (kk * ss))), .second, .val (.long (og + ((kk + (1 : Int64)) * ss))), .second, .val (.long (og + (jj * ss))), .second, .unset, .unset, .unset, .unset, .unset, .unset, .unset, .unset] [(.long jj), (.long kk), (.ref b3)])) _
    refine XS.ladd X23.here hx rfl (hb hby at_124) rfl ?_
    show Steps p.tables e below (T23.setTop (mkF m 125 #[.val (.long qq1), .second, .val (.long qq2), .second, .val (.long qq3), .second, .val (.long qq4), .second, .val (.long qq5), .second, .val (.long rr), .second, .val (.long ss), .second, .val (.long (315537897600000 : Int64)), .second, .val (.long og), .second, .val (.long kk), .second, .val (.long jj), .second, .val (.ref b3), .val (.long (og + ((0 : Int64) * ss))), .second, .val (.long (og + (kk * ss))), .second, .val (.long (og + ((kk + (1 : Int64)) * ss))), .second, .val (.long (og + (jj * ss))), .second, .unset, .unset, .unset, .unset, .unset, .unset, .unset, .unset] [(.long (kk + jj)), (.ref b3)])) _
    refine st24.trans ?_
    show Steps p.tables e below (T24.setTop (mkF m 128 #[.val (.long qq1), .second, .val (.long qq2), .second, .val (.long qq3), .second, .val (.long qq4), .second, .val (.long qq5), .second, .val (.long rr), .second, .val (.long ss), .second, .val (.long (315537897600000 : Int64)), .second, .val (.long og), .second, .val (.long kk), .second, .val (.long jj), .second, .val (.ref b3), .val (.long (og + ((0 : Int64) * ss))), .second, .val (.long (og + (kk * ss))), .second, .val (.long (og + ((kk + (1 : Int64)) * ss))), .second, .val (.long (og + (jj * ss))), .second, .unset, .unset, .unset, .unset, .unset, .unset, .unset, .unset] [(.long (og + ((kk + jj) * ss)))])) _
    refine XS.lstore X24.here hx rfl (hb hby at_128) rfl (l' := #[.val (.long qq1), .second, .val (.long qq2), .second, .val (.long qq3), .second, .val (.long qq4), .second, .val (.long qq5), .second, .val (.long rr), .second, .val (.long ss), .second, .val (.long (315537897600000 : Int64)), .second, .val (.long og), .second, .val (.long kk), .second, .val (.long jj), .second, .val (.ref b3), .val (.long (og + ((0 : Int64) * ss))), .second, .val (.long (og + (kk * ss))), .second, .val (.long (og + ((kk + (1 : Int64)) * ss))), .second, .val (.long (og + (jj * ss))), .second, .val (.long (og + ((kk + jj) * ss))), .second, .unset, .unset, .unset, .unset, .unset, .unset]) rfl ?_
    show Steps p.tables e below (T24.setTop (mkF m 130 #[.val (.long qq1), .second, .val (.long qq2), .second, .val (.long qq3), .second, .val (.long qq4), .second, .val (.long qq5), .second, .val (.long rr), .second, .val (.long ss), .second, .val (.long (315537897600000 : Int64)), .second, .val (.long og), .second, .val (.long kk), .second, .val (.long jj), .second, .val (.ref b3), .val (.long (og + ((0 : Int64) * ss))), .second, .val (.long (og + (kk * ss))), .second, .val (.long (og + ((kk + (1 : Int64)) * ss))), .second, .val (.long (og + (jj * ss))), .second, .val (.long (og + ((kk + jj) * ss))), .second, .unset, .unset, .unset, .unset, .unset, .unset] [])) _
    refine XS.aload X24.here hx rfl (hb hby at_130) rfl rfl ?_
    show Steps p.tables e below (T24.setTop (mkF m 132 #[.val (.long qq1), .second, .val (.long qq2), .second, .val (.long qq3), .second, .val (.long qq4), .second, .val (.long qq5), .second, .val (.long rr), .second, .val (.long ss), .second, .val (.long (315537897600000 : Int64)), .second, .val (.long og), .second, .val (.long kk), .second, .val (.long jj), .second, .val (.ref b3), .val (.long (og + ((0 : Int64) * ss))), .second, .val (.long (og + (kk * ss))), .second, .val (.long (og + ((kk + (1 : Int64)) * ss))), .second, .val (.long (og + (jj * ss))), .second, .val (.long (og + ((kk + jj) * ss))), .second, .unset, .unset, .unset, .unset, .unset, .unset] [(.ref b3)])) _
    refine XS.lload X24.here hx rfl (hb hby at_132) rfl ?_
    show Steps p.tables e below (T24.setTop (mkF m 134 #[.val (.long qq1), .second, .val (.long qq2), .second, .val (.long qq3), .second, .val (.long qq4), .second, .val (.long qq5), .second, .val (.long rr), .second, .val (.long ss), .second, .val (.long (315537897600000 : Int64)), .second, .val (.long og), .second, .val (.long kk), .second, .val (.long jj), .second, .val (.ref b3), .val (.long (og + ((0 : Int64) * ss))), .second, .val (.long (og + (kk * ss))), .second, .val (.long (og + ((kk + (1 : Int64)) * ss))), .second, .val (.long (og + (jj * ss))), .second, .val (.long (og + ((kk + jj) * ss))), .second, .unset, .unset, .unset, .unset, .unset, .unset] [(.long kk), (.ref b3)])) _
    refine st25.trans ?_
    show Steps p.tables e below (T25.setTop (mkF m 137 #[.val (.long qq1), .second, .val (.long qq2), .second, .val (.long qq3), .second, .val (.long qq4), .second, .val (.long qq5), .second, .val (.long rr), .second, .val (.long ss), .second, .val (.long (315537897600000 : Int64)), .second, .val (.long og), .second, .val (.long kk), .second, .val (.long jj), .second, .val (.ref b3), .val (.long (og + ((0 : Int64) * ss))), .second, .val (.long (og + (kk * ss))), .second, .val (.long (og + ((kk + (1 : Int64)) * ss))), .second, .val (.long (og + (jj * ss))), .second, .val (.long (og + ((kk + jj) * ss))), .second, .unset, .unset, .unset, .unset, .unset, .unset] [(.long ((og + (kk * ss)) + rr))])) _
    refine XS.lstore X25.here hx rfl (hb hby at_137) rfl (l' := #[.val (.long qq1), .second, .val (.long qq2), .second, .val (.long qq3), .second, .val (.long qq4), .second, .val (.long qq5), .second, .val (.long rr), .second, .val (.long ss), .second, .val (.long (315537897600000 : Int64)), .second, .val (.long og), .second, .val (.long kk), .second, .val (.long jj), .second, .val (.ref b3), .val (.long (og + ((0 : Int64) * ss))), .second, .val (.long (og + (kk * ss))), .second, .val (.long (og + ((kk + (1 : Int64)) * ss))), .second, .val (.long (og + (jj * ss))), .second, .val (.long (og + ((kk + jj) * ss))), .second, .val (.long ((og + (kk * ss)) + rr)), .second, .unset, .unset, .unset, .unset]) rfl ?_
    show Steps p.tables e below (T25.setTop (mkF m 139 #[.val (.long qq1), .second, .val (.long qq2), .second, .val (.long qq3), .second, .val (.long qq4), .second, .val (.long qq5), .second, .val (.long rr), .second, .val (.long ss), .second, .val (.long (315537897600000 : Int64)), .second, .val (.long og), .second, .val (.long kk), .second, .val (.long jj), .second, .val (.ref b3), .val (.long (og + ((0 : Int64) * ss))), .second, .val (.long (og + (kk * ss))), .second, .val (.long (og + ((kk + (1 : Int64)) * ss))), .second, .val (.long (og + (jj * ss))), .second, .val (.long (og + ((kk + jj) * ss))), .second, .val (.long ((og + (kk * ss)) + rr)), .second, .unset, .unset, .unset, .unset] [])) _
    refine XS.lload X25.here hx rfl (hb hby at_139) rfl ?_
    show Steps p.tables e below (T25.setTop (mkF m 141 #[.val (.long qq1), .second, .val (.long qq2), .second, .val (.long qq3), .second, .val (.long qq4), .second, .val (.long qq5), .second, .val (.long rr), .second, .val (.long ss), .second, .val (.long (315537897600000 : Int64)), .second, .val (.long og), .second, .val (.long kk), .second, .val (.long jj), .second, .val (.ref b3), .val (.long (og + ((0 : Int64) * ss))), .second, .val (.long (og + (kk * ss))), .second, .val (.long (og + ((kk + (1 : Int64)) * ss))), .second, .val (.long (og + (jj * ss))), .second, .val (.long (og + ((kk + jj) * ss))), .second, .val (.long ((og + (kk * ss)) + rr)), .second, .unset, .unset, .unset, .unset] [(.long (og + ((0 : Int64) * ss)))])) _
    refine XS.lload X25.here hx rfl (hb hby at_141) rfl ?_
    show Steps p.tables e below (T25.setTop (mkF m 143 #[.val (.long qq1), .second, .val (.long qq2), .second, .val (.long qq3), .second, .val (.long qq4), .second, .val (.long qq5), .second, .val (.long rr), .second, .val (.long ss), .second, .val (.long (315537897600000 : Int64)), .second, .val (.long og), .second, .val (.long kk), .second, .val (.long jj), .second, .val (.ref b3), .val (.long (og + ((0 : Int64) * ss))), .second, .val (.long (og + (kk * ss))), .second, .val (.long (og + ((kk + (1 : Int64)) * ss))), .second, .val (.long (og + (jj * ss))), .second, .val (.long (og + ((kk + jj) * ss))), .second, .val (.long ((og + (kk * ss)) + rr)), .second, .unset, .unset, .unset, .unset] [(.long og), (.long (og + ((0 : Int64) * ss)))])) _
    refine XS.lcmp X25.here hx rfl (hb hby at_143) rfl ?_
    show Steps p.tables e below (T25.setTop (mkF m 144 #[.val (.long qq1), .second, .val (.long qq2), .second, .val (.long qq3), .second, .val (.long qq4), .second, .val (.long qq5), .second, .val (.long rr), .second, .val (.long ss), .second, .val (.long (315537897600000 : Int64)), .second, .val (.long og), .second, .val (.long kk), .second, .val (.long jj), .second, .val (.ref b3), .val (.long (og + ((0 : Int64) * ss))), .second, .val (.long (og + (kk * ss))), .second, .val (.long (og + ((kk + (1 : Int64)) * ss))), .second, .val (.long (og + (jj * ss))), .second, .val (.long (og + ((kk + jj) * ss))), .second, .val (.long ((og + (kk * ss)) + rr)), .second, .unset, .unset, .unset, .unset] [(.int (lcmpW (og + ((0 : Int64) * ss)) og))])) _
    refine XS.ifNo X25.here hx rfl (hb hby at_144) rfl ((if0 _ _).trans (teq ((lw_eq _ _).mpr hc144)).2) ?_
    show Steps p.tables e below (T25.setTop (mkF m 147 #[.val (.long qq1), .second, .val (.long qq2), .second, .val (.long qq3), .second, .val (.long qq4), .second, .val (.long qq5), .second, .val (.long rr), .second, .val (.long ss), .second, .val (.long (315537897600000 : Int64)), .second, .val (.long og), .second, .val (.long kk), .second, .val (.long jj), .second, .val (.ref b3), .val (.long (og + ((0 : Int64) * ss))), .second, .val (.long (og + (kk * ss))), .second, .val (.long (og + ((kk + (1 : Int64)) * ss))), .second, .val (.long (og + (jj * ss))), .second, .val (.long (og + ((kk + jj) * ss))), .second, .val (.long ((og + (kk * ss)) + rr)), .second, .unset, .unset, .unset, .unset] [])) _
    refine XS.iconst X25.here hx rfl (hb hby at_147) ?_
    show Steps p.tables e below (T25.setTop (mkF m 148 #[.val (.long qq1), .second, .val (.long qq2), .second, .val (.long qq3), .second, .val (.long qq4), .second, .val (.long qq5), .second, .val (.long rr), .second, .val (.long ss), .second, .val (.long (315537897600000 : Int64)), .second, .val (.long og), .second, .val (.long kk), .second, .val (.long jj), .second, .val (.ref b3), .val (.long (og + ((0 : Int64) * ss))), .second, .val (.long (og + (kk * ss))), .second, .val (.long (og + ((kk + (1 : Int64)) * ss))), .second, .val (.long (og + (jj * ss))), .second, .val (.long (og + ((kk + jj) * ss))), .second, .val (.long ((og + (kk * ss)) + rr)), .second, .unset, .unset, .unset, .unset] [(.int (1 : Int32))])) _
    refine XS.goto X25.here hx rfl (pc0 := 148) (pc' := 152) rfl (hb hby at_148) (by decide) (by decide) ?_
    show Steps p.tables e below (T25.setTop (mkF m 152 #[.val (.long qq1), .second, .val (.long qq2), .second, .val (.long qq3), .second, .val (.long qq4), .second, .val (.long qq5), .second, .val (.long rr), .second, .val (.long ss), .second, .val (.long (315537897600000 : Int64)), .second, .val (.long og), .second, .val (.long kk), .second, .val (.long jj), .second, .val (.ref b3), .val (.long (og + ((0 : Int64) * ss))), .second, .val (.long (og + (kk * ss))), .second, .val (.long (og + ((kk + (1 : Int64)) * ss))), .second, .val (.long (og + (jj * ss))), .second, .val (.long (og + ((kk + jj) * ss))), .second, .val (.long ((og + (kk * ss)) + rr)), .second, .unset, .unset, .unset, .unset] [(.int (1 : Int32))])) _
    refine XS.istore X25.here hx rfl (hb hby at_152) rfl (l' := #[.val (.long qq1), .second, .val (.long qq2), .second, .val (.long qq3), .second, .val (.long qq4), .second, .val (.long qq5), .second, .val (.long rr), .second, .val (.long ss), .second, .val (.long (315537897600000 : Int64)), .second, .val (.long og), .second, .val (.long kk), .second, .val (.long jj), .second, .val (.ref b3), .val (.long (og + ((0 : Int64) * ss))), .second, .val (.long (og + (kk * ss))), .second, .val (.long (og + ((kk + (1 : Int64)) * ss))), .second, .val (.long (og + (jj * ss))), .second, .val (.long (og + ((kk + jj) * ss))), .second, .val (.long ((og + (kk * ss)) + rr)), .second, .val (.int (1 : Int32)), .unset, .unset, .unset]) rfl ?_
    show Steps p.tables e below (T25.setTop (mkF m 154 #[.val (.long qq1), .second, .val (.long qq2), .second, .val (.long qq3), .second, .val (.long qq4), .second, .val (.long qq5), .second, .val (.long rr), .second, .val (.long ss), .second, .val (.long (315537897600000 : Int64)), .second, .val (.long og), .second, .val (.long kk), .second, .val (.long jj), .second, .val (.ref b3), .val (.long (og + ((0 : Int64) * ss))), .second, .val (.long (og + (kk * ss))), .second, .val (.long (og + ((kk + (1 : Int64)) * ss))), .second, .val (.long (og + (jj * ss))), .second, .val (.long (og + ((kk + jj) * ss))), .second, .val (.long ((og + (kk * ss)) + rr)), .second, .val (.int (1 : Int32)), .unset, .unset, .unset] [])) _
    refine XS.lload X25.here hx rfl (hb hby at_154) rfl ?_
    show Steps p.tables e below (T25.setTop (mkF m 156 #[.val (.long qq1), .second, .val (.long qq2), .second, .val (.long qq3), .second, .val (.long qq4), .second, .val (.long qq5), .second, .val (.long rr), .second, .val (.long ss), .second, .val (.long (315537897600000 : Int64)), .second, .val (.long og), .second, .val (.long kk), .second, .val (.long jj), .second, .val (.ref b3), .val (.long (og + ((0 : Int64) * ss))), .second, .val (.long (og + (kk * ss))), .second, .val (.long (og + ((kk + (1 : Int64)) * ss))), .second, .val (.long (og + (jj * ss))), .second, .val (.long (og + ((kk + jj) * ss))), .second, .val (.long ((og + (kk * ss)) + rr)), .second, .val (.int (1 : Int32)), .unset, .unset, .unset] [(.long (og + ((kk + (1 : Int64)) * ss)))])) _
    refine XS.lload X25.here hx rfl (hb hby at_156) rfl ?_
    show Steps p.tables e below (T25.setTop (mkF m 158 #[.val (.long qq1), .second, .val (.long qq2), .second, .val (.long qq3), .second, .val (.long qq4), .second, .val (.long qq5), .second, .val (.long rr), .second, .val (.long ss), .second, .val (.long (315537897600000 : Int64)), .second, .val (.long og), .second, .val (.long kk), .second, .val (.long jj), .second, .val (.ref b3), .val (.long (og + ((0 : Int64) * ss))), .second, .val (.long (og + (kk * ss))), .second, .val (.long (og + ((kk + (1 : Int64)) * ss))), .second, .val (.long (og + (jj * ss))), .second, .val (.long (og + ((kk + jj) * ss))), .second, .val (.long ((og + (kk * ss)) + rr)), .second, .val (.int (1 : Int32)), .unset, .unset, .unset] [(.long (og + (kk * ss))), (.long (og + ((kk + (1 : Int64)) * ss)))])) _
    refine XS.lsub X25.here hx rfl (hb hby at_158) rfl ?_
    show Steps p.tables e below (T25.setTop (mkF m 159 #[.val (.long qq1), .second, .val (.long qq2), .second, .val (.long qq3), .second, .val (.long qq4), .second, .val (.long qq5), .second, .val (.long rr), .second, .val (.long ss), .second, .val (.long (315537897600000 : Int64)), .second, .val (.long og), .second, .val (.long kk), .second, .val (.long jj), .second, .val (.ref b3), .val (.long (og + ((0 : Int64) * ss))), .second, .val (.long (og + (kk * ss))), .second, .val (.long (og + ((kk + (1 : Int64)) * ss))), .second, .val (.long (og + (jj * ss))), .second, .val (.long (og + ((kk + jj) * ss))), .second, .val (.long ((og + (kk * ss)) + rr)), .second, .val (.int (1 : Int32)), .unset, .unset, .unset] [(.long ((og + ((kk + (1 : Int64)) * ss)) - (og + (kk * ss))))])) _
    refine XS.lload X25.here hx rfl (hb hby at_159) rfl ?_
    show Steps p.tables e below (T25.setTop (mkF m 161 #[.val (.long qq1), .second, .val (.long qq2), .second, .val (.long qq3), .second, .val (.long qq4), .second, .val (.long qq5), .second, .val (.long rr), .second, .val (.long ss), .second, .val (.long (315537897600000 : Int64)), .second, .val (.long og), .second, .val (.long kk), .second, .val (.long jj), .second, .val (.ref b3), .val (.long (og + ((0 : Int64) * ss))), .second, .val (.long (og + (kk * ss))), .second, .val (.long (og + ((kk + (1 : Int64)) * ss))), .second, .val (.long (og + (jj * ss))), .second, .val (.long (og + ((kk + jj) * ss))), .second, .val (.long ((og + (kk * ss)) + rr)), .second, .val (.int (1 : Int32)), .unset, .unset, .unset] [(.long ss), (.long ((og + ((kk + (1 : Int64)) * ss)) - (og + (kk * ss))))])) _
    refine XS.lcmp X25.here hx rfl (hb hby at_161) rfl ?_
    show Steps p.tables e below (T25.setTop (mkF m 162 #[.val (.long qq1), .second, .val (.long qq2), .second, .val (.long qq3), .second, .val (.long qq4), .second, .val (.long qq5), .second, .val (.long rr), .second, .val (.long ss), .second, .val (.long (315537897600000 : Int64)), .second, .val (.long og), .second, .val (.long kk), .second, .val (.long jj), .second, .val (.ref b3), .val (.long (og + ((0 : Int64) * ss))), .second, .val (.long (og + (kk * ss))), .second, .val (.long (og + ((kk + (1 : Int64)) * ss))), .second, .val (.long (og + (jj * ss))), .second, .val (.long (og + ((kk + jj) * ss))), .second, .val (.long ((og + (kk * ss)) + rr)), .second, .val (.int (1 : Int32)), .unset, .unset, .unset] [(.int (lcmpW ((og + ((kk + (1 : Int64)) * ss)) - (og + (kk * ss))) ss))])) _
    refine XS.ifNo X25.here hx rfl (hb hby at_162) rfl ((if0 _ _).trans (teq ((lw_eq _ _).mpr hc162)).2) ?_
    show Steps p.tables e below (T25.setTop (mkF m 165 #[.val (.long qq1), .second, .val (.long qq2), .second, .val (.long qq3), .second, .val (.long qq4), .second, .val (.long qq5), .second, .val (.long rr), .second, .val (.long ss), .second, .val (.long (315537897600000 : Int64)), .second, .val (.long og), .second, .val (.long kk), .second, .val (.long jj), .second, .val (.ref b3), .val (.long (og + ((0 : Int64) * ss))), .second, .val (.long (og + (kk * ss))), .second, .val (.long (og + ((kk + (1 : Int64)) * ss))), .second, .val (.long (og + (jj * ss))), .second, .val (.long (og + ((kk + jj) * ss))), .second, .val (.long ((og + (kk * ss)) + rr)), .second, .val (.int (1 : Int32)), .unset, .unset, .unset] [])) _
    refine XS.iconst X25.here hx rfl (hb hby at_165) ?_
    show Steps p.tables e below (T25.setTop (mkF m 166 #[.val (.long qq1), .second, .val (.long qq2), .second, .val (.long qq3), .second, .val (.long qq4), .second, .val (.long qq5), .second, .val (.long rr), .second, .val (.long ss), .second, .val (.long (315537897600000 : Int64)), .second, .val (.long og), .second, .val (.long kk), .second, .val (.long jj), .second, .val (.ref b3), .val (.long (og + ((0 : Int64) * ss))), .second, .val (.long (og + (kk * ss))), .second, .val (.long (og + ((kk + (1 : Int64)) * ss))), .second, .val (.long (og + (jj * ss))), .second, .val (.long (og + ((kk + jj) * ss))), .second, .val (.long ((og + (kk * ss)) + rr)), .second, .val (.int (1 : Int32)), .unset, .unset, .unset] [(.int (1 : Int32))])) _
    refine XS.goto X25.here hx rfl (pc0 := 166) (pc' := 170) rfl (hb hby at_166) (by decide) (by decide) ?_
    show Steps p.tables e below (T25.setTop (mkF m 170 #[.val (.long qq1), .second, .val (.long qq2), .second, .val (.long qq3), .second, .val (.long qq4), .second, .val (.long qq5), .second, .val (.long rr), .second, .val (.long ss), .second, .val (.long (315537897600000 : Int64)), .second, .val (.long og), .second, .val (.long kk), .second, .val (.long jj), .second, .val (.ref b3), .val (.long (og + ((0 : Int64) * ss))), .second, .val (.long (og + (kk * ss))), .second, .val (.long (og + ((kk + (1 : Int64)) * ss))), .second, .val (.long (og + (jj * ss))), .second, .val (.long (og + ((kk + jj) * ss))), .second, .val (.long ((og + (kk * ss)) + rr)), .second, .val (.int (1 : Int32)), .unset, .unset, .unset] [(.int (1 : Int32))])) _
    refine XS.istore X25.here hx rfl (hb hby at_170) rfl (l' := #[.val (.long qq1), .second, .val (.long qq2), .second, .val (.long qq3), .second, .val (.long qq4), .second, .val (.long qq5), .second, .val (.long rr), .second, .val (.long ss), .second, .val (.long (315537897600000 : Int64)), .second, .val (.long og), .second, .val (.long kk), .second, .val (.long jj), .second, .val (.ref b3), .val (.long (og + ((0 : Int64) * ss))), .second, .val (.long (og + (kk * ss))), .second, .val (.long (og + ((kk + (1 : Int64)) * ss))), .second, .val (.long (og + (jj * ss))), .second, .val (.long (og + ((kk + jj) * ss))), .second, .val (.long ((og + (kk * ss)) + rr)), .second, .val (.int (1 : Int32)), .val (.int (1 : Int32)), .unset, .unset]) rfl ?_
    show Steps p.tables e below (T25.setTop (mkF m 172 #[.val (.long qq1), .second, .val (.long qq2), .second, .val (.long qq3), .second, .val (.long qq4), .second, .val (.long qq5), .second, .val (.long rr), .second, .val (.long ss), .second, .val (.long (315537897600000 : Int64)), .second, .val (.long og), .second, .val (.long kk), .second, .val (.long jj), .second, .val (.ref b3), .val (.long (og + ((0 : Int64) * ss))), .second, .val (.long (og + (kk * ss))), .second, .val (.long (og + ((kk + (1 : Int64)) * ss))), .second, .val (.long (og + (jj * ss))), .second, .val (.long (og + ((kk + jj) * ss))), .second, .val (.long ((og + (kk * ss)) + rr)), .second, .val (.int (1 : Int32)), .val (.int (1 : Int32)), .unset, .unset] [])) _
    refine XS.lload X25.here hx rfl (hb hby at_172) rfl ?_
    show Steps p.tables e below (T25.setTop (mkF m 174 #[.val (.long qq1), .second, .val (.long qq2), .second, .val (.long qq3), .second, .val (.long qq4), .second, .val (.long qq5), .second, .val (.long rr), .second, .val (.long ss), .second, .val (.long (315537897600000 : Int64)), .second, .val (.long og), .second, .val (.long kk), .second, .val (.long jj), .second, .val (.ref b3), .val (.long (og + ((0 : Int64) * ss))), .second, .val (.long (og + (kk * ss))), .second, .val (.long (og + ((kk + (1 : Int64)) * ss))), .second, .val (.long (og + (jj * ss))), .second, .val (.long (og + ((kk + jj) * ss))), .second, .val (.long ((og + (kk * ss)) + rr)), .second, .val (.int (1 : Int32)), .val (.int (1 : Int32)), .unset, .unset] [(.long (og + ((kk + jj) * ss)))])) _
    refine XS.lload X25.here hx rfl (hb hby at_174) rfl ?_
    show Steps p.tables e below (T25.setTop (mkF m 176 #[.val (.long qq1), .second, .val (.long qq2), .second, .val (.long qq3), .second, .val (.long qq4), .second, .val (.long qq5), .second, .val (.long rr), .second, .val (.long ss), .second, .val (.long (315537897600000 : Int64)), .second, .val (.long og), .second, .val (.long kk), .second, .val (.long jj), .second, .val (.ref b3), .val (.long (og + ((0 : Int64) * ss))), .second, .val (.long (og + (kk * ss))), .second, .val (.long (og + ((kk + (1 : Int64)) * ss))), .second, .val (.long (og + (jj * ss))), .second, .val (.long (og + ((kk + jj) * ss))), .second, .val (.long ((og + (kk * ss)) + rr)), .second, .val (.int (1 : Int32)), .val (.int (1 : Int32)), .unset, .unset] [(.long (og + (kk * ss))), (.long (og + ((kk + jj) * ss)))])) _
    refine XS.lload X25.here hx rfl (hb hby at_176) rfl ?_
    show Steps p.tables e below (T25.setTop (mkF m 178 #[.val (.long qq1), .second, .val (.long qq2), .second, .val (.long qq3), .second, .val (.long qq4), .second, .val (.long qq5), .second, .val (.long rr), .second, .val (.long ss), .second, .val (.long (315537897600000 : Int64)), .second, .val (.long og), .second, .val (.long kk), .second, .val (.long jj), .second, .val (.ref b3), .val (.long (og + ((0 : Int64) * ss))), .second, .val (.long (og + (kk * ss))), .second, .val (.long (og + ((kk + (1 : Int64)) * ss))), .second, .val (.long (og + (jj * ss))), .second, .val (.long (og + ((kk + jj) * ss))), .second, .val (.long ((og + (kk * ss)) + rr)), .second, .val (.int (1 : Int32)), .val (.int (1 : Int32)), .unset, .unset] [(.long (og + (jj * ss))), (.long (og + (kk * ss))), (.long (og + ((kk + jj) * ss)))])) _
    refine XS.ladd X25.here hx rfl (hb hby at_178) rfl ?_
    show Steps p.tables e below (T25.setTop (mkF m 179 #[.val (.long qq1), .second, .val (.long qq2), .second, .val (.long qq3), .second, .val (.long qq4), .second, .val (.long qq5), .second, .val (.long rr), .second, .val (.long ss), .second, .val (.long (315537897600000 : Int64)), .second, .val (.long og), .second, .val (.long kk), .second, .val (.long jj), .second, .val (.ref b3), .val (.long (og + ((0 : Int64) * ss))), .second, .val (.long (og + (kk * ss))), .second, .val (.long (og + ((kk + (1 : Int64)) * ss))), .second, .val (.long (og + (jj * ss))), .second, .val (.long (og + ((kk + jj) * ss))), .second, .val (.long ((og + (kk * ss)) + rr)), .second, .val (.int (1 : Int32)), .val (.int (1 : Int32)), .unset, .unset] [(.long ((og + (kk * ss)) + (og + (jj * ss)))), (.long (og + ((kk + jj) * ss)))])) _
    refine XS.lload X25.here hx rfl (hb hby at_179) rfl ?_
    show Steps p.tables e below (T25.setTop (mkF m 181 #[.val (.long qq1), .second, .val (.long qq2), .second, .val (.long qq3), .second, .val (.long qq4), .second, .val (.long qq5), .second, .val (.long rr), .second, .val (.long ss), .second, .val (.long (315537897600000 : Int64)), .second, .val (.long og), .second, .val (.long kk), .second, .val (.long jj), .second, .val (.ref b3), .val (.long (og + ((0 : Int64) * ss))), .second, .val (.long (og + (kk * ss))), .second, .val (.long (og + ((kk + (1 : Int64)) * ss))), .second, .val (.long (og + (jj * ss))), .second, .val (.long (og + ((kk + jj) * ss))), .second, .val (.long ((og + (kk * ss)) + rr)), .second, .val (.int (1 : Int32)), .val (.int (1 : Int32)), .unset, .unset] [(.long og), (.long ((og + (kk * ss)) + (og + (jj * ss)))), (.long (og + ((kk + jj) * ss)))])) _
    refine XS.lsub X25.here hx rfl (hb hby at_181) rfl ?_
    show Steps p.tables e below (T25.setTop (mkF m 182 #[.val (.long qq1), .second, .val (.long qq2), .second, .val (.long qq3), .second, .val (.long qq4), .second, .val (.long qq5), .second, .val (.long rr), .second, .val (.long ss), .second, .val (.long (315537897600000 : Int64)), .second, .val (.long og), .second, .val (.long kk), .second, .val (.long jj), .second, .val (.ref b3), .val (.long (og + ((0 : Int64) * ss))), .second, .val (.long (og + (kk * ss))), .second, .val (.long (og + ((kk + (1 : Int64)) * ss))), .second, .val (.long (og + (jj * ss))), .second, .val (.long (og + ((kk + jj) * ss))), .second, .val (.long ((og + (kk * ss)) + rr)), .second, .val (.int (1 : Int32)), .val (.int (1 : Int32)), .unset, .unset] [(.long (((og + (kk * ss)) + (og + (jj * ss))) - og)), (.long (og + ((kk + jj) * ss)))])) _
    refine XS.lcmp X25.here hx rfl (hb hby at_182) rfl ?_
    show Steps p.tables e below (T25.setTop (mkF m 183 #[.val (.long qq1), .second, .val (.long qq2), .second, .val (.long qq3), .second, .val (.long qq4), .second, .val (.long qq5), .second, .val (.long rr), .second, .val (.long ss), .second, .val (.long (315537897600000 : Int64)), .second, .val (.long og), .second, .val (.long kk), .second, .val (.long jj), .second, .val (.ref b3), .val (.long (og + ((0 : Int64) * ss))), .second, .val (.long (og + (kk * ss))), .second, .val (.long (og + ((kk + (1 : Int64)) * ss))), .second, .val (.long (og + (jj * ss))), .second, .val (.long (og + ((kk + jj) * ss))), .second, .val (.long ((og + (kk * ss)) + rr)), .second, .val (.int (1 : Int32)), .val (.int (1 : Int32)), .unset, .unset] [(.int (lcmpW (og + ((kk + jj) * ss)) (((og + (kk * ss)) + (og + (jj * ss))) - og)))])) _
    refine XS.ifNo X25.here hx rfl (hb hby at_183) rfl ((if0 _ _).trans (teq ((lw_eq _ _).mpr hc183)).2) ?_
    show Steps p.tables e below (T25.setTop (mkF m 186 #[.val (.long qq1), .second, .val (.long qq2), .second, .val (.long qq3), .second, .val (.long qq4), .second, .val (.long qq5), .second, .val (.long rr), .second, .val (.long ss), .second, .val (.long (315537897600000 : Int64)), .second, .val (.long og), .second, .val (.long kk), .second, .val (.long jj), .second, .val (.ref b3), .val (.long (og + ((0 : Int64) * ss))), .second, .val (.long (og + (kk * ss))), .second, .val (.long (og + ((kk + (1 : Int64)) * ss))), .second, .val (.long (og + (jj * ss))), .second, .val (.long (og + ((kk + jj) * ss))), .second, .val (.long ((og + (kk * ss)) + rr)), .second, .val (.int (1 : Int32)), .val (.int (1 : Int32)), .unset, .unset] [])) _
    refine XS.iconst X25.here hx rfl (hb hby at_186) ?_
    show Steps p.tables e below (T25.setTop (mkF m 187 #[.val (.long qq1), .second, .val (.long qq2), .second, .val (.long qq3), .second, .val (.long qq4), .second, .val (.long qq5), .second, .val (.long rr), .second, .val (.long ss), .second, .val (.long (315537897600000 : Int64)), .second, .val (.long og), .second, .val (.long kk), .second, .val (.long jj), .second, .val (.ref b3), .val (.long (og + ((0 : Int64) * ss))), .second, .val (.long (og + (kk * ss))), .second, .val (.long (og + ((kk + (1 : Int64)) * ss))), .second, .val (.long (og + (jj * ss))), .second, .val (.long (og + ((kk + jj) * ss))), .second, .val (.long ((og + (kk * ss)) + rr)), .second, .val (.int (1 : Int32)), .val (.int (1 : Int32)), .unset, .unset] [(.int (1 : Int32))])) _
    refine XS.goto X25.here hx rfl (pc0 := 187) (pc' := 191) rfl (hb hby at_187) (by decide) (by decide) ?_
    show Steps p.tables e below (T25.setTop (mkF m 191 #[.val (.long qq1), .second, .val (.long qq2), .second, .val (.long qq3), .second, .val (.long qq4), .second, .val (.long qq5), .second, .val (.long rr), .second, .val (.long ss), .second, .val (.long (315537897600000 : Int64)), .second, .val (.long og), .second, .val (.long kk), .second, .val (.long jj), .second, .val (.ref b3), .val (.long (og + ((0 : Int64) * ss))), .second, .val (.long (og + (kk * ss))), .second, .val (.long (og + ((kk + (1 : Int64)) * ss))), .second, .val (.long (og + (jj * ss))), .second, .val (.long (og + ((kk + jj) * ss))), .second, .val (.long ((og + (kk * ss)) + rr)), .second, .val (.int (1 : Int32)), .val (.int (1 : Int32)), .unset, .unset] [(.int (1 : Int32))])) _
    refine XS.istore X25.here hx rfl (hb hby at_191) rfl (l' := #[.val (.long qq1), .second, .val (.long qq2), .second, .val (.long qq3), .second, .val (.long qq4), .second, .val (.long qq5), .second, .val (.long rr), .second, .val (.long ss), .second, .val (.long (315537897600000 : Int64)), .second, .val (.long og), .second, .val (.long kk), .second, .val (.long jj), .second, .val (.ref b3), .val (.long (og + ((0 : Int64) * ss))), .second, .val (.long (og + (kk * ss))), .second, .val (.long (og + ((kk + (1 : Int64)) * ss))), .second, .val (.long (og + (jj * ss))), .second, .val (.long (og + ((kk + jj) * ss))), .second, .val (.long ((og + (kk * ss)) + rr)), .second, .val (.int (1 : Int32)), .val (.int (1 : Int32)), .val (.int (1 : Int32)), .unset]) rfl ?_
    show Steps p.tables e below (T25.setTop (mkF m 193 #[.val (.long qq1), .second, .val (.long qq2), .second, .val (.long qq3), .second, .val (.long qq4), .second, .val (.long qq5), .second, .val (.long rr), .second, .val (.long ss), .second, .val (.long (315537897600000 : Int64)), .second, .val (.long og), .second, .val (.long kk), .second, .val (.long jj), .second, .val (.ref b3), .val (.long (og + ((0 : Int64) * ss))), .second, .val (.long (og + (kk * ss))), .second, .val (.long (og + ((kk + (1 : Int64)) * ss))), .second, .val (.long (og + (jj * ss))), .second, .val (.long (og + ((kk + jj) * ss))), .second, .val (.long ((og + (kk * ss)) + rr)), .second, .val (.int (1 : Int32)), .val (.int (1 : Int32)), .val (.int (1 : Int32)), .unset] [])) _
    refine XS.lload X25.here hx rfl (hb hby at_193) rfl ?_
    show Steps p.tables e below (T25.setTop (mkF m 195 #[.val (.long qq1), .second, .val (.long qq2), .second, .val (.long qq3), .second, .val (.long qq4), .second, .val (.long qq5), .second, .val (.long rr), .second, .val (.long ss), .second, .val (.long (315537897600000 : Int64)), .second, .val (.long og), .second, .val (.long kk), .second, .val (.long jj), .second, .val (.ref b3), .val (.long (og + ((0 : Int64) * ss))), .second, .val (.long (og + (kk * ss))), .second, .val (.long (og + ((kk + (1 : Int64)) * ss))), .second, .val (.long (og + (jj * ss))), .second, .val (.long (og + ((kk + jj) * ss))), .second, .val (.long ((og + (kk * ss)) + rr)), .second, .val (.int (1 : Int32)), .val (.int (1 : Int32)), .val (.int (1 : Int32)), .unset] [(.long ((og + (kk * ss)) + rr))])) _
    refine XS.lload X25.here hx rfl (hb hby at_195) rfl ?_
    show Steps p.tables e below (T25.setTop (mkF m 197 #[.val (.long qq1), .second, .val (.long qq2), .second, .val (.long qq3), .second, .val (.long qq4), .second, .val (.long qq5), .second, .val (.long rr), .second, .val (.long ss), .second, .val (.long (315537897600000 : Int64)), .second, .val (.long og), .second, .val (.long kk), .second, .val (.long jj), .second, .val (.ref b3), .val (.long (og + ((0 : Int64) * ss))), .second, .val (.long (og + (kk * ss))), .second, .val (.long (og + ((kk + (1 : Int64)) * ss))), .second, .val (.long (og + (jj * ss))), .second, .val (.long (og + ((kk + jj) * ss))), .second, .val (.long ((og + (kk * ss)) + rr)), .second, .val (.int (1 : Int32)), .val (.int (1 : Int32)), .val (.int (1 : Int32)), .unset] [(.long (og + (kk * ss))), (.long ((og + (kk * ss)) + rr))])) _
    refine XS.lsub X25.here hx rfl (hb hby at_197) rfl ?_
    show Steps p.tables e below (T25.setTop (mkF m 198 #[.val (.long qq1), .second, .val (.long qq2), .second, .val (.long qq3), .second, .val (.long qq4), .second, .val (.long qq5), .second, .val (.long rr), .second, .val (.long ss), .second, .val (.long (315537897600000 : Int64)), .second, .val (.long og), .second, .val (.long kk), .second, .val (.long jj), .second, .val (.ref b3), .val (.long (og + ((0 : Int64) * ss))), .second, .val (.long (og + (kk * ss))), .second, .val (.long (og + ((kk + (1 : Int64)) * ss))), .second, .val (.long (og + (jj * ss))), .second, .val (.long (og + ((kk + jj) * ss))), .second, .val (.long ((og + (kk * ss)) + rr)), .second, .val (.int (1 : Int32)), .val (.int (1 : Int32)), .val (.int (1 : Int32)), .unset] [(.long (((og + (kk * ss)) + rr) - (og + (kk * ss))))])) _
    refine XS.lload X25.here hx rfl (hb hby at_198) rfl ?_
    show Steps p.tables e below (T25.setTop (mkF m 200 #[.val (.long qq1), .second, .val (.long qq2), .second, .val (.long qq3), .second, .val (.long qq4), .second, .val (.long qq5), .second, .val (.long rr), .second, .val (.long ss), .second, .val (.long (315537897600000 : Int64)), .second, .val (.long og), .second, .val (.long kk), .second, .val (.long jj), .second, .val (.ref b3), .val (.long (og + ((0 : Int64) * ss))), .second, .val (.long (og + (kk * ss))), .second, .val (.long (og + ((kk + (1 : Int64)) * ss))), .second, .val (.long (og + (jj * ss))), .second, .val (.long (og + ((kk + jj) * ss))), .second, .val (.long ((og + (kk * ss)) + rr)), .second, .val (.int (1 : Int32)), .val (.int (1 : Int32)), .val (.int (1 : Int32)), .unset] [(.long rr), (.long (((og + (kk * ss)) + rr) - (og + (kk * ss))))])) _
    refine XS.lcmp X25.here hx rfl (hb hby at_200) rfl ?_
    show Steps p.tables e below (T25.setTop (mkF m 201 #[.val (.long qq1), .second, .val (.long qq2), .second, .val (.long qq3), .second, .val (.long qq4), .second, .val (.long qq5), .second, .val (.long rr), .second, .val (.long ss), .second, .val (.long (315537897600000 : Int64)), .second, .val (.long og), .second, .val (.long kk), .second, .val (.long jj), .second, .val (.ref b3), .val (.long (og + ((0 : Int64) * ss))), .second, .val (.long (og + (kk * ss))), .second, .val (.long (og + ((kk + (1 : Int64)) * ss))), .second, .val (.long (og + (jj * ss))), .second, .val (.long (og + ((kk + jj) * ss))), .second, .val (.long ((og + (kk * ss)) + rr)), .second, .val (.int (1 : Int32)), .val (.int (1 : Int32)), .val (.int (1 : Int32)), .unset] [(.int (lcmpW (((og + (kk * ss)) + rr) - (og + (kk * ss))) rr))])) _
    refine XS.ifNo X25.here hx rfl (hb hby at_201) rfl ((if0 _ _).trans (teq ((lw_eq _ _).mpr hc201)).2) ?_
    show Steps p.tables e below (T25.setTop (mkF m 204 #[.val (.long qq1), .second, .val (.long qq2), .second, .val (.long qq3), .second, .val (.long qq4), .second, .val (.long qq5), .second, .val (.long rr), .second, .val (.long ss), .second, .val (.long (315537897600000 : Int64)), .second, .val (.long og), .second, .val (.long kk), .second, .val (.long jj), .second, .val (.ref b3), .val (.long (og + ((0 : Int64) * ss))), .second, .val (.long (og + (kk * ss))), .second, .val (.long (og + ((kk + (1 : Int64)) * ss))), .second, .val (.long (og + (jj * ss))), .second, .val (.long (og + ((kk + jj) * ss))), .second, .val (.long ((og + (kk * ss)) + rr)), .second, .val (.int (1 : Int32)), .val (.int (1 : Int32)), .val (.int (1 : Int32)), .unset] [])) _
    refine XS.iconst X25.here hx rfl (hb hby at_204) ?_
    show Steps p.tables e below (T25.setTop (mkF m 205 #[.val (.long qq1), .second, .val (.long qq2), .second, .val (.long qq3), .second, .val (.long qq4), .second, .val (.long qq5), .second, .val (.long rr), .second, .val (.long ss), .second, .val (.long (315537897600000 : Int64)), .second, .val (.long og), .second, .val (.long kk), .second, .val (.long jj), .second, .val (.ref b3), .val (.long (og + ((0 : Int64) * ss))), .second, .val (.long (og + (kk * ss))), .second, .val (.long (og + ((kk + (1 : Int64)) * ss))), .second, .val (.long (og + (jj * ss))), .second, .val (.long (og + ((kk + jj) * ss))), .second, .val (.long ((og + (kk * ss)) + rr)), .second, .val (.int (1 : Int32)), .val (.int (1 : Int32)), .val (.int (1 : Int32)), .unset] [(.int (1 : Int32))])) _
    refine XS.goto X25.here hx rfl (pc0 := 205) (pc' := 209) rfl (hb hby at_205) (by decide) (by decide) ?_
    show Steps p.tables e below (T25.setTop (mkF m 209 #[.val (.long qq1), .second, .val (.long qq2), .second, .val (.long qq3), .second, .val (.long qq4), .second, .val (.long qq5), .second, .val (.long rr), .second, .val (.long ss), .second, .val (.long (315537897600000 : Int64)), .second, .val (.long og), .second, .val (.long kk), .second, .val (.long jj), .second, .val (.ref b3), .val (.long (og + ((0 : Int64) * ss))), .second, .val (.long (og + (kk * ss))), .second, .val (.long (og + ((kk + (1 : Int64)) * ss))), .second, .val (.long (og + (jj * ss))), .second, .val (.long (og + ((kk + jj) * ss))), .second, .val (.long ((og + (kk * ss)) + rr)), .second, .val (.int (1 : Int32)), .val (.int (1 : Int32)), .val (.int (1 : Int32)), .unset] [(.int (1 : Int32))])) _
    refine XS.istore X25.here hx rfl (hb hby at_209) rfl (l' := #[.val (.long qq1), .second, .val (.long qq2), .second, .val (.long qq3), .second, .val (.long qq4), .second, .val (.long qq5), .second, .val (.long rr), .second, .val (.long ss), .second, .val (.long (315537897600000 : Int64)), .second, .val (.long og), .second, .val (.long kk), .second, .val (.long jj), .second, .val (.ref b3), .val (.long (og + ((0 : Int64) * ss))), .second, .val (.long (og + (kk * ss))), .second, .val (.long (og + ((kk + (1 : Int64)) * ss))), .second, .val (.long (og + (jj * ss))), .second, .val (.long (og + ((kk + jj) * ss))), .second, .val (.long ((og + (kk * ss)) + rr)), .second, .val (.int (1 : Int32)), .val (.int (1 : Int32)), .val (.int (1 : Int32)), .val (.int (1 : Int32))]) rfl ?_
    show Steps p.tables e below (T25.setTop (mkF m 211 #[.val (.long qq1), .second, .val (.long qq2), .second, .val (.long qq3), .second, .val (.long qq4), .second, .val (.long qq5), .second, .val (.long rr), .second, .val (.long ss), .second, .val (.long (315537897600000 : Int64)), .second, .val (.long og), .second, .val (.long kk), .second, .val (.long jj), .second, .val (.ref b3), .val (.long (og + ((0 : Int64) * ss))), .second, .val (.long (og + (kk * ss))), .second, .val (.long (og + ((kk + (1 : Int64)) * ss))), .second, .val (.long (og + (jj * ss))), .second, .val (.long (og + ((kk + jj) * ss))), .second, .val (.long ((og + (kk * ss)) + rr)), .second, .val (.int (1 : Int32)), .val (.int (1 : Int32)), .val (.int (1 : Int32)), .val (.int (1 : Int32))] [])) _
    refine XS.iload X25.here hx rfl (hb hby at_211) rfl ?_
    show Steps p.tables e below (T25.setTop (mkF m 213 #[.val (.long qq1), .second, .val (.long qq2), .second, .val (.long qq3), .second, .val (.long qq4), .second, .val (.long qq5), .second, .val (.long rr), .second, .val (.long ss), .second, .val (.long (315537897600000 : Int64)), .second, .val (.long og), .second, .val (.long kk), .second, .val (.long jj), .second, .val (.ref b3), .val (.long (og + ((0 : Int64) * ss))), .second, .val (.long (og + (kk * ss))), .second, .val (.long (og + ((kk + (1 : Int64)) * ss))), .second, .val (.long (og + (jj * ss))), .second, .val (.long (og + ((kk + jj) * ss))), .second, .val (.long ((og + (kk * ss)) + rr)), .second, .val (.int (1 : Int32)), .val (.int (1 : Int32)), .val (.int (1 : Int32)), .val (.int (1 : Int32))] [(.int (1 : Int32))])) _
    refine XS.ifNo X25.here hx rfl (hb hby at_213) rfl ((if0 _ _).trans (feq hc213).1) ?_
    show Steps p.tables e below (T25.setTop (mkF m 216 #[.val (.long qq1), .second, .val (.long qq2), .second, .val (.long qq3), .second, .val (.long qq4), .second, .val (.long qq5), .second, .val (.long rr), .second, .val (.long ss), .second, .val (.long (315537897600000 : Int64)), .second, .val (.long og), .second, .val (.long kk), .second, .val (.long jj), .second, .val (.ref b3), .val (.long (og + ((0 : Int64) * ss))), .second, .val (.long (og + (kk * ss))), .second, .val (.long (og + ((kk + (1 : Int64)) * ss))), .second, .val (.long (og + (jj * ss))), .second, .val (.long (og + ((kk + jj) * ss))), .second, .val (.long ((og + (kk * ss)) + rr)), .second, .val (.int (1 : Int32)), .val (.int (1 : Int32)), .val (.int (1 : Int32)), .val (.int (1 : Int32))] [])) _
    refine XS.iload X25.here hx rfl (hb hby at_216) rfl ?_
    show Steps p.tables e below (T25.setTop (mkF m 218 #[.val (.long qq1), .second, .val (.long qq2), .second, .val (.long qq3), .second, .val (.long qq4), .second, .val (.long qq5), .second, .val (.long rr), .second, .val (.long ss), .second, .val (.long (315537897600000 : Int64)), .second, .val (.long og), .second, .val (.long kk), .second, .val (.long jj), .second, .val (.ref b3), .val (.long (og + ((0 : Int64) * ss))), .second, .val (.long (og + (kk * ss))), .second, .val (.long (og + ((kk + (1 : Int64)) * ss))), .second, .val (.long (og + (jj * ss))), .second, .val (.long (og + ((kk + jj) * ss))), .second, .val (.long ((og + (kk * ss)) + rr)), .second, .val (.int (1 : Int32)), .val (.int (1 : Int32)), .val (.int (1 : Int32)), .val (.int (1 : Int32))] [(.int (1 : Int32))])) _
    refine XS.ifNo X25.here hx rfl (hb hby at_218) rfl ((if0 _ _).trans (feq hc218).1) ?_
    show Steps p.tables e below (T25.setTop (mkF m 221 #[.val (.long qq1), .second, .val (.long qq2), .second, .val (.long qq3), .second, .val (.long qq4), .second, .val (.long qq5), .second, .val (.long rr), .second, .val (.long ss), .second, .val (.long (315537897600000 : Int64)), .second, .val (.long og), .second, .val (.long kk), .second, .val (.long jj), .second, .val (.ref b3), .val (.long (og + ((0 : Int64) * ss))), .second, .val (.long (og + (kk * ss))), .second, .val (.long (og + ((kk + (1 : Int64)) * ss))), .second, .val (.long (og + (jj * ss))), .second, .val (.long (og + ((kk + jj) * ss))), .second, .val (.long ((og + (kk * ss)) + rr)), .second, .val (.int (1 : Int32)), .val (.int (1 : Int32)), .val (.int (1 : Int32)), .val (.int (1 : Int32))] [])) _
    refine XS.iload X25.here hx rfl (hb hby at_221) rfl ?_
    show Steps p.tables e below (T25.setTop (mkF m 223 #[.val (.long qq1), .second, .val (.long qq2), .second, .val (.long qq3), .second, .val (.long qq4), .second, .val (.long qq5), .second, .val (.long rr), .second, .val (.long ss), .second, .val (.long (315537897600000 : Int64)), .second, .val (.long og), .second, .val (.long kk), .second, .val (.long jj), .second, .val (.ref b3), .val (.long (og + ((0 : Int64) * ss))), .second, .val (.long (og + (kk * ss))), .second, .val (.long (og + ((kk + (1 : Int64)) * ss))), .second, .val (.long (og + (jj * ss))), .second, .val (.long (og + ((kk + jj) * ss))), .second, .val (.long ((og + (kk * ss)) + rr)), .second, .val (.int (1 : Int32)), .val (.int (1 : Int32)), .val (.int (1 : Int32)), .val (.int (1 : Int32))] [(.int (1 : Int32))])) _
    refine XS.ifNo X25.here hx rfl (hb hby at_223) rfl ((if0 _ _).trans (feq hc223).1) ?_
    show Steps p.tables e below (T25.setTop (mkF m 226 #[.val (.long qq1), .second, .val (.long qq2), .second, .val (.long qq3), .second, .val (.long qq4), .second, .val (.long qq5), .second, .val (.long rr), .second, .val (.long ss), .second, .val (.long (315537897600000 : Int64)), .second, .val (.long og), .second, .val (.long kk), .second, .val (.long jj), .second, .val (.ref b3), .val (.long (og + ((0 : Int64) * ss))), .second, .val (.long (og + (kk * ss))), .second, .val (.long (og + ((kk + (1 : Int64)) * ss))), .second, .val (.long (og + (jj * ss))), .second, .val (.long (og + ((kk + jj) * ss))), .second, .val (.long ((og + (kk * ss)) + rr)), .second, .val (.int (1 : Int32)), .val (.int (1 : Int32)), .val (.int (1 : Int32)), .val (.int (1 : Int32))] [])) _
    refine XS.iload X25.here hx rfl (hb hby at_226) rfl ?_
    show Steps p.tables e below (T25.setTop (mkF m 228 #[.val (.long qq1), .second, .val (.long qq2), .second, .val (.long qq3), .second, .val (.long qq4), .second, .val (.long qq5), .second, .val (.long rr), .second, .val (.long ss), .second, .val (.long (315537897600000 : Int64)), .second, .val (.long og), .second, .val (.long kk), .second, .val (.long jj), .second, .val (.ref b3), .val (.long (og + ((0 : Int64) * ss))), .second, .val (.long (og + (kk * ss))), .second, .val (.long (og + ((kk + (1 : Int64)) * ss))), .second, .val (.long (og + (jj * ss))), .second, .val (.long (og + ((kk + jj) * ss))), .second, .val (.long ((og + (kk * ss)) + rr)), .second, .val (.int (1 : Int32)), .val (.int (1 : Int32)), .val (.int (1 : Int32)), .val (.int (1 : Int32))] [(.int (1 : Int32))])) _
    refine XS.ifNo X25.here hx rfl (hb hby at_228) rfl ((if0 _ _).trans (feq hc228).1) ?_
    show Steps p.tables e below (T25.setTop (mkF m 231 #[.val (.long qq1), .second, .val (.long qq2), .second, .val (.long qq3), .second, .val (.long qq4), .second, .val (.long qq5), .second, .val (.long rr), .second, .val (.long ss), .second, .val (.long (315537897600000 : Int64)), .second, .val (.long og), .second, .val (.long kk), .second, .val (.long jj), .second, .val (.ref b3), .val (.long (og + ((0 : Int64) * ss))), .second, .val (.long (og + (kk * ss))), .second, .val (.long (og + ((kk + (1 : Int64)) * ss))), .second, .val (.long (og + (jj * ss))), .second, .val (.long (og + ((kk + jj) * ss))), .second, .val (.long ((og + (kk * ss)) + rr)), .second, .val (.int (1 : Int32)), .val (.int (1 : Int32)), .val (.int (1 : Int32)), .val (.int (1 : Int32))] [])) _
    refine XS.iconst X25.here hx rfl (hb hby at_231) ?_
    show Steps p.tables e below (T25.setTop (mkF m 232 #[.val (.long qq1), .second, .val (.long qq2), .second, .val (.long qq3), .second, .val (.long qq4), .second, .val (.long qq5), .second, .val (.long rr), .second, .val (.long ss), .second, .val (.long (315537897600000 : Int64)), .second, .val (.long og), .second, .val (.long kk), .second, .val (.long jj), .second, .val (.ref b3), .val (.long (og + ((0 : Int64) * ss))), .second, .val (.long (og + (kk * ss))), .second, .val (.long (og + ((kk + (1 : Int64)) * ss))), .second, .val (.long (og + (jj * ss))), .second, .val (.long (og + ((kk + jj) * ss))), .second, .val (.long ((og + (kk * ss)) + rr)), .second, .val (.int (1 : Int32)), .val (.int (1 : Int32)), .val (.int (1 : Int32)), .val (.int (1 : Int32))] [(.int (1 : Int32))])) _
    refine XS.goto X25.here hx rfl (pc0 := 232) (pc' := 236) rfl (hb hby at_232) (by decide) (by decide) ?_
    show Steps p.tables e below (T25.setTop (mkF m 236 #[.val (.long qq1), .second, .val (.long qq2), .second, .val (.long qq3), .second, .val (.long qq4), .second, .val (.long qq5), .second, .val (.long rr), .second, .val (.long ss), .second, .val (.long (315537897600000 : Int64)), .second, .val (.long og), .second, .val (.long kk), .second, .val (.long jj), .second, .val (.ref b3), .val (.long (og + ((0 : Int64) * ss))), .second, .val (.long (og + (kk * ss))), .second, .val (.long (og + ((kk + (1 : Int64)) * ss))), .second, .val (.long (og + (jj * ss))), .second, .val (.long (og + ((kk + jj) * ss))), .second, .val (.long ((og + (kk * ss)) + rr)), .second, .val (.int (1 : Int32)), .val (.int (1 : Int32)), .val (.int (1 : Int32)), .val (.int (1 : Int32))] [(.int (1 : Int32))])) _
    exact retN X25 hx (t := .boolean) Bd.returns (by simp) (hb hby at_236) hr
  · show Q0 Z qq1 qq2 qq3 qq4 qq5 dd h0 n0 _ T25.heap _
    rw [e25]
    exact ⟨rfl, N25⟩
set_option maxRecDepth 65536 in
set_option maxHeartbeats 40000000 in
theorem comes_1 {Post : Tables → Env → Array Value → State → Outcome → State → Prop} (hpost : ∀ tb e args s v u, (limb_1_1.after args s (.returned v) u = true ∧ limb_1_2.after args s (.returned v) u = true ∧ True) → ReturnedEndW s (.returned v) u (Jvm.fieldLocs frame_1_writes args s ++ Jvm.arrayLocs frame_1_arrays args s ++ Jvm.staticLocs frame_1_statics s) 16 2176 → Post tb e args s (.returned v) u) :
    ArmFor flags0 classFile x code maxLocals ret World_1 tables_1 room_1 Calls_1 rest_1 Pre_1 Post := by
  intro l hfl _ _ p e ha hc hk s m args below hf hA hF happ hP
  obtain ⟨hcalls, hrest, hpre⟩ := hP
  obtain ⟨-, -, -, hnamed, -, -, -, hat⟩ := (Spec.applies_iff hf).mp happ
  obtain ⟨hg, hn⟩ := and_e (Cond.before_iff.mp (show (Jvm.Cond.and given_1 narrow_1).before args s = true from hpre))
  obtain ⟨g1, g2⟩ := and_e hg
  obtain ⟨g3, g4⟩ := and_e g2
  obtain ⟨g5, g6⟩ := and_e g4
  obtain ⟨g7, g8⟩ := and_e g6
  obtain ⟨g9, g10⟩ := and_e g8
  obtain ⟨w0, w1, w2, w3, w4, rfl⟩ : ∃ w0 w1 w2 w3 w4 : Value, args = #[w0, w1, w2, w3, w4] := by
    have hs : args.size = 5 := by simpa [Cond.value, given_1] using g1
    obtain ⟨L⟩ := args
    match L, hs with
    | [w0, w1, w2, w3, w4], _ => exact ⟨w0, w1, w2, w3, w4, rfl⟩
  have hw := fun d (hd : d ∈ tables_1) => atoms_spec (ws := Jvm.Cond.code x code maxLocals ret :: tables_1) hat d (List.mem_cons_of_mem _ hd)
  have hfit : Fit s := fun {y c} hc i hi => by
    obtain ⟨ha, rfl⟩ := Array.getElem?_eq_some_iff.mp hc
    have q := List.all_eq_true.mp ((Array.all_eq_true_iff_forall_mem.mp hF) _ (Array.getElem_mem ha)) i (List.mem_range.mpr hi)
    simpa [Array.getElem?_eq_getElem hi] using q
  obtain ⟨i0, ei0⟩ := isL_v g3
  obtain rfl : w0 = (.long i0) := Option.some.inj ei0
  obtain ⟨i1, ei1⟩ := isL_v g5
  obtain rfl : w1 = (.long i1) := Option.some.inj ei1
  obtain ⟨i2, ei2⟩ := isL_v g7
  obtain rfl : w2 = (.long i2) := Option.some.inj ei2
  obtain ⟨i3, ei3⟩ := isL_v g9
  obtain rfl : w3 = (.long i3) := Option.some.inj ei3
  obtain ⟨i4, ei4⟩ := isL_v g10
  obtain rfl : w4 = (.long i4) := Option.some.inj ei4
  obtain ⟨xd, evd⟩ := exa_v hn
  have staD := Sta.start evd (Or.inr ⟨(hw _ (List.mem_of_getElem? (i := 17) rfl)), (hw _ (List.mem_of_getElem? (i := 18) rfl))⟩)
  obtain ⟨n, o, h1, h2, h3, _, L, rfl, ⟨rfl, N⟩, hq⟩ := rm0 l s _ hw tables_1 i0 i1 i2 i3 i4 xd s.heap s.heap.size (Nat.le_refl _) (Old.start s) staD p e ha hc hk s m _ below hf ((Spec.applies_iff_loose hf).mp happ).1 ⟨rfl, State.Warmed39.refl s, rfl⟩ trivial
  refine ⟨n, _, h1, h2, h3, hpost _ _ _ _ _ _ ⟨Cond.after_iff.mpr rfl, Cond.after_iff.mpr (eq_i res_at (Term.int_eval (1)) rfl), trivial⟩ ⟨hq.1, hq.2.1, hq.2.2.1, (hq.2.2.2.sift fun y hy => Or.inr (N y hy)).mono (by decide) (by decide)⟩⟩
theorem main_1_1 : Claimed_1_1 := comes_1 fun _ _ _ _ _ _ h hF => ⟨h.1, hF⟩
theorem main_1_2 : Claimed_1_2 := comes_1 fun _ _ _ _ _ _ h hF => ⟨h.2.1, hF⟩
end Jvm.Pilot.@@N@@
namespace Jvm.Pilot.@@N@@
open Jvm Jvm.ClassFile Sem Op Lib Jvm.Free Jvm.Stand Jvm.Pilot.@@N@@.Jvm.D
/-! MADE BY PROGRAM (witnessworld.py) out of the Statement's table words and the real class files: 17 classes; the members and pool entries that the words name. The judged class is class 1, her method 1. -/
namespace start1
open Jvm.ClassFile
def u (s : String) : CpInfo := .utf8 (stringToUtf16 s)
/-- a pool by its gaps: so many unusable entries, then the entry; so many at the end -/
def gap : Nat → List CpInfo → List CpInfo
  | 0, r => r
  | n + 1, r => .unusable :: gap n r
def poolList (es : List (Nat × CpInfo)) (last : Nat) : List CpInfo := es.foldr (fun e r => gap e.1 (e.2 :: r)) (gap last [])
def pool (es : List (Nat × CpInfo)) (last : Nat) : Array CpInfo := ⟨poolList es last⟩
def fileOf (pool : Array CpInfo) (this : Nat) (attrs : Array Attribute := #[]) (ms : Array MethodInfo := #[]) (fl : Nat := 33) (sup : Nat := 0) (ifs : Array Nat := #[]) (fds : Array FieldInfo := #[]) : ClassFile where
  minorVersion := 0
  majorVersion := 65
  constantPool := pool
  accessFlags := fl
  thisClass := this
  superClass := sup
  interfaces := ifs
  fields := fds
  methods := ms
  attributes := attrs
def plain (name : String) (sup : Option ClassId) : Class where
  name := name
  kind := .ordinary
  loader := none
  accessFlags := 33
  super := sup
  interfaces := #[]
  cf := none
  fields := #[]
  methods := #[]
  instanceTypes := #[]
  staticTypes := #[]
  resolved := #[]
  callSites := []
  init := .initialized
  statics := none
  mirror := none

def pool0 : Array CpInfo := pool [(5, u "<init>"), (0, u "()V"), (1, .class_ 10), (1, u "java/lang/Object")] 113

def k0c0 : Code := { maxStack := 0, maxLocals := 1, code := object_method_1_code, exceptionTable := #[], attributes := #[] }
def k0m0 : Method := { name := "<init>", desc := "()V", sig := { parameters := [], returnType := none }, accessFlags := 1, code := some k0c0 }
/-- java/lang/Object -/
def k0 : Class := { plain "java/lang/Object" none with
  accessFlags := 33
  interfaces := #[]
  cf := some (fileOf pool0 8 #[] #[{ accessFlags := 1, nameIndex := 5, descriptorIndex := 6, attributes := #[] }] 33 0 #[] #[])
  fields := #[]
  methods := #[k0m0]
  instanceTypes := #[]
  staticTypes := #[]
  resolved := Array.replicate 124 none
  statics := none }

def pool1 : Array CpInfo := pool [(2, .class_ 4), (1, u "java/lang/Object"), (0, u "<init>"), (0, u "()V"), (2, .long 9223372036854775807), (1, .class_ 12), (0, u "com/example/corrente/corrente/TimeWindow"), (0, .long 316224000000000), (1, .class_ 16), (0, u "com/example/corrente/corrente/TimeWindowStartPinLaw"), (0, .long 315537897600000), (1, .long 18446681938112751616), (1, .string 22), (0, u "w"), (0, .string 24), (0, u "s"), (0, .fieldref 26 27), (0, .class_ 28), (0, .nameAndType 29 30), (0, u "com/example/corrente/corrente/ReportPolicy"), (0, u "DEFAULT"), (0, u "Lcom/example/corrente/corrente/ReportPolicy;"), (0, .methodref 11 32), (0, .nameAndType 5 33), (0, u "(Ljava/lang/String;Ljava/lang/String;JJJLcom/example/corrente/corrente/ReportPolicy;Ljava/lang/String;)V"), (0, .methodref 11 35), (0, .nameAndType 36 37), (0, u "start"), (0, u "(J)J"), (0, .methodref 11 39), (0, .nameAndType 40 37), (0, u "close"), (0, u "MIN_ORIGIN"), (0, u "J"), (1, u "MAX_ORIGIN"), (4, u "law"), (0, u "(JJJJJ)Z")] 3

def k1m0 : Method := { name := "<init>", desc := "()V", sig := { parameters := [], returnType := none }, accessFlags := 1, code := none }
def k1c1 : Code := { maxStack := 12, maxLocals := 39, code := code, exceptionTable := #[], attributes := #[] }
def k1m1 : Method := { name := "law", desc := "(JJJJJ)Z", sig := { parameters := [.long, .long, .long, .long, .long], returnType := some .boolean }, accessFlags := 9, code := some k1c1 }
/-- com/example/corrente/corrente/TimeWindowStartPinLaw -/
def k1 : Class := { plain "com/example/corrente/corrente/TimeWindowStartPinLaw" (some 0) with
  accessFlags := 49
  interfaces := #[]
  cf := some (fileOf pool1 15 #[] #[{ accessFlags := 1, nameIndex := 5, descriptorIndex := 6, attributes := #[] }, { accessFlags := 9, nameIndex := 49, descriptorIndex := 50, attributes := #[] }] 49 2 #[] #[{ accessFlags := 26, nameIndex := 41, descriptorIndex := 42, attributes := #[] }, { accessFlags := 26, nameIndex := 44, descriptorIndex := 42, attributes := #[] }])
  fields := #[{ name := "MIN_ORIGIN", type := .long, accessFlags := 26, slot := 0, constantValue := 0 }, { name := "MAX_ORIGIN", type := .long, accessFlags := 26, slot := 1, constantValue := 0 }]
  methods := #[k1m0, k1m1]
  instanceTypes := #[]
  staticTypes := #[.long, .long]
  resolved := Array.replicate 54 none
  statics := none }

def pool2 : Array CpInfo := pool [(1, .methodref 2 3), (0, .class_ 4), (0, .nameAndType 5 6), (0, u "java/lang/Object"), (0, u "<init>"), (0, u "()V"), (0, .class_ 8), (0, u "java/lang/Record")] 13

def k2c0 : Code := { maxStack := 1, maxLocals := 1, code := jdk_30_method_1_code, exceptionTable := #[], attributes := #[] }
def k2m0 : Method := { name := "<init>", desc := "()V", sig := { parameters := [], returnType := none }, accessFlags := 4, code := some k2c0 }
/-- java/lang/Record -/
def k2 : Class := { plain "java/lang/Record" (some 0) with
  accessFlags := 1057
  interfaces := #[]
  cf := some (fileOf pool2 7 #[] #[{ accessFlags := 4, nameIndex := 5, descriptorIndex := 6, attributes := #[] }] 1057 2 #[] #[])
  fields := #[]
  methods := #[k2m0]
  instanceTypes := #[]
  staticTypes := #[]
  resolved := Array.replicate 22 none
  statics := none }

def pool3 : Array CpInfo := pool [(1, .class_ 2), (0, u "com/example/corrente/corrente/Window"), (0, .class_ 4), (0, u "java/lang/Object")] 17

/-- com/example/corrente/corrente/Window -/
def k3 : Class := { plain "com/example/corrente/corrente/Window" (some 0) with
  accessFlags := 1536
  interfaces := #[]
  cf := some (fileOf pool3 1 #[] #[] 1536 3 #[] #[])
  fields := #[]
  methods := #[]
  instanceTypes := #[]
  staticTypes := #[]
  resolved := Array.replicate 22 none
  statics := none }

def pool4 : Array CpInfo := pool [(1, .methodref 2 3), (0, .class_ 4), (0, .nameAndType 5 6), (0, u "java/lang/Record"), (0, u "<init>"), (0, u "()V"), (0, .class_ 8), (0, u "com/example/corrente/corrente/TimeWindow"), (0, .long 316224000000000), (8, .fieldref 7 19), (0, .nameAndType 20 21), (0, u "name"), (0, u "Ljava/lang/String;"), (0, .fieldref 7 23), (0, .nameAndType 24 21), (0, u "stream"), (0, .fieldref 7 26), (0, .nameAndType 27 28), (0, u "range"), (0, u "J"), (0, .fieldref 7 30), (0, .nameAndType 31 28), (0, u "step"), (0, .fieldref 7 33), (0, .nameAndType 34 28), (0, u "origin"), (0, .fieldref 7 36), (0, .nameAndType 37 38), (0, u "report"), (0, u "Lcom/example/corrente/corrente/ReportPolicy;"), (0, .fieldref 7 40), (0, .nameAndType 41 21), (0, u "ontology"), (11, u "(J)J"), (5, u "start"), (15, .class_ 76), (0, u "com/example/corrente/corrente/Window"), (0, u "LONGEST"), (1, u "(Ljava/lang/String;Ljava/lang/String;JJJLcom/example/corrente/corrente/ReportPolicy;Ljava/lang/String;)V"), (8, u "close")] 33

def k4c0 : Code := { maxStack := 4, maxLocals := 11, code := prog_12_method_1_code, exceptionTable := #[], attributes := #[] }
def k4m0 : Method := { name := "<init>", desc := "(Ljava/lang/String;Ljava/lang/String;JJJLcom/example/corrente/corrente/ReportPolicy;Ljava/lang/String;)V", sig := { parameters := [(.object "java/lang/String"), (.object "java/lang/String"), .long, .long, .long, (.object "com/example/corrente/corrente/ReportPolicy"), (.object "java/lang/String")], returnType := none }, accessFlags := 0, code := some k4c0 }
def k4c1 : Code := { maxStack := 6, maxLocals := 3, code := prog_12_method_2_code, exceptionTable := #[], attributes := #[] }
def k4m1 : Method := { name := "start", desc := "(J)J", sig := { parameters := [.long], returnType := some .long }, accessFlags := 0, code := some k4c1 }
def k4c2 : Code := { maxStack := 6, maxLocals := 3, code := prog_12_method_3_code, exceptionTable := #[], attributes := #[] }
def k4m2 : Method := { name := "close", desc := "(J)J", sig := { parameters := [.long], returnType := some .long }, accessFlags := 0, code := some k4c2 }
/-- com/example/corrente/corrente/TimeWindow -/
def k4 : Class := { plain "com/example/corrente/corrente/TimeWindow" (some 2) with
  accessFlags := 48
  interfaces := #[3]
  cf := some (fileOf pool4 7 #[] #[{ accessFlags := 0, nameIndex := 5, descriptorIndex := 79, attributes := #[] }, { accessFlags := 0, nameIndex := 59, descriptorIndex := 53, attributes := #[] }, { accessFlags := 0, nameIndex := 88, descriptorIndex := 53, attributes := #[] }] 48 2 #[75] #[{ accessFlags := 18, nameIndex := 20, descriptorIndex := 21, attributes := #[] }, { accessFlags := 18, nameIndex := 24, descriptorIndex := 21, attributes := #[] }, { accessFlags := 18, nameIndex := 27, descriptorIndex := 28, attributes := #[] }, { accessFlags := 18, nameIndex := 31, descriptorIndex := 28, attributes := #[] }, { accessFlags := 18, nameIndex := 34, descriptorIndex := 28, attributes := #[] }, { accessFlags := 18, nameIndex := 37, descriptorIndex := 38, attributes := #[] }, { accessFlags := 18, nameIndex := 41, descriptorIndex := 21, attributes := #[] }, { accessFlags := 24, nameIndex := 77, descriptorIndex := 28, attributes := #[] }])
  fields := #[{ name := "name", type := (.object "java/lang/String"), accessFlags := 18, slot := 0, constantValue := 0 }, { name := "stream", type := (.object "java/lang/String"), accessFlags := 18, slot := 1, constantValue := 0 }, { name := "range", type := .long, accessFlags := 18, slot := 2, constantValue := 0 }, { name := "step", type := .long, accessFlags := 18, slot := 3, constantValue := 0 }, { name := "origin", type := .long, accessFlags := 18, slot := 4, constantValue := 0 }, { name := "report", type := (.object "com/example/corrente/corrente/ReportPolicy"), accessFlags := 18, slot := 5, constantValue := 0 }, { name := "ontology", type := (.object "java/lang/String"), accessFlags := 18, slot := 6, constantValue := 0 }, { name := "LONGEST", type := .long, accessFlags := 24, slot := 0, constantValue := 0 }]
  methods := #[k4m0, k4m1, k4m2]
  instanceTypes := #[(.object "java/lang/String"), (.object "java/lang/String"), .long, .long, .long, (.object "com/example/corrente/corrente/ReportPolicy"), (.object "java/lang/String")]
  staticTypes := #[.long]
  resolved := Array.replicate 122 none
  statics := none }

def pool5 : Array CpInfo := pool [(1, .class_ 2), (0, u "java/io/Serializable"), (0, .class_ 4), (0, u "java/lang/Object")] 2

/-- java/io/Serializable -/
def k5 : Class := { plain "java/io/Serializable" (some 0) with
  accessFlags := 1537
  interfaces := #[]
  cf := some (fileOf pool5 1 #[] #[] 1537 3 #[] #[])
  fields := #[]
  methods := #[]
  instanceTypes := #[]
  staticTypes := #[]
  resolved := Array.replicate 7 none
  statics := none }

def pool6 : Array CpInfo := pool [(1, .class_ 2), (0, u "java/lang/Comparable"), (0, .class_ 4), (0, u "java/lang/Object")] 7

/-- java/lang/Comparable -/
def k6 : Class := { plain "java/lang/Comparable" (some 0) with
  accessFlags := 1537
  interfaces := #[]
  cf := some (fileOf pool6 1 #[] #[] 1537 3 #[] #[])
  fields := #[]
  methods := #[]
  instanceTypes := #[]
  staticTypes := #[]
  resolved := Array.replicate 12 none
  statics := none }

def pool7 : Array CpInfo := pool [(2, .class_ 4), (1, u "java/lang/CharSequence"), (42, .class_ 48), (0, u "java/lang/CharSequence$1CodePointIterator"), (10, .class_ 60), (0, u "java/lang/CharSequence$1CharIterator"), (5, .class_ 67), (0, u "java/lang/Object")] 63

/-- java/lang/CharSequence -/
def k7 : Class := { plain "java/lang/CharSequence" (some 0) with
  accessFlags := 1537
  interfaces := #[]
  cf := some (fileOf pool7 2 #[.nestMembers #[47, 59]] #[] 1537 66 #[] #[])
  fields := #[]
  methods := #[]
  instanceTypes := #[]
  staticTypes := #[]
  resolved := Array.replicate 131 none
  statics := none }

def pool8 : Array CpInfo := pool [(1, .class_ 2), (0, u "java/lang/constant/Constable"), (0, .class_ 4), (0, u "java/lang/Object")] 6

/-- java/lang/constant/Constable -/
def k8 : Class := { plain "java/lang/constant/Constable" (some 0) with
  accessFlags := 1537
  interfaces := #[]
  cf := some (fileOf pool8 1 #[] #[] 1537 3 #[] #[])
  fields := #[]
  methods := #[]
  instanceTypes := #[]
  staticTypes := #[]
  resolved := Array.replicate 11 none
  statics := none }

def pool9 : Array CpInfo := pool [(1, .class_ 2), (0, u "java/lang/constant/ConstantDesc"), (0, .class_ 4), (0, u "java/lang/Object")] 32

/-- java/lang/constant/ConstantDesc -/
def k9 : Class := { plain "java/lang/constant/ConstantDesc" (some 0) with
  accessFlags := 1537
  interfaces := #[]
  cf := some (fileOf pool9 1 #[] #[] 1537 3 #[] #[])
  fields := #[]
  methods := #[]
  instanceTypes := #[]
  staticTypes := #[]
  resolved := Array.replicate 37 none
  statics := none }

def pool10 : Array CpInfo := pool [(2, .class_ 4), (1, u "java/lang/Object"), (0, u "<init>"), (0, u "()V"), (3, .class_ 12), (1, u "java/lang/String"), (0, u "value"), (0, u "[B"), (2, u "coder"), (0, u "B"), (2, u "hash"), (0, u "I"), (2, u "hashIsZero"), (0, u "Z"), (13, u "COMPACT_STRINGS"), (534, .class_ 576), (0, u "java/lang/CharSequence"), (22, u "CASE_INSENSITIVE_ORDER"), (0, u "Ljava/util/Comparator;"), (500, u "serialPersistentFields"), (0, u "[Ljava/io/ObjectStreamField;"), (0, .class_ 1104), (0, u "java/lang/String$CaseInsensitiveComparator"), (1, .class_ 1107), (0, u "java/io/Serializable"), (0, .class_ 1109), (0, u "java/lang/Comparable"), (0, .class_ 1111), (0, u "java/lang/constant/Constable"), (0, .class_ 1113), (0, u "java/lang/constant/ConstantDesc"), (2, u "serialVersionUID"), (0, u "J"), (3, u "REPL"), (0, u "C"), (2, u "LATIN1"), (1, u "UTF16")] 323

def k10m0 : Method := { name := "<init>", desc := "()V", sig := { parameters := [], returnType := none }, accessFlags := 1, code := none }
/-- java/lang/String -/
def k10 : Class := { plain "java/lang/String" (some 0) with
  accessFlags := 49
  interfaces := #[5, 6, 7, 8, 9]
  cf := some (fileOf pool10 10 #[.nestMembers #[1103]] #[{ accessFlags := 1, nameIndex := 5, descriptorIndex := 6, attributes := #[] }] 49 2 #[1106, 1108, 575, 1110, 1112] #[{ accessFlags := 18, nameIndex := 13, descriptorIndex := 14, attributes := #[] }, { accessFlags := 18, nameIndex := 17, descriptorIndex := 18, attributes := #[] }, { accessFlags := 2, nameIndex := 21, descriptorIndex := 22, attributes := #[] }, { accessFlags := 2, nameIndex := 25, descriptorIndex := 26, attributes := #[] }, { accessFlags := 26, nameIndex := 1116, descriptorIndex := 1117, attributes := #[] }, { accessFlags := 24, nameIndex := 40, descriptorIndex := 26, attributes := #[] }, { accessFlags := 26, nameIndex := 1101, descriptorIndex := 1102, attributes := #[] }, { accessFlags := 26, nameIndex := 1121, descriptorIndex := 1122, attributes := #[] }, { accessFlags := 25, nameIndex := 599, descriptorIndex := 600, attributes := #[] }, { accessFlags := 24, nameIndex := 1125, descriptorIndex := 18, attributes := #[] }, { accessFlags := 24, nameIndex := 1127, descriptorIndex := 18, attributes := #[] }])
  fields := #[{ name := "value", type := (.array .byte), accessFlags := 18, slot := 0, constantValue := 0 }, { name := "coder", type := .byte, accessFlags := 18, slot := 1, constantValue := 0 }, { name := "hash", type := .int, accessFlags := 2, slot := 2, constantValue := 0 }, { name := "hashIsZero", type := .boolean, accessFlags := 2, slot := 3, constantValue := 0 }, { name := "serialVersionUID", type := .long, accessFlags := 26, slot := 0, constantValue := 0 }, { name := "COMPACT_STRINGS", type := .boolean, accessFlags := 24, slot := 1, constantValue := 0 }, { name := "serialPersistentFields", type := (.array (.object "java/io/ObjectStreamField")), accessFlags := 26, slot := 2, constantValue := 0 }, { name := "REPL", type := .char, accessFlags := 26, slot := 3, constantValue := 0 }, { name := "CASE_INSENSITIVE_ORDER", type := (.object "java/util/Comparator"), accessFlags := 25, slot := 4, constantValue := 0 }, { name := "LATIN1", type := .byte, accessFlags := 24, slot := 5, constantValue := 0 }, { name := "UTF16", type := .byte, accessFlags := 24, slot := 6, constantValue := 0 }]
  methods := #[k10m0]
  instanceTypes := #[(.array .byte), .byte, .int, .boolean]
  staticTypes := #[.long, .boolean, (.array (.object "java/io/ObjectStreamField")), .char, (.object "java/util/Comparator"), .byte, .byte]
  resolved := Array.replicate 1451 none
  statics := none }

def pool11 : Array CpInfo := pool [(2, .class_ 4), (1, u "java/lang/Record"), (3, .class_ 10), (1, u "com/example/corrente/corrente/ReportPolicy$Kind"), (1, u "Lcom/example/corrente/corrente/ReportPolicy$Kind;"), (20, .class_ 35), (1, u "com/example/corrente/corrente/ReportPolicy"), (0, u "kind"), (2, u "period"), (0, u "J"), (2, u "nonEmpty"), (0, u "Z"), (20, u "DEFAULT"), (0, u "Lcom/example/corrente/corrente/ReportPolicy;")] 43

/-- com/example/corrente/corrente/ReportPolicy -/
def k11 : Class := { plain "com/example/corrente/corrente/ReportPolicy" (some 2) with
  accessFlags := 48
  interfaces := #[]
  cf := some (fileOf pool11 33 #[.nestMembers #[8]] #[] 48 2 #[] #[{ accessFlags := 18, nameIndex := 36, descriptorIndex := 12, attributes := #[] }, { accessFlags := 18, nameIndex := 39, descriptorIndex := 40, attributes := #[] }, { accessFlags := 18, nameIndex := 43, descriptorIndex := 44, attributes := #[] }, { accessFlags := 24, nameIndex := 65, descriptorIndex := 66, attributes := #[] }])
  fields := #[{ name := "kind", type := (.object "com/example/corrente/corrente/ReportPolicy$Kind"), accessFlags := 18, slot := 0, constantValue := 0 }, { name := "period", type := .long, accessFlags := 18, slot := 1, constantValue := 0 }, { name := "nonEmpty", type := .boolean, accessFlags := 18, slot := 2, constantValue := 0 }, { name := "DEFAULT", type := (.object "com/example/corrente/corrente/ReportPolicy"), accessFlags := 24, slot := 0, constantValue := 0 }]
  methods := #[]
  instanceTypes := #[(.object "com/example/corrente/corrente/ReportPolicy$Kind"), .long, .boolean]
  staticTypes := #[(.object "com/example/corrente/corrente/ReportPolicy")]
  resolved := Array.replicate 110 none
  statics := some 0 }

def pool12 : Array CpInfo := pool [(1, u "java/lang/Cloneable"), (0, .class_ 1), (0, u "java/lang/Object"), (0, .class_ 3)] 3

/-- java/lang/Cloneable -/
def k12 : Class := { plain "java/lang/Cloneable" (some 0) with
  accessFlags := 1537
  interfaces := #[]
  cf := some (fileOf pool12 2 #[] #[] 1537 4 #[] #[])
  fields := #[]
  methods := #[]
  instanceTypes := #[]
  staticTypes := #[]
  resolved := Array.replicate 8 none
  statics := none }

/-- the primitive byte -/
def k13 : Class := { plain "byte" none with kind := .primitive 'B', accessFlags := 0x411 }
/-- [B -/
def k14 : Class := { plain "[B" (some 0) with kind := .array 13 .byte, interfaces := #[12, 5], accessFlags := 1041 }

/-- the primitive int -/
def k15 : Class := { plain "int" none with kind := .primitive 'I', accessFlags := 0x411 }
/-- [I -/
def k16 : Class := { plain "[I" (some 0) with kind := .array 15 .int, interfaces := #[12, 5], accessFlags := 1041 }

def heap : Heap := #[{ cls := 11, slots := #[.ref 1], vm := .statics 11 },
  { cls := 11, slots := #[.null, .long 0, .int 0], vm := .none }]
def classes : Array Class := #[k0, k1, k2, k3, k4, k5, k6, k7, k8, k9, k10, k11, k12, k13, k14, k15, k16]
def interned : List (Array UInt16 × Addr) := []
def slotsUsed : Nat := 4
def theMethod : MethodId := ⟨1, 1⟩
def args0 : Array Value := #[.long 5, .long 1, .long 2, .long 7, .long 9]
def aboutOver (below : List Frame) : State where
  vm := { classes := classes, interned := interned.toArray }
  heap := heap
  slotsUsed := slotsUsed
  threads := #[{ frames := .invoking theMethod args0 :: below }]
def below0 : List Frame := [.native { method := ⟨0, 0⟩, args := #[] }]
def about1 : State := aboutOver below0
def p0 : Program := .bare "" "" ""
def e0 : Env := launch0.env 0 0 0
theorem w_frames : about1.frames = Frame.invoking theMethod args0 :: below0 := rfl
set_option maxRecDepth 65536 in
theorem w_args : argsFit about1.vm theMethod args0 = true := by decide +kernel
set_option maxRecDepth 65536 in
theorem w_heap : heapFits about1 = true := by decide +kernel
set_option maxRecDepth 65536 in
theorem w_runnable : about1.curStatus? = some .runnable := by decide +kernel
set_option maxRecDepth 65536 in
theorem w_alone : about1.alone = true := by decide +kernel
set_option maxRecDepth 65536 in
theorem w_named : about1.methodNamed? x = some theMethod := by decide +kernel
set_option maxRecDepth 65536 in
theorem w_hears : about1.hears theMethod below0 = true := by decide +kernel
set_option maxRecDepth 65536 in
theorem w_ripe : about1.ripe theMethod args0 below0 = true := by decide +kernel
theorem w_running : about1.status = .running := rfl
set_option maxRecDepth 65536 in
theorem w_room : about1.hasRoom e0.platform room_1 = true :=
  launch0.hasRoom_least _ room_1 (by decide +kernel) (by decide +kernel) (by decide +kernel) (by decide +kernel) (by decide +kernel) (by decide +kernel)
theorem allAtoms_all (ts : List Jvm.Cond) (a : Array Jvm.Value) (st : Jvm.State) : (allAtoms ts).before a st = ts.all (fun c => c.before a st) := by
  induction ts with
  | nil => rfl
  | cons c t ih =>
    show (Jvm.Cond.and c (allAtoms t)).before a st = _
    rw [Jvm.Cond.before_and, ih, List.all_cons]
def words1 : List Jvm.Cond := Jvm.Cond.code x code maxLocals ret :: tables_1
/-- a 'code' word, met by the world's own term for the bytes: nothing is compared byte by byte -/
theorem code_word {y : MethodName} {bytes : ByteArray} {mx : Nat} {rt : Option FieldType} {a : Array Value} {s : State} {m : MethodId} {meth : Method} {c : Code} (h1 : s.methodNamed? y = some m) (h2 : s.vm.method? m = some meth) (h3 : meth.code = some c) (h4 : c.code = bytes)
    (h5 : (c.maxLocals == mx && c.exceptionTable.isEmpty && decide (c.maxStack ≤ mostOperands) && decide (meth.sig.returnType = rt) && !meth.locks && decide (parseMethodDescriptor y.desc = some meth.sig)) = true) : (Jvm.Cond.code y bytes mx rt).before a s = true := by
  simp only [Bool.and_eq_true, beq_iff_eq, Bool.not_eq_true', decide_eq_true_eq] at h5
  obtain ⟨⟨⟨⟨⟨g1, g2⟩, g3⟩, g4⟩, g5⟩, g6⟩ := h5
  simp [Cond.before, Cond.holds, Cond.value, h1, h2, h3, h4, g1, g2, g3, g4, g5, g6]
def isCode : Jvm.Cond → Bool
  | .code _ _ _ _ => true
  | _ => false
theorem all_split {L : List Jvm.Cond} {P : Jvm.Cond → Bool} (h1 : L.all (fun c => isCode c || P c) = true) (h2 : ∀ c ∈ L.filter isCode, P c = true) : L.all P = true := by
  refine List.all_eq_true.mpr fun c hc => ?_
  have h := List.all_eq_true.mp h1 c hc
  rcases Bool.eq_false_or_eq_true (isCode c) with hi | hi
  · exact h2 c (List.mem_filter.mpr ⟨hc, hi⟩)
  · simpa [hi] using h
set_option maxRecDepth 65536 in
theorem w_c0 : (Jvm.Cond.code x code maxLocals ret).before args0 about1 = true := code_word (m := ⟨1, 1⟩) (meth := k1m1) (c := k1c1) (by decide +kernel) rfl rfl rfl (by decide +kernel)
set_option maxRecDepth 65536 in
theorem w_c1 : (Jvm.Cond.code ({ cls := "com/example/corrente/corrente/TimeWindow", name := "<init>", desc := "(Ljava/lang/String;Ljava/lang/String;JJJLcom/example/corrente/corrente/ReportPolicy;Ljava/lang/String;)V" } : Jvm.MethodName) prog_12_method_1_code (11 : Nat) (Option.none : Option Jvm.ClassFile.FieldType)).before args0 about1 = true := code_word (m := ⟨4, 0⟩) (meth := k4m0) (c := k4c0) (by decide +kernel) rfl rfl rfl (by decide +kernel)
set_option maxRecDepth 65536 in
theorem w_c2 : (Jvm.Cond.code ({ cls := "java/lang/Record", name := "<init>", desc := "()V" } : Jvm.MethodName) jdk_30_method_1_code (1 : Nat) (Option.none : Option Jvm.ClassFile.FieldType)).before args0 about1 = true := code_word (m := ⟨2, 0⟩) (meth := k2m0) (c := k2c0) (by decide +kernel) rfl rfl rfl (by decide +kernel)
set_option maxRecDepth 65536 in
theorem w_c3 : (Jvm.Cond.code ({ cls := "java/lang/Object", name := "<init>", desc := "()V" } : Jvm.MethodName) object_method_1_code (1 : Nat) (Option.none : Option Jvm.ClassFile.FieldType)).before args0 about1 = true := code_word (m := ⟨0, 0⟩) (meth := k0m0) (c := k0c0) (by decide +kernel) rfl rfl rfl (by decide +kernel)
set_option maxRecDepth 65536 in
theorem w_c4 : (Jvm.Cond.code ({ cls := "com/example/corrente/corrente/TimeWindow", name := "start", desc := "(J)J" } : Jvm.MethodName) prog_12_method_2_code (3 : Nat) (Option.some Jvm.ClassFile.FieldType.long)).before args0 about1 = true := code_word (m := ⟨4, 1⟩) (meth := k4m1) (c := k4c1) (by decide +kernel) rfl rfl rfl (by decide +kernel)
set_option maxRecDepth 65536 in
theorem w_c5 : (Jvm.Cond.code ({ cls := "com/example/corrente/corrente/TimeWindow", name := "close", desc := "(J)J" } : Jvm.MethodName) prog_12_method_3_code (3 : Nat) (Option.some Jvm.ClassFile.FieldType.long)).before args0 about1 = true := code_word (m := ⟨4, 2⟩) (meth := k4m2) (c := k4c2) (by decide +kernel) rfl rfl rfl (by decide +kernel)
def codes1 : List Jvm.Cond := [Jvm.Cond.code x code maxLocals ret, Jvm.Cond.code ({ cls := "com/example/corrente/corrente/TimeWindow", name := "<init>", desc := "(Ljava/lang/String;Ljava/lang/String;JJJLcom/example/corrente/corrente/ReportPolicy;Ljava/lang/String;)V" } : Jvm.MethodName) prog_12_method_1_code (11 : Nat) (Option.none : Option Jvm.ClassFile.FieldType), Jvm.Cond.code ({ cls := "java/lang/Record", name := "<init>", desc := "()V" } : Jvm.MethodName) jdk_30_method_1_code (1 : Nat) (Option.none : Option Jvm.ClassFile.FieldType), Jvm.Cond.code ({ cls := "java/lang/Object", name := "<init>", desc := "()V" } : Jvm.MethodName) object_method_1_code (1 : Nat) (Option.none : Option Jvm.ClassFile.FieldType), Jvm.Cond.code ({ cls := "com/example/corrente/corrente/TimeWindow", name := "start", desc := "(J)J" } : Jvm.MethodName) prog_12_method_2_code (3 : Nat) (Option.some Jvm.ClassFile.FieldType.long), Jvm.Cond.code ({ cls := "com/example/corrente/corrente/TimeWindow", name := "close", desc := "(J)J" } : Jvm.MethodName) prog_12_method_3_code (3 : Nat) (Option.some Jvm.ClassFile.FieldType.long)]
set_option maxRecDepth 65536 in
theorem codes_eq : words1.filter isCode = codes1 := rfl
theorem w_codes : ∀ c ∈ words1.filter isCode, c.before args0 about1 = true := by
  rw [codes_eq]
  intro c hc
  simp only [codes1, List.mem_cons, List.not_mem_nil, or_false] at hc
  rcases hc with rfl | rfl | rfl | rfl | rfl | rfl
  · exact w_c0
  · exact w_c1
  · exact w_c2
  · exact w_c3
  · exact w_c4
  · exact w_c5
set_option maxRecDepth 65536 in
theorem w_t1 : (words1.take 24).all (fun c => isCode c || c.before args0 about1) = true := by decide +kernel
set_option maxRecDepth 65536 in
theorem w_t2 : ((words1.drop 24).take 24).all (fun c => isCode c || c.before args0 about1) = true := by decide +kernel
set_option maxRecDepth 65536 in
theorem w_t3 : ((words1.drop 24).drop 24).all (fun c => isCode c || c.before args0 about1) = true := by decide +kernel
theorem w_tables : (allAtoms (Jvm.Cond.code x code maxLocals ret :: tables_1)).before args0 about1 = true := by
  rw [allAtoms_all]
  show words1.all (fun c => c.before args0 about1) = true
  refine all_split ?_ w_codes
  rw [← List.take_append_drop 24 words1, List.all_append, w_t1, ← List.take_append_drop 24 (words1.drop 24), List.all_append, w_t2, w_t3]
  rfl
set_option maxRecDepth 65536 in
theorem w_case : (Jvm.Cond.and given_1 narrow_1).before args0 about1 = true := by decide +kernel
theorem w_applies : (headSpec (Jvm.Cond.code x code maxLocals ret :: tables_1) room_1).applies x e0.platform about1 = true :=
  (Spec.applies_iff w_frames).mpr ⟨w_running, w_runnable, w_alone, w_named, w_hears, w_ripe, w_room, w_tables⟩
theorem atStart : AtStart classFile x code maxLocals ret World_1 tables_1 room_1 Calls_1 rest_1 Pre_1 launch0 p0 e0 about1 theMethod args0 below0 :=
  ⟨lists_1, trivial, launch0.admits_env _ _ _, launch0.least_env, fairChoices_fair.cas, fairChoices_fair.clock, w_frames, w_args, w_heap, w_applies, trivial, trivial, w_case⟩
end start1
theorem witness_1 : WitnessClaimed_1 := ⟨start1.p0, start1.e0, start1.about1, start1.theMethod, start1.args0, start1.below0, start1.atStart⟩
end Jvm.Pilot.@@N@@
