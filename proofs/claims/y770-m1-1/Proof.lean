import JvmDerived
import JvmDerived.Pilot.@@N@@Statement
import JvmDerived.Pilot.@@N@@Code
set_option linter.unusedVariables false
set_option linter.unusedSimpArgs false
namespace Jvm.RoadKit
open Sem ClassFile Op Lib Jvm.Stand Jvm.Free Jvm.LawKit
section New
variable {p : Program} {l : Launch} {e : Env} {R : Room} {s : State} {m : MethodId} {args : Array Value} {below : List Frame} {meth : Method} {c : Code} {T : State} {locs : List Loc} {cells slots : Nat}
theorem retI (X : Stand p l e R s m args below meth c T locs cells slots) (hx : p.tables.exec = Jvm.exec) {pc : Nat} {Ls : Array Slot} {z : Int32} {rest : List Value} (hret : meth.sig.returnType = some .int) (hd : decode c.code pc = .ok (.ireturn, 1)) {fs : List Frame}
    (hl : ∀ (f : JFrame) (acts : List Action), f.method = m → f.locked = none → f.entered = [] → (doReturn e (T.setTop f) acts (some (.int z))).1 = T.setFrames fs) : Steps p.tables e below (T.setTop (mkF m pc Ls (.int z :: rest))) (T.setFrames fs) := by
  have hm' : T.vm.method? m = some meth := X.method'
  have hn : narrow .int (.int z) = .int z := rfl
  show Steps p.tables e below (T.setTop { method := m, pc := pc, locals := Ls, stack := _ :: rest, locked := none }) _
  jvm_step X.here [X.here.top, hx, hd, hm', hret, hn]
  first | (intro acts; rw [hl _ acts rfl rfl rfl]) | rw [hl _ _ rfl rfl rfl]
  exact Steps.refl _
theorem retJ (X : Stand p l e R s m args below meth c T locs cells slots) (hx : p.tables.exec = Jvm.exec) {pc : Nat} {Ls : Array Slot} {z : Int64} {rest : List Value} (hret : meth.sig.returnType = some .long) (hd : decode c.code pc = .ok (.lreturn, 1)) {fs : List Frame}
    (hl : ∀ (f : JFrame) (acts : List Action), f.method = m → f.locked = none → f.entered = [] → (doReturn e (T.setTop f) acts (some (.long z))).1 = T.setFrames fs) : Steps p.tables e below (T.setTop (mkF m pc Ls (.long z :: rest))) (T.setFrames fs) := by
  have hm' : T.vm.method? m = some meth := X.method'
  have hn : narrow .long (.long z) = .long z := rfl
  show Steps p.tables e below (T.setTop { method := m, pc := pc, locals := Ls, stack := _ :: rest, locked := none }) _
  jvm_step X.here [X.here.top, hx, hd, hm', hret, hn]
  first | (intro acts; rw [hl _ acts rfl rfl rfl]) | rw [hl _ _ rfl rfl rfl]
  exact Steps.refl _
theorem retD (X : Stand p l e R s m args below meth c T locs cells slots) (hx : p.tables.exec = Jvm.exec) {pc : Nat} {Ls : Array Slot} {z : UInt64} {rest : List Value} (hret : meth.sig.returnType = some .double) (hd : decode c.code pc = .ok (.dreturn, 1)) {fs : List Frame}
    (hl : ∀ (f : JFrame) (acts : List Action), f.method = m → f.locked = none → f.entered = [] → (doReturn e (T.setTop f) acts (some (.double z))).1 = T.setFrames fs) : Steps p.tables e below (T.setTop (mkF m pc Ls (.double z :: rest))) (T.setFrames fs) := by
  have hm' : T.vm.method? m = some meth := X.method'
  have hn : narrow .double (.double z) = .double z := rfl
  show Steps p.tables e below (T.setTop { method := m, pc := pc, locals := Ls, stack := _ :: rest, locked := none }) _
  jvm_step X.here [X.here.top, hx, hd, hm', hret, hn]
  first | (intro acts; rw [hl _ acts rfl rfl rfl]) | rw [hl _ _ rfl rfl rfl]
  exact Steps.refl _
end New
end Jvm.RoadKit
@@BLOCK:NumsL.lean.txt@@
namespace Jvm.Pilot.@@N@@
open Jvm Jvm.ClassFile Sem Op Lib Jvm.Free Jvm.Stand Jvm.LawKit Jvm.RoadKit Bundle Jvm.Pilot.@@N@@.Jvm.D
theorem own_len (f n : Int32) : (((f + n) - (1 : Int32)) - f) + (1 : Int32) = n := by grind
theorem own_last (f n : Int32) : (f - (1 : Int32)) + (n - (1 : Int32)) = ((f + n) - (1 : Int32)) - (1 : Int32) := by grind
theorem own_cnt (x : Int32) : (x &&& (7 : Int32)) + (1 : Int32) = (1 : Int32) ∨ (x &&& (7 : Int32)) + (1 : Int32) = (2 : Int32) ∨ (x &&& (7 : Int32)) + (1 : Int32) = (3 : Int32) ∨ (x &&& (7 : Int32)) + (1 : Int32) = (4 : Int32) ∨ (x &&& (7 : Int32)) + (1 : Int32) = (5 : Int32) ∨ (x &&& (7 : Int32)) + (1 : Int32) = (6 : Int32) ∨ (x &&& (7 : Int32)) + (1 : Int32) = (7 : Int32) ∨ (x &&& (7 : Int32)) + (1 : Int32) = (8 : Int32) := by
  have m := Jvm.Kit.i32_mask x 7 (k := 3) (by decide) (by decide)
  have e1 : (1 : Int32).toInt = 1 := by decide
  have a := Jvm.Kit.i32_add (p := x &&& (7 : Int32)) (q := (1 : Int32)) (by rw [m, e1]; omega) (by rw [m, e1]; omega)
  rw [m, e1] at a
  have e2 : (2 : Int32).toInt = 2 := by decide
  have e3 : (3 : Int32).toInt = 3 := by decide
  have e4 : (4 : Int32).toInt = 4 := by decide
  have e5 : (5 : Int32).toInt = 5 := by decide
  have e6 : (6 : Int32).toInt = 6 := by decide
  have e7 : (7 : Int32).toInt = 7 := by decide
  have e8 : (8 : Int32).toInt = 8 := by decide
  generalize (x &&& (7 : Int32)) + (1 : Int32) = z at a
  simp only [← Int32.toInt_inj, e1, e2, e3, e4, e5, e6, e7, e8]
  omega
theorem pn_java_lang_Record : plainName "java/lang/Record" = true := by first | (simp [plainName, overriddenIn]; done) | decide +kernel
theorem d4_0 : decode jdk_30_method_1_code 0 = .ok (.aload_n 0, 1) := by decide +kernel
theorem d4_1 : decode jdk_30_method_1_code 1 = .ok (.invokespecial 1, 3) := by decide +kernel
theorem d4_4 : decode jdk_30_method_1_code 4 = .ok (.return_, 1) := by decide +kernel
theorem ef_4 (m : MethodId) (x0 : Addr) : entryFrame m #[(.ref x0)] 1 = mkF m 0 #[.val (.ref x0)] [] := by first | (simp [entryFrame, mkF, argsToLocals, Value.category]; done) | rfl
def Q4 (Z : State) (aa0 : Addr) (h0 : Heap) (n0 : Nat) (v : Option Value) (h : Heap) (L : List Loc) : Prop := v = none ∧ Fr n0 L ∧ h = h0
set_option maxRecDepth 65536 in
set_option maxHeartbeats 40000000 in
theorem rm4 (l : Launch) (Z : State) (a0 : Array Value) (hw : ∀ d ∈ tables_1, d.before a0 Z = true) (ws : List Jvm.Cond) (aa0 : Addr) (h0 : Heap) (n0 : Nat) (Z0 : n0 ≤ h0.size) :
    MetFree l (⟨"java/lang/Record", "<init>", "()V"⟩ : MethodName) (head1 (Jvm.Cond.code (⟨"java/lang/Record", "<init>", "()V"⟩ : MethodName) jdk_30_method_1_code 1 none :: ws) ({ frames := 1, cells := 0, slots := 0, locals := 12 } : Room)) (fun a U => a = #[(.ref aa0)] ∧ Z.Warmed39 U.vm ∧ U.heap = h0) (fun _ _ _ _ _ => True) (fun _ U o U' => ∃ v L, o = .returned v ∧ Q4 Z aa0 h0 n0 v U'.heap L ∧ FrameEnd U o U' L ({ frames := 1, cells := 0, slots := 0, locals := 12 } : Room).cells ({ frames := 1, cells := 0, slots := 0, locals := 12 } : Room).slots) := by
  refine MetFree.of_bodySF (plainFor_of_name pn_java_lang_Record) hisR ?_
  intro p e s m args below meth c s₁ Bd hml0 hP hK
  obtain ⟨rfl, hZ, hh⟩ := hP
  have hx := Bd.exec
  have hby := Bd.bytes
  have hml : c.maxLocals = 1 := hml0
  have hown : s.vm.findClass "java/lang/Record" = some m.cls := findClass_of_methodNamed Bd.named
  have hnm := (name_of_methodNamed Bd.named Bd.method).1
  have X0 : Stand p l e ({ frames := 1, cells := 0, slots := 0, locals := 12 } : Room) s m #[(.ref aa0)] below meth c s₁ [] 0 0 := Stand.of_body Bd
  have e0 : s₁.heap = h0 := by rw [← hh, Bd.state]; rfl
  have N0 := Fr.nil n0
  have pre0 : ∀ t, Steps p.tables e below (s₁.setTop (mkF m 0 #[.val (.ref aa0)] [])) t → Steps p.tables e below (s₁.setTop (entryFrame m #[(.ref aa0)] 1)) t := fun t k => castTop (ef_4 m aa0) k
  obtain ⟨T1, X1, e1, st1⟩ := initO X0 hx hZ hown (hw _ (List.mem_of_getElem? (i := 27) rfl)) (hw _ (List.mem_of_getElem? (i := 28) rfl)) (hw _ (List.mem_of_getElem? (i := 29) rfl)) e0 (g := (mkF m 1 #[.val (.ref aa0)] [(.ref aa0)])) rfl (by rw [hml]; rfl) rfl (hb hby d4_1) (by decide) (W := 0) (by show 2 * 0 + _ ≤ _; exact Nat.le_of_eq rfl) (by decide)
  obtain ⟨fs, hr, hrun, hended, hW, hsame⟩ := X1.leave (v := none) (fun _ => rfl)
  refine ⟨_, _, pre0 _ ?_, hrun, hended, _, _, rfl, ?_, ⟨_, rfl⟩, hW, hsame.mono (by decide) (by decide)⟩
  · show Steps p.tables e below (s₁.setTop (mkF m 0 #[.val (.ref aa0)] [])) _
    refine XS.aloadN X0.here hx rfl (hb hby d4_0) rfl rfl ?_
    show Steps p.tables e below (s₁.setTop (mkF m 1 #[.val (.ref aa0)] [(.ref aa0)])) _
    refine st1 _ ?_
    show Steps p.tables e below (T1.setTop (mkF m 4 #[.val (.ref aa0)] [])) _
    exact X1.returnOut hx Bd.returns (hb hby d4_4) hr
  · show Q4 Z aa0 h0 n0 _ T1.heap _
    rw [e1]
    exact ⟨rfl, N0, rfl⟩
theorem pd__28__29_V : parseMethodDescriptor "()V" = some ⟨[], none⟩ := by decide +kernel
theorem pn_com_example_escapement_escapement_cli_PartitionTable_Partition : plainName "com/example/escapement/escapement/cli/PartitionTable$Partition" = true := by first | (simp [plainName, overriddenIn]; done) | decide +kernel
theorem d3_0 : decode prog_14_method_1_code 0 = .ok (.aload_n 0, 1) := by decide +kernel
theorem d3_1 : decode prog_14_method_1_code 1 = .ok (.invokespecial 1, 3) := by decide +kernel
theorem d3_4 : decode prog_14_method_1_code 4 = .ok (.aload_n 0, 1) := by decide +kernel
theorem d3_5 : decode prog_14_method_1_code 5 = .ok (.aload_n 1, 1) := by decide +kernel
theorem d3_6 : decode prog_14_method_1_code 6 = .ok (.putfield 7, 3) := by decide +kernel
theorem d3_9 : decode prog_14_method_1_code 9 = .ok (.aload_n 0, 1) := by decide +kernel
theorem d3_10 : decode prog_14_method_1_code 10 = .ok (.iload_n 2, 1) := by decide +kernel
theorem d3_11 : decode prog_14_method_1_code 11 = .ok (.putfield 13, 3) := by decide +kernel
theorem d3_14 : decode prog_14_method_1_code 14 = .ok (.aload_n 0, 1) := by decide +kernel
theorem d3_15 : decode prog_14_method_1_code 15 = .ok (.iload_n 3, 1) := by decide +kernel
theorem d3_16 : decode prog_14_method_1_code 16 = .ok (.putfield 17, 3) := by decide +kernel
theorem d3_19 : decode prog_14_method_1_code 19 = .ok (.return_, 1) := by decide +kernel
theorem ef_3 (m : MethodId) (x0 : Addr) (x1 : Addr) (x2 : Int32) (x3 : Int32) : entryFrame m #[(.ref x0), (.ref x1), (.int x2), (.int x3)] 4 = mkF m 0 #[.val (.ref x0), .val (.ref x1), .val (.int x2), .val (.int x3)] [] := by first | (simp [entryFrame, mkF, argsToLocals, Value.category]; done) | rfl
def Q3 (Z : State) (aa0 : Addr) (aa1 : Addr) (pp2 : Int32) (pp3 : Int32) (u_name : Value) (u_first : Value) (u_last : Value) (h0 : Heap) (n0 : Nat) (v : Option Value) (h : Heap) (L : List Loc) : Prop := v = none ∧ Fr n0 L ∧ Keep h0 h [aa0] ∧ (Fld Z h aa0 "com/example/escapement/escapement/cli/PartitionTable$Partition" "name" "Ljava/lang/String;" (.ref aa1)) ∧ (Fld Z h aa0 "com/example/escapement/escapement/cli/PartitionTable$Partition" "first" "I" (.int pp2)) ∧ (Fld Z h aa0 "com/example/escapement/escapement/cli/PartitionTable$Partition" "last" "I" (.int pp3))
set_option maxRecDepth 65536 in
set_option maxHeartbeats 40000000 in
theorem rm3 (l : Launch) (Z : State) (a0 : Array Value) (hw : ∀ d ∈ tables_1, d.before a0 Z = true) (ws : List Jvm.Cond) (aa0 : Addr) (aa1 : Addr) (pp2 : Int32) (pp3 : Int32) (u_name : Value) (u_first : Value) (u_last : Value) (h0 : Heap) (n0 : Nat) (Z0 : n0 ≤ h0.size) (E_aa0 : Exa Z h0 aa0 "com/example/escapement/escapement/cli/PartitionTable$Partition") (g_aa0 : n0 ≤ aa0) (F_aa0_name : Fld Z h0 aa0 "com/example/escapement/escapement/cli/PartitionTable$Partition" "name" "Ljava/lang/String;" u_name) (F_aa0_first : Fld Z h0 aa0 "com/example/escapement/escapement/cli/PartitionTable$Partition" "first" "I" u_first) (F_aa0_last : Fld Z h0 aa0 "com/example/escapement/escapement/cli/PartitionTable$Partition" "last" "I" u_last) :
    MetFree l (⟨"com/example/escapement/escapement/cli/PartitionTable$Partition", "<init>", "(Ljava/lang/String;II)V"⟩ : MethodName) (head1 (Jvm.Cond.code (⟨"com/example/escapement/escapement/cli/PartitionTable$Partition", "<init>", "(Ljava/lang/String;II)V"⟩ : MethodName) prog_14_method_1_code 4 none :: ws) ({ frames := 2, cells := 0, slots := 0, locals := 24 } : Room)) (fun a U => a = #[(.ref aa0), (.ref aa1), (.int pp2), (.int pp3)] ∧ Z.Warmed39 U.vm ∧ U.heap = h0) (fun _ _ _ _ _ => True) (fun _ U o U' => ∃ v L, o = .returned v ∧ Q3 Z aa0 aa1 pp2 pp3 u_name u_first u_last h0 n0 v U'.heap L ∧ FrameEnd U o U' L ({ frames := 2, cells := 0, slots := 0, locals := 24 } : Room).cells ({ frames := 2, cells := 0, slots := 0, locals := 24 } : Room).slots) := by
  refine MetFree.of_bodySF (plainFor_of_name pn_com_example_escapement_escapement_cli_PartitionTable_Partition) hisR ?_
  intro p e s m args below meth c s₁ Bd hml0 hP hK
  obtain ⟨rfl, hZ, hh⟩ := hP
  have hx := Bd.exec
  have hby := Bd.bytes
  have hml : c.maxLocals = 4 := hml0
  have hown : s.vm.findClass "com/example/escapement/escapement/cli/PartitionTable$Partition" = some m.cls := findClass_of_methodNamed Bd.named
  have hnm := (name_of_methodNamed Bd.named Bd.method).1
  have X0 : Stand p l e ({ frames := 2, cells := 0, slots := 0, locals := 24 } : Room) s m #[(.ref aa0), (.ref aa1), (.int pp2), (.int pp3)] below meth c s₁ [] 0 0 := Stand.of_body Bd
  have e0 : s₁.heap = h0 := by rw [← hh, Bd.state]; rfl
  have N0 := Fr.nil n0
  have pre0 : ∀ t, Steps p.tables e below (s₁.setTop (mkF m 0 #[.val (.ref aa0), .val (.ref aa1), .val (.int pp2), .val (.int pp3)] [])) t → Steps p.tables e below (s₁.setTop (entryFrame m #[(.ref aa0), (.ref aa1), (.int pp2), (.int pp3)] 4)) t := fun t k => castTop (ef_3 m aa0 aa1 pp2 pp3) k
  obtain ⟨_, _, ⟨T1, L1, k1, n1⟩, -, X1, ⟨Lc1, hQ1, l1, y1, z1⟩, st1⟩ := X0.specialBack hx (y := (⟨"java/lang/Record", "<init>", "()V"⟩ : MethodName)) rfl hown (mvT hZ (hw _ (List.mem_of_getElem? (i := 22) rfl))) (mvT hZ (hw _ (List.mem_of_getElem? (i := 23) rfl))) (mvT hZ (hw _ (List.mem_of_getElem? (i := 26) rfl))) (by decide) (backOf (W := 0) (rm4 l Z a0 hw [] aa0 h0 n0 Z0 ) hZ (hw _ (List.mem_of_getElem? (i := 26) rfl)) (hw _ (List.mem_of_getElem? (i := 25) rfl)) (by decide) (by decide)) (g := (mkF m 1 #[.val (.ref aa0), .val (.ref aa1), .val (.int pp2), .val (.int pp3)] [(.ref aa0)])) rfl (by rw [hml]; rfl) (Steps.refl _) (a := aa0) (argsL := []) (rest := []) (lenOf pd__28__29_V rfl) rfl (by show 2 * 0 + _ ≤ _; exact Nat.le_of_eq rfl) (hb hby d3_1) (fun _ _ => ⟨rfl, e0, (by decide : 0 + 0 ≤ _), (by decide : 0 + 0 ≤ _)⟩)
  dsimp only [Pt.U, Pt.locs, Pt.cells, Pt.slots] at X1 l1 y1 z1 st1 hQ1
  subst l1 y1 z1
  obtain ⟨rfl, N1q, e1⟩ := hQ1
  have N1 := Fr.app N0 N1q
  obtain ⟨T2, h2, X2, e2, W2, st2⟩ := putF X1 hx hZ hown (host := "") (Or.inl (hw _ (List.mem_of_getElem? (i := 30) rfl))) Via.refl e1 F_aa0_name E_aa0 (Or.inr ⟨(hw _ (List.mem_of_getElem? (i := 31) rfl)), rfl, hnm⟩) (hw _ (List.mem_of_getElem? (i := 9) rfl)) (ty := (.object "java/lang/String")) (by decide) rfl rfl (g := (mkF m 6 #[.val (.ref aa0), .val (.ref aa1), .val (.int pp2), .val (.int pp3)] [(.ref aa1), (.ref aa0)])) rfl rfl (hb hby d3_6)
  have N2 := Fr.snoc X2 N1 g_aa0
  have Z2 : n0 ≤ h2.size := Nat.le_trans Z0 (Keep.of_wr W2).1
  have K2 : Keep h0 h2 [aa0] := (Keep.refl h0 [aa0]).wr W2 (Or.inl (List.mem_of_getElem? (i := 0) rfl))
  have F2 : Fld Z h2 aa0 "com/example/escapement/escapement/cli/PartitionTable$Partition" "name" "Ljava/lang/String;" (.ref aa1) := F_aa0_name.same W2
  have E_3 : Exa Z h2 aa0 "com/example/escapement/escapement/cli/PartitionTable$Partition" := (E_aa0.wr W2)
  have F_4 : Fld Z h2 aa0 "com/example/escapement/escapement/cli/PartitionTable$Partition" "first" "I" u_first := (F_aa0_first.other W2 (Or.inr (slot_ne (Or.inr (hw _ (List.mem_of_getElem? (i := 33) rfl))) (Or.inr (hw _ (List.mem_of_getElem? (i := 31) rfl))) (by decide) (t := .int) (t' := (.object "java/lang/String")) (by decide) (by decide))))
  obtain ⟨T5, h5, X5, e5, W5, st5⟩ := putF X2 hx hZ hown (host := "") (Or.inl (hw _ (List.mem_of_getElem? (i := 32) rfl))) Via.refl e2 F_4 E_3 (Or.inr ⟨(hw _ (List.mem_of_getElem? (i := 33) rfl)), rfl, hnm⟩) (hw _ (List.mem_of_getElem? (i := 9) rfl)) (ty := .int) (by decide) rfl rfl (g := (mkF m 11 #[.val (.ref aa0), .val (.ref aa1), .val (.int pp2), .val (.int pp3)] [(.int pp2), (.ref aa0)])) rfl rfl (hb hby d3_11)
  have N5 := Fr.snoc X5 N2 g_aa0
  have Z5 : n0 ≤ h5.size := Nat.le_trans Z2 (Keep.of_wr W5).1
  have K5 : Keep h0 h5 [aa0] := K2.wr W5 (Or.inl (List.mem_of_getElem? (i := 0) rfl))
  have F5 : Fld Z h5 aa0 "com/example/escapement/escapement/cli/PartitionTable$Partition" "first" "I" (.int pp2) := F_4.same W5
  have E_6 : Exa Z h5 aa0 "com/example/escapement/escapement/cli/PartitionTable$Partition" := (E_3.wr W5)
  have F_7 : Fld Z h5 aa0 "com/example/escapement/escapement/cli/PartitionTable$Partition" "last" "I" u_last := ((F_aa0_last.other W2 (Or.inr (slot_ne (Or.inr (hw _ (List.mem_of_getElem? (i := 35) rfl))) (Or.inr (hw _ (List.mem_of_getElem? (i := 31) rfl))) (by decide) (t := .int) (t' := (.object "java/lang/String")) (by decide) (by decide)))).other W5 (Or.inr (slot_ne (Or.inr (hw _ (List.mem_of_getElem? (i := 35) rfl))) (Or.inr (hw _ (List.mem_of_getElem? (i := 33) rfl))) (by decide) (t := .int) (t' := .int) (by decide) (by decide))))
  obtain ⟨T8, h8, X8, e8, W8, st8⟩ := putF X5 hx hZ hown (host := "") (Or.inl (hw _ (List.mem_of_getElem? (i := 34) rfl))) Via.refl e5 F_7 E_6 (Or.inr ⟨(hw _ (List.mem_of_getElem? (i := 35) rfl)), rfl, hnm⟩) (hw _ (List.mem_of_getElem? (i := 9) rfl)) (ty := .int) (by decide) rfl rfl (g := (mkF m 16 #[.val (.ref aa0), .val (.ref aa1), .val (.int pp2), .val (.int pp3)] [(.int pp3), (.ref aa0)])) rfl rfl (hb hby d3_16)
  have N8 := Fr.snoc X8 N5 g_aa0
  have Z8 : n0 ≤ h8.size := Nat.le_trans Z5 (Keep.of_wr W8).1
  have K8 : Keep h0 h8 [aa0] := K5.wr W8 (Or.inl (List.mem_of_getElem? (i := 0) rfl))
  have F8 : Fld Z h8 aa0 "com/example/escapement/escapement/cli/PartitionTable$Partition" "last" "I" (.int pp3) := F_7.same W8
  have F_9 : Fld Z h8 aa0 "com/example/escapement/escapement/cli/PartitionTable$Partition" "name" "Ljava/lang/String;" (.ref aa1) := ((F2.other W5 (Or.inr (slot_ne (Or.inr (hw _ (List.mem_of_getElem? (i := 31) rfl))) (Or.inr (hw _ (List.mem_of_getElem? (i := 33) rfl))) (by decide) (t := (.object "java/lang/String")) (t' := .int) (by decide) (by decide)))).other W8 (Or.inr (slot_ne (Or.inr (hw _ (List.mem_of_getElem? (i := 31) rfl))) (Or.inr (hw _ (List.mem_of_getElem? (i := 35) rfl))) (by decide) (t := (.object "java/lang/String")) (t' := .int) (by decide) (by decide))))
  have F_10 : Fld Z h8 aa0 "com/example/escapement/escapement/cli/PartitionTable$Partition" "first" "I" (.int pp2) := (F5.other W8 (Or.inr (slot_ne (Or.inr (hw _ (List.mem_of_getElem? (i := 33) rfl))) (Or.inr (hw _ (List.mem_of_getElem? (i := 35) rfl))) (by decide) (t := .int) (t' := .int) (by decide) (by decide))))
  obtain ⟨fs, hr, hrun, hended, hW, hsame⟩ := X8.leave (v := none) (fun _ => rfl)
  refine ⟨_, _, pre0 _ ?_, hrun, hended, _, _, rfl, ?_, ⟨_, rfl⟩, hW, hsame.mono (by decide) (by decide)⟩
  · show Steps p.tables e below (s₁.setTop (mkF m 0 #[.val (.ref aa0), .val (.ref aa1), .val (.int pp2), .val (.int pp3)] [])) _
    refine XS.aloadN X0.here hx rfl (hb hby d3_0) rfl rfl ?_
    show Steps p.tables e below (s₁.setTop (mkF m 1 #[.val (.ref aa0), .val (.ref aa1), .val (.int pp2), .val (.int pp3)] [(.ref aa0)])) _
    refine st1.trans ?_
    show Steps p.tables e below (T1.setTop (mkF m 4 #[.val (.ref aa0), .val (.ref aa1), .val (.int pp2), .val (.int pp3)] [])) _
    refine XS.aloadN X1.here hx rfl (hb hby d3_4) rfl rfl ?_
    show Steps p.tables e below (T1.setTop (mkF m 5 #[.val (.ref aa0), .val (.ref aa1), .val (.int pp2), .val (.int pp3)] [(.ref aa0)])) _
    refine XS.aloadN X1.here hx rfl (hb hby d3_5) rfl rfl ?_
    show Steps p.tables e below (T1.setTop (mkF m 6 #[.val (.ref aa0), .val (.ref aa1), .val (.int pp2), .val (.int pp3)] [(.ref aa1), (.ref aa0)])) _
    refine st2 _ ?_
    show Steps p.tables e below (T2.setTop (mkF m 9 #[.val (.ref aa0), .val (.ref aa1), .val (.int pp2), .val (.int pp3)] [])) _
    refine XS.aloadN X2.here hx rfl (hb hby d3_9) rfl rfl ?_
    show Steps p.tables e below (T2.setTop (mkF m 10 #[.val (.ref aa0), .val (.ref aa1), .val (.int pp2), .val (.int pp3)] [(.ref aa0)])) _
    refine XS.iloadN X2.here hx rfl (hb hby d3_10) rfl ?_
    show Steps p.tables e below (T2.setTop (mkF m 11 #[.val (.ref aa0), .val (.ref aa1), .val (.int pp2), .val (.int pp3)] [(.int pp2), (.ref aa0)])) _
    refine st5 _ ?_
    show Steps p.tables e below (T5.setTop (mkF m 14 #[.val (.ref aa0), .val (.ref aa1), .val (.int pp2), .val (.int pp3)] [])) _
    refine XS.aloadN X5.here hx rfl (hb hby d3_14) rfl rfl ?_
    show Steps p.tables e below (T5.setTop (mkF m 15 #[.val (.ref aa0), .val (.ref aa1), .val (.int pp2), .val (.int pp3)] [(.ref aa0)])) _
    refine XS.iloadN X5.here hx rfl (hb hby d3_15) rfl ?_
    show Steps p.tables e below (T5.setTop (mkF m 16 #[.val (.ref aa0), .val (.ref aa1), .val (.int pp2), .val (.int pp3)] [(.int pp3), (.ref aa0)])) _
    refine st8 _ ?_
    show Steps p.tables e below (T8.setTop (mkF m 19 #[.val (.ref aa0), .val (.ref aa1), .val (.int pp2), .val (.int pp3)] [])) _
    exact X8.returnOut hx Bd.returns (hb hby d3_19) hr
  · show Q3 Z aa0 aa1 pp2 pp3 u_name u_first u_last h0 n0 _ T8.heap _
    rw [e8]
    exact ⟨rfl, N8, K8, F_9, F_10, F8⟩
theorem d1_0 : decode jdk_29_method_65_code 0 = .ok (.iload_n 0, 1) := by decide +kernel
theorem d1_1 : decode jdk_29_method_65_code 1 = .ok (.iload_n 1, 1) := by decide +kernel
theorem d1_2 : decode jdk_29_method_65_code 2 = .ok (.if_icmp .lt 7, 3) := by decide +kernel
theorem d1_5 : decode jdk_29_method_65_code 5 = .ok (.iload_n 0, 1) := by decide +kernel
theorem d1_6 : decode jdk_29_method_65_code 6 = .ok (.goto 4, 3) := by decide +kernel
theorem d1_9 : decode jdk_29_method_65_code 9 = .ok (.iload_n 1, 1) := by decide +kernel
theorem d1_10 : decode jdk_29_method_65_code 10 = .ok (.ireturn, 1) := by decide +kernel
theorem ef_1 (m : MethodId) (x0 : Int32) (x1 : Int32) : entryFrame m #[(.int x0), (.int x1)] 2 = mkF m 0 #[.val (.int x0), .val (.int x1)] [] := by first | (simp [entryFrame, mkF, argsToLocals, Value.category]; done) | rfl
def Q1 (Z : State) (pp1 : Int32) (pp2 : Int32) (h0 : Heap) (n0 : Nat) (v : Option Value) (h : Heap) (L : List Loc) : Prop := v = some (.int (if pp1 < pp2 then pp2 else pp1)) ∧ Fr n0 L ∧ h = h0
set_option maxRecDepth 65536 in
set_option maxHeartbeats 40000000 in
theorem rm1 (l : Launch) (Z : State) (a0 : Array Value) (hw : ∀ d ∈ tables_1, d.before a0 Z = true) (ws : List Jvm.Cond) (pp1 : Int32) (pp2 : Int32) (h0 : Heap) (n0 : Nat) (Z0 : n0 ≤ h0.size) :
    MetFree l (⟨"java/lang/Math", "max", "(II)I"⟩ : MethodName) (head1 (Jvm.Cond.code (⟨"java/lang/Math", "max", "(II)I"⟩ : MethodName) jdk_29_method_65_code 2 (some .int) :: ws) ({ frames := 0, cells := 0, slots := 0, locals := 0 } : Room)) (fun a U => a = #[(.int pp1), (.int pp2)] ∧ Z.Warmed39 U.vm ∧ U.heap = h0) (fun _ _ _ _ _ => True) (fun _ U o U' => ∃ v L, o = .returned v ∧ Q1 Z pp1 pp2 h0 n0 v U'.heap L ∧ FrameEnd U o U' L ({ frames := 0, cells := 0, slots := 0, locals := 0 } : Room).cells ({ frames := 0, cells := 0, slots := 0, locals := 0 } : Room).slots) := by
  refine MetFree.of_bodySF (Jvm.Free.JP.mathPlain rfl (by decide +kernel)) hisR ?_
  intro p e s m args below meth c s₁ Bd hml0 hP hK
  obtain ⟨rfl, hZ, hh⟩ := hP
  have hx := Bd.exec
  have hby := Bd.bytes
  have hml : c.maxLocals = 2 := hml0
  have hown : s.vm.findClass "java/lang/Math" = some m.cls := findClass_of_methodNamed Bd.named
  have hnm := (name_of_methodNamed Bd.named Bd.method).1
  have X0 : Stand p l e ({ frames := 0, cells := 0, slots := 0, locals := 0 } : Room) s m #[(.int pp1), (.int pp2)] below meth c s₁ [] 0 0 := Stand.of_body Bd
  have e0 : s₁.heap = h0 := by rw [← hh, Bd.state]; rfl
  have N0 := Fr.nil n0
  have pre0 : ∀ t, Steps p.tables e below (s₁.setTop (mkF m 0 #[.val (.int pp1), .val (.int pp2)] [])) t → Steps p.tables e below (s₁.setTop (entryFrame m #[(.int pp1), (.int pp2)] 2)) t := fun t k => castTop (ef_1 m pp1 pp2) k
  have pre1 : ∀ t, Steps p.tables e below (s₁.setTop (mkF m 2 #[.val (.int pp1), .val (.int pp2)] [(.int pp2), (.int pp1)])) t → Steps p.tables e below (s₁.setTop (entryFrame m #[(.int pp1), (.int pp2)] 2)) t := fun t kt => pre0 t (by
    show Steps p.tables e below (s₁.setTop (mkF m 0 #[.val (.int pp1), .val (.int pp2)] [])) _
    refine XS.iloadN X0.here hx rfl (hb hby d1_0) rfl ?_
    show Steps p.tables e below (s₁.setTop (mkF m 1 #[.val (.int pp1), .val (.int pp2)] [(.int pp1)])) _
    refine XS.iloadN X0.here hx rfl (hb hby d1_1) rfl ?_
    exact kt)
  by_cases hc2 : pp1 < pp2
  · skip
    obtain ⟨fs, hr, hrun, hended, hW, hsame⟩ := X0.leave (v := some (.int pp2)) (fun h => by rw [Bd.returns] at h; cases h)
    refine ⟨_, _, pre1 _ ?_, hrun, hended, _, _, rfl, ?_, ⟨_, rfl⟩, hW, hsame.mono (by decide) (by decide)⟩
    · show Steps p.tables e below (s₁.setTop (mkF m 2 #[.val (.int pp1), .val (.int pp2)] [(.int pp2), (.int pp1)])) _
      refine XS.icmpYes X0.here hx rfl (pc0 := 2) (pc' := 9) rfl (hb hby d1_2) rfl (tlt hc2).1 (by decide) (by decide) ?_
      show Steps p.tables e below (s₁.setTop (mkF m 9 #[.val (.int pp1), .val (.int pp2)] [])) _
      refine XS.iloadN X0.here hx rfl (hb hby d1_9) rfl ?_
      show Steps p.tables e below (s₁.setTop (mkF m 10 #[.val (.int pp1), .val (.int pp2)] [(.int pp2)])) _
      exact retI X0 hx Bd.returns (hb hby d1_10) hr
    · show Q1 Z pp1 pp2 h0 n0 _ s₁.heap _
      rw [e0]
      exact ⟨(by first | rw [if_pos hc2] | rw [if_neg hc2]), N0, rfl⟩
  · skip
    obtain ⟨fs, hr, hrun, hended, hW, hsame⟩ := X0.leave (v := some (.int pp1)) (fun h => by rw [Bd.returns] at h; cases h)
    refine ⟨_, _, pre1 _ ?_, hrun, hended, _, _, rfl, ?_, ⟨_, rfl⟩, hW, hsame.mono (by decide) (by decide)⟩
    · show Steps p.tables e below (s₁.setTop (mkF m 2 #[.val (.int pp1), .val (.int pp2)] [(.int pp2), (.int pp1)])) _
      refine XS.icmpNo X0.here hx rfl (hb hby d1_2) rfl (flt hc2).1 ?_
      show Steps p.tables e below (s₁.setTop (mkF m 5 #[.val (.int pp1), .val (.int pp2)] [])) _
      refine XS.iloadN X0.here hx rfl (hb hby d1_5) rfl ?_
      show Steps p.tables e below (s₁.setTop (mkF m 6 #[.val (.int pp1), .val (.int pp2)] [(.int pp1)])) _
      refine XS.goto X0.here hx rfl (pc0 := 6) (pc' := 10) rfl (hb hby d1_6) (by decide) (by decide) ?_
      show Steps p.tables e below (s₁.setTop (mkF m 10 #[.val (.int pp1), .val (.int pp2)] [(.int pp1)])) _
      exact retI X0 hx Bd.returns (hb hby d1_10) hr
    · show Q1 Z pp1 pp2 h0 n0 _ s₁.heap _
      rw [e0]
      exact ⟨(by first | rw [if_pos hc2] | rw [if_neg hc2]), N0, rfl⟩
theorem d2_0 : decode jdk_29_method_69_code 0 = .ok (.iload_n 0, 1) := by decide +kernel
theorem d2_1 : decode jdk_29_method_69_code 1 = .ok (.iload_n 1, 1) := by decide +kernel
theorem d2_2 : decode jdk_29_method_69_code 2 = .ok (.if_icmp .gt 7, 3) := by decide +kernel
theorem d2_5 : decode jdk_29_method_69_code 5 = .ok (.iload_n 0, 1) := by decide +kernel
theorem d2_6 : decode jdk_29_method_69_code 6 = .ok (.goto 4, 3) := by decide +kernel
theorem d2_9 : decode jdk_29_method_69_code 9 = .ok (.iload_n 1, 1) := by decide +kernel
theorem d2_10 : decode jdk_29_method_69_code 10 = .ok (.ireturn, 1) := by decide +kernel
theorem ef_2 (m : MethodId) (x0 : Int32) (x1 : Int32) : entryFrame m #[(.int x0), (.int x1)] 2 = mkF m 0 #[.val (.int x0), .val (.int x1)] [] := by first | (simp [entryFrame, mkF, argsToLocals, Value.category]; done) | rfl
def Q2 (Z : State) (pp1 : Int32) (pp2 : Int32) (h0 : Heap) (n0 : Nat) (v : Option Value) (h : Heap) (L : List Loc) : Prop := v = some (.int (if pp2 < pp1 then pp2 else pp1)) ∧ Fr n0 L ∧ h = h0
set_option maxRecDepth 65536 in
set_option maxHeartbeats 40000000 in
theorem rm2 (l : Launch) (Z : State) (a0 : Array Value) (hw : ∀ d ∈ tables_1, d.before a0 Z = true) (ws : List Jvm.Cond) (pp1 : Int32) (pp2 : Int32) (h0 : Heap) (n0 : Nat) (Z0 : n0 ≤ h0.size) :
    MetFree l (⟨"java/lang/Math", "min", "(II)I"⟩ : MethodName) (head1 (Jvm.Cond.code (⟨"java/lang/Math", "min", "(II)I"⟩ : MethodName) jdk_29_method_69_code 2 (some .int) :: ws) ({ frames := 0, cells := 0, slots := 0, locals := 0 } : Room)) (fun a U => a = #[(.int pp1), (.int pp2)] ∧ Z.Warmed39 U.vm ∧ U.heap = h0) (fun _ _ _ _ _ => True) (fun _ U o U' => ∃ v L, o = .returned v ∧ Q2 Z pp1 pp2 h0 n0 v U'.heap L ∧ FrameEnd U o U' L ({ frames := 0, cells := 0, slots := 0, locals := 0 } : Room).cells ({ frames := 0, cells := 0, slots := 0, locals := 0 } : Room).slots) := by
  refine MetFree.of_bodySF (Jvm.Free.JP.mathPlain rfl (by decide +kernel)) hisR ?_
  intro p e s m args below meth c s₁ Bd hml0 hP hK
  obtain ⟨rfl, hZ, hh⟩ := hP
  have hx := Bd.exec
  have hby := Bd.bytes
  have hml : c.maxLocals = 2 := hml0
  have hown : s.vm.findClass "java/lang/Math" = some m.cls := findClass_of_methodNamed Bd.named
  have hnm := (name_of_methodNamed Bd.named Bd.method).1
  have X0 : Stand p l e ({ frames := 0, cells := 0, slots := 0, locals := 0 } : Room) s m #[(.int pp1), (.int pp2)] below meth c s₁ [] 0 0 := Stand.of_body Bd
  have e0 : s₁.heap = h0 := by rw [← hh, Bd.state]; rfl
  have N0 := Fr.nil n0
  have pre0 : ∀ t, Steps p.tables e below (s₁.setTop (mkF m 0 #[.val (.int pp1), .val (.int pp2)] [])) t → Steps p.tables e below (s₁.setTop (entryFrame m #[(.int pp1), (.int pp2)] 2)) t := fun t k => castTop (ef_2 m pp1 pp2) k
  have pre1 : ∀ t, Steps p.tables e below (s₁.setTop (mkF m 2 #[.val (.int pp1), .val (.int pp2)] [(.int pp2), (.int pp1)])) t → Steps p.tables e below (s₁.setTop (entryFrame m #[(.int pp1), (.int pp2)] 2)) t := fun t kt => pre0 t (by
    show Steps p.tables e below (s₁.setTop (mkF m 0 #[.val (.int pp1), .val (.int pp2)] [])) _
    refine XS.iloadN X0.here hx rfl (hb hby d2_0) rfl ?_
    show Steps p.tables e below (s₁.setTop (mkF m 1 #[.val (.int pp1), .val (.int pp2)] [(.int pp1)])) _
    refine XS.iloadN X0.here hx rfl (hb hby d2_1) rfl ?_
    exact kt)
  by_cases hc2 : pp2 < pp1
  · skip
    obtain ⟨fs, hr, hrun, hended, hW, hsame⟩ := X0.leave (v := some (.int pp2)) (fun h => by rw [Bd.returns] at h; cases h)
    refine ⟨_, _, pre1 _ ?_, hrun, hended, _, _, rfl, ?_, ⟨_, rfl⟩, hW, hsame.mono (by decide) (by decide)⟩
    · show Steps p.tables e below (s₁.setTop (mkF m 2 #[.val (.int pp1), .val (.int pp2)] [(.int pp2), (.int pp1)])) _
      refine XS.icmpYes X0.here hx rfl (pc0 := 2) (pc' := 9) rfl (hb hby d2_2) rfl (tlt hc2).2.2.1 (by decide) (by decide) ?_
      show Steps p.tables e below (s₁.setTop (mkF m 9 #[.val (.int pp1), .val (.int pp2)] [])) _
      refine XS.iloadN X0.here hx rfl (hb hby d2_9) rfl ?_
      show Steps p.tables e below (s₁.setTop (mkF m 10 #[.val (.int pp1), .val (.int pp2)] [(.int pp2)])) _
      exact retI X0 hx Bd.returns (hb hby d2_10) hr
    · show Q2 Z pp1 pp2 h0 n0 _ s₁.heap _
      rw [e0]
      exact ⟨(by first | rw [if_pos hc2] | rw [if_neg hc2]), N0, rfl⟩
  · skip
    obtain ⟨fs, hr, hrun, hended, hW, hsame⟩ := X0.leave (v := some (.int pp1)) (fun h => by rw [Bd.returns] at h; cases h)
    refine ⟨_, _, pre1 _ ?_, hrun, hended, _, _, rfl, ?_, ⟨_, rfl⟩, hW, hsame.mono (by decide) (by decide)⟩
    · show Steps p.tables e below (s₁.setTop (mkF m 2 #[.val (.int pp1), .val (.int pp2)] [(.int pp2), (.int pp1)])) _
      refine XS.icmpNo X0.here hx rfl (hb hby d2_2) rfl (flt hc2).2.2.1 ?_
      show Steps p.tables e below (s₁.setTop (mkF m 5 #[.val (.int pp1), .val (.int pp2)] [])) _
      refine XS.iloadN X0.here hx rfl (hb hby d2_5) rfl ?_
      show Steps p.tables e below (s₁.setTop (mkF m 6 #[.val (.int pp1), .val (.int pp2)] [(.int pp1)])) _
      refine XS.goto X0.here hx rfl (pc0 := 6) (pc' := 10) rfl (hb hby d2_6) (by decide) (by decide) ?_
      show Steps p.tables e below (s₁.setTop (mkF m 10 #[.val (.int pp1), .val (.int pp2)] [(.int pp1)])) _
      exact retI X0 hx Bd.returns (hb hby d2_10) hr
    · show Q2 Z pp1 pp2 h0 n0 _ s₁.heap _
      rw [e0]
      exact ⟨(by first | rw [if_pos hc2] | rw [if_neg hc2]), N0, rfl⟩
theorem d6_0 : decode prog_14_method_2_code 0 = .ok (.aload_n 0, 1) := by decide +kernel
theorem d6_1 : decode prog_14_method_2_code 1 = .ok (.getfield 17, 3) := by decide +kernel
theorem d6_4 : decode prog_14_method_2_code 4 = .ok (.aload_n 0, 1) := by decide +kernel
theorem d6_5 : decode prog_14_method_2_code 5 = .ok (.getfield 13, 3) := by decide +kernel
theorem d6_8 : decode prog_14_method_2_code 8 = .ok (.isub, 1) := by decide +kernel
theorem d6_9 : decode prog_14_method_2_code 9 = .ok (.iconst 1, 1) := by decide +kernel
theorem d6_10 : decode prog_14_method_2_code 10 = .ok (.iadd, 1) := by decide +kernel
theorem d6_11 : decode prog_14_method_2_code 11 = .ok (.newarray .int, 2) := by decide +kernel
theorem d6_13 : decode prog_14_method_2_code 13 = .ok (.astore_n 1, 1) := by decide +kernel
theorem d6_14 : decode prog_14_method_2_code 14 = .ok (.iconst 0, 1) := by decide +kernel
theorem d6_15 : decode prog_14_method_2_code 15 = .ok (.istore_n 2, 1) := by decide +kernel
theorem d6_16 : decode prog_14_method_2_code 16 = .ok (.iload_n 2, 1) := by decide +kernel
theorem d6_17 : decode prog_14_method_2_code 17 = .ok (.aload_n 1, 1) := by decide +kernel
theorem d6_18 : decode prog_14_method_2_code 18 = .ok (.arraylength, 1) := by decide +kernel
theorem d6_19 : decode prog_14_method_2_code 19 = .ok (.if_icmp .ge 20, 3) := by decide +kernel
theorem d6_22 : decode prog_14_method_2_code 22 = .ok (.aload_n 1, 1) := by decide +kernel
theorem d6_23 : decode prog_14_method_2_code 23 = .ok (.iload_n 2, 1) := by decide +kernel
theorem d6_24 : decode prog_14_method_2_code 24 = .ok (.aload_n 0, 1) := by decide +kernel
theorem d6_25 : decode prog_14_method_2_code 25 = .ok (.getfield 13, 3) := by decide +kernel
theorem d6_28 : decode prog_14_method_2_code 28 = .ok (.iconst 1, 1) := by decide +kernel
theorem d6_29 : decode prog_14_method_2_code 29 = .ok (.isub, 1) := by decide +kernel
theorem d6_30 : decode prog_14_method_2_code 30 = .ok (.iload_n 2, 1) := by decide +kernel
theorem d6_31 : decode prog_14_method_2_code 31 = .ok (.iadd, 1) := by decide +kernel
theorem d6_32 : decode prog_14_method_2_code 32 = .ok (.iastore, 1) := by decide +kernel
theorem d6_33 : decode prog_14_method_2_code 33 = .ok (.iinc 2 1, 3) := by decide +kernel
theorem d6_36 : decode prog_14_method_2_code 36 = .ok (.goto (-20), 3) := by decide +kernel
theorem d6_39 : decode prog_14_method_2_code 39 = .ok (.aload_n 1, 1) := by decide +kernel
theorem d6_40 : decode prog_14_method_2_code 40 = .ok (.areturn, 1) := by decide +kernel
theorem ef_6_1 (m : MethodId) (x0 : Addr) : entryFrame m #[(.ref x0)] 3 = mkF m 0 #[.val (.ref x0), .unset, .unset] [] := by first | (simp [entryFrame, mkF, argsToLocals, Value.category]; done) | rfl
def Q6_1 (Z : State) (aa0 : Addr) (fi : Int32) (la : Int32) (h0 : Heap) (n0 : Nat) (v : Option Value) (h : Heap) (L : List Loc) : Prop := ∃ (bx : Addr), ∃ (kx : ClassId), v = some (.ref bx) ∧ Fr n0 L ∧ Keep h0 h [] ∧ n0 ≤ bx ∧ h0.size ≤ bx ∧ (Arv Z h bx kx .int (1 : Int32) [(.int ((fi - (1 : Int32)) + (0 : Int32)))] (.int (0 : Int32)))
set_option maxRecDepth 65536 in
set_option maxHeartbeats 40000000 in
theorem rm6_1 (l : Launch) (Z : State) (a0 : Array Value) (hw : ∀ d ∈ tables_1, d.before a0 Z = true) (ws : List Jvm.Cond) (aa0 : Addr) (fi : Int32) (la : Int32) (h0 : Heap) (n0 : Nat) (Z0 : n0 ≤ h0.size) (F_aa0_first : Fld Z h0 aa0 "com/example/escapement/escapement/cli/PartitionTable$Partition" "first" "I" (.int fi)) (F_aa0_last : Fld Z h0 aa0 "com/example/escapement/escapement/cli/PartitionTable$Partition" "last" "I" (.int la)) (hlen : ((la - fi) + (1 : Int32)) = (1 : Int32)) :
    MetFree l (⟨"com/example/escapement/escapement/cli/PartitionTable$Partition", "sites", "()[I"⟩ : MethodName) (head1 (Jvm.Cond.code (⟨"com/example/escapement/escapement/cli/PartitionTable$Partition", "sites", "()[I"⟩ : MethodName) prog_14_method_2_code 3 (some (.array .int)) :: ws) ({ frames := 0, cells := 1, slots := 1, locals := 0 } : Room)) (fun a U => a = #[(.ref aa0)] ∧ Z.Warmed39 U.vm ∧ U.heap = h0) (fun _ _ _ _ _ => True) (fun _ U o U' => ∃ v L, o = .returned v ∧ Q6_1 Z aa0 fi la h0 n0 v U'.heap L ∧ FrameEnd U o U' L ({ frames := 0, cells := 1, slots := 1, locals := 0 } : Room).cells ({ frames := 0, cells := 1, slots := 1, locals := 0 } : Room).slots) := by
  refine MetFree.of_bodySF (plainFor_of_name pn_com_example_escapement_escapement_cli_PartitionTable_Partition) hisR ?_
  intro p e s m args below meth c s₁ Bd hml0 hP hK
  obtain ⟨rfl, hZ, hh⟩ := hP
  have hx := Bd.exec
  have hby := Bd.bytes
  have hml : c.maxLocals = 3 := hml0
  have hown : s.vm.findClass "com/example/escapement/escapement/cli/PartitionTable$Partition" = some m.cls := findClass_of_methodNamed Bd.named
  have hnm := (name_of_methodNamed Bd.named Bd.method).1
  have X0 : Stand p l e ({ frames := 0, cells := 1, slots := 1, locals := 0 } : Room) s m #[(.ref aa0)] below meth c s₁ [] 0 0 := Stand.of_body Bd
  have e0 : s₁.heap = h0 := by rw [← hh, Bd.state]; rfl
  have N0 := Fr.nil n0
  have pre0 : ∀ t, Steps p.tables e below (s₁.setTop (mkF m 0 #[.val (.ref aa0), .unset, .unset] [])) t → Steps p.tables e below (s₁.setTop (entryFrame m #[(.ref aa0)] 3)) t := fun t k => castTop (ef_6_1 m aa0) k
  obtain ⟨T1, X1, e1, st1⟩ := getF X0 hx hZ hown (host := "") (Or.inl (hw _ (List.mem_of_getElem? (i := 34) rfl))) Via.refl e0 F_aa0_last (g := (mkF m 1 #[.val (.ref aa0), .unset, .unset] [(.ref aa0)])) rfl rfl (hb hby d6_1)
  obtain ⟨T2, X2, e2, st2⟩ := getF X1 hx hZ hown (host := "") (Or.inl (hw _ (List.mem_of_getElem? (i := 32) rfl))) Via.refl e1 F_aa0_first (g := (mkF m 5 #[.val (.ref aa0), .unset, .unset] [(.ref aa0), (.int la)])) rfl rfl (hb hby d6_5)
  have pre3 : ∀ t, Steps p.tables e below (T2.setTop (mkF m 11 #[.val (.ref aa0), .unset, .unset] [(.int ((la - fi) + (1 : Int32)))])) t → Steps p.tables e below (s₁.setTop (entryFrame m #[(.ref aa0)] 3)) t := fun t kt => pre0 t (by
    show Steps p.tables e below (s₁.setTop (mkF m 0 #[.val (.ref aa0), .unset, .unset] [])) _
    refine XS.aloadN X0.here hx rfl (hb hby d6_0) rfl rfl ?_
    show Steps p.tables e below (s₁.setTop (mkF m 1 #[.val (.ref aa0), .unset, .unset] [(.ref aa0)])) _
    refine st1 _ ?_
    show Steps p.tables e below (T1.setTop (mkF m 4 #[.val (.ref aa0), .unset, .unset] [(.int la)])) _
    refine XS.aloadN X1.here hx rfl (hb hby d6_4) rfl rfl ?_
    show Steps p.tables e below (T1.setTop (mkF m 5 #[.val (.ref aa0), .unset, .unset] [(.ref aa0), (.int la)])) _
    refine st2 _ ?_
    show Steps p.tables e below (T2.setTop (mkF m 8 #[.val (.ref aa0), .unset, .unset] [(.int fi), (.int la)])) _
    refine XS.isub X2.here hx rfl (hb hby d6_8) rfl ?_
    show Steps p.tables e below (T2.setTop (mkF m 9 #[.val (.ref aa0), .unset, .unset] [(.int (la - fi))])) _
    refine XS.iconst X2.here hx rfl (hb hby d6_9) ?_
    show Steps p.tables e below (T2.setTop (mkF m 10 #[.val (.ref aa0), .unset, .unset] [(.int (1 : Int32)), (.int (la - fi))])) _
    refine XS.iadd X2.here hx rfl (hb hby d6_10) rfl ?_
    exact kt)
  obtain ⟨nn, h_nn, pre4⟩ : ∃ (nn : Int32), (nn = (1 : Int32)) ∧ ∀ t, Steps p.tables e below (T2.setTop (mkF m 11 #[.val (.ref aa0), .unset, .unset] [(.int nn)])) t → Steps p.tables e below (s₁.setTop (entryFrame m #[(.ref aa0)] 3)) t := ⟨((la - fi) + (1 : Int32)), hlen, pre3⟩
  subst h_nn
  obtain ⟨T5, h5, k5, X5, e5, E5, A5, st5⟩ := newP X2 hx hZ (hw _ (List.mem_of_getElem? (i := 41) rfl)) e2 (g := (mkF m 11 #[.val (.ref aa0), .unset, .unset] [(.int (1 : Int32))])) rfl (hb hby d6_11) rfl (by decide) (cap := 1) (by decide) (by decide) (by decide) (by decide)
  obtain ⟨b5, g5⟩ : ∃ z, z = h0.size := ⟨_, rfl⟩
  rw [← g5] at A5 st5
  have g_b5 : n0 ≤ b5 := Nat.le_trans Z0 (Nat.le_of_eq g5.symm)
  have sz_b5 : h0.size ≤ b5 := Nat.le_trans (Keep.refl h0 []).1 (Nat.le_of_eq g5.symm)
  have Z5 : n0 ≤ h5.size := Nat.le_trans Z0 E5.1
  have K5 : Keep h0 h5 [] := (Keep.refl h0 []).ext E5
  have V5 : Arv Z h5 b5 k5 .int (1 : Int32) [(.int (0 : Int32))] (.int (0 : Int32)) := (Arv.new A5 (by decide)).pad (pad_rep [] (.int (0 : Int32)) 1)
  obtain ⟨cl_6, Ar_6, -, Sz_6, Nn_6, -, -⟩ := id V5
  have hc19 : (0 : Int32) < (1 : Int32) := by decide
  have F_7 : Fld Z h5 aa0 "com/example/escapement/escapement/cli/PartitionTable$Partition" "first" "I" (.int fi) := (F_aa0_first.ext E5)
  obtain ⟨T8, X8, e8, st8⟩ := getF X5 hx hZ hown (host := "") (Or.inl (hw _ (List.mem_of_getElem? (i := 32) rfl))) Via.refl e5 F_7 (g := (mkF m 25 #[.val (.ref aa0), .val (.ref b5), .val (.int (0 : Int32))] [(.ref aa0), (.int (0 : Int32)), (.ref b5)])) rfl rfl (hb hby d6_25)
  obtain ⟨cl_9, Ar_9, qq_9, Sz_9, Nn_9, Hh_9, Gg_9⟩ := id V5
  have hin_9 : ¬ ((0 : Int32) < 0 ∨ cl_9.slots.size ≤ ((0 : Int32)).toNatClampNeg) := inb_of Sz_9 ⟨by decide, by decide⟩
  obtain ⟨T10, h10, X10, e10, W10, st10⟩ := stI X8 hx hZ e8 Ar_9 (j := (0 : Int32)) hin_9 (g := (mkF m 32 #[.val (.ref aa0), .val (.ref b5), .val (.int (0 : Int32))] [(.int ((fi - (1 : Int32)) + (0 : Int32))), (.int (0 : Int32)), (.ref b5)])) rfl rfl (hb hby d6_32)
  have N10 := Fr.snoc X10 N0 g_b5
  have Z10 : n0 ≤ h10.size := Nat.le_trans Z5 (Keep.of_wr W10).1
  have K10 : Keep h0 h10 [] := K5.wr W10 (Or.inr sz_b5)
  have V10 : Arv Z h10 b5 k5 .int (1 : Int32) [(.int ((fi - (1 : Int32)) + (0 : Int32)))] (.int (0 : Int32)) := Arv.set Ar_9 qq_9 Sz_9 Nn_9 Hh_9 Gg_9 rfl W10 0 rfl (Nat.le_of_ble_eq_true rfl)
  obtain ⟨cl_11, Ar_11, -, Sz_11, Nn_11, -, -⟩ := id V10
  have hc19_2 : ¬ ((1 : Int32) < (1 : Int32)) := by decide
  obtain ⟨fs, hr, hrun, hended, hW, hsame⟩ := X10.leave (v := some (.ref b5)) (fun h => by rw [Bd.returns] at h; cases h)
  refine ⟨_, _, pre4 _ ?_, hrun, hended, _, _, rfl, ?_, ⟨_, rfl⟩, hW, hsame.mono (by decide) (by decide)⟩
  · show Steps p.tables e below (T2.setTop (mkF m 11 #[.val (.ref aa0), .unset, .unset] [(.int (1 : Int32))])) _
    refine st5 _ ?_
    show Steps p.tables e below (T5.setTop (mkF m 13 #[.val (.ref aa0), .unset, .unset] [(.ref b5)])) _
    refine XS.astoreN X5.here hx rfl (hb hby d6_13) rfl rfl (l' := #[.val (.ref aa0), .val (.ref b5), .unset]) rfl ?_
    show Steps p.tables e below (T5.setTop (mkF m 14 #[.val (.ref aa0), .val (.ref b5), .unset] [])) _
    refine XS.iconst X5.here hx rfl (hb hby d6_14) ?_
    show Steps p.tables e below (T5.setTop (mkF m 15 #[.val (.ref aa0), .val (.ref b5), .unset] [(.int (0 : Int32))])) _
    refine XS.istoreN X5.here hx rfl (hb hby d6_15) rfl (l' := #[.val (.ref aa0), .val (.ref b5), .val (.int (0 : Int32))]) rfl ?_
    show Steps p.tables e below (T5.setTop (mkF m 16 #[.val (.ref aa0), .val (.ref b5), .val (.int (0 : Int32))] [])) _
    refine XS.iloadN X5.here hx rfl (hb hby d6_16) rfl ?_
    show Steps p.tables e below (T5.setTop (mkF m 17 #[.val (.ref aa0), .val (.ref b5), .val (.int (0 : Int32))] [(.int (0 : Int32))])) _
    refine XS.aloadN X5.here hx rfl (hb hby d6_17) rfl rfl ?_
    show Steps p.tables e below (T5.setTop (mkF m 18 #[.val (.ref aa0), .val (.ref b5), .val (.int (0 : Int32))] [(.ref b5), (.int (0 : Int32))])) _
    refine X5.arraylength hx (by rw [e5]; exact Ar_6.1) (State.isArrayOf_alike hZ.alike Ar_6.2.1) (g := (mkF m 18 #[.val (.ref aa0), .val (.ref b5), .val (.int (0 : Int32))] [(.ref b5), (.int (0 : Int32))])) rfl rfl (hb hby d6_18) _ ?_
    rw [len_of Sz_6 Nn_6]
    show Steps p.tables e below (T5.setTop (mkF m 19 #[.val (.ref aa0), .val (.ref b5), .val (.int (0 : Int32))] [(.int (1 : Int32)), (.int (0 : Int32))])) _
    refine XS.icmpNo X5.here hx rfl (hb hby d6_19) rfl (tlt hc19).2.1 ?_
    show Steps p.tables e below (T5.setTop (mkF m 22 #[.val (.ref aa0), .val (.ref b5), .val (.int (0 : Int32))] [])) _
    refine XS.aloadN X5.here hx rfl (hb hby d6_22) rfl rfl ?_
    show Steps p.tables e below (T5.setTop (mkF m 23 #[.val (.ref aa0), .val (.ref b5), .val (.int (0 : Int32))] [(.ref b5)])) _
    refine XS.iloadN X5.here hx rfl (hb hby d6_23) rfl ?_
    show Steps p.tables e below (T5.setTop (mkF m 24 #[.val (.ref aa0), .val (.ref b5), .val (.int (0 : Int32))] [(.int (0 : Int32)), (.ref b5)])) _
    refine XS.aloadN X5.here hx rfl (hb hby d6_24) rfl rfl ?_
    show Steps p.tables e below (T5.setTop (mkF m 25 #[.val (.ref aa0), .val (.ref b5), .val (.int (0 : Int32))] [(.ref aa0), (.int (0 : Int32)), (.ref b5)])) _
    refine st8 _ ?_
    show Steps p.tables e below (T8.setTop (mkF m 28 #[.val (.ref aa0), .val (.ref b5), .val (.int (0 : Int32))] [(.int fi), (.int (0 : Int32)), (.ref b5)])) _
    refine XS.iconst X8.here hx rfl (hb hby d6_28) ?_
    show Steps p.tables e below (T8.setTop (mkF m 29 #[.val (.ref aa0), .val (.ref b5), .val (.int (0 : Int32))] [(.int (1 : Int32)), (.int fi), (.int (0 : Int32)), (.ref b5)])) _
    refine XS.isub X8.here hx rfl (hb hby d6_29) rfl ?_
    show Steps p.tables e below (T8.setTop (mkF m 30 #[.val (.ref aa0), .val (.ref b5), .val (.int (0 : Int32))] [(.int (fi - (1 : Int32))), (.int (0 : Int32)), (.ref b5)])) _
    refine XS.iloadN X8.here hx rfl (hb hby d6_30) rfl ?_
    show Steps p.tables e below (T8.setTop (mkF m 31 #[.val (.ref aa0), .val (.ref b5), .val (.int (0 : Int32))] [(.int (0 : Int32)), (.int (fi - (1 : Int32))), (.int (0 : Int32)), (.ref b5)])) _
    refine XS.iadd X8.here hx rfl (hb hby d6_31) rfl ?_
    show Steps p.tables e below (T8.setTop (mkF m 32 #[.val (.ref aa0), .val (.ref b5), .val (.int (0 : Int32))] [(.int ((fi - (1 : Int32)) + (0 : Int32))), (.int (0 : Int32)), (.ref b5)])) _
    refine st10 _ ?_
    show Steps p.tables e below (T10.setTop (mkF m 33 #[.val (.ref aa0), .val (.ref b5), .val (.int (0 : Int32))] [])) _
    refine XS.iinc X10.here hx rfl (hb hby d6_33) rfl (l' := #[.val (.ref aa0), .val (.ref b5), .val (.int (1 : Int32))]) rfl ?_
    show Steps p.tables e below (T10.setTop (mkF m 36 #[.val (.ref aa0), .val (.ref b5), .val (.int (1 : Int32))] [])) _
    refine XS.goto X10.here hx rfl (pc0 := 36) (pc' := 16) rfl (hb hby d6_36) (by decide) (by decide) ?_
    show Steps p.tables e below (T10.setTop (mkF m 16 #[.val (.ref aa0), .val (.ref b5), .val (.int (1 : Int32))] [])) _
    refine XS.iloadN X10.here hx rfl (hb hby d6_16) rfl ?_
    show Steps p.tables e below (T10.setTop (mkF m 17 #[.val (.ref aa0), .val (.ref b5), .val (.int (1 : Int32))] [(.int (1 : Int32))])) _
    refine XS.aloadN X10.here hx rfl (hb hby d6_17) rfl rfl ?_
    show Steps p.tables e below (T10.setTop (mkF m 18 #[.val (.ref aa0), .val (.ref b5), .val (.int (1 : Int32))] [(.ref b5), (.int (1 : Int32))])) _
    refine X10.arraylength hx (by rw [e10]; exact Ar_11.1) (State.isArrayOf_alike hZ.alike Ar_11.2.1) (g := (mkF m 18 #[.val (.ref aa0), .val (.ref b5), .val (.int (1 : Int32))] [(.ref b5), (.int (1 : Int32))])) rfl rfl (hb hby d6_18) _ ?_
    rw [len_of Sz_11 Nn_11]
    show Steps p.tables e below (T10.setTop (mkF m 19 #[.val (.ref aa0), .val (.ref b5), .val (.int (1 : Int32))] [(.int (1 : Int32)), (.int (1 : Int32))])) _
    refine XS.icmpYes X10.here hx rfl (pc0 := 19) (pc' := 39) rfl (hb hby d6_19) rfl (flt hc19_2).2.1 (by decide) (by decide) ?_
    show Steps p.tables e below (T10.setTop (mkF m 39 #[.val (.ref aa0), .val (.ref b5), .val (.int (1 : Int32))] [])) _
    refine XS.aloadN X10.here hx rfl (hb hby d6_39) rfl rfl ?_
    show Steps p.tables e below (T10.setTop (mkF m 40 #[.val (.ref aa0), .val (.ref b5), .val (.int (1 : Int32))] [(.ref b5)])) _
    jvm_step X10.here [X10.here.top, hx, (hb hby d6_40), X10.method', Bd.returns, Value.isRef, FieldType.isReference]
    first | (intro acts; rw [hr _ acts rfl rfl rfl]) | rw [hr _ _ rfl rfl rfl]
    exact Steps.refl _
  · show Q6_1 Z aa0 fi la h0 n0 _ T10.heap _
    rw [e10]
    exact ⟨b5, k5, rfl, N10, K10, g_b5, sz_b5, V10⟩
theorem ef_6_2 (m : MethodId) (x0 : Addr) : entryFrame m #[(.ref x0)] 3 = mkF m 0 #[.val (.ref x0), .unset, .unset] [] := by first | (simp [entryFrame, mkF, argsToLocals, Value.category]; done) | rfl
def Q6_2 (Z : State) (aa0 : Addr) (fi : Int32) (la : Int32) (h0 : Heap) (n0 : Nat) (v : Option Value) (h : Heap) (L : List Loc) : Prop := ∃ (bx : Addr), ∃ (kx : ClassId), v = some (.ref bx) ∧ Fr n0 L ∧ Keep h0 h [] ∧ n0 ≤ bx ∧ h0.size ≤ bx ∧ (Arv Z h bx kx .int (2 : Int32) [(.int ((fi - (1 : Int32)) + (0 : Int32))), (.int ((fi - (1 : Int32)) + (1 : Int32)))] (.int (0 : Int32)))
set_option maxRecDepth 65536 in
set_option maxHeartbeats 40000000 in
theorem rm6_2 (l : Launch) (Z : State) (a0 : Array Value) (hw : ∀ d ∈ tables_1, d.before a0 Z = true) (ws : List Jvm.Cond) (aa0 : Addr) (fi : Int32) (la : Int32) (h0 : Heap) (n0 : Nat) (Z0 : n0 ≤ h0.size) (F_aa0_first : Fld Z h0 aa0 "com/example/escapement/escapement/cli/PartitionTable$Partition" "first" "I" (.int fi)) (F_aa0_last : Fld Z h0 aa0 "com/example/escapement/escapement/cli/PartitionTable$Partition" "last" "I" (.int la)) (hlen : ((la - fi) + (1 : Int32)) = (2 : Int32)) :
    MetFree l (⟨"com/example/escapement/escapement/cli/PartitionTable$Partition", "sites", "()[I"⟩ : MethodName) (head1 (Jvm.Cond.code (⟨"com/example/escapement/escapement/cli/PartitionTable$Partition", "sites", "()[I"⟩ : MethodName) prog_14_method_2_code 3 (some (.array .int)) :: ws) ({ frames := 0, cells := 1, slots := 2, locals := 0 } : Room)) (fun a U => a = #[(.ref aa0)] ∧ Z.Warmed39 U.vm ∧ U.heap = h0) (fun _ _ _ _ _ => True) (fun _ U o U' => ∃ v L, o = .returned v ∧ Q6_2 Z aa0 fi la h0 n0 v U'.heap L ∧ FrameEnd U o U' L ({ frames := 0, cells := 1, slots := 2, locals := 0 } : Room).cells ({ frames := 0, cells := 1, slots := 2, locals := 0 } : Room).slots) := by
  refine MetFree.of_bodySF (plainFor_of_name pn_com_example_escapement_escapement_cli_PartitionTable_Partition) hisR ?_
  intro p e s m args below meth c s₁ Bd hml0 hP hK
  obtain ⟨rfl, hZ, hh⟩ := hP
  have hx := Bd.exec
  have hby := Bd.bytes
  have hml : c.maxLocals = 3 := hml0
  have hown : s.vm.findClass "com/example/escapement/escapement/cli/PartitionTable$Partition" = some m.cls := findClass_of_methodNamed Bd.named
  have hnm := (name_of_methodNamed Bd.named Bd.method).1
  have X0 : Stand p l e ({ frames := 0, cells := 1, slots := 2, locals := 0 } : Room) s m #[(.ref aa0)] below meth c s₁ [] 0 0 := Stand.of_body Bd
  have e0 : s₁.heap = h0 := by rw [← hh, Bd.state]; rfl
  have N0 := Fr.nil n0
  have pre0 : ∀ t, Steps p.tables e below (s₁.setTop (mkF m 0 #[.val (.ref aa0), .unset, .unset] [])) t → Steps p.tables e below (s₁.setTop (entryFrame m #[(.ref aa0)] 3)) t := fun t k => castTop (ef_6_2 m aa0) k
  obtain ⟨T1, X1, e1, st1⟩ := getF X0 hx hZ hown (host := "") (Or.inl (hw _ (List.mem_of_getElem? (i := 34) rfl))) Via.refl e0 F_aa0_last (g := (mkF m 1 #[.val (.ref aa0), .unset, .unset] [(.ref aa0)])) rfl rfl (hb hby d6_1)
  obtain ⟨T2, X2, e2, st2⟩ := getF X1 hx hZ hown (host := "") (Or.inl (hw _ (List.mem_of_getElem? (i := 32) rfl))) Via.refl e1 F_aa0_first (g := (mkF m 5 #[.val (.ref aa0), .unset, .unset] [(.ref aa0), (.int la)])) rfl rfl (hb hby d6_5)
  have pre3 : ∀ t, Steps p.tables e below (T2.setTop (mkF m 11 #[.val (.ref aa0), .unset, .unset] [(.int ((la - fi) + (1 : Int32)))])) t → Steps p.tables e below (s₁.setTop (entryFrame m #[(.ref aa0)] 3)) t := fun t kt => pre0 t (by
    show Steps p.tables e below (s₁.setTop (mkF m 0 #[.val (.ref aa0), .unset, .unset] [])) _
    refine XS.aloadN X0.here hx rfl (hb hby d6_0) rfl rfl ?_
    show Steps p.tables e below (s₁.setTop (mkF m 1 #[.val (.ref aa0), .unset, .unset] [(.ref aa0)])) _
    refine st1 _ ?_
    show Steps p.tables e below (T1.setTop (mkF m 4 #[.val (.ref aa0), .unset, .unset] [(.int la)])) _
    refine XS.aloadN X1.here hx rfl (hb hby d6_4) rfl rfl ?_
    show Steps p.tables e below (T1.setTop (mkF m 5 #[.val (.ref aa0), .unset, .unset] [(.ref aa0), (.int la)])) _
    refine st2 _ ?_
    show Steps p.tables e below (T2.setTop (mkF m 8 #[.val (.ref aa0), .unset, .unset] [(.int fi), (.int la)])) _
    refine XS.isub X2.here hx rfl (hb hby d6_8) rfl ?_
    show Steps p.tables e below (T2.setTop (mkF m 9 #[.val (.ref aa0), .unset, .unset] [(.int (la - fi))])) _
    refine XS.iconst X2.here hx rfl (hb hby d6_9) ?_
    show Steps p.tables e below (T2.setTop (mkF m 10 #[.val (.ref aa0), .unset, .unset] [(.int (1 : Int32)), (.int (la - fi))])) _
    refine XS.iadd X2.here hx rfl (hb hby d6_10) rfl ?_
    exact kt)
  obtain ⟨nn, h_nn, pre4⟩ : ∃ (nn : Int32), (nn = (2 : Int32)) ∧ ∀ t, Steps p.tables e below (T2.setTop (mkF m 11 #[.val (.ref aa0), .unset, .unset] [(.int nn)])) t → Steps p.tables e below (s₁.setTop (entryFrame m #[(.ref aa0)] 3)) t := ⟨((la - fi) + (1 : Int32)), hlen, pre3⟩
  subst h_nn
  obtain ⟨T5, h5, k5, X5, e5, E5, A5, st5⟩ := newP X2 hx hZ (hw _ (List.mem_of_getElem? (i := 41) rfl)) e2 (g := (mkF m 11 #[.val (.ref aa0), .unset, .unset] [(.int (2 : Int32))])) rfl (hb hby d6_11) rfl (by decide) (cap := 2) (by decide) (by decide) (by decide) (by decide)
  obtain ⟨b5, g5⟩ : ∃ z, z = h0.size := ⟨_, rfl⟩
  rw [← g5] at A5 st5
  have g_b5 : n0 ≤ b5 := Nat.le_trans Z0 (Nat.le_of_eq g5.symm)
  have sz_b5 : h0.size ≤ b5 := Nat.le_trans (Keep.refl h0 []).1 (Nat.le_of_eq g5.symm)
  have Z5 : n0 ≤ h5.size := Nat.le_trans Z0 E5.1
  have K5 : Keep h0 h5 [] := (Keep.refl h0 []).ext E5
  have V5 : Arv Z h5 b5 k5 .int (2 : Int32) [(.int (0 : Int32)), (.int (0 : Int32))] (.int (0 : Int32)) := (Arv.new A5 (by decide)).pad (pad_rep [] (.int (0 : Int32)) 2)
  obtain ⟨cl_6, Ar_6, -, Sz_6, Nn_6, -, -⟩ := id V5
  have hc19 : (0 : Int32) < (2 : Int32) := by decide
  have F_7 : Fld Z h5 aa0 "com/example/escapement/escapement/cli/PartitionTable$Partition" "first" "I" (.int fi) := (F_aa0_first.ext E5)
  obtain ⟨T8, X8, e8, st8⟩ := getF X5 hx hZ hown (host := "") (Or.inl (hw _ (List.mem_of_getElem? (i := 32) rfl))) Via.refl e5 F_7 (g := (mkF m 25 #[.val (.ref aa0), .val (.ref b5), .val (.int (0 : Int32))] [(.ref aa0), (.int (0 : Int32)), (.ref b5)])) rfl rfl (hb hby d6_25)
  obtain ⟨cl_9, Ar_9, qq_9, Sz_9, Nn_9, Hh_9, Gg_9⟩ := id V5
  have hin_9 : ¬ ((0 : Int32) < 0 ∨ cl_9.slots.size ≤ ((0 : Int32)).toNatClampNeg) := inb_of Sz_9 ⟨by decide, by decide⟩
  obtain ⟨T10, h10, X10, e10, W10, st10⟩ := stI X8 hx hZ e8 Ar_9 (j := (0 : Int32)) hin_9 (g := (mkF m 32 #[.val (.ref aa0), .val (.ref b5), .val (.int (0 : Int32))] [(.int ((fi - (1 : Int32)) + (0 : Int32))), (.int (0 : Int32)), (.ref b5)])) rfl rfl (hb hby d6_32)
  have N10 := Fr.snoc X10 N0 g_b5
  have Z10 : n0 ≤ h10.size := Nat.le_trans Z5 (Keep.of_wr W10).1
  have K10 : Keep h0 h10 [] := K5.wr W10 (Or.inr sz_b5)
  have V10 : Arv Z h10 b5 k5 .int (2 : Int32) [(.int ((fi - (1 : Int32)) + (0 : Int32))), (.int (0 : Int32))] (.int (0 : Int32)) := Arv.set Ar_9 qq_9 Sz_9 Nn_9 Hh_9 Gg_9 rfl W10 0 rfl (Nat.le_of_ble_eq_true rfl)
  obtain ⟨cl_11, Ar_11, -, Sz_11, Nn_11, -, -⟩ := id V10
  have hc19_2 : (1 : Int32) < (2 : Int32) := by decide
  have F_12 : Fld Z h10 aa0 "com/example/escapement/escapement/cli/PartitionTable$Partition" "first" "I" (.int fi) := (F_7.other W10 (Or.inl (Nat.ne_of_lt (Nat.lt_of_lt_of_le F_aa0_first.lt (Nat.le_of_eq g5.symm)))))
  obtain ⟨T13, X13, e13, st13⟩ := getF X10 hx hZ hown (host := "") (Or.inl (hw _ (List.mem_of_getElem? (i := 32) rfl))) Via.refl e10 F_12 (g := (mkF m 25 #[.val (.ref aa0), .val (.ref b5), .val (.int (1 : Int32))] [(.ref aa0), (.int (1 : Int32)), (.ref b5)])) rfl rfl (hb hby d6_25)
  obtain ⟨cl_14, Ar_14, qq_14, Sz_14, Nn_14, Hh_14, Gg_14⟩ := id V10
  have hin_14 : ¬ ((1 : Int32) < 0 ∨ cl_14.slots.size ≤ ((1 : Int32)).toNatClampNeg) := inb_of Sz_14 ⟨by decide, by decide⟩
  obtain ⟨T15, h15, X15, e15, W15, st15⟩ := stI X13 hx hZ e13 Ar_14 (j := (1 : Int32)) hin_14 (g := (mkF m 32 #[.val (.ref aa0), .val (.ref b5), .val (.int (1 : Int32))] [(.int ((fi - (1 : Int32)) + (1 : Int32))), (.int (1 : Int32)), (.ref b5)])) rfl rfl (hb hby d6_32)
  have N15 := Fr.snoc X15 N10 g_b5
  have Z15 : n0 ≤ h15.size := Nat.le_trans Z10 (Keep.of_wr W15).1
  have K15 : Keep h0 h15 [] := K10.wr W15 (Or.inr sz_b5)
  have V15 : Arv Z h15 b5 k5 .int (2 : Int32) [(.int ((fi - (1 : Int32)) + (0 : Int32))), (.int ((fi - (1 : Int32)) + (1 : Int32)))] (.int (0 : Int32)) := Arv.set Ar_14 qq_14 Sz_14 Nn_14 Hh_14 Gg_14 rfl W15 1 rfl (Nat.le_of_ble_eq_true rfl)
  obtain ⟨cl_16, Ar_16, -, Sz_16, Nn_16, -, -⟩ := id V15
  have hc19_3 : ¬ ((2 : Int32) < (2 : Int32)) := by decide
  obtain ⟨fs, hr, hrun, hended, hW, hsame⟩ := X15.leave (v := some (.ref b5)) (fun h => by rw [Bd.returns] at h; cases h)
  refine ⟨_, _, pre4 _ ?_, hrun, hended, _, _, rfl, ?_, ⟨_, rfl⟩, hW, hsame.mono (by decide) (by decide)⟩
  · show Steps p.tables e below (T2.setTop (mkF m 11 #[.val (.ref aa0), .unset, .unset] [(.int (2 : Int32))])) _
    refine st5 _ ?_
    show Steps p.tables e below (T5.setTop (mkF m 13 #[.val (.ref aa0), .unset, .unset] [(.ref b5)])) _
    refine XS.astoreN X5.here hx rfl (hb hby d6_13) rfl rfl (l' := #[.val (.ref aa0), .val (.ref b5), .unset]) rfl ?_
    show Steps p.tables e below (T5.setTop (mkF m 14 #[.val (.ref aa0), .val (.ref b5), .unset] [])) _
    refine XS.iconst X5.here hx rfl (hb hby d6_14) ?_
    show Steps p.tables e below (T5.setTop (mkF m 15 #[.val (.ref aa0), .val (.ref b5), .unset] [(.int (0 : Int32))])) _
    refine XS.istoreN X5.here hx rfl (hb hby d6_15) rfl (l' := #[.val (.ref aa0), .val (.ref b5), .val (.int (0 : Int32))]) rfl ?_
    show Steps p.tables e below (T5.setTop (mkF m 16 #[.val (.ref aa0), .val (.ref b5), .val (.int (0 : Int32))] [])) _
    refine XS.iloadN X5.here hx rfl (hb hby d6_16) rfl ?_
    show Steps p.tables e below (T5.setTop (mkF m 17 #[.val (.ref aa0), .val (.ref b5), .val (.int (0 : Int32))] [(.int (0 : Int32))])) _
    refine XS.aloadN X5.here hx rfl (hb hby d6_17) rfl rfl ?_
    show Steps p.tables e below (T5.setTop (mkF m 18 #[.val (.ref aa0), .val (.ref b5), .val (.int (0 : Int32))] [(.ref b5), (.int (0 : Int32))])) _
    refine X5.arraylength hx (by rw [e5]; exact Ar_6.1) (State.isArrayOf_alike hZ.alike Ar_6.2.1) (g := (mkF m 18 #[.val (.ref aa0), .val (.ref b5), .val (.int (0 : Int32))] [(.ref b5), (.int (0 : Int32))])) rfl rfl (hb hby d6_18) _ ?_
    rw [len_of Sz_6 Nn_6]
    show Steps p.tables e below (T5.setTop (mkF m 19 #[.val (.ref aa0), .val (.ref b5), .val (.int (0 : Int32))] [(.int (2 : Int32)), (.int (0 : Int32))])) _
    refine XS.icmpNo X5.here hx rfl (hb hby d6_19) rfl (tlt hc19).2.1 ?_
    show Steps p.tables e below (T5.setTop (mkF m 22 #[.val (.ref aa0), .val (.ref b5), .val (.int (0 : Int32))] [])) _
    refine XS.aloadN X5.here hx rfl (hb hby d6_22) rfl rfl ?_
    show Steps p.tables e below (T5.setTop (mkF m 23 #[.val (.ref aa0), .val (.ref b5), .val (.int (0 : Int32))] [(.ref b5)])) _
    refine XS.iloadN X5.here hx rfl (hb hby d6_23) rfl ?_
    show Steps p.tables e below (T5.setTop (mkF m 24 #[.val (.ref aa0), .val (.ref b5), .val (.int (0 : Int32))] [(.int (0 : Int32)), (.ref b5)])) _
    refine XS.aloadN X5.here hx rfl (hb hby d6_24) rfl rfl ?_
    show Steps p.tables e below (T5.setTop (mkF m 25 #[.val (.ref aa0), .val (.ref b5), .val (.int (0 : Int32))] [(.ref aa0), (.int (0 : Int32)), (.ref b5)])) _
    refine st8 _ ?_
    show Steps p.tables e below (T8.setTop (mkF m 28 #[.val (.ref aa0), .val (.ref b5), .val (.int (0 : Int32))] [(.int fi), (.int (0 : Int32)), (.ref b5)])) _
    refine XS.iconst X8.here hx rfl (hb hby d6_28) ?_
    show Steps p.tables e below (T8.setTop (mkF m 29 #[.val (.ref aa0), .val (.ref b5), .val (.int (0 : Int32))] [(.int (1 : Int32)), (.int fi), (.int (0 : Int32)), (.ref b5)])) _
    refine XS.isub X8.here hx rfl (hb hby d6_29) rfl ?_
    show Steps p.tables e below (T8.setTop (mkF m 30 #[.val (.ref aa0), .val (.ref b5), .val (.int (0 : Int32))] [(.int (fi - (1 : Int32))), (.int (0 : Int32)), (.ref b5)])) _
    refine XS.iloadN X8.here hx rfl (hb hby d6_30) rfl ?_
    show Steps p.tables e below (T8.setTop (mkF m 31 #[.val (.ref aa0), .val (.ref b5), .val (.int (0 : Int32))] [(.int (0 : Int32)), (.int (fi - (1 : Int32))), (.int (0 : Int32)), (.ref b5)])) _
    refine XS.iadd X8.here hx rfl (hb hby d6_31) rfl ?_
    show Steps p.tables e below (T8.setTop (mkF m 32 #[.val (.ref aa0), .val (.ref b5), .val (.int (0 : Int32))] [(.int ((fi - (1 : Int32)) + (0 : Int32))), (.int (0 : Int32)), (.ref b5)])) _
    refine st10 _ ?_
    show Steps p.tables e below (T10.setTop (mkF m 33 #[.val (.ref aa0), .val (.ref b5), .val (.int (0 : Int32))] [])) _
    refine XS.iinc X10.here hx rfl (hb hby d6_33) rfl (l' := #[.val (.ref aa0), .val (.ref b5), .val (.int (1 : Int32))]) rfl ?_
    show Steps p.tables e below (T10.setTop (mkF m 36 #[.val (.ref aa0), .val (.ref b5), .val (.int (1 : Int32))] [])) _
    refine XS.goto X10.here hx rfl (pc0 := 36) (pc' := 16) rfl (hb hby d6_36) (by decide) (by decide) ?_
    show Steps p.tables e below (T10.setTop (mkF m 16 #[.val (.ref aa0), .val (.ref b5), .val (.int (1 : Int32))] [])) _
    refine XS.iloadN X10.here hx rfl (hb hby d6_16) rfl ?_
    show Steps p.tables e below (T10.setTop (mkF m 17 #[.val (.ref aa0), .val (.ref b5), .val (.int (1 : Int32))] [(.int (1 : Int32))])) _
    refine XS.aloadN X10.here hx rfl (hb hby d6_17) rfl rfl ?_
    show Steps p.tables e below (T10.setTop (mkF m 18 #[.val (.ref aa0), .val (.ref b5), .val (.int (1 : Int32))] [(.ref b5), (.int (1 : Int32))])) _
    refine X10.arraylength hx (by rw [e10]; exact Ar_11.1) (State.isArrayOf_alike hZ.alike Ar_11.2.1) (g := (mkF m 18 #[.val (.ref aa0), .val (.ref b5), .val (.int (1 : Int32))] [(.ref b5), (.int (1 : Int32))])) rfl rfl (hb hby d6_18) _ ?_
    rw [len_of Sz_11 Nn_11]
    show Steps p.tables e below (T10.setTop (mkF m 19 #[.val (.ref aa0), .val (.ref b5), .val (.int (1 : Int32))] [(.int (2 : Int32)), (.int (1 : Int32))])) _
    refine XS.icmpNo X10.here hx rfl (hb hby d6_19) rfl (tlt hc19_2).2.1 ?_
    show Steps p.tables e below (T10.setTop (mkF m 22 #[.val (.ref aa0), .val (.ref b5), .val (.int (1 : Int32))] [])) _
    refine XS.aloadN X10.here hx rfl (hb hby d6_22) rfl rfl ?_
    show Steps p.tables e below (T10.setTop (mkF m 23 #[.val (.ref aa0), .val (.ref b5), .val (.int (1 : Int32))] [(.ref b5)])) _
    refine XS.iloadN X10.here hx rfl (hb hby d6_23) rfl ?_
    show Steps p.tables e below (T10.setTop (mkF m 24 #[.val (.ref aa0), .val (.ref b5), .val (.int (1 : Int32))] [(.int (1 : Int32)), (.ref b5)])) _
    refine XS.aloadN X10.here hx rfl (hb hby d6_24) rfl rfl ?_
    show Steps p.tables e below (T10.setTop (mkF m 25 #[.val (.ref aa0), .val (.ref b5), .val (.int (1 : Int32))] [(.ref aa0), (.int (1 : Int32)), (.ref b5)])) _
    refine st13 _ ?_
    show Steps p.tables e below (T13.setTop (mkF m 28 #[.val (.ref aa0), .val (.ref b5), .val (.int (1 : Int32))] [(.int fi), (.int (1 : Int32)), (.ref b5)])) _
    refine XS.iconst X13.here hx rfl (hb hby d6_28) ?_
    show Steps p.tables e below (T13.setTop (mkF m 29 #[.val (.ref aa0), .val (.ref b5), .val (.int (1 : Int32))] [(.int (1 : Int32)), (.int fi), (.int (1 : Int32)), (.ref b5)])) _
    refine XS.isub X13.here hx rfl (hb hby d6_29) rfl ?_
    show Steps p.tables e below (T13.setTop (mkF m 30 #[.val (.ref aa0), .val (.ref b5), .val (.int (1 : Int32))] [(.int (fi - (1 : Int32))), (.int (1 : Int32)), (.ref b5)])) _
    refine XS.iloadN X13.here hx rfl (hb hby d6_30) rfl ?_
    show Steps p.tables e below (T13.setTop (mkF m 31 #[.val (.ref aa0), .val (.ref b5), .val (.int (1 : Int32))] [(.int (1 : Int32)), (.int (fi - (1 : Int32))), (.int (1 : Int32)), (.ref b5)])) _
    refine XS.iadd X13.here hx rfl (hb hby d6_31) rfl ?_
    show Steps p.tables e below (T13.setTop (mkF m 32 #[.val (.ref aa0), .val (.ref b5), .val (.int (1 : Int32))] [(.int ((fi - (1 : Int32)) + (1 : Int32))), (.int (1 : Int32)), (.ref b5)])) _
    refine st15 _ ?_
    show Steps p.tables e below (T15.setTop (mkF m 33 #[.val (.ref aa0), .val (.ref b5), .val (.int (1 : Int32))] [])) _
    refine XS.iinc X15.here hx rfl (hb hby d6_33) rfl (l' := #[.val (.ref aa0), .val (.ref b5), .val (.int (2 : Int32))]) rfl ?_
    show Steps p.tables e below (T15.setTop (mkF m 36 #[.val (.ref aa0), .val (.ref b5), .val (.int (2 : Int32))] [])) _
    refine XS.goto X15.here hx rfl (pc0 := 36) (pc' := 16) rfl (hb hby d6_36) (by decide) (by decide) ?_
    show Steps p.tables e below (T15.setTop (mkF m 16 #[.val (.ref aa0), .val (.ref b5), .val (.int (2 : Int32))] [])) _
    refine XS.iloadN X15.here hx rfl (hb hby d6_16) rfl ?_
    show Steps p.tables e below (T15.setTop (mkF m 17 #[.val (.ref aa0), .val (.ref b5), .val (.int (2 : Int32))] [(.int (2 : Int32))])) _
    refine XS.aloadN X15.here hx rfl (hb hby d6_17) rfl rfl ?_
    show Steps p.tables e below (T15.setTop (mkF m 18 #[.val (.ref aa0), .val (.ref b5), .val (.int (2 : Int32))] [(.ref b5), (.int (2 : Int32))])) _
    refine X15.arraylength hx (by rw [e15]; exact Ar_16.1) (State.isArrayOf_alike hZ.alike Ar_16.2.1) (g := (mkF m 18 #[.val (.ref aa0), .val (.ref b5), .val (.int (2 : Int32))] [(.ref b5), (.int (2 : Int32))])) rfl rfl (hb hby d6_18) _ ?_
    rw [len_of Sz_16 Nn_16]
    show Steps p.tables e below (T15.setTop (mkF m 19 #[.val (.ref aa0), .val (.ref b5), .val (.int (2 : Int32))] [(.int (2 : Int32)), (.int (2 : Int32))])) _
    refine XS.icmpYes X15.here hx rfl (pc0 := 19) (pc' := 39) rfl (hb hby d6_19) rfl (flt hc19_3).2.1 (by decide) (by decide) ?_
    show Steps p.tables e below (T15.setTop (mkF m 39 #[.val (.ref aa0), .val (.ref b5), .val (.int (2 : Int32))] [])) _
    refine XS.aloadN X15.here hx rfl (hb hby d6_39) rfl rfl ?_
    show Steps p.tables e below (T15.setTop (mkF m 40 #[.val (.ref aa0), .val (.ref b5), .val (.int (2 : Int32))] [(.ref b5)])) _
    jvm_step X15.here [X15.here.top, hx, (hb hby d6_40), X15.method', Bd.returns, Value.isRef, FieldType.isReference]
    first | (intro acts; rw [hr _ acts rfl rfl rfl]) | rw [hr _ _ rfl rfl rfl]
    exact Steps.refl _
  · show Q6_2 Z aa0 fi la h0 n0 _ T15.heap _
    rw [e15]
    exact ⟨b5, k5, rfl, N15, K15, g_b5, sz_b5, V15⟩
theorem ef_6_3 (m : MethodId) (x0 : Addr) : entryFrame m #[(.ref x0)] 3 = mkF m 0 #[.val (.ref x0), .unset, .unset] [] := by first | (simp [entryFrame, mkF, argsToLocals, Value.category]; done) | rfl
def Q6_3 (Z : State) (aa0 : Addr) (fi : Int32) (la : Int32) (h0 : Heap) (n0 : Nat) (v : Option Value) (h : Heap) (L : List Loc) : Prop := ∃ (bx : Addr), ∃ (kx : ClassId), v = some (.ref bx) ∧ Fr n0 L ∧ Keep h0 h [] ∧ n0 ≤ bx ∧ h0.size ≤ bx ∧ (Arv Z h bx kx .int (3 : Int32) [(.int ((fi - (1 : Int32)) + (0 : Int32))), (.int ((fi - (1 : Int32)) + (1 : Int32))), (.int ((fi - (1 : Int32)) + (2 : Int32)))] (.int (0 : Int32)))
set_option maxRecDepth 65536 in
set_option maxHeartbeats 40000000 in
theorem rm6_3 (l : Launch) (Z : State) (a0 : Array Value) (hw : ∀ d ∈ tables_1, d.before a0 Z = true) (ws : List Jvm.Cond) (aa0 : Addr) (fi : Int32) (la : Int32) (h0 : Heap) (n0 : Nat) (Z0 : n0 ≤ h0.size) (F_aa0_first : Fld Z h0 aa0 "com/example/escapement/escapement/cli/PartitionTable$Partition" "first" "I" (.int fi)) (F_aa0_last : Fld Z h0 aa0 "com/example/escapement/escapement/cli/PartitionTable$Partition" "last" "I" (.int la)) (hlen : ((la - fi) + (1 : Int32)) = (3 : Int32)) :
    MetFree l (⟨"com/example/escapement/escapement/cli/PartitionTable$Partition", "sites", "()[I"⟩ : MethodName) (head1 (Jvm.Cond.code (⟨"com/example/escapement/escapement/cli/PartitionTable$Partition", "sites", "()[I"⟩ : MethodName) prog_14_method_2_code 3 (some (.array .int)) :: ws) ({ frames := 0, cells := 1, slots := 3, locals := 0 } : Room)) (fun a U => a = #[(.ref aa0)] ∧ Z.Warmed39 U.vm ∧ U.heap = h0) (fun _ _ _ _ _ => True) (fun _ U o U' => ∃ v L, o = .returned v ∧ Q6_3 Z aa0 fi la h0 n0 v U'.heap L ∧ FrameEnd U o U' L ({ frames := 0, cells := 1, slots := 3, locals := 0 } : Room).cells ({ frames := 0, cells := 1, slots := 3, locals := 0 } : Room).slots) := by
  refine MetFree.of_bodySF (plainFor_of_name pn_com_example_escapement_escapement_cli_PartitionTable_Partition) hisR ?_
  intro p e s m args below meth c s₁ Bd hml0 hP hK
  obtain ⟨rfl, hZ, hh⟩ := hP
  have hx := Bd.exec
  have hby := Bd.bytes
  have hml : c.maxLocals = 3 := hml0
  have hown : s.vm.findClass "com/example/escapement/escapement/cli/PartitionTable$Partition" = some m.cls := findClass_of_methodNamed Bd.named
  have hnm := (name_of_methodNamed Bd.named Bd.method).1
  have X0 : Stand p l e ({ frames := 0, cells := 1, slots := 3, locals := 0 } : Room) s m #[(.ref aa0)] below meth c s₁ [] 0 0 := Stand.of_body Bd
  have e0 : s₁.heap = h0 := by rw [← hh, Bd.state]; rfl
  have N0 := Fr.nil n0
  have pre0 : ∀ t, Steps p.tables e below (s₁.setTop (mkF m 0 #[.val (.ref aa0), .unset, .unset] [])) t → Steps p.tables e below (s₁.setTop (entryFrame m #[(.ref aa0)] 3)) t := fun t k => castTop (ef_6_3 m aa0) k
  obtain ⟨T1, X1, e1, st1⟩ := getF X0 hx hZ hown (host := "") (Or.inl (hw _ (List.mem_of_getElem? (i := 34) rfl))) Via.refl e0 F_aa0_last (g := (mkF m 1 #[.val (.ref aa0), .unset, .unset] [(.ref aa0)])) rfl rfl (hb hby d6_1)
  obtain ⟨T2, X2, e2, st2⟩ := getF X1 hx hZ hown (host := "") (Or.inl (hw _ (List.mem_of_getElem? (i := 32) rfl))) Via.refl e1 F_aa0_first (g := (mkF m 5 #[.val (.ref aa0), .unset, .unset] [(.ref aa0), (.int la)])) rfl rfl (hb hby d6_5)
  have pre3 : ∀ t, Steps p.tables e below (T2.setTop (mkF m 11 #[.val (.ref aa0), .unset, .unset] [(.int ((la - fi) + (1 : Int32)))])) t → Steps p.tables e below (s₁.setTop (entryFrame m #[(.ref aa0)] 3)) t := fun t kt => pre0 t (by
    show Steps p.tables e below (s₁.setTop (mkF m 0 #[.val (.ref aa0), .unset, .unset] [])) _
    refine XS.aloadN X0.here hx rfl (hb hby d6_0) rfl rfl ?_
    show Steps p.tables e below (s₁.setTop (mkF m 1 #[.val (.ref aa0), .unset, .unset] [(.ref aa0)])) _
    refine st1 _ ?_
    show Steps p.tables e below (T1.setTop (mkF m 4 #[.val (.ref aa0), .unset, .unset] [(.int la)])) _
    refine XS.aloadN X1.here hx rfl (hb hby d6_4) rfl rfl ?_
    show Steps p.tables e below (T1.setTop (mkF m 5 #[.val (.ref aa0), .unset, .unset] [(.ref aa0), (.int la)])) _
    refine st2 _ ?_
    show Steps p.tables e below (T2.setTop (mkF m 8 #[.val (.ref aa0), .unset, .unset] [(.int fi), (.int la)])) _
    refine XS.isub X2.here hx rfl (hb hby d6_8) rfl ?_
    show Steps p.tables e below (T2.setTop (mkF m 9 #[.val (.ref aa0), .unset, .unset] [(.int (la - fi))])) _
    refine XS.iconst X2.here hx rfl (hb hby d6_9) ?_
    show Steps p.tables e below (T2.setTop (mkF m 10 #[.val (.ref aa0), .unset, .unset] [(.int (1 : Int32)), (.int (la - fi))])) _
    refine XS.iadd X2.here hx rfl (hb hby d6_10) rfl ?_
    exact kt)
  obtain ⟨nn, h_nn, pre4⟩ : ∃ (nn : Int32), (nn = (3 : Int32)) ∧ ∀ t, Steps p.tables e below (T2.setTop (mkF m 11 #[.val (.ref aa0), .unset, .unset] [(.int nn)])) t → Steps p.tables e below (s₁.setTop (entryFrame m #[(.ref aa0)] 3)) t := ⟨((la - fi) + (1 : Int32)), hlen, pre3⟩
  subst h_nn
  obtain ⟨T5, h5, k5, X5, e5, E5, A5, st5⟩ := newP X2 hx hZ (hw _ (List.mem_of_getElem? (i := 41) rfl)) e2 (g := (mkF m 11 #[.val (.ref aa0), .unset, .unset] [(.int (3 : Int32))])) rfl (hb hby d6_11) rfl (by decide) (cap := 3) (by decide) (by decide) (by decide) (by decide)
  obtain ⟨b5, g5⟩ : ∃ z, z = h0.size := ⟨_, rfl⟩
  rw [← g5] at A5 st5
  have g_b5 : n0 ≤ b5 := Nat.le_trans Z0 (Nat.le_of_eq g5.symm)
  have sz_b5 : h0.size ≤ b5 := Nat.le_trans (Keep.refl h0 []).1 (Nat.le_of_eq g5.symm)
  have Z5 : n0 ≤ h5.size := Nat.le_trans Z0 E5.1
  have K5 : Keep h0 h5 [] := (Keep.refl h0 []).ext E5
  have V5 : Arv Z h5 b5 k5 .int (3 : Int32) [(.int (0 : Int32)), (.int (0 : Int32)), (.int (0 : Int32))] (.int (0 : Int32)) := (Arv.new A5 (by decide)).pad (pad_rep [] (.int (0 : Int32)) 3)
  obtain ⟨cl_6, Ar_6, -, Sz_6, Nn_6, -, -⟩ := id V5
  have hc19 : (0 : Int32) < (3 : Int32) := by decide
  have F_7 : Fld Z h5 aa0 "com/example/escapement/escapement/cli/PartitionTable$Partition" "first" "I" (.int fi) := (F_aa0_first.ext E5)
  obtain ⟨T8, X8, e8, st8⟩ := getF X5 hx hZ hown (host := "") (Or.inl (hw _ (List.mem_of_getElem? (i := 32) rfl))) Via.refl e5 F_7 (g := (mkF m 25 #[.val (.ref aa0), .val (.ref b5), .val (.int (0 : Int32))] [(.ref aa0), (.int (0 : Int32)), (.ref b5)])) rfl rfl (hb hby d6_25)
  obtain ⟨cl_9, Ar_9, qq_9, Sz_9, Nn_9, Hh_9, Gg_9⟩ := id V5
  have hin_9 : ¬ ((0 : Int32) < 0 ∨ cl_9.slots.size ≤ ((0 : Int32)).toNatClampNeg) := inb_of Sz_9 ⟨by decide, by decide⟩
  obtain ⟨T10, h10, X10, e10, W10, st10⟩ := stI X8 hx hZ e8 Ar_9 (j := (0 : Int32)) hin_9 (g := (mkF m 32 #[.val (.ref aa0), .val (.ref b5), .val (.int (0 : Int32))] [(.int ((fi - (1 : Int32)) + (0 : Int32))), (.int (0 : Int32)), (.ref b5)])) rfl rfl (hb hby d6_32)
  have N10 := Fr.snoc X10 N0 g_b5
  have Z10 : n0 ≤ h10.size := Nat.le_trans Z5 (Keep.of_wr W10).1
  have K10 : Keep h0 h10 [] := K5.wr W10 (Or.inr sz_b5)
  have V10 : Arv Z h10 b5 k5 .int (3 : Int32) [(.int ((fi - (1 : Int32)) + (0 : Int32))), (.int (0 : Int32)), (.int (0 : Int32))] (.int (0 : Int32)) := Arv.set Ar_9 qq_9 Sz_9 Nn_9 Hh_9 Gg_9 rfl W10 0 rfl (Nat.le_of_ble_eq_true rfl)
  obtain ⟨cl_11, Ar_11, -, Sz_11, Nn_11, -, -⟩ := id V10
  have hc19_2 : (1 : Int32) < (3 : Int32) := by decide
  have F_12 : Fld Z h10 aa0 "com/example/escapement/escapement/cli/PartitionTable$Partition" "first" "I" (.int fi) := (F_7.other W10 (Or.inl (Nat.ne_of_lt (Nat.lt_of_lt_of_le F_aa0_first.lt (Nat.le_of_eq g5.symm)))))
  obtain ⟨T13, X13, e13, st13⟩ := getF X10 hx hZ hown (host := "") (Or.inl (hw _ (List.mem_of_getElem? (i := 32) rfl))) Via.refl e10 F_12 (g := (mkF m 25 #[.val (.ref aa0), .val (.ref b5), .val (.int (1 : Int32))] [(.ref aa0), (.int (1 : Int32)), (.ref b5)])) rfl rfl (hb hby d6_25)
  obtain ⟨cl_14, Ar_14, qq_14, Sz_14, Nn_14, Hh_14, Gg_14⟩ := id V10
  have hin_14 : ¬ ((1 : Int32) < 0 ∨ cl_14.slots.size ≤ ((1 : Int32)).toNatClampNeg) := inb_of Sz_14 ⟨by decide, by decide⟩
  obtain ⟨T15, h15, X15, e15, W15, st15⟩ := stI X13 hx hZ e13 Ar_14 (j := (1 : Int32)) hin_14 (g := (mkF m 32 #[.val (.ref aa0), .val (.ref b5), .val (.int (1 : Int32))] [(.int ((fi - (1 : Int32)) + (1 : Int32))), (.int (1 : Int32)), (.ref b5)])) rfl rfl (hb hby d6_32)
  have N15 := Fr.snoc X15 N10 g_b5
  have Z15 : n0 ≤ h15.size := Nat.le_trans Z10 (Keep.of_wr W15).1
  have K15 : Keep h0 h15 [] := K10.wr W15 (Or.inr sz_b5)
  have V15 : Arv Z h15 b5 k5 .int (3 : Int32) [(.int ((fi - (1 : Int32)) + (0 : Int32))), (.int ((fi - (1 : Int32)) + (1 : Int32))), (.int (0 : Int32))] (.int (0 : Int32)) := Arv.set Ar_14 qq_14 Sz_14 Nn_14 Hh_14 Gg_14 rfl W15 1 rfl (Nat.le_of_ble_eq_true rfl)
  obtain ⟨cl_16, Ar_16, -, Sz_16, Nn_16, -, -⟩ := id V15
  have hc19_3 : (2 : Int32) < (3 : Int32) := by decide
  have F_17 : Fld Z h15 aa0 "com/example/escapement/escapement/cli/PartitionTable$Partition" "first" "I" (.int fi) := (F_12.other W15 (Or.inl (Nat.ne_of_lt (Nat.lt_of_lt_of_le F_aa0_first.lt (Nat.le_of_eq g5.symm)))))
  obtain ⟨T18, X18, e18, st18⟩ := getF X15 hx hZ hown (host := "") (Or.inl (hw _ (List.mem_of_getElem? (i := 32) rfl))) Via.refl e15 F_17 (g := (mkF m 25 #[.val (.ref aa0), .val (.ref b5), .val (.int (2 : Int32))] [(.ref aa0), (.int (2 : Int32)), (.ref b5)])) rfl rfl (hb hby d6_25)
  obtain ⟨cl_19, Ar_19, qq_19, Sz_19, Nn_19, Hh_19, Gg_19⟩ := id V15
  have hin_19 : ¬ ((2 : Int32) < 0 ∨ cl_19.slots.size ≤ ((2 : Int32)).toNatClampNeg) := inb_of Sz_19 ⟨by decide, by decide⟩
  obtain ⟨T20, h20, X20, e20, W20, st20⟩ := stI X18 hx hZ e18 Ar_19 (j := (2 : Int32)) hin_19 (g := (mkF m 32 #[.val (.ref aa0), .val (.ref b5), .val (.int (2 : Int32))] [(.int ((fi - (1 : Int32)) + (2 : Int32))), (.int (2 : Int32)), (.ref b5)])) rfl rfl (hb hby d6_32)
  have N20 := Fr.snoc X20 N15 g_b5
  have Z20 : n0 ≤ h20.size := Nat.le_trans Z15 (Keep.of_wr W20).1
  have K20 : Keep h0 h20 [] := K15.wr W20 (Or.inr sz_b5)
  have V20 : Arv Z h20 b5 k5 .int (3 : Int32) [(.int ((fi - (1 : Int32)) + (0 : Int32))), (.int ((fi - (1 : Int32)) + (1 : Int32))), (.int ((fi - (1 : Int32)) + (2 : Int32)))] (.int (0 : Int32)) := Arv.set Ar_19 qq_19 Sz_19 Nn_19 Hh_19 Gg_19 rfl W20 2 rfl (Nat.le_of_ble_eq_true rfl)
  obtain ⟨cl_21, Ar_21, -, Sz_21, Nn_21, -, -⟩ := id V20
  have hc19_4 : ¬ ((3 : Int32) < (3 : Int32)) := by decide
  obtain ⟨fs, hr, hrun, hended, hW, hsame⟩ := X20.leave (v := some (.ref b5)) (fun h => by rw [Bd.returns] at h; cases h)
  refine ⟨_, _, pre4 _ ?_, hrun, hended, _, _, rfl, ?_, ⟨_, rfl⟩, hW, hsame.mono (by decide) (by decide)⟩
  · show Steps p.tables e below (T2.setTop (mkF m 11 #[.val (.ref aa0), .unset, .unset] [(.int (3 : Int32))])) _
    refine st5 _ ?_
    show Steps p.tables e below (T5.setTop (mkF m 13 #[.val (.ref aa0), .unset, .unset] [(.ref b5)])) _
    refine XS.astoreN X5.here hx rfl (hb hby d6_13) rfl rfl (l' := #[.val (.ref aa0), .val (.ref b5), .unset]) rfl ?_
    show Steps p.tables e below (T5.setTop (mkF m 14 #[.val (.ref aa0), .val (.ref b5), .unset] [])) _
    refine XS.iconst X5.here hx rfl (hb hby d6_14) ?_
    show Steps p.tables e below (T5.setTop (mkF m 15 #[.val (.ref aa0), .val (.ref b5), .unset] [(.int (0 : Int32))])) _
    refine XS.istoreN X5.here hx rfl (hb hby d6_15) rfl (l' := #[.val (.ref aa0), .val (.ref b5), .val (.int (0 : Int32))]) rfl ?_
    show Steps p.tables e below (T5.setTop (mkF m 16 #[.val (.ref aa0), .val (.ref b5), .val (.int (0 : Int32))] [])) _
    refine XS.iloadN X5.here hx rfl (hb hby d6_16) rfl ?_
    show Steps p.tables e below (T5.setTop (mkF m 17 #[.val (.ref aa0), .val (.ref b5), .val (.int (0 : Int32))] [(.int (0 : Int32))])) _
    refine XS.aloadN X5.here hx rfl (hb hby d6_17) rfl rfl ?_
    show Steps p.tables e below (T5.setTop (mkF m 18 #[.val (.ref aa0), .val (.ref b5), .val (.int (0 : Int32))] [(.ref b5), (.int (0 : Int32))])) _
    refine X5.arraylength hx (by rw [e5]; exact Ar_6.1) (State.isArrayOf_alike hZ.alike Ar_6.2.1) (g := (mkF m 18 #[.val (.ref aa0), .val (.ref b5), .val (.int (0 : Int32))] [(.ref b5), (.int (0 : Int32))])) rfl rfl (hb hby d6_18) _ ?_
    rw [len_of Sz_6 Nn_6]
    show Steps p.tables e below (T5.setTop (mkF m 19 #[.val (.ref aa0), .val (.ref b5), .val (.int (0 : Int32))] [(.int (3 : Int32)), (.int (0 : Int32))])) _
    refine XS.icmpNo X5.here hx rfl (hb hby d6_19) rfl (tlt hc19).2.1 ?_
    show Steps p.tables e below (T5.setTop (mkF m 22 #[.val (.ref aa0), .val (.ref b5), .val (.int (0 : Int32))] [])) _
    refine XS.aloadN X5.here hx rfl (hb hby d6_22) rfl rfl ?_
    show Steps p.tables e below (T5.setTop (mkF m 23 #[.val (.ref aa0), .val (.ref b5), .val (.int (0 : Int32))] [(.ref b5)])) _
    refine XS.iloadN X5.here hx rfl (hb hby d6_23) rfl ?_
    show Steps p.tables e below (T5.setTop (mkF m 24 #[.val (.ref aa0), .val (.ref b5), .val (.int (0 : Int32))] [(.int (0 : Int32)), (.ref b5)])) _
    refine XS.aloadN X5.here hx rfl (hb hby d6_24) rfl rfl ?_
    show Steps p.tables e below (T5.setTop (mkF m 25 #[.val (.ref aa0), .val (.ref b5), .val (.int (0 : Int32))] [(.ref aa0), (.int (0 : Int32)), (.ref b5)])) _
    refine st8 _ ?_
    show Steps p.tables e below (T8.setTop (mkF m 28 #[.val (.ref aa0), .val (.ref b5), .val (.int (0 : Int32))] [(.int fi), (.int (0 : Int32)), (.ref b5)])) _
    refine XS.iconst X8.here hx rfl (hb hby d6_28) ?_
    show Steps p.tables e below (T8.setTop (mkF m 29 #[.val (.ref aa0), .val (.ref b5), .val (.int (0 : Int32))] [(.int (1 : Int32)), (.int fi), (.int (0 : Int32)), (.ref b5)])) _
    refine XS.isub X8.here hx rfl (hb hby d6_29) rfl ?_
    show Steps p.tables e below (T8.setTop (mkF m 30 #[.val (.ref aa0), .val (.ref b5), .val (.int (0 : Int32))] [(.int (fi - (1 : Int32))), (.int (0 : Int32)), (.ref b5)])) _
    refine XS.iloadN X8.here hx rfl (hb hby d6_30) rfl ?_
    show Steps p.tables e below (T8.setTop (mkF m 31 #[.val (.ref aa0), .val (.ref b5), .val (.int (0 : Int32))] [(.int (0 : Int32)), (.int (fi - (1 : Int32))), (.int (0 : Int32)), (.ref b5)])) _
    refine XS.iadd X8.here hx rfl (hb hby d6_31) rfl ?_
    show Steps p.tables e below (T8.setTop (mkF m 32 #[.val (.ref aa0), .val (.ref b5), .val (.int (0 : Int32))] [(.int ((fi - (1 : Int32)) + (0 : Int32))), (.int (0 : Int32)), (.ref b5)])) _
    refine st10 _ ?_
    show Steps p.tables e below (T10.setTop (mkF m 33 #[.val (.ref aa0), .val (.ref b5), .val (.int (0 : Int32))] [])) _
    refine XS.iinc X10.here hx rfl (hb hby d6_33) rfl (l' := #[.val (.ref aa0), .val (.ref b5), .val (.int (1 : Int32))]) rfl ?_
    show Steps p.tables e below (T10.setTop (mkF m 36 #[.val (.ref aa0), .val (.ref b5), .val (.int (1 : Int32))] [])) _
    refine XS.goto X10.here hx rfl (pc0 := 36) (pc' := 16) rfl (hb hby d6_36) (by decide) (by decide) ?_
    show Steps p.tables e below (T10.setTop (mkF m 16 #[.val (.ref aa0), .val (.ref b5), .val (.int (1 : Int32))] [])) _
    refine XS.iloadN X10.here hx rfl (hb hby d6_16) rfl ?_
    show Steps p.tables e below (T10.setTop (mkF m 17 #[.val (.ref aa0), .val (.ref b5), .val (.int (1 : Int32))] [(.int (1 : Int32))])) _
    refine XS.aloadN X10.here hx rfl (hb hby d6_17) rfl rfl ?_
    show Steps p.tables e below (T10.setTop (mkF m 18 #[.val (.ref aa0), .val (.ref b5), .val (.int (1 : Int32))] [(.ref b5), (.int (1 : Int32))])) _
    refine X10.arraylength hx (by rw [e10]; exact Ar_11.1) (State.isArrayOf_alike hZ.alike Ar_11.2.1) (g := (mkF m 18 #[.val (.ref aa0), .val (.ref b5), .val (.int (1 : Int32))] [(.ref b5), (.int (1 : Int32))])) rfl rfl (hb hby d6_18) _ ?_
    rw [len_of Sz_11 Nn_11]
    show Steps p.tables e below (T10.setTop (mkF m 19 #[.val (.ref aa0), .val (.ref b5), .val (.int (1 : Int32))] [(.int (3 : Int32)), (.int (1 : Int32))])) _
    refine XS.icmpNo X10.here hx rfl (hb hby d6_19) rfl (tlt hc19_2).2.1 ?_
    show Steps p.tables e below (T10.setTop (mkF m 22 #[.val (.ref aa0), .val (.ref b5), .val (.int (1 : Int32))] [])) _
    refine XS.aloadN X10.here hx rfl (hb hby d6_22) rfl rfl ?_
    show Steps p.tables e below (T10.setTop (mkF m 23 #[.val (.ref aa0), .val (.ref b5), .val (.int (1 : Int32))] [(.ref b5)])) _
    refine XS.iloadN X10.here hx rfl (hb hby d6_23) rfl ?_
    show Steps p.tables e below (T10.setTop (mkF m 24 #[.val (.ref aa0), .val (.ref b5), .val (.int (1 : Int32))] [(.int (1 : Int32)), (.ref b5)])) _
    refine XS.aloadN X10.here hx rfl (hb hby d6_24) rfl rfl ?_
    show Steps p.tables e below (T10.setTop (mkF m 25 #[.val (.ref aa0), .val (.ref b5), .val (.int (1 : Int32))] [(.ref aa0), (.int (1 : Int32)), (.ref b5)])) _
    refine st13 _ ?_
    show Steps p.tables e below (T13.setTop (mkF m 28 #[.val (.ref aa0), .val (.ref b5), .val (.int (1 : Int32))] [(.int fi), (.int (1 : Int32)), (.ref b5)])) _
    refine XS.iconst X13.here hx rfl (hb hby d6_28) ?_
    show Steps p.tables e below (T13.setTop (mkF m 29 #[.val (.ref aa0), .val (.ref b5), .val (.int (1 : Int32))] [(.int (1 : Int32)), (.int fi), (.int (1 : Int32)), (.ref b5)])) _
    refine XS.isub X13.here hx rfl (hb hby d6_29) rfl ?_
    show Steps p.tables e below (T13.setTop (mkF m 30 #[.val (.ref aa0), .val (.ref b5), .val (.int (1 : Int32))] [(.int (fi - (1 : Int32))), (.int (1 : Int32)), (.ref b5)])) _
    refine XS.iloadN X13.here hx rfl (hb hby d6_30) rfl ?_
    show Steps p.tables e below (T13.setTop (mkF m 31 #[.val (.ref aa0), .val (.ref b5), .val (.int (1 : Int32))] [(.int (1 : Int32)), (.int (fi - (1 : Int32))), (.int (1 : Int32)), (.ref b5)])) _
    refine XS.iadd X13.here hx rfl (hb hby d6_31) rfl ?_
    show Steps p.tables e below (T13.setTop (mkF m 32 #[.val (.ref aa0), .val (.ref b5), .val (.int (1 : Int32))] [(.int ((fi - (1 : Int32)) + (1 : Int32))), (.int (1 : Int32)), (.ref b5)])) _
    refine st15 _ ?_
    show Steps p.tables e below (T15.setTop (mkF m 33 #[.val (.ref aa0), .val (.ref b5), .val (.int (1 : Int32))] [])) _
    refine XS.iinc X15.here hx rfl (hb hby d6_33) rfl (l' := #[.val (.ref aa0), .val (.ref b5), .val (.int (2 : Int32))]) rfl ?_
    show Steps p.tables e below (T15.setTop (mkF m 36 #[.val (.ref aa0), .val (.ref b5), .val (.int (2 : Int32))] [])) _
    refine XS.goto X15.here hx rfl (pc0 := 36) (pc' := 16) rfl (hb hby d6_36) (by decide) (by decide) ?_
    show Steps p.tables e below (T15.setTop (mkF m 16 #[.val (.ref aa0), .val (.ref b5), .val (.int (2 : Int32))] [])) _
    refine XS.iloadN X15.here hx rfl (hb hby d6_16) rfl ?_
    show Steps p.tables e below (T15.setTop (mkF m 17 #[.val (.ref aa0), .val (.ref b5), .val (.int (2 : Int32))] [(.int (2 : Int32))])) _
    refine XS.aloadN X15.here hx rfl (hb hby d6_17) rfl rfl ?_
    show Steps p.tables e below (T15.setTop (mkF m 18 #[.val (.ref aa0), .val (.ref b5), .val (.int (2 : Int32))] [(.ref b5), (.int (2 : Int32))])) _
    refine X15.arraylength hx (by rw [e15]; exact Ar_16.1) (State.isArrayOf_alike hZ.alike Ar_16.2.1) (g := (mkF m 18 #[.val (.ref aa0), .val (.ref b5), .val (.int (2 : Int32))] [(.ref b5), (.int (2 : Int32))])) rfl rfl (hb hby d6_18) _ ?_
    rw [len_of Sz_16 Nn_16]
    show Steps p.tables e below (T15.setTop (mkF m 19 #[.val (.ref aa0), .val (.ref b5), .val (.int (2 : Int32))] [(.int (3 : Int32)), (.int (2 : Int32))])) _
    refine XS.icmpNo X15.here hx rfl (hb hby d6_19) rfl (tlt hc19_3).2.1 ?_
    show Steps p.tables e below (T15.setTop (mkF m 22 #[.val (.ref aa0), .val (.ref b5), .val (.int (2 : Int32))] [])) _
    refine XS.aloadN X15.here hx rfl (hb hby d6_22) rfl rfl ?_
    show Steps p.tables e below (T15.setTop (mkF m 23 #[.val (.ref aa0), .val (.ref b5), .val (.int (2 : Int32))] [(.ref b5)])) _
    refine XS.iloadN X15.here hx rfl (hb hby d6_23) rfl ?_
    show Steps p.tables e below (T15.setTop (mkF m 24 #[.val (.ref aa0), .val (.ref b5), .val (.int (2 : Int32))] [(.int (2 : Int32)), (.ref b5)])) _
    refine XS.aloadN X15.here hx rfl (hb hby d6_24) rfl rfl ?_
    show Steps p.tables e below (T15.setTop (mkF m 25 #[.val (.ref aa0), .val (.ref b5), .val (.int (2 : Int32))] [(.ref aa0), (.int (2 : Int32)), (.ref b5)])) _
    refine st18 _ ?_
    show Steps p.tables e below (T18.setTop (mkF m 28 #[.val (.ref aa0), .val (.ref b5), .val (.int (2 : Int32))] [(.int fi), (.int (2 : Int32)), (.ref b5)])) _
    refine XS.iconst X18.here hx rfl (hb hby d6_28) ?_
    show Steps p.tables e below (T18.setTop (mkF m 29 #[.val (.ref aa0), .val (.ref b5), .val (.int (2 : Int32))] [(.int (1 : Int32)), (.int fi), (.int (2 : Int32)), (.ref b5)])) _
    refine XS.isub X18.here hx rfl (hb hby d6_29) rfl ?_
    show Steps p.tables e below (T18.setTop (mkF m 30 #[.val (.ref aa0), .val (.ref b5), .val (.int (2 : Int32))] [(.int (fi - (1 : Int32))), (.int (2 : Int32)), (.ref b5)])) _
    refine XS.iloadN X18.here hx rfl (hb hby d6_30) rfl ?_
    show Steps p.tables e below (T18.setTop (mkF m 31 #[.val (.ref aa0), .val (.ref b5), .val (.int (2 : Int32))] [(.int (2 : Int32)), (.int (fi - (1 : Int32))), (.int (2 : Int32)), (.ref b5)])) _
    refine XS.iadd X18.here hx rfl (hb hby d6_31) rfl ?_
    show Steps p.tables e below (T18.setTop (mkF m 32 #[.val (.ref aa0), .val (.ref b5), .val (.int (2 : Int32))] [(.int ((fi - (1 : Int32)) + (2 : Int32))), (.int (2 : Int32)), (.ref b5)])) _
    refine st20 _ ?_
    show Steps p.tables e below (T20.setTop (mkF m 33 #[.val (.ref aa0), .val (.ref b5), .val (.int (2 : Int32))] [])) _
    refine XS.iinc X20.here hx rfl (hb hby d6_33) rfl (l' := #[.val (.ref aa0), .val (.ref b5), .val (.int (3 : Int32))]) rfl ?_
    show Steps p.tables e below (T20.setTop (mkF m 36 #[.val (.ref aa0), .val (.ref b5), .val (.int (3 : Int32))] [])) _
    refine XS.goto X20.here hx rfl (pc0 := 36) (pc' := 16) rfl (hb hby d6_36) (by decide) (by decide) ?_
    show Steps p.tables e below (T20.setTop (mkF m 16 #[.val (.ref aa0), .val (.ref b5), .val (.int (3 : Int32))] [])) _
    refine XS.iloadN X20.here hx rfl (hb hby d6_16) rfl ?_
    show Steps p.tables e below (T20.setTop (mkF m 17 #[.val (.ref aa0), .val (.ref b5), .val (.int (3 : Int32))] [(.int (3 : Int32))])) _
    refine XS.aloadN X20.here hx rfl (hb hby d6_17) rfl rfl ?_
    show Steps p.tables e below (T20.setTop (mkF m 18 #[.val (.ref aa0), .val (.ref b5), .val (.int (3 : Int32))] [(.ref b5), (.int (3 : Int32))])) _
    refine X20.arraylength hx (by rw [e20]; exact Ar_21.1) (State.isArrayOf_alike hZ.alike Ar_21.2.1) (g := (mkF m 18 #[.val (.ref aa0), .val (.ref b5), .val (.int (3 : Int32))] [(.ref b5), (.int (3 : Int32))])) rfl rfl (hb hby d6_18) _ ?_
    rw [len_of Sz_21 Nn_21]
    show Steps p.tables e below (T20.setTop (mkF m 19 #[.val (.ref aa0), .val (.ref b5), .val (.int (3 : Int32))] [(.int (3 : Int32)), (.int (3 : Int32))])) _
    refine XS.icmpYes X20.here hx rfl (pc0 := 19) (pc' := 39) rfl (hb hby d6_19) rfl (flt hc19_4).2.1 (by decide) (by decide) ?_
    show Steps p.tables e below (T20.setTop (mkF m 39 #[.val (.ref aa0), .val (.ref b5), .val (.int (3 : Int32))] [])) _
    refine XS.aloadN X20.here hx rfl (hb hby d6_39) rfl rfl ?_
    show Steps p.tables e below (T20.setTop (mkF m 40 #[.val (.ref aa0), .val (.ref b5), .val (.int (3 : Int32))] [(.ref b5)])) _
    jvm_step X20.here [X20.here.top, hx, (hb hby d6_40), X20.method', Bd.returns, Value.isRef, FieldType.isReference]
    first | (intro acts; rw [hr _ acts rfl rfl rfl]) | rw [hr _ _ rfl rfl rfl]
    exact Steps.refl _
  · show Q6_3 Z aa0 fi la h0 n0 _ T20.heap _
    rw [e20]
    exact ⟨b5, k5, rfl, N20, K20, g_b5, sz_b5, V20⟩
theorem ef_6_4 (m : MethodId) (x0 : Addr) : entryFrame m #[(.ref x0)] 3 = mkF m 0 #[.val (.ref x0), .unset, .unset] [] := by first | (simp [entryFrame, mkF, argsToLocals, Value.category]; done) | rfl
def Q6_4 (Z : State) (aa0 : Addr) (fi : Int32) (la : Int32) (h0 : Heap) (n0 : Nat) (v : Option Value) (h : Heap) (L : List Loc) : Prop := ∃ (bx : Addr), ∃ (kx : ClassId), v = some (.ref bx) ∧ Fr n0 L ∧ Keep h0 h [] ∧ n0 ≤ bx ∧ h0.size ≤ bx ∧ (Arv Z h bx kx .int (4 : Int32) [(.int ((fi - (1 : Int32)) + (0 : Int32))), (.int ((fi - (1 : Int32)) + (1 : Int32))), (.int ((fi - (1 : Int32)) + (2 : Int32))), (.int ((fi - (1 : Int32)) + (3 : Int32)))] (.int (0 : Int32)))
set_option maxRecDepth 65536 in
set_option maxHeartbeats 40000000 in
theorem rm6_4 (l : Launch) (Z : State) (a0 : Array Value) (hw : ∀ d ∈ tables_1, d.before a0 Z = true) (ws : List Jvm.Cond) (aa0 : Addr) (fi : Int32) (la : Int32) (h0 : Heap) (n0 : Nat) (Z0 : n0 ≤ h0.size) (F_aa0_first : Fld Z h0 aa0 "com/example/escapement/escapement/cli/PartitionTable$Partition" "first" "I" (.int fi)) (F_aa0_last : Fld Z h0 aa0 "com/example/escapement/escapement/cli/PartitionTable$Partition" "last" "I" (.int la)) (hlen : ((la - fi) + (1 : Int32)) = (4 : Int32)) :
    MetFree l (⟨"com/example/escapement/escapement/cli/PartitionTable$Partition", "sites", "()[I"⟩ : MethodName) (head1 (Jvm.Cond.code (⟨"com/example/escapement/escapement/cli/PartitionTable$Partition", "sites", "()[I"⟩ : MethodName) prog_14_method_2_code 3 (some (.array .int)) :: ws) ({ frames := 0, cells := 1, slots := 4, locals := 0 } : Room)) (fun a U => a = #[(.ref aa0)] ∧ Z.Warmed39 U.vm ∧ U.heap = h0) (fun _ _ _ _ _ => True) (fun _ U o U' => ∃ v L, o = .returned v ∧ Q6_4 Z aa0 fi la h0 n0 v U'.heap L ∧ FrameEnd U o U' L ({ frames := 0, cells := 1, slots := 4, locals := 0 } : Room).cells ({ frames := 0, cells := 1, slots := 4, locals := 0 } : Room).slots) := by
  refine MetFree.of_bodySF (plainFor_of_name pn_com_example_escapement_escapement_cli_PartitionTable_Partition) hisR ?_
  intro p e s m args below meth c s₁ Bd hml0 hP hK
  obtain ⟨rfl, hZ, hh⟩ := hP
  have hx := Bd.exec
  have hby := Bd.bytes
  have hml : c.maxLocals = 3 := hml0
  have hown : s.vm.findClass "com/example/escapement/escapement/cli/PartitionTable$Partition" = some m.cls := findClass_of_methodNamed Bd.named
  have hnm := (name_of_methodNamed Bd.named Bd.method).1
  have X0 : Stand p l e ({ frames := 0, cells := 1, slots := 4, locals := 0 } : Room) s m #[(.ref aa0)] below meth c s₁ [] 0 0 := Stand.of_body Bd
  have e0 : s₁.heap = h0 := by rw [← hh, Bd.state]; rfl
  have N0 := Fr.nil n0
  have pre0 : ∀ t, Steps p.tables e below (s₁.setTop (mkF m 0 #[.val (.ref aa0), .unset, .unset] [])) t → Steps p.tables e below (s₁.setTop (entryFrame m #[(.ref aa0)] 3)) t := fun t k => castTop (ef_6_4 m aa0) k
  obtain ⟨T1, X1, e1, st1⟩ := getF X0 hx hZ hown (host := "") (Or.inl (hw _ (List.mem_of_getElem? (i := 34) rfl))) Via.refl e0 F_aa0_last (g := (mkF m 1 #[.val (.ref aa0), .unset, .unset] [(.ref aa0)])) rfl rfl (hb hby d6_1)
  obtain ⟨T2, X2, e2, st2⟩ := getF X1 hx hZ hown (host := "") (Or.inl (hw _ (List.mem_of_getElem? (i := 32) rfl))) Via.refl e1 F_aa0_first (g := (mkF m 5 #[.val (.ref aa0), .unset, .unset] [(.ref aa0), (.int la)])) rfl rfl (hb hby d6_5)
  have pre3 : ∀ t, Steps p.tables e below (T2.setTop (mkF m 11 #[.val (.ref aa0), .unset, .unset] [(.int ((la - fi) + (1 : Int32)))])) t → Steps p.tables e below (s₁.setTop (entryFrame m #[(.ref aa0)] 3)) t := fun t kt => pre0 t (by
    show Steps p.tables e below (s₁.setTop (mkF m 0 #[.val (.ref aa0), .unset, .unset] [])) _
    refine XS.aloadN X0.here hx rfl (hb hby d6_0) rfl rfl ?_
    show Steps p.tables e below (s₁.setTop (mkF m 1 #[.val (.ref aa0), .unset, .unset] [(.ref aa0)])) _
    refine st1 _ ?_
    show Steps p.tables e below (T1.setTop (mkF m 4 #[.val (.ref aa0), .unset, .unset] [(.int la)])) _
    refine XS.aloadN X1.here hx rfl (hb hby d6_4) rfl rfl ?_
    show Steps p.tables e below (T1.setTop (mkF m 5 #[.val (.ref aa0), .unset, .unset] [(.ref aa0), (.int la)])) _
    refine st2 _ ?_
    show Steps p.tables e below (T2.setTop (mkF m 8 #[.val (.ref aa0), .unset, .unset] [(.int fi), (.int la)])) _
    refine XS.isub X2.here hx rfl (hb hby d6_8) rfl ?_
    show Steps p.tables e below (T2.setTop (mkF m 9 #[.val (.ref aa0), .unset, .unset] [(.int (la - fi))])) _
    refine XS.iconst X2.here hx rfl (hb hby d6_9) ?_
    show Steps p.tables e below (T2.setTop (mkF m 10 #[.val (.ref aa0), .unset, .unset] [(.int (1 : Int32)), (.int (la - fi))])) _
    refine XS.iadd X2.here hx rfl (hb hby d6_10) rfl ?_
    exact kt)
  obtain ⟨nn, h_nn, pre4⟩ : ∃ (nn : Int32), (nn = (4 : Int32)) ∧ ∀ t, Steps p.tables e below (T2.setTop (mkF m 11 #[.val (.ref aa0), .unset, .unset] [(.int nn)])) t → Steps p.tables e below (s₁.setTop (entryFrame m #[(.ref aa0)] 3)) t := ⟨((la - fi) + (1 : Int32)), hlen, pre3⟩
  subst h_nn
  obtain ⟨T5, h5, k5, X5, e5, E5, A5, st5⟩ := newP X2 hx hZ (hw _ (List.mem_of_getElem? (i := 41) rfl)) e2 (g := (mkF m 11 #[.val (.ref aa0), .unset, .unset] [(.int (4 : Int32))])) rfl (hb hby d6_11) rfl (by decide) (cap := 4) (by decide) (by decide) (by decide) (by decide)
  obtain ⟨b5, g5⟩ : ∃ z, z = h0.size := ⟨_, rfl⟩
  rw [← g5] at A5 st5
  have g_b5 : n0 ≤ b5 := Nat.le_trans Z0 (Nat.le_of_eq g5.symm)
  have sz_b5 : h0.size ≤ b5 := Nat.le_trans (Keep.refl h0 []).1 (Nat.le_of_eq g5.symm)
  have Z5 : n0 ≤ h5.size := Nat.le_trans Z0 E5.1
  have K5 : Keep h0 h5 [] := (Keep.refl h0 []).ext E5
  have V5 : Arv Z h5 b5 k5 .int (4 : Int32) [(.int (0 : Int32)), (.int (0 : Int32)), (.int (0 : Int32)), (.int (0 : Int32))] (.int (0 : Int32)) := (Arv.new A5 (by decide)).pad (pad_rep [] (.int (0 : Int32)) 4)
  obtain ⟨cl_6, Ar_6, -, Sz_6, Nn_6, -, -⟩ := id V5
  have hc19 : (0 : Int32) < (4 : Int32) := by decide
  have F_7 : Fld Z h5 aa0 "com/example/escapement/escapement/cli/PartitionTable$Partition" "first" "I" (.int fi) := (F_aa0_first.ext E5)
  obtain ⟨T8, X8, e8, st8⟩ := getF X5 hx hZ hown (host := "") (Or.inl (hw _ (List.mem_of_getElem? (i := 32) rfl))) Via.refl e5 F_7 (g := (mkF m 25 #[.val (.ref aa0), .val (.ref b5), .val (.int (0 : Int32))] [(.ref aa0), (.int (0 : Int32)), (.ref b5)])) rfl rfl (hb hby d6_25)
  obtain ⟨cl_9, Ar_9, qq_9, Sz_9, Nn_9, Hh_9, Gg_9⟩ := id V5
  have hin_9 : ¬ ((0 : Int32) < 0 ∨ cl_9.slots.size ≤ ((0 : Int32)).toNatClampNeg) := inb_of Sz_9 ⟨by decide, by decide⟩
  obtain ⟨T10, h10, X10, e10, W10, st10⟩ := stI X8 hx hZ e8 Ar_9 (j := (0 : Int32)) hin_9 (g := (mkF m 32 #[.val (.ref aa0), .val (.ref b5), .val (.int (0 : Int32))] [(.int ((fi - (1 : Int32)) + (0 : Int32))), (.int (0 : Int32)), (.ref b5)])) rfl rfl (hb hby d6_32)
  have N10 := Fr.snoc X10 N0 g_b5
  have Z10 : n0 ≤ h10.size := Nat.le_trans Z5 (Keep.of_wr W10).1
  have K10 : Keep h0 h10 [] := K5.wr W10 (Or.inr sz_b5)
  have V10 : Arv Z h10 b5 k5 .int (4 : Int32) [(.int ((fi - (1 : Int32)) + (0 : Int32))), (.int (0 : Int32)), (.int (0 : Int32)), (.int (0 : Int32))] (.int (0 : Int32)) := Arv.set Ar_9 qq_9 Sz_9 Nn_9 Hh_9 Gg_9 rfl W10 0 rfl (Nat.le_of_ble_eq_true rfl)
  obtain ⟨cl_11, Ar_11, -, Sz_11, Nn_11, -, -⟩ := id V10
  have hc19_2 : (1 : Int32) < (4 : Int32) := by decide
  have F_12 : Fld Z h10 aa0 "com/example/escapement/escapement/cli/PartitionTable$Partition" "first" "I" (.int fi) := (F_7.other W10 (Or.inl (Nat.ne_of_lt (Nat.lt_of_lt_of_le F_aa0_first.lt (Nat.le_of_eq g5.symm)))))
  obtain ⟨T13, X13, e13, st13⟩ := getF X10 hx hZ hown (host := "") (Or.inl (hw _ (List.mem_of_getElem? (i := 32) rfl))) Via.refl e10 F_12 (g := (mkF m 25 #[.val (.ref aa0), .val (.ref b5), .val (.int (1 : Int32))] [(.ref aa0), (.int (1 : Int32)), (.ref b5)])) rfl rfl (hb hby d6_25)
  obtain ⟨cl_14, Ar_14, qq_14, Sz_14, Nn_14, Hh_14, Gg_14⟩ := id V10
  have hin_14 : ¬ ((1 : Int32) < 0 ∨ cl_14.slots.size ≤ ((1 : Int32)).toNatClampNeg) := inb_of Sz_14 ⟨by decide, by decide⟩
  obtain ⟨T15, h15, X15, e15, W15, st15⟩ := stI X13 hx hZ e13 Ar_14 (j := (1 : Int32)) hin_14 (g := (mkF m 32 #[.val (.ref aa0), .val (.ref b5), .val (.int (1 : Int32))] [(.int ((fi - (1 : Int32)) + (1 : Int32))), (.int (1 : Int32)), (.ref b5)])) rfl rfl (hb hby d6_32)
  have N15 := Fr.snoc X15 N10 g_b5
  have Z15 : n0 ≤ h15.size := Nat.le_trans Z10 (Keep.of_wr W15).1
  have K15 : Keep h0 h15 [] := K10.wr W15 (Or.inr sz_b5)
  have V15 : Arv Z h15 b5 k5 .int (4 : Int32) [(.int ((fi - (1 : Int32)) + (0 : Int32))), (.int ((fi - (1 : Int32)) + (1 : Int32))), (.int (0 : Int32)), (.int (0 : Int32))] (.int (0 : Int32)) := Arv.set Ar_14 qq_14 Sz_14 Nn_14 Hh_14 Gg_14 rfl W15 1 rfl (Nat.le_of_ble_eq_true rfl)
  obtain ⟨cl_16, Ar_16, -, Sz_16, Nn_16, -, -⟩ := id V15
  have hc19_3 : (2 : Int32) < (4 : Int32) := by decide
  have F_17 : Fld Z h15 aa0 "com/example/escapement/escapement/cli/PartitionTable$Partition" "first" "I" (.int fi) := (F_12.other W15 (Or.inl (Nat.ne_of_lt (Nat.lt_of_lt_of_le F_aa0_first.lt (Nat.le_of_eq g5.symm)))))
  obtain ⟨T18, X18, e18, st18⟩ := getF X15 hx hZ hown (host := "") (Or.inl (hw _ (List.mem_of_getElem? (i := 32) rfl))) Via.refl e15 F_17 (g := (mkF m 25 #[.val (.ref aa0), .val (.ref b5), .val (.int (2 : Int32))] [(.ref aa0), (.int (2 : Int32)), (.ref b5)])) rfl rfl (hb hby d6_25)
  obtain ⟨cl_19, Ar_19, qq_19, Sz_19, Nn_19, Hh_19, Gg_19⟩ := id V15
  have hin_19 : ¬ ((2 : Int32) < 0 ∨ cl_19.slots.size ≤ ((2 : Int32)).toNatClampNeg) := inb_of Sz_19 ⟨by decide, by decide⟩
  obtain ⟨T20, h20, X20, e20, W20, st20⟩ := stI X18 hx hZ e18 Ar_19 (j := (2 : Int32)) hin_19 (g := (mkF m 32 #[.val (.ref aa0), .val (.ref b5), .val (.int (2 : Int32))] [(.int ((fi - (1 : Int32)) + (2 : Int32))), (.int (2 : Int32)), (.ref b5)])) rfl rfl (hb hby d6_32)
  have N20 := Fr.snoc X20 N15 g_b5
  have Z20 : n0 ≤ h20.size := Nat.le_trans Z15 (Keep.of_wr W20).1
  have K20 : Keep h0 h20 [] := K15.wr W20 (Or.inr sz_b5)
  have V20 : Arv Z h20 b5 k5 .int (4 : Int32) [(.int ((fi - (1 : Int32)) + (0 : Int32))), (.int ((fi - (1 : Int32)) + (1 : Int32))), (.int ((fi - (1 : Int32)) + (2 : Int32))), (.int (0 : Int32))] (.int (0 : Int32)) := Arv.set Ar_19 qq_19 Sz_19 Nn_19 Hh_19 Gg_19 rfl W20 2 rfl (Nat.le_of_ble_eq_true rfl)
  obtain ⟨cl_21, Ar_21, -, Sz_21, Nn_21, -, -⟩ := id V20
  have hc19_4 : (3 : Int32) < (4 : Int32) := by decide
  have F_22 : Fld Z h20 aa0 "com/example/escapement/escapement/cli/PartitionTable$Partition" "first" "I" (.int fi) := (F_17.other W20 (Or.inl (Nat.ne_of_lt (Nat.lt_of_lt_of_le F_aa0_first.lt (Nat.le_of_eq g5.symm)))))
  obtain ⟨T23, X23, e23, st23⟩ := getF X20 hx hZ hown (host := "") (Or.inl (hw _ (List.mem_of_getElem? (i := 32) rfl))) Via.refl e20 F_22 (g := (mkF m 25 #[.val (.ref aa0), .val (.ref b5), .val (.int (3 : Int32))] [(.ref aa0), (.int (3 : Int32)), (.ref b5)])) rfl rfl (hb hby d6_25)
  obtain ⟨cl_24, Ar_24, qq_24, Sz_24, Nn_24, Hh_24, Gg_24⟩ := id V20
  have hin_24 : ¬ ((3 : Int32) < 0 ∨ cl_24.slots.size ≤ ((3 : Int32)).toNatClampNeg) := inb_of Sz_24 ⟨by decide, by decide⟩
  obtain ⟨T25, h25, X25, e25, W25, st25⟩ := stI X23 hx hZ e23 Ar_24 (j := (3 : Int32)) hin_24 (g := (mkF m 32 #[.val (.ref aa0), .val (.ref b5), .val (.int (3 : Int32))] [(.int ((fi - (1 : Int32)) + (3 : Int32))), (.int (3 : Int32)), (.ref b5)])) rfl rfl (hb hby d6_32)
  have N25 := Fr.snoc X25 N20 g_b5
  have Z25 : n0 ≤ h25.size := Nat.le_trans Z20 (Keep.of_wr W25).1
  have K25 : Keep h0 h25 [] := K20.wr W25 (Or.inr sz_b5)
  have V25 : Arv Z h25 b5 k5 .int (4 : Int32) [(.int ((fi - (1 : Int32)) + (0 : Int32))), (.int ((fi - (1 : Int32)) + (1 : Int32))), (.int ((fi - (1 : Int32)) + (2 : Int32))), (.int ((fi - (1 : Int32)) + (3 : Int32)))] (.int (0 : Int32)) := Arv.set Ar_24 qq_24 Sz_24 Nn_24 Hh_24 Gg_24 rfl W25 3 rfl (Nat.le_of_ble_eq_true rfl)
  obtain ⟨cl_26, Ar_26, -, Sz_26, Nn_26, -, -⟩ := id V25
  have hc19_5 : ¬ ((4 : Int32) < (4 : Int32)) := by decide
  obtain ⟨fs, hr, hrun, hended, hW, hsame⟩ := X25.leave (v := some (.ref b5)) (fun h => by rw [Bd.returns] at h; cases h)
  refine ⟨_, _, pre4 _ ?_, hrun, hended, _, _, rfl, ?_, ⟨_, rfl⟩, hW, hsame.mono (by decide) (by decide)⟩
  · show Steps p.tables e below (T2.setTop (mkF m 11 #[.val (.ref aa0), .unset, .unset] [(.int (4 : Int32))])) _
    refine st5 _ ?_
    show Steps p.tables e below (T5.setTop (mkF m 13 #[.val (.ref aa0), .unset, .unset] [(.ref b5)])) _
    refine XS.astoreN X5.here hx rfl (hb hby d6_13) rfl rfl (l' := #[.val (.ref aa0), .val (.ref b5), .unset]) rfl ?_
    show Steps p.tables e below (T5.setTop (mkF m 14 #[.val (.ref aa0), .val (.ref b5), .unset] [])) _
    refine XS.iconst X5.here hx rfl (hb hby d6_14) ?_
    show Steps p.tables e below (T5.setTop (mkF m 15 #[.val (.ref aa0), .val (.ref b5), .unset] [(.int (0 : Int32))])) _
    refine XS.istoreN X5.here hx rfl (hb hby d6_15) rfl (l' := #[.val (.ref aa0), .val (.ref b5), .val (.int (0 : Int32))]) rfl ?_
    show Steps p.tables e below (T5.setTop (mkF m 16 #[.val (.ref aa0), .val (.ref b5), .val (.int (0 : Int32))] [])) _
    refine XS.iloadN X5.here hx rfl (hb hby d6_16) rfl ?_
    show Steps p.tables e below (T5.setTop (mkF m 17 #[.val (.ref aa0), .val (.ref b5), .val (.int (0 : Int32))] [(.int (0 : Int32))])) _
    refine XS.aloadN X5.here hx rfl (hb hby d6_17) rfl rfl ?_
    show Steps p.tables e below (T5.setTop (mkF m 18 #[.val (.ref aa0), .val (.ref b5), .val (.int (0 : Int32))] [(.ref b5), (.int (0 : Int32))])) _
    refine X5.arraylength hx (by rw [e5]; exact Ar_6.1) (State.isArrayOf_alike hZ.alike Ar_6.2.1) (g := (mkF m 18 #[.val (.ref aa0), .val (.ref b5), .val (.int (0 : Int32))] [(.ref b5), (.int (0 : Int32))])) rfl rfl (hb hby d6_18) _ ?_
    rw [len_of Sz_6 Nn_6]
    show Steps p.tables e below (T5.setTop (mkF m 19 #[.val (.ref aa0), .val (.ref b5), .val (.int (0 : Int32))] [(.int (4 : Int32)), (.int (0 : Int32))])) _
    refine XS.icmpNo X5.here hx rfl (hb hby d6_19) rfl (tlt hc19).2.1 ?_
    show Steps p.tables e below (T5.setTop (mkF m 22 #[.val (.ref aa0), .val (.ref b5), .val (.int (0 : Int32))] [])) _
    refine XS.aloadN X5.here hx rfl (hb hby d6_22) rfl rfl ?_
    show Steps p.tables e below (T5.setTop (mkF m 23 #[.val (.ref aa0), .val (.ref b5), .val (.int (0 : Int32))] [(.ref b5)])) _
    refine XS.iloadN X5.here hx rfl (hb hby d6_23) rfl ?_
    show Steps p.tables e below (T5.setTop (mkF m 24 #[.val (.ref aa0), .val (.ref b5), .val (.int (0 : Int32))] [(.int (0 : Int32)), (.ref b5)])) _
    refine XS.aloadN X5.here hx rfl (hb hby d6_24) rfl rfl ?_
    show Steps p.tables e below (T5.setTop (mkF m 25 #[.val (.ref aa0), .val (.ref b5), .val (.int (0 : Int32))] [(.ref aa0), (.int (0 : Int32)), (.ref b5)])) _
    refine st8 _ ?_
    show Steps p.tables e below (T8.setTop (mkF m 28 #[.val (.ref aa0), .val (.ref b5), .val (.int (0 : Int32))] [(.int fi), (.int (0 : Int32)), (.ref b5)])) _
    refine XS.iconst X8.here hx rfl (hb hby d6_28) ?_
    show Steps p.tables e below (T8.setTop (mkF m 29 #[.val (.ref aa0), .val (.ref b5), .val (.int (0 : Int32))] [(.int (1 : Int32)), (.int fi), (.int (0 : Int32)), (.ref b5)])) _
    refine XS.isub X8.here hx rfl (hb hby d6_29) rfl ?_
    show Steps p.tables e below (T8.setTop (mkF m 30 #[.val (.ref aa0), .val (.ref b5), .val (.int (0 : Int32))] [(.int (fi - (1 : Int32))), (.int (0 : Int32)), (.ref b5)])) _
    refine XS.iloadN X8.here hx rfl (hb hby d6_30) rfl ?_
    show Steps p.tables e below (T8.setTop (mkF m 31 #[.val (.ref aa0), .val (.ref b5), .val (.int (0 : Int32))] [(.int (0 : Int32)), (.int (fi - (1 : Int32))), (.int (0 : Int32)), (.ref b5)])) _
    refine XS.iadd X8.here hx rfl (hb hby d6_31) rfl ?_
    show Steps p.tables e below (T8.setTop (mkF m 32 #[.val (.ref aa0), .val (.ref b5), .val (.int (0 : Int32))] [(.int ((fi - (1 : Int32)) + (0 : Int32))), (.int (0 : Int32)), (.ref b5)])) _
    refine st10 _ ?_
    show Steps p.tables e below (T10.setTop (mkF m 33 #[.val (.ref aa0), .val (.ref b5), .val (.int (0 : Int32))] [])) _
    refine XS.iinc X10.here hx rfl (hb hby d6_33) rfl (l' := #[.val (.ref aa0), .val (.ref b5), .val (.int (1 : Int32))]) rfl ?_
    show Steps p.tables e below (T10.setTop (mkF m 36 #[.val (.ref aa0), .val (.ref b5), .val (.int (1 : Int32))] [])) _
    refine XS.goto X10.here hx rfl (pc0 := 36) (pc' := 16) rfl (hb hby d6_36) (by decide) (by decide) ?_
    show Steps p.tables e below (T10.setTop (mkF m 16 #[.val (.ref aa0), .val (.ref b5), .val (.int (1 : Int32))] [])) _
    refine XS.iloadN X10.here hx rfl (hb hby d6_16) rfl ?_
    show Steps p.tables e below (T10.setTop (mkF m 17 #[.val (.ref aa0), .val (.ref b5), .val (.int (1 : Int32))] [(.int (1 : Int32))])) _
    refine XS.aloadN X10.here hx rfl (hb hby d6_17) rfl rfl ?_
    show Steps p.tables e below (T10.setTop (mkF m 18 #[.val (.ref aa0), .val (.ref b5), .val (.int (1 : Int32))] [(.ref b5), (.int (1 : Int32))])) _
    refine X10.arraylength hx (by rw [e10]; exact Ar_11.1) (State.isArrayOf_alike hZ.alike Ar_11.2.1) (g := (mkF m 18 #[.val (.ref aa0), .val (.ref b5), .val (.int (1 : Int32))] [(.ref b5), (.int (1 : Int32))])) rfl rfl (hb hby d6_18) _ ?_
    rw [len_of Sz_11 Nn_11]
    show Steps p.tables e below (T10.setTop (mkF m 19 #[.val (.ref aa0), .val (.ref b5), .val (.int (1 : Int32))] [(.int (4 : Int32)), (.int (1 : Int32))])) _
    refine XS.icmpNo X10.here hx rfl (hb hby d6_19) rfl (tlt hc19_2).2.1 ?_
    show Steps p.tables e below (T10.setTop (mkF m 22 #[.val (.ref aa0), .val (.ref b5), .val (.int (1 : Int32))] [])) _
    refine XS.aloadN X10.here hx rfl (hb hby d6_22) rfl rfl ?_
    show Steps p.tables e below (T10.setTop (mkF m 23 #[.val (.ref aa0), .val (.ref b5), .val (.int (1 : Int32))] [(.ref b5)])) _
    refine XS.iloadN X10.here hx rfl (hb hby d6_23) rfl ?_
    show Steps p.tables e below (T10.setTop (mkF m 24 #[.val (.ref aa0), .val (.ref b5), .val (.int (1 : Int32))] [(.int (1 : Int32)), (.ref b5)])) _
    refine XS.aloadN X10.here hx rfl (hb hby d6_24) rfl rfl ?_
    show Steps p.tables e below (T10.setTop (mkF m 25 #[.val (.ref aa0), .val (.ref b5), .val (.int (1 : Int32))] [(.ref aa0), (.int (1 : Int32)), (.ref b5)])) _
    refine st13 _ ?_
    show Steps p.tables e below (T13.setTop (mkF m 28 #[.val (.ref aa0), .val (.ref b5), .val (.int (1 : Int32))] [(.int fi), (.int (1 : Int32)), (.ref b5)])) _
    refine XS.iconst X13.here hx rfl (hb hby d6_28) ?_
    show Steps p.tables e below (T13.setTop (mkF m 29 #[.val (.ref aa0), .val (.ref b5), .val (.int (1 : Int32))] [(.int (1 : Int32)), (.int fi), (.int (1 : Int32)), (.ref b5)])) _
    refine XS.isub X13.here hx rfl (hb hby d6_29) rfl ?_
    show Steps p.tables e below (T13.setTop (mkF m 30 #[.val (.ref aa0), .val (.ref b5), .val (.int (1 : Int32))] [(.int (fi - (1 : Int32))), (.int (1 : Int32)), (.ref b5)])) _
    refine XS.iloadN X13.here hx rfl (hb hby d6_30) rfl ?_
    show Steps p.tables e below (T13.setTop (mkF m 31 #[.val (.ref aa0), .val (.ref b5), .val (.int (1 : Int32))] [(.int (1 : Int32)), (.int (fi - (1 : Int32))), (.int (1 : Int32)), (.ref b5)])) _
    refine XS.iadd X13.here hx rfl (hb hby d6_31) rfl ?_
    show Steps p.tables e below (T13.setTop (mkF m 32 #[.val (.ref aa0), .val (.ref b5), .val (.int (1 : Int32))] [(.int ((fi - (1 : Int32)) + (1 : Int32))), (.int (1 : Int32)), (.ref b5)])) _
    refine st15 _ ?_
    show Steps p.tables e below (T15.setTop (mkF m 33 #[.val (.ref aa0), .val (.ref b5), .val (.int (1 : Int32))] [])) _
    refine XS.iinc X15.here hx rfl (hb hby d6_33) rfl (l' := #[.val (.ref aa0), .val (.ref b5), .val (.int (2 : Int32))]) rfl ?_
    show Steps p.tables e below (T15.setTop (mkF m 36 #[.val (.ref aa0), .val (.ref b5), .val (.int (2 : Int32))] [])) _
    refine XS.goto X15.here hx rfl (pc0 := 36) (pc' := 16) rfl (hb hby d6_36) (by decide) (by decide) ?_
    show Steps p.tables e below (T15.setTop (mkF m 16 #[.val (.ref aa0), .val (.ref b5), .val (.int (2 : Int32))] [])) _
    refine XS.iloadN X15.here hx rfl (hb hby d6_16) rfl ?_
    show Steps p.tables e below (T15.setTop (mkF m 17 #[.val (.ref aa0), .val (.ref b5), .val (.int (2 : Int32))] [(.int (2 : Int32))])) _
    refine XS.aloadN X15.here hx rfl (hb hby d6_17) rfl rfl ?_
    show Steps p.tables e below (T15.setTop (mkF m 18 #[.val (.ref aa0), .val (.ref b5), .val (.int (2 : Int32))] [(.ref b5), (.int (2 : Int32))])) _
    refine X15.arraylength hx (by rw [e15]; exact Ar_16.1) (State.isArrayOf_alike hZ.alike Ar_16.2.1) (g := (mkF m 18 #[.val (.ref aa0), .val (.ref b5), .val (.int (2 : Int32))] [(.ref b5), (.int (2 : Int32))])) rfl rfl (hb hby d6_18) _ ?_
    rw [len_of Sz_16 Nn_16]
    show Steps p.tables e below (T15.setTop (mkF m 19 #[.val (.ref aa0), .val (.ref b5), .val (.int (2 : Int32))] [(.int (4 : Int32)), (.int (2 : Int32))])) _
    refine XS.icmpNo X15.here hx rfl (hb hby d6_19) rfl (tlt hc19_3).2.1 ?_
    show Steps p.tables e below (T15.setTop (mkF m 22 #[.val (.ref aa0), .val (.ref b5), .val (.int (2 : Int32))] [])) _
    refine XS.aloadN X15.here hx rfl (hb hby d6_22) rfl rfl ?_
    show Steps p.tables e below (T15.setTop (mkF m 23 #[.val (.ref aa0), .val (.ref b5), .val (.int (2 : Int32))] [(.ref b5)])) _
    refine XS.iloadN X15.here hx rfl (hb hby d6_23) rfl ?_
    show Steps p.tables e below (T15.setTop (mkF m 24 #[.val (.ref aa0), .val (.ref b5), .val (.int (2 : Int32))] [(.int (2 : Int32)), (.ref b5)])) _
    refine XS.aloadN X15.here hx rfl (hb hby d6_24) rfl rfl ?_
    show Steps p.tables e below (T15.setTop (mkF m 25 #[.val (.ref aa0), .val (.ref b5), .val (.int (2 : Int32))] [(.ref aa0), (.int (2 : Int32)), (.ref b5)])) _
    refine st18 _ ?_
    show Steps p.tables e below (T18.setTop (mkF m 28 #[.val (.ref aa0), .val (.ref b5), .val (.int (2 : Int32))] [(.int fi), (.int (2 : Int32)), (.ref b5)])) _
    refine XS.iconst X18.here hx rfl (hb hby d6_28) ?_
    show Steps p.tables e below (T18.setTop (mkF m 29 #[.val (.ref aa0), .val (.ref b5), .val (.int (2 : Int32))] [(.int (1 : Int32)), (.int fi), (.int (2 : Int32)), (.ref b5)])) _
    refine XS.isub X18.here hx rfl (hb hby d6_29) rfl ?_
    show Steps p.tables e below (T18.setTop (mkF m 30 #[.val (.ref aa0), .val (.ref b5), .val (.int (2 : Int32))] [(.int (fi - (1 : Int32))), (.int (2 : Int32)), (.ref b5)])) _
    refine XS.iloadN X18.here hx rfl (hb hby d6_30) rfl ?_
    show Steps p.tables e below (T18.setTop (mkF m 31 #[.val (.ref aa0), .val (.ref b5), .val (.int (2 : Int32))] [(.int (2 : Int32)), (.int (fi - (1 : Int32))), (.int (2 : Int32)), (.ref b5)])) _
    refine XS.iadd X18.here hx rfl (hb hby d6_31) rfl ?_
    show Steps p.tables e below (T18.setTop (mkF m 32 #[.val (.ref aa0), .val (.ref b5), .val (.int (2 : Int32))] [(.int ((fi - (1 : Int32)) + (2 : Int32))), (.int (2 : Int32)), (.ref b5)])) _
    refine st20 _ ?_
    show Steps p.tables e below (T20.setTop (mkF m 33 #[.val (.ref aa0), .val (.ref b5), .val (.int (2 : Int32))] [])) _
    refine XS.iinc X20.here hx rfl (hb hby d6_33) rfl (l' := #[.val (.ref aa0), .val (.ref b5), .val (.int (3 : Int32))]) rfl ?_
    show Steps p.tables e below (T20.setTop (mkF m 36 #[.val (.ref aa0), .val (.ref b5), .val (.int (3 : Int32))] [])) _
    refine XS.goto X20.here hx rfl (pc0 := 36) (pc' := 16) rfl (hb hby d6_36) (by decide) (by decide) ?_
    show Steps p.tables e below (T20.setTop (mkF m 16 #[.val (.ref aa0), .val (.ref b5), .val (.int (3 : Int32))] [])) _
    refine XS.iloadN X20.here hx rfl (hb hby d6_16) rfl ?_
    show Steps p.tables e below (T20.setTop (mkF m 17 #[.val (.ref aa0), .val (.ref b5), .val (.int (3 : Int32))] [(.int (3 : Int32))])) _
    refine XS.aloadN X20.here hx rfl (hb hby d6_17) rfl rfl ?_
    show Steps p.tables e below (T20.setTop (mkF m 18 #[.val (.ref aa0), .val (.ref b5), .val (.int (3 : Int32))] [(.ref b5), (.int (3 : Int32))])) _
    refine X20.arraylength hx (by rw [e20]; exact Ar_21.1) (State.isArrayOf_alike hZ.alike Ar_21.2.1) (g := (mkF m 18 #[.val (.ref aa0), .val (.ref b5), .val (.int (3 : Int32))] [(.ref b5), (.int (3 : Int32))])) rfl rfl (hb hby d6_18) _ ?_
    rw [len_of Sz_21 Nn_21]
    show Steps p.tables e below (T20.setTop (mkF m 19 #[.val (.ref aa0), .val (.ref b5), .val (.int (3 : Int32))] [(.int (4 : Int32)), (.int (3 : Int32))])) _
    refine XS.icmpNo X20.here hx rfl (hb hby d6_19) rfl (tlt hc19_4).2.1 ?_
    show Steps p.tables e below (T20.setTop (mkF m 22 #[.val (.ref aa0), .val (.ref b5), .val (.int (3 : Int32))] [])) _
    refine XS.aloadN X20.here hx rfl (hb hby d6_22) rfl rfl ?_
    show Steps p.tables e below (T20.setTop (mkF m 23 #[.val (.ref aa0), .val (.ref b5), .val (.int (3 : Int32))] [(.ref b5)])) _
    refine XS.iloadN X20.here hx rfl (hb hby d6_23) rfl ?_
    show Steps p.tables e below (T20.setTop (mkF m 24 #[.val (.ref aa0), .val (.ref b5), .val (.int (3 : Int32))] [(.int (3 : Int32)), (.ref b5)])) _
    refine XS.aloadN X20.here hx rfl (hb hby d6_24) rfl rfl ?_
    show Steps p.tables e below (T20.setTop (mkF m 25 #[.val (.ref aa0), .val (.ref b5), .val (.int (3 : Int32))] [(.ref aa0), (.int (3 : Int32)), (.ref b5)])) _
    refine st23 _ ?_
    show Steps p.tables e below (T23.setTop (mkF m 28 #[.val (.ref aa0), .val (.ref b5), .val (.int (3 : Int32))] [(.int fi), (.int (3 : Int32)), (.ref b5)])) _
    refine XS.iconst X23.here hx rfl (hb hby d6_28) ?_
    show Steps p.tables e below (T23.setTop (mkF m 29 #[.val (.ref aa0), .val (.ref b5), .val (.int (3 : Int32))] [(.int (1 : Int32)), (.int fi), (.int (3 : Int32)), (.ref b5)])) _
    refine XS.isub X23.here hx rfl (hb hby d6_29) rfl ?_
    show Steps p.tables e below (T23.setTop (mkF m 30 #[.val (.ref aa0), .val (.ref b5), .val (.int (3 : Int32))] [(.int (fi - (1 : Int32))), (.int (3 : Int32)), (.ref b5)])) _
    refine XS.iloadN X23.here hx rfl (hb hby d6_30) rfl ?_
    show Steps p.tables e below (T23.setTop (mkF m 31 #[.val (.ref aa0), .val (.ref b5), .val (.int (3 : Int32))] [(.int (3 : Int32)), (.int (fi - (1 : Int32))), (.int (3 : Int32)), (.ref b5)])) _
    refine XS.iadd X23.here hx rfl (hb hby d6_31) rfl ?_
    show Steps p.tables e below (T23.setTop (mkF m 32 #[.val (.ref aa0), .val (.ref b5), .val (.int (3 : Int32))] [(.int ((fi - (1 : Int32)) + (3 : Int32))), (.int (3 : Int32)), (.ref b5)])) _
    refine st25 _ ?_
    show Steps p.tables e below (T25.setTop (mkF m 33 #[.val (.ref aa0), .val (.ref b5), .val (.int (3 : Int32))] [])) _
    refine XS.iinc X25.here hx rfl (hb hby d6_33) rfl (l' := #[.val (.ref aa0), .val (.ref b5), .val (.int (4 : Int32))]) rfl ?_
    show Steps p.tables e below (T25.setTop (mkF m 36 #[.val (.ref aa0), .val (.ref b5), .val (.int (4 : Int32))] [])) _
    refine XS.goto X25.here hx rfl (pc0 := 36) (pc' := 16) rfl (hb hby d6_36) (by decide) (by decide) ?_
    show Steps p.tables e below (T25.setTop (mkF m 16 #[.val (.ref aa0), .val (.ref b5), .val (.int (4 : Int32))] [])) _
    refine XS.iloadN X25.here hx rfl (hb hby d6_16) rfl ?_
    show Steps p.tables e below (T25.setTop (mkF m 17 #[.val (.ref aa0), .val (.ref b5), .val (.int (4 : Int32))] [(.int (4 : Int32))])) _
    refine XS.aloadN X25.here hx rfl (hb hby d6_17) rfl rfl ?_
    show Steps p.tables e below (T25.setTop (mkF m 18 #[.val (.ref aa0), .val (.ref b5), .val (.int (4 : Int32))] [(.ref b5), (.int (4 : Int32))])) _
    refine X25.arraylength hx (by rw [e25]; exact Ar_26.1) (State.isArrayOf_alike hZ.alike Ar_26.2.1) (g := (mkF m 18 #[.val (.ref aa0), .val (.ref b5), .val (.int (4 : Int32))] [(.ref b5), (.int (4 : Int32))])) rfl rfl (hb hby d6_18) _ ?_
    rw [len_of Sz_26 Nn_26]
    show Steps p.tables e below (T25.setTop (mkF m 19 #[.val (.ref aa0), .val (.ref b5), .val (.int (4 : Int32))] [(.int (4 : Int32)), (.int (4 : Int32))])) _
    refine XS.icmpYes X25.here hx rfl (pc0 := 19) (pc' := 39) rfl (hb hby d6_19) rfl (flt hc19_5).2.1 (by decide) (by decide) ?_
    show Steps p.tables e below (T25.setTop (mkF m 39 #[.val (.ref aa0), .val (.ref b5), .val (.int (4 : Int32))] [])) _
    refine XS.aloadN X25.here hx rfl (hb hby d6_39) rfl rfl ?_
    show Steps p.tables e below (T25.setTop (mkF m 40 #[.val (.ref aa0), .val (.ref b5), .val (.int (4 : Int32))] [(.ref b5)])) _
    jvm_step X25.here [X25.here.top, hx, (hb hby d6_40), X25.method', Bd.returns, Value.isRef, FieldType.isReference]
    first | (intro acts; rw [hr _ acts rfl rfl rfl]) | rw [hr _ _ rfl rfl rfl]
    exact Steps.refl _
  · show Q6_4 Z aa0 fi la h0 n0 _ T25.heap _
    rw [e25]
    exact ⟨b5, k5, rfl, N25, K25, g_b5, sz_b5, V25⟩
theorem ef_6_5 (m : MethodId) (x0 : Addr) : entryFrame m #[(.ref x0)] 3 = mkF m 0 #[.val (.ref x0), .unset, .unset] [] := by first | (simp [entryFrame, mkF, argsToLocals, Value.category]; done) | rfl
def Q6_5 (Z : State) (aa0 : Addr) (fi : Int32) (la : Int32) (h0 : Heap) (n0 : Nat) (v : Option Value) (h : Heap) (L : List Loc) : Prop := ∃ (bx : Addr), ∃ (kx : ClassId), v = some (.ref bx) ∧ Fr n0 L ∧ Keep h0 h [] ∧ n0 ≤ bx ∧ h0.size ≤ bx ∧ (Arv Z h bx kx .int (5 : Int32) [(.int ((fi - (1 : Int32)) + (0 : Int32))), (.int ((fi - (1 : Int32)) + (1 : Int32))), (.int ((fi - (1 : Int32)) + (2 : Int32))), (.int ((fi - (1 : Int32)) + (3 : Int32))), (.int ((fi - (1 : Int32)) + (4 : Int32)))] (.int (0 : Int32)))
set_option maxRecDepth 65536 in
set_option maxHeartbeats 40000000 in
theorem rm6_5 (l : Launch) (Z : State) (a0 : Array Value) (hw : ∀ d ∈ tables_1, d.before a0 Z = true) (ws : List Jvm.Cond) (aa0 : Addr) (fi : Int32) (la : Int32) (h0 : Heap) (n0 : Nat) (Z0 : n0 ≤ h0.size) (F_aa0_first : Fld Z h0 aa0 "com/example/escapement/escapement/cli/PartitionTable$Partition" "first" "I" (.int fi)) (F_aa0_last : Fld Z h0 aa0 "com/example/escapement/escapement/cli/PartitionTable$Partition" "last" "I" (.int la)) (hlen : ((la - fi) + (1 : Int32)) = (5 : Int32)) :
    MetFree l (⟨"com/example/escapement/escapement/cli/PartitionTable$Partition", "sites", "()[I"⟩ : MethodName) (head1 (Jvm.Cond.code (⟨"com/example/escapement/escapement/cli/PartitionTable$Partition", "sites", "()[I"⟩ : MethodName) prog_14_method_2_code 3 (some (.array .int)) :: ws) ({ frames := 0, cells := 1, slots := 5, locals := 0 } : Room)) (fun a U => a = #[(.ref aa0)] ∧ Z.Warmed39 U.vm ∧ U.heap = h0) (fun _ _ _ _ _ => True) (fun _ U o U' => ∃ v L, o = .returned v ∧ Q6_5 Z aa0 fi la h0 n0 v U'.heap L ∧ FrameEnd U o U' L ({ frames := 0, cells := 1, slots := 5, locals := 0 } : Room).cells ({ frames := 0, cells := 1, slots := 5, locals := 0 } : Room).slots) := by
  refine MetFree.of_bodySF (plainFor_of_name pn_com_example_escapement_escapement_cli_PartitionTable_Partition) hisR ?_
  intro p e s m args below meth c s₁ Bd hml0 hP hK
  obtain ⟨rfl, hZ, hh⟩ := hP
  have hx := Bd.exec
  have hby := Bd.bytes
  have hml : c.maxLocals = 3 := hml0
  have hown : s.vm.findClass "com/example/escapement/escapement/cli/PartitionTable$Partition" = some m.cls := findClass_of_methodNamed Bd.named
  have hnm := (name_of_methodNamed Bd.named Bd.method).1
  have X0 : Stand p l e ({ frames := 0, cells := 1, slots := 5, locals := 0 } : Room) s m #[(.ref aa0)] below meth c s₁ [] 0 0 := Stand.of_body Bd
  have e0 : s₁.heap = h0 := by rw [← hh, Bd.state]; rfl
  have N0 := Fr.nil n0
  have pre0 : ∀ t, Steps p.tables e below (s₁.setTop (mkF m 0 #[.val (.ref aa0), .unset, .unset] [])) t → Steps p.tables e below (s₁.setTop (entryFrame m #[(.ref aa0)] 3)) t := fun t k => castTop (ef_6_5 m aa0) k
  obtain ⟨T1, X1, e1, st1⟩ := getF X0 hx hZ hown (host := "") (Or.inl (hw _ (List.mem_of_getElem? (i := 34) rfl))) Via.refl e0 F_aa0_last (g := (mkF m 1 #[.val (.ref aa0), .unset, .unset] [(.ref aa0)])) rfl rfl (hb hby d6_1)
  obtain ⟨T2, X2, e2, st2⟩ := getF X1 hx hZ hown (host := "") (Or.inl (hw _ (List.mem_of_getElem? (i := 32) rfl))) Via.refl e1 F_aa0_first (g := (mkF m 5 #[.val (.ref aa0), .unset, .unset] [(.ref aa0), (.int la)])) rfl rfl (hb hby d6_5)
  have pre3 : ∀ t, Steps p.tables e below (T2.setTop (mkF m 11 #[.val (.ref aa0), .unset, .unset] [(.int ((la - fi) + (1 : Int32)))])) t → Steps p.tables e below (s₁.setTop (entryFrame m #[(.ref aa0)] 3)) t := fun t kt => pre0 t (by
    show Steps p.tables e below (s₁.setTop (mkF m 0 #[.val (.ref aa0), .unset, .unset] [])) _
    refine XS.aloadN X0.here hx rfl (hb hby d6_0) rfl rfl ?_
    show Steps p.tables e below (s₁.setTop (mkF m 1 #[.val (.ref aa0), .unset, .unset] [(.ref aa0)])) _
    refine st1 _ ?_
    show Steps p.tables e below (T1.setTop (mkF m 4 #[.val (.ref aa0), .unset, .unset] [(.int la)])) _
    refine XS.aloadN X1.here hx rfl (hb hby d6_4) rfl rfl ?_
    show Steps p.tables e below (T1.setTop (mkF m 5 #[.val (.ref aa0), .unset, .unset] [(.ref aa0), (.int la)])) _
    refine st2 _ ?_
    show Steps p.tables e below (T2.setTop (mkF m 8 #[.val (.ref aa0), .unset, .unset] [(.int fi), (.int la)])) _
    refine XS.isub X2.here hx rfl (hb hby d6_8) rfl ?_
    show Steps p.tables e below (T2.setTop (mkF m 9 #[.val (.ref aa0), .unset, .unset] [(.int (la - fi))])) _
    refine XS.iconst X2.here hx rfl (hb hby d6_9) ?_
    show Steps p.tables e below (T2.setTop (mkF m 10 #[.val (.ref aa0), .unset, .unset] [(.int (1 : Int32)), (.int (la - fi))])) _
    refine XS.iadd X2.here hx rfl (hb hby d6_10) rfl ?_
    exact kt)
  obtain ⟨nn, h_nn, pre4⟩ : ∃ (nn : Int32), (nn = (5 : Int32)) ∧ ∀ t, Steps p.tables e below (T2.setTop (mkF m 11 #[.val (.ref aa0), .unset, .unset] [(.int nn)])) t → Steps p.tables e below (s₁.setTop (entryFrame m #[(.ref aa0)] 3)) t := ⟨((la - fi) + (1 : Int32)), hlen, pre3⟩
  subst h_nn
  obtain ⟨T5, h5, k5, X5, e5, E5, A5, st5⟩ := newP X2 hx hZ (hw _ (List.mem_of_getElem? (i := 41) rfl)) e2 (g := (mkF m 11 #[.val (.ref aa0), .unset, .unset] [(.int (5 : Int32))])) rfl (hb hby d6_11) rfl (by decide) (cap := 5) (by decide) (by decide) (by decide) (by decide)
  obtain ⟨b5, g5⟩ : ∃ z, z = h0.size := ⟨_, rfl⟩
  rw [← g5] at A5 st5
  have g_b5 : n0 ≤ b5 := Nat.le_trans Z0 (Nat.le_of_eq g5.symm)
  have sz_b5 : h0.size ≤ b5 := Nat.le_trans (Keep.refl h0 []).1 (Nat.le_of_eq g5.symm)
  have Z5 : n0 ≤ h5.size := Nat.le_trans Z0 E5.1
  have K5 : Keep h0 h5 [] := (Keep.refl h0 []).ext E5
  have V5 : Arv Z h5 b5 k5 .int (5 : Int32) [(.int (0 : Int32)), (.int (0 : Int32)), (.int (0 : Int32)), (.int (0 : Int32)), (.int (0 : Int32))] (.int (0 : Int32)) := (Arv.new A5 (by decide)).pad (pad_rep [] (.int (0 : Int32)) 5)
  obtain ⟨cl_6, Ar_6, -, Sz_6, Nn_6, -, -⟩ := id V5
  have hc19 : (0 : Int32) < (5 : Int32) := by decide
  have F_7 : Fld Z h5 aa0 "com/example/escapement/escapement/cli/PartitionTable$Partition" "first" "I" (.int fi) := (F_aa0_first.ext E5)
  obtain ⟨T8, X8, e8, st8⟩ := getF X5 hx hZ hown (host := "") (Or.inl (hw _ (List.mem_of_getElem? (i := 32) rfl))) Via.refl e5 F_7 (g := (mkF m 25 #[.val (.ref aa0), .val (.ref b5), .val (.int (0 : Int32))] [(.ref aa0), (.int (0 : Int32)), (.ref b5)])) rfl rfl (hb hby d6_25)
  obtain ⟨cl_9, Ar_9, qq_9, Sz_9, Nn_9, Hh_9, Gg_9⟩ := id V5
  have hin_9 : ¬ ((0 : Int32) < 0 ∨ cl_9.slots.size ≤ ((0 : Int32)).toNatClampNeg) := inb_of Sz_9 ⟨by decide, by decide⟩
  obtain ⟨T10, h10, X10, e10, W10, st10⟩ := stI X8 hx hZ e8 Ar_9 (j := (0 : Int32)) hin_9 (g := (mkF m 32 #[.val (.ref aa0), .val (.ref b5), .val (.int (0 : Int32))] [(.int ((fi - (1 : Int32)) + (0 : Int32))), (.int (0 : Int32)), (.ref b5)])) rfl rfl (hb hby d6_32)
  have N10 := Fr.snoc X10 N0 g_b5
  have Z10 : n0 ≤ h10.size := Nat.le_trans Z5 (Keep.of_wr W10).1
  have K10 : Keep h0 h10 [] := K5.wr W10 (Or.inr sz_b5)
  have V10 : Arv Z h10 b5 k5 .int (5 : Int32) [(.int ((fi - (1 : Int32)) + (0 : Int32))), (.int (0 : Int32)), (.int (0 : Int32)), (.int (0 : Int32)), (.int (0 : Int32))] (.int (0 : Int32)) := Arv.set Ar_9 qq_9 Sz_9 Nn_9 Hh_9 Gg_9 rfl W10 0 rfl (Nat.le_of_ble_eq_true rfl)
  obtain ⟨cl_11, Ar_11, -, Sz_11, Nn_11, -, -⟩ := id V10
  have hc19_2 : (1 : Int32) < (5 : Int32) := by decide
  have F_12 : Fld Z h10 aa0 "com/example/escapement/escapement/cli/PartitionTable$Partition" "first" "I" (.int fi) := (F_7.other W10 (Or.inl (Nat.ne_of_lt (Nat.lt_of_lt_of_le F_aa0_first.lt (Nat.le_of_eq g5.symm)))))
  obtain ⟨T13, X13, e13, st13⟩ := getF X10 hx hZ hown (host := "") (Or.inl (hw _ (List.mem_of_getElem? (i := 32) rfl))) Via.refl e10 F_12 (g := (mkF m 25 #[.val (.ref aa0), .val (.ref b5), .val (.int (1 : Int32))] [(.ref aa0), (.int (1 : Int32)), (.ref b5)])) rfl rfl (hb hby d6_25)
  obtain ⟨cl_14, Ar_14, qq_14, Sz_14, Nn_14, Hh_14, Gg_14⟩ := id V10
  have hin_14 : ¬ ((1 : Int32) < 0 ∨ cl_14.slots.size ≤ ((1 : Int32)).toNatClampNeg) := inb_of Sz_14 ⟨by decide, by decide⟩
  obtain ⟨T15, h15, X15, e15, W15, st15⟩ := stI X13 hx hZ e13 Ar_14 (j := (1 : Int32)) hin_14 (g := (mkF m 32 #[.val (.ref aa0), .val (.ref b5), .val (.int (1 : Int32))] [(.int ((fi - (1 : Int32)) + (1 : Int32))), (.int (1 : Int32)), (.ref b5)])) rfl rfl (hb hby d6_32)
  have N15 := Fr.snoc X15 N10 g_b5
  have Z15 : n0 ≤ h15.size := Nat.le_trans Z10 (Keep.of_wr W15).1
  have K15 : Keep h0 h15 [] := K10.wr W15 (Or.inr sz_b5)
  have V15 : Arv Z h15 b5 k5 .int (5 : Int32) [(.int ((fi - (1 : Int32)) + (0 : Int32))), (.int ((fi - (1 : Int32)) + (1 : Int32))), (.int (0 : Int32)), (.int (0 : Int32)), (.int (0 : Int32))] (.int (0 : Int32)) := Arv.set Ar_14 qq_14 Sz_14 Nn_14 Hh_14 Gg_14 rfl W15 1 rfl (Nat.le_of_ble_eq_true rfl)
  obtain ⟨cl_16, Ar_16, -, Sz_16, Nn_16, -, -⟩ := id V15
  have hc19_3 : (2 : Int32) < (5 : Int32) := by decide
  have F_17 : Fld Z h15 aa0 "com/example/escapement/escapement/cli/PartitionTable$Partition" "first" "I" (.int fi) := (F_12.other W15 (Or.inl (Nat.ne_of_lt (Nat.lt_of_lt_of_le F_aa0_first.lt (Nat.le_of_eq g5.symm)))))
  obtain ⟨T18, X18, e18, st18⟩ := getF X15 hx hZ hown (host := "") (Or.inl (hw _ (List.mem_of_getElem? (i := 32) rfl))) Via.refl e15 F_17 (g := (mkF m 25 #[.val (.ref aa0), .val (.ref b5), .val (.int (2 : Int32))] [(.ref aa0), (.int (2 : Int32)), (.ref b5)])) rfl rfl (hb hby d6_25)
  obtain ⟨cl_19, Ar_19, qq_19, Sz_19, Nn_19, Hh_19, Gg_19⟩ := id V15
  have hin_19 : ¬ ((2 : Int32) < 0 ∨ cl_19.slots.size ≤ ((2 : Int32)).toNatClampNeg) := inb_of Sz_19 ⟨by decide, by decide⟩
  obtain ⟨T20, h20, X20, e20, W20, st20⟩ := stI X18 hx hZ e18 Ar_19 (j := (2 : Int32)) hin_19 (g := (mkF m 32 #[.val (.ref aa0), .val (.ref b5), .val (.int (2 : Int32))] [(.int ((fi - (1 : Int32)) + (2 : Int32))), (.int (2 : Int32)), (.ref b5)])) rfl rfl (hb hby d6_32)
  have N20 := Fr.snoc X20 N15 g_b5
  have Z20 : n0 ≤ h20.size := Nat.le_trans Z15 (Keep.of_wr W20).1
  have K20 : Keep h0 h20 [] := K15.wr W20 (Or.inr sz_b5)
  have V20 : Arv Z h20 b5 k5 .int (5 : Int32) [(.int ((fi - (1 : Int32)) + (0 : Int32))), (.int ((fi - (1 : Int32)) + (1 : Int32))), (.int ((fi - (1 : Int32)) + (2 : Int32))), (.int (0 : Int32)), (.int (0 : Int32))] (.int (0 : Int32)) := Arv.set Ar_19 qq_19 Sz_19 Nn_19 Hh_19 Gg_19 rfl W20 2 rfl (Nat.le_of_ble_eq_true rfl)
  obtain ⟨cl_21, Ar_21, -, Sz_21, Nn_21, -, -⟩ := id V20
  have hc19_4 : (3 : Int32) < (5 : Int32) := by decide
  have F_22 : Fld Z h20 aa0 "com/example/escapement/escapement/cli/PartitionTable$Partition" "first" "I" (.int fi) := (F_17.other W20 (Or.inl (Nat.ne_of_lt (Nat.lt_of_lt_of_le F_aa0_first.lt (Nat.le_of_eq g5.symm)))))
  obtain ⟨T23, X23, e23, st23⟩ := getF X20 hx hZ hown (host := "") (Or.inl (hw _ (List.mem_of_getElem? (i := 32) rfl))) Via.refl e20 F_22 (g := (mkF m 25 #[.val (.ref aa0), .val (.ref b5), .val (.int (3 : Int32))] [(.ref aa0), (.int (3 : Int32)), (.ref b5)])) rfl rfl (hb hby d6_25)
  obtain ⟨cl_24, Ar_24, qq_24, Sz_24, Nn_24, Hh_24, Gg_24⟩ := id V20
  have hin_24 : ¬ ((3 : Int32) < 0 ∨ cl_24.slots.size ≤ ((3 : Int32)).toNatClampNeg) := inb_of Sz_24 ⟨by decide, by decide⟩
  obtain ⟨T25, h25, X25, e25, W25, st25⟩ := stI X23 hx hZ e23 Ar_24 (j := (3 : Int32)) hin_24 (g := (mkF m 32 #[.val (.ref aa0), .val (.ref b5), .val (.int (3 : Int32))] [(.int ((fi - (1 : Int32)) + (3 : Int32))), (.int (3 : Int32)), (.ref b5)])) rfl rfl (hb hby d6_32)
  have N25 := Fr.snoc X25 N20 g_b5
  have Z25 : n0 ≤ h25.size := Nat.le_trans Z20 (Keep.of_wr W25).1
  have K25 : Keep h0 h25 [] := K20.wr W25 (Or.inr sz_b5)
  have V25 : Arv Z h25 b5 k5 .int (5 : Int32) [(.int ((fi - (1 : Int32)) + (0 : Int32))), (.int ((fi - (1 : Int32)) + (1 : Int32))), (.int ((fi - (1 : Int32)) + (2 : Int32))), (.int ((fi - (1 : Int32)) + (3 : Int32))), (.int (0 : Int32))] (.int (0 : Int32)) := Arv.set Ar_24 qq_24 Sz_24 Nn_24 Hh_24 Gg_24 rfl W25 3 rfl (Nat.le_of_ble_eq_true rfl)
  obtain ⟨cl_26, Ar_26, -, Sz_26, Nn_26, -, -⟩ := id V25
  have hc19_5 : (4 : Int32) < (5 : Int32) := by decide
  have F_27 : Fld Z h25 aa0 "com/example/escapement/escapement/cli/PartitionTable$Partition" "first" "I" (.int fi) := (F_22.other W25 (Or.inl (Nat.ne_of_lt (Nat.lt_of_lt_of_le F_aa0_first.lt (Nat.le_of_eq g5.symm)))))
  obtain ⟨T28, X28, e28, st28⟩ := getF X25 hx hZ hown (host := "") (Or.inl (hw _ (List.mem_of_getElem? (i := 32) rfl))) Via.refl e25 F_27 (g := (mkF m 25 #[.val (.ref aa0), .val (.ref b5), .val (.int (4 : Int32))] [(.ref aa0), (.int (4 : Int32)), (.ref b5)])) rfl rfl (hb hby d6_25)
  obtain ⟨cl_29, Ar_29, qq_29, Sz_29, Nn_29, Hh_29, Gg_29⟩ := id V25
  have hin_29 : ¬ ((4 : Int32) < 0 ∨ cl_29.slots.size ≤ ((4 : Int32)).toNatClampNeg) := inb_of Sz_29 ⟨by decide, by decide⟩
  obtain ⟨T30, h30, X30, e30, W30, st30⟩ := stI X28 hx hZ e28 Ar_29 (j := (4 : Int32)) hin_29 (g := (mkF m 32 #[.val (.ref aa0), .val (.ref b5), .val (.int (4 : Int32))] [(.int ((fi - (1 : Int32)) + (4 : Int32))), (.int (4 : Int32)), (.ref b5)])) rfl rfl (hb hby d6_32)
  have N30 := Fr.snoc X30 N25 g_b5
  have Z30 : n0 ≤ h30.size := Nat.le_trans Z25 (Keep.of_wr W30).1
  have K30 : Keep h0 h30 [] := K25.wr W30 (Or.inr sz_b5)
  have V30 : Arv Z h30 b5 k5 .int (5 : Int32) [(.int ((fi - (1 : Int32)) + (0 : Int32))), (.int ((fi - (1 : Int32)) + (1 : Int32))), (.int ((fi - (1 : Int32)) + (2 : Int32))), (.int ((fi - (1 : Int32)) + (3 : Int32))), (.int ((fi - (1 : Int32)) + (4 : Int32)))] (.int (0 : Int32)) := Arv.set Ar_29 qq_29 Sz_29 Nn_29 Hh_29 Gg_29 rfl W30 4 rfl (Nat.le_of_ble_eq_true rfl)
  obtain ⟨cl_31, Ar_31, -, Sz_31, Nn_31, -, -⟩ := id V30
  have hc19_6 : ¬ ((5 : Int32) < (5 : Int32)) := by decide
  obtain ⟨fs, hr, hrun, hended, hW, hsame⟩ := X30.leave (v := some (.ref b5)) (fun h => by rw [Bd.returns] at h; cases h)
  refine ⟨_, _, pre4 _ ?_, hrun, hended, _, _, rfl, ?_, ⟨_, rfl⟩, hW, hsame.mono (by decide) (by decide)⟩
  · show Steps p.tables e below (T2.setTop (mkF m 11 #[.val (.ref aa0), .unset, .unset] [(.int (5 : Int32))])) _
    refine st5 _ ?_
    show Steps p.tables e below (T5.setTop (mkF m 13 #[.val (.ref aa0), .unset, .unset] [(.ref b5)])) _
    refine XS.astoreN X5.here hx rfl (hb hby d6_13) rfl rfl (l' := #[.val (.ref aa0), .val (.ref b5), .unset]) rfl ?_
    show Steps p.tables e below (T5.setTop (mkF m 14 #[.val (.ref aa0), .val (.ref b5), .unset] [])) _
    refine XS.iconst X5.here hx rfl (hb hby d6_14) ?_
    show Steps p.tables e below (T5.setTop (mkF m 15 #[.val (.ref aa0), .val (.ref b5), .unset] [(.int (0 : Int32))])) _
    refine XS.istoreN X5.here hx rfl (hb hby d6_15) rfl (l' := #[.val (.ref aa0), .val (.ref b5), .val (.int (0 : Int32))]) rfl ?_
    show Steps p.tables e below (T5.setTop (mkF m 16 #[.val (.ref aa0), .val (.ref b5), .val (.int (0 : Int32))] [])) _
    refine XS.iloadN X5.here hx rfl (hb hby d6_16) rfl ?_
    show Steps p.tables e below (T5.setTop (mkF m 17 #[.val (.ref aa0), .val (.ref b5), .val (.int (0 : Int32))] [(.int (0 : Int32))])) _
    refine XS.aloadN X5.here hx rfl (hb hby d6_17) rfl rfl ?_
    show Steps p.tables e below (T5.setTop (mkF m 18 #[.val (.ref aa0), .val (.ref b5), .val (.int (0 : Int32))] [(.ref b5), (.int (0 : Int32))])) _
    refine X5.arraylength hx (by rw [e5]; exact Ar_6.1) (State.isArrayOf_alike hZ.alike Ar_6.2.1) (g := (mkF m 18 #[.val (.ref aa0), .val (.ref b5), .val (.int (0 : Int32))] [(.ref b5), (.int (0 : Int32))])) rfl rfl (hb hby d6_18) _ ?_
    rw [len_of Sz_6 Nn_6]
    show Steps p.tables e below (T5.setTop (mkF m 19 #[.val (.ref aa0), .val (.ref b5), .val (.int (0 : Int32))] [(.int (5 : Int32)), (.int (0 : Int32))])) _
    refine XS.icmpNo X5.here hx rfl (hb hby d6_19) rfl (tlt hc19).2.1 ?_
    show Steps p.tables e below (T5.setTop (mkF m 22 #[.val (.ref aa0), .val (.ref b5), .val (.int (0 : Int32))] [])) _
    refine XS.aloadN X5.here hx rfl (hb hby d6_22) rfl rfl ?_
    show Steps p.tables e below (T5.setTop (mkF m 23 #[.val (.ref aa0), .val (.ref b5), .val (.int (0 : Int32))] [(.ref b5)])) _
    refine XS.iloadN X5.here hx rfl (hb hby d6_23) rfl ?_
    show Steps p.tables e below (T5.setTop (mkF m 24 #[.val (.ref aa0), .val (.ref b5), .val (.int (0 : Int32))] [(.int (0 : Int32)), (.ref b5)])) _
    refine XS.aloadN X5.here hx rfl (hb hby d6_24) rfl rfl ?_
    show Steps p.tables e below (T5.setTop (mkF m 25 #[.val (.ref aa0), .val (.ref b5), .val (.int (0 : Int32))] [(.ref aa0), (.int (0 : Int32)), (.ref b5)])) _
    refine st8 _ ?_
    show Steps p.tables e below (T8.setTop (mkF m 28 #[.val (.ref aa0), .val (.ref b5), .val (.int (0 : Int32))] [(.int fi), (.int (0 : Int32)), (.ref b5)])) _
    refine XS.iconst X8.here hx rfl (hb hby d6_28) ?_
    show Steps p.tables e below (T8.setTop (mkF m 29 #[.val (.ref aa0), .val (.ref b5), .val (.int (0 : Int32))] [(.int (1 : Int32)), (.int fi), (.int (0 : Int32)), (.ref b5)])) _
    refine XS.isub X8.here hx rfl (hb hby d6_29) rfl ?_
    show Steps p.tables e below (T8.setTop (mkF m 30 #[.val (.ref aa0), .val (.ref b5), .val (.int (0 : Int32))] [(.int (fi - (1 : Int32))), (.int (0 : Int32)), (.ref b5)])) _
    refine XS.iloadN X8.here hx rfl (hb hby d6_30) rfl ?_
    show Steps p.tables e below (T8.setTop (mkF m 31 #[.val (.ref aa0), .val (.ref b5), .val (.int (0 : Int32))] [(.int (0 : Int32)), (.int (fi - (1 : Int32))), (.int (0 : Int32)), (.ref b5)])) _
    refine XS.iadd X8.here hx rfl (hb hby d6_31) rfl ?_
    show Steps p.tables e below (T8.setTop (mkF m 32 #[.val (.ref aa0), .val (.ref b5), .val (.int (0 : Int32))] [(.int ((fi - (1 : Int32)) + (0 : Int32))), (.int (0 : Int32)), (.ref b5)])) _
    refine st10 _ ?_
    show Steps p.tables e below (T10.setTop (mkF m 33 #[.val (.ref aa0), .val (.ref b5), .val (.int (0 : Int32))] [])) _
    refine XS.iinc X10.here hx rfl (hb hby d6_33) rfl (l' := #[.val (.ref aa0), .val (.ref b5), .val (.int (1 : Int32))]) rfl ?_
    show Steps p.tables e below (T10.setTop (mkF m 36 #[.val (.ref aa0), .val (.ref b5), .val (.int (1 : Int32))] [])) _
    refine XS.goto X10.here hx rfl (pc0 := 36) (pc' := 16) rfl (hb hby d6_36) (by decide) (by decide) ?_
    show Steps p.tables e below (T10.setTop (mkF m 16 #[.val (.ref aa0), .val (.ref b5), .val (.int (1 : Int32))] [])) _
    refine XS.iloadN X10.here hx rfl (hb hby d6_16) rfl ?_
    show Steps p.tables e below (T10.setTop (mkF m 17 #[.val (.ref aa0), .val (.ref b5), .val (.int (1 : Int32))] [(.int (1 : Int32))])) _
    refine XS.aloadN X10.here hx rfl (hb hby d6_17) rfl rfl ?_
    show Steps p.tables e below (T10.setTop (mkF m 18 #[.val (.ref aa0), .val (.ref b5), .val (.int (1 : Int32))] [(.ref b5), (.int (1 : Int32))])) _
    refine X10.arraylength hx (by rw [e10]; exact Ar_11.1) (State.isArrayOf_alike hZ.alike Ar_11.2.1) (g := (mkF m 18 #[.val (.ref aa0), .val (.ref b5), .val (.int (1 : Int32))] [(.ref b5), (.int (1 : Int32))])) rfl rfl (hb hby d6_18) _ ?_
    rw [len_of Sz_11 Nn_11]
    show Steps p.tables e below (T10.setTop (mkF m 19 #[.val (.ref aa0), .val (.ref b5), .val (.int (1 : Int32))] [(.int (5 : Int32)), (.int (1 : Int32))])) _
    refine XS.icmpNo X10.here hx rfl (hb hby d6_19) rfl (tlt hc19_2).2.1 ?_
    show Steps p.tables e below (T10.setTop (mkF m 22 #[.val (.ref aa0), .val (.ref b5), .val (.int (1 : Int32))] [])) _
    refine XS.aloadN X10.here hx rfl (hb hby d6_22) rfl rfl ?_
    show Steps p.tables e below (T10.setTop (mkF m 23 #[.val (.ref aa0), .val (.ref b5), .val (.int (1 : Int32))] [(.ref b5)])) _
    refine XS.iloadN X10.here hx rfl (hb hby d6_23) rfl ?_
    show Steps p.tables e below (T10.setTop (mkF m 24 #[.val (.ref aa0), .val (.ref b5), .val (.int (1 : Int32))] [(.int (1 : Int32)), (.ref b5)])) _
    refine XS.aloadN X10.here hx rfl (hb hby d6_24) rfl rfl ?_
    show Steps p.tables e below (T10.setTop (mkF m 25 #[.val (.ref aa0), .val (.ref b5), .val (.int (1 : Int32))] [(.ref aa0), (.int (1 : Int32)), (.ref b5)])) _
    refine st13 _ ?_
    show Steps p.tables e below (T13.setTop (mkF m 28 #[.val (.ref aa0), .val (.ref b5), .val (.int (1 : Int32))] [(.int fi), (.int (1 : Int32)), (.ref b5)])) _
    refine XS.iconst X13.here hx rfl (hb hby d6_28) ?_
    show Steps p.tables e below (T13.setTop (mkF m 29 #[.val (.ref aa0), .val (.ref b5), .val (.int (1 : Int32))] [(.int (1 : Int32)), (.int fi), (.int (1 : Int32)), (.ref b5)])) _
    refine XS.isub X13.here hx rfl (hb hby d6_29) rfl ?_
    show Steps p.tables e below (T13.setTop (mkF m 30 #[.val (.ref aa0), .val (.ref b5), .val (.int (1 : Int32))] [(.int (fi - (1 : Int32))), (.int (1 : Int32)), (.ref b5)])) _
    refine XS.iloadN X13.here hx rfl (hb hby d6_30) rfl ?_
    show Steps p.tables e below (T13.setTop (mkF m 31 #[.val (.ref aa0), .val (.ref b5), .val (.int (1 : Int32))] [(.int (1 : Int32)), (.int (fi - (1 : Int32))), (.int (1 : Int32)), (.ref b5)])) _
    refine XS.iadd X13.here hx rfl (hb hby d6_31) rfl ?_
    show Steps p.tables e below (T13.setTop (mkF m 32 #[.val (.ref aa0), .val (.ref b5), .val (.int (1 : Int32))] [(.int ((fi - (1 : Int32)) + (1 : Int32))), (.int (1 : Int32)), (.ref b5)])) _
    refine st15 _ ?_
    show Steps p.tables e below (T15.setTop (mkF m 33 #[.val (.ref aa0), .val (.ref b5), .val (.int (1 : Int32))] [])) _
    refine XS.iinc X15.here hx rfl (hb hby d6_33) rfl (l' := #[.val (.ref aa0), .val (.ref b5), .val (.int (2 : Int32))]) rfl ?_
    show Steps p.tables e below (T15.setTop (mkF m 36 #[.val (.ref aa0), .val (.ref b5), .val (.int (2 : Int32))] [])) _
    refine XS.goto X15.here hx rfl (pc0 := 36) (pc' := 16) rfl (hb hby d6_36) (by decide) (by decide) ?_
    show Steps p.tables e below (T15.setTop (mkF m 16 #[.val (.ref aa0), .val (.ref b5), .val (.int (2 : Int32))] [])) _
    refine XS.iloadN X15.here hx rfl (hb hby d6_16) rfl ?_
    show Steps p.tables e below (T15.setTop (mkF m 17 #[.val (.ref aa0), .val (.ref b5), .val (.int (2 : Int32))] [(.int (2 : Int32))])) _
    refine XS.aloadN X15.here hx rfl (hb hby d6_17) rfl rfl ?_
    show Steps p.tables e below (T15.setTop (mkF m 18 #[.val (.ref aa0), .val (.ref b5), .val (.int (2 : Int32))] [(.ref b5), (.int (2 : Int32))])) _
    refine X15.arraylength hx (by rw [e15]; exact Ar_16.1) (State.isArrayOf_alike hZ.alike Ar_16.2.1) (g := (mkF m 18 #[.val (.ref aa0), .val (.ref b5), .val (.int (2 : Int32))] [(.ref b5), (.int (2 : Int32))])) rfl rfl (hb hby d6_18) _ ?_
    rw [len_of Sz_16 Nn_16]
    show Steps p.tables e below (T15.setTop (mkF m 19 #[.val (.ref aa0), .val (.ref b5), .val (.int (2 : Int32))] [(.int (5 : Int32)), (.int (2 : Int32))])) _
    refine XS.icmpNo X15.here hx rfl (hb hby d6_19) rfl (tlt hc19_3).2.1 ?_
    show Steps p.tables e below (T15.setTop (mkF m 22 #[.val (.ref aa0), .val (.ref b5), .val (.int (2 : Int32))] [])) _
    refine XS.aloadN X15.here hx rfl (hb hby d6_22) rfl rfl ?_
    show Steps p.tables e below (T15.setTop (mkF m 23 #[.val (.ref aa0), .val (.ref b5), .val (.int (2 : Int32))] [(.ref b5)])) _
    refine XS.iloadN X15.here hx rfl (hb hby d6_23) rfl ?_
    show Steps p.tables e below (T15.setTop (mkF m 24 #[.val (.ref aa0), .val (.ref b5), .val (.int (2 : Int32))] [(.int (2 : Int32)), (.ref b5)])) _
    refine XS.aloadN X15.here hx rfl (hb hby d6_24) rfl rfl ?_
    show Steps p.tables e below (T15.setTop (mkF m 25 #[.val (.ref aa0), .val (.ref b5), .val (.int (2 : Int32))] [(.ref aa0), (.int (2 : Int32)), (.ref b5)])) _
    refine st18 _ ?_
    show Steps p.tables e below (T18.setTop (mkF m 28 #[.val (.ref aa0), .val (.ref b5), .val (.int (2 : Int32))] [(.int fi), (.int (2 : Int32)), (.ref b5)])) _
    refine XS.iconst X18.here hx rfl (hb hby d6_28) ?_
    show Steps p.tables e below (T18.setTop (mkF m 29 #[.val (.ref aa0), .val (.ref b5), .val (.int (2 : Int32))] [(.int (1 : Int32)), (.int fi), (.int (2 : Int32)), (.ref b5)])) _
    refine XS.isub X18.here hx rfl (hb hby d6_29) rfl ?_
    show Steps p.tables e below (T18.setTop (mkF m 30 #[.val (.ref aa0), .val (.ref b5), .val (.int (2 : Int32))] [(.int (fi - (1 : Int32))), (.int (2 : Int32)), (.ref b5)])) _
    refine XS.iloadN X18.here hx rfl (hb hby d6_30) rfl ?_
    show Steps p.tables e below (T18.setTop (mkF m 31 #[.val (.ref aa0), .val (.ref b5), .val (.int (2 : Int32))] [(.int (2 : Int32)), (.int (fi - (1 : Int32))), (.int (2 : Int32)), (.ref b5)])) _
    refine XS.iadd X18.here hx rfl (hb hby d6_31) rfl ?_
    show Steps p.tables e below (T18.setTop (mkF m 32 #[.val (.ref aa0), .val (.ref b5), .val (.int (2 : Int32))] [(.int ((fi - (1 : Int32)) + (2 : Int32))), (.int (2 : Int32)), (.ref b5)])) _
    refine st20 _ ?_
    show Steps p.tables e below (T20.setTop (mkF m 33 #[.val (.ref aa0), .val (.ref b5), .val (.int (2 : Int32))] [])) _
    refine XS.iinc X20.here hx rfl (hb hby d6_33) rfl (l' := #[.val (.ref aa0), .val (.ref b5), .val (.int (3 : Int32))]) rfl ?_
    show Steps p.tables e below (T20.setTop (mkF m 36 #[.val (.ref aa0), .val (.ref b5), .val (.int (3 : Int32))] [])) _
    refine XS.goto X20.here hx rfl (pc0 := 36) (pc' := 16) rfl (hb hby d6_36) (by decide) (by decide) ?_
    show Steps p.tables e below (T20.setTop (mkF m 16 #[.val (.ref aa0), .val (.ref b5), .val (.int (3 : Int32))] [])) _
    refine XS.iloadN X20.here hx rfl (hb hby d6_16) rfl ?_
    show Steps p.tables e below (T20.setTop (mkF m 17 #[.val (.ref aa0), .val (.ref b5), .val (.int (3 : Int32))] [(.int (3 : Int32))])) _
    refine XS.aloadN X20.here hx rfl (hb hby d6_17) rfl rfl ?_
    show Steps p.tables e below (T20.setTop (mkF m 18 #[.val (.ref aa0), .val (.ref b5), .val (.int (3 : Int32))] [(.ref b5), (.int (3 : Int32))])) _
    refine X20.arraylength hx (by rw [e20]; exact Ar_21.1) (State.isArrayOf_alike hZ.alike Ar_21.2.1) (g := (mkF m 18 #[.val (.ref aa0), .val (.ref b5), .val (.int (3 : Int32))] [(.ref b5), (.int (3 : Int32))])) rfl rfl (hb hby d6_18) _ ?_
    rw [len_of Sz_21 Nn_21]
    show Steps p.tables e below (T20.setTop (mkF m 19 #[.val (.ref aa0), .val (.ref b5), .val (.int (3 : Int32))] [(.int (5 : Int32)), (.int (3 : Int32))])) _
    refine XS.icmpNo X20.here hx rfl (hb hby d6_19) rfl (tlt hc19_4).2.1 ?_
    show Steps p.tables e below (T20.setTop (mkF m 22 #[.val (.ref aa0), .val (.ref b5), .val (.int (3 : Int32))] [])) _
    refine XS.aloadN X20.here hx rfl (hb hby d6_22) rfl rfl ?_
    show Steps p.tables e below (T20.setTop (mkF m 23 #[.val (.ref aa0), .val (.ref b5), .val (.int (3 : Int32))] [(.ref b5)])) _
    refine XS.iloadN X20.here hx rfl (hb hby d6_23) rfl ?_
    show Steps p.tables e below (T20.setTop (mkF m 24 #[.val (.ref aa0), .val (.ref b5), .val (.int (3 : Int32))] [(.int (3 : Int32)), (.ref b5)])) _
    refine XS.aloadN X20.here hx rfl (hb hby d6_24) rfl rfl ?_
    show Steps p.tables e below (T20.setTop (mkF m 25 #[.val (.ref aa0), .val (.ref b5), .val (.int (3 : Int32))] [(.ref aa0), (.int (3 : Int32)), (.ref b5)])) _
    refine st23 _ ?_
    show Steps p.tables e below (T23.setTop (mkF m 28 #[.val (.ref aa0), .val (.ref b5), .val (.int (3 : Int32))] [(.int fi), (.int (3 : Int32)), (.ref b5)])) _
    refine XS.iconst X23.here hx rfl (hb hby d6_28) ?_
    show Steps p.tables e below (T23.setTop (mkF m 29 #[.val (.ref aa0), .val (.ref b5), .val (.int (3 : Int32))] [(.int (1 : Int32)), (.int fi), (.int (3 : Int32)), (.ref b5)])) _
    refine XS.isub X23.here hx rfl (hb hby d6_29) rfl ?_
    show Steps p.tables e below (T23.setTop (mkF m 30 #[.val (.ref aa0), .val (.ref b5), .val (.int (3 : Int32))] [(.int (fi - (1 : Int32))), (.int (3 : Int32)), (.ref b5)])) _
    refine XS.iloadN X23.here hx rfl (hb hby d6_30) rfl ?_
    show Steps p.tables e below (T23.setTop (mkF m 31 #[.val (.ref aa0), .val (.ref b5), .val (.int (3 : Int32))] [(.int (3 : Int32)), (.int (fi - (1 : Int32))), (.int (3 : Int32)), (.ref b5)])) _
    refine XS.iadd X23.here hx rfl (hb hby d6_31) rfl ?_
    show Steps p.tables e below (T23.setTop (mkF m 32 #[.val (.ref aa0), .val (.ref b5), .val (.int (3 : Int32))] [(.int ((fi - (1 : Int32)) + (3 : Int32))), (.int (3 : Int32)), (.ref b5)])) _
    refine st25 _ ?_
    show Steps p.tables e below (T25.setTop (mkF m 33 #[.val (.ref aa0), .val (.ref b5), .val (.int (3 : Int32))] [])) _
    refine XS.iinc X25.here hx rfl (hb hby d6_33) rfl (l' := #[.val (.ref aa0), .val (.ref b5), .val (.int (4 : Int32))]) rfl ?_
    show Steps p.tables e below (T25.setTop (mkF m 36 #[.val (.ref aa0), .val (.ref b5), .val (.int (4 : Int32))] [])) _
    refine XS.goto X25.here hx rfl (pc0 := 36) (pc' := 16) rfl (hb hby d6_36) (by decide) (by decide) ?_
    show Steps p.tables e below (T25.setTop (mkF m 16 #[.val (.ref aa0), .val (.ref b5), .val (.int (4 : Int32))] [])) _
    refine XS.iloadN X25.here hx rfl (hb hby d6_16) rfl ?_
    show Steps p.tables e below (T25.setTop (mkF m 17 #[.val (.ref aa0), .val (.ref b5), .val (.int (4 : Int32))] [(.int (4 : Int32))])) _
    refine XS.aloadN X25.here hx rfl (hb hby d6_17) rfl rfl ?_
    show Steps p.tables e below (T25.setTop (mkF m 18 #[.val (.ref aa0), .val (.ref b5), .val (.int (4 : Int32))] [(.ref b5), (.int (4 : Int32))])) _
    refine X25.arraylength hx (by rw [e25]; exact Ar_26.1) (State.isArrayOf_alike hZ.alike Ar_26.2.1) (g := (mkF m 18 #[.val (.ref aa0), .val (.ref b5), .val (.int (4 : Int32))] [(.ref b5), (.int (4 : Int32))])) rfl rfl (hb hby d6_18) _ ?_
    rw [len_of Sz_26 Nn_26]
    show Steps p.tables e below (T25.setTop (mkF m 19 #[.val (.ref aa0), .val (.ref b5), .val (.int (4 : Int32))] [(.int (5 : Int32)), (.int (4 : Int32))])) _
    refine XS.icmpNo X25.here hx rfl (hb hby d6_19) rfl (tlt hc19_5).2.1 ?_
    show Steps p.tables e below (T25.setTop (mkF m 22 #[.val (.ref aa0), .val (.ref b5), .val (.int (4 : Int32))] [])) _
    refine XS.aloadN X25.here hx rfl (hb hby d6_22) rfl rfl ?_
    show Steps p.tables e below (T25.setTop (mkF m 23 #[.val (.ref aa0), .val (.ref b5), .val (.int (4 : Int32))] [(.ref b5)])) _
    refine XS.iloadN X25.here hx rfl (hb hby d6_23) rfl ?_
    show Steps p.tables e below (T25.setTop (mkF m 24 #[.val (.ref aa0), .val (.ref b5), .val (.int (4 : Int32))] [(.int (4 : Int32)), (.ref b5)])) _
    refine XS.aloadN X25.here hx rfl (hb hby d6_24) rfl rfl ?_
    show Steps p.tables e below (T25.setTop (mkF m 25 #[.val (.ref aa0), .val (.ref b5), .val (.int (4 : Int32))] [(.ref aa0), (.int (4 : Int32)), (.ref b5)])) _
    refine st28 _ ?_
    show Steps p.tables e below (T28.setTop (mkF m 28 #[.val (.ref aa0), .val (.ref b5), .val (.int (4 : Int32))] [(.int fi), (.int (4 : Int32)), (.ref b5)])) _
    refine XS.iconst X28.here hx rfl (hb hby d6_28) ?_
    show Steps p.tables e below (T28.setTop (mkF m 29 #[.val (.ref aa0), .val (.ref b5), .val (.int (4 : Int32))] [(.int (1 : Int32)), (.int fi), (.int (4 : Int32)), (.ref b5)])) _
    refine XS.isub X28.here hx rfl (hb hby d6_29) rfl ?_
    show Steps p.tables e below (T28.setTop (mkF m 30 #[.val (.ref aa0), .val (.ref b5), .val (.int (4 : Int32))] [(.int (fi - (1 : Int32))), (.int (4 : Int32)), (.ref b5)])) _
    refine XS.iloadN X28.here hx rfl (hb hby d6_30) rfl ?_
    show Steps p.tables e below (T28.setTop (mkF m 31 #[.val (.ref aa0), .val (.ref b5), .val (.int (4 : Int32))] [(.int (4 : Int32)), (.int (fi - (1 : Int32))), (.int (4 : Int32)), (.ref b5)])) _
    refine XS.iadd X28.here hx rfl (hb hby d6_31) rfl ?_
    show Steps p.tables e below (T28.setTop (mkF m 32 #[.val (.ref aa0), .val (.ref b5), .val (.int (4 : Int32))] [(.int ((fi - (1 : Int32)) + (4 : Int32))), (.int (4 : Int32)), (.ref b5)])) _
    refine st30 _ ?_
    show Steps p.tables e below (T30.setTop (mkF m 33 #[.val (.ref aa0), .val (.ref b5), .val (.int (4 : Int32))] [])) _
    refine XS.iinc X30.here hx rfl (hb hby d6_33) rfl (l' := #[.val (.ref aa0), .val (.ref b5), .val (.int (5 : Int32))]) rfl ?_
    show Steps p.tables e below (T30.setTop (mkF m 36 #[.val (.ref aa0), .val (.ref b5), .val (.int (5 : Int32))] [])) _
    refine XS.goto X30.here hx rfl (pc0 := 36) (pc' := 16) rfl (hb hby d6_36) (by decide) (by decide) ?_
    show Steps p.tables e below (T30.setTop (mkF m 16 #[.val (.ref aa0), .val (.ref b5), .val (.int (5 : Int32))] [])) _
    refine XS.iloadN X30.here hx rfl (hb hby d6_16) rfl ?_
    show Steps p.tables e below (T30.setTop (mkF m 17 #[.val (.ref aa0), .val (.ref b5), .val (.int (5 : Int32))] [(.int (5 : Int32))])) _
    refine XS.aloadN X30.here hx rfl (hb hby d6_17) rfl rfl ?_
    show Steps p.tables e below (T30.setTop (mkF m 18 #[.val (.ref aa0), .val (.ref b5), .val (.int (5 : Int32))] [(.ref b5), (.int (5 : Int32))])) _
    refine X30.arraylength hx (by rw [e30]; exact Ar_31.1) (State.isArrayOf_alike hZ.alike Ar_31.2.1) (g := (mkF m 18 #[.val (.ref aa0), .val (.ref b5), .val (.int (5 : Int32))] [(.ref b5), (.int (5 : Int32))])) rfl rfl (hb hby d6_18) _ ?_
    rw [len_of Sz_31 Nn_31]
    show Steps p.tables e below (T30.setTop (mkF m 19 #[.val (.ref aa0), .val (.ref b5), .val (.int (5 : Int32))] [(.int (5 : Int32)), (.int (5 : Int32))])) _
    refine XS.icmpYes X30.here hx rfl (pc0 := 19) (pc' := 39) rfl (hb hby d6_19) rfl (flt hc19_6).2.1 (by decide) (by decide) ?_
    show Steps p.tables e below (T30.setTop (mkF m 39 #[.val (.ref aa0), .val (.ref b5), .val (.int (5 : Int32))] [])) _
    refine XS.aloadN X30.here hx rfl (hb hby d6_39) rfl rfl ?_
    show Steps p.tables e below (T30.setTop (mkF m 40 #[.val (.ref aa0), .val (.ref b5), .val (.int (5 : Int32))] [(.ref b5)])) _
    jvm_step X30.here [X30.here.top, hx, (hb hby d6_40), X30.method', Bd.returns, Value.isRef, FieldType.isReference]
    first | (intro acts; rw [hr _ acts rfl rfl rfl]) | rw [hr _ _ rfl rfl rfl]
    exact Steps.refl _
  · show Q6_5 Z aa0 fi la h0 n0 _ T30.heap _
    rw [e30]
    exact ⟨b5, k5, rfl, N30, K30, g_b5, sz_b5, V30⟩
theorem ef_6_6 (m : MethodId) (x0 : Addr) : entryFrame m #[(.ref x0)] 3 = mkF m 0 #[.val (.ref x0), .unset, .unset] [] := by first | (simp [entryFrame, mkF, argsToLocals, Value.category]; done) | rfl
def Q6_6 (Z : State) (aa0 : Addr) (fi : Int32) (la : Int32) (h0 : Heap) (n0 : Nat) (v : Option Value) (h : Heap) (L : List Loc) : Prop := ∃ (bx : Addr), ∃ (kx : ClassId), v = some (.ref bx) ∧ Fr n0 L ∧ Keep h0 h [] ∧ n0 ≤ bx ∧ h0.size ≤ bx ∧ (Arv Z h bx kx .int (6 : Int32) [(.int ((fi - (1 : Int32)) + (0 : Int32))), (.int ((fi - (1 : Int32)) + (1 : Int32))), (.int ((fi - (1 : Int32)) + (2 : Int32))), (.int ((fi - (1 : Int32)) + (3 : Int32))), (.int ((fi - (1 : Int32)) + (4 : Int32))), (.int ((fi - (1 : Int32)) + (5 : Int32)))] (.int (0 : Int32)))
set_option maxRecDepth 65536 in
set_option maxHeartbeats 40000000 in
theorem rm6_6 (l : Launch) (Z : State) (a0 : Array Value) (hw : ∀ d ∈ tables_1, d.before a0 Z = true) (ws : List Jvm.Cond) (aa0 : Addr) (fi : Int32) (la : Int32) (h0 : Heap) (n0 : Nat) (Z0 : n0 ≤ h0.size) (F_aa0_first : Fld Z h0 aa0 "com/example/escapement/escapement/cli/PartitionTable$Partition" "first" "I" (.int fi)) (F_aa0_last : Fld Z h0 aa0 "com/example/escapement/escapement/cli/PartitionTable$Partition" "last" "I" (.int la)) (hlen : ((la - fi) + (1 : Int32)) = (6 : Int32)) :
    MetFree l (⟨"com/example/escapement/escapement/cli/PartitionTable$Partition", "sites", "()[I"⟩ : MethodName) (head1 (Jvm.Cond.code (⟨"com/example/escapement/escapement/cli/PartitionTable$Partition", "sites", "()[I"⟩ : MethodName) prog_14_method_2_code 3 (some (.array .int)) :: ws) ({ frames := 0, cells := 1, slots := 6, locals := 0 } : Room)) (fun a U => a = #[(.ref aa0)] ∧ Z.Warmed39 U.vm ∧ U.heap = h0) (fun _ _ _ _ _ => True) (fun _ U o U' => ∃ v L, o = .returned v ∧ Q6_6 Z aa0 fi la h0 n0 v U'.heap L ∧ FrameEnd U o U' L ({ frames := 0, cells := 1, slots := 6, locals := 0 } : Room).cells ({ frames := 0, cells := 1, slots := 6, locals := 0 } : Room).slots) := by
  refine MetFree.of_bodySF (plainFor_of_name pn_com_example_escapement_escapement_cli_PartitionTable_Partition) hisR ?_
  intro p e s m args below meth c s₁ Bd hml0 hP hK
  obtain ⟨rfl, hZ, hh⟩ := hP
  have hx := Bd.exec
  have hby := Bd.bytes
  have hml : c.maxLocals = 3 := hml0
  have hown : s.vm.findClass "com/example/escapement/escapement/cli/PartitionTable$Partition" = some m.cls := findClass_of_methodNamed Bd.named
  have hnm := (name_of_methodNamed Bd.named Bd.method).1
  have X0 : Stand p l e ({ frames := 0, cells := 1, slots := 6, locals := 0 } : Room) s m #[(.ref aa0)] below meth c s₁ [] 0 0 := Stand.of_body Bd
  have e0 : s₁.heap = h0 := by rw [← hh, Bd.state]; rfl
  have N0 := Fr.nil n0
  have pre0 : ∀ t, Steps p.tables e below (s₁.setTop (mkF m 0 #[.val (.ref aa0), .unset, .unset] [])) t → Steps p.tables e below (s₁.setTop (entryFrame m #[(.ref aa0)] 3)) t := fun t k => castTop (ef_6_6 m aa0) k
  obtain ⟨T1, X1, e1, st1⟩ := getF X0 hx hZ hown (host := "") (Or.inl (hw _ (List.mem_of_getElem? (i := 34) rfl))) Via.refl e0 F_aa0_last (g := (mkF m 1 #[.val (.ref aa0), .unset, .unset] [(.ref aa0)])) rfl rfl (hb hby d6_1)
  obtain ⟨T2, X2, e2, st2⟩ := getF X1 hx hZ hown (host := "") (Or.inl (hw _ (List.mem_of_getElem? (i := 32) rfl))) Via.refl e1 F_aa0_first (g := (mkF m 5 #[.val (.ref aa0), .unset, .unset] [(.ref aa0), (.int la)])) rfl rfl (hb hby d6_5)
  have pre3 : ∀ t, Steps p.tables e below (T2.setTop (mkF m 11 #[.val (.ref aa0), .unset, .unset] [(.int ((la - fi) + (1 : Int32)))])) t → Steps p.tables e below (s₁.setTop (entryFrame m #[(.ref aa0)] 3)) t := fun t kt => pre0 t (by
    show Steps p.tables e below (s₁.setTop (mkF m 0 #[.val (.ref aa0), .unset, .unset] [])) _
    refine XS.aloadN X0.here hx rfl (hb hby d6_0) rfl rfl ?_
    show Steps p.tables e below (s₁.setTop (mkF m 1 #[.val (.ref aa0), .unset, .unset] [(.ref aa0)])) _
    refine st1 _ ?_
    show Steps p.tables e below (T1.setTop (mkF m 4 #[.val (.ref aa0), .unset, .unset] [(.int la)])) _
    refine XS.aloadN X1.here hx rfl (hb hby d6_4) rfl rfl ?_
    show Steps p.tables e below (T1.setTop (mkF m 5 #[.val (.ref aa0), .unset, .unset] [(.ref aa0), (.int la)])) _
    refine st2 _ ?_
    show Steps p.tables e below (T2.setTop (mkF m 8 #[.val (.ref aa0), .unset, .unset] [(.int fi), (.int la)])) _
    refine XS.isub X2.here hx rfl (hb hby d6_8) rfl ?_
    show Steps p.tables e below (T2.setTop (mkF m 9 #[.val (.ref aa0), .unset, .unset] [(.int (la - fi))])) _
    refine XS.iconst X2.here hx rfl (hb hby d6_9) ?_
    show Steps p.tables e below (T2.setTop (mkF m 10 #[.val (.ref aa0), .unset, .unset] [(.int (1 : Int32)), (.int (la - fi))])) _
    refine XS.iadd X2.here hx rfl (hb hby d6_10) rfl ?_
    exact kt)
  obtain ⟨nn, h_nn, pre4⟩ : ∃ (nn : Int32), (nn = (6 : Int32)) ∧ ∀ t, Steps p.tables e below (T2.setTop (mkF m 11 #[.val (.ref aa0), .unset, .unset] [(.int nn)])) t → Steps p.tables e below (s₁.setTop (entryFrame m #[(.ref aa0)] 3)) t := ⟨((la - fi) + (1 : Int32)), hlen, pre3⟩
  subst h_nn
  obtain ⟨T5, h5, k5, X5, e5, E5, A5, st5⟩ := newP X2 hx hZ (hw _ (List.mem_of_getElem? (i := 41) rfl)) e2 (g := (mkF m 11 #[.val (.ref aa0), .unset, .unset] [(.int (6 : Int32))])) rfl (hb hby d6_11) rfl (by decide) (cap := 6) (by decide) (by decide) (by decide) (by decide)
  obtain ⟨b5, g5⟩ : ∃ z, z = h0.size := ⟨_, rfl⟩
  rw [← g5] at A5 st5
  have g_b5 : n0 ≤ b5 := Nat.le_trans Z0 (Nat.le_of_eq g5.symm)
  have sz_b5 : h0.size ≤ b5 := Nat.le_trans (Keep.refl h0 []).1 (Nat.le_of_eq g5.symm)
  have Z5 : n0 ≤ h5.size := Nat.le_trans Z0 E5.1
  have K5 : Keep h0 h5 [] := (Keep.refl h0 []).ext E5
  have V5 : Arv Z h5 b5 k5 .int (6 : Int32) [(.int (0 : Int32)), (.int (0 : Int32)), (.int (0 : Int32)), (.int (0 : Int32)), (.int (0 : Int32)), (.int (0 : Int32))] (.int (0 : Int32)) := (Arv.new A5 (by decide)).pad (pad_rep [] (.int (0 : Int32)) 6)
  obtain ⟨cl_6, Ar_6, -, Sz_6, Nn_6, -, -⟩ := id V5
  have hc19 : (0 : Int32) < (6 : Int32) := by decide
  have F_7 : Fld Z h5 aa0 "com/example/escapement/escapement/cli/PartitionTable$Partition" "first" "I" (.int fi) := (F_aa0_first.ext E5)
  obtain ⟨T8, X8, e8, st8⟩ := getF X5 hx hZ hown (host := "") (Or.inl (hw _ (List.mem_of_getElem? (i := 32) rfl))) Via.refl e5 F_7 (g := (mkF m 25 #[.val (.ref aa0), .val (.ref b5), .val (.int (0 : Int32))] [(.ref aa0), (.int (0 : Int32)), (.ref b5)])) rfl rfl (hb hby d6_25)
  obtain ⟨cl_9, Ar_9, qq_9, Sz_9, Nn_9, Hh_9, Gg_9⟩ := id V5
  have hin_9 : ¬ ((0 : Int32) < 0 ∨ cl_9.slots.size ≤ ((0 : Int32)).toNatClampNeg) := inb_of Sz_9 ⟨by decide, by decide⟩
  obtain ⟨T10, h10, X10, e10, W10, st10⟩ := stI X8 hx hZ e8 Ar_9 (j := (0 : Int32)) hin_9 (g := (mkF m 32 #[.val (.ref aa0), .val (.ref b5), .val (.int (0 : Int32))] [(.int ((fi - (1 : Int32)) + (0 : Int32))), (.int (0 : Int32)), (.ref b5)])) rfl rfl (hb hby d6_32)
  have N10 := Fr.snoc X10 N0 g_b5
  have Z10 : n0 ≤ h10.size := Nat.le_trans Z5 (Keep.of_wr W10).1
  have K10 : Keep h0 h10 [] := K5.wr W10 (Or.inr sz_b5)
  have V10 : Arv Z h10 b5 k5 .int (6 : Int32) [(.int ((fi - (1 : Int32)) + (0 : Int32))), (.int (0 : Int32)), (.int (0 : Int32)), (.int (0 : Int32)), (.int (0 : Int32)), (.int (0 : Int32))] (.int (0 : Int32)) := Arv.set Ar_9 qq_9 Sz_9 Nn_9 Hh_9 Gg_9 rfl W10 0 rfl (Nat.le_of_ble_eq_true rfl)
  obtain ⟨cl_11, Ar_11, -, Sz_11, Nn_11, -, -⟩ := id V10
  have hc19_2 : (1 : Int32) < (6 : Int32) := by decide
  have F_12 : Fld Z h10 aa0 "com/example/escapement/escapement/cli/PartitionTable$Partition" "first" "I" (.int fi) := (F_7.other W10 (Or.inl (Nat.ne_of_lt (Nat.lt_of_lt_of_le F_aa0_first.lt (Nat.le_of_eq g5.symm)))))
  obtain ⟨T13, X13, e13, st13⟩ := getF X10 hx hZ hown (host := "") (Or.inl (hw _ (List.mem_of_getElem? (i := 32) rfl))) Via.refl e10 F_12 (g := (mkF m 25 #[.val (.ref aa0), .val (.ref b5), .val (.int (1 : Int32))] [(.ref aa0), (.int (1 : Int32)), (.ref b5)])) rfl rfl (hb hby d6_25)
  obtain ⟨cl_14, Ar_14, qq_14, Sz_14, Nn_14, Hh_14, Gg_14⟩ := id V10
  have hin_14 : ¬ ((1 : Int32) < 0 ∨ cl_14.slots.size ≤ ((1 : Int32)).toNatClampNeg) := inb_of Sz_14 ⟨by decide, by decide⟩
  obtain ⟨T15, h15, X15, e15, W15, st15⟩ := stI X13 hx hZ e13 Ar_14 (j := (1 : Int32)) hin_14 (g := (mkF m 32 #[.val (.ref aa0), .val (.ref b5), .val (.int (1 : Int32))] [(.int ((fi - (1 : Int32)) + (1 : Int32))), (.int (1 : Int32)), (.ref b5)])) rfl rfl (hb hby d6_32)
  have N15 := Fr.snoc X15 N10 g_b5
  have Z15 : n0 ≤ h15.size := Nat.le_trans Z10 (Keep.of_wr W15).1
  have K15 : Keep h0 h15 [] := K10.wr W15 (Or.inr sz_b5)
  have V15 : Arv Z h15 b5 k5 .int (6 : Int32) [(.int ((fi - (1 : Int32)) + (0 : Int32))), (.int ((fi - (1 : Int32)) + (1 : Int32))), (.int (0 : Int32)), (.int (0 : Int32)), (.int (0 : Int32)), (.int (0 : Int32))] (.int (0 : Int32)) := Arv.set Ar_14 qq_14 Sz_14 Nn_14 Hh_14 Gg_14 rfl W15 1 rfl (Nat.le_of_ble_eq_true rfl)
  obtain ⟨cl_16, Ar_16, -, Sz_16, Nn_16, -, -⟩ := id V15
  have hc19_3 : (2 : Int32) < (6 : Int32) := by decide
  have F_17 : Fld Z h15 aa0 "com/example/escapement/escapement/cli/PartitionTable$Partition" "first" "I" (.int fi) := (F_12.other W15 (Or.inl (Nat.ne_of_lt (Nat.lt_of_lt_of_le F_aa0_first.lt (Nat.le_of_eq g5.symm)))))
  obtain ⟨T18, X18, e18, st18⟩ := getF X15 hx hZ hown (host := "") (Or.inl (hw _ (List.mem_of_getElem? (i := 32) rfl))) Via.refl e15 F_17 (g := (mkF m 25 #[.val (.ref aa0), .val (.ref b5), .val (.int (2 : Int32))] [(.ref aa0), (.int (2 : Int32)), (.ref b5)])) rfl rfl (hb hby d6_25)
  obtain ⟨cl_19, Ar_19, qq_19, Sz_19, Nn_19, Hh_19, Gg_19⟩ := id V15
  have hin_19 : ¬ ((2 : Int32) < 0 ∨ cl_19.slots.size ≤ ((2 : Int32)).toNatClampNeg) := inb_of Sz_19 ⟨by decide, by decide⟩
  obtain ⟨T20, h20, X20, e20, W20, st20⟩ := stI X18 hx hZ e18 Ar_19 (j := (2 : Int32)) hin_19 (g := (mkF m 32 #[.val (.ref aa0), .val (.ref b5), .val (.int (2 : Int32))] [(.int ((fi - (1 : Int32)) + (2 : Int32))), (.int (2 : Int32)), (.ref b5)])) rfl rfl (hb hby d6_32)
  have N20 := Fr.snoc X20 N15 g_b5
  have Z20 : n0 ≤ h20.size := Nat.le_trans Z15 (Keep.of_wr W20).1
  have K20 : Keep h0 h20 [] := K15.wr W20 (Or.inr sz_b5)
  have V20 : Arv Z h20 b5 k5 .int (6 : Int32) [(.int ((fi - (1 : Int32)) + (0 : Int32))), (.int ((fi - (1 : Int32)) + (1 : Int32))), (.int ((fi - (1 : Int32)) + (2 : Int32))), (.int (0 : Int32)), (.int (0 : Int32)), (.int (0 : Int32))] (.int (0 : Int32)) := Arv.set Ar_19 qq_19 Sz_19 Nn_19 Hh_19 Gg_19 rfl W20 2 rfl (Nat.le_of_ble_eq_true rfl)
  obtain ⟨cl_21, Ar_21, -, Sz_21, Nn_21, -, -⟩ := id V20
  have hc19_4 : (3 : Int32) < (6 : Int32) := by decide
  have F_22 : Fld Z h20 aa0 "com/example/escapement/escapement/cli/PartitionTable$Partition" "first" "I" (.int fi) := (F_17.other W20 (Or.inl (Nat.ne_of_lt (Nat.lt_of_lt_of_le F_aa0_first.lt (Nat.le_of_eq g5.symm)))))
  obtain ⟨T23, X23, e23, st23⟩ := getF X20 hx hZ hown (host := "") (Or.inl (hw _ (List.mem_of_getElem? (i := 32) rfl))) Via.refl e20 F_22 (g := (mkF m 25 #[.val (.ref aa0), .val (.ref b5), .val (.int (3 : Int32))] [(.ref aa0), (.int (3 : Int32)), (.ref b5)])) rfl rfl (hb hby d6_25)
  obtain ⟨cl_24, Ar_24, qq_24, Sz_24, Nn_24, Hh_24, Gg_24⟩ := id V20
  have hin_24 : ¬ ((3 : Int32) < 0 ∨ cl_24.slots.size ≤ ((3 : Int32)).toNatClampNeg) := inb_of Sz_24 ⟨by decide, by decide⟩
  obtain ⟨T25, h25, X25, e25, W25, st25⟩ := stI X23 hx hZ e23 Ar_24 (j := (3 : Int32)) hin_24 (g := (mkF m 32 #[.val (.ref aa0), .val (.ref b5), .val (.int (3 : Int32))] [(.int ((fi - (1 : Int32)) + (3 : Int32))), (.int (3 : Int32)), (.ref b5)])) rfl rfl (hb hby d6_32)
  have N25 := Fr.snoc X25 N20 g_b5
  have Z25 : n0 ≤ h25.size := Nat.le_trans Z20 (Keep.of_wr W25).1
  have K25 : Keep h0 h25 [] := K20.wr W25 (Or.inr sz_b5)
  have V25 : Arv Z h25 b5 k5 .int (6 : Int32) [(.int ((fi - (1 : Int32)) + (0 : Int32))), (.int ((fi - (1 : Int32)) + (1 : Int32))), (.int ((fi - (1 : Int32)) + (2 : Int32))), (.int ((fi - (1 : Int32)) + (3 : Int32))), (.int (0 : Int32)), (.int (0 : Int32))] (.int (0 : Int32)) := Arv.set Ar_24 qq_24 Sz_24 Nn_24 Hh_24 Gg_24 rfl W25 3 rfl (Nat.le_of_ble_eq_true rfl)
  obtain ⟨cl_26, Ar_26, -, Sz_26, Nn_26, -, -⟩ := id V25
  have hc19_5 : (4 : Int32) < (6 : Int32) := by decide
  have F_27 : Fld Z h25 aa0 "com/example/escapement/escapement/cli/PartitionTable$Partition" "first" "I" (.int fi) := (F_22.other W25 (Or.inl (Nat.ne_of_lt (Nat.lt_of_lt_of_le F_aa0_first.lt (Nat.le_of_eq g5.symm)))))
  obtain ⟨T28, X28, e28, st28⟩ := getF X25 hx hZ hown (host := "") (Or.inl (hw _ (List.mem_of_getElem? (i := 32) rfl))) Via.refl e25 F_27 (g := (mkF m 25 #[.val (.ref aa0), .val (.ref b5), .val (.int (4 : Int32))] [(.ref aa0), (.int (4 : Int32)), (.ref b5)])) rfl rfl (hb hby d6_25)
  obtain ⟨cl_29, Ar_29, qq_29, Sz_29, Nn_29, Hh_29, Gg_29⟩ := id V25
  have hin_29 : ¬ ((4 : Int32) < 0 ∨ cl_29.slots.size ≤ ((4 : Int32)).toNatClampNeg) := inb_of Sz_29 ⟨by decide, by decide⟩
  obtain ⟨T30, h30, X30, e30, W30, st30⟩ := stI X28 hx hZ e28 Ar_29 (j := (4 : Int32)) hin_29 (g := (mkF m 32 #[.val (.ref aa0), .val (.ref b5), .val (.int (4 : Int32))] [(.int ((fi - (1 : Int32)) + (4 : Int32))), (.int (4 : Int32)), (.ref b5)])) rfl rfl (hb hby d6_32)
  have N30 := Fr.snoc X30 N25 g_b5
  have Z30 : n0 ≤ h30.size := Nat.le_trans Z25 (Keep.of_wr W30).1
  have K30 : Keep h0 h30 [] := K25.wr W30 (Or.inr sz_b5)
  have V30 : Arv Z h30 b5 k5 .int (6 : Int32) [(.int ((fi - (1 : Int32)) + (0 : Int32))), (.int ((fi - (1 : Int32)) + (1 : Int32))), (.int ((fi - (1 : Int32)) + (2 : Int32))), (.int ((fi - (1 : Int32)) + (3 : Int32))), (.int ((fi - (1 : Int32)) + (4 : Int32))), (.int (0 : Int32))] (.int (0 : Int32)) := Arv.set Ar_29 qq_29 Sz_29 Nn_29 Hh_29 Gg_29 rfl W30 4 rfl (Nat.le_of_ble_eq_true rfl)
  obtain ⟨cl_31, Ar_31, -, Sz_31, Nn_31, -, -⟩ := id V30
  have hc19_6 : (5 : Int32) < (6 : Int32) := by decide
  have F_32 : Fld Z h30 aa0 "com/example/escapement/escapement/cli/PartitionTable$Partition" "first" "I" (.int fi) := (F_27.other W30 (Or.inl (Nat.ne_of_lt (Nat.lt_of_lt_of_le F_aa0_first.lt (Nat.le_of_eq g5.symm)))))
  obtain ⟨T33, X33, e33, st33⟩ := getF X30 hx hZ hown (host := "") (Or.inl (hw _ (List.mem_of_getElem? (i := 32) rfl))) Via.refl e30 F_32 (g := (mkF m 25 #[.val (.ref aa0), .val (.ref b5), .val (.int (5 : Int32))] [(.ref aa0), (.int (5 : Int32)), (.ref b5)])) rfl rfl (hb hby d6_25)
  obtain ⟨cl_34, Ar_34, qq_34, Sz_34, Nn_34, Hh_34, Gg_34⟩ := id V30
  have hin_34 : ¬ ((5 : Int32) < 0 ∨ cl_34.slots.size ≤ ((5 : Int32)).toNatClampNeg) := inb_of Sz_34 ⟨by decide, by decide⟩
  obtain ⟨T35, h35, X35, e35, W35, st35⟩ := stI X33 hx hZ e33 Ar_34 (j := (5 : Int32)) hin_34 (g := (mkF m 32 #[.val (.ref aa0), .val (.ref b5), .val (.int (5 : Int32))] [(.int ((fi - (1 : Int32)) + (5 : Int32))), (.int (5 : Int32)), (.ref b5)])) rfl rfl (hb hby d6_32)
  have N35 := Fr.snoc X35 N30 g_b5
  have Z35 : n0 ≤ h35.size := Nat.le_trans Z30 (Keep.of_wr W35).1
  have K35 : Keep h0 h35 [] := K30.wr W35 (Or.inr sz_b5)
  have V35 : Arv Z h35 b5 k5 .int (6 : Int32) [(.int ((fi - (1 : Int32)) + (0 : Int32))), (.int ((fi - (1 : Int32)) + (1 : Int32))), (.int ((fi - (1 : Int32)) + (2 : Int32))), (.int ((fi - (1 : Int32)) + (3 : Int32))), (.int ((fi - (1 : Int32)) + (4 : Int32))), (.int ((fi - (1 : Int32)) + (5 : Int32)))] (.int (0 : Int32)) := Arv.set Ar_34 qq_34 Sz_34 Nn_34 Hh_34 Gg_34 rfl W35 5 rfl (Nat.le_of_ble_eq_true rfl)
  obtain ⟨cl_36, Ar_36, -, Sz_36, Nn_36, -, -⟩ := id V35
  have hc19_7 : ¬ ((6 : Int32) < (6 : Int32)) := by decide
  obtain ⟨fs, hr, hrun, hended, hW, hsame⟩ := X35.leave (v := some (.ref b5)) (fun h => by rw [Bd.returns] at h; cases h)
  refine ⟨_, _, pre4 _ ?_, hrun, hended, _, _, rfl, ?_, ⟨_, rfl⟩, hW, hsame.mono (by decide) (by decide)⟩
  · show Steps p.tables e below (T2.setTop (mkF m 11 #[.val (.ref aa0), .unset, .unset] [(.int (6 : Int32))])) _
    refine st5 _ ?_
    show Steps p.tables e below (T5.setTop (mkF m 13 #[.val (.ref aa0), .unset, .unset] [(.ref b5)])) _
    refine XS.astoreN X5.here hx rfl (hb hby d6_13) rfl rfl (l' := #[.val (.ref aa0), .val (.ref b5), .unset]) rfl ?_
    show Steps p.tables e below (T5.setTop (mkF m 14 #[.val (.ref aa0), .val (.ref b5), .unset] [])) _
    refine XS.iconst X5.here hx rfl (hb hby d6_14) ?_
    show Steps p.tables e below (T5.setTop (mkF m 15 #[.val (.ref aa0), .val (.ref b5), .unset] [(.int (0 : Int32))])) _
    refine XS.istoreN X5.here hx rfl (hb hby d6_15) rfl (l' := #[.val (.ref aa0), .val (.ref b5), .val (.int (0 : Int32))]) rfl ?_
    show Steps p.tables e below (T5.setTop (mkF m 16 #[.val (.ref aa0), .val (.ref b5), .val (.int (0 : Int32))] [])) _
    refine XS.iloadN X5.here hx rfl (hb hby d6_16) rfl ?_
    show Steps p.tables e below (T5.setTop (mkF m 17 #[.val (.ref aa0), .val (.ref b5), .val (.int (0 : Int32))] [(.int (0 : Int32))])) _
    refine XS.aloadN X5.here hx rfl (hb hby d6_17) rfl rfl ?_
    show Steps p.tables e below (T5.setTop (mkF m 18 #[.val (.ref aa0), .val (.ref b5), .val (.int (0 : Int32))] [(.ref b5), (.int (0 : Int32))])) _
    refine X5.arraylength hx (by rw [e5]; exact Ar_6.1) (State.isArrayOf_alike hZ.alike Ar_6.2.1) (g := (mkF m 18 #[.val (.ref aa0), .val (.ref b5), .val (.int (0 : Int32))] [(.ref b5), (.int (0 : Int32))])) rfl rfl (hb hby d6_18) _ ?_
    rw [len_of Sz_6 Nn_6]
    show Steps p.tables e below (T5.setTop (mkF m 19 #[.val (.ref aa0), .val (.ref b5), .val (.int (0 : Int32))] [(.int (6 : Int32)), (.int (0 : Int32))])) _
    refine XS.icmpNo X5.here hx rfl (hb hby d6_19) rfl (tlt hc19).2.1 ?_
    show Steps p.tables e below (T5.setTop (mkF m 22 #[.val (.ref aa0), .val (.ref b5), .val (.int (0 : Int32))] [])) _
    refine XS.aloadN X5.here hx rfl (hb hby d6_22) rfl rfl ?_
    show Steps p.tables e below (T5.setTop (mkF m 23 #[.val (.ref aa0), .val (.ref b5), .val (.int (0 : Int32))] [(.ref b5)])) _
    refine XS.iloadN X5.here hx rfl (hb hby d6_23) rfl ?_
    show Steps p.tables e below (T5.setTop (mkF m 24 #[.val (.ref aa0), .val (.ref b5), .val (.int (0 : Int32))] [(.int (0 : Int32)), (.ref b5)])) _
    refine XS.aloadN X5.here hx rfl (hb hby d6_24) rfl rfl ?_
    show Steps p.tables e below (T5.setTop (mkF m 25 #[.val (.ref aa0), .val (.ref b5), .val (.int (0 : Int32))] [(.ref aa0), (.int (0 : Int32)), (.ref b5)])) _
    refine st8 _ ?_
    show Steps p.tables e below (T8.setTop (mkF m 28 #[.val (.ref aa0), .val (.ref b5), .val (.int (0 : Int32))] [(.int fi), (.int (0 : Int32)), (.ref b5)])) _
    refine XS.iconst X8.here hx rfl (hb hby d6_28) ?_
    show Steps p.tables e below (T8.setTop (mkF m 29 #[.val (.ref aa0), .val (.ref b5), .val (.int (0 : Int32))] [(.int (1 : Int32)), (.int fi), (.int (0 : Int32)), (.ref b5)])) _
    refine XS.isub X8.here hx rfl (hb hby d6_29) rfl ?_
    show Steps p.tables e below (T8.setTop (mkF m 30 #[.val (.ref aa0), .val (.ref b5), .val (.int (0 : Int32))] [(.int (fi - (1 : Int32))), (.int (0 : Int32)), (.ref b5)])) _
    refine XS.iloadN X8.here hx rfl (hb hby d6_30) rfl ?_
    show Steps p.tables e below (T8.setTop (mkF m 31 #[.val (.ref aa0), .val (.ref b5), .val (.int (0 : Int32))] [(.int (0 : Int32)), (.int (fi - (1 : Int32))), (.int (0 : Int32)), (.ref b5)])) _
    refine XS.iadd X8.here hx rfl (hb hby d6_31) rfl ?_
    show Steps p.tables e below (T8.setTop (mkF m 32 #[.val (.ref aa0), .val (.ref b5), .val (.int (0 : Int32))] [(.int ((fi - (1 : Int32)) + (0 : Int32))), (.int (0 : Int32)), (.ref b5)])) _
    refine st10 _ ?_
    show Steps p.tables e below (T10.setTop (mkF m 33 #[.val (.ref aa0), .val (.ref b5), .val (.int (0 : Int32))] [])) _
    refine XS.iinc X10.here hx rfl (hb hby d6_33) rfl (l' := #[.val (.ref aa0), .val (.ref b5), .val (.int (1 : Int32))]) rfl ?_
    show Steps p.tables e below (T10.setTop (mkF m 36 #[.val (.ref aa0), .val (.ref b5), .val (.int (1 : Int32))] [])) _
    refine XS.goto X10.here hx rfl (pc0 := 36) (pc' := 16) rfl (hb hby d6_36) (by decide) (by decide) ?_
    show Steps p.tables e below (T10.setTop (mkF m 16 #[.val (.ref aa0), .val (.ref b5), .val (.int (1 : Int32))] [])) _
    refine XS.iloadN X10.here hx rfl (hb hby d6_16) rfl ?_
    show Steps p.tables e below (T10.setTop (mkF m 17 #[.val (.ref aa0), .val (.ref b5), .val (.int (1 : Int32))] [(.int (1 : Int32))])) _
    refine XS.aloadN X10.here hx rfl (hb hby d6_17) rfl rfl ?_
    show Steps p.tables e below (T10.setTop (mkF m 18 #[.val (.ref aa0), .val (.ref b5), .val (.int (1 : Int32))] [(.ref b5), (.int (1 : Int32))])) _
    refine X10.arraylength hx (by rw [e10]; exact Ar_11.1) (State.isArrayOf_alike hZ.alike Ar_11.2.1) (g := (mkF m 18 #[.val (.ref aa0), .val (.ref b5), .val (.int (1 : Int32))] [(.ref b5), (.int (1 : Int32))])) rfl rfl (hb hby d6_18) _ ?_
    rw [len_of Sz_11 Nn_11]
    show Steps p.tables e below (T10.setTop (mkF m 19 #[.val (.ref aa0), .val (.ref b5), .val (.int (1 : Int32))] [(.int (6 : Int32)), (.int (1 : Int32))])) _
    refine XS.icmpNo X10.here hx rfl (hb hby d6_19) rfl (tlt hc19_2).2.1 ?_
    show Steps p.tables e below (T10.setTop (mkF m 22 #[.val (.ref aa0), .val (.ref b5), .val (.int (1 : Int32))] [])) _
    refine XS.aloadN X10.here hx rfl (hb hby d6_22) rfl rfl ?_
    show Steps p.tables e below (T10.setTop (mkF m 23 #[.val (.ref aa0), .val (.ref b5), .val (.int (1 : Int32))] [(.ref b5)])) _
    refine XS.iloadN X10.here hx rfl (hb hby d6_23) rfl ?_
    show Steps p.tables e below (T10.setTop (mkF m 24 #[.val (.ref aa0), .val (.ref b5), .val (.int (1 : Int32))] [(.int (1 : Int32)), (.ref b5)])) _
    refine XS.aloadN X10.here hx rfl (hb hby d6_24) rfl rfl ?_
    show Steps p.tables e below (T10.setTop (mkF m 25 #[.val (.ref aa0), .val (.ref b5), .val (.int (1 : Int32))] [(.ref aa0), (.int (1 : Int32)), (.ref b5)])) _
    refine st13 _ ?_
    show Steps p.tables e below (T13.setTop (mkF m 28 #[.val (.ref aa0), .val (.ref b5), .val (.int (1 : Int32))] [(.int fi), (.int (1 : Int32)), (.ref b5)])) _
    refine XS.iconst X13.here hx rfl (hb hby d6_28) ?_
    show Steps p.tables e below (T13.setTop (mkF m 29 #[.val (.ref aa0), .val (.ref b5), .val (.int (1 : Int32))] [(.int (1 : Int32)), (.int fi), (.int (1 : Int32)), (.ref b5)])) _
    refine XS.isub X13.here hx rfl (hb hby d6_29) rfl ?_
    show Steps p.tables e below (T13.setTop (mkF m 30 #[.val (.ref aa0), .val (.ref b5), .val (.int (1 : Int32))] [(.int (fi - (1 : Int32))), (.int (1 : Int32)), (.ref b5)])) _
    refine XS.iloadN X13.here hx rfl (hb hby d6_30) rfl ?_
    show Steps p.tables e below (T13.setTop (mkF m 31 #[.val (.ref aa0), .val (.ref b5), .val (.int (1 : Int32))] [(.int (1 : Int32)), (.int (fi - (1 : Int32))), (.int (1 : Int32)), (.ref b5)])) _
    refine XS.iadd X13.here hx rfl (hb hby d6_31) rfl ?_
    show Steps p.tables e below (T13.setTop (mkF m 32 #[.val (.ref aa0), .val (.ref b5), .val (.int (1 : Int32))] [(.int ((fi - (1 : Int32)) + (1 : Int32))), (.int (1 : Int32)), (.ref b5)])) _
    refine st15 _ ?_
    show Steps p.tables e below (T15.setTop (mkF m 33 #[.val (.ref aa0), .val (.ref b5), .val (.int (1 : Int32))] [])) _
    refine XS.iinc X15.here hx rfl (hb hby d6_33) rfl (l' := #[.val (.ref aa0), .val (.ref b5), .val (.int (2 : Int32))]) rfl ?_
    show Steps p.tables e below (T15.setTop (mkF m 36 #[.val (.ref aa0), .val (.ref b5), .val (.int (2 : Int32))] [])) _
    refine XS.goto X15.here hx rfl (pc0 := 36) (pc' := 16) rfl (hb hby d6_36) (by decide) (by decide) ?_
    show Steps p.tables e below (T15.setTop (mkF m 16 #[.val (.ref aa0), .val (.ref b5), .val (.int (2 : Int32))] [])) _
    refine XS.iloadN X15.here hx rfl (hb hby d6_16) rfl ?_
    show Steps p.tables e below (T15.setTop (mkF m 17 #[.val (.ref aa0), .val (.ref b5), .val (.int (2 : Int32))] [(.int (2 : Int32))])) _
    refine XS.aloadN X15.here hx rfl (hb hby d6_17) rfl rfl ?_
    show Steps p.tables e below (T15.setTop (mkF m 18 #[.val (.ref aa0), .val (.ref b5), .val (.int (2 : Int32))] [(.ref b5), (.int (2 : Int32))])) _
    refine X15.arraylength hx (by rw [e15]; exact Ar_16.1) (State.isArrayOf_alike hZ.alike Ar_16.2.1) (g := (mkF m 18 #[.val (.ref aa0), .val (.ref b5), .val (.int (2 : Int32))] [(.ref b5), (.int (2 : Int32))])) rfl rfl (hb hby d6_18) _ ?_
    rw [len_of Sz_16 Nn_16]
    show Steps p.tables e below (T15.setTop (mkF m 19 #[.val (.ref aa0), .val (.ref b5), .val (.int (2 : Int32))] [(.int (6 : Int32)), (.int (2 : Int32))])) _
    refine XS.icmpNo X15.here hx rfl (hb hby d6_19) rfl (tlt hc19_3).2.1 ?_
    show Steps p.tables e below (T15.setTop (mkF m 22 #[.val (.ref aa0), .val (.ref b5), .val (.int (2 : Int32))] [])) _
    refine XS.aloadN X15.here hx rfl (hb hby d6_22) rfl rfl ?_
    show Steps p.tables e below (T15.setTop (mkF m 23 #[.val (.ref aa0), .val (.ref b5), .val (.int (2 : Int32))] [(.ref b5)])) _
    refine XS.iloadN X15.here hx rfl (hb hby d6_23) rfl ?_
    show Steps p.tables e below (T15.setTop (mkF m 24 #[.val (.ref aa0), .val (.ref b5), .val (.int (2 : Int32))] [(.int (2 : Int32)), (.ref b5)])) _
    refine XS.aloadN X15.here hx rfl (hb hby d6_24) rfl rfl ?_
    show Steps p.tables e below (T15.setTop (mkF m 25 #[.val (.ref aa0), .val (.ref b5), .val (.int (2 : Int32))] [(.ref aa0), (.int (2 : Int32)), (.ref b5)])) _
    refine st18 _ ?_
    show Steps p.tables e below (T18.setTop (mkF m 28 #[.val (.ref aa0), .val (.ref b5), .val (.int (2 : Int32))] [(.int fi), (.int (2 : Int32)), (.ref b5)])) _
    refine XS.iconst X18.here hx rfl (hb hby d6_28) ?_
    show Steps p.tables e below (T18.setTop (mkF m 29 #[.val (.ref aa0), .val (.ref b5), .val (.int (2 : Int32))] [(.int (1 : Int32)), (.int fi), (.int (2 : Int32)), (.ref b5)])) _
    refine XS.isub X18.here hx rfl (hb hby d6_29) rfl ?_
    show Steps p.tables e below (T18.setTop (mkF m 30 #[.val (.ref aa0), .val (.ref b5), .val (.int (2 : Int32))] [(.int (fi - (1 : Int32))), (.int (2 : Int32)), (.ref b5)])) _
    refine XS.iloadN X18.here hx rfl (hb hby d6_30) rfl ?_
    show Steps p.tables e below (T18.setTop (mkF m 31 #[.val (.ref aa0), .val (.ref b5), .val (.int (2 : Int32))] [(.int (2 : Int32)), (.int (fi - (1 : Int32))), (.int (2 : Int32)), (.ref b5)])) _
    refine XS.iadd X18.here hx rfl (hb hby d6_31) rfl ?_
    show Steps p.tables e below (T18.setTop (mkF m 32 #[.val (.ref aa0), .val (.ref b5), .val (.int (2 : Int32))] [(.int ((fi - (1 : Int32)) + (2 : Int32))), (.int (2 : Int32)), (.ref b5)])) _
    refine st20 _ ?_
    show Steps p.tables e below (T20.setTop (mkF m 33 #[.val (.ref aa0), .val (.ref b5), .val (.int (2 : Int32))] [])) _
    refine XS.iinc X20.here hx rfl (hb hby d6_33) rfl (l' := #[.val (.ref aa0), .val (.ref b5), .val (.int (3 : Int32))]) rfl ?_
    show Steps p.tables e below (T20.setTop (mkF m 36 #[.val (.ref aa0), .val (.ref b5), .val (.int (3 : Int32))] [])) _
    refine XS.goto X20.here hx rfl (pc0 := 36) (pc' := 16) rfl (hb hby d6_36) (by decide) (by decide) ?_
    show Steps p.tables e below (T20.setTop (mkF m 16 #[.val (.ref aa0), .val (.ref b5), .val (.int (3 : Int32))] [])) _
    refine XS.iloadN X20.here hx rfl (hb hby d6_16) rfl ?_
    show Steps p.tables e below (T20.setTop (mkF m 17 #[.val (.ref aa0), .val (.ref b5), .val (.int (3 : Int32))] [(.int (3 : Int32))])) _
    refine XS.aloadN X20.here hx rfl (hb hby d6_17) rfl rfl ?_
    show Steps p.tables e below (T20.setTop (mkF m 18 #[.val (.ref aa0), .val (.ref b5), .val (.int (3 : Int32))] [(.ref b5), (.int (3 : Int32))])) _
    refine X20.arraylength hx (by rw [e20]; exact Ar_21.1) (State.isArrayOf_alike hZ.alike Ar_21.2.1) (g := (mkF m 18 #[.val (.ref aa0), .val (.ref b5), .val (.int (3 : Int32))] [(.ref b5), (.int (3 : Int32))])) rfl rfl (hb hby d6_18) _ ?_
    rw [len_of Sz_21 Nn_21]
    show Steps p.tables e below (T20.setTop (mkF m 19 #[.val (.ref aa0), .val (.ref b5), .val (.int (3 : Int32))] [(.int (6 : Int32)), (.int (3 : Int32))])) _
    refine XS.icmpNo X20.here hx rfl (hb hby d6_19) rfl (tlt hc19_4).2.1 ?_
    show Steps p.tables e below (T20.setTop (mkF m 22 #[.val (.ref aa0), .val (.ref b5), .val (.int (3 : Int32))] [])) _
    refine XS.aloadN X20.here hx rfl (hb hby d6_22) rfl rfl ?_
    show Steps p.tables e below (T20.setTop (mkF m 23 #[.val (.ref aa0), .val (.ref b5), .val (.int (3 : Int32))] [(.ref b5)])) _
    refine XS.iloadN X20.here hx rfl (hb hby d6_23) rfl ?_
    show Steps p.tables e below (T20.setTop (mkF m 24 #[.val (.ref aa0), .val (.ref b5), .val (.int (3 : Int32))] [(.int (3 : Int32)), (.ref b5)])) _
    refine XS.aloadN X20.here hx rfl (hb hby d6_24) rfl rfl ?_
    show Steps p.tables e below (T20.setTop (mkF m 25 #[.val (.ref aa0), .val (.ref b5), .val (.int (3 : Int32))] [(.ref aa0), (.int (3 : Int32)), (.ref b5)])) _
    refine st23 _ ?_
    show Steps p.tables e below (T23.setTop (mkF m 28 #[.val (.ref aa0), .val (.ref b5), .val (.int (3 : Int32))] [(.int fi), (.int (3 : Int32)), (.ref b5)])) _
    refine XS.iconst X23.here hx rfl (hb hby d6_28) ?_
    show Steps p.tables e below (T23.setTop (mkF m 29 #[.val (.ref aa0), .val (.ref b5), .val (.int (3 : Int32))] [(.int (1 : Int32)), (.int fi), (.int (3 : Int32)), (.ref b5)])) _
    refine XS.isub X23.here hx rfl (hb hby d6_29) rfl ?_
    show Steps p.tables e below (T23.setTop (mkF m 30 #[.val (.ref aa0), .val (.ref b5), .val (.int (3 : Int32))] [(.int (fi - (1 : Int32))), (.int (3 : Int32)), (.ref b5)])) _
    refine XS.iloadN X23.here hx rfl (hb hby d6_30) rfl ?_
    show Steps p.tables e below (T23.setTop (mkF m 31 #[.val (.ref aa0), .val (.ref b5), .val (.int (3 : Int32))] [(.int (3 : Int32)), (.int (fi - (1 : Int32))), (.int (3 : Int32)), (.ref b5)])) _
    refine XS.iadd X23.here hx rfl (hb hby d6_31) rfl ?_
    show Steps p.tables e below (T23.setTop (mkF m 32 #[.val (.ref aa0), .val (.ref b5), .val (.int (3 : Int32))] [(.int ((fi - (1 : Int32)) + (3 : Int32))), (.int (3 : Int32)), (.ref b5)])) _
    refine st25 _ ?_
    show Steps p.tables e below (T25.setTop (mkF m 33 #[.val (.ref aa0), .val (.ref b5), .val (.int (3 : Int32))] [])) _
    refine XS.iinc X25.here hx rfl (hb hby d6_33) rfl (l' := #[.val (.ref aa0), .val (.ref b5), .val (.int (4 : Int32))]) rfl ?_
    show Steps p.tables e below (T25.setTop (mkF m 36 #[.val (.ref aa0), .val (.ref b5), .val (.int (4 : Int32))] [])) _
    refine XS.goto X25.here hx rfl (pc0 := 36) (pc' := 16) rfl (hb hby d6_36) (by decide) (by decide) ?_
    show Steps p.tables e below (T25.setTop (mkF m 16 #[.val (.ref aa0), .val (.ref b5), .val (.int (4 : Int32))] [])) _
    refine XS.iloadN X25.here hx rfl (hb hby d6_16) rfl ?_
    show Steps p.tables e below (T25.setTop (mkF m 17 #[.val (.ref aa0), .val (.ref b5), .val (.int (4 : Int32))] [(.int (4 : Int32))])) _
    refine XS.aloadN X25.here hx rfl (hb hby d6_17) rfl rfl ?_
    show Steps p.tables e below (T25.setTop (mkF m 18 #[.val (.ref aa0), .val (.ref b5), .val (.int (4 : Int32))] [(.ref b5), (.int (4 : Int32))])) _
    refine X25.arraylength hx (by rw [e25]; exact Ar_26.1) (State.isArrayOf_alike hZ.alike Ar_26.2.1) (g := (mkF m 18 #[.val (.ref aa0), .val (.ref b5), .val (.int (4 : Int32))] [(.ref b5), (.int (4 : Int32))])) rfl rfl (hb hby d6_18) _ ?_
    rw [len_of Sz_26 Nn_26]
    show Steps p.tables e below (T25.setTop (mkF m 19 #[.val (.ref aa0), .val (.ref b5), .val (.int (4 : Int32))] [(.int (6 : Int32)), (.int (4 : Int32))])) _
    refine XS.icmpNo X25.here hx rfl (hb hby d6_19) rfl (tlt hc19_5).2.1 ?_
    show Steps p.tables e below (T25.setTop (mkF m 22 #[.val (.ref aa0), .val (.ref b5), .val (.int (4 : Int32))] [])) _
    refine XS.aloadN X25.here hx rfl (hb hby d6_22) rfl rfl ?_
    show Steps p.tables e below (T25.setTop (mkF m 23 #[.val (.ref aa0), .val (.ref b5), .val (.int (4 : Int32))] [(.ref b5)])) _
    refine XS.iloadN X25.here hx rfl (hb hby d6_23) rfl ?_
    show Steps p.tables e below (T25.setTop (mkF m 24 #[.val (.ref aa0), .val (.ref b5), .val (.int (4 : Int32))] [(.int (4 : Int32)), (.ref b5)])) _
    refine XS.aloadN X25.here hx rfl (hb hby d6_24) rfl rfl ?_
    show Steps p.tables e below (T25.setTop (mkF m 25 #[.val (.ref aa0), .val (.ref b5), .val (.int (4 : Int32))] [(.ref aa0), (.int (4 : Int32)), (.ref b5)])) _
    refine st28 _ ?_
    show Steps p.tables e below (T28.setTop (mkF m 28 #[.val (.ref aa0), .val (.ref b5), .val (.int (4 : Int32))] [(.int fi), (.int (4 : Int32)), (.ref b5)])) _
    refine XS.iconst X28.here hx rfl (hb hby d6_28) ?_
    show Steps p.tables e below (T28.setTop (mkF m 29 #[.val (.ref aa0), .val (.ref b5), .val (.int (4 : Int32))] [(.int (1 : Int32)), (.int fi), (.int (4 : Int32)), (.ref b5)])) _
    refine XS.isub X28.here hx rfl (hb hby d6_29) rfl ?_
    show Steps p.tables e below (T28.setTop (mkF m 30 #[.val (.ref aa0), .val (.ref b5), .val (.int (4 : Int32))] [(.int (fi - (1 : Int32))), (.int (4 : Int32)), (.ref b5)])) _
    refine XS.iloadN X28.here hx rfl (hb hby d6_30) rfl ?_
    show Steps p.tables e below (T28.setTop (mkF m 31 #[.val (.ref aa0), .val (.ref b5), .val (.int (4 : Int32))] [(.int (4 : Int32)), (.int (fi - (1 : Int32))), (.int (4 : Int32)), (.ref b5)])) _
    refine XS.iadd X28.here hx rfl (hb hby d6_31) rfl ?_
    show Steps p.tables e below (T28.setTop (mkF m 32 #[.val (.ref aa0), .val (.ref b5), .val (.int (4 : Int32))] [(.int ((fi - (1 : Int32)) + (4 : Int32))), (.int (4 : Int32)), (.ref b5)])) _
    refine st30 _ ?_
    show Steps p.tables e below (T30.setTop (mkF m 33 #[.val (.ref aa0), .val (.ref b5), .val (.int (4 : Int32))] [])) _
    refine XS.iinc X30.here hx rfl (hb hby d6_33) rfl (l' := #[.val (.ref aa0), .val (.ref b5), .val (.int (5 : Int32))]) rfl ?_
    show Steps p.tables e below (T30.setTop (mkF m 36 #[.val (.ref aa0), .val (.ref b5), .val (.int (5 : Int32))] [])) _
    refine XS.goto X30.here hx rfl (pc0 := 36) (pc' := 16) rfl (hb hby d6_36) (by decide) (by decide) ?_
    show Steps p.tables e below (T30.setTop (mkF m 16 #[.val (.ref aa0), .val (.ref b5), .val (.int (5 : Int32))] [])) _
    refine XS.iloadN X30.here hx rfl (hb hby d6_16) rfl ?_
    show Steps p.tables e below (T30.setTop (mkF m 17 #[.val (.ref aa0), .val (.ref b5), .val (.int (5 : Int32))] [(.int (5 : Int32))])) _
    refine XS.aloadN X30.here hx rfl (hb hby d6_17) rfl rfl ?_
    show Steps p.tables e below (T30.setTop (mkF m 18 #[.val (.ref aa0), .val (.ref b5), .val (.int (5 : Int32))] [(.ref b5), (.int (5 : Int32))])) _
    refine X30.arraylength hx (by rw [e30]; exact Ar_31.1) (State.isArrayOf_alike hZ.alike Ar_31.2.1) (g := (mkF m 18 #[.val (.ref aa0), .val (.ref b5), .val (.int (5 : Int32))] [(.ref b5), (.int (5 : Int32))])) rfl rfl (hb hby d6_18) _ ?_
    rw [len_of Sz_31 Nn_31]
    show Steps p.tables e below (T30.setTop (mkF m 19 #[.val (.ref aa0), .val (.ref b5), .val (.int (5 : Int32))] [(.int (6 : Int32)), (.int (5 : Int32))])) _
    refine XS.icmpNo X30.here hx rfl (hb hby d6_19) rfl (tlt hc19_6).2.1 ?_
    show Steps p.tables e below (T30.setTop (mkF m 22 #[.val (.ref aa0), .val (.ref b5), .val (.int (5 : Int32))] [])) _
    refine XS.aloadN X30.here hx rfl (hb hby d6_22) rfl rfl ?_
    show Steps p.tables e below (T30.setTop (mkF m 23 #[.val (.ref aa0), .val (.ref b5), .val (.int (5 : Int32))] [(.ref b5)])) _
    refine XS.iloadN X30.here hx rfl (hb hby d6_23) rfl ?_
    show Steps p.tables e below (T30.setTop (mkF m 24 #[.val (.ref aa0), .val (.ref b5), .val (.int (5 : Int32))] [(.int (5 : Int32)), (.ref b5)])) _
    refine XS.aloadN X30.here hx rfl (hb hby d6_24) rfl rfl ?_
    show Steps p.tables e below (T30.setTop (mkF m 25 #[.val (.ref aa0), .val (.ref b5), .val (.int (5 : Int32))] [(.ref aa0), (.int (5 : Int32)), (.ref b5)])) _
    refine st33 _ ?_
    show Steps p.tables e below (T33.setTop (mkF m 28 #[.val (.ref aa0), .val (.ref b5), .val (.int (5 : Int32))] [(.int fi), (.int (5 : Int32)), (.ref b5)])) _
    refine XS.iconst X33.here hx rfl (hb hby d6_28) ?_
    show Steps p.tables e below (T33.setTop (mkF m 29 #[.val (.ref aa0), .val (.ref b5), .val (.int (5 : Int32))] [(.int (1 : Int32)), (.int fi), (.int (5 : Int32)), (.ref b5)])) _
    refine XS.isub X33.here hx rfl (hb hby d6_29) rfl ?_
    show Steps p.tables e below (T33.setTop (mkF m 30 #[.val (.ref aa0), .val (.ref b5), .val (.int (5 : Int32))] [(.int (fi - (1 : Int32))), (.int (5 : Int32)), (.ref b5)])) _
    refine XS.iloadN X33.here hx rfl (hb hby d6_30) rfl ?_
    show Steps p.tables e below (T33.setTop (mkF m 31 #[.val (.ref aa0), .val (.ref b5), .val (.int (5 : Int32))] [(.int (5 : Int32)), (.int (fi - (1 : Int32))), (.int (5 : Int32)), (.ref b5)])) _
    refine XS.iadd X33.here hx rfl (hb hby d6_31) rfl ?_
    show Steps p.tables e below (T33.setTop (mkF m 32 #[.val (.ref aa0), .val (.ref b5), .val (.int (5 : Int32))] [(.int ((fi - (1 : Int32)) + (5 : Int32))), (.int (5 : Int32)), (.ref b5)])) _
    refine st35 _ ?_
    show Steps p.tables e below (T35.setTop (mkF m 33 #[.val (.ref aa0), .val (.ref b5), .val (.int (5 : Int32))] [])) _
    refine XS.iinc X35.here hx rfl (hb hby d6_33) rfl (l' := #[.val (.ref aa0), .val (.ref b5), .val (.int (6 : Int32))]) rfl ?_
    show Steps p.tables e below (T35.setTop (mkF m 36 #[.val (.ref aa0), .val (.ref b5), .val (.int (6 : Int32))] [])) _
    refine XS.goto X35.here hx rfl (pc0 := 36) (pc' := 16) rfl (hb hby d6_36) (by decide) (by decide) ?_
    show Steps p.tables e below (T35.setTop (mkF m 16 #[.val (.ref aa0), .val (.ref b5), .val (.int (6 : Int32))] [])) _
    refine XS.iloadN X35.here hx rfl (hb hby d6_16) rfl ?_
    show Steps p.tables e below (T35.setTop (mkF m 17 #[.val (.ref aa0), .val (.ref b5), .val (.int (6 : Int32))] [(.int (6 : Int32))])) _
    refine XS.aloadN X35.here hx rfl (hb hby d6_17) rfl rfl ?_
    show Steps p.tables e below (T35.setTop (mkF m 18 #[.val (.ref aa0), .val (.ref b5), .val (.int (6 : Int32))] [(.ref b5), (.int (6 : Int32))])) _
    refine X35.arraylength hx (by rw [e35]; exact Ar_36.1) (State.isArrayOf_alike hZ.alike Ar_36.2.1) (g := (mkF m 18 #[.val (.ref aa0), .val (.ref b5), .val (.int (6 : Int32))] [(.ref b5), (.int (6 : Int32))])) rfl rfl (hb hby d6_18) _ ?_
    rw [len_of Sz_36 Nn_36]
    show Steps p.tables e below (T35.setTop (mkF m 19 #[.val (.ref aa0), .val (.ref b5), .val (.int (6 : Int32))] [(.int (6 : Int32)), (.int (6 : Int32))])) _
    refine XS.icmpYes X35.here hx rfl (pc0 := 19) (pc' := 39) rfl (hb hby d6_19) rfl (flt hc19_7).2.1 (by decide) (by decide) ?_
    show Steps p.tables e below (T35.setTop (mkF m 39 #[.val (.ref aa0), .val (.ref b5), .val (.int (6 : Int32))] [])) _
    refine XS.aloadN X35.here hx rfl (hb hby d6_39) rfl rfl ?_
    show Steps p.tables e below (T35.setTop (mkF m 40 #[.val (.ref aa0), .val (.ref b5), .val (.int (6 : Int32))] [(.ref b5)])) _
    jvm_step X35.here [X35.here.top, hx, (hb hby d6_40), X35.method', Bd.returns, Value.isRef, FieldType.isReference]
    first | (intro acts; rw [hr _ acts rfl rfl rfl]) | rw [hr _ _ rfl rfl rfl]
    exact Steps.refl _
  · show Q6_6 Z aa0 fi la h0 n0 _ T35.heap _
    rw [e35]
    exact ⟨b5, k5, rfl, N35, K35, g_b5, sz_b5, V35⟩
theorem ef_6_7 (m : MethodId) (x0 : Addr) : entryFrame m #[(.ref x0)] 3 = mkF m 0 #[.val (.ref x0), .unset, .unset] [] := by first | (simp [entryFrame, mkF, argsToLocals, Value.category]; done) | rfl
def Q6_7 (Z : State) (aa0 : Addr) (fi : Int32) (la : Int32) (h0 : Heap) (n0 : Nat) (v : Option Value) (h : Heap) (L : List Loc) : Prop := ∃ (bx : Addr), ∃ (kx : ClassId), v = some (.ref bx) ∧ Fr n0 L ∧ Keep h0 h [] ∧ n0 ≤ bx ∧ h0.size ≤ bx ∧ (Arv Z h bx kx .int (7 : Int32) [(.int ((fi - (1 : Int32)) + (0 : Int32))), (.int ((fi - (1 : Int32)) + (1 : Int32))), (.int ((fi - (1 : Int32)) + (2 : Int32))), (.int ((fi - (1 : Int32)) + (3 : Int32))), (.int ((fi - (1 : Int32)) + (4 : Int32))), (.int ((fi - (1 : Int32)) + (5 : Int32))), (.int ((fi - (1 : Int32)) + (6 : Int32)))] (.int (0 : Int32)))
set_option maxRecDepth 65536 in
set_option maxHeartbeats 40000000 in
theorem rm6_7 (l : Launch) (Z : State) (a0 : Array Value) (hw : ∀ d ∈ tables_1, d.before a0 Z = true) (ws : List Jvm.Cond) (aa0 : Addr) (fi : Int32) (la : Int32) (h0 : Heap) (n0 : Nat) (Z0 : n0 ≤ h0.size) (F_aa0_first : Fld Z h0 aa0 "com/example/escapement/escapement/cli/PartitionTable$Partition" "first" "I" (.int fi)) (F_aa0_last : Fld Z h0 aa0 "com/example/escapement/escapement/cli/PartitionTable$Partition" "last" "I" (.int la)) (hlen : ((la - fi) + (1 : Int32)) = (7 : Int32)) :
    MetFree l (⟨"com/example/escapement/escapement/cli/PartitionTable$Partition", "sites", "()[I"⟩ : MethodName) (head1 (Jvm.Cond.code (⟨"com/example/escapement/escapement/cli/PartitionTable$Partition", "sites", "()[I"⟩ : MethodName) prog_14_method_2_code 3 (some (.array .int)) :: ws) ({ frames := 0, cells := 1, slots := 7, locals := 0 } : Room)) (fun a U => a = #[(.ref aa0)] ∧ Z.Warmed39 U.vm ∧ U.heap = h0) (fun _ _ _ _ _ => True) (fun _ U o U' => ∃ v L, o = .returned v ∧ Q6_7 Z aa0 fi la h0 n0 v U'.heap L ∧ FrameEnd U o U' L ({ frames := 0, cells := 1, slots := 7, locals := 0 } : Room).cells ({ frames := 0, cells := 1, slots := 7, locals := 0 } : Room).slots) := by
  refine MetFree.of_bodySF (plainFor_of_name pn_com_example_escapement_escapement_cli_PartitionTable_Partition) hisR ?_
  intro p e s m args below meth c s₁ Bd hml0 hP hK
  obtain ⟨rfl, hZ, hh⟩ := hP
  have hx := Bd.exec
  have hby := Bd.bytes
  have hml : c.maxLocals = 3 := hml0
  have hown : s.vm.findClass "com/example/escapement/escapement/cli/PartitionTable$Partition" = some m.cls := findClass_of_methodNamed Bd.named
  have hnm := (name_of_methodNamed Bd.named Bd.method).1
  have X0 : Stand p l e ({ frames := 0, cells := 1, slots := 7, locals := 0 } : Room) s m #[(.ref aa0)] below meth c s₁ [] 0 0 := Stand.of_body Bd
  have e0 : s₁.heap = h0 := by rw [← hh, Bd.state]; rfl
  have N0 := Fr.nil n0
  have pre0 : ∀ t, Steps p.tables e below (s₁.setTop (mkF m 0 #[.val (.ref aa0), .unset, .unset] [])) t → Steps p.tables e below (s₁.setTop (entryFrame m #[(.ref aa0)] 3)) t := fun t k => castTop (ef_6_7 m aa0) k
  obtain ⟨T1, X1, e1, st1⟩ := getF X0 hx hZ hown (host := "") (Or.inl (hw _ (List.mem_of_getElem? (i := 34) rfl))) Via.refl e0 F_aa0_last (g := (mkF m 1 #[.val (.ref aa0), .unset, .unset] [(.ref aa0)])) rfl rfl (hb hby d6_1)
  obtain ⟨T2, X2, e2, st2⟩ := getF X1 hx hZ hown (host := "") (Or.inl (hw _ (List.mem_of_getElem? (i := 32) rfl))) Via.refl e1 F_aa0_first (g := (mkF m 5 #[.val (.ref aa0), .unset, .unset] [(.ref aa0), (.int la)])) rfl rfl (hb hby d6_5)
  have pre3 : ∀ t, Steps p.tables e below (T2.setTop (mkF m 11 #[.val (.ref aa0), .unset, .unset] [(.int ((la - fi) + (1 : Int32)))])) t → Steps p.tables e below (s₁.setTop (entryFrame m #[(.ref aa0)] 3)) t := fun t kt => pre0 t (by
    show Steps p.tables e below (s₁.setTop (mkF m 0 #[.val (.ref aa0), .unset, .unset] [])) _
    refine XS.aloadN X0.here hx rfl (hb hby d6_0) rfl rfl ?_
    show Steps p.tables e below (s₁.setTop (mkF m 1 #[.val (.ref aa0), .unset, .unset] [(.ref aa0)])) _
    refine st1 _ ?_
    show Steps p.tables e below (T1.setTop (mkF m 4 #[.val (.ref aa0), .unset, .unset] [(.int la)])) _
    refine XS.aloadN X1.here hx rfl (hb hby d6_4) rfl rfl ?_
    show Steps p.tables e below (T1.setTop (mkF m 5 #[.val (.ref aa0), .unset, .unset] [(.ref aa0), (.int la)])) _
    refine st2 _ ?_
    show Steps p.tables e below (T2.setTop (mkF m 8 #[.val (.ref aa0), .unset, .unset] [(.int fi), (.int la)])) _
    refine XS.isub X2.here hx rfl (hb hby d6_8) rfl ?_
    show Steps p.tables e below (T2.setTop (mkF m 9 #[.val (.ref aa0), .unset, .unset] [(.int (la - fi))])) _
    refine XS.iconst X2.here hx rfl (hb hby d6_9) ?_
    show Steps p.tables e below (T2.setTop (mkF m 10 #[.val (.ref aa0), .unset, .unset] [(.int (1 : Int32)), (.int (la - fi))])) _
    refine XS.iadd X2.here hx rfl (hb hby d6_10) rfl ?_
    exact kt)
  obtain ⟨nn, h_nn, pre4⟩ : ∃ (nn : Int32), (nn = (7 : Int32)) ∧ ∀ t, Steps p.tables e below (T2.setTop (mkF m 11 #[.val (.ref aa0), .unset, .unset] [(.int nn)])) t → Steps p.tables e below (s₁.setTop (entryFrame m #[(.ref aa0)] 3)) t := ⟨((la - fi) + (1 : Int32)), hlen, pre3⟩
  subst h_nn
  obtain ⟨T5, h5, k5, X5, e5, E5, A5, st5⟩ := newP X2 hx hZ (hw _ (List.mem_of_getElem? (i := 41) rfl)) e2 (g := (mkF m 11 #[.val (.ref aa0), .unset, .unset] [(.int (7 : Int32))])) rfl (hb hby d6_11) rfl (by decide) (cap := 7) (by decide) (by decide) (by decide) (by decide)
  obtain ⟨b5, g5⟩ : ∃ z, z = h0.size := ⟨_, rfl⟩
  rw [← g5] at A5 st5
  have g_b5 : n0 ≤ b5 := Nat.le_trans Z0 (Nat.le_of_eq g5.symm)
  have sz_b5 : h0.size ≤ b5 := Nat.le_trans (Keep.refl h0 []).1 (Nat.le_of_eq g5.symm)
  have Z5 : n0 ≤ h5.size := Nat.le_trans Z0 E5.1
  have K5 : Keep h0 h5 [] := (Keep.refl h0 []).ext E5
  have V5 : Arv Z h5 b5 k5 .int (7 : Int32) [(.int (0 : Int32)), (.int (0 : Int32)), (.int (0 : Int32)), (.int (0 : Int32)), (.int (0 : Int32)), (.int (0 : Int32)), (.int (0 : Int32))] (.int (0 : Int32)) := (Arv.new A5 (by decide)).pad (pad_rep [] (.int (0 : Int32)) 7)
  obtain ⟨cl_6, Ar_6, -, Sz_6, Nn_6, -, -⟩ := id V5
  have hc19 : (0 : Int32) < (7 : Int32) := by decide
  have F_7 : Fld Z h5 aa0 "com/example/escapement/escapement/cli/PartitionTable$Partition" "first" "I" (.int fi) := (F_aa0_first.ext E5)
  obtain ⟨T8, X8, e8, st8⟩ := getF X5 hx hZ hown (host := "") (Or.inl (hw _ (List.mem_of_getElem? (i := 32) rfl))) Via.refl e5 F_7 (g := (mkF m 25 #[.val (.ref aa0), .val (.ref b5), .val (.int (0 : Int32))] [(.ref aa0), (.int (0 : Int32)), (.ref b5)])) rfl rfl (hb hby d6_25)
  obtain ⟨cl_9, Ar_9, qq_9, Sz_9, Nn_9, Hh_9, Gg_9⟩ := id V5
  have hin_9 : ¬ ((0 : Int32) < 0 ∨ cl_9.slots.size ≤ ((0 : Int32)).toNatClampNeg) := inb_of Sz_9 ⟨by decide, by decide⟩
  obtain ⟨T10, h10, X10, e10, W10, st10⟩ := stI X8 hx hZ e8 Ar_9 (j := (0 : Int32)) hin_9 (g := (mkF m 32 #[.val (.ref aa0), .val (.ref b5), .val (.int (0 : Int32))] [(.int ((fi - (1 : Int32)) + (0 : Int32))), (.int (0 : Int32)), (.ref b5)])) rfl rfl (hb hby d6_32)
  have N10 := Fr.snoc X10 N0 g_b5
  have Z10 : n0 ≤ h10.size := Nat.le_trans Z5 (Keep.of_wr W10).1
  have K10 : Keep h0 h10 [] := K5.wr W10 (Or.inr sz_b5)
  have V10 : Arv Z h10 b5 k5 .int (7 : Int32) [(.int ((fi - (1 : Int32)) + (0 : Int32))), (.int (0 : Int32)), (.int (0 : Int32)), (.int (0 : Int32)), (.int (0 : Int32)), (.int (0 : Int32)), (.int (0 : Int32))] (.int (0 : Int32)) := Arv.set Ar_9 qq_9 Sz_9 Nn_9 Hh_9 Gg_9 rfl W10 0 rfl (Nat.le_of_ble_eq_true rfl)
  obtain ⟨cl_11, Ar_11, -, Sz_11, Nn_11, -, -⟩ := id V10
  have hc19_2 : (1 : Int32) < (7 : Int32) := by decide
  have F_12 : Fld Z h10 aa0 "com/example/escapement/escapement/cli/PartitionTable$Partition" "first" "I" (.int fi) := (F_7.other W10 (Or.inl (Nat.ne_of_lt (Nat.lt_of_lt_of_le F_aa0_first.lt (Nat.le_of_eq g5.symm)))))
  obtain ⟨T13, X13, e13, st13⟩ := getF X10 hx hZ hown (host := "") (Or.inl (hw _ (List.mem_of_getElem? (i := 32) rfl))) Via.refl e10 F_12 (g := (mkF m 25 #[.val (.ref aa0), .val (.ref b5), .val (.int (1 : Int32))] [(.ref aa0), (.int (1 : Int32)), (.ref b5)])) rfl rfl (hb hby d6_25)
  obtain ⟨cl_14, Ar_14, qq_14, Sz_14, Nn_14, Hh_14, Gg_14⟩ := id V10
  have hin_14 : ¬ ((1 : Int32) < 0 ∨ cl_14.slots.size ≤ ((1 : Int32)).toNatClampNeg) := inb_of Sz_14 ⟨by decide, by decide⟩
  obtain ⟨T15, h15, X15, e15, W15, st15⟩ := stI X13 hx hZ e13 Ar_14 (j := (1 : Int32)) hin_14 (g := (mkF m 32 #[.val (.ref aa0), .val (.ref b5), .val (.int (1 : Int32))] [(.int ((fi - (1 : Int32)) + (1 : Int32))), (.int (1 : Int32)), (.ref b5)])) rfl rfl (hb hby d6_32)
  have N15 := Fr.snoc X15 N10 g_b5
  have Z15 : n0 ≤ h15.size := Nat.le_trans Z10 (Keep.of_wr W15).1
  have K15 : Keep h0 h15 [] := K10.wr W15 (Or.inr sz_b5)
  have V15 : Arv Z h15 b5 k5 .int (7 : Int32) [(.int ((fi - (1 : Int32)) + (0 : Int32))), (.int ((fi - (1 : Int32)) + (1 : Int32))), (.int (0 : Int32)), (.int (0 : Int32)), (.int (0 : Int32)), (.int (0 : Int32)), (.int (0 : Int32))] (.int (0 : Int32)) := Arv.set Ar_14 qq_14 Sz_14 Nn_14 Hh_14 Gg_14 rfl W15 1 rfl (Nat.le_of_ble_eq_true rfl)
  obtain ⟨cl_16, Ar_16, -, Sz_16, Nn_16, -, -⟩ := id V15
  have hc19_3 : (2 : Int32) < (7 : Int32) := by decide
  have F_17 : Fld Z h15 aa0 "com/example/escapement/escapement/cli/PartitionTable$Partition" "first" "I" (.int fi) := (F_12.other W15 (Or.inl (Nat.ne_of_lt (Nat.lt_of_lt_of_le F_aa0_first.lt (Nat.le_of_eq g5.symm)))))
  obtain ⟨T18, X18, e18, st18⟩ := getF X15 hx hZ hown (host := "") (Or.inl (hw _ (List.mem_of_getElem? (i := 32) rfl))) Via.refl e15 F_17 (g := (mkF m 25 #[.val (.ref aa0), .val (.ref b5), .val (.int (2 : Int32))] [(.ref aa0), (.int (2 : Int32)), (.ref b5)])) rfl rfl (hb hby d6_25)
  obtain ⟨cl_19, Ar_19, qq_19, Sz_19, Nn_19, Hh_19, Gg_19⟩ := id V15
  have hin_19 : ¬ ((2 : Int32) < 0 ∨ cl_19.slots.size ≤ ((2 : Int32)).toNatClampNeg) := inb_of Sz_19 ⟨by decide, by decide⟩
  obtain ⟨T20, h20, X20, e20, W20, st20⟩ := stI X18 hx hZ e18 Ar_19 (j := (2 : Int32)) hin_19 (g := (mkF m 32 #[.val (.ref aa0), .val (.ref b5), .val (.int (2 : Int32))] [(.int ((fi - (1 : Int32)) + (2 : Int32))), (.int (2 : Int32)), (.ref b5)])) rfl rfl (hb hby d6_32)
  have N20 := Fr.snoc X20 N15 g_b5
  have Z20 : n0 ≤ h20.size := Nat.le_trans Z15 (Keep.of_wr W20).1
  have K20 : Keep h0 h20 [] := K15.wr W20 (Or.inr sz_b5)
  have V20 : Arv Z h20 b5 k5 .int (7 : Int32) [(.int ((fi - (1 : Int32)) + (0 : Int32))), (.int ((fi - (1 : Int32)) + (1 : Int32))), (.int ((fi - (1 : Int32)) + (2 : Int32))), (.int (0 : Int32)), (.int (0 : Int32)), (.int (0 : Int32)), (.int (0 : Int32))] (.int (0 : Int32)) := Arv.set Ar_19 qq_19 Sz_19 Nn_19 Hh_19 Gg_19 rfl W20 2 rfl (Nat.le_of_ble_eq_true rfl)
  obtain ⟨cl_21, Ar_21, -, Sz_21, Nn_21, -, -⟩ := id V20
  have hc19_4 : (3 : Int32) < (7 : Int32) := by decide
  have F_22 : Fld Z h20 aa0 "com/example/escapement/escapement/cli/PartitionTable$Partition" "first" "I" (.int fi) := (F_17.other W20 (Or.inl (Nat.ne_of_lt (Nat.lt_of_lt_of_le F_aa0_first.lt (Nat.le_of_eq g5.symm)))))
  obtain ⟨T23, X23, e23, st23⟩ := getF X20 hx hZ hown (host := "") (Or.inl (hw _ (List.mem_of_getElem? (i := 32) rfl))) Via.refl e20 F_22 (g := (mkF m 25 #[.val (.ref aa0), .val (.ref b5), .val (.int (3 : Int32))] [(.ref aa0), (.int (3 : Int32)), (.ref b5)])) rfl rfl (hb hby d6_25)
  obtain ⟨cl_24, Ar_24, qq_24, Sz_24, Nn_24, Hh_24, Gg_24⟩ := id V20
  have hin_24 : ¬ ((3 : Int32) < 0 ∨ cl_24.slots.size ≤ ((3 : Int32)).toNatClampNeg) := inb_of Sz_24 ⟨by decide, by decide⟩
  obtain ⟨T25, h25, X25, e25, W25, st25⟩ := stI X23 hx hZ e23 Ar_24 (j := (3 : Int32)) hin_24 (g := (mkF m 32 #[.val (.ref aa0), .val (.ref b5), .val (.int (3 : Int32))] [(.int ((fi - (1 : Int32)) + (3 : Int32))), (.int (3 : Int32)), (.ref b5)])) rfl rfl (hb hby d6_32)
  have N25 := Fr.snoc X25 N20 g_b5
  have Z25 : n0 ≤ h25.size := Nat.le_trans Z20 (Keep.of_wr W25).1
  have K25 : Keep h0 h25 [] := K20.wr W25 (Or.inr sz_b5)
  have V25 : Arv Z h25 b5 k5 .int (7 : Int32) [(.int ((fi - (1 : Int32)) + (0 : Int32))), (.int ((fi - (1 : Int32)) + (1 : Int32))), (.int ((fi - (1 : Int32)) + (2 : Int32))), (.int ((fi - (1 : Int32)) + (3 : Int32))), (.int (0 : Int32)), (.int (0 : Int32)), (.int (0 : Int32))] (.int (0 : Int32)) := Arv.set Ar_24 qq_24 Sz_24 Nn_24 Hh_24 Gg_24 rfl W25 3 rfl (Nat.le_of_ble_eq_true rfl)
  obtain ⟨cl_26, Ar_26, -, Sz_26, Nn_26, -, -⟩ := id V25
  have hc19_5 : (4 : Int32) < (7 : Int32) := by decide
  have F_27 : Fld Z h25 aa0 "com/example/escapement/escapement/cli/PartitionTable$Partition" "first" "I" (.int fi) := (F_22.other W25 (Or.inl (Nat.ne_of_lt (Nat.lt_of_lt_of_le F_aa0_first.lt (Nat.le_of_eq g5.symm)))))
  obtain ⟨T28, X28, e28, st28⟩ := getF X25 hx hZ hown (host := "") (Or.inl (hw _ (List.mem_of_getElem? (i := 32) rfl))) Via.refl e25 F_27 (g := (mkF m 25 #[.val (.ref aa0), .val (.ref b5), .val (.int (4 : Int32))] [(.ref aa0), (.int (4 : Int32)), (.ref b5)])) rfl rfl (hb hby d6_25)
  obtain ⟨cl_29, Ar_29, qq_29, Sz_29, Nn_29, Hh_29, Gg_29⟩ := id V25
  have hin_29 : ¬ ((4 : Int32) < 0 ∨ cl_29.slots.size ≤ ((4 : Int32)).toNatClampNeg) := inb_of Sz_29 ⟨by decide, by decide⟩
  obtain ⟨T30, h30, X30, e30, W30, st30⟩ := stI X28 hx hZ e28 Ar_29 (j := (4 : Int32)) hin_29 (g := (mkF m 32 #[.val (.ref aa0), .val (.ref b5), .val (.int (4 : Int32))] [(.int ((fi - (1 : Int32)) + (4 : Int32))), (.int (4 : Int32)), (.ref b5)])) rfl rfl (hb hby d6_32)
  have N30 := Fr.snoc X30 N25 g_b5
  have Z30 : n0 ≤ h30.size := Nat.le_trans Z25 (Keep.of_wr W30).1
  have K30 : Keep h0 h30 [] := K25.wr W30 (Or.inr sz_b5)
  have V30 : Arv Z h30 b5 k5 .int (7 : Int32) [(.int ((fi - (1 : Int32)) + (0 : Int32))), (.int ((fi - (1 : Int32)) + (1 : Int32))), (.int ((fi - (1 : Int32)) + (2 : Int32))), (.int ((fi - (1 : Int32)) + (3 : Int32))), (.int ((fi - (1 : Int32)) + (4 : Int32))), (.int (0 : Int32)), (.int (0 : Int32))] (.int (0 : Int32)) := Arv.set Ar_29 qq_29 Sz_29 Nn_29 Hh_29 Gg_29 rfl W30 4 rfl (Nat.le_of_ble_eq_true rfl)
  obtain ⟨cl_31, Ar_31, -, Sz_31, Nn_31, -, -⟩ := id V30
  have hc19_6 : (5 : Int32) < (7 : Int32) := by decide
  have F_32 : Fld Z h30 aa0 "com/example/escapement/escapement/cli/PartitionTable$Partition" "first" "I" (.int fi) := (F_27.other W30 (Or.inl (Nat.ne_of_lt (Nat.lt_of_lt_of_le F_aa0_first.lt (Nat.le_of_eq g5.symm)))))
  obtain ⟨T33, X33, e33, st33⟩ := getF X30 hx hZ hown (host := "") (Or.inl (hw _ (List.mem_of_getElem? (i := 32) rfl))) Via.refl e30 F_32 (g := (mkF m 25 #[.val (.ref aa0), .val (.ref b5), .val (.int (5 : Int32))] [(.ref aa0), (.int (5 : Int32)), (.ref b5)])) rfl rfl (hb hby d6_25)
  obtain ⟨cl_34, Ar_34, qq_34, Sz_34, Nn_34, Hh_34, Gg_34⟩ := id V30
  have hin_34 : ¬ ((5 : Int32) < 0 ∨ cl_34.slots.size ≤ ((5 : Int32)).toNatClampNeg) := inb_of Sz_34 ⟨by decide, by decide⟩
  obtain ⟨T35, h35, X35, e35, W35, st35⟩ := stI X33 hx hZ e33 Ar_34 (j := (5 : Int32)) hin_34 (g := (mkF m 32 #[.val (.ref aa0), .val (.ref b5), .val (.int (5 : Int32))] [(.int ((fi - (1 : Int32)) + (5 : Int32))), (.int (5 : Int32)), (.ref b5)])) rfl rfl (hb hby d6_32)
  have N35 := Fr.snoc X35 N30 g_b5
  have Z35 : n0 ≤ h35.size := Nat.le_trans Z30 (Keep.of_wr W35).1
  have K35 : Keep h0 h35 [] := K30.wr W35 (Or.inr sz_b5)
  have V35 : Arv Z h35 b5 k5 .int (7 : Int32) [(.int ((fi - (1 : Int32)) + (0 : Int32))), (.int ((fi - (1 : Int32)) + (1 : Int32))), (.int ((fi - (1 : Int32)) + (2 : Int32))), (.int ((fi - (1 : Int32)) + (3 : Int32))), (.int ((fi - (1 : Int32)) + (4 : Int32))), (.int ((fi - (1 : Int32)) + (5 : Int32))), (.int (0 : Int32))] (.int (0 : Int32)) := Arv.set Ar_34 qq_34 Sz_34 Nn_34 Hh_34 Gg_34 rfl W35 5 rfl (Nat.le_of_ble_eq_true rfl)
  obtain ⟨cl_36, Ar_36, -, Sz_36, Nn_36, -, -⟩ := id V35
  have hc19_7 : (6 : Int32) < (7 : Int32) := by decide
  have F_37 : Fld Z h35 aa0 "com/example/escapement/escapement/cli/PartitionTable$Partition" "first" "I" (.int fi) := (F_32.other W35 (Or.inl (Nat.ne_of_lt (Nat.lt_of_lt_of_le F_aa0_first.lt (Nat.le_of_eq g5.symm)))))
  obtain ⟨T38, X38, e38, st38⟩ := getF X35 hx hZ hown (host := "") (Or.inl (hw _ (List.mem_of_getElem? (i := 32) rfl))) Via.refl e35 F_37 (g := (mkF m 25 #[.val (.ref aa0), .val (.ref b5), .val (.int (6 : Int32))] [(.ref aa0), (.int (6 : Int32)), (.ref b5)])) rfl rfl (hb hby d6_25)
  obtain ⟨cl_39, Ar_39, qq_39, Sz_39, Nn_39, Hh_39, Gg_39⟩ := id V35
  have hin_39 : ¬ ((6 : Int32) < 0 ∨ cl_39.slots.size ≤ ((6 : Int32)).toNatClampNeg) := inb_of Sz_39 ⟨by decide, by decide⟩
  obtain ⟨T40, h40, X40, e40, W40, st40⟩ := stI X38 hx hZ e38 Ar_39 (j := (6 : Int32)) hin_39 (g := (mkF m 32 #[.val (.ref aa0), .val (.ref b5), .val (.int (6 : Int32))] [(.int ((fi - (1 : Int32)) + (6 : Int32))), (.int (6 : Int32)), (.ref b5)])) rfl rfl (hb hby d6_32)
  have N40 := Fr.snoc X40 N35 g_b5
  have Z40 : n0 ≤ h40.size := Nat.le_trans Z35 (Keep.of_wr W40).1
  have K40 : Keep h0 h40 [] := K35.wr W40 (Or.inr sz_b5)
  have V40 : Arv Z h40 b5 k5 .int (7 : Int32) [(.int ((fi - (1 : Int32)) + (0 : Int32))), (.int ((fi - (1 : Int32)) + (1 : Int32))), (.int ((fi - (1 : Int32)) + (2 : Int32))), (.int ((fi - (1 : Int32)) + (3 : Int32))), (.int ((fi - (1 : Int32)) + (4 : Int32))), (.int ((fi - (1 : Int32)) + (5 : Int32))), (.int ((fi - (1 : Int32)) + (6 : Int32)))] (.int (0 : Int32)) := Arv.set Ar_39 qq_39 Sz_39 Nn_39 Hh_39 Gg_39 rfl W40 6 rfl (Nat.le_of_ble_eq_true rfl)
  obtain ⟨cl_41, Ar_41, -, Sz_41, Nn_41, -, -⟩ := id V40
  have hc19_8 : ¬ ((7 : Int32) < (7 : Int32)) := by decide
  obtain ⟨fs, hr, hrun, hended, hW, hsame⟩ := X40.leave (v := some (.ref b5)) (fun h => by rw [Bd.returns] at h; cases h)
  refine ⟨_, _, pre4 _ ?_, hrun, hended, _, _, rfl, ?_, ⟨_, rfl⟩, hW, hsame.mono (by decide) (by decide)⟩
  · show Steps p.tables e below (T2.setTop (mkF m 11 #[.val (.ref aa0), .unset, .unset] [(.int (7 : Int32))])) _
    refine st5 _ ?_
    show Steps p.tables e below (T5.setTop (mkF m 13 #[.val (.ref aa0), .unset, .unset] [(.ref b5)])) _
    refine XS.astoreN X5.here hx rfl (hb hby d6_13) rfl rfl (l' := #[.val (.ref aa0), .val (.ref b5), .unset]) rfl ?_
    show Steps p.tables e below (T5.setTop (mkF m 14 #[.val (.ref aa0), .val (.ref b5), .unset] [])) _
    refine XS.iconst X5.here hx rfl (hb hby d6_14) ?_
    show Steps p.tables e below (T5.setTop (mkF m 15 #[.val (.ref aa0), .val (.ref b5), .unset] [(.int (0 : Int32))])) _
    refine XS.istoreN X5.here hx rfl (hb hby d6_15) rfl (l' := #[.val (.ref aa0), .val (.ref b5), .val (.int (0 : Int32))]) rfl ?_
    show Steps p.tables e below (T5.setTop (mkF m 16 #[.val (.ref aa0), .val (.ref b5), .val (.int (0 : Int32))] [])) _
    refine XS.iloadN X5.here hx rfl (hb hby d6_16) rfl ?_
    show Steps p.tables e below (T5.setTop (mkF m 17 #[.val (.ref aa0), .val (.ref b5), .val (.int (0 : Int32))] [(.int (0 : Int32))])) _
    refine XS.aloadN X5.here hx rfl (hb hby d6_17) rfl rfl ?_
    show Steps p.tables e below (T5.setTop (mkF m 18 #[.val (.ref aa0), .val (.ref b5), .val (.int (0 : Int32))] [(.ref b5), (.int (0 : Int32))])) _
    refine X5.arraylength hx (by rw [e5]; exact Ar_6.1) (State.isArrayOf_alike hZ.alike Ar_6.2.1) (g := (mkF m 18 #[.val (.ref aa0), .val (.ref b5), .val (.int (0 : Int32))] [(.ref b5), (.int (0 : Int32))])) rfl rfl (hb hby d6_18) _ ?_
    rw [len_of Sz_6 Nn_6]
    show Steps p.tables e below (T5.setTop (mkF m 19 #[.val (.ref aa0), .val (.ref b5), .val (.int (0 : Int32))] [(.int (7 : Int32)), (.int (0 : Int32))])) _
    refine XS.icmpNo X5.here hx rfl (hb hby d6_19) rfl (tlt hc19).2.1 ?_
    show Steps p.tables e below (T5.setTop (mkF m 22 #[.val (.ref aa0), .val (.ref b5), .val (.int (0 : Int32))] [])) _
    refine XS.aloadN X5.here hx rfl (hb hby d6_22) rfl rfl ?_
    show Steps p.tables e below (T5.setTop (mkF m 23 #[.val (.ref aa0), .val (.ref b5), .val (.int (0 : Int32))] [(.ref b5)])) _
    refine XS.iloadN X5.here hx rfl (hb hby d6_23) rfl ?_
    show Steps p.tables e below (T5.setTop (mkF m 24 #[.val (.ref aa0), .val (.ref b5), .val (.int (0 : Int32))] [(.int (0 : Int32)), (.ref b5)])) _
    refine XS.aloadN X5.here hx rfl (hb hby d6_24) rfl rfl ?_
    show Steps p.tables e below (T5.setTop (mkF m 25 #[.val (.ref aa0), .val (.ref b5), .val (.int (0 : Int32))] [(.ref aa0), (.int (0 : Int32)), (.ref b5)])) _
    refine st8 _ ?_
    show Steps p.tables e below (T8.setTop (mkF m 28 #[.val (.ref aa0), .val (.ref b5), .val (.int (0 : Int32))] [(.int fi), (.int (0 : Int32)), (.ref b5)])) _
    refine XS.iconst X8.here hx rfl (hb hby d6_28) ?_
    show Steps p.tables e below (T8.setTop (mkF m 29 #[.val (.ref aa0), .val (.ref b5), .val (.int (0 : Int32))] [(.int (1 : Int32)), (.int fi), (.int (0 : Int32)), (.ref b5)])) _
    refine XS.isub X8.here hx rfl (hb hby d6_29) rfl ?_
    show Steps p.tables e below (T8.setTop (mkF m 30 #[.val (.ref aa0), .val (.ref b5), .val (.int (0 : Int32))] [(.int (fi - (1 : Int32))), (.int (0 : Int32)), (.ref b5)])) _
    refine XS.iloadN X8.here hx rfl (hb hby d6_30) rfl ?_
    show Steps p.tables e below (T8.setTop (mkF m 31 #[.val (.ref aa0), .val (.ref b5), .val (.int (0 : Int32))] [(.int (0 : Int32)), (.int (fi - (1 : Int32))), (.int (0 : Int32)), (.ref b5)])) _
    refine XS.iadd X8.here hx rfl (hb hby d6_31) rfl ?_
    show Steps p.tables e below (T8.setTop (mkF m 32 #[.val (.ref aa0), .val (.ref b5), .val (.int (0 : Int32))] [(.int ((fi - (1 : Int32)) + (0 : Int32))), (.int (0 : Int32)), (.ref b5)])) _
    refine st10 _ ?_
    show Steps p.tables e below (T10.setTop (mkF m 33 #[.val (.ref aa0), .val (.ref b5), .val (.int (0 : Int32))] [])) _
    refine XS.iinc X10.here hx rfl (hb hby d6_33) rfl (l' := #[.val (.ref aa0), .val (.ref b5), .val (.int (1 : Int32))]) rfl ?_
    show Steps p.tables e below (T10.setTop (mkF m 36 #[.val (.ref aa0), .val (.ref b5), .val (.int (1 : Int32))] [])) _
    refine XS.goto X10.here hx rfl (pc0 := 36) (pc' := 16) rfl (hb hby d6_36) (by decide) (by decide) ?_
    show Steps p.tables e below (T10.setTop (mkF m 16 #[.val (.ref aa0), .val (.ref b5), .val (.int (1 : Int32))] [])) _
    refine XS.iloadN X10.here hx rfl (hb hby d6_16) rfl ?_
    show Steps p.tables e below (T10.setTop (mkF m 17 #[.val (.ref aa0), .val (.ref b5), .val (.int (1 : Int32))] [(.int (1 : Int32))])) _
    refine XS.aloadN X10.here hx rfl (hb hby d6_17) rfl rfl ?_
    show Steps p.tables e below (T10.setTop (mkF m 18 #[.val (.ref aa0), .val (.ref b5), .val (.int (1 : Int32))] [(.ref b5), (.int (1 : Int32))])) _
    refine X10.arraylength hx (by rw [e10]; exact Ar_11.1) (State.isArrayOf_alike hZ.alike Ar_11.2.1) (g := (mkF m 18 #[.val (.ref aa0), .val (.ref b5), .val (.int (1 : Int32))] [(.ref b5), (.int (1 : Int32))])) rfl rfl (hb hby d6_18) _ ?_
    rw [len_of Sz_11 Nn_11]
    show Steps p.tables e below (T10.setTop (mkF m 19 #[.val (.ref aa0), .val (.ref b5), .val (.int (1 : Int32))] [(.int (7 : Int32)), (.int (1 : Int32))])) _
    refine XS.icmpNo X10.here hx rfl (hb hby d6_19) rfl (tlt hc19_2).2.1 ?_
    show Steps p.tables e below (T10.setTop (mkF m 22 #[.val (.ref aa0), .val (.ref b5), .val (.int (1 : Int32))] [])) _
    refine XS.aloadN X10.here hx rfl (hb hby d6_22) rfl rfl ?_
    show Steps p.tables e below (T10.setTop (mkF m 23 #[.val (.ref aa0), .val (.ref b5), .val (.int (1 : Int32))] [(.ref b5)])) _
    refine XS.iloadN X10.here hx rfl (hb hby d6_23) rfl ?_
    show Steps p.tables e below (T10.setTop (mkF m 24 #[.val (.ref aa0), .val (.ref b5), .val (.int (1 : Int32))] [(.int (1 : Int32)), (.ref b5)])) _
    refine XS.aloadN X10.here hx rfl (hb hby d6_24) rfl rfl ?_
    show Steps p.tables e below (T10.setTop (mkF m 25 #[.val (.ref aa0), .val (.ref b5), .val (.int (1 : Int32))] [(.ref aa0), (.int (1 : Int32)), (.ref b5)])) _
    refine st13 _ ?_
    show Steps p.tables e below (T13.setTop (mkF m 28 #[.val (.ref aa0), .val (.ref b5), .val (.int (1 : Int32))] [(.int fi), (.int (1 : Int32)), (.ref b5)])) _
    refine XS.iconst X13.here hx rfl (hb hby d6_28) ?_
    show Steps p.tables e below (T13.setTop (mkF m 29 #[.val (.ref aa0), .val (.ref b5), .val (.int (1 : Int32))] [(.int (1 : Int32)), (.int fi), (.int (1 : Int32)), (.ref b5)])) _
    refine XS.isub X13.here hx rfl (hb hby d6_29) rfl ?_
    show Steps p.tables e below (T13.setTop (mkF m 30 #[.val (.ref aa0), .val (.ref b5), .val (.int (1 : Int32))] [(.int (fi - (1 : Int32))), (.int (1 : Int32)), (.ref b5)])) _
    refine XS.iloadN X13.here hx rfl (hb hby d6_30) rfl ?_
    show Steps p.tables e below (T13.setTop (mkF m 31 #[.val (.ref aa0), .val (.ref b5), .val (.int (1 : Int32))] [(.int (1 : Int32)), (.int (fi - (1 : Int32))), (.int (1 : Int32)), (.ref b5)])) _
    refine XS.iadd X13.here hx rfl (hb hby d6_31) rfl ?_
    show Steps p.tables e below (T13.setTop (mkF m 32 #[.val (.ref aa0), .val (.ref b5), .val (.int (1 : Int32))] [(.int ((fi - (1 : Int32)) + (1 : Int32))), (.int (1 : Int32)), (.ref b5)])) _
    refine st15 _ ?_
    show Steps p.tables e below (T15.setTop (mkF m 33 #[.val (.ref aa0), .val (.ref b5), .val (.int (1 : Int32))] [])) _
    refine XS.iinc X15.here hx rfl (hb hby d6_33) rfl (l' := #[.val (.ref aa0), .val (.ref b5), .val (.int (2 : Int32))]) rfl ?_
    show Steps p.tables e below (T15.setTop (mkF m 36 #[.val (.ref aa0), .val (.ref b5), .val (.int (2 : Int32))] [])) _
    refine XS.goto X15.here hx rfl (pc0 := 36) (pc' := 16) rfl (hb hby d6_36) (by decide) (by decide) ?_
    show Steps p.tables e below (T15.setTop (mkF m 16 #[.val (.ref aa0), .val (.ref b5), .val (.int (2 : Int32))] [])) _
    refine XS.iloadN X15.here hx rfl (hb hby d6_16) rfl ?_
    show Steps p.tables e below (T15.setTop (mkF m 17 #[.val (.ref aa0), .val (.ref b5), .val (.int (2 : Int32))] [(.int (2 : Int32))])) _
    refine XS.aloadN X15.here hx rfl (hb hby d6_17) rfl rfl ?_
    show Steps p.tables e below (T15.setTop (mkF m 18 #[.val (.ref aa0), .val (.ref b5), .val (.int (2 : Int32))] [(.ref b5), (.int (2 : Int32))])) _
    refine X15.arraylength hx (by rw [e15]; exact Ar_16.1) (State.isArrayOf_alike hZ.alike Ar_16.2.1) (g := (mkF m 18 #[.val (.ref aa0), .val (.ref b5), .val (.int (2 : Int32))] [(.ref b5), (.int (2 : Int32))])) rfl rfl (hb hby d6_18) _ ?_
    rw [len_of Sz_16 Nn_16]
    show Steps p.tables e below (T15.setTop (mkF m 19 #[.val (.ref aa0), .val (.ref b5), .val (.int (2 : Int32))] [(.int (7 : Int32)), (.int (2 : Int32))])) _
    refine XS.icmpNo X15.here hx rfl (hb hby d6_19) rfl (tlt hc19_3).2.1 ?_
    show Steps p.tables e below (T15.setTop (mkF m 22 #[.val (.ref aa0), .val (.ref b5), .val (.int (2 : Int32))] [])) _
    refine XS.aloadN X15.here hx rfl (hb hby d6_22) rfl rfl ?_
    show Steps p.tables e below (T15.setTop (mkF m 23 #[.val (.ref aa0), .val (.ref b5), .val (.int (2 : Int32))] [(.ref b5)])) _
    refine XS.iloadN X15.here hx rfl (hb hby d6_23) rfl ?_
    show Steps p.tables e below (T15.setTop (mkF m 24 #[.val (.ref aa0), .val (.ref b5), .val (.int (2 : Int32))] [(.int (2 : Int32)), (.ref b5)])) _
    refine XS.aloadN X15.here hx rfl (hb hby d6_24) rfl rfl ?_
    show Steps p.tables e below (T15.setTop (mkF m 25 #[.val (.ref aa0), .val (.ref b5), .val (.int (2 : Int32))] [(.ref aa0), (.int (2 : Int32)), (.ref b5)])) _
    refine st18 _ ?_
    show Steps p.tables e below (T18.setTop (mkF m 28 #[.val (.ref aa0), .val (.ref b5), .val (.int (2 : Int32))] [(.int fi), (.int (2 : Int32)), (.ref b5)])) _
    refine XS.iconst X18.here hx rfl (hb hby d6_28) ?_
    show Steps p.tables e below (T18.setTop (mkF m 29 #[.val (.ref aa0), .val (.ref b5), .val (.int (2 : Int32))] [(.int (1 : Int32)), (.int fi), (.int (2 : Int32)), (.ref b5)])) _
    refine XS.isub X18.here hx rfl (hb hby d6_29) rfl ?_
    show Steps p.tables e below (T18.setTop (mkF m 30 #[.val (.ref aa0), .val (.ref b5), .val (.int (2 : Int32))] [(.int (fi - (1 : Int32))), (.int (2 : Int32)), (.ref b5)])) _
    refine XS.iloadN X18.here hx rfl (hb hby d6_30) rfl ?_
    show Steps p.tables e below (T18.setTop (mkF m 31 #[.val (.ref aa0), .val (.ref b5), .val (.int (2 : Int32))] [(.int (2 : Int32)), (.int (fi - (1 : Int32))), (.int (2 : Int32)), (.ref b5)])) _
    refine XS.iadd X18.here hx rfl (hb hby d6_31) rfl ?_
    show Steps p.tables e below (T18.setTop (mkF m 32 #[.val (.ref aa0), .val (.ref b5), .val (.int (2 : Int32))] [(.int ((fi - (1 : Int32)) + (2 : Int32))), (.int (2 : Int32)), (.ref b5)])) _
    refine st20 _ ?_
    show Steps p.tables e below (T20.setTop (mkF m 33 #[.val (.ref aa0), .val (.ref b5), .val (.int (2 : Int32))] [])) _
    refine XS.iinc X20.here hx rfl (hb hby d6_33) rfl (l' := #[.val (.ref aa0), .val (.ref b5), .val (.int (3 : Int32))]) rfl ?_
    show Steps p.tables e below (T20.setTop (mkF m 36 #[.val (.ref aa0), .val (.ref b5), .val (.int (3 : Int32))] [])) _
    refine XS.goto X20.here hx rfl (pc0 := 36) (pc' := 16) rfl (hb hby d6_36) (by decide) (by decide) ?_
    show Steps p.tables e below (T20.setTop (mkF m 16 #[.val (.ref aa0), .val (.ref b5), .val (.int (3 : Int32))] [])) _
    refine XS.iloadN X20.here hx rfl (hb hby d6_16) rfl ?_
    show Steps p.tables e below (T20.setTop (mkF m 17 #[.val (.ref aa0), .val (.ref b5), .val (.int (3 : Int32))] [(.int (3 : Int32))])) _
    refine XS.aloadN X20.here hx rfl (hb hby d6_17) rfl rfl ?_
    show Steps p.tables e below (T20.setTop (mkF m 18 #[.val (.ref aa0), .val (.ref b5), .val (.int (3 : Int32))] [(.ref b5), (.int (3 : Int32))])) _
    refine X20.arraylength hx (by rw [e20]; exact Ar_21.1) (State.isArrayOf_alike hZ.alike Ar_21.2.1) (g := (mkF m 18 #[.val (.ref aa0), .val (.ref b5), .val (.int (3 : Int32))] [(.ref b5), (.int (3 : Int32))])) rfl rfl (hb hby d6_18) _ ?_
    rw [len_of Sz_21 Nn_21]
    show Steps p.tables e below (T20.setTop (mkF m 19 #[.val (.ref aa0), .val (.ref b5), .val (.int (3 : Int32))] [(.int (7 : Int32)), (.int (3 : Int32))])) _
    refine XS.icmpNo X20.here hx rfl (hb hby d6_19) rfl (tlt hc19_4).2.1 ?_
    show Steps p.tables e below (T20.setTop (mkF m 22 #[.val (.ref aa0), .val (.ref b5), .val (.int (3 : Int32))] [])) _
    refine XS.aloadN X20.here hx rfl (hb hby d6_22) rfl rfl ?_
    show Steps p.tables e below (T20.setTop (mkF m 23 #[.val (.ref aa0), .val (.ref b5), .val (.int (3 : Int32))] [(.ref b5)])) _
    refine XS.iloadN X20.here hx rfl (hb hby d6_23) rfl ?_
    show Steps p.tables e below (T20.setTop (mkF m 24 #[.val (.ref aa0), .val (.ref b5), .val (.int (3 : Int32))] [(.int (3 : Int32)), (.ref b5)])) _
    refine XS.aloadN X20.here hx rfl (hb hby d6_24) rfl rfl ?_
    show Steps p.tables e below (T20.setTop (mkF m 25 #[.val (.ref aa0), .val (.ref b5), .val (.int (3 : Int32))] [(.ref aa0), (.int (3 : Int32)), (.ref b5)])) _
    refine st23 _ ?_
    show Steps p.tables e below (T23.setTop (mkF m 28 #[.val (.ref aa0), .val (.ref b5), .val (.int (3 : Int32))] [(.int fi), (.int (3 : Int32)), (.ref b5)])) _
    refine XS.iconst X23.here hx rfl (hb hby d6_28) ?_
    show Steps p.tables e below (T23.setTop (mkF m 29 #[.val (.ref aa0), .val (.ref b5), .val (.int (3 : Int32))] [(.int (1 : Int32)), (.int fi), (.int (3 : Int32)), (.ref b5)])) _
    refine XS.isub X23.here hx rfl (hb hby d6_29) rfl ?_
    show Steps p.tables e below (T23.setTop (mkF m 30 #[.val (.ref aa0), .val (.ref b5), .val (.int (3 : Int32))] [(.int (fi - (1 : Int32))), (.int (3 : Int32)), (.ref b5)])) _
    refine XS.iloadN X23.here hx rfl (hb hby d6_30) rfl ?_
    show Steps p.tables e below (T23.setTop (mkF m 31 #[.val (.ref aa0), .val (.ref b5), .val (.int (3 : Int32))] [(.int (3 : Int32)), (.int (fi - (1 : Int32))), (.int (3 : Int32)), (.ref b5)])) _
    refine XS.iadd X23.here hx rfl (hb hby d6_31) rfl ?_
    show Steps p.tables e below (T23.setTop (mkF m 32 #[.val (.ref aa0), .val (.ref b5), .val (.int (3 : Int32))] [(.int ((fi - (1 : Int32)) + (3 : Int32))), (.int (3 : Int32)), (.ref b5)])) _
    refine st25 _ ?_
    show Steps p.tables e below (T25.setTop (mkF m 33 #[.val (.ref aa0), .val (.ref b5), .val (.int (3 : Int32))] [])) _
    refine XS.iinc X25.here hx rfl (hb hby d6_33) rfl (l' := #[.val (.ref aa0), .val (.ref b5), .val (.int (4 : Int32))]) rfl ?_
    show Steps p.tables e below (T25.setTop (mkF m 36 #[.val (.ref aa0), .val (.ref b5), .val (.int (4 : Int32))] [])) _
    refine XS.goto X25.here hx rfl (pc0 := 36) (pc' := 16) rfl (hb hby d6_36) (by decide) (by decide) ?_
    show Steps p.tables e below (T25.setTop (mkF m 16 #[.val (.ref aa0), .val (.ref b5), .val (.int (4 : Int32))] [])) _
    refine XS.iloadN X25.here hx rfl (hb hby d6_16) rfl ?_
    show Steps p.tables e below (T25.setTop (mkF m 17 #[.val (.ref aa0), .val (.ref b5), .val (.int (4 : Int32))] [(.int (4 : Int32))])) _
    refine XS.aloadN X25.here hx rfl (hb hby d6_17) rfl rfl ?_
    show Steps p.tables e below (T25.setTop (mkF m 18 #[.val (.ref aa0), .val (.ref b5), .val (.int (4 : Int32))] [(.ref b5), (.int (4 : Int32))])) _
    refine X25.arraylength hx (by rw [e25]; exact Ar_26.1) (State.isArrayOf_alike hZ.alike Ar_26.2.1) (g := (mkF m 18 #[.val (.ref aa0), .val (.ref b5), .val (.int (4 : Int32))] [(.ref b5), (.int (4 : Int32))])) rfl rfl (hb hby d6_18) _ ?_
    rw [len_of Sz_26 Nn_26]
    show Steps p.tables e below (T25.setTop (mkF m 19 #[.val (.ref aa0), .val (.ref b5), .val (.int (4 : Int32))] [(.int (7 : Int32)), (.int (4 : Int32))])) _
    refine XS.icmpNo X25.here hx rfl (hb hby d6_19) rfl (tlt hc19_5).2.1 ?_
    show Steps p.tables e below (T25.setTop (mkF m 22 #[.val (.ref aa0), .val (.ref b5), .val (.int (4 : Int32))] [])) _
    refine XS.aloadN X25.here hx rfl (hb hby d6_22) rfl rfl ?_
    show Steps p.tables e below (T25.setTop (mkF m 23 #[.val (.ref aa0), .val (.ref b5), .val (.int (4 : Int32))] [(.ref b5)])) _
    refine XS.iloadN X25.here hx rfl (hb hby d6_23) rfl ?_
    show Steps p.tables e below (T25.setTop (mkF m 24 #[.val (.ref aa0), .val (.ref b5), .val (.int (4 : Int32))] [(.int (4 : Int32)), (.ref b5)])) _
    refine XS.aloadN X25.here hx rfl (hb hby d6_24) rfl rfl ?_
    show Steps p.tables e below (T25.setTop (mkF m 25 #[.val (.ref aa0), .val (.ref b5), .val (.int (4 : Int32))] [(.ref aa0), (.int (4 : Int32)), (.ref b5)])) _
    refine st28 _ ?_
    show Steps p.tables e below (T28.setTop (mkF m 28 #[.val (.ref aa0), .val (.ref b5), .val (.int (4 : Int32))] [(.int fi), (.int (4 : Int32)), (.ref b5)])) _
    refine XS.iconst X28.here hx rfl (hb hby d6_28) ?_
    show Steps p.tables e below (T28.setTop (mkF m 29 #[.val (.ref aa0), .val (.ref b5), .val (.int (4 : Int32))] [(.int (1 : Int32)), (.int fi), (.int (4 : Int32)), (.ref b5)])) _
    refine XS.isub X28.here hx rfl (hb hby d6_29) rfl ?_
    show Steps p.tables e below (T28.setTop (mkF m 30 #[.val (.ref aa0), .val (.ref b5), .val (.int (4 : Int32))] [(.int (fi - (1 : Int32))), (.int (4 : Int32)), (.ref b5)])) _
    refine XS.iloadN X28.here hx rfl (hb hby d6_30) rfl ?_
    show Steps p.tables e below (T28.setTop (mkF m 31 #[.val (.ref aa0), .val (.ref b5), .val (.int (4 : Int32))] [(.int (4 : Int32)), (.int (fi - (1 : Int32))), (.int (4 : Int32)), (.ref b5)])) _
    refine XS.iadd X28.here hx rfl (hb hby d6_31) rfl ?_
    show Steps p.tables e below (T28.setTop (mkF m 32 #[.val (.ref aa0), .val (.ref b5), .val (.int (4 : Int32))] [(.int ((fi - (1 : Int32)) + (4 : Int32))), (.int (4 : Int32)), (.ref b5)])) _
    refine st30 _ ?_
    show Steps p.tables e below (T30.setTop (mkF m 33 #[.val (.ref aa0), .val (.ref b5), .val (.int (4 : Int32))] [])) _
    refine XS.iinc X30.here hx rfl (hb hby d6_33) rfl (l' := #[.val (.ref aa0), .val (.ref b5), .val (.int (5 : Int32))]) rfl ?_
    show Steps p.tables e below (T30.setTop (mkF m 36 #[.val (.ref aa0), .val (.ref b5), .val (.int (5 : Int32))] [])) _
    refine XS.goto X30.here hx rfl (pc0 := 36) (pc' := 16) rfl (hb hby d6_36) (by decide) (by decide) ?_
    show Steps p.tables e below (T30.setTop (mkF m 16 #[.val (.ref aa0), .val (.ref b5), .val (.int (5 : Int32))] [])) _
    refine XS.iloadN X30.here hx rfl (hb hby d6_16) rfl ?_
    show Steps p.tables e below (T30.setTop (mkF m 17 #[.val (.ref aa0), .val (.ref b5), .val (.int (5 : Int32))] [(.int (5 : Int32))])) _
    refine XS.aloadN X30.here hx rfl (hb hby d6_17) rfl rfl ?_
    show Steps p.tables e below (T30.setTop (mkF m 18 #[.val (.ref aa0), .val (.ref b5), .val (.int (5 : Int32))] [(.ref b5), (.int (5 : Int32))])) _
    refine X30.arraylength hx (by rw [e30]; exact Ar_31.1) (State.isArrayOf_alike hZ.alike Ar_31.2.1) (g := (mkF m 18 #[.val (.ref aa0), .val (.ref b5), .val (.int (5 : Int32))] [(.ref b5), (.int (5 : Int32))])) rfl rfl (hb hby d6_18) _ ?_
    rw [len_of Sz_31 Nn_31]
    show Steps p.tables e below (T30.setTop (mkF m 19 #[.val (.ref aa0), .val (.ref b5), .val (.int (5 : Int32))] [(.int (7 : Int32)), (.int (5 : Int32))])) _
    refine XS.icmpNo X30.here hx rfl (hb hby d6_19) rfl (tlt hc19_6).2.1 ?_
    show Steps p.tables e below (T30.setTop (mkF m 22 #[.val (.ref aa0), .val (.ref b5), .val (.int (5 : Int32))] [])) _
    refine XS.aloadN X30.here hx rfl (hb hby d6_22) rfl rfl ?_
    show Steps p.tables e below (T30.setTop (mkF m 23 #[.val (.ref aa0), .val (.ref b5), .val (.int (5 : Int32))] [(.ref b5)])) _
    refine XS.iloadN X30.here hx rfl (hb hby d6_23) rfl ?_
    show Steps p.tables e below (T30.setTop (mkF m 24 #[.val (.ref aa0), .val (.ref b5), .val (.int (5 : Int32))] [(.int (5 : Int32)), (.ref b5)])) _
    refine XS.aloadN X30.here hx rfl (hb hby d6_24) rfl rfl ?_
    show Steps p.tables e below (T30.setTop (mkF m 25 #[.val (.ref aa0), .val (.ref b5), .val (.int (5 : Int32))] [(.ref aa0), (.int (5 : Int32)), (.ref b5)])) _
    refine st33 _ ?_
    show Steps p.tables e below (T33.setTop (mkF m 28 #[.val (.ref aa0), .val (.ref b5), .val (.int (5 : Int32))] [(.int fi), (.int (5 : Int32)), (.ref b5)])) _
    refine XS.iconst X33.here hx rfl (hb hby d6_28) ?_
    show Steps p.tables e below (T33.setTop (mkF m 29 #[.val (.ref aa0), .val (.ref b5), .val (.int (5 : Int32))] [(.int (1 : Int32)), (.int fi), (.int (5 : Int32)), (.ref b5)])) _
    refine XS.isub X33.here hx rfl (hb hby d6_29) rfl ?_
    show Steps p.tables e below (T33.setTop (mkF m 30 #[.val (.ref aa0), .val (.ref b5), .val (.int (5 : Int32))] [(.int (fi - (1 : Int32))), (.int (5 : Int32)), (.ref b5)])) _
    refine XS.iloadN X33.here hx rfl (hb hby d6_30) rfl ?_
    show Steps p.tables e below (T33.setTop (mkF m 31 #[.val (.ref aa0), .val (.ref b5), .val (.int (5 : Int32))] [(.int (5 : Int32)), (.int (fi - (1 : Int32))), (.int (5 : Int32)), (.ref b5)])) _
    refine XS.iadd X33.here hx rfl (hb hby d6_31) rfl ?_
    show Steps p.tables e below (T33.setTop (mkF m 32 #[.val (.ref aa0), .val (.ref b5), .val (.int (5 : Int32))] [(.int ((fi - (1 : Int32)) + (5 : Int32))), (.int (5 : Int32)), (.ref b5)])) _
    refine st35 _ ?_
    show Steps p.tables e below (T35.setTop (mkF m 33 #[.val (.ref aa0), .val (.ref b5), .val (.int (5 : Int32))] [])) _
    refine XS.iinc X35.here hx rfl (hb hby d6_33) rfl (l' := #[.val (.ref aa0), .val (.ref b5), .val (.int (6 : Int32))]) rfl ?_
    show Steps p.tables e below (T35.setTop (mkF m 36 #[.val (.ref aa0), .val (.ref b5), .val (.int (6 : Int32))] [])) _
    refine XS.goto X35.here hx rfl (pc0 := 36) (pc' := 16) rfl (hb hby d6_36) (by decide) (by decide) ?_
    show Steps p.tables e below (T35.setTop (mkF m 16 #[.val (.ref aa0), .val (.ref b5), .val (.int (6 : Int32))] [])) _
    refine XS.iloadN X35.here hx rfl (hb hby d6_16) rfl ?_
    show Steps p.tables e below (T35.setTop (mkF m 17 #[.val (.ref aa0), .val (.ref b5), .val (.int (6 : Int32))] [(.int (6 : Int32))])) _
    refine XS.aloadN X35.here hx rfl (hb hby d6_17) rfl rfl ?_
    show Steps p.tables e below (T35.setTop (mkF m 18 #[.val (.ref aa0), .val (.ref b5), .val (.int (6 : Int32))] [(.ref b5), (.int (6 : Int32))])) _
    refine X35.arraylength hx (by rw [e35]; exact Ar_36.1) (State.isArrayOf_alike hZ.alike Ar_36.2.1) (g := (mkF m 18 #[.val (.ref aa0), .val (.ref b5), .val (.int (6 : Int32))] [(.ref b5), (.int (6 : Int32))])) rfl rfl (hb hby d6_18) _ ?_
    rw [len_of Sz_36 Nn_36]
    show Steps p.tables e below (T35.setTop (mkF m 19 #[.val (.ref aa0), .val (.ref b5), .val (.int (6 : Int32))] [(.int (7 : Int32)), (.int (6 : Int32))])) _
    refine XS.icmpNo X35.here hx rfl (hb hby d6_19) rfl (tlt hc19_7).2.1 ?_
    show Steps p.tables e below (T35.setTop (mkF m 22 #[.val (.ref aa0), .val (.ref b5), .val (.int (6 : Int32))] [])) _
    refine XS.aloadN X35.here hx rfl (hb hby d6_22) rfl rfl ?_
    show Steps p.tables e below (T35.setTop (mkF m 23 #[.val (.ref aa0), .val (.ref b5), .val (.int (6 : Int32))] [(.ref b5)])) _
    refine XS.iloadN X35.here hx rfl (hb hby d6_23) rfl ?_
    show Steps p.tables e below (T35.setTop (mkF m 24 #[.val (.ref aa0), .val (.ref b5), .val (.int (6 : Int32))] [(.int (6 : Int32)), (.ref b5)])) _
    refine XS.aloadN X35.here hx rfl (hb hby d6_24) rfl rfl ?_
    show Steps p.tables e below (T35.setTop (mkF m 25 #[.val (.ref aa0), .val (.ref b5), .val (.int (6 : Int32))] [(.ref aa0), (.int (6 : Int32)), (.ref b5)])) _
    refine st38 _ ?_
    show Steps p.tables e below (T38.setTop (mkF m 28 #[.val (.ref aa0), .val (.ref b5), .val (.int (6 : Int32))] [(.int fi), (.int (6 : Int32)), (.ref b5)])) _
    refine XS.iconst X38.here hx rfl (hb hby d6_28) ?_
    show Steps p.tables e below (T38.setTop (mkF m 29 #[.val (.ref aa0), .val (.ref b5), .val (.int (6 : Int32))] [(.int (1 : Int32)), (.int fi), (.int (6 : Int32)), (.ref b5)])) _
    refine XS.isub X38.here hx rfl (hb hby d6_29) rfl ?_
    show Steps p.tables e below (T38.setTop (mkF m 30 #[.val (.ref aa0), .val (.ref b5), .val (.int (6 : Int32))] [(.int (fi - (1 : Int32))), (.int (6 : Int32)), (.ref b5)])) _
    refine XS.iloadN X38.here hx rfl (hb hby d6_30) rfl ?_
    show Steps p.tables e below (T38.setTop (mkF m 31 #[.val (.ref aa0), .val (.ref b5), .val (.int (6 : Int32))] [(.int (6 : Int32)), (.int (fi - (1 : Int32))), (.int (6 : Int32)), (.ref b5)])) _
    refine XS.iadd X38.here hx rfl (hb hby d6_31) rfl ?_
    show Steps p.tables e below (T38.setTop (mkF m 32 #[.val (.ref aa0), .val (.ref b5), .val (.int (6 : Int32))] [(.int ((fi - (1 : Int32)) + (6 : Int32))), (.int (6 : Int32)), (.ref b5)])) _
    refine st40 _ ?_
    show Steps p.tables e below (T40.setTop (mkF m 33 #[.val (.ref aa0), .val (.ref b5), .val (.int (6 : Int32))] [])) _
    refine XS.iinc X40.here hx rfl (hb hby d6_33) rfl (l' := #[.val (.ref aa0), .val (.ref b5), .val (.int (7 : Int32))]) rfl ?_
    show Steps p.tables e below (T40.setTop (mkF m 36 #[.val (.ref aa0), .val (.ref b5), .val (.int (7 : Int32))] [])) _
    refine XS.goto X40.here hx rfl (pc0 := 36) (pc' := 16) rfl (hb hby d6_36) (by decide) (by decide) ?_
    show Steps p.tables e below (T40.setTop (mkF m 16 #[.val (.ref aa0), .val (.ref b5), .val (.int (7 : Int32))] [])) _
    refine XS.iloadN X40.here hx rfl (hb hby d6_16) rfl ?_
    show Steps p.tables e below (T40.setTop (mkF m 17 #[.val (.ref aa0), .val (.ref b5), .val (.int (7 : Int32))] [(.int (7 : Int32))])) _
    refine XS.aloadN X40.here hx rfl (hb hby d6_17) rfl rfl ?_
    show Steps p.tables e below (T40.setTop (mkF m 18 #[.val (.ref aa0), .val (.ref b5), .val (.int (7 : Int32))] [(.ref b5), (.int (7 : Int32))])) _
    refine X40.arraylength hx (by rw [e40]; exact Ar_41.1) (State.isArrayOf_alike hZ.alike Ar_41.2.1) (g := (mkF m 18 #[.val (.ref aa0), .val (.ref b5), .val (.int (7 : Int32))] [(.ref b5), (.int (7 : Int32))])) rfl rfl (hb hby d6_18) _ ?_
    rw [len_of Sz_41 Nn_41]
    show Steps p.tables e below (T40.setTop (mkF m 19 #[.val (.ref aa0), .val (.ref b5), .val (.int (7 : Int32))] [(.int (7 : Int32)), (.int (7 : Int32))])) _
    refine XS.icmpYes X40.here hx rfl (pc0 := 19) (pc' := 39) rfl (hb hby d6_19) rfl (flt hc19_8).2.1 (by decide) (by decide) ?_
    show Steps p.tables e below (T40.setTop (mkF m 39 #[.val (.ref aa0), .val (.ref b5), .val (.int (7 : Int32))] [])) _
    refine XS.aloadN X40.here hx rfl (hb hby d6_39) rfl rfl ?_
    show Steps p.tables e below (T40.setTop (mkF m 40 #[.val (.ref aa0), .val (.ref b5), .val (.int (7 : Int32))] [(.ref b5)])) _
    jvm_step X40.here [X40.here.top, hx, (hb hby d6_40), X40.method', Bd.returns, Value.isRef, FieldType.isReference]
    first | (intro acts; rw [hr _ acts rfl rfl rfl]) | rw [hr _ _ rfl rfl rfl]
    exact Steps.refl _
  · show Q6_7 Z aa0 fi la h0 n0 _ T40.heap _
    rw [e40]
    exact ⟨b5, k5, rfl, N40, K40, g_b5, sz_b5, V40⟩
theorem ef_6_8 (m : MethodId) (x0 : Addr) : entryFrame m #[(.ref x0)] 3 = mkF m 0 #[.val (.ref x0), .unset, .unset] [] := by first | (simp [entryFrame, mkF, argsToLocals, Value.category]; done) | rfl
def Q6_8 (Z : State) (aa0 : Addr) (fi : Int32) (la : Int32) (h0 : Heap) (n0 : Nat) (v : Option Value) (h : Heap) (L : List Loc) : Prop := ∃ (bx : Addr), ∃ (kx : ClassId), v = some (.ref bx) ∧ Fr n0 L ∧ Keep h0 h [] ∧ n0 ≤ bx ∧ h0.size ≤ bx ∧ (Arv Z h bx kx .int (8 : Int32) [(.int ((fi - (1 : Int32)) + (0 : Int32))), (.int ((fi - (1 : Int32)) + (1 : Int32))), (.int ((fi - (1 : Int32)) + (2 : Int32))), (.int ((fi - (1 : Int32)) + (3 : Int32))), (.int ((fi - (1 : Int32)) + (4 : Int32))), (.int ((fi - (1 : Int32)) + (5 : Int32))), (.int ((fi - (1 : Int32)) + (6 : Int32))), (.int ((fi - (1 : Int32)) + (7 : Int32)))] (.int (0 : Int32)))
set_option maxRecDepth 65536 in
set_option maxHeartbeats 40000000 in
theorem rm6_8 (l : Launch) (Z : State) (a0 : Array Value) (hw : ∀ d ∈ tables_1, d.before a0 Z = true) (ws : List Jvm.Cond) (aa0 : Addr) (fi : Int32) (la : Int32) (h0 : Heap) (n0 : Nat) (Z0 : n0 ≤ h0.size) (F_aa0_first : Fld Z h0 aa0 "com/example/escapement/escapement/cli/PartitionTable$Partition" "first" "I" (.int fi)) (F_aa0_last : Fld Z h0 aa0 "com/example/escapement/escapement/cli/PartitionTable$Partition" "last" "I" (.int la)) (hlen : ((la - fi) + (1 : Int32)) = (8 : Int32)) :
    MetFree l (⟨"com/example/escapement/escapement/cli/PartitionTable$Partition", "sites", "()[I"⟩ : MethodName) (head1 (Jvm.Cond.code (⟨"com/example/escapement/escapement/cli/PartitionTable$Partition", "sites", "()[I"⟩ : MethodName) prog_14_method_2_code 3 (some (.array .int)) :: ws) ({ frames := 0, cells := 1, slots := 8, locals := 0 } : Room)) (fun a U => a = #[(.ref aa0)] ∧ Z.Warmed39 U.vm ∧ U.heap = h0) (fun _ _ _ _ _ => True) (fun _ U o U' => ∃ v L, o = .returned v ∧ Q6_8 Z aa0 fi la h0 n0 v U'.heap L ∧ FrameEnd U o U' L ({ frames := 0, cells := 1, slots := 8, locals := 0 } : Room).cells ({ frames := 0, cells := 1, slots := 8, locals := 0 } : Room).slots) := by
  refine MetFree.of_bodySF (plainFor_of_name pn_com_example_escapement_escapement_cli_PartitionTable_Partition) hisR ?_
  intro p e s m args below meth c s₁ Bd hml0 hP hK
  obtain ⟨rfl, hZ, hh⟩ := hP
  have hx := Bd.exec
  have hby := Bd.bytes
  have hml : c.maxLocals = 3 := hml0
  have hown : s.vm.findClass "com/example/escapement/escapement/cli/PartitionTable$Partition" = some m.cls := findClass_of_methodNamed Bd.named
  have hnm := (name_of_methodNamed Bd.named Bd.method).1
  have X0 : Stand p l e ({ frames := 0, cells := 1, slots := 8, locals := 0 } : Room) s m #[(.ref aa0)] below meth c s₁ [] 0 0 := Stand.of_body Bd
  have e0 : s₁.heap = h0 := by rw [← hh, Bd.state]; rfl
  have N0 := Fr.nil n0
  have pre0 : ∀ t, Steps p.tables e below (s₁.setTop (mkF m 0 #[.val (.ref aa0), .unset, .unset] [])) t → Steps p.tables e below (s₁.setTop (entryFrame m #[(.ref aa0)] 3)) t := fun t k => castTop (ef_6_8 m aa0) k
  obtain ⟨T1, X1, e1, st1⟩ := getF X0 hx hZ hown (host := "") (Or.inl (hw _ (List.mem_of_getElem? (i := 34) rfl))) Via.refl e0 F_aa0_last (g := (mkF m 1 #[.val (.ref aa0), .unset, .unset] [(.ref aa0)])) rfl rfl (hb hby d6_1)
  obtain ⟨T2, X2, e2, st2⟩ := getF X1 hx hZ hown (host := "") (Or.inl (hw _ (List.mem_of_getElem? (i := 32) rfl))) Via.refl e1 F_aa0_first (g := (mkF m 5 #[.val (.ref aa0), .unset, .unset] [(.ref aa0), (.int la)])) rfl rfl (hb hby d6_5)
  have pre3 : ∀ t, Steps p.tables e below (T2.setTop (mkF m 11 #[.val (.ref aa0), .unset, .unset] [(.int ((la - fi) + (1 : Int32)))])) t → Steps p.tables e below (s₁.setTop (entryFrame m #[(.ref aa0)] 3)) t := fun t kt => pre0 t (by
    show Steps p.tables e below (s₁.setTop (mkF m 0 #[.val (.ref aa0), .unset, .unset] [])) _
    refine XS.aloadN X0.here hx rfl (hb hby d6_0) rfl rfl ?_
    show Steps p.tables e below (s₁.setTop (mkF m 1 #[.val (.ref aa0), .unset, .unset] [(.ref aa0)])) _
    refine st1 _ ?_
    show Steps p.tables e below (T1.setTop (mkF m 4 #[.val (.ref aa0), .unset, .unset] [(.int la)])) _
    refine XS.aloadN X1.here hx rfl (hb hby d6_4) rfl rfl ?_
    show Steps p.tables e below (T1.setTop (mkF m 5 #[.val (.ref aa0), .unset, .unset] [(.ref aa0), (.int la)])) _
    refine st2 _ ?_
    show Steps p.tables e below (T2.setTop (mkF m 8 #[.val (.ref aa0), .unset, .unset] [(.int fi), (.int la)])) _
    refine XS.isub X2.here hx rfl (hb hby d6_8) rfl ?_
    show Steps p.tables e below (T2.setTop (mkF m 9 #[.val (.ref aa0), .unset, .unset] [(.int (la - fi))])) _
    refine XS.iconst X2.here hx rfl (hb hby d6_9) ?_
    show Steps p.tables e below (T2.setTop (mkF m 10 #[.val (.ref aa0), .unset, .unset] [(.int (1 : Int32)), (.int (la - fi))])) _
    refine XS.iadd X2.here hx rfl (hb hby d6_10) rfl ?_
    exact kt)
  obtain ⟨nn, h_nn, pre4⟩ : ∃ (nn : Int32), (nn = (8 : Int32)) ∧ ∀ t, Steps p.tables e below (T2.setTop (mkF m 11 #[.val (.ref aa0), .unset, .unset] [(.int nn)])) t → Steps p.tables e below (s₁.setTop (entryFrame m #[(.ref aa0)] 3)) t := ⟨((la - fi) + (1 : Int32)), hlen, pre3⟩
  subst h_nn
  obtain ⟨T5, h5, k5, X5, e5, E5, A5, st5⟩ := newP X2 hx hZ (hw _ (List.mem_of_getElem? (i := 41) rfl)) e2 (g := (mkF m 11 #[.val (.ref aa0), .unset, .unset] [(.int (8 : Int32))])) rfl (hb hby d6_11) rfl (by decide) (cap := 8) (by decide) (by decide) (by decide) (by decide)
  obtain ⟨b5, g5⟩ : ∃ z, z = h0.size := ⟨_, rfl⟩
  rw [← g5] at A5 st5
  have g_b5 : n0 ≤ b5 := Nat.le_trans Z0 (Nat.le_of_eq g5.symm)
  have sz_b5 : h0.size ≤ b5 := Nat.le_trans (Keep.refl h0 []).1 (Nat.le_of_eq g5.symm)
  have Z5 : n0 ≤ h5.size := Nat.le_trans Z0 E5.1
  have K5 : Keep h0 h5 [] := (Keep.refl h0 []).ext E5
  have V5 : Arv Z h5 b5 k5 .int (8 : Int32) [(.int (0 : Int32)), (.int (0 : Int32)), (.int (0 : Int32)), (.int (0 : Int32)), (.int (0 : Int32)), (.int (0 : Int32)), (.int (0 : Int32)), (.int (0 : Int32))] (.int (0 : Int32)) := (Arv.new A5 (by decide)).pad (pad_rep [] (.int (0 : Int32)) 8)
  obtain ⟨cl_6, Ar_6, -, Sz_6, Nn_6, -, -⟩ := id V5
  have hc19 : (0 : Int32) < (8 : Int32) := by decide
  have F_7 : Fld Z h5 aa0 "com/example/escapement/escapement/cli/PartitionTable$Partition" "first" "I" (.int fi) := (F_aa0_first.ext E5)
  obtain ⟨T8, X8, e8, st8⟩ := getF X5 hx hZ hown (host := "") (Or.inl (hw _ (List.mem_of_getElem? (i := 32) rfl))) Via.refl e5 F_7 (g := (mkF m 25 #[.val (.ref aa0), .val (.ref b5), .val (.int (0 : Int32))] [(.ref aa0), (.int (0 : Int32)), (.ref b5)])) rfl rfl (hb hby d6_25)
  obtain ⟨cl_9, Ar_9, qq_9, Sz_9, Nn_9, Hh_9, Gg_9⟩ := id V5
  have hin_9 : ¬ ((0 : Int32) < 0 ∨ cl_9.slots.size ≤ ((0 : Int32)).toNatClampNeg) := inb_of Sz_9 ⟨by decide, by decide⟩
  obtain ⟨T10, h10, X10, e10, W10, st10⟩ := stI X8 hx hZ e8 Ar_9 (j := (0 : Int32)) hin_9 (g := (mkF m 32 #[.val (.ref aa0), .val (.ref b5), .val (.int (0 : Int32))] [(.int ((fi - (1 : Int32)) + (0 : Int32))), (.int (0 : Int32)), (.ref b5)])) rfl rfl (hb hby d6_32)
  have N10 := Fr.snoc X10 N0 g_b5
  have Z10 : n0 ≤ h10.size := Nat.le_trans Z5 (Keep.of_wr W10).1
  have K10 : Keep h0 h10 [] := K5.wr W10 (Or.inr sz_b5)
  have V10 : Arv Z h10 b5 k5 .int (8 : Int32) [(.int ((fi - (1 : Int32)) + (0 : Int32))), (.int (0 : Int32)), (.int (0 : Int32)), (.int (0 : Int32)), (.int (0 : Int32)), (.int (0 : Int32)), (.int (0 : Int32)), (.int (0 : Int32))] (.int (0 : Int32)) := Arv.set Ar_9 qq_9 Sz_9 Nn_9 Hh_9 Gg_9 rfl W10 0 rfl (Nat.le_of_ble_eq_true rfl)
  obtain ⟨cl_11, Ar_11, -, Sz_11, Nn_11, -, -⟩ := id V10
  have hc19_2 : (1 : Int32) < (8 : Int32) := by decide
  have F_12 : Fld Z h10 aa0 "com/example/escapement/escapement/cli/PartitionTable$Partition" "first" "I" (.int fi) := (F_7.other W10 (Or.inl (Nat.ne_of_lt (Nat.lt_of_lt_of_le F_aa0_first.lt (Nat.le_of_eq g5.symm)))))
  obtain ⟨T13, X13, e13, st13⟩ := getF X10 hx hZ hown (host := "") (Or.inl (hw _ (List.mem_of_getElem? (i := 32) rfl))) Via.refl e10 F_12 (g := (mkF m 25 #[.val (.ref aa0), .val (.ref b5), .val (.int (1 : Int32))] [(.ref aa0), (.int (1 : Int32)), (.ref b5)])) rfl rfl (hb hby d6_25)
  obtain ⟨cl_14, Ar_14, qq_14, Sz_14, Nn_14, Hh_14, Gg_14⟩ := id V10
  have hin_14 : ¬ ((1 : Int32) < 0 ∨ cl_14.slots.size ≤ ((1 : Int32)).toNatClampNeg) := inb_of Sz_14 ⟨by decide, by decide⟩
  obtain ⟨T15, h15, X15, e15, W15, st15⟩ := stI X13 hx hZ e13 Ar_14 (j := (1 : Int32)) hin_14 (g := (mkF m 32 #[.val (.ref aa0), .val (.ref b5), .val (.int (1 : Int32))] [(.int ((fi - (1 : Int32)) + (1 : Int32))), (.int (1 : Int32)), (.ref b5)])) rfl rfl (hb hby d6_32)
  have N15 := Fr.snoc X15 N10 g_b5
  have Z15 : n0 ≤ h15.size := Nat.le_trans Z10 (Keep.of_wr W15).1
  have K15 : Keep h0 h15 [] := K10.wr W15 (Or.inr sz_b5)
  have V15 : Arv Z h15 b5 k5 .int (8 : Int32) [(.int ((fi - (1 : Int32)) + (0 : Int32))), (.int ((fi - (1 : Int32)) + (1 : Int32))), (.int (0 : Int32)), (.int (0 : Int32)), (.int (0 : Int32)), (.int (0 : Int32)), (.int (0 : Int32)), (.int (0 : Int32))] (.int (0 : Int32)) := Arv.set Ar_14 qq_14 Sz_14 Nn_14 Hh_14 Gg_14 rfl W15 1 rfl (Nat.le_of_ble_eq_true rfl)
  obtain ⟨cl_16, Ar_16, -, Sz_16, Nn_16, -, -⟩ := id V15
  have hc19_3 : (2 : Int32) < (8 : Int32) := by decide
  have F_17 : Fld Z h15 aa0 "com/example/escapement/escapement/cli/PartitionTable$Partition" "first" "I" (.int fi) := (F_12.other W15 (Or.inl (Nat.ne_of_lt (Nat.lt_of_lt_of_le F_aa0_first.lt (Nat.le_of_eq g5.symm)))))
  obtain ⟨T18, X18, e18, st18⟩ := getF X15 hx hZ hown (host := "") (Or.inl (hw _ (List.mem_of_getElem? (i := 32) rfl))) Via.refl e15 F_17 (g := (mkF m 25 #[.val (.ref aa0), .val (.ref b5), .val (.int (2 : Int32))] [(.ref aa0), (.int (2 : Int32)), (.ref b5)])) rfl rfl (hb hby d6_25)
  obtain ⟨cl_19, Ar_19, qq_19, Sz_19, Nn_19, Hh_19, Gg_19⟩ := id V15
  have hin_19 : ¬ ((2 : Int32) < 0 ∨ cl_19.slots.size ≤ ((2 : Int32)).toNatClampNeg) := inb_of Sz_19 ⟨by decide, by decide⟩
  obtain ⟨T20, h20, X20, e20, W20, st20⟩ := stI X18 hx hZ e18 Ar_19 (j := (2 : Int32)) hin_19 (g := (mkF m 32 #[.val (.ref aa0), .val (.ref b5), .val (.int (2 : Int32))] [(.int ((fi - (1 : Int32)) + (2 : Int32))), (.int (2 : Int32)), (.ref b5)])) rfl rfl (hb hby d6_32)
  have N20 := Fr.snoc X20 N15 g_b5
  have Z20 : n0 ≤ h20.size := Nat.le_trans Z15 (Keep.of_wr W20).1
  have K20 : Keep h0 h20 [] := K15.wr W20 (Or.inr sz_b5)
  have V20 : Arv Z h20 b5 k5 .int (8 : Int32) [(.int ((fi - (1 : Int32)) + (0 : Int32))), (.int ((fi - (1 : Int32)) + (1 : Int32))), (.int ((fi - (1 : Int32)) + (2 : Int32))), (.int (0 : Int32)), (.int (0 : Int32)), (.int (0 : Int32)), (.int (0 : Int32)), (.int (0 : Int32))] (.int (0 : Int32)) := Arv.set Ar_19 qq_19 Sz_19 Nn_19 Hh_19 Gg_19 rfl W20 2 rfl (Nat.le_of_ble_eq_true rfl)
  obtain ⟨cl_21, Ar_21, -, Sz_21, Nn_21, -, -⟩ := id V20
  have hc19_4 : (3 : Int32) < (8 : Int32) := by decide
  have F_22 : Fld Z h20 aa0 "com/example/escapement/escapement/cli/PartitionTable$Partition" "first" "I" (.int fi) := (F_17.other W20 (Or.inl (Nat.ne_of_lt (Nat.lt_of_lt_of_le F_aa0_first.lt (Nat.le_of_eq g5.symm)))))
  obtain ⟨T23, X23, e23, st23⟩ := getF X20 hx hZ hown (host := "") (Or.inl (hw _ (List.mem_of_getElem? (i := 32) rfl))) Via.refl e20 F_22 (g := (mkF m 25 #[.val (.ref aa0), .val (.ref b5), .val (.int (3 : Int32))] [(.ref aa0), (.int (3 : Int32)), (.ref b5)])) rfl rfl (hb hby d6_25)
  obtain ⟨cl_24, Ar_24, qq_24, Sz_24, Nn_24, Hh_24, Gg_24⟩ := id V20
  have hin_24 : ¬ ((3 : Int32) < 0 ∨ cl_24.slots.size ≤ ((3 : Int32)).toNatClampNeg) := inb_of Sz_24 ⟨by decide, by decide⟩
  obtain ⟨T25, h25, X25, e25, W25, st25⟩ := stI X23 hx hZ e23 Ar_24 (j := (3 : Int32)) hin_24 (g := (mkF m 32 #[.val (.ref aa0), .val (.ref b5), .val (.int (3 : Int32))] [(.int ((fi - (1 : Int32)) + (3 : Int32))), (.int (3 : Int32)), (.ref b5)])) rfl rfl (hb hby d6_32)
  have N25 := Fr.snoc X25 N20 g_b5
  have Z25 : n0 ≤ h25.size := Nat.le_trans Z20 (Keep.of_wr W25).1
  have K25 : Keep h0 h25 [] := K20.wr W25 (Or.inr sz_b5)
  have V25 : Arv Z h25 b5 k5 .int (8 : Int32) [(.int ((fi - (1 : Int32)) + (0 : Int32))), (.int ((fi - (1 : Int32)) + (1 : Int32))), (.int ((fi - (1 : Int32)) + (2 : Int32))), (.int ((fi - (1 : Int32)) + (3 : Int32))), (.int (0 : Int32)), (.int (0 : Int32)), (.int (0 : Int32)), (.int (0 : Int32))] (.int (0 : Int32)) := Arv.set Ar_24 qq_24 Sz_24 Nn_24 Hh_24 Gg_24 rfl W25 3 rfl (Nat.le_of_ble_eq_true rfl)
  obtain ⟨cl_26, Ar_26, -, Sz_26, Nn_26, -, -⟩ := id V25
  have hc19_5 : (4 : Int32) < (8 : Int32) := by decide
  have F_27 : Fld Z h25 aa0 "com/example/escapement/escapement/cli/PartitionTable$Partition" "first" "I" (.int fi) := (F_22.other W25 (Or.inl (Nat.ne_of_lt (Nat.lt_of_lt_of_le F_aa0_first.lt (Nat.le_of_eq g5.symm)))))
  obtain ⟨T28, X28, e28, st28⟩ := getF X25 hx hZ hown (host := "") (Or.inl (hw _ (List.mem_of_getElem? (i := 32) rfl))) Via.refl e25 F_27 (g := (mkF m 25 #[.val (.ref aa0), .val (.ref b5), .val (.int (4 : Int32))] [(.ref aa0), (.int (4 : Int32)), (.ref b5)])) rfl rfl (hb hby d6_25)
  obtain ⟨cl_29, Ar_29, qq_29, Sz_29, Nn_29, Hh_29, Gg_29⟩ := id V25
  have hin_29 : ¬ ((4 : Int32) < 0 ∨ cl_29.slots.size ≤ ((4 : Int32)).toNatClampNeg) := inb_of Sz_29 ⟨by decide, by decide⟩
  obtain ⟨T30, h30, X30, e30, W30, st30⟩ := stI X28 hx hZ e28 Ar_29 (j := (4 : Int32)) hin_29 (g := (mkF m 32 #[.val (.ref aa0), .val (.ref b5), .val (.int (4 : Int32))] [(.int ((fi - (1 : Int32)) + (4 : Int32))), (.int (4 : Int32)), (.ref b5)])) rfl rfl (hb hby d6_32)
  have N30 := Fr.snoc X30 N25 g_b5
  have Z30 : n0 ≤ h30.size := Nat.le_trans Z25 (Keep.of_wr W30).1
  have K30 : Keep h0 h30 [] := K25.wr W30 (Or.inr sz_b5)
  have V30 : Arv Z h30 b5 k5 .int (8 : Int32) [(.int ((fi - (1 : Int32)) + (0 : Int32))), (.int ((fi - (1 : Int32)) + (1 : Int32))), (.int ((fi - (1 : Int32)) + (2 : Int32))), (.int ((fi - (1 : Int32)) + (3 : Int32))), (.int ((fi - (1 : Int32)) + (4 : Int32))), (.int (0 : Int32)), (.int (0 : Int32)), (.int (0 : Int32))] (.int (0 : Int32)) := Arv.set Ar_29 qq_29 Sz_29 Nn_29 Hh_29 Gg_29 rfl W30 4 rfl (Nat.le_of_ble_eq_true rfl)
  obtain ⟨cl_31, Ar_31, -, Sz_31, Nn_31, -, -⟩ := id V30
  have hc19_6 : (5 : Int32) < (8 : Int32) := by decide
  have F_32 : Fld Z h30 aa0 "com/example/escapement/escapement/cli/PartitionTable$Partition" "first" "I" (.int fi) := (F_27.other W30 (Or.inl (Nat.ne_of_lt (Nat.lt_of_lt_of_le F_aa0_first.lt (Nat.le_of_eq g5.symm)))))
  obtain ⟨T33, X33, e33, st33⟩ := getF X30 hx hZ hown (host := "") (Or.inl (hw _ (List.mem_of_getElem? (i := 32) rfl))) Via.refl e30 F_32 (g := (mkF m 25 #[.val (.ref aa0), .val (.ref b5), .val (.int (5 : Int32))] [(.ref aa0), (.int (5 : Int32)), (.ref b5)])) rfl rfl (hb hby d6_25)
  obtain ⟨cl_34, Ar_34, qq_34, Sz_34, Nn_34, Hh_34, Gg_34⟩ := id V30
  have hin_34 : ¬ ((5 : Int32) < 0 ∨ cl_34.slots.size ≤ ((5 : Int32)).toNatClampNeg) := inb_of Sz_34 ⟨by decide, by decide⟩
  obtain ⟨T35, h35, X35, e35, W35, st35⟩ := stI X33 hx hZ e33 Ar_34 (j := (5 : Int32)) hin_34 (g := (mkF m 32 #[.val (.ref aa0), .val (.ref b5), .val (.int (5 : Int32))] [(.int ((fi - (1 : Int32)) + (5 : Int32))), (.int (5 : Int32)), (.ref b5)])) rfl rfl (hb hby d6_32)
  have N35 := Fr.snoc X35 N30 g_b5
  have Z35 : n0 ≤ h35.size := Nat.le_trans Z30 (Keep.of_wr W35).1
  have K35 : Keep h0 h35 [] := K30.wr W35 (Or.inr sz_b5)
  have V35 : Arv Z h35 b5 k5 .int (8 : Int32) [(.int ((fi - (1 : Int32)) + (0 : Int32))), (.int ((fi - (1 : Int32)) + (1 : Int32))), (.int ((fi - (1 : Int32)) + (2 : Int32))), (.int ((fi - (1 : Int32)) + (3 : Int32))), (.int ((fi - (1 : Int32)) + (4 : Int32))), (.int ((fi - (1 : Int32)) + (5 : Int32))), (.int (0 : Int32)), (.int (0 : Int32))] (.int (0 : Int32)) := Arv.set Ar_34 qq_34 Sz_34 Nn_34 Hh_34 Gg_34 rfl W35 5 rfl (Nat.le_of_ble_eq_true rfl)
  obtain ⟨cl_36, Ar_36, -, Sz_36, Nn_36, -, -⟩ := id V35
  have hc19_7 : (6 : Int32) < (8 : Int32) := by decide
  have F_37 : Fld Z h35 aa0 "com/example/escapement/escapement/cli/PartitionTable$Partition" "first" "I" (.int fi) := (F_32.other W35 (Or.inl (Nat.ne_of_lt (Nat.lt_of_lt_of_le F_aa0_first.lt (Nat.le_of_eq g5.symm)))))
  obtain ⟨T38, X38, e38, st38⟩ := getF X35 hx hZ hown (host := "") (Or.inl (hw _ (List.mem_of_getElem? (i := 32) rfl))) Via.refl e35 F_37 (g := (mkF m 25 #[.val (.ref aa0), .val (.ref b5), .val (.int (6 : Int32))] [(.ref aa0), (.int (6 : Int32)), (.ref b5)])) rfl rfl (hb hby d6_25)
  obtain ⟨cl_39, Ar_39, qq_39, Sz_39, Nn_39, Hh_39, Gg_39⟩ := id V35
  have hin_39 : ¬ ((6 : Int32) < 0 ∨ cl_39.slots.size ≤ ((6 : Int32)).toNatClampNeg) := inb_of Sz_39 ⟨by decide, by decide⟩
  obtain ⟨T40, h40, X40, e40, W40, st40⟩ := stI X38 hx hZ e38 Ar_39 (j := (6 : Int32)) hin_39 (g := (mkF m 32 #[.val (.ref aa0), .val (.ref b5), .val (.int (6 : Int32))] [(.int ((fi - (1 : Int32)) + (6 : Int32))), (.int (6 : Int32)), (.ref b5)])) rfl rfl (hb hby d6_32)
  have N40 := Fr.snoc X40 N35 g_b5
  have Z40 : n0 ≤ h40.size := Nat.le_trans Z35 (Keep.of_wr W40).1
  have K40 : Keep h0 h40 [] := K35.wr W40 (Or.inr sz_b5)
  have V40 : Arv Z h40 b5 k5 .int (8 : Int32) [(.int ((fi - (1 : Int32)) + (0 : Int32))), (.int ((fi - (1 : Int32)) + (1 : Int32))), (.int ((fi - (1 : Int32)) + (2 : Int32))), (.int ((fi - (1 : Int32)) + (3 : Int32))), (.int ((fi - (1 : Int32)) + (4 : Int32))), (.int ((fi - (1 : Int32)) + (5 : Int32))), (.int ((fi - (1 : Int32)) + (6 : Int32))), (.int (0 : Int32))] (.int (0 : Int32)) := Arv.set Ar_39 qq_39 Sz_39 Nn_39 Hh_39 Gg_39 rfl W40 6 rfl (Nat.le_of_ble_eq_true rfl)
  obtain ⟨cl_41, Ar_41, -, Sz_41, Nn_41, -, -⟩ := id V40
  have hc19_8 : (7 : Int32) < (8 : Int32) := by decide
  have F_42 : Fld Z h40 aa0 "com/example/escapement/escapement/cli/PartitionTable$Partition" "first" "I" (.int fi) := (F_37.other W40 (Or.inl (Nat.ne_of_lt (Nat.lt_of_lt_of_le F_aa0_first.lt (Nat.le_of_eq g5.symm)))))
  obtain ⟨T43, X43, e43, st43⟩ := getF X40 hx hZ hown (host := "") (Or.inl (hw _ (List.mem_of_getElem? (i := 32) rfl))) Via.refl e40 F_42 (g := (mkF m 25 #[.val (.ref aa0), .val (.ref b5), .val (.int (7 : Int32))] [(.ref aa0), (.int (7 : Int32)), (.ref b5)])) rfl rfl (hb hby d6_25)
  obtain ⟨cl_44, Ar_44, qq_44, Sz_44, Nn_44, Hh_44, Gg_44⟩ := id V40
  have hin_44 : ¬ ((7 : Int32) < 0 ∨ cl_44.slots.size ≤ ((7 : Int32)).toNatClampNeg) := inb_of Sz_44 ⟨by decide, by decide⟩
  obtain ⟨T45, h45, X45, e45, W45, st45⟩ := stI X43 hx hZ e43 Ar_44 (j := (7 : Int32)) hin_44 (g := (mkF m 32 #[.val (.ref aa0), .val (.ref b5), .val (.int (7 : Int32))] [(.int ((fi - (1 : Int32)) + (7 : Int32))), (.int (7 : Int32)), (.ref b5)])) rfl rfl (hb hby d6_32)
  have N45 := Fr.snoc X45 N40 g_b5
  have Z45 : n0 ≤ h45.size := Nat.le_trans Z40 (Keep.of_wr W45).1
  have K45 : Keep h0 h45 [] := K40.wr W45 (Or.inr sz_b5)
  have V45 : Arv Z h45 b5 k5 .int (8 : Int32) [(.int ((fi - (1 : Int32)) + (0 : Int32))), (.int ((fi - (1 : Int32)) + (1 : Int32))), (.int ((fi - (1 : Int32)) + (2 : Int32))), (.int ((fi - (1 : Int32)) + (3 : Int32))), (.int ((fi - (1 : Int32)) + (4 : Int32))), (.int ((fi - (1 : Int32)) + (5 : Int32))), (.int ((fi - (1 : Int32)) + (6 : Int32))), (.int ((fi - (1 : Int32)) + (7 : Int32)))] (.int (0 : Int32)) := Arv.set Ar_44 qq_44 Sz_44 Nn_44 Hh_44 Gg_44 rfl W45 7 rfl (Nat.le_of_ble_eq_true rfl)
  obtain ⟨cl_46, Ar_46, -, Sz_46, Nn_46, -, -⟩ := id V45
  have hc19_9 : ¬ ((8 : Int32) < (8 : Int32)) := by decide
  obtain ⟨fs, hr, hrun, hended, hW, hsame⟩ := X45.leave (v := some (.ref b5)) (fun h => by rw [Bd.returns] at h; cases h)
  refine ⟨_, _, pre4 _ ?_, hrun, hended, _, _, rfl, ?_, ⟨_, rfl⟩, hW, hsame.mono (by decide) (by decide)⟩
  · show Steps p.tables e below (T2.setTop (mkF m 11 #[.val (.ref aa0), .unset, .unset] [(.int (8 : Int32))])) _
    refine st5 _ ?_
    show Steps p.tables e below (T5.setTop (mkF m 13 #[.val (.ref aa0), .unset, .unset] [(.ref b5)])) _
    refine XS.astoreN X5.here hx rfl (hb hby d6_13) rfl rfl (l' := #[.val (.ref aa0), .val (.ref b5), .unset]) rfl ?_
    show Steps p.tables e below (T5.setTop (mkF m 14 #[.val (.ref aa0), .val (.ref b5), .unset] [])) _
    refine XS.iconst X5.here hx rfl (hb hby d6_14) ?_
    show Steps p.tables e below (T5.setTop (mkF m 15 #[.val (.ref aa0), .val (.ref b5), .unset] [(.int (0 : Int32))])) _
    refine XS.istoreN X5.here hx rfl (hb hby d6_15) rfl (l' := #[.val (.ref aa0), .val (.ref b5), .val (.int (0 : Int32))]) rfl ?_
    show Steps p.tables e below (T5.setTop (mkF m 16 #[.val (.ref aa0), .val (.ref b5), .val (.int (0 : Int32))] [])) _
    refine XS.iloadN X5.here hx rfl (hb hby d6_16) rfl ?_
    show Steps p.tables e below (T5.setTop (mkF m 17 #[.val (.ref aa0), .val (.ref b5), .val (.int (0 : Int32))] [(.int (0 : Int32))])) _
    refine XS.aloadN X5.here hx rfl (hb hby d6_17) rfl rfl ?_
    show Steps p.tables e below (T5.setTop (mkF m 18 #[.val (.ref aa0), .val (.ref b5), .val (.int (0 : Int32))] [(.ref b5), (.int (0 : Int32))])) _
    refine X5.arraylength hx (by rw [e5]; exact Ar_6.1) (State.isArrayOf_alike hZ.alike Ar_6.2.1) (g := (mkF m 18 #[.val (.ref aa0), .val (.ref b5), .val (.int (0 : Int32))] [(.ref b5), (.int (0 : Int32))])) rfl rfl (hb hby d6_18) _ ?_
    rw [len_of Sz_6 Nn_6]
    show Steps p.tables e below (T5.setTop (mkF m 19 #[.val (.ref aa0), .val (.ref b5), .val (.int (0 : Int32))] [(.int (8 : Int32)), (.int (0 : Int32))])) _
    refine XS.icmpNo X5.here hx rfl (hb hby d6_19) rfl (tlt hc19).2.1 ?_
    show Steps p.tables e below (T5.setTop (mkF m 22 #[.val (.ref aa0), .val (.ref b5), .val (.int (0 : Int32))] [])) _
    refine XS.aloadN X5.here hx rfl (hb hby d6_22) rfl rfl ?_
    show Steps p.tables e below (T5.setTop (mkF m 23 #[.val (.ref aa0), .val (.ref b5), .val (.int (0 : Int32))] [(.ref b5)])) _
    refine XS.iloadN X5.here hx rfl (hb hby d6_23) rfl ?_
    show Steps p.tables e below (T5.setTop (mkF m 24 #[.val (.ref aa0), .val (.ref b5), .val (.int (0 : Int32))] [(.int (0 : Int32)), (.ref b5)])) _
    refine XS.aloadN X5.here hx rfl (hb hby d6_24) rfl rfl ?_
    show Steps p.tables e below (T5.setTop (mkF m 25 #[.val (.ref aa0), .val (.ref b5), .val (.int (0 : Int32))] [(.ref aa0), (.int (0 : Int32)), (.ref b5)])) _
    refine st8 _ ?_
    show Steps p.tables e below (T8.setTop (mkF m 28 #[.val (.ref aa0), .val (.ref b5), .val (.int (0 : Int32))] [(.int fi), (.int (0 : Int32)), (.ref b5)])) _
    refine XS.iconst X8.here hx rfl (hb hby d6_28) ?_
    show Steps p.tables e below (T8.setTop (mkF m 29 #[.val (.ref aa0), .val (.ref b5), .val (.int (0 : Int32))] [(.int (1 : Int32)), (.int fi), (.int (0 : Int32)), (.ref b5)])) _
    refine XS.isub X8.here hx rfl (hb hby d6_29) rfl ?_
    show Steps p.tables e below (T8.setTop (mkF m 30 #[.val (.ref aa0), .val (.ref b5), .val (.int (0 : Int32))] [(.int (fi - (1 : Int32))), (.int (0 : Int32)), (.ref b5)])) _
    refine XS.iloadN X8.here hx rfl (hb hby d6_30) rfl ?_
    show Steps p.tables e below (T8.setTop (mkF m 31 #[.val (.ref aa0), .val (.ref b5), .val (.int (0 : Int32))] [(.int (0 : Int32)), (.int (fi - (1 : Int32))), (.int (0 : Int32)), (.ref b5)])) _
    refine XS.iadd X8.here hx rfl (hb hby d6_31) rfl ?_
    show Steps p.tables e below (T8.setTop (mkF m 32 #[.val (.ref aa0), .val (.ref b5), .val (.int (0 : Int32))] [(.int ((fi - (1 : Int32)) + (0 : Int32))), (.int (0 : Int32)), (.ref b5)])) _
    refine st10 _ ?_
    show Steps p.tables e below (T10.setTop (mkF m 33 #[.val (.ref aa0), .val (.ref b5), .val (.int (0 : Int32))] [])) _
    refine XS.iinc X10.here hx rfl (hb hby d6_33) rfl (l' := #[.val (.ref aa0), .val (.ref b5), .val (.int (1 : Int32))]) rfl ?_
    show Steps p.tables e below (T10.setTop (mkF m 36 #[.val (.ref aa0), .val (.ref b5), .val (.int (1 : Int32))] [])) _
    refine XS.goto X10.here hx rfl (pc0 := 36) (pc' := 16) rfl (hb hby d6_36) (by decide) (by decide) ?_
    show Steps p.tables e below (T10.setTop (mkF m 16 #[.val (.ref aa0), .val (.ref b5), .val (.int (1 : Int32))] [])) _
    refine XS.iloadN X10.here hx rfl (hb hby d6_16) rfl ?_
    show Steps p.tables e below (T10.setTop (mkF m 17 #[.val (.ref aa0), .val (.ref b5), .val (.int (1 : Int32))] [(.int (1 : Int32))])) _
    refine XS.aloadN X10.here hx rfl (hb hby d6_17) rfl rfl ?_
    show Steps p.tables e below (T10.setTop (mkF m 18 #[.val (.ref aa0), .val (.ref b5), .val (.int (1 : Int32))] [(.ref b5), (.int (1 : Int32))])) _
    refine X10.arraylength hx (by rw [e10]; exact Ar_11.1) (State.isArrayOf_alike hZ.alike Ar_11.2.1) (g := (mkF m 18 #[.val (.ref aa0), .val (.ref b5), .val (.int (1 : Int32))] [(.ref b5), (.int (1 : Int32))])) rfl rfl (hb hby d6_18) _ ?_
    rw [len_of Sz_11 Nn_11]
    show Steps p.tables e below (T10.setTop (mkF m 19 #[.val (.ref aa0), .val (.ref b5), .val (.int (1 : Int32))] [(.int (8 : Int32)), (.int (1 : Int32))])) _
    refine XS.icmpNo X10.here hx rfl (hb hby d6_19) rfl (tlt hc19_2).2.1 ?_
    show Steps p.tables e below (T10.setTop (mkF m 22 #[.val (.ref aa0), .val (.ref b5), .val (.int (1 : Int32))] [])) _
    refine XS.aloadN X10.here hx rfl (hb hby d6_22) rfl rfl ?_
    show Steps p.tables e below (T10.setTop (mkF m 23 #[.val (.ref aa0), .val (.ref b5), .val (.int (1 : Int32))] [(.ref b5)])) _
    refine XS.iloadN X10.here hx rfl (hb hby d6_23) rfl ?_
    show Steps p.tables e below (T10.setTop (mkF m 24 #[.val (.ref aa0), .val (.ref b5), .val (.int (1 : Int32))] [(.int (1 : Int32)), (.ref b5)])) _
    refine XS.aloadN X10.here hx rfl (hb hby d6_24) rfl rfl ?_
    show Steps p.tables e below (T10.setTop (mkF m 25 #[.val (.ref aa0), .val (.ref b5), .val (.int (1 : Int32))] [(.ref aa0), (.int (1 : Int32)), (.ref b5)])) _
    refine st13 _ ?_
    show Steps p.tables e below (T13.setTop (mkF m 28 #[.val (.ref aa0), .val (.ref b5), .val (.int (1 : Int32))] [(.int fi), (.int (1 : Int32)), (.ref b5)])) _
    refine XS.iconst X13.here hx rfl (hb hby d6_28) ?_
    show Steps p.tables e below (T13.setTop (mkF m 29 #[.val (.ref aa0), .val (.ref b5), .val (.int (1 : Int32))] [(.int (1 : Int32)), (.int fi), (.int (1 : Int32)), (.ref b5)])) _
    refine XS.isub X13.here hx rfl (hb hby d6_29) rfl ?_
    show Steps p.tables e below (T13.setTop (mkF m 30 #[.val (.ref aa0), .val (.ref b5), .val (.int (1 : Int32))] [(.int (fi - (1 : Int32))), (.int (1 : Int32)), (.ref b5)])) _
    refine XS.iloadN X13.here hx rfl (hb hby d6_30) rfl ?_
    show Steps p.tables e below (T13.setTop (mkF m 31 #[.val (.ref aa0), .val (.ref b5), .val (.int (1 : Int32))] [(.int (1 : Int32)), (.int (fi - (1 : Int32))), (.int (1 : Int32)), (.ref b5)])) _
    refine XS.iadd X13.here hx rfl (hb hby d6_31) rfl ?_
    show Steps p.tables e below (T13.setTop (mkF m 32 #[.val (.ref aa0), .val (.ref b5), .val (.int (1 : Int32))] [(.int ((fi - (1 : Int32)) + (1 : Int32))), (.int (1 : Int32)), (.ref b5)])) _
    refine st15 _ ?_
    show Steps p.tables e below (T15.setTop (mkF m 33 #[.val (.ref aa0), .val (.ref b5), .val (.int (1 : Int32))] [])) _
    refine XS.iinc X15.here hx rfl (hb hby d6_33) rfl (l' := #[.val (.ref aa0), .val (.ref b5), .val (.int (2 : Int32))]) rfl ?_
    show Steps p.tables e below (T15.setTop (mkF m 36 #[.val (.ref aa0), .val (.ref b5), .val (.int (2 : Int32))] [])) _
    refine XS.goto X15.here hx rfl (pc0 := 36) (pc' := 16) rfl (hb hby d6_36) (by decide) (by decide) ?_
    show Steps p.tables e below (T15.setTop (mkF m 16 #[.val (.ref aa0), .val (.ref b5), .val (.int (2 : Int32))] [])) _
    refine XS.iloadN X15.here hx rfl (hb hby d6_16) rfl ?_
    show Steps p.tables e below (T15.setTop (mkF m 17 #[.val (.ref aa0), .val (.ref b5), .val (.int (2 : Int32))] [(.int (2 : Int32))])) _
    refine XS.aloadN X15.here hx rfl (hb hby d6_17) rfl rfl ?_
    show Steps p.tables e below (T15.setTop (mkF m 18 #[.val (.ref aa0), .val (.ref b5), .val (.int (2 : Int32))] [(.ref b5), (.int (2 : Int32))])) _
    refine X15.arraylength hx (by rw [e15]; exact Ar_16.1) (State.isArrayOf_alike hZ.alike Ar_16.2.1) (g := (mkF m 18 #[.val (.ref aa0), .val (.ref b5), .val (.int (2 : Int32))] [(.ref b5), (.int (2 : Int32))])) rfl rfl (hb hby d6_18) _ ?_
    rw [len_of Sz_16 Nn_16]
    show Steps p.tables e below (T15.setTop (mkF m 19 #[.val (.ref aa0), .val (.ref b5), .val (.int (2 : Int32))] [(.int (8 : Int32)), (.int (2 : Int32))])) _
    refine XS.icmpNo X15.here hx rfl (hb hby d6_19) rfl (tlt hc19_3).2.1 ?_
    show Steps p.tables e below (T15.setTop (mkF m 22 #[.val (.ref aa0), .val (.ref b5), .val (.int (2 : Int32))] [])) _
    refine XS.aloadN X15.here hx rfl (hb hby d6_22) rfl rfl ?_
    show Steps p.tables e below (T15.setTop (mkF m 23 #[.val (.ref aa0), .val (.ref b5), .val (.int (2 : Int32))] [(.ref b5)])) _
    refine XS.iloadN X15.here hx rfl (hb hby d6_23) rfl ?_
    show Steps p.tables e below (T15.setTop (mkF m 24 #[.val (.ref aa0), .val (.ref b5), .val (.int (2 : Int32))] [(.int (2 : Int32)), (.ref b5)])) _
    refine XS.aloadN X15.here hx rfl (hb hby d6_24) rfl rfl ?_
    show Steps p.tables e below (T15.setTop (mkF m 25 #[.val (.ref aa0), .val (.ref b5), .val (.int (2 : Int32))] [(.ref aa0), (.int (2 : Int32)), (.ref b5)])) _
    refine st18 _ ?_
    show Steps p.tables e below (T18.setTop (mkF m 28 #[.val (.ref aa0), .val (.ref b5), .val (.int (2 : Int32))] [(.int fi), (.int (2 : Int32)), (.ref b5)])) _
    refine XS.iconst X18.here hx rfl (hb hby d6_28) ?_
    show Steps p.tables e below (T18.setTop (mkF m 29 #[.val (.ref aa0), .val (.ref b5), .val (.int (2 : Int32))] [(.int (1 : Int32)), (.int fi), (.int (2 : Int32)), (.ref b5)])) _
    refine XS.isub X18.here hx rfl (hb hby d6_29) rfl ?_
    show Steps p.tables e below (T18.setTop (mkF m 30 #[.val (.ref aa0), .val (.ref b5), .val (.int (2 : Int32))] [(.int (fi - (1 : Int32))), (.int (2 : Int32)), (.ref b5)])) _
    refine XS.iloadN X18.here hx rfl (hb hby d6_30) rfl ?_
    show Steps p.tables e below (T18.setTop (mkF m 31 #[.val (.ref aa0), .val (.ref b5), .val (.int (2 : Int32))] [(.int (2 : Int32)), (.int (fi - (1 : Int32))), (.int (2 : Int32)), (.ref b5)])) _
    refine XS.iadd X18.here hx rfl (hb hby d6_31) rfl ?_
    show Steps p.tables e below (T18.setTop (mkF m 32 #[.val (.ref aa0), .val (.ref b5), .val (.int (2 : Int32))] [(.int ((fi - (1 : Int32)) + (2 : Int32))), (.int (2 : Int32)), (.ref b5)])) _
    refine st20 _ ?_
    show Steps p.tables e below (T20.setTop (mkF m 33 #[.val (.ref aa0), .val (.ref b5), .val (.int (2 : Int32))] [])) _
    refine XS.iinc X20.here hx rfl (hb hby d6_33) rfl (l' := #[.val (.ref aa0), .val (.ref b5), .val (.int (3 : Int32))]) rfl ?_
    show Steps p.tables e below (T20.setTop (mkF m 36 #[.val (.ref aa0), .val (.ref b5), .val (.int (3 : Int32))] [])) _
    refine XS.goto X20.here hx rfl (pc0 := 36) (pc' := 16) rfl (hb hby d6_36) (by decide) (by decide) ?_
    show Steps p.tables e below (T20.setTop (mkF m 16 #[.val (.ref aa0), .val (.ref b5), .val (.int (3 : Int32))] [])) _
    refine XS.iloadN X20.here hx rfl (hb hby d6_16) rfl ?_
    show Steps p.tables e below (T20.setTop (mkF m 17 #[.val (.ref aa0), .val (.ref b5), .val (.int (3 : Int32))] [(.int (3 : Int32))])) _
    refine XS.aloadN X20.here hx rfl (hb hby d6_17) rfl rfl ?_
    show Steps p.tables e below (T20.setTop (mkF m 18 #[.val (.ref aa0), .val (.ref b5), .val (.int (3 : Int32))] [(.ref b5), (.int (3 : Int32))])) _
    refine X20.arraylength hx (by rw [e20]; exact Ar_21.1) (State.isArrayOf_alike hZ.alike Ar_21.2.1) (g := (mkF m 18 #[.val (.ref aa0), .val (.ref b5), .val (.int (3 : Int32))] [(.ref b5), (.int (3 : Int32))])) rfl rfl (hb hby d6_18) _ ?_
    rw [len_of Sz_21 Nn_21]
    show Steps p.tables e below (T20.setTop (mkF m 19 #[.val (.ref aa0), .val (.ref b5), .val (.int (3 : Int32))] [(.int (8 : Int32)), (.int (3 : Int32))])) _
    refine XS.icmpNo X20.here hx rfl (hb hby d6_19) rfl (tlt hc19_4).2.1 ?_
    show Steps p.tables e below (T20.setTop (mkF m 22 #[.val (.ref aa0), .val (.ref b5), .val (.int (3 : Int32))] [])) _
    refine XS.aloadN X20.here hx rfl (hb hby d6_22) rfl rfl ?_
    show Steps p.tables e below (T20.setTop (mkF m 23 #[.val (.ref aa0), .val (.ref b5), .val (.int (3 : Int32))] [(.ref b5)])) _
    refine XS.iloadN X20.here hx rfl (hb hby d6_23) rfl ?_
    show Steps p.tables e below (T20.setTop (mkF m 24 #[.val (.ref aa0), .val (.ref b5), .val (.int (3 : Int32))] [(.int (3 : Int32)), (.ref b5)])) _
    refine XS.aloadN X20.here hx rfl (hb hby d6_24) rfl rfl ?_
    show Steps p.tables e below (T20.setTop (mkF m 25 #[.val (.ref aa0), .val (.ref b5), .val (.int (3 : Int32))] [(.ref aa0), (.int (3 : Int32)), (.ref b5)])) _
    refine st23 _ ?_
    show Steps p.tables e below (T23.setTop (mkF m 28 #[.val (.ref aa0), .val (.ref b5), .val (.int (3 : Int32))] [(.int fi), (.int (3 : Int32)), (.ref b5)])) _
    refine XS.iconst X23.here hx rfl (hb hby d6_28) ?_
    show Steps p.tables e below (T23.setTop (mkF m 29 #[.val (.ref aa0), .val (.ref b5), .val (.int (3 : Int32))] [(.int (1 : Int32)), (.int fi), (.int (3 : Int32)), (.ref b5)])) _
    refine XS.isub X23.here hx rfl (hb hby d6_29) rfl ?_
    show Steps p.tables e below (T23.setTop (mkF m 30 #[.val (.ref aa0), .val (.ref b5), .val (.int (3 : Int32))] [(.int (fi - (1 : Int32))), (.int (3 : Int32)), (.ref b5)])) _
    refine XS.iloadN X23.here hx rfl (hb hby d6_30) rfl ?_
    show Steps p.tables e below (T23.setTop (mkF m 31 #[.val (.ref aa0), .val (.ref b5), .val (.int (3 : Int32))] [(.int (3 : Int32)), (.int (fi - (1 : Int32))), (.int (3 : Int32)), (.ref b5)])) _
    refine XS.iadd X23.here hx rfl (hb hby d6_31) rfl ?_
    show Steps p.tables e below (T23.setTop (mkF m 32 #[.val (.ref aa0), .val (.ref b5), .val (.int (3 : Int32))] [(.int ((fi - (1 : Int32)) + (3 : Int32))), (.int (3 : Int32)), (.ref b5)])) _
    refine st25 _ ?_
    show Steps p.tables e below (T25.setTop (mkF m 33 #[.val (.ref aa0), .val (.ref b5), .val (.int (3 : Int32))] [])) _
    refine XS.iinc X25.here hx rfl (hb hby d6_33) rfl (l' := #[.val (.ref aa0), .val (.ref b5), .val (.int (4 : Int32))]) rfl ?_
    show Steps p.tables e below (T25.setTop (mkF m 36 #[.val (.ref aa0), .val (.ref b5), .val (.int (4 : Int32))] [])) _
    refine XS.goto X25.here hx rfl (pc0 := 36) (pc' := 16) rfl (hb hby d6_36) (by decide) (by decide) ?_
    show Steps p.tables e below (T25.setTop (mkF m 16 #[.val (.ref aa0), .val (.ref b5), .val (.int (4 : Int32))] [])) _
    refine XS.iloadN X25.here hx rfl (hb hby d6_16) rfl ?_
    show Steps p.tables e below (T25.setTop (mkF m 17 #[.val (.ref aa0), .val (.ref b5), .val (.int (4 : Int32))] [(.int (4 : Int32))])) _
    refine XS.aloadN X25.here hx rfl (hb hby d6_17) rfl rfl ?_
    show Steps p.tables e below (T25.setTop (mkF m 18 #[.val (.ref aa0), .val (.ref b5), .val (.int (4 : Int32))] [(.ref b5), (.int (4 : Int32))])) _
    refine X25.arraylength hx (by rw [e25]; exact Ar_26.1) (State.isArrayOf_alike hZ.alike Ar_26.2.1) (g := (mkF m 18 #[.val (.ref aa0), .val (.ref b5), .val (.int (4 : Int32))] [(.ref b5), (.int (4 : Int32))])) rfl rfl (hb hby d6_18) _ ?_
    rw [len_of Sz_26 Nn_26]
    show Steps p.tables e below (T25.setTop (mkF m 19 #[.val (.ref aa0), .val (.ref b5), .val (.int (4 : Int32))] [(.int (8 : Int32)), (.int (4 : Int32))])) _
    refine XS.icmpNo X25.here hx rfl (hb hby d6_19) rfl (tlt hc19_5).2.1 ?_
    show Steps p.tables e below (T25.setTop (mkF m 22 #[.val (.ref aa0), .val (.ref b5), .val (.int (4 : Int32))] [])) _
    refine XS.aloadN X25.here hx rfl (hb hby d6_22) rfl rfl ?_
    show Steps p.tables e below (T25.setTop (mkF m 23 #[.val (.ref aa0), .val (.ref b5), .val (.int (4 : Int32))] [(.ref b5)])) _
    refine XS.iloadN X25.here hx rfl (hb hby d6_23) rfl ?_
    show Steps p.tables e below (T25.setTop (mkF m 24 #[.val (.ref aa0), .val (.ref b5), .val (.int (4 : Int32))] [(.int (4 : Int32)), (.ref b5)])) _
    refine XS.aloadN X25.here hx rfl (hb hby d6_24) rfl rfl ?_
    show Steps p.tables e below (T25.setTop (mkF m 25 #[.val (.ref aa0), .val (.ref b5), .val (.int (4 : Int32))] [(.ref aa0), (.int (4 : Int32)), (.ref b5)])) _
    refine st28 _ ?_
    show Steps p.tables e below (T28.setTop (mkF m 28 #[.val (.ref aa0), .val (.ref b5), .val (.int (4 : Int32))] [(.int fi), (.int (4 : Int32)), (.ref b5)])) _
    refine XS.iconst X28.here hx rfl (hb hby d6_28) ?_
    show Steps p.tables e below (T28.setTop (mkF m 29 #[.val (.ref aa0), .val (.ref b5), .val (.int (4 : Int32))] [(.int (1 : Int32)), (.int fi), (.int (4 : Int32)), (.ref b5)])) _
    refine XS.isub X28.here hx rfl (hb hby d6_29) rfl ?_
    show Steps p.tables e below (T28.setTop (mkF m 30 #[.val (.ref aa0), .val (.ref b5), .val (.int (4 : Int32))] [(.int (fi - (1 : Int32))), (.int (4 : Int32)), (.ref b5)])) _
    refine XS.iloadN X28.here hx rfl (hb hby d6_30) rfl ?_
    show Steps p.tables e below (T28.setTop (mkF m 31 #[.val (.ref aa0), .val (.ref b5), .val (.int (4 : Int32))] [(.int (4 : Int32)), (.int (fi - (1 : Int32))), (.int (4 : Int32)), (.ref b5)])) _
    refine XS.iadd X28.here hx rfl (hb hby d6_31) rfl ?_
    show Steps p.tables e below (T28.setTop (mkF m 32 #[.val (.ref aa0), .val (.ref b5), .val (.int (4 : Int32))] [(.int ((fi - (1 : Int32)) + (4 : Int32))), (.int (4 : Int32)), (.ref b5)])) _
    refine st30 _ ?_
    show Steps p.tables e below (T30.setTop (mkF m 33 #[.val (.ref aa0), .val (.ref b5), .val (.int (4 : Int32))] [])) _
    refine XS.iinc X30.here hx rfl (hb hby d6_33) rfl (l' := #[.val (.ref aa0), .val (.ref b5), .val (.int (5 : Int32))]) rfl ?_
    show Steps p.tables e below (T30.setTop (mkF m 36 #[.val (.ref aa0), .val (.ref b5), .val (.int (5 : Int32))] [])) _
    refine XS.goto X30.here hx rfl (pc0 := 36) (pc' := 16) rfl (hb hby d6_36) (by decide) (by decide) ?_
    show Steps p.tables e below (T30.setTop (mkF m 16 #[.val (.ref aa0), .val (.ref b5), .val (.int (5 : Int32))] [])) _
    refine XS.iloadN X30.here hx rfl (hb hby d6_16) rfl ?_
    show Steps p.tables e below (T30.setTop (mkF m 17 #[.val (.ref aa0), .val (.ref b5), .val (.int (5 : Int32))] [(.int (5 : Int32))])) _
    refine XS.aloadN X30.here hx rfl (hb hby d6_17) rfl rfl ?_
    show Steps p.tables e below (T30.setTop (mkF m 18 #[.val (.ref aa0), .val (.ref b5), .val (.int (5 : Int32))] [(.ref b5), (.int (5 : Int32))])) _
    refine X30.arraylength hx (by rw [e30]; exact Ar_31.1) (State.isArrayOf_alike hZ.alike Ar_31.2.1) (g := (mkF m 18 #[.val (.ref aa0), .val (.ref b5), .val (.int (5 : Int32))] [(.ref b5), (.int (5 : Int32))])) rfl rfl (hb hby d6_18) _ ?_
    rw [len_of Sz_31 Nn_31]
    show Steps p.tables e below (T30.setTop (mkF m 19 #[.val (.ref aa0), .val (.ref b5), .val (.int (5 : Int32))] [(.int (8 : Int32)), (.int (5 : Int32))])) _
    refine XS.icmpNo X30.here hx rfl (hb hby d6_19) rfl (tlt hc19_6).2.1 ?_
    show Steps p.tables e below (T30.setTop (mkF m 22 #[.val (.ref aa0), .val (.ref b5), .val (.int (5 : Int32))] [])) _
    refine XS.aloadN X30.here hx rfl (hb hby d6_22) rfl rfl ?_
    show Steps p.tables e below (T30.setTop (mkF m 23 #[.val (.ref aa0), .val (.ref b5), .val (.int (5 : Int32))] [(.ref b5)])) _
    refine XS.iloadN X30.here hx rfl (hb hby d6_23) rfl ?_
    show Steps p.tables e below (T30.setTop (mkF m 24 #[.val (.ref aa0), .val (.ref b5), .val (.int (5 : Int32))] [(.int (5 : Int32)), (.ref b5)])) _
    refine XS.aloadN X30.here hx rfl (hb hby d6_24) rfl rfl ?_
    show Steps p.tables e below (T30.setTop (mkF m 25 #[.val (.ref aa0), .val (.ref b5), .val (.int (5 : Int32))] [(.ref aa0), (.int (5 : Int32)), (.ref b5)])) _
    refine st33 _ ?_
    show Steps p.tables e below (T33.setTop (mkF m 28 #[.val (.ref aa0), .val (.ref b5), .val (.int (5 : Int32))] [(.int fi), (.int (5 : Int32)), (.ref b5)])) _
    refine XS.iconst X33.here hx rfl (hb hby d6_28) ?_
    show Steps p.tables e below (T33.setTop (mkF m 29 #[.val (.ref aa0), .val (.ref b5), .val (.int (5 : Int32))] [(.int (1 : Int32)), (.int fi), (.int (5 : Int32)), (.ref b5)])) _
    refine XS.isub X33.here hx rfl (hb hby d6_29) rfl ?_
    show Steps p.tables e below (T33.setTop (mkF m 30 #[.val (.ref aa0), .val (.ref b5), .val (.int (5 : Int32))] [(.int (fi - (1 : Int32))), (.int (5 : Int32)), (.ref b5)])) _
    refine XS.iloadN X33.here hx rfl (hb hby d6_30) rfl ?_
    show Steps p.tables e below (T33.setTop (mkF m 31 #[.val (.ref aa0), .val (.ref b5), .val (.int (5 : Int32))] [(.int (5 : Int32)), (.int (fi - (1 : Int32))), (.int (5 : Int32)), (.ref b5)])) _
    refine XS.iadd X33.here hx rfl (hb hby d6_31) rfl ?_
    show Steps p.tables e below (T33.setTop (mkF m 32 #[.val (.ref aa0), .val (.ref b5), .val (.int (5 : Int32))] [(.int ((fi - (1 : Int32)) + (5 : Int32))), (.int (5 : Int32)), (.ref b5)])) _
    refine st35 _ ?_
    show Steps p.tables e below (T35.setTop (mkF m 33 #[.val (.ref aa0), .val (.ref b5), .val (.int (5 : Int32))] [])) _
    refine XS.iinc X35.here hx rfl (hb hby d6_33) rfl (l' := #[.val (.ref aa0), .val (.ref b5), .val (.int (6 : Int32))]) rfl ?_
    show Steps p.tables e below (T35.setTop (mkF m 36 #[.val (.ref aa0), .val (.ref b5), .val (.int (6 : Int32))] [])) _
    refine XS.goto X35.here hx rfl (pc0 := 36) (pc' := 16) rfl (hb hby d6_36) (by decide) (by decide) ?_
    show Steps p.tables e below (T35.setTop (mkF m 16 #[.val (.ref aa0), .val (.ref b5), .val (.int (6 : Int32))] [])) _
    refine XS.iloadN X35.here hx rfl (hb hby d6_16) rfl ?_
    show Steps p.tables e below (T35.setTop (mkF m 17 #[.val (.ref aa0), .val (.ref b5), .val (.int (6 : Int32))] [(.int (6 : Int32))])) _
    refine XS.aloadN X35.here hx rfl (hb hby d6_17) rfl rfl ?_
    show Steps p.tables e below (T35.setTop (mkF m 18 #[.val (.ref aa0), .val (.ref b5), .val (.int (6 : Int32))] [(.ref b5), (.int (6 : Int32))])) _
    refine X35.arraylength hx (by rw [e35]; exact Ar_36.1) (State.isArrayOf_alike hZ.alike Ar_36.2.1) (g := (mkF m 18 #[.val (.ref aa0), .val (.ref b5), .val (.int (6 : Int32))] [(.ref b5), (.int (6 : Int32))])) rfl rfl (hb hby d6_18) _ ?_
    rw [len_of Sz_36 Nn_36]
    show Steps p.tables e below (T35.setTop (mkF m 19 #[.val (.ref aa0), .val (.ref b5), .val (.int (6 : Int32))] [(.int (8 : Int32)), (.int (6 : Int32))])) _
    refine XS.icmpNo X35.here hx rfl (hb hby d6_19) rfl (tlt hc19_7).2.1 ?_
    show Steps p.tables e below (T35.setTop (mkF m 22 #[.val (.ref aa0), .val (.ref b5), .val (.int (6 : Int32))] [])) _
    refine XS.aloadN X35.here hx rfl (hb hby d6_22) rfl rfl ?_
    show Steps p.tables e below (T35.setTop (mkF m 23 #[.val (.ref aa0), .val (.ref b5), .val (.int (6 : Int32))] [(.ref b5)])) _
    refine XS.iloadN X35.here hx rfl (hb hby d6_23) rfl ?_
    show Steps p.tables e below (T35.setTop (mkF m 24 #[.val (.ref aa0), .val (.ref b5), .val (.int (6 : Int32))] [(.int (6 : Int32)), (.ref b5)])) _
    refine XS.aloadN X35.here hx rfl (hb hby d6_24) rfl rfl ?_
    show Steps p.tables e below (T35.setTop (mkF m 25 #[.val (.ref aa0), .val (.ref b5), .val (.int (6 : Int32))] [(.ref aa0), (.int (6 : Int32)), (.ref b5)])) _
    refine st38 _ ?_
    show Steps p.tables e below (T38.setTop (mkF m 28 #[.val (.ref aa0), .val (.ref b5), .val (.int (6 : Int32))] [(.int fi), (.int (6 : Int32)), (.ref b5)])) _
    refine XS.iconst X38.here hx rfl (hb hby d6_28) ?_
    show Steps p.tables e below (T38.setTop (mkF m 29 #[.val (.ref aa0), .val (.ref b5), .val (.int (6 : Int32))] [(.int (1 : Int32)), (.int fi), (.int (6 : Int32)), (.ref b5)])) _
    refine XS.isub X38.here hx rfl (hb hby d6_29) rfl ?_
    show Steps p.tables e below (T38.setTop (mkF m 30 #[.val (.ref aa0), .val (.ref b5), .val (.int (6 : Int32))] [(.int (fi - (1 : Int32))), (.int (6 : Int32)), (.ref b5)])) _
    refine XS.iloadN X38.here hx rfl (hb hby d6_30) rfl ?_
    show Steps p.tables e below (T38.setTop (mkF m 31 #[.val (.ref aa0), .val (.ref b5), .val (.int (6 : Int32))] [(.int (6 : Int32)), (.int (fi - (1 : Int32))), (.int (6 : Int32)), (.ref b5)])) _
    refine XS.iadd X38.here hx rfl (hb hby d6_31) rfl ?_
    show Steps p.tables e below (T38.setTop (mkF m 32 #[.val (.ref aa0), .val (.ref b5), .val (.int (6 : Int32))] [(.int ((fi - (1 : Int32)) + (6 : Int32))), (.int (6 : Int32)), (.ref b5)])) _
    refine st40 _ ?_
    show Steps p.tables e below (T40.setTop (mkF m 33 #[.val (.ref aa0), .val (.ref b5), .val (.int (6 : Int32))] [])) _
    refine XS.iinc X40.here hx rfl (hb hby d6_33) rfl (l' := #[.val (.ref aa0), .val (.ref b5), .val (.int (7 : Int32))]) rfl ?_
    show Steps p.tables e below (T40.setTop (mkF m 36 #[.val (.ref aa0), .val (.ref b5), .val (.int (7 : Int32))] [])) _
    refine XS.goto X40.here hx rfl (pc0 := 36) (pc' := 16) rfl (hb hby d6_36) (by decide) (by decide) ?_
    show Steps p.tables e below (T40.setTop (mkF m 16 #[.val (.ref aa0), .val (.ref b5), .val (.int (7 : Int32))] [])) _
    refine XS.iloadN X40.here hx rfl (hb hby d6_16) rfl ?_
    show Steps p.tables e below (T40.setTop (mkF m 17 #[.val (.ref aa0), .val (.ref b5), .val (.int (7 : Int32))] [(.int (7 : Int32))])) _
    refine XS.aloadN X40.here hx rfl (hb hby d6_17) rfl rfl ?_
    show Steps p.tables e below (T40.setTop (mkF m 18 #[.val (.ref aa0), .val (.ref b5), .val (.int (7 : Int32))] [(.ref b5), (.int (7 : Int32))])) _
    refine X40.arraylength hx (by rw [e40]; exact Ar_41.1) (State.isArrayOf_alike hZ.alike Ar_41.2.1) (g := (mkF m 18 #[.val (.ref aa0), .val (.ref b5), .val (.int (7 : Int32))] [(.ref b5), (.int (7 : Int32))])) rfl rfl (hb hby d6_18) _ ?_
    rw [len_of Sz_41 Nn_41]
    show Steps p.tables e below (T40.setTop (mkF m 19 #[.val (.ref aa0), .val (.ref b5), .val (.int (7 : Int32))] [(.int (8 : Int32)), (.int (7 : Int32))])) _
    refine XS.icmpNo X40.here hx rfl (hb hby d6_19) rfl (tlt hc19_8).2.1 ?_
    show Steps p.tables e below (T40.setTop (mkF m 22 #[.val (.ref aa0), .val (.ref b5), .val (.int (7 : Int32))] [])) _
    refine XS.aloadN X40.here hx rfl (hb hby d6_22) rfl rfl ?_
    show Steps p.tables e below (T40.setTop (mkF m 23 #[.val (.ref aa0), .val (.ref b5), .val (.int (7 : Int32))] [(.ref b5)])) _
    refine XS.iloadN X40.here hx rfl (hb hby d6_23) rfl ?_
    show Steps p.tables e below (T40.setTop (mkF m 24 #[.val (.ref aa0), .val (.ref b5), .val (.int (7 : Int32))] [(.int (7 : Int32)), (.ref b5)])) _
    refine XS.aloadN X40.here hx rfl (hb hby d6_24) rfl rfl ?_
    show Steps p.tables e below (T40.setTop (mkF m 25 #[.val (.ref aa0), .val (.ref b5), .val (.int (7 : Int32))] [(.ref aa0), (.int (7 : Int32)), (.ref b5)])) _
    refine st43 _ ?_
    show Steps p.tables e below (T43.setTop (mkF m 28 #[.val (.ref aa0), .val (.ref b5), .val (.int (7 : Int32))] [(.int fi), (.int (7 : Int32)), (.ref b5)])) _
    refine XS.iconst X43.here hx rfl (hb hby d6_28) ?_
    show Steps p.tables e below (T43.setTop (mkF m 29 #[.val (.ref aa0), .val (.ref b5), .val (.int (7 : Int32))] [(.int (1 : Int32)), (.int fi), (.int (7 : Int32)), (.ref b5)])) _
    refine XS.isub X43.here hx rfl (hb hby d6_29) rfl ?_
    show Steps p.tables e below (T43.setTop (mkF m 30 #[.val (.ref aa0), .val (.ref b5), .val (.int (7 : Int32))] [(.int (fi - (1 : Int32))), (.int (7 : Int32)), (.ref b5)])) _
    refine XS.iloadN X43.here hx rfl (hb hby d6_30) rfl ?_
    show Steps p.tables e below (T43.setTop (mkF m 31 #[.val (.ref aa0), .val (.ref b5), .val (.int (7 : Int32))] [(.int (7 : Int32)), (.int (fi - (1 : Int32))), (.int (7 : Int32)), (.ref b5)])) _
    refine XS.iadd X43.here hx rfl (hb hby d6_31) rfl ?_
    show Steps p.tables e below (T43.setTop (mkF m 32 #[.val (.ref aa0), .val (.ref b5), .val (.int (7 : Int32))] [(.int ((fi - (1 : Int32)) + (7 : Int32))), (.int (7 : Int32)), (.ref b5)])) _
    refine st45 _ ?_
    show Steps p.tables e below (T45.setTop (mkF m 33 #[.val (.ref aa0), .val (.ref b5), .val (.int (7 : Int32))] [])) _
    refine XS.iinc X45.here hx rfl (hb hby d6_33) rfl (l' := #[.val (.ref aa0), .val (.ref b5), .val (.int (8 : Int32))]) rfl ?_
    show Steps p.tables e below (T45.setTop (mkF m 36 #[.val (.ref aa0), .val (.ref b5), .val (.int (8 : Int32))] [])) _
    refine XS.goto X45.here hx rfl (pc0 := 36) (pc' := 16) rfl (hb hby d6_36) (by decide) (by decide) ?_
    show Steps p.tables e below (T45.setTop (mkF m 16 #[.val (.ref aa0), .val (.ref b5), .val (.int (8 : Int32))] [])) _
    refine XS.iloadN X45.here hx rfl (hb hby d6_16) rfl ?_
    show Steps p.tables e below (T45.setTop (mkF m 17 #[.val (.ref aa0), .val (.ref b5), .val (.int (8 : Int32))] [(.int (8 : Int32))])) _
    refine XS.aloadN X45.here hx rfl (hb hby d6_17) rfl rfl ?_
    show Steps p.tables e below (T45.setTop (mkF m 18 #[.val (.ref aa0), .val (.ref b5), .val (.int (8 : Int32))] [(.ref b5), (.int (8 : Int32))])) _
    refine X45.arraylength hx (by rw [e45]; exact Ar_46.1) (State.isArrayOf_alike hZ.alike Ar_46.2.1) (g := (mkF m 18 #[.val (.ref aa0), .val (.ref b5), .val (.int (8 : Int32))] [(.ref b5), (.int (8 : Int32))])) rfl rfl (hb hby d6_18) _ ?_
    rw [len_of Sz_46 Nn_46]
    show Steps p.tables e below (T45.setTop (mkF m 19 #[.val (.ref aa0), .val (.ref b5), .val (.int (8 : Int32))] [(.int (8 : Int32)), (.int (8 : Int32))])) _
    refine XS.icmpYes X45.here hx rfl (pc0 := 19) (pc' := 39) rfl (hb hby d6_19) rfl (flt hc19_9).2.1 (by decide) (by decide) ?_
    show Steps p.tables e below (T45.setTop (mkF m 39 #[.val (.ref aa0), .val (.ref b5), .val (.int (8 : Int32))] [])) _
    refine XS.aloadN X45.here hx rfl (hb hby d6_39) rfl rfl ?_
    show Steps p.tables e below (T45.setTop (mkF m 40 #[.val (.ref aa0), .val (.ref b5), .val (.int (8 : Int32))] [(.ref b5)])) _
    jvm_step X45.here [X45.here.top, hx, (hb hby d6_40), X45.method', Bd.returns, Value.isRef, FieldType.isReference]
    first | (intro acts; rw [hr _ acts rfl rfl rfl]) | rw [hr _ _ rfl rfl rfl]
    exact Steps.refl _
  · show Q6_8 Z aa0 fi la h0 n0 _ T45.heap _
    rw [e45]
    exact ⟨b5, k5, rfl, N45, K45, g_b5, sz_b5, V45⟩
theorem pn_com_example_escapement_escapement_cli_PartitionSitesPinLaw : plainName "com/example/escapement/escapement/cli/PartitionSitesPinLaw" = true := by first | (simp [plainName, overriddenIn]; done) | decide +kernel
theorem d7_0 : decode method_3_code 0 = .ok (.iload_n 1, 1) := by decide +kernel
theorem d7_1 : decode method_3_code 1 = .ok (.aload_n 0, 1) := by decide +kernel
theorem d7_2 : decode method_3_code 2 = .ok (.arraylength, 1) := by decide +kernel
theorem d7_3 : decode method_3_code 3 = .ok (.if_icmp .ge 14, 3) := by decide +kernel
theorem d7_6 : decode method_3_code 6 = .ok (.aload_n 0, 1) := by decide +kernel
theorem d7_7 : decode method_3_code 7 = .ok (.iload_n 1, 1) := by decide +kernel
theorem d7_8 : decode method_3_code 8 = .ok (.iaload, 1) := by decide +kernel
theorem d7_9 : decode method_3_code 9 = .ok (.iload_n 2, 1) := by decide +kernel
theorem d7_10 : decode method_3_code 10 = .ok (.iconst 1, 1) := by decide +kernel
theorem d7_11 : decode method_3_code 11 = .ok (.isub, 1) := by decide +kernel
theorem d7_12 : decode method_3_code 12 = .ok (.iload_n 1, 1) := by decide +kernel
theorem d7_13 : decode method_3_code 13 = .ok (.iadd, 1) := by decide +kernel
theorem d7_14 : decode method_3_code 14 = .ok (.if_icmp .ne 7, 3) := by decide +kernel
theorem d7_17 : decode method_3_code 17 = .ok (.iconst 1, 1) := by decide +kernel
theorem d7_18 : decode method_3_code 18 = .ok (.goto 4, 3) := by decide +kernel
theorem d7_22 : decode method_3_code 22 = .ok (.ireturn, 1) := by decide +kernel
theorem ef_7 (m : MethodId) (x0 : Addr) (x1 : Int32) (x2 : Int32) : entryFrame m #[(.ref x0), (.int x1), (.int x2)] 3 = mkF m 0 #[.val (.ref x0), .val (.int x1), .val (.int x2)] [] := by first | (simp [entryFrame, mkF, argsToLocals, Value.category]; done) | rfl
def Q7 (Z : State) (aa1 : Addr) (pp2 : Int32) (pp3 : Int32) (kx : ClassId) (nn : Int32) (vx : List Value) (h0 : Heap) (n0 : Nat) (v : Option Value) (h : Heap) (L : List Loc) : Prop := v = some (.int (1 : Int32)) ∧ Fr n0 L ∧ h = h0
set_option maxRecDepth 65536 in
set_option maxHeartbeats 40000000 in
theorem rm7 (l : Launch) (Z : State) (a0 : Array Value) (hw : ∀ d ∈ tables_1, d.before a0 Z = true) (ws : List Jvm.Cond) (aa1 : Addr) (pp2 : Int32) (pp3 : Int32) (kx : ClassId) (nn : Int32) (vx : List Value) (h0 : Heap) (n0 : Nat) (Z0 : n0 ≤ h0.size) (V_aa1 : Arv Z h0 aa1 kx .int nn vx (.int (0 : Int32))) (hn : ¬ pp2 < (0 : Int32)) (hv : pp2 < nn → (vx : List Value).getD (pp2).toNatClampNeg (.int (0 : Int32)) = .int ((pp3 - (1 : Int32)) + pp2)) :
    MetFree l (⟨"com/example/escapement/escapement/cli/PartitionSitesPinLaw", "at", "([III)Z"⟩ : MethodName) (head1 (Jvm.Cond.code (⟨"com/example/escapement/escapement/cli/PartitionSitesPinLaw", "at", "([III)Z"⟩ : MethodName) method_3_code 3 (some .boolean) :: ws) ({ frames := 0, cells := 0, slots := 0, locals := 0 } : Room)) (fun a U => a = #[(.ref aa1), (.int pp2), (.int pp3)] ∧ Z.Warmed39 U.vm ∧ U.heap = h0) (fun _ _ _ _ _ => True) (fun _ U o U' => ∃ v L, o = .returned v ∧ Q7 Z aa1 pp2 pp3 kx nn vx h0 n0 v U'.heap L ∧ FrameEnd U o U' L ({ frames := 0, cells := 0, slots := 0, locals := 0 } : Room).cells ({ frames := 0, cells := 0, slots := 0, locals := 0 } : Room).slots) := by
  refine MetFree.of_bodySF (plainFor_of_name pn_com_example_escapement_escapement_cli_PartitionSitesPinLaw) hisR ?_
  intro p e s m args below meth c s₁ Bd hml0 hP hK
  obtain ⟨rfl, hZ, hh⟩ := hP
  have hx := Bd.exec
  have hby := Bd.bytes
  have hml : c.maxLocals = 3 := hml0
  have hown : s.vm.findClass "com/example/escapement/escapement/cli/PartitionSitesPinLaw" = some m.cls := findClass_of_methodNamed Bd.named
  have hnm := (name_of_methodNamed Bd.named Bd.method).1
  have X0 : Stand p l e ({ frames := 0, cells := 0, slots := 0, locals := 0 } : Room) s m #[(.ref aa1), (.int pp2), (.int pp3)] below meth c s₁ [] 0 0 := Stand.of_body Bd
  have e0 : s₁.heap = h0 := by rw [← hh, Bd.state]; rfl
  have N0 := Fr.nil n0
  have pre0 : ∀ t, Steps p.tables e below (s₁.setTop (mkF m 0 #[.val (.ref aa1), .val (.int pp2), .val (.int pp3)] [])) t → Steps p.tables e below (s₁.setTop (entryFrame m #[(.ref aa1), (.int pp2), (.int pp3)] 3)) t := fun t k => castTop (ef_7 m aa1 pp2 pp3) k
  obtain ⟨cl_1, Ar_1, -, Sz_1, Nn_1, -, -⟩ := id V_aa1
  have pre2 : ∀ t, Steps p.tables e below (s₁.setTop (mkF m 3 #[.val (.ref aa1), .val (.int pp2), .val (.int pp3)] [(.int nn), (.int pp2)])) t → Steps p.tables e below (s₁.setTop (entryFrame m #[(.ref aa1), (.int pp2), (.int pp3)] 3)) t := fun t kt => pre0 t (by
    show Steps p.tables e below (s₁.setTop (mkF m 0 #[.val (.ref aa1), .val (.int pp2), .val (.int pp3)] [])) _
    refine XS.iloadN X0.here hx rfl (hb hby d7_0) rfl ?_
    show Steps p.tables e below (s₁.setTop (mkF m 1 #[.val (.ref aa1), .val (.int pp2), .val (.int pp3)] [(.int pp2)])) _
    refine XS.aloadN X0.here hx rfl (hb hby d7_1) rfl rfl ?_
    show Steps p.tables e below (s₁.setTop (mkF m 2 #[.val (.ref aa1), .val (.int pp2), .val (.int pp3)] [(.ref aa1), (.int pp2)])) _
    refine X0.arraylength hx (by rw [e0]; exact Ar_1.1) (State.isArrayOf_alike hZ.alike Ar_1.2.1) (g := (mkF m 2 #[.val (.ref aa1), .val (.int pp2), .val (.int pp3)] [(.ref aa1), (.int pp2)])) rfl rfl (hb hby d7_2) _ ?_
    rw [len_of Sz_1 Nn_1]
    exact kt)
  by_cases hc3 : pp2 < nn
  · skip
    obtain ⟨cl_3, Ar_3, qq_3, Sz_3, Nn_3, Hh_3, Gg_3⟩ := id V_aa1
    have hin_3 : ¬ (pp2 < 0 ∨ cl_3.slots.size ≤ (pp2).toNatClampNeg) := inb_of Sz_3 ⟨hn, hc3⟩
    have hat_3 : cl_3.slots[(pp2).toNatClampNeg]? = some (.int ((pp3 - (1 : Int32)) + pp2)) := Has.at Hh_3 hin_3 (hv hc3)
    obtain ⟨fs, hr, hrun, hended, hW, hsame⟩ := X0.leave (v := some (.int (1 : Int32))) (fun h => by rw [Bd.returns] at h; cases h)
    refine ⟨_, _, pre2 _ ?_, hrun, hended, _, _, rfl, ?_, ⟨_, rfl⟩, hW, hsame.mono (by decide) (by decide)⟩
    · show Steps p.tables e below (s₁.setTop (mkF m 3 #[.val (.ref aa1), .val (.int pp2), .val (.int pp3)] [(.int nn), (.int pp2)])) _
      refine XS.icmpNo X0.here hx rfl (hb hby d7_3) rfl (tlt hc3).2.1 ?_
      show Steps p.tables e below (s₁.setTop (mkF m 6 #[.val (.ref aa1), .val (.int pp2), .val (.int pp3)] [])) _
      refine XS.aloadN X0.here hx rfl (hb hby d7_6) rfl rfl ?_
      show Steps p.tables e below (s₁.setTop (mkF m 7 #[.val (.ref aa1), .val (.int pp2), .val (.int pp3)] [(.ref aa1)])) _
      refine XS.iloadN X0.here hx rfl (hb hby d7_7) rfl ?_
      show Steps p.tables e below (s₁.setTop (mkF m 8 #[.val (.ref aa1), .val (.int pp2), .val (.int pp3)] [(.int pp2), (.ref aa1)])) _
      refine X0.iaload hx (j := pp2) (v := (.int ((pp3 - (1 : Int32)) + pp2))) (by rw [e0]; exact Ar_3.1) (State.isArrayOf_alike hZ.alike Ar_3.2.1) Ar_3.2.2 hin_3 hat_3 (g := (mkF m 8 #[.val (.ref aa1), .val (.int pp2), .val (.int pp3)] [(.int pp2), (.ref aa1)])) rfl rfl (hb hby d7_8) _ ?_
      show Steps p.tables e below (s₁.setTop (mkF m 9 #[.val (.ref aa1), .val (.int pp2), .val (.int pp3)] [(.int ((pp3 - (1 : Int32)) + pp2))])) _
      refine XS.iloadN X0.here hx rfl (hb hby d7_9) rfl ?_
      show Steps p.tables e below (s₁.setTop (mkF m 10 #[.val (.ref aa1), .val (.int pp2), .val (.int pp3)] [(.int pp3), (.int ((pp3 - (1 : Int32)) + pp2))])) _
      refine XS.iconst X0.here hx rfl (hb hby d7_10) ?_
      show Steps p.tables e below (s₁.setTop (mkF m 11 #[.val (.ref aa1), .val (.int pp2), .val (.int pp3)] [(.int (1 : Int32)), (.int pp3), (.int ((pp3 - (1 : Int32)) + pp2))])) _
      refine XS.isub X0.here hx rfl (hb hby d7_11) rfl ?_
      show Steps p.tables e below (s₁.setTop (mkF m 12 #[.val (.ref aa1), .val (.int pp2), .val (.int pp3)] [(.int (pp3 - (1 : Int32))), (.int ((pp3 - (1 : Int32)) + pp2))])) _
      refine XS.iloadN X0.here hx rfl (hb hby d7_12) rfl ?_
      show Steps p.tables e below (s₁.setTop (mkF m 13 #[.val (.ref aa1), .val (.int pp2), .val (.int pp3)] [(.int pp2), (.int (pp3 - (1 : Int32))), (.int ((pp3 - (1 : Int32)) + pp2))])) _
      refine XS.iadd X0.here hx rfl (hb hby d7_13) rfl ?_
      show Steps p.tables e below (s₁.setTop (mkF m 14 #[.val (.ref aa1), .val (.int pp2), .val (.int pp3)] [(.int ((pp3 - (1 : Int32)) + pp2)), (.int ((pp3 - (1 : Int32)) + pp2))])) _
      refine XS.icmpNo X0.here hx rfl (hb hby d7_14) rfl (teq (rfl : ((pp3 - (1 : Int32)) + pp2) = ((pp3 - (1 : Int32)) + pp2))).2 ?_
      show Steps p.tables e below (s₁.setTop (mkF m 17 #[.val (.ref aa1), .val (.int pp2), .val (.int pp3)] [])) _
      refine XS.iconst X0.here hx rfl (hb hby d7_17) ?_
      show Steps p.tables e below (s₁.setTop (mkF m 18 #[.val (.ref aa1), .val (.int pp2), .val (.int pp3)] [(.int (1 : Int32))])) _
      refine XS.goto X0.here hx rfl (pc0 := 18) (pc' := 22) rfl (hb hby d7_18) (by decide) (by decide) ?_
      show Steps p.tables e below (s₁.setTop (mkF m 22 #[.val (.ref aa1), .val (.int pp2), .val (.int pp3)] [(.int (1 : Int32))])) _
      exact retN X0 hx (t := .boolean) Bd.returns (by simp) (hb hby d7_22) hr
    · show Q7 Z aa1 pp2 pp3 kx nn vx h0 n0 _ s₁.heap _
      rw [e0]
      exact ⟨rfl, N0, rfl⟩
  · skip
    obtain ⟨fs, hr, hrun, hended, hW, hsame⟩ := X0.leave (v := some (.int (1 : Int32))) (fun h => by rw [Bd.returns] at h; cases h)
    refine ⟨_, _, pre2 _ ?_, hrun, hended, _, _, rfl, ?_, ⟨_, rfl⟩, hW, hsame.mono (by decide) (by decide)⟩
    · show Steps p.tables e below (s₁.setTop (mkF m 3 #[.val (.ref aa1), .val (.int pp2), .val (.int pp3)] [(.int nn), (.int pp2)])) _
      refine XS.icmpYes X0.here hx rfl (pc0 := 3) (pc' := 17) rfl (hb hby d7_3) rfl (flt hc3).2.1 (by decide) (by decide) ?_
      show Steps p.tables e below (s₁.setTop (mkF m 17 #[.val (.ref aa1), .val (.int pp2), .val (.int pp3)] [])) _
      refine XS.iconst X0.here hx rfl (hb hby d7_17) ?_
      show Steps p.tables e below (s₁.setTop (mkF m 18 #[.val (.ref aa1), .val (.int pp2), .val (.int pp3)] [(.int (1 : Int32))])) _
      refine XS.goto X0.here hx rfl (pc0 := 18) (pc' := 22) rfl (hb hby d7_18) (by decide) (by decide) ?_
      show Steps p.tables e below (s₁.setTop (mkF m 22 #[.val (.ref aa1), .val (.int pp2), .val (.int pp3)] [(.int (1 : Int32))])) _
      exact retN X0 hx (t := .boolean) Bd.returns (by simp) (hb hby d7_22) hr
    · show Q7 Z aa1 pp2 pp3 kx nn vx h0 n0 _ s₁.heap _
      rw [e0]
      exact ⟨rfl, N0, rfl⟩
theorem pd__28_II_29_I : parseMethodDescriptor "(II)I" = some ⟨[.int, .int], some .int⟩ := by decide +kernel
theorem own_str_in : ∀ w ∈ Bundle.stringAtoms, w ∈ tables_1 := by decide +kernel
theorem pd__28_Ljava_2f_lang_2f_String_3b_II_29_V : parseMethodDescriptor "(Ljava/lang/String;II)V" = some ⟨[(.object "java/lang/String"), .int, .int], none⟩ := by decide +kernel
theorem pd__28__29__5b_I : parseMethodDescriptor "()[I" = some ⟨[], some (.array .int)⟩ := by decide +kernel
theorem pd__28__5b_III_29_Z : parseMethodDescriptor "([III)Z" = some ⟨[(.array .int), .int, .int], some .boolean⟩ := by decide +kernel
theorem ef_0 (m : MethodId) (x0 : Int32) (x1 : Int32) : entryFrame m #[(.int x0), (.int x1)] maxLocals = mkF m 0 #[.val (.int x0), .val (.int x1), .unset, .unset, .unset, .unset, .unset] [] := by first | (simp [entryFrame, mkF, argsToLocals, Value.category, maxLocals]; done) | rfl
def Q0 (Z : State) (pp1 : Int32) (pp2 : Int32) (h0 : Heap) (n0 : Nat) (v : Option Value) (h : Heap) (L : List Loc) : Prop := v = some (.int 1) ∧ Fr n0 L
set_option maxRecDepth 65536 in
set_option maxHeartbeats 40000000 in
theorem rm0 (l : Launch) (Z : State) (a0 : Array Value) (hw : ∀ d ∈ tables_1, d.before a0 Z = true) (ws : List Jvm.Cond) (pp1 : Int32) (pp2 : Int32) (h0 : Heap) (n0 : Nat) (Z0 : n0 ≤ h0.size) :
    MetFree l x (head1 (Jvm.Cond.code x code maxLocals ret :: ws) room_1) (fun a U => a = #[(.int pp1), (.int pp2)] ∧ Z.Warmed39 U.vm ∧ U.heap = h0) (fun _ _ _ _ _ => True) (fun _ U o U' => ∃ v L, o = .returned v ∧ Q0 Z pp1 pp2 h0 n0 v U'.heap L ∧ ReturnedEndW U o U' L room_1.cells room_1.slots) := by
  refine MetFree.of_bodySF (plainFor_of_name pn_com_example_escapement_escapement_cli_PartitionSitesPinLaw) hisR ?_
  intro p e s m args below meth c s₁ Bd hml0 hP hK
  obtain ⟨rfl, hZ, hh⟩ := hP
  have hx := Bd.exec
  have hby := Bd.bytes
  have hml : c.maxLocals = 7 := hml0
  have hown : s.vm.findClass "com/example/escapement/escapement/cli/PartitionSitesPinLaw" = some m.cls := findClass_of_methodNamed Bd.named
  have hnm := (name_of_methodNamed Bd.named Bd.method).1
  have X0 : Stand p l e room_1 s m #[(.int pp1), (.int pp2)] below meth c s₁ [] 0 0 := Stand.of_body Bd
  have e0 : s₁.heap = h0 := by rw [← hh, Bd.state]; rfl
  have N0 := Fr.nil n0
  have pre0 : ∀ t, Steps p.tables e below (s₁.setTop (mkF m 0 #[.val (.int pp1), .val (.int pp2), .unset, .unset, .unset, .unset, .unset] [])) t → Steps p.tables e below (s₁.setTop (entryFrame m #[(.int pp1), (.int pp2)] maxLocals)) t := fun t k => castTop (ef_0 m pp1 pp2) k
  have hS0 : s.Since s.vm h0.size := (State.WarmedH.refl s).since _
  have pre1 : ∀ t, Steps p.tables e below (s₁.setTop (mkF m 7 #[.val (.int pp1), .val (.int pp2), .val (.int ((pp2 &&& (7 : Int32)) + (1 : Int32))), .unset, .unset, .unset, .unset] [])) t → Steps p.tables e below (s₁.setTop (entryFrame m #[(.int pp1), (.int pp2)] maxLocals)) t := fun t kt => pre0 t (by
    show Steps p.tables e below (s₁.setTop (mkF m 0 #[.val (.int pp1), .val (.int pp2), .unset, .unset, .unset, .unset, .unset] [])) _
    refine XS.iloadN X0.here hx rfl (hb hby at_0) rfl ?_
    show Steps p.tables e below (s₁.setTop (mkF m 1 #[.val (.int pp1), .val (.int pp2), .unset, .unset, .unset, .unset, .unset] [(.int pp2)])) _
    refine XS.bipush X0.here hx rfl (hb hby at_1) ?_
    show Steps p.tables e below (s₁.setTop (mkF m 3 #[.val (.int pp1), .val (.int pp2), .unset, .unset, .unset, .unset, .unset] [(.int (7 : Int32)), (.int pp2)])) _
    refine XS.iand X0.here hx rfl (hb hby at_3) rfl ?_
    show Steps p.tables e below (s₁.setTop (mkF m 4 #[.val (.int pp1), .val (.int pp2), .unset, .unset, .unset, .unset, .unset] [(.int (pp2 &&& (7 : Int32)))])) _
    refine XS.iconst X0.here hx rfl (hb hby at_4) ?_
    show Steps p.tables e below (s₁.setTop (mkF m 5 #[.val (.int pp1), .val (.int pp2), .unset, .unset, .unset, .unset, .unset] [(.int (1 : Int32)), (.int (pp2 &&& (7 : Int32)))])) _
    refine XS.iadd X0.here hx rfl (hb hby at_5) rfl ?_
    show Steps p.tables e below (s₁.setTop (mkF m 6 #[.val (.int pp1), .val (.int pp2), .unset, .unset, .unset, .unset, .unset] [(.int ((pp2 &&& (7 : Int32)) + (1 : Int32)))])) _
    refine XS.istoreN X0.here hx rfl (hb hby at_6) rfl (l' := #[.val (.int pp1), .val (.int pp2), .val (.int ((pp2 &&& (7 : Int32)) + (1 : Int32))), .unset, .unset, .unset, .unset]) rfl ?_
    exact kt)
  obtain ⟨cc, h_cc, pre2⟩ : ∃ (cc : Int32), (cc = (1 : Int32) ∨ cc = (2 : Int32) ∨ cc = (3 : Int32) ∨ cc = (4 : Int32) ∨ cc = (5 : Int32) ∨ cc = (6 : Int32) ∨ cc = (7 : Int32) ∨ cc = (8 : Int32)) ∧ ∀ t, Steps p.tables e below (s₁.setTop (mkF m 7 #[.val (.int pp1), .val (.int pp2), .val (.int cc), .unset, .unset, .unset, .unset] [])) t → Steps p.tables e below (s₁.setTop (entryFrame m #[(.int pp1), (.int pp2)] maxLocals)) t := ⟨((pp2 &&& (7 : Int32)) + (1 : Int32)), own_cnt _, pre1⟩
  rcases h_cc with rfl | rfl | rfl | rfl | rfl | rfl | rfl | rfl
  · skip
    obtain ⟨_, _, ⟨T3, L3, k3, n3⟩, -, X3, ⟨Lc3, hQ3, l3, y3, z3⟩, st3⟩ := Jvm.LawKit.callS X0 hx (y := (⟨"java/lang/Math", "max", "(II)I"⟩ : MethodName)) hown (mvT hZ (hw _ (List.mem_of_getElem? (i := 1) rfl))) (mvT hZ (hw _ (List.mem_of_getElem? (i := 2) rfl))) (mvT hZ (hw _ (List.mem_of_getElem? (i := 3) rfl))) (mvT hZ (hw _ (List.mem_of_getElem? (i := 4) rfl))) (by decide) (backOf (W := 0) (rm1 l Z a0 hw [] (1 : Int32) (pp1 &&& (2147483647 : Int32)) h0 n0 Z0 ) hZ (hw _ (List.mem_of_getElem? (i := 4) rfl)) (hw _ (List.mem_of_getElem? (i := 3) rfl)) (by decide) (by decide)) (g := (mkF m 12 #[.val (.int pp1), .val (.int pp2), .val (.int (1 : Int32)), .unset, .unset, .unset, .unset] [(.int (pp1 &&& (2147483647 : Int32))), (.int (1 : Int32))])) rfl (by rw [hml]; rfl) (argsL := [(.int (1 : Int32)), (.int (pp1 &&& (2147483647 : Int32)))]) (rest := []) (lenOf pd__28_II_29_I rfl) rfl (by show 2 * 0 + _ ≤ _; exact Nat.le_of_eq rfl) (hb hby at_12) (fun _ _ => ⟨rfl, e0, (by decide : 0 + 0 ≤ _), (by decide : 0 + 0 ≤ _)⟩)
    dsimp only [Pt.U, Pt.locs, Pt.cells, Pt.slots] at X3 l3 y3 z3 st3 hQ3
    subst l3 y3 z3
    obtain ⟨rfl, N3q, e3⟩ := hQ3
    have N3 := Fr.app N0 N3q
    obtain ⟨_, _, ⟨T4, L4, k4, n4⟩, -, X4, ⟨Lc4, hQ4, l4, y4, z4⟩, st4⟩ := Jvm.LawKit.callS X3 hx (y := (⟨"java/lang/Math", "min", "(II)I"⟩ : MethodName)) hown (mvT hZ (hw _ (List.mem_of_getElem? (i := 5) rfl))) (mvT hZ (hw _ (List.mem_of_getElem? (i := 6) rfl))) (mvT hZ (hw _ (List.mem_of_getElem? (i := 3) rfl))) (mvT hZ (hw _ (List.mem_of_getElem? (i := 7) rfl))) (by decide) (backOf (W := 0) (rm2 l Z a0 hw [] (if (1 : Int32) < (pp1 &&& (2147483647 : Int32)) then (pp1 &&& (2147483647 : Int32)) else (1 : Int32)) (2147483647 : Int32) h0 n0 Z0 ) hZ (hw _ (List.mem_of_getElem? (i := 7) rfl)) (hw _ (List.mem_of_getElem? (i := 3) rfl)) (by decide) (by decide)) (g := (mkF m 23 #[.val (.int pp1), .val (.int pp2), .val (.int (1 : Int32)), .val (.int (if (1 : Int32) < (pp1 &&& (2147483647 : Int32)) then (pp1 &&& (2147483647 : Int32)) else (1 : Int32))), .unset, .unset, .unset] [(.int (2147483647 : Int32)), (.int (if (1 : Int32) < (pp1 &&& (2147483647 : Int32)) then (pp1 &&& (2147483647 : Int32)) else (1 : Int32)))])) rfl (by rw [hml]; rfl) (argsL := [(.int (if (1 : Int32) < (pp1 &&& (2147483647 : Int32)) then (pp1 &&& (2147483647 : Int32)) else (1 : Int32))), (.int (2147483647 : Int32))]) (rest := []) (lenOf pd__28_II_29_I rfl) rfl (by show 2 * 0 + _ ≤ _; exact Nat.le_of_eq rfl) (hb hby at_23) (fun _ _ => ⟨rfl, e3, (by decide : 0 + 0 ≤ _), (by decide : 0 + 0 ≤ _)⟩)
    dsimp only [Pt.U, Pt.locs, Pt.cells, Pt.slots] at X4 l4 y4 z4 st4 hQ4
    subst l4 y4 z4
    obtain ⟨rfl, N4q, e4⟩ := hQ4
    have N4 := Fr.app N3 N4q
    have pre5 : ∀ t, Steps p.tables e below (T4.setTop (mkF m 27 #[.val (.int pp1), .val (.int pp2), .val (.int (1 : Int32)), .val (.int (if (2147483647 : Int32) < (if (1 : Int32) < (pp1 &&& (2147483647 : Int32)) then (pp1 &&& (2147483647 : Int32)) else (1 : Int32)) then (2147483647 : Int32) else (if (1 : Int32) < (pp1 &&& (2147483647 : Int32)) then (pp1 &&& (2147483647 : Int32)) else (1 : Int32)))), .unset, .unset, .unset] [])) t → Steps p.tables e below (s₁.setTop (entryFrame m #[(.int pp1), (.int pp2)] maxLocals)) t := fun t kt => pre2 t (by
      show Steps p.tables e below (s₁.setTop (mkF m 7 #[.val (.int pp1), .val (.int pp2), .val (.int (1 : Int32)), .unset, .unset, .unset, .unset] [])) _
      refine XS.iconst X0.here hx rfl (hb hby at_7) ?_
      show Steps p.tables e below (s₁.setTop (mkF m 8 #[.val (.int pp1), .val (.int pp2), .val (.int (1 : Int32)), .unset, .unset, .unset, .unset] [(.int (1 : Int32))])) _
      refine XS.iloadN X0.here hx rfl (hb hby at_8) rfl ?_
      show Steps p.tables e below (s₁.setTop (mkF m 9 #[.val (.int pp1), .val (.int pp2), .val (.int (1 : Int32)), .unset, .unset, .unset, .unset] [(.int pp1), (.int (1 : Int32))])) _
      refine X0.ldcInt hx hown (mvT hZ (hw _ (List.mem_of_getElem? (i := 0) rfl))) (g := (mkF m 9 #[.val (.int pp1), .val (.int pp2), .val (.int (1 : Int32)), .unset, .unset, .unset, .unset] [(.int pp1), (.int (1 : Int32))])) rfl (hb hby at_9) _ ?_
      show Steps p.tables e below (s₁.setTop (mkF m 11 #[.val (.int pp1), .val (.int pp2), .val (.int (1 : Int32)), .unset, .unset, .unset, .unset] [(.int (2147483647 : Int32)), (.int pp1), (.int (1 : Int32))])) _
      refine XS.iand X0.here hx rfl (hb hby at_11) rfl ?_
      show Steps p.tables e below (s₁.setTop (mkF m 12 #[.val (.int pp1), .val (.int pp2), .val (.int (1 : Int32)), .unset, .unset, .unset, .unset] [(.int (pp1 &&& (2147483647 : Int32))), (.int (1 : Int32))])) _
      refine st3 _ ?_
      show Steps p.tables e below (T3.setTop (mkF m 15 #[.val (.int pp1), .val (.int pp2), .val (.int (1 : Int32)), .unset, .unset, .unset, .unset] [(.int (if (1 : Int32) < (pp1 &&& (2147483647 : Int32)) then (pp1 &&& (2147483647 : Int32)) else (1 : Int32)))])) _
      refine XS.istoreN X3.here hx rfl (hb hby at_15) rfl (l' := #[.val (.int pp1), .val (.int pp2), .val (.int (1 : Int32)), .val (.int (if (1 : Int32) < (pp1 &&& (2147483647 : Int32)) then (pp1 &&& (2147483647 : Int32)) else (1 : Int32))), .unset, .unset, .unset]) rfl ?_
      show Steps p.tables e below (T3.setTop (mkF m 16 #[.val (.int pp1), .val (.int pp2), .val (.int (1 : Int32)), .val (.int (if (1 : Int32) < (pp1 &&& (2147483647 : Int32)) then (pp1 &&& (2147483647 : Int32)) else (1 : Int32))), .unset, .unset, .unset] [])) _
      refine XS.iloadN X3.here hx rfl (hb hby at_16) rfl ?_
      show Steps p.tables e below (T3.setTop (mkF m 17 #[.val (.int pp1), .val (.int pp2), .val (.int (1 : Int32)), .val (.int (if (1 : Int32) < (pp1 &&& (2147483647 : Int32)) then (pp1 &&& (2147483647 : Int32)) else (1 : Int32))), .unset, .unset, .unset] [(.int (if (1 : Int32) < (pp1 &&& (2147483647 : Int32)) then (pp1 &&& (2147483647 : Int32)) else (1 : Int32)))])) _
      refine X3.ldcInt hx hown (mvT hZ (hw _ (List.mem_of_getElem? (i := 0) rfl))) (g := (mkF m 17 #[.val (.int pp1), .val (.int pp2), .val (.int (1 : Int32)), .val (.int (if (1 : Int32) < (pp1 &&& (2147483647 : Int32)) then (pp1 &&& (2147483647 : Int32)) else (1 : Int32))), .unset, .unset, .unset] [(.int (if (1 : Int32) < (pp1 &&& (2147483647 : Int32)) then (pp1 &&& (2147483647 : Int32)) else (1 : Int32)))])) rfl (hb hby at_17) _ ?_
      show Steps p.tables e below (T3.setTop (mkF m 19 #[.val (.int pp1), .val (.int pp2), .val (.int (1 : Int32)), .val (.int (if (1 : Int32) < (pp1 &&& (2147483647 : Int32)) then (pp1 &&& (2147483647 : Int32)) else (1 : Int32))), .unset, .unset, .unset] [(.int (2147483647 : Int32)), (.int (if (1 : Int32) < (pp1 &&& (2147483647 : Int32)) then (pp1 &&& (2147483647 : Int32)) else (1 : Int32)))])) _
      refine XS.iloadN X3.here hx rfl (hb hby at_19) rfl ?_
      show Steps p.tables e below (T3.setTop (mkF m 20 #[.val (.int pp1), .val (.int pp2), .val (.int (1 : Int32)), .val (.int (if (1 : Int32) < (pp1 &&& (2147483647 : Int32)) then (pp1 &&& (2147483647 : Int32)) else (1 : Int32))), .unset, .unset, .unset] [(.int (1 : Int32)), (.int (2147483647 : Int32)), (.int (if (1 : Int32) < (pp1 &&& (2147483647 : Int32)) then (pp1 &&& (2147483647 : Int32)) else (1 : Int32)))])) _
      refine XS.isub X3.here hx rfl (hb hby at_20) rfl ?_
      show Steps p.tables e below (T3.setTop (mkF m 21 #[.val (.int pp1), .val (.int pp2), .val (.int (1 : Int32)), .val (.int (if (1 : Int32) < (pp1 &&& (2147483647 : Int32)) then (pp1 &&& (2147483647 : Int32)) else (1 : Int32))), .unset, .unset, .unset] [(.int (2147483646 : Int32)), (.int (if (1 : Int32) < (pp1 &&& (2147483647 : Int32)) then (pp1 &&& (2147483647 : Int32)) else (1 : Int32)))])) _
      refine XS.iconst X3.here hx rfl (hb hby at_21) ?_
      show Steps p.tables e below (T3.setTop (mkF m 22 #[.val (.int pp1), .val (.int pp2), .val (.int (1 : Int32)), .val (.int (if (1 : Int32) < (pp1 &&& (2147483647 : Int32)) then (pp1 &&& (2147483647 : Int32)) else (1 : Int32))), .unset, .unset, .unset] [(.int (1 : Int32)), (.int (2147483646 : Int32)), (.int (if (1 : Int32) < (pp1 &&& (2147483647 : Int32)) then (pp1 &&& (2147483647 : Int32)) else (1 : Int32)))])) _
      refine XS.iadd X3.here hx rfl (hb hby at_22) rfl ?_
      show Steps p.tables e below (T3.setTop (mkF m 23 #[.val (.int pp1), .val (.int pp2), .val (.int (1 : Int32)), .val (.int (if (1 : Int32) < (pp1 &&& (2147483647 : Int32)) then (pp1 &&& (2147483647 : Int32)) else (1 : Int32))), .unset, .unset, .unset] [(.int (2147483647 : Int32)), (.int (if (1 : Int32) < (pp1 &&& (2147483647 : Int32)) then (pp1 &&& (2147483647 : Int32)) else (1 : Int32)))])) _
      refine st4 _ ?_
      show Steps p.tables e below (T4.setTop (mkF m 26 #[.val (.int pp1), .val (.int pp2), .val (.int (1 : Int32)), .val (.int (if (1 : Int32) < (pp1 &&& (2147483647 : Int32)) then (pp1 &&& (2147483647 : Int32)) else (1 : Int32))), .unset, .unset, .unset] [(.int (if (2147483647 : Int32) < (if (1 : Int32) < (pp1 &&& (2147483647 : Int32)) then (pp1 &&& (2147483647 : Int32)) else (1 : Int32)) then (2147483647 : Int32) else (if (1 : Int32) < (pp1 &&& (2147483647 : Int32)) then (pp1 &&& (2147483647 : Int32)) else (1 : Int32))))])) _
      refine XS.istoreN X4.here hx rfl (hb hby at_26) rfl (l' := #[.val (.int pp1), .val (.int pp2), .val (.int (1 : Int32)), .val (.int (if (2147483647 : Int32) < (if (1 : Int32) < (pp1 &&& (2147483647 : Int32)) then (pp1 &&& (2147483647 : Int32)) else (1 : Int32)) then (2147483647 : Int32) else (if (1 : Int32) < (pp1 &&& (2147483647 : Int32)) then (pp1 &&& (2147483647 : Int32)) else (1 : Int32)))), .unset, .unset, .unset]) rfl ?_
      exact kt)
    obtain ⟨fi, pre6⟩ : ∃ (fi : Int32), ∀ t, Steps p.tables e below (T4.setTop (mkF m 27 #[.val (.int pp1), .val (.int pp2), .val (.int (1 : Int32)), .val (.int fi), .unset, .unset, .unset] [])) t → Steps p.tables e below (s₁.setTop (entryFrame m #[(.int pp1), (.int pp2)] maxLocals)) t := ⟨(if (2147483647 : Int32) < (if (1 : Int32) < (pp1 &&& (2147483647 : Int32)) then (pp1 &&& (2147483647 : Int32)) else (1 : Int32)) then (2147483647 : Int32) else (if (1 : Int32) < (pp1 &&& (2147483647 : Int32)) then (pp1 &&& (2147483647 : Int32)) else (1 : Int32))), pre5⟩
    obtain ⟨T7, h7, X7, e7, E7, A7, D7, -, st7⟩ := newO X4 hx hZ hown (hw _ (List.mem_of_getElem? (i := 8) rfl)) (hw _ (List.mem_of_getElem? (i := 9) rfl)) (hw _ (List.mem_of_getElem? (i := 10) rfl)) e4 (g := (mkF m 34 #[.val (.int pp1), .val (.int pp2), .val (.int (1 : Int32)), .val (.int fi), .val (.int ((fi + (1 : Int32)) - (1 : Int32))), .unset, .unset] [])) rfl (hb hby at_34) (by decide) (by decide)
    obtain ⟨b7, g7⟩ : ∃ z, z = h0.size := ⟨_, rfl⟩
    rw [← g7] at A7 D7 st7
    have g_b7 : n0 ≤ b7 := Nat.le_trans Z0 (Nat.le_of_eq g7.symm)
    have Z7 : n0 ≤ h7.size := Nat.le_trans Z0 E7.1
    have kz7 := Nat.le_trans (Nat.le_refl _) E7.1
    have F7_name : Fld Z h7 b7 "com/example/escapement/escapement/cli/PartitionTable$Partition" "name" "Ljava/lang/String;" .null := D7 (Or.inr (hw _ (List.mem_of_getElem? (i := 31) rfl))) (ty := (.object "java/lang/String")) (by decide)
    have F7_first : Fld Z h7 b7 "com/example/escapement/escapement/cli/PartitionTable$Partition" "first" "I" (.int (0 : Int32)) := D7 (Or.inr (hw _ (List.mem_of_getElem? (i := 33) rfl))) (ty := .int) (by decide)
    have F7_last : Fld Z h7 b7 "com/example/escapement/escapement/cli/PartitionTable$Partition" "last" "I" (.int (0 : Int32)) := D7 (Or.inr (hw _ (List.mem_of_getElem? (i := 35) rfl))) (ty := .int) (by decide)
    have pre8 : ∀ t, Steps p.tables e below (T7.setTop (mkF m 38 #[.val (.int pp1), .val (.int pp2), .val (.int (1 : Int32)), .val (.int fi), .val (.int ((fi + (1 : Int32)) - (1 : Int32))), .unset, .unset] [(.ref b7), (.ref b7)])) t → Steps p.tables e below (s₁.setTop (entryFrame m #[(.int pp1), (.int pp2)] maxLocals)) t := fun t kt => pre6 t (by
      show Steps p.tables e below (T4.setTop (mkF m 27 #[.val (.int pp1), .val (.int pp2), .val (.int (1 : Int32)), .val (.int fi), .unset, .unset, .unset] [])) _
      refine XS.iloadN X4.here hx rfl (hb hby at_27) rfl ?_
      show Steps p.tables e below (T4.setTop (mkF m 28 #[.val (.int pp1), .val (.int pp2), .val (.int (1 : Int32)), .val (.int fi), .unset, .unset, .unset] [(.int fi)])) _
      refine XS.iloadN X4.here hx rfl (hb hby at_28) rfl ?_
      show Steps p.tables e below (T4.setTop (mkF m 29 #[.val (.int pp1), .val (.int pp2), .val (.int (1 : Int32)), .val (.int fi), .unset, .unset, .unset] [(.int (1 : Int32)), (.int fi)])) _
      refine XS.iadd X4.here hx rfl (hb hby at_29) rfl ?_
      show Steps p.tables e below (T4.setTop (mkF m 30 #[.val (.int pp1), .val (.int pp2), .val (.int (1 : Int32)), .val (.int fi), .unset, .unset, .unset] [(.int (fi + (1 : Int32)))])) _
      refine XS.iconst X4.here hx rfl (hb hby at_30) ?_
      show Steps p.tables e below (T4.setTop (mkF m 31 #[.val (.int pp1), .val (.int pp2), .val (.int (1 : Int32)), .val (.int fi), .unset, .unset, .unset] [(.int (1 : Int32)), (.int (fi + (1 : Int32)))])) _
      refine XS.isub X4.here hx rfl (hb hby at_31) rfl ?_
      show Steps p.tables e below (T4.setTop (mkF m 32 #[.val (.int pp1), .val (.int pp2), .val (.int (1 : Int32)), .val (.int fi), .unset, .unset, .unset] [(.int ((fi + (1 : Int32)) - (1 : Int32)))])) _
      refine XS.istore X4.here hx rfl (hb hby at_32) rfl (l' := #[.val (.int pp1), .val (.int pp2), .val (.int (1 : Int32)), .val (.int fi), .val (.int ((fi + (1 : Int32)) - (1 : Int32))), .unset, .unset]) rfl ?_
      show Steps p.tables e below (T4.setTop (mkF m 34 #[.val (.int pp1), .val (.int pp2), .val (.int (1 : Int32)), .val (.int fi), .val (.int ((fi + (1 : Int32)) - (1 : Int32))), .unset, .unset] [])) _
      refine st7 _ ?_
      show Steps p.tables e below (T7.setTop (mkF m 37 #[.val (.int pp1), .val (.int pp2), .val (.int (1 : Int32)), .val (.int fi), .val (.int ((fi + (1 : Int32)) - (1 : Int32))), .unset, .unset] [(.ref b7)])) _
      refine XS.dup X7.here hx rfl (hb hby at_37) rfl rfl ?_
      exact kt)
    obtain ⟨a9, T9, h9, kk9, X9, e9, E9, hS9, kz9, hZ, hown, st9⟩ := ldcS (s := s) (vm0 := s.vm) X7 hx hZ hown (hw _ (List.mem_of_getElem? (i := 11) rfl)) (fun d hd => hw d (own_str_in d hd)) e7 hS0 kz7 (g := (mkF m 38 #[.val (.int pp1), .val (.int pp2), .val (.int (1 : Int32)), .val (.int fi), .val (.int ((fi + (1 : Int32)) - (1 : Int32))), .unset, .unset] [(.ref b7), (.ref b7)])) rfl (hb hby at_38) (n := 4) (by decide) (by decide) (by decide) (by decide)
    have Z9 : n0 ≤ h9.size := Nat.le_trans Z7 E9.1
    have E_10 : Exa Z h9 b7 "com/example/escapement/escapement/cli/PartitionTable$Partition" := (A7.ext E9)
    have F_11 : Fld Z h9 b7 "com/example/escapement/escapement/cli/PartitionTable$Partition" "name" "Ljava/lang/String;" .null := (F7_name.ext E9)
    have F_12 : Fld Z h9 b7 "com/example/escapement/escapement/cli/PartitionTable$Partition" "first" "I" (.int (0 : Int32)) := (F7_first.ext E9)
    have F_13 : Fld Z h9 b7 "com/example/escapement/escapement/cli/PartitionTable$Partition" "last" "I" (.int (0 : Int32)) := (F7_last.ext E9)
    obtain ⟨_, _, ⟨T14, L14, k14, n14⟩, -, X14, ⟨Lc14, hQ14, l14, y14, z14⟩, st14⟩ := X9.specialBack hx (y := (⟨"com/example/escapement/escapement/cli/PartitionTable$Partition", "<init>", "(Ljava/lang/String;II)V"⟩ : MethodName)) rfl hown (mvT hZ (hw _ (List.mem_of_getElem? (i := 19) rfl))) (mvT hZ (hw _ (List.mem_of_getElem? (i := 20) rfl))) (mvT hZ (hw _ (List.mem_of_getElem? (i := 21) rfl))) (by decide) (backOf (W := 1) (rm3 l Z a0 hw [] b7 a9 fi ((fi + (1 : Int32)) - (1 : Int32)) .null (.int (0 : Int32)) (.int (0 : Int32)) h9 n0 Z9 E_10 g_b7 F_11 F_12 F_13) hZ (hw _ (List.mem_of_getElem? (i := 21) rfl)) (hw _ (List.mem_of_getElem? (i := 10) rfl)) (by decide) (by decide)) (g := (mkF m 43 #[.val (.int pp1), .val (.int pp2), .val (.int (1 : Int32)), .val (.int fi), .val (.int ((fi + (1 : Int32)) - (1 : Int32))), .unset, .unset] [(.int ((fi + (1 : Int32)) - (1 : Int32))), (.int fi), (.ref a9), (.ref b7), (.ref b7)])) rfl (by rw [hml]; rfl) (Steps.refl _) (a := b7) (argsL := [(.ref a9), (.int fi), (.int ((fi + (1 : Int32)) - (1 : Int32)))]) (rest := [(.ref b7)]) (lenOf pd__28_Ljava_2f_lang_2f_String_3b_II_29_V rfl) rfl (by show 2 * 0 + _ ≤ _; exact Nat.le_of_eq rfl) (hb hby at_43) (fun _ _ => ⟨rfl, e9, (by decide : 3 + 0 ≤ _), (by decide : 11 + 0 ≤ _)⟩)
    dsimp only [Pt.U, Pt.locs, Pt.cells, Pt.slots] at X14 l14 y14 z14 st14 hQ14
    subst l14 y14 z14
    obtain ⟨rfl, N14q, K14c, R14_0, R14_1, R14_2⟩ := hQ14
    have N14 := Fr.app N4 N14q
    have Z14 : n0 ≤ T14.heap.size := Nat.le_trans Z9 K14c.1
    have kz14 := Nat.le_trans kz9 K14c.1
    have E_16 : Exa Z T14.heap b7 "com/example/escapement/escapement/cli/PartitionTable$Partition" := (E_10.keep K14c)
    obtain ⟨cq15, kq15, q15a, q15b, q15c⟩ := isOf hZ rfl E_16
    obtain ⟨_, _, ⟨T15, L15, k15, n15⟩, -, X15, ⟨Lc15, hQ15, l15, y15, z15⟩, st15⟩ := X14.virtualBack hx (y := (⟨"com/example/escapement/escapement/cli/PartitionTable$Partition", "sites", "()[I"⟩ : MethodName)) (z := (⟨"com/example/escapement/escapement/cli/PartitionTable$Partition", "sites", "()[I"⟩ : MethodName)) hown (mvT hZ (hw _ (List.mem_of_getElem? (i := 36) rfl))) (mvT hZ (hw _ (List.mem_of_getElem? (i := 37) rfl))) (notFace_of_selects (args := #[]) (mvT hZ (hw _ (List.mem_of_getElem? (i := 39) rfl)))) (mvT hZ (hw _ (List.mem_of_getElem? (i := 39) rfl))) (mvT hZ (hw _ (List.mem_of_getElem? (i := 38) rfl))) (by decide) (backOf (W := 0) (rm6_1 l Z a0 hw [] b7 fi ((fi + (1 : Int32)) - (1 : Int32)) T14.heap n0 Z14 R14_1 R14_2 (show ((((fi + (1 : Int32)) - (1 : Int32)) - fi) + (1 : Int32)) = (1 : Int32) from own_len fi (1 : Int32))) hZ (hw _ (List.mem_of_getElem? (i := 40) rfl)) (hw _ (List.mem_of_getElem? (i := 10) rfl)) (by decide) (by decide)) q15a q15c (g := (mkF m 50 #[.val (.int pp1), .val (.int pp2), .val (.int (1 : Int32)), .val (.int fi), .val (.int ((fi + (1 : Int32)) - (1 : Int32))), .val (.ref b7), .unset] [(.ref b7)])) rfl (by rw [hml]; rfl) (Steps.refl _) (argsL := []) (rest := []) (lenOf pd__28__29__5b_I rfl) rfl (by show 2 * 0 + _ ≤ _; exact Nat.le_of_eq rfl) (hb hby at_50) (fun _ _ => ⟨rfl, rfl, (by decide : 3 + 1 ≤ _), (by decide : 11 + 1 ≤ _)⟩)
    dsimp only [Pt.U, Pt.locs, Pt.cells, Pt.slots] at X15 l15 y15 z15 st15 hQ15
    subst l15 y15 z15
    obtain ⟨bx_15, kx_15, rfl, N15q, K15c, g_bx_15, sb_bx_15, R15_0⟩ := hQ15
    have N15 := Fr.app N14 N15q
    have Z15 : n0 ≤ T15.heap.size := Nat.le_trans Z14 K15c.1
    have kz15 := Nat.le_trans kz14 K15c.1
    obtain ⟨cl_17, Ar_17, -, Sz_17, Nn_17, -, -⟩ := id R15_0
    have hc64 : (1 : Int32) = (1 : Int32) := by decide
    obtain ⟨cl_18, Ar_18, qq_18, Sz_18, Nn_18, Hh_18, Gg_18⟩ := id R15_0
    have hin_18 : ¬ ((0 : Int32) < 0 ∨ cl_18.slots.size ≤ ((0 : Int32)).toNatClampNeg) := inb_of Sz_18 ⟨by decide, by decide⟩
    have hat_18 : cl_18.slots[((0 : Int32)).toNatClampNeg]? = some (.int ((fi - (1 : Int32)) + (0 : Int32))) := Has.at Hh_18 hin_18 rfl
    have hc76 : ((fi - (1 : Int32)) + (0 : Int32)) = (fi - (1 : Int32)) := Int32.add_zero _
    obtain ⟨cl_19, Ar_19, qq_19, Sz_19, Nn_19, Hh_19, Gg_19⟩ := id R15_0
    have hin_19 : ¬ ((0 : Int32) < 0 ∨ cl_19.slots.size ≤ ((0 : Int32)).toNatClampNeg) := inb_of Sz_19 ⟨by decide, by decide⟩
    have hat_19 : cl_19.slots[((0 : Int32)).toNatClampNeg]? = some (.int ((fi - (1 : Int32)) + (0 : Int32))) := Has.at Hh_19 hin_19 rfl
    have hc89 : ((fi - (1 : Int32)) + (0 : Int32)) = (((fi + (1 : Int32)) - (1 : Int32)) - (1 : Int32)) := own_last fi (1 : Int32)
    obtain ⟨_, _, ⟨T20, L20, k20, n20⟩, -, X20, ⟨Lc20, hQ20, l20, y20, z20⟩, st20⟩ := Jvm.LawKit.callS X15 hx (y := (⟨"com/example/escapement/escapement/cli/PartitionSitesPinLaw", "at", "([III)Z"⟩ : MethodName)) hown (mvT hZ (hw _ (List.mem_of_getElem? (i := 42) rfl))) (mvT hZ (hw _ (List.mem_of_getElem? (i := 43) rfl))) (mvT hZ (hw _ (List.mem_of_getElem? (i := 44) rfl))) (mvT hZ (hw _ (List.mem_of_getElem? (i := 45) rfl))) (by decide) (backOf (W := 0) (rm7 l Z a0 hw [] bx_15 (0 : Int32) fi kx_15 (1 : Int32) [(.int ((fi - (1 : Int32)) + (0 : Int32)))] T15.heap n0 Z15 R15_0 (show ¬ (0 : Int32) < (0 : Int32) from (by decide)) (show (0 : Int32) < (1 : Int32) → ([(.int ((fi - (1 : Int32)) + (0 : Int32)))] : List Value).getD ((0 : Int32)).toNatClampNeg (.int (0 : Int32)) = .int ((fi - (1 : Int32)) + (0 : Int32)) from (fun _ => rfl))) hZ (hw _ (List.mem_of_getElem? (i := 45) rfl)) (hw _ (List.mem_of_getElem? (i := 44) rfl)) (by decide) (by decide)) (g := (mkF m 98 #[.val (.int pp1), .val (.int pp2), .val (.int (1 : Int32)), .val (.int fi), .val (.int ((fi + (1 : Int32)) - (1 : Int32))), .val (.ref b7), .val (.ref bx_15)] [(.int fi), (.int (0 : Int32)), (.ref bx_15)])) rfl (by rw [hml]; rfl) (argsL := [(.ref bx_15), (.int (0 : Int32)), (.int fi)]) (rest := []) (lenOf pd__28__5b_III_29_Z rfl) rfl (by show 2 * 0 + _ ≤ _; exact Nat.le_of_eq rfl) (hb hby at_98) (fun _ _ => ⟨rfl, rfl, (by decide : 4 + 0 ≤ _), (by decide : 12 + 0 ≤ _)⟩)
    dsimp only [Pt.U, Pt.locs, Pt.cells, Pt.slots] at X20 l20 y20 z20 st20 hQ20
    subst l20 y20 z20
    obtain ⟨rfl, N20q, e20⟩ := hQ20
    have N20 := Fr.app N15 N20q
    have hc101 : ¬ ((1 : Int32) = (0 : Int32)) := by decide
    obtain ⟨_, _, ⟨T21, L21, k21, n21⟩, -, X21, ⟨Lc21, hQ21, l21, y21, z21⟩, st21⟩ := Jvm.LawKit.callS X20 hx (y := (⟨"com/example/escapement/escapement/cli/PartitionSitesPinLaw", "at", "([III)Z"⟩ : MethodName)) hown (mvT hZ (hw _ (List.mem_of_getElem? (i := 42) rfl))) (mvT hZ (hw _ (List.mem_of_getElem? (i := 43) rfl))) (mvT hZ (hw _ (List.mem_of_getElem? (i := 44) rfl))) (mvT hZ (hw _ (List.mem_of_getElem? (i := 45) rfl))) (by decide) (backOf (W := 0) (rm7 l Z a0 hw [] bx_15 (1 : Int32) fi kx_15 (1 : Int32) [(.int ((fi - (1 : Int32)) + (0 : Int32)))] T15.heap n0 Z15 R15_0 (show ¬ (1 : Int32) < (0 : Int32) from (by decide)) (show (1 : Int32) < (1 : Int32) → ([(.int ((fi - (1 : Int32)) + (0 : Int32)))] : List Value).getD ((1 : Int32)).toNatClampNeg (.int (0 : Int32)) = .int ((fi - (1 : Int32)) + (1 : Int32)) from (fun h => absurd h (by decide)))) hZ (hw _ (List.mem_of_getElem? (i := 45) rfl)) (hw _ (List.mem_of_getElem? (i := 44) rfl)) (by decide) (by decide)) (g := (mkF m 108 #[.val (.int pp1), .val (.int pp2), .val (.int (1 : Int32)), .val (.int fi), .val (.int ((fi + (1 : Int32)) - (1 : Int32))), .val (.ref b7), .val (.ref bx_15)] [(.int fi), (.int (1 : Int32)), (.ref bx_15)])) rfl (by rw [hml]; rfl) (argsL := [(.ref bx_15), (.int (1 : Int32)), (.int fi)]) (rest := []) (lenOf pd__28__5b_III_29_Z rfl) rfl (by show 2 * 0 + _ ≤ _; exact Nat.le_of_eq rfl) (hb hby at_108) (fun _ _ => ⟨rfl, e20, (by decide : 4 + 0 ≤ _), (by decide : 12 + 0 ≤ _)⟩)
    dsimp only [Pt.U, Pt.locs, Pt.cells, Pt.slots] at X21 l21 y21 z21 st21 hQ21
    subst l21 y21 z21
    obtain ⟨rfl, N21q, e21⟩ := hQ21
    have N21 := Fr.app N20 N21q
    have hc111 : ¬ ((1 : Int32) = (0 : Int32)) := by decide
    obtain ⟨_, _, ⟨T22, L22, k22, n22⟩, -, X22, ⟨Lc22, hQ22, l22, y22, z22⟩, st22⟩ := Jvm.LawKit.callS X21 hx (y := (⟨"com/example/escapement/escapement/cli/PartitionSitesPinLaw", "at", "([III)Z"⟩ : MethodName)) hown (mvT hZ (hw _ (List.mem_of_getElem? (i := 42) rfl))) (mvT hZ (hw _ (List.mem_of_getElem? (i := 43) rfl))) (mvT hZ (hw _ (List.mem_of_getElem? (i := 44) rfl))) (mvT hZ (hw _ (List.mem_of_getElem? (i := 45) rfl))) (by decide) (backOf (W := 0) (rm7 l Z a0 hw [] bx_15 (2 : Int32) fi kx_15 (1 : Int32) [(.int ((fi - (1 : Int32)) + (0 : Int32)))] T15.heap n0 Z15 R15_0 (show ¬ (2 : Int32) < (0 : Int32) from (by decide)) (show (2 : Int32) < (1 : Int32) → ([(.int ((fi - (1 : Int32)) + (0 : Int32)))] : List Value).getD ((2 : Int32)).toNatClampNeg (.int (0 : Int32)) = .int ((fi - (1 : Int32)) + (2 : Int32)) from (fun h => absurd h (by decide)))) hZ (hw _ (List.mem_of_getElem? (i := 45) rfl)) (hw _ (List.mem_of_getElem? (i := 44) rfl)) (by decide) (by decide)) (g := (mkF m 118 #[.val (.int pp1), .val (.int pp2), .val (.int (1 : Int32)), .val (.int fi), .val (.int ((fi + (1 : Int32)) - (1 : Int32))), .val (.ref b7), .val (.ref bx_15)] [(.int fi), (.int (2 : Int32)), (.ref bx_15)])) rfl (by rw [hml]; rfl) (argsL := [(.ref bx_15), (.int (2 : Int32)), (.int fi)]) (rest := []) (lenOf pd__28__5b_III_29_Z rfl) rfl (by show 2 * 0 + _ ≤ _; exact Nat.le_of_eq rfl) (hb hby at_118) (fun _ _ => ⟨rfl, e21, (by decide : 4 + 0 ≤ _), (by decide : 12 + 0 ≤ _)⟩)
    dsimp only [Pt.U, Pt.locs, Pt.cells, Pt.slots] at X22 l22 y22 z22 st22 hQ22
    subst l22 y22 z22
    obtain ⟨rfl, N22q, e22⟩ := hQ22
    have N22 := Fr.app N21 N22q
    have hc121 : ¬ ((1 : Int32) = (0 : Int32)) := by decide
    obtain ⟨_, _, ⟨T23, L23, k23, n23⟩, -, X23, ⟨Lc23, hQ23, l23, y23, z23⟩, st23⟩ := Jvm.LawKit.callS X22 hx (y := (⟨"com/example/escapement/escapement/cli/PartitionSitesPinLaw", "at", "([III)Z"⟩ : MethodName)) hown (mvT hZ (hw _ (List.mem_of_getElem? (i := 42) rfl))) (mvT hZ (hw _ (List.mem_of_getElem? (i := 43) rfl))) (mvT hZ (hw _ (List.mem_of_getElem? (i := 44) rfl))) (mvT hZ (hw _ (List.mem_of_getElem? (i := 45) rfl))) (by decide) (backOf (W := 0) (rm7 l Z a0 hw [] bx_15 (3 : Int32) fi kx_15 (1 : Int32) [(.int ((fi - (1 : Int32)) + (0 : Int32)))] T15.heap n0 Z15 R15_0 (show ¬ (3 : Int32) < (0 : Int32) from (by decide)) (show (3 : Int32) < (1 : Int32) → ([(.int ((fi - (1 : Int32)) + (0 : Int32)))] : List Value).getD ((3 : Int32)).toNatClampNeg (.int (0 : Int32)) = .int ((fi - (1 : Int32)) + (3 : Int32)) from (fun h => absurd h (by decide)))) hZ (hw _ (List.mem_of_getElem? (i := 45) rfl)) (hw _ (List.mem_of_getElem? (i := 44) rfl)) (by decide) (by decide)) (g := (mkF m 128 #[.val (.int pp1), .val (.int pp2), .val (.int (1 : Int32)), .val (.int fi), .val (.int ((fi + (1 : Int32)) - (1 : Int32))), .val (.ref b7), .val (.ref bx_15)] [(.int fi), (.int (3 : Int32)), (.ref bx_15)])) rfl (by rw [hml]; rfl) (argsL := [(.ref bx_15), (.int (3 : Int32)), (.int fi)]) (rest := []) (lenOf pd__28__5b_III_29_Z rfl) rfl (by show 2 * 0 + _ ≤ _; exact Nat.le_of_eq rfl) (hb hby at_128) (fun _ _ => ⟨rfl, e22, (by decide : 4 + 0 ≤ _), (by decide : 12 + 0 ≤ _)⟩)
    dsimp only [Pt.U, Pt.locs, Pt.cells, Pt.slots] at X23 l23 y23 z23 st23 hQ23
    subst l23 y23 z23
    obtain ⟨rfl, N23q, e23⟩ := hQ23
    have N23 := Fr.app N22 N23q
    have hc131 : ¬ ((1 : Int32) = (0 : Int32)) := by decide
    obtain ⟨_, _, ⟨T24, L24, k24, n24⟩, -, X24, ⟨Lc24, hQ24, l24, y24, z24⟩, st24⟩ := Jvm.LawKit.callS X23 hx (y := (⟨"com/example/escapement/escapement/cli/PartitionSitesPinLaw", "at", "([III)Z"⟩ : MethodName)) hown (mvT hZ (hw _ (List.mem_of_getElem? (i := 42) rfl))) (mvT hZ (hw _ (List.mem_of_getElem? (i := 43) rfl))) (mvT hZ (hw _ (List.mem_of_getElem? (i := 44) rfl))) (mvT hZ (hw _ (List.mem_of_getElem? (i := 45) rfl))) (by decide) (backOf (W := 0) (rm7 l Z a0 hw [] bx_15 (4 : Int32) fi kx_15 (1 : Int32) [(.int ((fi - (1 : Int32)) + (0 : Int32)))] T15.heap n0 Z15 R15_0 (show ¬ (4 : Int32) < (0 : Int32) from (by decide)) (show (4 : Int32) < (1 : Int32) → ([(.int ((fi - (1 : Int32)) + (0 : Int32)))] : List Value).getD ((4 : Int32)).toNatClampNeg (.int (0 : Int32)) = .int ((fi - (1 : Int32)) + (4 : Int32)) from (fun h => absurd h (by decide)))) hZ (hw _ (List.mem_of_getElem? (i := 45) rfl)) (hw _ (List.mem_of_getElem? (i := 44) rfl)) (by decide) (by decide)) (g := (mkF m 138 #[.val (.int pp1), .val (.int pp2), .val (.int (1 : Int32)), .val (.int fi), .val (.int ((fi + (1 : Int32)) - (1 : Int32))), .val (.ref b7), .val (.ref bx_15)] [(.int fi), (.int (4 : Int32)), (.ref bx_15)])) rfl (by rw [hml]; rfl) (argsL := [(.ref bx_15), (.int (4 : Int32)), (.int fi)]) (rest := []) (lenOf pd__28__5b_III_29_Z rfl) rfl (by show 2 * 0 + _ ≤ _; exact Nat.le_of_eq rfl) (hb hby at_138) (fun _ _ => ⟨rfl, e23, (by decide : 4 + 0 ≤ _), (by decide : 12 + 0 ≤ _)⟩)
    dsimp only [Pt.U, Pt.locs, Pt.cells, Pt.slots] at X24 l24 y24 z24 st24 hQ24
    subst l24 y24 z24
    obtain ⟨rfl, N24q, e24⟩ := hQ24
    have N24 := Fr.app N23 N24q
    have hc141 : ¬ ((1 : Int32) = (0 : Int32)) := by decide
    obtain ⟨_, _, ⟨T25, L25, k25, n25⟩, -, X25, ⟨Lc25, hQ25, l25, y25, z25⟩, st25⟩ := Jvm.LawKit.callS X24 hx (y := (⟨"com/example/escapement/escapement/cli/PartitionSitesPinLaw", "at", "([III)Z"⟩ : MethodName)) hown (mvT hZ (hw _ (List.mem_of_getElem? (i := 42) rfl))) (mvT hZ (hw _ (List.mem_of_getElem? (i := 43) rfl))) (mvT hZ (hw _ (List.mem_of_getElem? (i := 44) rfl))) (mvT hZ (hw _ (List.mem_of_getElem? (i := 45) rfl))) (by decide) (backOf (W := 0) (rm7 l Z a0 hw [] bx_15 (5 : Int32) fi kx_15 (1 : Int32) [(.int ((fi - (1 : Int32)) + (0 : Int32)))] T15.heap n0 Z15 R15_0 (show ¬ (5 : Int32) < (0 : Int32) from (by decide)) (show (5 : Int32) < (1 : Int32) → ([(.int ((fi - (1 : Int32)) + (0 : Int32)))] : List Value).getD ((5 : Int32)).toNatClampNeg (.int (0 : Int32)) = .int ((fi - (1 : Int32)) + (5 : Int32)) from (fun h => absurd h (by decide)))) hZ (hw _ (List.mem_of_getElem? (i := 45) rfl)) (hw _ (List.mem_of_getElem? (i := 44) rfl)) (by decide) (by decide)) (g := (mkF m 148 #[.val (.int pp1), .val (.int pp2), .val (.int (1 : Int32)), .val (.int fi), .val (.int ((fi + (1 : Int32)) - (1 : Int32))), .val (.ref b7), .val (.ref bx_15)] [(.int fi), (.int (5 : Int32)), (.ref bx_15)])) rfl (by rw [hml]; rfl) (argsL := [(.ref bx_15), (.int (5 : Int32)), (.int fi)]) (rest := []) (lenOf pd__28__5b_III_29_Z rfl) rfl (by show 2 * 0 + _ ≤ _; exact Nat.le_of_eq rfl) (hb hby at_148) (fun _ _ => ⟨rfl, e24, (by decide : 4 + 0 ≤ _), (by decide : 12 + 0 ≤ _)⟩)
    dsimp only [Pt.U, Pt.locs, Pt.cells, Pt.slots] at X25 l25 y25 z25 st25 hQ25
    subst l25 y25 z25
    obtain ⟨rfl, N25q, e25⟩ := hQ25
    have N25 := Fr.app N24 N25q
    have hc151 : ¬ ((1 : Int32) = (0 : Int32)) := by decide
    obtain ⟨_, _, ⟨T26, L26, k26, n26⟩, -, X26, ⟨Lc26, hQ26, l26, y26, z26⟩, st26⟩ := Jvm.LawKit.callS X25 hx (y := (⟨"com/example/escapement/escapement/cli/PartitionSitesPinLaw", "at", "([III)Z"⟩ : MethodName)) hown (mvT hZ (hw _ (List.mem_of_getElem? (i := 42) rfl))) (mvT hZ (hw _ (List.mem_of_getElem? (i := 43) rfl))) (mvT hZ (hw _ (List.mem_of_getElem? (i := 44) rfl))) (mvT hZ (hw _ (List.mem_of_getElem? (i := 45) rfl))) (by decide) (backOf (W := 0) (rm7 l Z a0 hw [] bx_15 (6 : Int32) fi kx_15 (1 : Int32) [(.int ((fi - (1 : Int32)) + (0 : Int32)))] T15.heap n0 Z15 R15_0 (show ¬ (6 : Int32) < (0 : Int32) from (by decide)) (show (6 : Int32) < (1 : Int32) → ([(.int ((fi - (1 : Int32)) + (0 : Int32)))] : List Value).getD ((6 : Int32)).toNatClampNeg (.int (0 : Int32)) = .int ((fi - (1 : Int32)) + (6 : Int32)) from (fun h => absurd h (by decide)))) hZ (hw _ (List.mem_of_getElem? (i := 45) rfl)) (hw _ (List.mem_of_getElem? (i := 44) rfl)) (by decide) (by decide)) (g := (mkF m 159 #[.val (.int pp1), .val (.int pp2), .val (.int (1 : Int32)), .val (.int fi), .val (.int ((fi + (1 : Int32)) - (1 : Int32))), .val (.ref b7), .val (.ref bx_15)] [(.int fi), (.int (6 : Int32)), (.ref bx_15)])) rfl (by rw [hml]; rfl) (argsL := [(.ref bx_15), (.int (6 : Int32)), (.int fi)]) (rest := []) (lenOf pd__28__5b_III_29_Z rfl) rfl (by show 2 * 0 + _ ≤ _; exact Nat.le_of_eq rfl) (hb hby at_159) (fun _ _ => ⟨rfl, e25, (by decide : 4 + 0 ≤ _), (by decide : 12 + 0 ≤ _)⟩)
    dsimp only [Pt.U, Pt.locs, Pt.cells, Pt.slots] at X26 l26 y26 z26 st26 hQ26
    subst l26 y26 z26
    obtain ⟨rfl, N26q, e26⟩ := hQ26
    have N26 := Fr.app N25 N26q
    have hc162 : ¬ ((1 : Int32) = (0 : Int32)) := by decide
    obtain ⟨_, _, ⟨T27, L27, k27, n27⟩, -, X27, ⟨Lc27, hQ27, l27, y27, z27⟩, st27⟩ := Jvm.LawKit.callS X26 hx (y := (⟨"com/example/escapement/escapement/cli/PartitionSitesPinLaw", "at", "([III)Z"⟩ : MethodName)) hown (mvT hZ (hw _ (List.mem_of_getElem? (i := 42) rfl))) (mvT hZ (hw _ (List.mem_of_getElem? (i := 43) rfl))) (mvT hZ (hw _ (List.mem_of_getElem? (i := 44) rfl))) (mvT hZ (hw _ (List.mem_of_getElem? (i := 45) rfl))) (by decide) (backOf (W := 0) (rm7 l Z a0 hw [] bx_15 (7 : Int32) fi kx_15 (1 : Int32) [(.int ((fi - (1 : Int32)) + (0 : Int32)))] T15.heap n0 Z15 R15_0 (show ¬ (7 : Int32) < (0 : Int32) from (by decide)) (show (7 : Int32) < (1 : Int32) → ([(.int ((fi - (1 : Int32)) + (0 : Int32)))] : List Value).getD ((7 : Int32)).toNatClampNeg (.int (0 : Int32)) = .int ((fi - (1 : Int32)) + (7 : Int32)) from (fun h => absurd h (by decide)))) hZ (hw _ (List.mem_of_getElem? (i := 45) rfl)) (hw _ (List.mem_of_getElem? (i := 44) rfl)) (by decide) (by decide)) (g := (mkF m 170 #[.val (.int pp1), .val (.int pp2), .val (.int (1 : Int32)), .val (.int fi), .val (.int ((fi + (1 : Int32)) - (1 : Int32))), .val (.ref b7), .val (.ref bx_15)] [(.int fi), (.int (7 : Int32)), (.ref bx_15)])) rfl (by rw [hml]; rfl) (argsL := [(.ref bx_15), (.int (7 : Int32)), (.int fi)]) (rest := []) (lenOf pd__28__5b_III_29_Z rfl) rfl (by show 2 * 0 + _ ≤ _; exact Nat.le_of_eq rfl) (hb hby at_170) (fun _ _ => ⟨rfl, e26, (by decide : 4 + 0 ≤ _), (by decide : 12 + 0 ≤ _)⟩)
    dsimp only [Pt.U, Pt.locs, Pt.cells, Pt.slots] at X27 l27 y27 z27 st27 hQ27
    subst l27 y27 z27
    obtain ⟨rfl, N27q, e27⟩ := hQ27
    have N27 := Fr.app N26 N27q
    have hc173 : ¬ ((1 : Int32) = (0 : Int32)) := by decide
    obtain ⟨fs, hr, hrun, hended, qe1, qe2, qe3, qe4⟩ := Stand.leaveW (s := s) (vm₁ := T9.vm) X27 hS9 (by rw [e27]; exact kz15) (v := some (.int (1 : Int32))) (fun h => by rw [Bd.returns] at h; cases h)
    refine ⟨_, _, pre8 _ ?_, hrun, hended, _, _, rfl, ?_, qe1, qe2, qe3, qe4.mono (by decide) (by decide)⟩
    · show Steps p.tables e below (T7.setTop (mkF m 38 #[.val (.int pp1), .val (.int pp2), .val (.int (1 : Int32)), .val (.int fi), .val (.int ((fi + (1 : Int32)) - (1 : Int32))), .unset, .unset] [(.ref b7), (.ref b7)])) _
      refine st9 _ ?_
      show Steps p.tables e below (T9.setTop (mkF m 40 #[.val (.int pp1), .val (.int pp2), .val (.int (1 : Int32)), .val (.int fi), .val (.int ((fi + (1 : Int32)) - (1 : Int32))), .unset, .unset] [(.ref a9), (.ref b7), (.ref b7)])) _
      refine XS.iloadN X9.here hx rfl (hb hby at_40) rfl ?_
      show Steps p.tables e below (T9.setTop (mkF m 41 #[.val (.int pp1), .val (.int pp2), .val (.int (1 : Int32)), .val (.int fi), .val (.int ((fi + (1 : Int32)) - (1 : Int32))), .unset, .unset] [(.int fi), (.ref a9), (.ref b7), (.ref b7)])) _
      refine XS.iload X9.here hx rfl (hb hby at_41) rfl ?_
      show Steps p.tables e below (T9.setTop (mkF m 43 #[.val (.int pp1), .val (.int pp2), .val (.int (1 : Int32)), .val (.int fi), .val (.int ((fi + (1 : Int32)) - (1 : Int32))), .unset, .unset] [(.int ((fi + (1 : Int32)) - (1 : Int32))), (.int fi), (.ref a9), (.ref b7), (.ref b7)])) _
      refine st14.trans ?_
      show Steps p.tables e below (T14.setTop (mkF m 46 #[.val (.int pp1), .val (.int pp2), .val (.int (1 : Int32)), .val (.int fi), .val (.int ((fi + (1 : Int32)) - (1 : Int32))), .unset, .unset] [(.ref b7)])) _
      refine XS.astore X14.here hx rfl (hb hby at_46) rfl rfl (l' := #[.val (.int pp1), .val (.int pp2), .val (.int (1 : Int32)), .val (.int fi), .val (.int ((fi + (1 : Int32)) - (1 : Int32))), .val (.ref b7), .unset]) rfl ?_
      show Steps p.tables e below (T14.setTop (mkF m 48 #[.val (.int pp1), .val (.int pp2), .val (.int (1 : Int32)), .val (.int fi), .val (.int ((fi + (1 : Int32)) - (1 : Int32))), .val (.ref b7), .unset] [])) _
      refine XS.aload X14.here hx rfl (hb hby at_48) rfl rfl ?_
      show Steps p.tables e below (T14.setTop (mkF m 50 #[.val (.int pp1), .val (.int pp2), .val (.int (1 : Int32)), .val (.int fi), .val (.int ((fi + (1 : Int32)) - (1 : Int32))), .val (.ref b7), .unset] [(.ref b7)])) _
      refine st15.trans ?_
      show Steps p.tables e below (T15.setTop (mkF m 53 #[.val (.int pp1), .val (.int pp2), .val (.int (1 : Int32)), .val (.int fi), .val (.int ((fi + (1 : Int32)) - (1 : Int32))), .val (.ref b7), .unset] [(.ref bx_15)])) _
      refine XS.astore X15.here hx rfl (hb hby at_53) rfl rfl (l' := #[.val (.int pp1), .val (.int pp2), .val (.int (1 : Int32)), .val (.int fi), .val (.int ((fi + (1 : Int32)) - (1 : Int32))), .val (.ref b7), .val (.ref bx_15)]) rfl ?_
      show Steps p.tables e below (T15.setTop (mkF m 55 #[.val (.int pp1), .val (.int pp2), .val (.int (1 : Int32)), .val (.int fi), .val (.int ((fi + (1 : Int32)) - (1 : Int32))), .val (.ref b7), .val (.ref bx_15)] [])) _
      refine XS.aload X15.here hx rfl (hb hby at_55) rfl rfl ?_
      show Steps p.tables e below (T15.setTop (mkF m 57 #[.val (.int pp1), .val (.int pp2), .val (.int (1 : Int32)), .val (.int fi), .val (.int ((fi + (1 : Int32)) - (1 : Int32))), .val (.ref b7), .val (.ref bx_15)] [(.ref bx_15)])) _
      refine XS.ifnullNo X15.here hx rfl (hb hby at_57) rfl ?_
      show Steps p.tables e below (T15.setTop (mkF m 60 #[.val (.int pp1), .val (.int pp2), .val (.int (1 : Int32)), .val (.int fi), .val (.int ((fi + (1 : Int32)) - (1 : Int32))), .val (.ref b7), .val (.ref bx_15)] [])) _
      refine XS.aload X15.here hx rfl (hb hby at_60) rfl rfl ?_
      show Steps p.tables e below (T15.setTop (mkF m 62 #[.val (.int pp1), .val (.int pp2), .val (.int (1 : Int32)), .val (.int fi), .val (.int ((fi + (1 : Int32)) - (1 : Int32))), .val (.ref b7), .val (.ref bx_15)] [(.ref bx_15)])) _
      refine X15.arraylength hx (Ar_17.1) (State.isArrayOf_alike hZ.alike Ar_17.2.1) (g := (mkF m 62 #[.val (.int pp1), .val (.int pp2), .val (.int (1 : Int32)), .val (.int fi), .val (.int ((fi + (1 : Int32)) - (1 : Int32))), .val (.ref b7), .val (.ref bx_15)] [(.ref bx_15)])) rfl rfl (hb hby at_62) _ ?_
      rw [len_of Sz_17 Nn_17]
      show Steps p.tables e below (T15.setTop (mkF m 63 #[.val (.int pp1), .val (.int pp2), .val (.int (1 : Int32)), .val (.int fi), .val (.int ((fi + (1 : Int32)) - (1 : Int32))), .val (.ref b7), .val (.ref bx_15)] [(.int (1 : Int32))])) _
      refine XS.iloadN X15.here hx rfl (hb hby at_63) rfl ?_
      show Steps p.tables e below (T15.setTop (mkF m 64 #[.val (.int pp1), .val (.int pp2), .val (.int (1 : Int32)), .val (.int fi), .val (.int ((fi + (1 : Int32)) - (1 : Int32))), .val (.ref b7), .val (.ref bx_15)] [(.int (1 : Int32)), (.int (1 : Int32))])) _
      refine XS.icmpYes X15.here hx rfl (pc0 := 64) (pc' := 69) rfl (hb hby at_64) rfl (teq hc64).1 (by decide) (by decide) ?_
      show Steps p.tables e below (T15.setTop (mkF m 69 #[.val (.int pp1), .val (.int pp2), .val (.int (1 : Int32)), .val (.int fi), .val (.int ((fi + (1 : Int32)) - (1 : Int32))), .val (.ref b7), .val (.ref bx_15)] [])) _
      refine XS.aload X15.here hx rfl (hb hby at_69) rfl rfl ?_
      show Steps p.tables e below (T15.setTop (mkF m 71 #[.val (.int pp1), .val (.int pp2), .val (.int (1 : Int32)), .val (.int fi), .val (.int ((fi + (1 : Int32)) - (1 : Int32))), .val (.ref b7), .val (.ref bx_15)] [(.ref bx_15)])) _
      refine XS.iconst X15.here hx rfl (hb hby at_71) ?_
      show Steps p.tables e below (T15.setTop (mkF m 72 #[.val (.int pp1), .val (.int pp2), .val (.int (1 : Int32)), .val (.int fi), .val (.int ((fi + (1 : Int32)) - (1 : Int32))), .val (.ref b7), .val (.ref bx_15)] [(.int (0 : Int32)), (.ref bx_15)])) _
      refine X15.iaload hx (j := (0 : Int32)) (v := (.int ((fi - (1 : Int32)) + (0 : Int32)))) (Ar_18.1) (State.isArrayOf_alike hZ.alike Ar_18.2.1) Ar_18.2.2 hin_18 hat_18 (g := (mkF m 72 #[.val (.int pp1), .val (.int pp2), .val (.int (1 : Int32)), .val (.int fi), .val (.int ((fi + (1 : Int32)) - (1 : Int32))), .val (.ref b7), .val (.ref bx_15)] [(.int (0 : Int32)), (.ref bx_15)])) rfl rfl (hb hby at_72) _ ?_
      show Steps p.tables e below (T15.setTop (mkF m 73 #[.val (.int pp1), .val (.int pp2), .val (.int (1 : Int32)), .val (.int fi), .val (.int ((fi + (1 : Int32)) - (1 : Int32))), .val (.ref b7), .val (.ref bx_15)] [(.int ((fi - (1 : Int32)) + (0 : Int32)))])) _
      refine XS.iloadN X15.here hx rfl (hb hby at_73) rfl ?_
      show Steps p.tables e below (T15.setTop (mkF m 74 #[.val (.int pp1), .val (.int pp2), .val (.int (1 : Int32)), .val (.int fi), .val (.int ((fi + (1 : Int32)) - (1 : Int32))), .val (.ref b7), .val (.ref bx_15)] [(.int fi), (.int ((fi - (1 : Int32)) + (0 : Int32)))])) _
      refine XS.iconst X15.here hx rfl (hb hby at_74) ?_
      show Steps p.tables e below (T15.setTop (mkF m 75 #[.val (.int pp1), .val (.int pp2), .val (.int (1 : Int32)), .val (.int fi), .val (.int ((fi + (1 : Int32)) - (1 : Int32))), .val (.ref b7), .val (.ref bx_15)] [(.int (1 : Int32)), (.int fi), (.int ((fi - (1 : Int32)) + (0 : Int32)))])) _
      refine XS.isub X15.here hx rfl (hb hby at_75) rfl ?_
      show Steps p.tables e below (T15.setTop (mkF m 76 #[.val (.int pp1), .val (.int pp2), .val (.int (1 : Int32)), .val (.int fi), .val (.int ((fi + (1 : Int32)) - (1 : Int32))), .val (.ref b7), .val (.ref bx_15)] [(.int (fi - (1 : Int32))), (.int ((fi - (1 : Int32)) + (0 : Int32)))])) _
      refine XS.icmpNo X15.here hx rfl (hb hby at_76) rfl (teq hc76).2 ?_
      show Steps p.tables e below (T15.setTop (mkF m 79 #[.val (.int pp1), .val (.int pp2), .val (.int (1 : Int32)), .val (.int fi), .val (.int ((fi + (1 : Int32)) - (1 : Int32))), .val (.ref b7), .val (.ref bx_15)] [])) _
      refine XS.aload X15.here hx rfl (hb hby at_79) rfl rfl ?_
      show Steps p.tables e below (T15.setTop (mkF m 81 #[.val (.int pp1), .val (.int pp2), .val (.int (1 : Int32)), .val (.int fi), .val (.int ((fi + (1 : Int32)) - (1 : Int32))), .val (.ref b7), .val (.ref bx_15)] [(.ref bx_15)])) _
      refine XS.iloadN X15.here hx rfl (hb hby at_81) rfl ?_
      show Steps p.tables e below (T15.setTop (mkF m 82 #[.val (.int pp1), .val (.int pp2), .val (.int (1 : Int32)), .val (.int fi), .val (.int ((fi + (1 : Int32)) - (1 : Int32))), .val (.ref b7), .val (.ref bx_15)] [(.int (1 : Int32)), (.ref bx_15)])) _
      refine XS.iconst X15.here hx rfl (hb hby at_82) ?_
      show Steps p.tables e below (T15.setTop (mkF m 83 #[.val (.int pp1), .val (.int pp2), .val (.int (1 : Int32)), .val (.int fi), .val (.int ((fi + (1 : Int32)) - (1 : Int32))), .val (.ref b7), .val (.ref bx_15)] [(.int (1 : Int32)), (.int (1 : Int32)), (.ref bx_15)])) _
      refine XS.isub X15.here hx rfl (hb hby at_83) rfl ?_
      show Steps p.tables e below (T15.setTop (mkF m 84 #[.val (.int pp1), .val (.int pp2), .val (.int (1 : Int32)), .val (.int fi), .val (.int ((fi + (1 : Int32)) - (1 : Int32))), .val (.ref b7), .val (.ref bx_15)] [(.int (0 : Int32)), (.ref bx_15)])) _
      refine X15.iaload hx (j := (0 : Int32)) (v := (.int ((fi - (1 : Int32)) + (0 : Int32)))) (Ar_19.1) (State.isArrayOf_alike hZ.alike Ar_19.2.1) Ar_19.2.2 hin_19 hat_19 (g := (mkF m 84 #[.val (.int pp1), .val (.int pp2), .val (.int (1 : Int32)), .val (.int fi), .val (.int ((fi + (1 : Int32)) - (1 : Int32))), .val (.ref b7), .val (.ref bx_15)] [(.int (0 : Int32)), (.ref bx_15)])) rfl rfl (hb hby at_84) _ ?_
      show Steps p.tables e below (T15.setTop (mkF m 85 #[.val (.int pp1), .val (.int pp2), .val (.int (1 : Int32)), .val (.int fi), .val (.int ((fi + (1 : Int32)) - (1 : Int32))), .val (.ref b7), .val (.ref bx_15)] [(.int ((fi - (1 : Int32)) + (0 : Int32)))])) _
      refine XS.iload X15.here hx rfl (hb hby at_85) rfl ?_
      show Steps p.tables e below (T15.setTop (mkF m 87 #[.val (.int pp1), .val (.int pp2), .val (.int (1 : Int32)), .val (.int fi), .val (.int ((fi + (1 : Int32)) - (1 : Int32))), .val (.ref b7), .val (.ref bx_15)] [(.int ((fi + (1 : Int32)) - (1 : Int32))), (.int ((fi - (1 : Int32)) + (0 : Int32)))])) _
      refine XS.iconst X15.here hx rfl (hb hby at_87) ?_
      show Steps p.tables e below (T15.setTop (mkF m 88 #[.val (.int pp1), .val (.int pp2), .val (.int (1 : Int32)), .val (.int fi), .val (.int ((fi + (1 : Int32)) - (1 : Int32))), .val (.ref b7), .val (.ref bx_15)] [(.int (1 : Int32)), (.int ((fi + (1 : Int32)) - (1 : Int32))), (.int ((fi - (1 : Int32)) + (0 : Int32)))])) _
      refine XS.isub X15.here hx rfl (hb hby at_88) rfl ?_
      show Steps p.tables e below (T15.setTop (mkF m 89 #[.val (.int pp1), .val (.int pp2), .val (.int (1 : Int32)), .val (.int fi), .val (.int ((fi + (1 : Int32)) - (1 : Int32))), .val (.ref b7), .val (.ref bx_15)] [(.int (((fi + (1 : Int32)) - (1 : Int32)) - (1 : Int32))), (.int ((fi - (1 : Int32)) + (0 : Int32)))])) _
      refine XS.icmpYes X15.here hx rfl (pc0 := 89) (pc' := 94) rfl (hb hby at_89) rfl (teq hc89).1 (by decide) (by decide) ?_
      show Steps p.tables e below (T15.setTop (mkF m 94 #[.val (.int pp1), .val (.int pp2), .val (.int (1 : Int32)), .val (.int fi), .val (.int ((fi + (1 : Int32)) - (1 : Int32))), .val (.ref b7), .val (.ref bx_15)] [])) _
      refine XS.aload X15.here hx rfl (hb hby at_94) rfl rfl ?_
      show Steps p.tables e below (T15.setTop (mkF m 96 #[.val (.int pp1), .val (.int pp2), .val (.int (1 : Int32)), .val (.int fi), .val (.int ((fi + (1 : Int32)) - (1 : Int32))), .val (.ref b7), .val (.ref bx_15)] [(.ref bx_15)])) _
      refine XS.iconst X15.here hx rfl (hb hby at_96) ?_
      show Steps p.tables e below (T15.setTop (mkF m 97 #[.val (.int pp1), .val (.int pp2), .val (.int (1 : Int32)), .val (.int fi), .val (.int ((fi + (1 : Int32)) - (1 : Int32))), .val (.ref b7), .val (.ref bx_15)] [(.int (0 : Int32)), (.ref bx_15)])) _
      refine XS.iloadN X15.here hx rfl (hb hby at_97) rfl ?_
      show Steps p.tables e below (T15.setTop (mkF m 98 #[.val (.int pp1), .val (.int pp2), .val (.int (1 : Int32)), .val (.int fi), .val (.int ((fi + (1 : Int32)) - (1 : Int32))), .val (.ref b7), .val (.ref bx_15)] [(.int fi), (.int (0 : Int32)), (.ref bx_15)])) _
      refine st20 _ ?_
      show Steps p.tables e below (T20.setTop (mkF m 101 #[.val (.int pp1), .val (.int pp2), .val (.int (1 : Int32)), .val (.int fi), .val (.int ((fi + (1 : Int32)) - (1 : Int32))), .val (.ref b7), .val (.ref bx_15)] [(.int (1 : Int32))])) _
      refine XS.ifNo X20.here hx rfl (hb hby at_101) rfl ((if0 _ _).trans (feq hc101).1) ?_
      show Steps p.tables e below (T20.setTop (mkF m 104 #[.val (.int pp1), .val (.int pp2), .val (.int (1 : Int32)), .val (.int fi), .val (.int ((fi + (1 : Int32)) - (1 : Int32))), .val (.ref b7), .val (.ref bx_15)] [])) _
      refine XS.aload X20.here hx rfl (hb hby at_104) rfl rfl ?_
      show Steps p.tables e below (T20.setTop (mkF m 106 #[.val (.int pp1), .val (.int pp2), .val (.int (1 : Int32)), .val (.int fi), .val (.int ((fi + (1 : Int32)) - (1 : Int32))), .val (.ref b7), .val (.ref bx_15)] [(.ref bx_15)])) _
      refine XS.iconst X20.here hx rfl (hb hby at_106) ?_
      show Steps p.tables e below (T20.setTop (mkF m 107 #[.val (.int pp1), .val (.int pp2), .val (.int (1 : Int32)), .val (.int fi), .val (.int ((fi + (1 : Int32)) - (1 : Int32))), .val (.ref b7), .val (.ref bx_15)] [(.int (1 : Int32)), (.ref bx_15)])) _
      refine XS.iloadN X20.here hx rfl (hb hby at_107) rfl ?_
      show Steps p.tables e below (T20.setTop (mkF m 108 #[.val (.int pp1), .val (.int pp2), .val (.int (1 : Int32)), .val (.int fi), .val (.int ((fi + (1 : Int32)) - (1 : Int32))), .val (.ref b7), .val (.ref bx_15)] [(.int fi), (.int (1 : Int32)), (.ref bx_15)])) _
      refine st21 _ ?_
      show Steps p.tables e below (T21.setTop (mkF m 111 #[.val (.int pp1), .val (.int pp2), .val (.int (1 : Int32)), .val (.int fi), .val (.int ((fi + (1 : Int32)) - (1 : Int32))), .val (.ref b7), .val (.ref bx_15)] [(.int (1 : Int32))])) _
      refine XS.ifNo X21.here hx rfl (hb hby at_111) rfl ((if0 _ _).trans (feq hc111).1) ?_
      show Steps p.tables e below (T21.setTop (mkF m 114 #[.val (.int pp1), .val (.int pp2), .val (.int (1 : Int32)), .val (.int fi), .val (.int ((fi + (1 : Int32)) - (1 : Int32))), .val (.ref b7), .val (.ref bx_15)] [])) _
      refine XS.aload X21.here hx rfl (hb hby at_114) rfl rfl ?_
      show Steps p.tables e below (T21.setTop (mkF m 116 #[.val (.int pp1), .val (.int pp2), .val (.int (1 : Int32)), .val (.int fi), .val (.int ((fi + (1 : Int32)) - (1 : Int32))), .val (.ref b7), .val (.ref bx_15)] [(.ref bx_15)])) _
      refine XS.iconst X21.here hx rfl (hb hby at_116) ?_
      show Steps p.tables e below (T21.setTop (mkF m 117 #[.val (.int pp1), .val (.int pp2), .val (.int (1 : Int32)), .val (.int fi), .val (.int ((fi + (1 : Int32)) - (1 : Int32))), .val (.ref b7), .val (.ref bx_15)] [(.int (2 : Int32)), (.ref bx_15)])) _
      refine XS.iloadN X21.here hx rfl (hb hby at_117) rfl ?_
      show Steps p.tables e below (T21.setTop (mkF m 118 #[.val (.int pp1), .val (.int pp2), .val (.int (1 : Int32)), .val (.int fi), .val (.int ((fi + (1 : Int32)) - (1 : Int32))), .val (.ref b7), .val (.ref bx_15)] [(.int fi), (.int (2 : Int32)), (.ref bx_15)])) _
      refine st22 _ ?_
      show Steps p.tables e below (T22.setTop (mkF m 121 #[.val (.int pp1), .val (.int pp2), .val (.int (1 : Int32)), .val (.int fi), .val (.int ((fi + (1 : Int32)) - (1 : Int32))), .val (.ref b7), .val (.ref bx_15)] [(.int (1 : Int32))])) _
      refine XS.ifNo X22.here hx rfl (hb hby at_121) rfl ((if0 _ _).trans (feq hc121).1) ?_
      show Steps p.tables e below (T22.setTop (mkF m 124 #[.val (.int pp1), .val (.int pp2), .val (.int (1 : Int32)), .val (.int fi), .val (.int ((fi + (1 : Int32)) - (1 : Int32))), .val (.ref b7), .val (.ref bx_15)] [])) _
      refine XS.aload X22.here hx rfl (hb hby at_124) rfl rfl ?_
      show Steps p.tables e below (T22.setTop (mkF m 126 #[.val (.int pp1), .val (.int pp2), .val (.int (1 : Int32)), .val (.int fi), .val (.int ((fi + (1 : Int32)) - (1 : Int32))), .val (.ref b7), .val (.ref bx_15)] [(.ref bx_15)])) _
      refine XS.iconst X22.here hx rfl (hb hby at_126) ?_
      show Steps p.tables e below (T22.setTop (mkF m 127 #[.val (.int pp1), .val (.int pp2), .val (.int (1 : Int32)), .val (.int fi), .val (.int ((fi + (1 : Int32)) - (1 : Int32))), .val (.ref b7), .val (.ref bx_15)] [(.int (3 : Int32)), (.ref bx_15)])) _
      refine XS.iloadN X22.here hx rfl (hb hby at_127) rfl ?_
      show Steps p.tables e below (T22.setTop (mkF m 128 #[.val (.int pp1), .val (.int pp2), .val (.int (1 : Int32)), .val (.int fi), .val (.int ((fi + (1 : Int32)) - (1 : Int32))), .val (.ref b7), .val (.ref bx_15)] [(.int fi), (.int (3 : Int32)), (.ref bx_15)])) _
      refine st23 _ ?_
      show Steps p.tables e below (T23.setTop (mkF m 131 #[.val (.int pp1), .val (.int pp2), .val (.int (1 : Int32)), .val (.int fi), .val (.int ((fi + (1 : Int32)) - (1 : Int32))), .val (.ref b7), .val (.ref bx_15)] [(.int (1 : Int32))])) _
      refine XS.ifNo X23.here hx rfl (hb hby at_131) rfl ((if0 _ _).trans (feq hc131).1) ?_
      show Steps p.tables e below (T23.setTop (mkF m 134 #[.val (.int pp1), .val (.int pp2), .val (.int (1 : Int32)), .val (.int fi), .val (.int ((fi + (1 : Int32)) - (1 : Int32))), .val (.ref b7), .val (.ref bx_15)] [])) _
      refine XS.aload X23.here hx rfl (hb hby at_134) rfl rfl ?_
      show Steps p.tables e below (T23.setTop (mkF m 136 #[.val (.int pp1), .val (.int pp2), .val (.int (1 : Int32)), .val (.int fi), .val (.int ((fi + (1 : Int32)) - (1 : Int32))), .val (.ref b7), .val (.ref bx_15)] [(.ref bx_15)])) _
      refine XS.iconst X23.here hx rfl (hb hby at_136) ?_
      show Steps p.tables e below (T23.setTop (mkF m 137 #[.val (.int pp1), .val (.int pp2), .val (.int (1 : Int32)), .val (.int fi), .val (.int ((fi + (1 : Int32)) - (1 : Int32))), .val (.ref b7), .val (.ref bx_15)] [(.int (4 : Int32)), (.ref bx_15)])) _
      refine XS.iloadN X23.here hx rfl (hb hby at_137) rfl ?_
      show Steps p.tables e below (T23.setTop (mkF m 138 #[.val (.int pp1), .val (.int pp2), .val (.int (1 : Int32)), .val (.int fi), .val (.int ((fi + (1 : Int32)) - (1 : Int32))), .val (.ref b7), .val (.ref bx_15)] [(.int fi), (.int (4 : Int32)), (.ref bx_15)])) _
      refine st24 _ ?_
      show Steps p.tables e below (T24.setTop (mkF m 141 #[.val (.int pp1), .val (.int pp2), .val (.int (1 : Int32)), .val (.int fi), .val (.int ((fi + (1 : Int32)) - (1 : Int32))), .val (.ref b7), .val (.ref bx_15)] [(.int (1 : Int32))])) _
      refine XS.ifNo X24.here hx rfl (hb hby at_141) rfl ((if0 _ _).trans (feq hc141).1) ?_
      show Steps p.tables e below (T24.setTop (mkF m 144 #[.val (.int pp1), .val (.int pp2), .val (.int (1 : Int32)), .val (.int fi), .val (.int ((fi + (1 : Int32)) - (1 : Int32))), .val (.ref b7), .val (.ref bx_15)] [])) _
      refine XS.aload X24.here hx rfl (hb hby at_144) rfl rfl ?_
      show Steps p.tables e below (T24.setTop (mkF m 146 #[.val (.int pp1), .val (.int pp2), .val (.int (1 : Int32)), .val (.int fi), .val (.int ((fi + (1 : Int32)) - (1 : Int32))), .val (.ref b7), .val (.ref bx_15)] [(.ref bx_15)])) _
      refine XS.iconst X24.here hx rfl (hb hby at_146) ?_
      show Steps p.tables e below (T24.setTop (mkF m 147 #[.val (.int pp1), .val (.int pp2), .val (.int (1 : Int32)), .val (.int fi), .val (.int ((fi + (1 : Int32)) - (1 : Int32))), .val (.ref b7), .val (.ref bx_15)] [(.int (5 : Int32)), (.ref bx_15)])) _
      refine XS.iloadN X24.here hx rfl (hb hby at_147) rfl ?_
      show Steps p.tables e below (T24.setTop (mkF m 148 #[.val (.int pp1), .val (.int pp2), .val (.int (1 : Int32)), .val (.int fi), .val (.int ((fi + (1 : Int32)) - (1 : Int32))), .val (.ref b7), .val (.ref bx_15)] [(.int fi), (.int (5 : Int32)), (.ref bx_15)])) _
      refine st25 _ ?_
      show Steps p.tables e below (T25.setTop (mkF m 151 #[.val (.int pp1), .val (.int pp2), .val (.int (1 : Int32)), .val (.int fi), .val (.int ((fi + (1 : Int32)) - (1 : Int32))), .val (.ref b7), .val (.ref bx_15)] [(.int (1 : Int32))])) _
      refine XS.ifNo X25.here hx rfl (hb hby at_151) rfl ((if0 _ _).trans (feq hc151).1) ?_
      show Steps p.tables e below (T25.setTop (mkF m 154 #[.val (.int pp1), .val (.int pp2), .val (.int (1 : Int32)), .val (.int fi), .val (.int ((fi + (1 : Int32)) - (1 : Int32))), .val (.ref b7), .val (.ref bx_15)] [])) _
      refine XS.aload X25.here hx rfl (hb hby at_154) rfl rfl ?_
      show Steps p.tables e below (T25.setTop (mkF m 156 #[.val (.int pp1), .val (.int pp2), .val (.int (1 : Int32)), .val (.int fi), .val (.int ((fi + (1 : Int32)) - (1 : Int32))), .val (.ref b7), .val (.ref bx_15)] [(.ref bx_15)])) _
      refine XS.bipush X25.here hx rfl (hb hby at_156) ?_
      show Steps p.tables e below (T25.setTop (mkF m 158 #[.val (.int pp1), .val (.int pp2), .val (.int (1 : Int32)), .val (.int fi), .val (.int ((fi + (1 : Int32)) - (1 : Int32))), .val (.ref b7), .val (.ref bx_15)] [(.int (6 : Int32)), (.ref bx_15)])) _
      refine XS.iloadN X25.here hx rfl (hb hby at_158) rfl ?_
      show Steps p.tables e below (T25.setTop (mkF m 159 #[.val (.int pp1), .val (.int pp2), .val (.int (1 : Int32)), .val (.int fi), .val (.int ((fi + (1 : Int32)) - (1 : Int32))), .val (.ref b7), .val (.ref bx_15)] [(.int fi), (.int (6 : Int32)), (.ref bx_15)])) _
      refine st26 _ ?_
      show Steps p.tables e below (T26.setTop (mkF m 162 #[.val (.int pp1), .val (.int pp2), .val (.int (1 : Int32)), .val (.int fi), .val (.int ((fi + (1 : Int32)) - (1 : Int32))), .val (.ref b7), .val (.ref bx_15)] [(.int (1 : Int32))])) _
      refine XS.ifNo X26.here hx rfl (hb hby at_162) rfl ((if0 _ _).trans (feq hc162).1) ?_
      show Steps p.tables e below (T26.setTop (mkF m 165 #[.val (.int pp1), .val (.int pp2), .val (.int (1 : Int32)), .val (.int fi), .val (.int ((fi + (1 : Int32)) - (1 : Int32))), .val (.ref b7), .val (.ref bx_15)] [])) _
      refine XS.aload X26.here hx rfl (hb hby at_165) rfl rfl ?_
      show Steps p.tables e below (T26.setTop (mkF m 167 #[.val (.int pp1), .val (.int pp2), .val (.int (1 : Int32)), .val (.int fi), .val (.int ((fi + (1 : Int32)) - (1 : Int32))), .val (.ref b7), .val (.ref bx_15)] [(.ref bx_15)])) _
      refine XS.bipush X26.here hx rfl (hb hby at_167) ?_
      show Steps p.tables e below (T26.setTop (mkF m 169 #[.val (.int pp1), .val (.int pp2), .val (.int (1 : Int32)), .val (.int fi), .val (.int ((fi + (1 : Int32)) - (1 : Int32))), .val (.ref b7), .val (.ref bx_15)] [(.int (7 : Int32)), (.ref bx_15)])) _
      refine XS.iloadN X26.here hx rfl (hb hby at_169) rfl ?_
      show Steps p.tables e below (T26.setTop (mkF m 170 #[.val (.int pp1), .val (.int pp2), .val (.int (1 : Int32)), .val (.int fi), .val (.int ((fi + (1 : Int32)) - (1 : Int32))), .val (.ref b7), .val (.ref bx_15)] [(.int fi), (.int (7 : Int32)), (.ref bx_15)])) _
      refine st27 _ ?_
      show Steps p.tables e below (T27.setTop (mkF m 173 #[.val (.int pp1), .val (.int pp2), .val (.int (1 : Int32)), .val (.int fi), .val (.int ((fi + (1 : Int32)) - (1 : Int32))), .val (.ref b7), .val (.ref bx_15)] [(.int (1 : Int32))])) _
      refine XS.ifNo X27.here hx rfl (hb hby at_173) rfl ((if0 _ _).trans (feq hc173).1) ?_
      show Steps p.tables e below (T27.setTop (mkF m 176 #[.val (.int pp1), .val (.int pp2), .val (.int (1 : Int32)), .val (.int fi), .val (.int ((fi + (1 : Int32)) - (1 : Int32))), .val (.ref b7), .val (.ref bx_15)] [])) _
      refine XS.iconst X27.here hx rfl (hb hby at_176) ?_
      show Steps p.tables e below (T27.setTop (mkF m 177 #[.val (.int pp1), .val (.int pp2), .val (.int (1 : Int32)), .val (.int fi), .val (.int ((fi + (1 : Int32)) - (1 : Int32))), .val (.ref b7), .val (.ref bx_15)] [(.int (1 : Int32))])) _
      refine XS.goto X27.here hx rfl (pc0 := 177) (pc' := 181) rfl (hb hby at_177) (by decide) (by decide) ?_
      show Steps p.tables e below (T27.setTop (mkF m 181 #[.val (.int pp1), .val (.int pp2), .val (.int (1 : Int32)), .val (.int fi), .val (.int ((fi + (1 : Int32)) - (1 : Int32))), .val (.ref b7), .val (.ref bx_15)] [(.int (1 : Int32))])) _
      exact retN X27 hx (t := .boolean) Bd.returns (by simp) (hb hby at_181) hr
    · show Q0 Z pp1 pp2 h0 n0 _ T27.heap _
      rw [e27]
      exact ⟨rfl, N27⟩
  · skip
    obtain ⟨_, _, ⟨T28, L28, k28, n28⟩, -, X28, ⟨Lc28, hQ28, l28, y28, z28⟩, st28⟩ := Jvm.LawKit.callS X0 hx (y := (⟨"java/lang/Math", "max", "(II)I"⟩ : MethodName)) hown (mvT hZ (hw _ (List.mem_of_getElem? (i := 1) rfl))) (mvT hZ (hw _ (List.mem_of_getElem? (i := 2) rfl))) (mvT hZ (hw _ (List.mem_of_getElem? (i := 3) rfl))) (mvT hZ (hw _ (List.mem_of_getElem? (i := 4) rfl))) (by decide) (backOf (W := 0) (rm1 l Z a0 hw [] (1 : Int32) (pp1 &&& (2147483647 : Int32)) h0 n0 Z0 ) hZ (hw _ (List.mem_of_getElem? (i := 4) rfl)) (hw _ (List.mem_of_getElem? (i := 3) rfl)) (by decide) (by decide)) (g := (mkF m 12 #[.val (.int pp1), .val (.int pp2), .val (.int (2 : Int32)), .unset, .unset, .unset, .unset] [(.int (pp1 &&& (2147483647 : Int32))), (.int (1 : Int32))])) rfl (by rw [hml]; rfl) (argsL := [(.int (1 : Int32)), (.int (pp1 &&& (2147483647 : Int32)))]) (rest := []) (lenOf pd__28_II_29_I rfl) rfl (by show 2 * 0 + _ ≤ _; exact Nat.le_of_eq rfl) (hb hby at_12) (fun _ _ => ⟨rfl, e0, (by decide : 0 + 0 ≤ _), (by decide : 0 + 0 ≤ _)⟩)
    dsimp only [Pt.U, Pt.locs, Pt.cells, Pt.slots] at X28 l28 y28 z28 st28 hQ28
    subst l28 y28 z28
    obtain ⟨rfl, N28q, e28⟩ := hQ28
    have N28 := Fr.app N0 N28q
    obtain ⟨_, _, ⟨T29, L29, k29, n29⟩, -, X29, ⟨Lc29, hQ29, l29, y29, z29⟩, st29⟩ := Jvm.LawKit.callS X28 hx (y := (⟨"java/lang/Math", "min", "(II)I"⟩ : MethodName)) hown (mvT hZ (hw _ (List.mem_of_getElem? (i := 5) rfl))) (mvT hZ (hw _ (List.mem_of_getElem? (i := 6) rfl))) (mvT hZ (hw _ (List.mem_of_getElem? (i := 3) rfl))) (mvT hZ (hw _ (List.mem_of_getElem? (i := 7) rfl))) (by decide) (backOf (W := 0) (rm2 l Z a0 hw [] (if (1 : Int32) < (pp1 &&& (2147483647 : Int32)) then (pp1 &&& (2147483647 : Int32)) else (1 : Int32)) (2147483646 : Int32) h0 n0 Z0 ) hZ (hw _ (List.mem_of_getElem? (i := 7) rfl)) (hw _ (List.mem_of_getElem? (i := 3) rfl)) (by decide) (by decide)) (g := (mkF m 23 #[.val (.int pp1), .val (.int pp2), .val (.int (2 : Int32)), .val (.int (if (1 : Int32) < (pp1 &&& (2147483647 : Int32)) then (pp1 &&& (2147483647 : Int32)) else (1 : Int32))), .unset, .unset, .unset] [(.int (2147483646 : Int32)), (.int (if (1 : Int32) < (pp1 &&& (2147483647 : Int32)) then (pp1 &&& (2147483647 : Int32)) else (1 : Int32)))])) rfl (by rw [hml]; rfl) (argsL := [(.int (if (1 : Int32) < (pp1 &&& (2147483647 : Int32)) then (pp1 &&& (2147483647 : Int32)) else (1 : Int32))), (.int (2147483646 : Int32))]) (rest := []) (lenOf pd__28_II_29_I rfl) rfl (by show 2 * 0 + _ ≤ _; exact Nat.le_of_eq rfl) (hb hby at_23) (fun _ _ => ⟨rfl, e28, (by decide : 0 + 0 ≤ _), (by decide : 0 + 0 ≤ _)⟩)
    dsimp only [Pt.U, Pt.locs, Pt.cells, Pt.slots] at X29 l29 y29 z29 st29 hQ29
    subst l29 y29 z29
    obtain ⟨rfl, N29q, e29⟩ := hQ29
    have N29 := Fr.app N28 N29q
    have pre30 : ∀ t, Steps p.tables e below (T29.setTop (mkF m 27 #[.val (.int pp1), .val (.int pp2), .val (.int (2 : Int32)), .val (.int (if (2147483646 : Int32) < (if (1 : Int32) < (pp1 &&& (2147483647 : Int32)) then (pp1 &&& (2147483647 : Int32)) else (1 : Int32)) then (2147483646 : Int32) else (if (1 : Int32) < (pp1 &&& (2147483647 : Int32)) then (pp1 &&& (2147483647 : Int32)) else (1 : Int32)))), .unset, .unset, .unset] [])) t → Steps p.tables e below (s₁.setTop (entryFrame m #[(.int pp1), (.int pp2)] maxLocals)) t := fun t kt => pre2 t (by
      show Steps p.tables e below (s₁.setTop (mkF m 7 #[.val (.int pp1), .val (.int pp2), .val (.int (2 : Int32)), .unset, .unset, .unset, .unset] [])) _
      refine XS.iconst X0.here hx rfl (hb hby at_7) ?_
      show Steps p.tables e below (s₁.setTop (mkF m 8 #[.val (.int pp1), .val (.int pp2), .val (.int (2 : Int32)), .unset, .unset, .unset, .unset] [(.int (1 : Int32))])) _
      refine XS.iloadN X0.here hx rfl (hb hby at_8) rfl ?_
      show Steps p.tables e below (s₁.setTop (mkF m 9 #[.val (.int pp1), .val (.int pp2), .val (.int (2 : Int32)), .unset, .unset, .unset, .unset] [(.int pp1), (.int (1 : Int32))])) _
      refine X0.ldcInt hx hown (mvT hZ (hw _ (List.mem_of_getElem? (i := 0) rfl))) (g := (mkF m 9 #[.val (.int pp1), .val (.int pp2), .val (.int (2 : Int32)), .unset, .unset, .unset, .unset] [(.int pp1), (.int (1 : Int32))])) rfl (hb hby at_9) _ ?_
      show Steps p.tables e below (s₁.setTop (mkF m 11 #[.val (.int pp1), .val (.int pp2), .val (.int (2 : Int32)), .unset, .unset, .unset, .unset] [(.int (2147483647 : Int32)), (.int pp1), (.int (1 : Int32))])) _
      refine XS.iand X0.here hx rfl (hb hby at_11) rfl ?_
      show Steps p.tables e below (s₁.setTop (mkF m 12 #[.val (.int pp1), .val (.int pp2), .val (.int (2 : Int32)), .unset, .unset, .unset, .unset] [(.int (pp1 &&& (2147483647 : Int32))), (.int (1 : Int32))])) _
      refine st28 _ ?_
      show Steps p.tables e below (T28.setTop (mkF m 15 #[.val (.int pp1), .val (.int pp2), .val (.int (2 : Int32)), .unset, .unset, .unset, .unset] [(.int (if (1 : Int32) < (pp1 &&& (2147483647 : Int32)) then (pp1 &&& (2147483647 : Int32)) else (1 : Int32)))])) _
      refine XS.istoreN X28.here hx rfl (hb hby at_15) rfl (l' := #[.val (.int pp1), .val (.int pp2), .val (.int (2 : Int32)), .val (.int (if (1 : Int32) < (pp1 &&& (2147483647 : Int32)) then (pp1 &&& (2147483647 : Int32)) else (1 : Int32))), .unset, .unset, .unset]) rfl ?_
      show Steps p.tables e below (T28.setTop (mkF m 16 #[.val (.int pp1), .val (.int pp2), .val (.int (2 : Int32)), .val (.int (if (1 : Int32) < (pp1 &&& (2147483647 : Int32)) then (pp1 &&& (2147483647 : Int32)) else (1 : Int32))), .unset, .unset, .unset] [])) _
      refine XS.iloadN X28.here hx rfl (hb hby at_16) rfl ?_
      show Steps p.tables e below (T28.setTop (mkF m 17 #[.val (.int pp1), .val (.int pp2), .val (.int (2 : Int32)), .val (.int (if (1 : Int32) < (pp1 &&& (2147483647 : Int32)) then (pp1 &&& (2147483647 : Int32)) else (1 : Int32))), .unset, .unset, .unset] [(.int (if (1 : Int32) < (pp1 &&& (2147483647 : Int32)) then (pp1 &&& (2147483647 : Int32)) else (1 : Int32)))])) _
      refine X28.ldcInt hx hown (mvT hZ (hw _ (List.mem_of_getElem? (i := 0) rfl))) (g := (mkF m 17 #[.val (.int pp1), .val (.int pp2), .val (.int (2 : Int32)), .val (.int (if (1 : Int32) < (pp1 &&& (2147483647 : Int32)) then (pp1 &&& (2147483647 : Int32)) else (1 : Int32))), .unset, .unset, .unset] [(.int (if (1 : Int32) < (pp1 &&& (2147483647 : Int32)) then (pp1 &&& (2147483647 : Int32)) else (1 : Int32)))])) rfl (hb hby at_17) _ ?_
      show Steps p.tables e below (T28.setTop (mkF m 19 #[.val (.int pp1), .val (.int pp2), .val (.int (2 : Int32)), .val (.int (if (1 : Int32) < (pp1 &&& (2147483647 : Int32)) then (pp1 &&& (2147483647 : Int32)) else (1 : Int32))), .unset, .unset, .unset] [(.int (2147483647 : Int32)), (.int (if (1 : Int32) < (pp1 &&& (2147483647 : Int32)) then (pp1 &&& (2147483647 : Int32)) else (1 : Int32)))])) _
      refine XS.iloadN X28.here hx rfl (hb hby at_19) rfl ?_
      show Steps p.tables e below (T28.setTop (mkF m 20 #[.val (.int pp1), .val (.int pp2), .val (.int (2 : Int32)), .val (.int (if (1 : Int32) < (pp1 &&& (2147483647 : Int32)) then (pp1 &&& (2147483647 : Int32)) else (1 : Int32))), .unset, .unset, .unset] [(.int (2 : Int32)), (.int (2147483647 : Int32)), (.int (if (1 : Int32) < (pp1 &&& (2147483647 : Int32)) then (pp1 &&& (2147483647 : Int32)) else (1 : Int32)))])) _
      refine XS.isub X28.here hx rfl (hb hby at_20) rfl ?_
      show Steps p.tables e below (T28.setTop (mkF m 21 #[.val (.int pp1), .val (.int pp2), .val (.int (2 : Int32)), .val (.int (if (1 : Int32) < (pp1 &&& (2147483647 : Int32)) then (pp1 &&& (2147483647 : Int32)) else (1 : Int32))), .unset, .unset, .unset] [(.int (2147483645 : Int32)), (.int (if (1 : Int32) < (pp1 &&& (2147483647 : Int32)) then (pp1 &&& (2147483647 : Int32)) else (1 : Int32)))])) _
      refine XS.iconst X28.here hx rfl (hb hby at_21) ?_
      show Steps p.tables e below (T28.setTop (mkF m 22 #[.val (.int pp1), .val (.int pp2), .val (.int (2 : Int32)), .val (.int (if (1 : Int32) < (pp1 &&& (2147483647 : Int32)) then (pp1 &&& (2147483647 : Int32)) else (1 : Int32))), .unset, .unset, .unset] [(.int (1 : Int32)), (.int (2147483645 : Int32)), (.int (if (1 : Int32) < (pp1 &&& (2147483647 : Int32)) then (pp1 &&& (2147483647 : Int32)) else (1 : Int32)))])) _
      refine XS.iadd X28.here hx rfl (hb hby at_22) rfl ?_
      show Steps p.tables e below (T28.setTop (mkF m 23 #[.val (.int pp1), .val (.int pp2), .val (.int (2 : Int32)), .val (.int (if (1 : Int32) < (pp1 &&& (2147483647 : Int32)) then (pp1 &&& (2147483647 : Int32)) else (1 : Int32))), .unset, .unset, .unset] [(.int (2147483646 : Int32)), (.int (if (1 : Int32) < (pp1 &&& (2147483647 : Int32)) then (pp1 &&& (2147483647 : Int32)) else (1 : Int32)))])) _
      refine st29 _ ?_
      show Steps p.tables e below (T29.setTop (mkF m 26 #[.val (.int pp1), .val (.int pp2), .val (.int (2 : Int32)), .val (.int (if (1 : Int32) < (pp1 &&& (2147483647 : Int32)) then (pp1 &&& (2147483647 : Int32)) else (1 : Int32))), .unset, .unset, .unset] [(.int (if (2147483646 : Int32) < (if (1 : Int32) < (pp1 &&& (2147483647 : Int32)) then (pp1 &&& (2147483647 : Int32)) else (1 : Int32)) then (2147483646 : Int32) else (if (1 : Int32) < (pp1 &&& (2147483647 : Int32)) then (pp1 &&& (2147483647 : Int32)) else (1 : Int32))))])) _
      refine XS.istoreN X29.here hx rfl (hb hby at_26) rfl (l' := #[.val (.int pp1), .val (.int pp2), .val (.int (2 : Int32)), .val (.int (if (2147483646 : Int32) < (if (1 : Int32) < (pp1 &&& (2147483647 : Int32)) then (pp1 &&& (2147483647 : Int32)) else (1 : Int32)) then (2147483646 : Int32) else (if (1 : Int32) < (pp1 &&& (2147483647 : Int32)) then (pp1 &&& (2147483647 : Int32)) else (1 : Int32)))), .unset, .unset, .unset]) rfl ?_
      exact kt)
    obtain ⟨fi, pre31⟩ : ∃ (fi : Int32), ∀ t, Steps p.tables e below (T29.setTop (mkF m 27 #[.val (.int pp1), .val (.int pp2), .val (.int (2 : Int32)), .val (.int fi), .unset, .unset, .unset] [])) t → Steps p.tables e below (s₁.setTop (entryFrame m #[(.int pp1), (.int pp2)] maxLocals)) t := ⟨(if (2147483646 : Int32) < (if (1 : Int32) < (pp1 &&& (2147483647 : Int32)) then (pp1 &&& (2147483647 : Int32)) else (1 : Int32)) then (2147483646 : Int32) else (if (1 : Int32) < (pp1 &&& (2147483647 : Int32)) then (pp1 &&& (2147483647 : Int32)) else (1 : Int32))), pre30⟩
    obtain ⟨T32, h32, X32, e32, E32, A32, D32, -, st32⟩ := newO X29 hx hZ hown (hw _ (List.mem_of_getElem? (i := 8) rfl)) (hw _ (List.mem_of_getElem? (i := 9) rfl)) (hw _ (List.mem_of_getElem? (i := 10) rfl)) e29 (g := (mkF m 34 #[.val (.int pp1), .val (.int pp2), .val (.int (2 : Int32)), .val (.int fi), .val (.int ((fi + (2 : Int32)) - (1 : Int32))), .unset, .unset] [])) rfl (hb hby at_34) (by decide) (by decide)
    obtain ⟨b32, g32⟩ : ∃ z, z = h0.size := ⟨_, rfl⟩
    rw [← g32] at A32 D32 st32
    have g_b32 : n0 ≤ b32 := Nat.le_trans Z0 (Nat.le_of_eq g32.symm)
    have Z32 : n0 ≤ h32.size := Nat.le_trans Z0 E32.1
    have kz32 := Nat.le_trans (Nat.le_refl _) E32.1
    have F32_name : Fld Z h32 b32 "com/example/escapement/escapement/cli/PartitionTable$Partition" "name" "Ljava/lang/String;" .null := D32 (Or.inr (hw _ (List.mem_of_getElem? (i := 31) rfl))) (ty := (.object "java/lang/String")) (by decide)
    have F32_first : Fld Z h32 b32 "com/example/escapement/escapement/cli/PartitionTable$Partition" "first" "I" (.int (0 : Int32)) := D32 (Or.inr (hw _ (List.mem_of_getElem? (i := 33) rfl))) (ty := .int) (by decide)
    have F32_last : Fld Z h32 b32 "com/example/escapement/escapement/cli/PartitionTable$Partition" "last" "I" (.int (0 : Int32)) := D32 (Or.inr (hw _ (List.mem_of_getElem? (i := 35) rfl))) (ty := .int) (by decide)
    have pre33 : ∀ t, Steps p.tables e below (T32.setTop (mkF m 38 #[.val (.int pp1), .val (.int pp2), .val (.int (2 : Int32)), .val (.int fi), .val (.int ((fi + (2 : Int32)) - (1 : Int32))), .unset, .unset] [(.ref b32), (.ref b32)])) t → Steps p.tables e below (s₁.setTop (entryFrame m #[(.int pp1), (.int pp2)] maxLocals)) t := fun t kt => pre31 t (by
      show Steps p.tables e below (T29.setTop (mkF m 27 #[.val (.int pp1), .val (.int pp2), .val (.int (2 : Int32)), .val (.int fi), .unset, .unset, .unset] [])) _
      refine XS.iloadN X29.here hx rfl (hb hby at_27) rfl ?_
      show Steps p.tables e below (T29.setTop (mkF m 28 #[.val (.int pp1), .val (.int pp2), .val (.int (2 : Int32)), .val (.int fi), .unset, .unset, .unset] [(.int fi)])) _
      refine XS.iloadN X29.here hx rfl (hb hby at_28) rfl ?_
      show Steps p.tables e below (T29.setTop (mkF m 29 #[.val (.int pp1), .val (.int pp2), .val (.int (2 : Int32)), .val (.int fi), .unset, .unset, .unset] [(.int (2 : Int32)), (.int fi)])) _
      refine XS.iadd X29.here hx rfl (hb hby at_29) rfl ?_
      show Steps p.tables e below (T29.setTop (mkF m 30 #[.val (.int pp1), .val (.int pp2), .val (.int (2 : Int32)), .val (.int fi), .unset, .unset, .unset] [(.int (fi + (2 : Int32)))])) _
      refine XS.iconst X29.here hx rfl (hb hby at_30) ?_
      show Steps p.tables e below (T29.setTop (mkF m 31 #[.val (.int pp1), .val (.int pp2), .val (.int (2 : Int32)), .val (.int fi), .unset, .unset, .unset] [(.int (1 : Int32)), (.int (fi + (2 : Int32)))])) _
      refine XS.isub X29.here hx rfl (hb hby at_31) rfl ?_
      show Steps p.tables e below (T29.setTop (mkF m 32 #[.val (.int pp1), .val (.int pp2), .val (.int (2 : Int32)), .val (.int fi), .unset, .unset, .unset] [(.int ((fi + (2 : Int32)) - (1 : Int32)))])) _
      refine XS.istore X29.here hx rfl (hb hby at_32) rfl (l' := #[.val (.int pp1), .val (.int pp2), .val (.int (2 : Int32)), .val (.int fi), .val (.int ((fi + (2 : Int32)) - (1 : Int32))), .unset, .unset]) rfl ?_
      show Steps p.tables e below (T29.setTop (mkF m 34 #[.val (.int pp1), .val (.int pp2), .val (.int (2 : Int32)), .val (.int fi), .val (.int ((fi + (2 : Int32)) - (1 : Int32))), .unset, .unset] [])) _
      refine st32 _ ?_
      show Steps p.tables e below (T32.setTop (mkF m 37 #[.val (.int pp1), .val (.int pp2), .val (.int (2 : Int32)), .val (.int fi), .val (.int ((fi + (2 : Int32)) - (1 : Int32))), .unset, .unset] [(.ref b32)])) _
      refine XS.dup X32.here hx rfl (hb hby at_37) rfl rfl ?_
      exact kt)
    obtain ⟨a34, T34, h34, kk34, X34, e34, E34, hS34, kz34, hZ, hown, st34⟩ := ldcS (s := s) (vm0 := s.vm) X32 hx hZ hown (hw _ (List.mem_of_getElem? (i := 11) rfl)) (fun d hd => hw d (own_str_in d hd)) e32 hS0 kz32 (g := (mkF m 38 #[.val (.int pp1), .val (.int pp2), .val (.int (2 : Int32)), .val (.int fi), .val (.int ((fi + (2 : Int32)) - (1 : Int32))), .unset, .unset] [(.ref b32), (.ref b32)])) rfl (hb hby at_38) (n := 4) (by decide) (by decide) (by decide) (by decide)
    have Z34 : n0 ≤ h34.size := Nat.le_trans Z32 E34.1
    have E_35 : Exa Z h34 b32 "com/example/escapement/escapement/cli/PartitionTable$Partition" := (A32.ext E34)
    have F_36 : Fld Z h34 b32 "com/example/escapement/escapement/cli/PartitionTable$Partition" "name" "Ljava/lang/String;" .null := (F32_name.ext E34)
    have F_37 : Fld Z h34 b32 "com/example/escapement/escapement/cli/PartitionTable$Partition" "first" "I" (.int (0 : Int32)) := (F32_first.ext E34)
    have F_38 : Fld Z h34 b32 "com/example/escapement/escapement/cli/PartitionTable$Partition" "last" "I" (.int (0 : Int32)) := (F32_last.ext E34)
    obtain ⟨_, _, ⟨T39, L39, k39, n39⟩, -, X39, ⟨Lc39, hQ39, l39, y39, z39⟩, st39⟩ := X34.specialBack hx (y := (⟨"com/example/escapement/escapement/cli/PartitionTable$Partition", "<init>", "(Ljava/lang/String;II)V"⟩ : MethodName)) rfl hown (mvT hZ (hw _ (List.mem_of_getElem? (i := 19) rfl))) (mvT hZ (hw _ (List.mem_of_getElem? (i := 20) rfl))) (mvT hZ (hw _ (List.mem_of_getElem? (i := 21) rfl))) (by decide) (backOf (W := 1) (rm3 l Z a0 hw [] b32 a34 fi ((fi + (2 : Int32)) - (1 : Int32)) .null (.int (0 : Int32)) (.int (0 : Int32)) h34 n0 Z34 E_35 g_b32 F_36 F_37 F_38) hZ (hw _ (List.mem_of_getElem? (i := 21) rfl)) (hw _ (List.mem_of_getElem? (i := 10) rfl)) (by decide) (by decide)) (g := (mkF m 43 #[.val (.int pp1), .val (.int pp2), .val (.int (2 : Int32)), .val (.int fi), .val (.int ((fi + (2 : Int32)) - (1 : Int32))), .unset, .unset] [(.int ((fi + (2 : Int32)) - (1 : Int32))), (.int fi), (.ref a34), (.ref b32), (.ref b32)])) rfl (by rw [hml]; rfl) (Steps.refl _) (a := b32) (argsL := [(.ref a34), (.int fi), (.int ((fi + (2 : Int32)) - (1 : Int32)))]) (rest := [(.ref b32)]) (lenOf pd__28_Ljava_2f_lang_2f_String_3b_II_29_V rfl) rfl (by show 2 * 0 + _ ≤ _; exact Nat.le_of_eq rfl) (hb hby at_43) (fun _ _ => ⟨rfl, e34, (by decide : 3 + 0 ≤ _), (by decide : 11 + 0 ≤ _)⟩)
    dsimp only [Pt.U, Pt.locs, Pt.cells, Pt.slots] at X39 l39 y39 z39 st39 hQ39
    subst l39 y39 z39
    obtain ⟨rfl, N39q, K39c, R39_0, R39_1, R39_2⟩ := hQ39
    have N39 := Fr.app N29 N39q
    have Z39 : n0 ≤ T39.heap.size := Nat.le_trans Z34 K39c.1
    have kz39 := Nat.le_trans kz34 K39c.1
    have E_41 : Exa Z T39.heap b32 "com/example/escapement/escapement/cli/PartitionTable$Partition" := (E_35.keep K39c)
    obtain ⟨cq40, kq40, q40a, q40b, q40c⟩ := isOf hZ rfl E_41
    obtain ⟨_, _, ⟨T40, L40, k40, n40⟩, -, X40, ⟨Lc40, hQ40, l40, y40, z40⟩, st40⟩ := X39.virtualBack hx (y := (⟨"com/example/escapement/escapement/cli/PartitionTable$Partition", "sites", "()[I"⟩ : MethodName)) (z := (⟨"com/example/escapement/escapement/cli/PartitionTable$Partition", "sites", "()[I"⟩ : MethodName)) hown (mvT hZ (hw _ (List.mem_of_getElem? (i := 36) rfl))) (mvT hZ (hw _ (List.mem_of_getElem? (i := 37) rfl))) (notFace_of_selects (args := #[]) (mvT hZ (hw _ (List.mem_of_getElem? (i := 39) rfl)))) (mvT hZ (hw _ (List.mem_of_getElem? (i := 39) rfl))) (mvT hZ (hw _ (List.mem_of_getElem? (i := 38) rfl))) (by decide) (backOf (W := 0) (rm6_2 l Z a0 hw [] b32 fi ((fi + (2 : Int32)) - (1 : Int32)) T39.heap n0 Z39 R39_1 R39_2 (show ((((fi + (2 : Int32)) - (1 : Int32)) - fi) + (1 : Int32)) = (2 : Int32) from own_len fi (2 : Int32))) hZ (hw _ (List.mem_of_getElem? (i := 40) rfl)) (hw _ (List.mem_of_getElem? (i := 10) rfl)) (by decide) (by decide)) q40a q40c (g := (mkF m 50 #[.val (.int pp1), .val (.int pp2), .val (.int (2 : Int32)), .val (.int fi), .val (.int ((fi + (2 : Int32)) - (1 : Int32))), .val (.ref b32), .unset] [(.ref b32)])) rfl (by rw [hml]; rfl) (Steps.refl _) (argsL := []) (rest := []) (lenOf pd__28__29__5b_I rfl) rfl (by show 2 * 0 + _ ≤ _; exact Nat.le_of_eq rfl) (hb hby at_50) (fun _ _ => ⟨rfl, rfl, (by decide : 3 + 1 ≤ _), (by decide : 11 + 2 ≤ _)⟩)
    dsimp only [Pt.U, Pt.locs, Pt.cells, Pt.slots] at X40 l40 y40 z40 st40 hQ40
    subst l40 y40 z40
    obtain ⟨bx_40, kx_40, rfl, N40q, K40c, g_bx_40, sb_bx_40, R40_0⟩ := hQ40
    have N40 := Fr.app N39 N40q
    have Z40 : n0 ≤ T40.heap.size := Nat.le_trans Z39 K40c.1
    have kz40 := Nat.le_trans kz39 K40c.1
    obtain ⟨cl_42, Ar_42, -, Sz_42, Nn_42, -, -⟩ := id R40_0
    have hc64_2 : (2 : Int32) = (2 : Int32) := by decide
    obtain ⟨cl_43, Ar_43, qq_43, Sz_43, Nn_43, Hh_43, Gg_43⟩ := id R40_0
    have hin_43 : ¬ ((0 : Int32) < 0 ∨ cl_43.slots.size ≤ ((0 : Int32)).toNatClampNeg) := inb_of Sz_43 ⟨by decide, by decide⟩
    have hat_43 : cl_43.slots[((0 : Int32)).toNatClampNeg]? = some (.int ((fi - (1 : Int32)) + (0 : Int32))) := Has.at Hh_43 hin_43 rfl
    have hc76_2 : ((fi - (1 : Int32)) + (0 : Int32)) = (fi - (1 : Int32)) := Int32.add_zero _
    obtain ⟨cl_44, Ar_44, qq_44, Sz_44, Nn_44, Hh_44, Gg_44⟩ := id R40_0
    have hin_44 : ¬ ((1 : Int32) < 0 ∨ cl_44.slots.size ≤ ((1 : Int32)).toNatClampNeg) := inb_of Sz_44 ⟨by decide, by decide⟩
    have hat_44 : cl_44.slots[((1 : Int32)).toNatClampNeg]? = some (.int ((fi - (1 : Int32)) + (1 : Int32))) := Has.at Hh_44 hin_44 rfl
    have hc89_2 : ((fi - (1 : Int32)) + (1 : Int32)) = (((fi + (2 : Int32)) - (1 : Int32)) - (1 : Int32)) := own_last fi (2 : Int32)
    obtain ⟨_, _, ⟨T45, L45, k45, n45⟩, -, X45, ⟨Lc45, hQ45, l45, y45, z45⟩, st45⟩ := Jvm.LawKit.callS X40 hx (y := (⟨"com/example/escapement/escapement/cli/PartitionSitesPinLaw", "at", "([III)Z"⟩ : MethodName)) hown (mvT hZ (hw _ (List.mem_of_getElem? (i := 42) rfl))) (mvT hZ (hw _ (List.mem_of_getElem? (i := 43) rfl))) (mvT hZ (hw _ (List.mem_of_getElem? (i := 44) rfl))) (mvT hZ (hw _ (List.mem_of_getElem? (i := 45) rfl))) (by decide) (backOf (W := 0) (rm7 l Z a0 hw [] bx_40 (0 : Int32) fi kx_40 (2 : Int32) [(.int ((fi - (1 : Int32)) + (0 : Int32))), (.int ((fi - (1 : Int32)) + (1 : Int32)))] T40.heap n0 Z40 R40_0 (show ¬ (0 : Int32) < (0 : Int32) from (by decide)) (show (0 : Int32) < (2 : Int32) → ([(.int ((fi - (1 : Int32)) + (0 : Int32))), (.int ((fi - (1 : Int32)) + (1 : Int32)))] : List Value).getD ((0 : Int32)).toNatClampNeg (.int (0 : Int32)) = .int ((fi - (1 : Int32)) + (0 : Int32)) from (fun _ => rfl))) hZ (hw _ (List.mem_of_getElem? (i := 45) rfl)) (hw _ (List.mem_of_getElem? (i := 44) rfl)) (by decide) (by decide)) (g := (mkF m 98 #[.val (.int pp1), .val (.int pp2), .val (.int (2 : Int32)), .val (.int fi), .val (.int ((fi + (2 : Int32)) - (1 : Int32))), .val (.ref b32), .val (.ref bx_40)] [(.int fi), (.int (0 : Int32)), (.ref bx_40)])) rfl (by rw [hml]; rfl) (argsL := [(.ref bx_40), (.int (0 : Int32)), (.int fi)]) (rest := []) (lenOf pd__28__5b_III_29_Z rfl) rfl (by show 2 * 0 + _ ≤ _; exact Nat.le_of_eq rfl) (hb hby at_98) (fun _ _ => ⟨rfl, rfl, (by decide : 4 + 0 ≤ _), (by decide : 13 + 0 ≤ _)⟩)
    dsimp only [Pt.U, Pt.locs, Pt.cells, Pt.slots] at X45 l45 y45 z45 st45 hQ45
    subst l45 y45 z45
    obtain ⟨rfl, N45q, e45⟩ := hQ45
    have N45 := Fr.app N40 N45q
    have hc101_2 : ¬ ((1 : Int32) = (0 : Int32)) := by decide
    obtain ⟨_, _, ⟨T46, L46, k46, n46⟩, -, X46, ⟨Lc46, hQ46, l46, y46, z46⟩, st46⟩ := Jvm.LawKit.callS X45 hx (y := (⟨"com/example/escapement/escapement/cli/PartitionSitesPinLaw", "at", "([III)Z"⟩ : MethodName)) hown (mvT hZ (hw _ (List.mem_of_getElem? (i := 42) rfl))) (mvT hZ (hw _ (List.mem_of_getElem? (i := 43) rfl))) (mvT hZ (hw _ (List.mem_of_getElem? (i := 44) rfl))) (mvT hZ (hw _ (List.mem_of_getElem? (i := 45) rfl))) (by decide) (backOf (W := 0) (rm7 l Z a0 hw [] bx_40 (1 : Int32) fi kx_40 (2 : Int32) [(.int ((fi - (1 : Int32)) + (0 : Int32))), (.int ((fi - (1 : Int32)) + (1 : Int32)))] T40.heap n0 Z40 R40_0 (show ¬ (1 : Int32) < (0 : Int32) from (by decide)) (show (1 : Int32) < (2 : Int32) → ([(.int ((fi - (1 : Int32)) + (0 : Int32))), (.int ((fi - (1 : Int32)) + (1 : Int32)))] : List Value).getD ((1 : Int32)).toNatClampNeg (.int (0 : Int32)) = .int ((fi - (1 : Int32)) + (1 : Int32)) from (fun _ => rfl))) hZ (hw _ (List.mem_of_getElem? (i := 45) rfl)) (hw _ (List.mem_of_getElem? (i := 44) rfl)) (by decide) (by decide)) (g := (mkF m 108 #[.val (.int pp1), .val (.int pp2), .val (.int (2 : Int32)), .val (.int fi), .val (.int ((fi + (2 : Int32)) - (1 : Int32))), .val (.ref b32), .val (.ref bx_40)] [(.int fi), (.int (1 : Int32)), (.ref bx_40)])) rfl (by rw [hml]; rfl) (argsL := [(.ref bx_40), (.int (1 : Int32)), (.int fi)]) (rest := []) (lenOf pd__28__5b_III_29_Z rfl) rfl (by show 2 * 0 + _ ≤ _; exact Nat.le_of_eq rfl) (hb hby at_108) (fun _ _ => ⟨rfl, e45, (by decide : 4 + 0 ≤ _), (by decide : 13 + 0 ≤ _)⟩)
    dsimp only [Pt.U, Pt.locs, Pt.cells, Pt.slots] at X46 l46 y46 z46 st46 hQ46
    subst l46 y46 z46
    obtain ⟨rfl, N46q, e46⟩ := hQ46
    have N46 := Fr.app N45 N46q
    have hc111_2 : ¬ ((1 : Int32) = (0 : Int32)) := by decide
    obtain ⟨_, _, ⟨T47, L47, k47, n47⟩, -, X47, ⟨Lc47, hQ47, l47, y47, z47⟩, st47⟩ := Jvm.LawKit.callS X46 hx (y := (⟨"com/example/escapement/escapement/cli/PartitionSitesPinLaw", "at", "([III)Z"⟩ : MethodName)) hown (mvT hZ (hw _ (List.mem_of_getElem? (i := 42) rfl))) (mvT hZ (hw _ (List.mem_of_getElem? (i := 43) rfl))) (mvT hZ (hw _ (List.mem_of_getElem? (i := 44) rfl))) (mvT hZ (hw _ (List.mem_of_getElem? (i := 45) rfl))) (by decide) (backOf (W := 0) (rm7 l Z a0 hw [] bx_40 (2 : Int32) fi kx_40 (2 : Int32) [(.int ((fi - (1 : Int32)) + (0 : Int32))), (.int ((fi - (1 : Int32)) + (1 : Int32)))] T40.heap n0 Z40 R40_0 (show ¬ (2 : Int32) < (0 : Int32) from (by decide)) (show (2 : Int32) < (2 : Int32) → ([(.int ((fi - (1 : Int32)) + (0 : Int32))), (.int ((fi - (1 : Int32)) + (1 : Int32)))] : List Value).getD ((2 : Int32)).toNatClampNeg (.int (0 : Int32)) = .int ((fi - (1 : Int32)) + (2 : Int32)) from (fun h => absurd h (by decide)))) hZ (hw _ (List.mem_of_getElem? (i := 45) rfl)) (hw _ (List.mem_of_getElem? (i := 44) rfl)) (by decide) (by decide)) (g := (mkF m 118 #[.val (.int pp1), .val (.int pp2), .val (.int (2 : Int32)), .val (.int fi), .val (.int ((fi + (2 : Int32)) - (1 : Int32))), .val (.ref b32), .val (.ref bx_40)] [(.int fi), (.int (2 : Int32)), (.ref bx_40)])) rfl (by rw [hml]; rfl) (argsL := [(.ref bx_40), (.int (2 : Int32)), (.int fi)]) (rest := []) (lenOf pd__28__5b_III_29_Z rfl) rfl (by show 2 * 0 + _ ≤ _; exact Nat.le_of_eq rfl) (hb hby at_118) (fun _ _ => ⟨rfl, e46, (by decide : 4 + 0 ≤ _), (by decide : 13 + 0 ≤ _)⟩)
    dsimp only [Pt.U, Pt.locs, Pt.cells, Pt.slots] at X47 l47 y47 z47 st47 hQ47
    subst l47 y47 z47
    obtain ⟨rfl, N47q, e47⟩ := hQ47
    have N47 := Fr.app N46 N47q
    have hc121_2 : ¬ ((1 : Int32) = (0 : Int32)) := by decide
    obtain ⟨_, _, ⟨T48, L48, k48, n48⟩, -, X48, ⟨Lc48, hQ48, l48, y48, z48⟩, st48⟩ := Jvm.LawKit.callS X47 hx (y := (⟨"com/example/escapement/escapement/cli/PartitionSitesPinLaw", "at", "([III)Z"⟩ : MethodName)) hown (mvT hZ (hw _ (List.mem_of_getElem? (i := 42) rfl))) (mvT hZ (hw _ (List.mem_of_getElem? (i := 43) rfl))) (mvT hZ (hw _ (List.mem_of_getElem? (i := 44) rfl))) (mvT hZ (hw _ (List.mem_of_getElem? (i := 45) rfl))) (by decide) (backOf (W := 0) (rm7 l Z a0 hw [] bx_40 (3 : Int32) fi kx_40 (2 : Int32) [(.int ((fi - (1 : Int32)) + (0 : Int32))), (.int ((fi - (1 : Int32)) + (1 : Int32)))] T40.heap n0 Z40 R40_0 (show ¬ (3 : Int32) < (0 : Int32) from (by decide)) (show (3 : Int32) < (2 : Int32) → ([(.int ((fi - (1 : Int32)) + (0 : Int32))), (.int ((fi - (1 : Int32)) + (1 : Int32)))] : List Value).getD ((3 : Int32)).toNatClampNeg (.int (0 : Int32)) = .int ((fi - (1 : Int32)) + (3 : Int32)) from (fun h => absurd h (by decide)))) hZ (hw _ (List.mem_of_getElem? (i := 45) rfl)) (hw _ (List.mem_of_getElem? (i := 44) rfl)) (by decide) (by decide)) (g := (mkF m 128 #[.val (.int pp1), .val (.int pp2), .val (.int (2 : Int32)), .val (.int fi), .val (.int ((fi + (2 : Int32)) - (1 : Int32))), .val (.ref b32), .val (.ref bx_40)] [(.int fi), (.int (3 : Int32)), (.ref bx_40)])) rfl (by rw [hml]; rfl) (argsL := [(.ref bx_40), (.int (3 : Int32)), (.int fi)]) (rest := []) (lenOf pd__28__5b_III_29_Z rfl) rfl (by show 2 * 0 + _ ≤ _; exact Nat.le_of_eq rfl) (hb hby at_128) (fun _ _ => ⟨rfl, e47, (by decide : 4 + 0 ≤ _), (by decide : 13 + 0 ≤ _)⟩)
    dsimp only [Pt.U, Pt.locs, Pt.cells, Pt.slots] at X48 l48 y48 z48 st48 hQ48
    subst l48 y48 z48
    obtain ⟨rfl, N48q, e48⟩ := hQ48
    have N48 := Fr.app N47 N48q
    have hc131_2 : ¬ ((1 : Int32) = (0 : Int32)) := by decide
    obtain ⟨_, _, ⟨T49, L49, k49, n49⟩, -, X49, ⟨Lc49, hQ49, l49, y49, z49⟩, st49⟩ := Jvm.LawKit.callS X48 hx (y := (⟨"com/example/escapement/escapement/cli/PartitionSitesPinLaw", "at", "([III)Z"⟩ : MethodName)) hown (mvT hZ (hw _ (List.mem_of_getElem? (i := 42) rfl))) (mvT hZ (hw _ (List.mem_of_getElem? (i := 43) rfl))) (mvT hZ (hw _ (List.mem_of_getElem? (i := 44) rfl))) (mvT hZ (hw _ (List.mem_of_getElem? (i := 45) rfl))) (by decide) (backOf (W := 0) (rm7 l Z a0 hw [] bx_40 (4 : Int32) fi kx_40 (2 : Int32) [(.int ((fi - (1 : Int32)) + (0 : Int32))), (.int ((fi - (1 : Int32)) + (1 : Int32)))] T40.heap n0 Z40 R40_0 (show ¬ (4 : Int32) < (0 : Int32) from (by decide)) (show (4 : Int32) < (2 : Int32) → ([(.int ((fi - (1 : Int32)) + (0 : Int32))), (.int ((fi - (1 : Int32)) + (1 : Int32)))] : List Value).getD ((4 : Int32)).toNatClampNeg (.int (0 : Int32)) = .int ((fi - (1 : Int32)) + (4 : Int32)) from (fun h => absurd h (by decide)))) hZ (hw _ (List.mem_of_getElem? (i := 45) rfl)) (hw _ (List.mem_of_getElem? (i := 44) rfl)) (by decide) (by decide)) (g := (mkF m 138 #[.val (.int pp1), .val (.int pp2), .val (.int (2 : Int32)), .val (.int fi), .val (.int ((fi + (2 : Int32)) - (1 : Int32))), .val (.ref b32), .val (.ref bx_40)] [(.int fi), (.int (4 : Int32)), (.ref bx_40)])) rfl (by rw [hml]; rfl) (argsL := [(.ref bx_40), (.int (4 : Int32)), (.int fi)]) (rest := []) (lenOf pd__28__5b_III_29_Z rfl) rfl (by show 2 * 0 + _ ≤ _; exact Nat.le_of_eq rfl) (hb hby at_138) (fun _ _ => ⟨rfl, e48, (by decide : 4 + 0 ≤ _), (by decide : 13 + 0 ≤ _)⟩)
    dsimp only [Pt.U, Pt.locs, Pt.cells, Pt.slots] at X49 l49 y49 z49 st49 hQ49
    subst l49 y49 z49
    obtain ⟨rfl, N49q, e49⟩ := hQ49
    have N49 := Fr.app N48 N49q
    have hc141_2 : ¬ ((1 : Int32) = (0 : Int32)) := by decide
    obtain ⟨_, _, ⟨T50, L50, k50, n50⟩, -, X50, ⟨Lc50, hQ50, l50, y50, z50⟩, st50⟩ := Jvm.LawKit.callS X49 hx (y := (⟨"com/example/escapement/escapement/cli/PartitionSitesPinLaw", "at", "([III)Z"⟩ : MethodName)) hown (mvT hZ (hw _ (List.mem_of_getElem? (i := 42) rfl))) (mvT hZ (hw _ (List.mem_of_getElem? (i := 43) rfl))) (mvT hZ (hw _ (List.mem_of_getElem? (i := 44) rfl))) (mvT hZ (hw _ (List.mem_of_getElem? (i := 45) rfl))) (by decide) (backOf (W := 0) (rm7 l Z a0 hw [] bx_40 (5 : Int32) fi kx_40 (2 : Int32) [(.int ((fi - (1 : Int32)) + (0 : Int32))), (.int ((fi - (1 : Int32)) + (1 : Int32)))] T40.heap n0 Z40 R40_0 (show ¬ (5 : Int32) < (0 : Int32) from (by decide)) (show (5 : Int32) < (2 : Int32) → ([(.int ((fi - (1 : Int32)) + (0 : Int32))), (.int ((fi - (1 : Int32)) + (1 : Int32)))] : List Value).getD ((5 : Int32)).toNatClampNeg (.int (0 : Int32)) = .int ((fi - (1 : Int32)) + (5 : Int32)) from (fun h => absurd h (by decide)))) hZ (hw _ (List.mem_of_getElem? (i := 45) rfl)) (hw _ (List.mem_of_getElem? (i := 44) rfl)) (by decide) (by decide)) (g := (mkF m 148 #[.val (.int pp1), .val (.int pp2), .val (.int (2 : Int32)), .val (.int fi), .val (.int ((fi + (2 : Int32)) - (1 : Int32))), .val (.ref b32), .val (.ref bx_40)] [(.int fi), (.int (5 : Int32)), (.ref bx_40)])) rfl (by rw [hml]; rfl) (argsL := [(.ref bx_40), (.int (5 : Int32)), (.int fi)]) (rest := []) (lenOf pd__28__5b_III_29_Z rfl) rfl (by show 2 * 0 + _ ≤ _; exact Nat.le_of_eq rfl) (hb hby at_148) (fun _ _ => ⟨rfl, e49, (by decide : 4 + 0 ≤ _), (by decide : 13 + 0 ≤ _)⟩)
    dsimp only [Pt.U, Pt.locs, Pt.cells, Pt.slots] at X50 l50 y50 z50 st50 hQ50
    subst l50 y50 z50
    obtain ⟨rfl, N50q, e50⟩ := hQ50
    have N50 := Fr.app N49 N50q
    have hc151_2 : ¬ ((1 : Int32) = (0 : Int32)) := by decide
    obtain ⟨_, _, ⟨T51, L51, k51, n51⟩, -, X51, ⟨Lc51, hQ51, l51, y51, z51⟩, st51⟩ := Jvm.LawKit.callS X50 hx (y := (⟨"com/example/escapement/escapement/cli/PartitionSitesPinLaw", "at", "([III)Z"⟩ : MethodName)) hown (mvT hZ (hw _ (List.mem_of_getElem? (i := 42) rfl))) (mvT hZ (hw _ (List.mem_of_getElem? (i := 43) rfl))) (mvT hZ (hw _ (List.mem_of_getElem? (i := 44) rfl))) (mvT hZ (hw _ (List.mem_of_getElem? (i := 45) rfl))) (by decide) (backOf (W := 0) (rm7 l Z a0 hw [] bx_40 (6 : Int32) fi kx_40 (2 : Int32) [(.int ((fi - (1 : Int32)) + (0 : Int32))), (.int ((fi - (1 : Int32)) + (1 : Int32)))] T40.heap n0 Z40 R40_0 (show ¬ (6 : Int32) < (0 : Int32) from (by decide)) (show (6 : Int32) < (2 : Int32) → ([(.int ((fi - (1 : Int32)) + (0 : Int32))), (.int ((fi - (1 : Int32)) + (1 : Int32)))] : List Value).getD ((6 : Int32)).toNatClampNeg (.int (0 : Int32)) = .int ((fi - (1 : Int32)) + (6 : Int32)) from (fun h => absurd h (by decide)))) hZ (hw _ (List.mem_of_getElem? (i := 45) rfl)) (hw _ (List.mem_of_getElem? (i := 44) rfl)) (by decide) (by decide)) (g := (mkF m 159 #[.val (.int pp1), .val (.int pp2), .val (.int (2 : Int32)), .val (.int fi), .val (.int ((fi + (2 : Int32)) - (1 : Int32))), .val (.ref b32), .val (.ref bx_40)] [(.int fi), (.int (6 : Int32)), (.ref bx_40)])) rfl (by rw [hml]; rfl) (argsL := [(.ref bx_40), (.int (6 : Int32)), (.int fi)]) (rest := []) (lenOf pd__28__5b_III_29_Z rfl) rfl (by show 2 * 0 + _ ≤ _; exact Nat.le_of_eq rfl) (hb hby at_159) (fun _ _ => ⟨rfl, e50, (by decide : 4 + 0 ≤ _), (by decide : 13 + 0 ≤ _)⟩)
    dsimp only [Pt.U, Pt.locs, Pt.cells, Pt.slots] at X51 l51 y51 z51 st51 hQ51
    subst l51 y51 z51
    obtain ⟨rfl, N51q, e51⟩ := hQ51
    have N51 := Fr.app N50 N51q
    have hc162_2 : ¬ ((1 : Int32) = (0 : Int32)) := by decide
    obtain ⟨_, _, ⟨T52, L52, k52, n52⟩, -, X52, ⟨Lc52, hQ52, l52, y52, z52⟩, st52⟩ := Jvm.LawKit.callS X51 hx (y := (⟨"com/example/escapement/escapement/cli/PartitionSitesPinLaw", "at", "([III)Z"⟩ : MethodName)) hown (mvT hZ (hw _ (List.mem_of_getElem? (i := 42) rfl))) (mvT hZ (hw _ (List.mem_of_getElem? (i := 43) rfl))) (mvT hZ (hw _ (List.mem_of_getElem? (i := 44) rfl))) (mvT hZ (hw _ (List.mem_of_getElem? (i := 45) rfl))) (by decide) (backOf (W := 0) (rm7 l Z a0 hw [] bx_40 (7 : Int32) fi kx_40 (2 : Int32) [(.int ((fi - (1 : Int32)) + (0 : Int32))), (.int ((fi - (1 : Int32)) + (1 : Int32)))] T40.heap n0 Z40 R40_0 (show ¬ (7 : Int32) < (0 : Int32) from (by decide)) (show (7 : Int32) < (2 : Int32) → ([(.int ((fi - (1 : Int32)) + (0 : Int32))), (.int ((fi - (1 : Int32)) + (1 : Int32)))] : List Value).getD ((7 : Int32)).toNatClampNeg (.int (0 : Int32)) = .int ((fi - (1 : Int32)) + (7 : Int32)) from (fun h => absurd h (by decide)))) hZ (hw _ (List.mem_of_getElem? (i := 45) rfl)) (hw _ (List.mem_of_getElem? (i := 44) rfl)) (by decide) (by decide)) (g := (mkF m 170 #[.val (.int pp1), .val (.int pp2), .val (.int (2 : Int32)), .val (.int fi), .val (.int ((fi + (2 : Int32)) - (1 : Int32))), .val (.ref b32), .val (.ref bx_40)] [(.int fi), (.int (7 : Int32)), (.ref bx_40)])) rfl (by rw [hml]; rfl) (argsL := [(.ref bx_40), (.int (7 : Int32)), (.int fi)]) (rest := []) (lenOf pd__28__5b_III_29_Z rfl) rfl (by show 2 * 0 + _ ≤ _; exact Nat.le_of_eq rfl) (hb hby at_170) (fun _ _ => ⟨rfl, e51, (by decide : 4 + 0 ≤ _), (by decide : 13 + 0 ≤ _)⟩)
    dsimp only [Pt.U, Pt.locs, Pt.cells, Pt.slots] at X52 l52 y52 z52 st52 hQ52
    subst l52 y52 z52
    obtain ⟨rfl, N52q, e52⟩ := hQ52
    have N52 := Fr.app N51 N52q
    have hc173_2 : ¬ ((1 : Int32) = (0 : Int32)) := by decide
    obtain ⟨fs, hr, hrun, hended, qe1, qe2, qe3, qe4⟩ := Stand.leaveW (s := s) (vm₁ := T34.vm) X52 hS34 (by rw [e52]; exact kz40) (v := some (.int (1 : Int32))) (fun h => by rw [Bd.returns] at h; cases h)
    refine ⟨_, _, pre33 _ ?_, hrun, hended, _, _, rfl, ?_, qe1, qe2, qe3, qe4.mono (by decide) (by decide)⟩
    · show Steps p.tables e below (T32.setTop (mkF m 38 #[.val (.int pp1), .val (.int pp2), .val (.int (2 : Int32)), .val (.int fi), .val (.int ((fi + (2 : Int32)) - (1 : Int32))), .unset, .unset] [(.ref b32), (.ref b32)])) _
      refine st34 _ ?_
      show Steps p.tables e below (T34.setTop (mkF m 40 #[.val (.int pp1), .val (.int pp2), .val (.int (2 : Int32)), .val (.int fi), .val (.int ((fi + (2 : Int32)) - (1 : Int32))), .unset, .unset] [(.ref a34), (.ref b32), (.ref b32)])) _
      refine XS.iloadN X34.here hx rfl (hb hby at_40) rfl ?_
      show Steps p.tables e below (T34.setTop (mkF m 41 #[.val (.int pp1), .val (.int pp2), .val (.int (2 : Int32)), .val (.int fi), .val (.int ((fi + (2 : Int32)) - (1 : Int32))), .unset, .unset] [(.int fi), (.ref a34), (.ref b32), (.ref b32)])) _
      refine XS.iload X34.here hx rfl (hb hby at_41) rfl ?_
      show Steps p.tables e below (T34.setTop (mkF m 43 #[.val (.int pp1), .val (.int pp2), .val (.int (2 : Int32)), .val (.int fi), .val (.int ((fi + (2 : Int32)) - (1 : Int32))), .unset, .unset] [(.int ((fi + (2 : Int32)) - (1 : Int32))), (.int fi), (.ref a34), (.ref b32), (.ref b32)])) _
      refine st39.trans ?_
      show Steps p.tables e below (T39.setTop (mkF m 46 #[.val (.int pp1), .val (.int pp2), .val (.int (2 : Int32)), .val (.int fi), .val (.int ((fi + (2 : Int32)) - (1 : Int32))), .unset, .unset] [(.ref b32)])) _
      refine XS.astore X39.here hx rfl (hb hby at_46) rfl rfl (l' := #[.val (.int pp1), .val (.int pp2), .val (.int (2 : Int32)), .val (.int fi), .val (.int ((fi + (2 : Int32)) - (1 : Int32))), .val (.ref b32), .unset]) rfl ?_
      show Steps p.tables e below (T39.setTop (mkF m 48 #[.val (.int pp1), .val (.int pp2), .val (.int (2 : Int32)), .val (.int fi), .val (.int ((fi + (2 : Int32)) - (1 : Int32))), .val (.ref b32), .unset] [])) _
      refine XS.aload X39.here hx rfl (hb hby at_48) rfl rfl ?_
      show Steps p.tables e below (T39.setTop (mkF m 50 #[.val (.int pp1), .val (.int pp2), .val (.int (2 : Int32)), .val (.int fi), .val (.int ((fi + (2 : Int32)) - (1 : Int32))), .val (.ref b32), .unset] [(.ref b32)])) _
      refine st40.trans ?_
      show Steps p.tables e below (T40.setTop (mkF m 53 #[.val (.int pp1), .val (.int pp2), .val (.int (2 : Int32)), .val (.int fi), .val (.int ((fi + (2 : Int32)) - (1 : Int32))), .val (.ref b32), .unset] [(.ref bx_40)])) _
      refine XS.astore X40.here hx rfl (hb hby at_53) rfl rfl (l' := #[.val (.int pp1), .val (.int pp2), .val (.int (2 : Int32)), .val (.int fi), .val (.int ((fi + (2 : Int32)) - (1 : Int32))), .val (.ref b32), .val (.ref bx_40)]) rfl ?_
      show Steps p.tables e below (T40.setTop (mkF m 55 #[.val (.int pp1), .val (.int pp2), .val (.int (2 : Int32)), .val (.int fi), .val (.int ((fi + (2 : Int32)) - (1 : Int32))), .val (.ref b32), .val (.ref bx_40)] [])) _
      refine XS.aload X40.here hx rfl (hb hby at_55) rfl rfl ?_
      show Steps p.tables e below (T40.setTop (mkF m 57 #[.val (.int pp1), .val (.int pp2), .val (.int (2 : Int32)), .val (.int fi), .val (.int ((fi + (2 : Int32)) - (1 : Int32))), .val (.ref b32), .val (.ref bx_40)] [(.ref bx_40)])) _
      refine XS.ifnullNo X40.here hx rfl (hb hby at_57) rfl ?_
      show Steps p.tables e below (T40.setTop (mkF m 60 #[.val (.int pp1), .val (.int pp2), .val (.int (2 : Int32)), .val (.int fi), .val (.int ((fi + (2 : Int32)) - (1 : Int32))), .val (.ref b32), .val (.ref bx_40)] [])) _
      refine XS.aload X40.here hx rfl (hb hby at_60) rfl rfl ?_
      show Steps p.tables e below (T40.setTop (mkF m 62 #[.val (.int pp1), .val (.int pp2), .val (.int (2 : Int32)), .val (.int fi), .val (.int ((fi + (2 : Int32)) - (1 : Int32))), .val (.ref b32), .val (.ref bx_40)] [(.ref bx_40)])) _
      refine X40.arraylength hx (Ar_42.1) (State.isArrayOf_alike hZ.alike Ar_42.2.1) (g := (mkF m 62 #[.val (.int pp1), .val (.int pp2), .val (.int (2 : Int32)), .val (.int fi), .val (.int ((fi + (2 : Int32)) - (1 : Int32))), .val (.ref b32), .val (.ref bx_40)] [(.ref bx_40)])) rfl rfl (hb hby at_62) _ ?_
      rw [len_of Sz_42 Nn_42]
      show Steps p.tables e below (T40.setTop (mkF m 63 #[.val (.int pp1), .val (.int pp2), .val (.int (2 : Int32)), .val (.int fi), .val (.int ((fi + (2 : Int32)) - (1 : Int32))), .val (.ref b32), .val (.ref bx_40)] [(.int (2 : Int32))])) _
      refine XS.iloadN X40.here hx rfl (hb hby at_63) rfl ?_
      show Steps p.tables e below (T40.setTop (mkF m 64 #[.val (.int pp1), .val (.int pp2), .val (.int (2 : Int32)), .val (.int fi), .val (.int ((fi + (2 : Int32)) - (1 : Int32))), .val (.ref b32), .val (.ref bx_40)] [(.int (2 : Int32)), (.int (2 : Int32))])) _
      refine XS.icmpYes X40.here hx rfl (pc0 := 64) (pc' := 69) rfl (hb hby at_64) rfl (teq hc64_2).1 (by decide) (by decide) ?_
      show Steps p.tables e below (T40.setTop (mkF m 69 #[.val (.int pp1), .val (.int pp2), .val (.int (2 : Int32)), .val (.int fi), .val (.int ((fi + (2 : Int32)) - (1 : Int32))), .val (.ref b32), .val (.ref bx_40)] [])) _
      refine XS.aload X40.here hx rfl (hb hby at_69) rfl rfl ?_
      show Steps p.tables e below (T40.setTop (mkF m 71 #[.val (.int pp1), .val (.int pp2), .val (.int (2 : Int32)), .val (.int fi), .val (.int ((fi + (2 : Int32)) - (1 : Int32))), .val (.ref b32), .val (.ref bx_40)] [(.ref bx_40)])) _
      refine XS.iconst X40.here hx rfl (hb hby at_71) ?_
      show Steps p.tables e below (T40.setTop (mkF m 72 #[.val (.int pp1), .val (.int pp2), .val (.int (2 : Int32)), .val (.int fi), .val (.int ((fi + (2 : Int32)) - (1 : Int32))), .val (.ref b32), .val (.ref bx_40)] [(.int (0 : Int32)), (.ref bx_40)])) _
      refine X40.iaload hx (j := (0 : Int32)) (v := (.int ((fi - (1 : Int32)) + (0 : Int32)))) (Ar_43.1) (State.isArrayOf_alike hZ.alike Ar_43.2.1) Ar_43.2.2 hin_43 hat_43 (g := (mkF m 72 #[.val (.int pp1), .val (.int pp2), .val (.int (2 : Int32)), .val (.int fi), .val (.int ((fi + (2 : Int32)) - (1 : Int32))), .val (.ref b32), .val (.ref bx_40)] [(.int (0 : Int32)), (.ref bx_40)])) rfl rfl (hb hby at_72) _ ?_
      show Steps p.tables e below (T40.setTop (mkF m 73 #[.val (.int pp1), .val (.int pp2), .val (.int (2 : Int32)), .val (.int fi), .val (.int ((fi + (2 : Int32)) - (1 : Int32))), .val (.ref b32), .val (.ref bx_40)] [(.int ((fi - (1 : Int32)) + (0 : Int32)))])) _
      refine XS.iloadN X40.here hx rfl (hb hby at_73) rfl ?_
      show Steps p.tables e below (T40.setTop (mkF m 74 #[.val (.int pp1), .val (.int pp2), .val (.int (2 : Int32)), .val (.int fi), .val (.int ((fi + (2 : Int32)) - (1 : Int32))), .val (.ref b32), .val (.ref bx_40)] [(.int fi), (.int ((fi - (1 : Int32)) + (0 : Int32)))])) _
      refine XS.iconst X40.here hx rfl (hb hby at_74) ?_
      show Steps p.tables e below (T40.setTop (mkF m 75 #[.val (.int pp1), .val (.int pp2), .val (.int (2 : Int32)), .val (.int fi), .val (.int ((fi + (2 : Int32)) - (1 : Int32))), .val (.ref b32), .val (.ref bx_40)] [(.int (1 : Int32)), (.int fi), (.int ((fi - (1 : Int32)) + (0 : Int32)))])) _
      refine XS.isub X40.here hx rfl (hb hby at_75) rfl ?_
      show Steps p.tables e below (T40.setTop (mkF m 76 #[.val (.int pp1), .val (.int pp2), .val (.int (2 : Int32)), .val (.int fi), .val (.int ((fi + (2 : Int32)) - (1 : Int32))), .val (.ref b32), .val (.ref bx_40)] [(.int (fi - (1 : Int32))), (.int ((fi - (1 : Int32)) + (0 : Int32)))])) _
      refine XS.icmpNo X40.here hx rfl (hb hby at_76) rfl (teq hc76_2).2 ?_
      show Steps p.tables e below (T40.setTop (mkF m 79 #[.val (.int pp1), .val (.int pp2), .val (.int (2 : Int32)), .val (.int fi), .val (.int ((fi + (2 : Int32)) - (1 : Int32))), .val (.ref b32), .val (.ref bx_40)] [])) _
      refine XS.aload X40.here hx rfl (hb hby at_79) rfl rfl ?_
      show Steps p.tables e below (T40.setTop (mkF m 81 #[.val (.int pp1), .val (.int pp2), .val (.int (2 : Int32)), .val (.int fi), .val (.int ((fi + (2 : Int32)) - (1 : Int32))), .val (.ref b32), .val (.ref bx_40)] [(.ref bx_40)])) _
      refine XS.iloadN X40.here hx rfl (hb hby at_81) rfl ?_
      show Steps p.tables e below (T40.setTop (mkF m 82 #[.val (.int pp1), .val (.int pp2), .val (.int (2 : Int32)), .val (.int fi), .val (.int ((fi + (2 : Int32)) - (1 : Int32))), .val (.ref b32), .val (.ref bx_40)] [(.int (2 : Int32)), (.ref bx_40)])) _
      refine XS.iconst X40.here hx rfl (hb hby at_82) ?_
      show Steps p.tables e below (T40.setTop (mkF m 83 #[.val (.int pp1), .val (.int pp2), .val (.int (2 : Int32)), .val (.int fi), .val (.int ((fi + (2 : Int32)) - (1 : Int32))), .val (.ref b32), .val (.ref bx_40)] [(.int (1 : Int32)), (.int (2 : Int32)), (.ref bx_40)])) _
      refine XS.isub X40.here hx rfl (hb hby at_83) rfl ?_
      show Steps p.tables e below (T40.setTop (mkF m 84 #[.val (.int pp1), .val (.int pp2), .val (.int (2 : Int32)), .val (.int fi), .val (.int ((fi + (2 : Int32)) - (1 : Int32))), .val (.ref b32), .val (.ref bx_40)] [(.int (1 : Int32)), (.ref bx_40)])) _
      refine X40.iaload hx (j := (1 : Int32)) (v := (.int ((fi - (1 : Int32)) + (1 : Int32)))) (Ar_44.1) (State.isArrayOf_alike hZ.alike Ar_44.2.1) Ar_44.2.2 hin_44 hat_44 (g := (mkF m 84 #[.val (.int pp1), .val (.int pp2), .val (.int (2 : Int32)), .val (.int fi), .val (.int ((fi + (2 : Int32)) - (1 : Int32))), .val (.ref b32), .val (.ref bx_40)] [(.int (1 : Int32)), (.ref bx_40)])) rfl rfl (hb hby at_84) _ ?_
      show Steps p.tables e below (T40.setTop (mkF m 85 #[.val (.int pp1), .val (.int pp2), .val (.int (2 : Int32)), .val (.int fi), .val (.int ((fi + (2 : Int32)) - (1 : Int32))), .val (.ref b32), .val (.ref bx_40)] [(.int ((fi - (1 : Int32)) + (1 : Int32)))])) _
      refine XS.iload X40.here hx rfl (hb hby at_85) rfl ?_
      show Steps p.tables e below (T40.setTop (mkF m 87 #[.val (.int pp1), .val (.int pp2), .val (.int (2 : Int32)), .val (.int fi), .val (.int ((fi + (2 : Int32)) - (1 : Int32))), .val (.ref b32), .val (.ref bx_40)] [(.int ((fi + (2 : Int32)) - (1 : Int32))), (.int ((fi - (1 : Int32)) + (1 : Int32)))])) _
      refine XS.iconst X40.here hx rfl (hb hby at_87) ?_
      show Steps p.tables e below (T40.setTop (mkF m 88 #[.val (.int pp1), .val (.int pp2), .val (.int (2 : Int32)), .val (.int fi), .val (.int ((fi + (2 : Int32)) - (1 : Int32))), .val (.ref b32), .val (.ref bx_40)] [(.int (1 : Int32)), (.int ((fi + (2 : Int32)) - (1 : Int32))), (.int ((fi - (1 : Int32)) + (1 : Int32)))])) _
      refine XS.isub X40.here hx rfl (hb hby at_88) rfl ?_
      show Steps p.tables e below (T40.setTop (mkF m 89 #[.val (.int pp1), .val (.int pp2), .val (.int (2 : Int32)), .val (.int fi), .val (.int ((fi + (2 : Int32)) - (1 : Int32))), .val (.ref b32), .val (.ref bx_40)] [(.int (((fi + (2 : Int32)) - (1 : Int32)) - (1 : Int32))), (.int ((fi - (1 : Int32)) + (1 : Int32)))])) _
      refine XS.icmpYes X40.here hx rfl (pc0 := 89) (pc' := 94) rfl (hb hby at_89) rfl (teq hc89_2).1 (by decide) (by decide) ?_
      show Steps p.tables e below (T40.setTop (mkF m 94 #[.val (.int pp1), .val (.int pp2), .val (.int (2 : Int32)), .val (.int fi), .val (.int ((fi + (2 : Int32)) - (1 : Int32))), .val (.ref b32), .val (.ref bx_40)] [])) _
      refine XS.aload X40.here hx rfl (hb hby at_94) rfl rfl ?_
      show Steps p.tables e below (T40.setTop (mkF m 96 #[.val (.int pp1), .val (.int pp2), .val (.int (2 : Int32)), .val (.int fi), .val (.int ((fi + (2 : Int32)) - (1 : Int32))), .val (.ref b32), .val (.ref bx_40)] [(.ref bx_40)])) _
      refine XS.iconst X40.here hx rfl (hb hby at_96) ?_
      show Steps p.tables e below (T40.setTop (mkF m 97 #[.val (.int pp1), .val (.int pp2), .val (.int (2 : Int32)), .val (.int fi), .val (.int ((fi + (2 : Int32)) - (1 : Int32))), .val (.ref b32), .val (.ref bx_40)] [(.int (0 : Int32)), (.ref bx_40)])) _
      refine XS.iloadN X40.here hx rfl (hb hby at_97) rfl ?_
      show Steps p.tables e below (T40.setTop (mkF m 98 #[.val (.int pp1), .val (.int pp2), .val (.int (2 : Int32)), .val (.int fi), .val (.int ((fi + (2 : Int32)) - (1 : Int32))), .val (.ref b32), .val (.ref bx_40)] [(.int fi), (.int (0 : Int32)), (.ref bx_40)])) _
      refine st45 _ ?_
      show Steps p.tables e below (T45.setTop (mkF m 101 #[.val (.int pp1), .val (.int pp2), .val (.int (2 : Int32)), .val (.int fi), .val (.int ((fi + (2 : Int32)) - (1 : Int32))), .val (.ref b32), .val (.ref bx_40)] [(.int (1 : Int32))])) _
      refine XS.ifNo X45.here hx rfl (hb hby at_101) rfl ((if0 _ _).trans (feq hc101_2).1) ?_
      show Steps p.tables e below (T45.setTop (mkF m 104 #[.val (.int pp1), .val (.int pp2), .val (.int (2 : Int32)), .val (.int fi), .val (.int ((fi + (2 : Int32)) - (1 : Int32))), .val (.ref b32), .val (.ref bx_40)] [])) _
      refine XS.aload X45.here hx rfl (hb hby at_104) rfl rfl ?_
      show Steps p.tables e below (T45.setTop (mkF m 106 #[.val (.int pp1), .val (.int pp2), .val (.int (2 : Int32)), .val (.int fi), .val (.int ((fi + (2 : Int32)) - (1 : Int32))), .val (.ref b32), .val (.ref bx_40)] [(.ref bx_40)])) _
      refine XS.iconst X45.here hx rfl (hb hby at_106) ?_
      show Steps p.tables e below (T45.setTop (mkF m 107 #[.val (.int pp1), .val (.int pp2), .val (.int (2 : Int32)), .val (.int fi), .val (.int ((fi + (2 : Int32)) - (1 : Int32))), .val (.ref b32), .val (.ref bx_40)] [(.int (1 : Int32)), (.ref bx_40)])) _
      refine XS.iloadN X45.here hx rfl (hb hby at_107) rfl ?_
      show Steps p.tables e below (T45.setTop (mkF m 108 #[.val (.int pp1), .val (.int pp2), .val (.int (2 : Int32)), .val (.int fi), .val (.int ((fi + (2 : Int32)) - (1 : Int32))), .val (.ref b32), .val (.ref bx_40)] [(.int fi), (.int (1 : Int32)), (.ref bx_40)])) _
      refine st46 _ ?_
      show Steps p.tables e below (T46.setTop (mkF m 111 #[.val (.int pp1), .val (.int pp2), .val (.int (2 : Int32)), .val (.int fi), .val (.int ((fi + (2 : Int32)) - (1 : Int32))), .val (.ref b32), .val (.ref bx_40)] [(.int (1 : Int32))])) _
      refine XS.ifNo X46.here hx rfl (hb hby at_111) rfl ((if0 _ _).trans (feq hc111_2).1) ?_
      show Steps p.tables e below (T46.setTop (mkF m 114 #[.val (.int pp1), .val (.int pp2), .val (.int (2 : Int32)), .val (.int fi), .val (.int ((fi + (2 : Int32)) - (1 : Int32))), .val (.ref b32), .val (.ref bx_40)] [])) _
      refine XS.aload X46.here hx rfl (hb hby at_114) rfl rfl ?_
      show Steps p.tables e below (T46.setTop (mkF m 116 #[.val (.int pp1), .val (.int pp2), .val (.int (2 : Int32)), .val (.int fi), .val (.int ((fi + (2 : Int32)) - (1 : Int32))), .val (.ref b32), .val (.ref bx_40)] [(.ref bx_40)])) _
      refine XS.iconst X46.here hx rfl (hb hby at_116) ?_
      show Steps p.tables e below (T46.setTop (mkF m 117 #[.val (.int pp1), .val (.int pp2), .val (.int (2 : Int32)), .val (.int fi), .val (.int ((fi + (2 : Int32)) - (1 : Int32))), .val (.ref b32), .val (.ref bx_40)] [(.int (2 : Int32)), (.ref bx_40)])) _
      refine XS.iloadN X46.here hx rfl (hb hby at_117) rfl ?_
      show Steps p.tables e below (T46.setTop (mkF m 118 #[.val (.int pp1), .val (.int pp2), .val (.int (2 : Int32)), .val (.int fi), .val (.int ((fi + (2 : Int32)) - (1 : Int32))), .val (.ref b32), .val (.ref bx_40)] [(.int fi), (.int (2 : Int32)), (.ref bx_40)])) _
      refine st47 _ ?_
      show Steps p.tables e below (T47.setTop (mkF m 121 #[.val (.int pp1), .val (.int pp2), .val (.int (2 : Int32)), .val (.int fi), .val (.int ((fi + (2 : Int32)) - (1 : Int32))), .val (.ref b32), .val (.ref bx_40)] [(.int (1 : Int32))])) _
      refine XS.ifNo X47.here hx rfl (hb hby at_121) rfl ((if0 _ _).trans (feq hc121_2).1) ?_
      show Steps p.tables e below (T47.setTop (mkF m 124 #[.val (.int pp1), .val (.int pp2), .val (.int (2 : Int32)), .val (.int fi), .val (.int ((fi + (2 : Int32)) - (1 : Int32))), .val (.ref b32), .val (.ref bx_40)] [])) _
      refine XS.aload X47.here hx rfl (hb hby at_124) rfl rfl ?_
      show Steps p.tables e below (T47.setTop (mkF m 126 #[.val (.int pp1), .val (.int pp2), .val (.int (2 : Int32)), .val (.int fi), .val (.int ((fi + (2 : Int32)) - (1 : Int32))), .val (.ref b32), .val (.ref bx_40)] [(.ref bx_40)])) _
      refine XS.iconst X47.here hx rfl (hb hby at_126) ?_
      show Steps p.tables e below (T47.setTop (mkF m 127 #[.val (.int pp1), .val (.int pp2), .val (.int (2 : Int32)), .val (.int fi), .val (.int ((fi + (2 : Int32)) - (1 : Int32))), .val (.ref b32), .val (.ref bx_40)] [(.int (3 : Int32)), (.ref bx_40)])) _
      refine XS.iloadN X47.here hx rfl (hb hby at_127) rfl ?_
      show Steps p.tables e below (T47.setTop (mkF m 128 #[.val (.int pp1), .val (.int pp2), .val (.int (2 : Int32)), .val (.int fi), .val (.int ((fi + (2 : Int32)) - (1 : Int32))), .val (.ref b32), .val (.ref bx_40)] [(.int fi), (.int (3 : Int32)), (.ref bx_40)])) _
      refine st48 _ ?_
      show Steps p.tables e below (T48.setTop (mkF m 131 #[.val (.int pp1), .val (.int pp2), .val (.int (2 : Int32)), .val (.int fi), .val (.int ((fi + (2 : Int32)) - (1 : Int32))), .val (.ref b32), .val (.ref bx_40)] [(.int (1 : Int32))])) _
      refine XS.ifNo X48.here hx rfl (hb hby at_131) rfl ((if0 _ _).trans (feq hc131_2).1) ?_
      show Steps p.tables e below (T48.setTop (mkF m 134 #[.val (.int pp1), .val (.int pp2), .val (.int (2 : Int32)), .val (.int fi), .val (.int ((fi + (2 : Int32)) - (1 : Int32))), .val (.ref b32), .val (.ref bx_40)] [])) _
      refine XS.aload X48.here hx rfl (hb hby at_134) rfl rfl ?_
      show Steps p.tables e below (T48.setTop (mkF m 136 #[.val (.int pp1), .val (.int pp2), .val (.int (2 : Int32)), .val (.int fi), .val (.int ((fi + (2 : Int32)) - (1 : Int32))), .val (.ref b32), .val (.ref bx_40)] [(.ref bx_40)])) _
      refine XS.iconst X48.here hx rfl (hb hby at_136) ?_
      show Steps p.tables e below (T48.setTop (mkF m 137 #[.val (.int pp1), .val (.int pp2), .val (.int (2 : Int32)), .val (.int fi), .val (.int ((fi + (2 : Int32)) - (1 : Int32))), .val (.ref b32), .val (.ref bx_40)] [(.int (4 : Int32)), (.ref bx_40)])) _
      refine XS.iloadN X48.here hx rfl (hb hby at_137) rfl ?_
      show Steps p.tables e below (T48.setTop (mkF m 138 #[.val (.int pp1), .val (.int pp2), .val (.int (2 : Int32)), .val (.int fi), .val (.int ((fi + (2 : Int32)) - (1 : Int32))), .val (.ref b32), .val (.ref bx_40)] [(.int fi), (.int (4 : Int32)), (.ref bx_40)])) _
      refine st49 _ ?_
      show Steps p.tables e below (T49.setTop (mkF m 141 #[.val (.int pp1), .val (.int pp2), .val (.int (2 : Int32)), .val (.int fi), .val (.int ((fi + (2 : Int32)) - (1 : Int32))), .val (.ref b32), .val (.ref bx_40)] [(.int (1 : Int32))])) _
      refine XS.ifNo X49.here hx rfl (hb hby at_141) rfl ((if0 _ _).trans (feq hc141_2).1) ?_
      show Steps p.tables e below (T49.setTop (mkF m 144 #[.val (.int pp1), .val (.int pp2), .val (.int (2 : Int32)), .val (.int fi), .val (.int ((fi + (2 : Int32)) - (1 : Int32))), .val (.ref b32), .val (.ref bx_40)] [])) _
      refine XS.aload X49.here hx rfl (hb hby at_144) rfl rfl ?_
      show Steps p.tables e below (T49.setTop (mkF m 146 #[.val (.int pp1), .val (.int pp2), .val (.int (2 : Int32)), .val (.int fi), .val (.int ((fi + (2 : Int32)) - (1 : Int32))), .val (.ref b32), .val (.ref bx_40)] [(.ref bx_40)])) _
      refine XS.iconst X49.here hx rfl (hb hby at_146) ?_
      show Steps p.tables e below (T49.setTop (mkF m 147 #[.val (.int pp1), .val (.int pp2), .val (.int (2 : Int32)), .val (.int fi), .val (.int ((fi + (2 : Int32)) - (1 : Int32))), .val (.ref b32), .val (.ref bx_40)] [(.int (5 : Int32)), (.ref bx_40)])) _
      refine XS.iloadN X49.here hx rfl (hb hby at_147) rfl ?_
      show Steps p.tables e below (T49.setTop (mkF m 148 #[.val (.int pp1), .val (.int pp2), .val (.int (2 : Int32)), .val (.int fi), .val (.int ((fi + (2 : Int32)) - (1 : Int32))), .val (.ref b32), .val (.ref bx_40)] [(.int fi), (.int (5 : Int32)), (.ref bx_40)])) _
      refine st50 _ ?_
      show Steps p.tables e below (T50.setTop (mkF m 151 #[.val (.int pp1), .val (.int pp2), .val (.int (2 : Int32)), .val (.int fi), .val (.int ((fi + (2 : Int32)) - (1 : Int32))), .val (.ref b32), .val (.ref bx_40)] [(.int (1 : Int32))])) _
      refine XS.ifNo X50.here hx rfl (hb hby at_151) rfl ((if0 _ _).trans (feq hc151_2).1) ?_
      show Steps p.tables e below (T50.setTop (mkF m 154 #[.val (.int pp1), .val (.int pp2), .val (.int (2 : Int32)), .val (.int fi), .val (.int ((fi + (2 : Int32)) - (1 : Int32))), .val (.ref b32), .val (.ref bx_40)] [])) _
      refine XS.aload X50.here hx rfl (hb hby at_154) rfl rfl ?_
      show Steps p.tables e below (T50.setTop (mkF m 156 #[.val (.int pp1), .val (.int pp2), .val (.int (2 : Int32)), .val (.int fi), .val (.int ((fi + (2 : Int32)) - (1 : Int32))), .val (.ref b32), .val (.ref bx_40)] [(.ref bx_40)])) _
      refine XS.bipush X50.here hx rfl (hb hby at_156) ?_
      show Steps p.tables e below (T50.setTop (mkF m 158 #[.val (.int pp1), .val (.int pp2), .val (.int (2 : Int32)), .val (.int fi), .val (.int ((fi + (2 : Int32)) - (1 : Int32))), .val (.ref b32), .val (.ref bx_40)] [(.int (6 : Int32)), (.ref bx_40)])) _
      refine XS.iloadN X50.here hx rfl (hb hby at_158) rfl ?_
      show Steps p.tables e below (T50.setTop (mkF m 159 #[.val (.int pp1), .val (.int pp2), .val (.int (2 : Int32)), .val (.int fi), .val (.int ((fi + (2 : Int32)) - (1 : Int32))), .val (.ref b32), .val (.ref bx_40)] [(.int fi), (.int (6 : Int32)), (.ref bx_40)])) _
      refine st51 _ ?_
      show Steps p.tables e below (T51.setTop (mkF m 162 #[.val (.int pp1), .val (.int pp2), .val (.int (2 : Int32)), .val (.int fi), .val (.int ((fi + (2 : Int32)) - (1 : Int32))), .val (.ref b32), .val (.ref bx_40)] [(.int (1 : Int32))])) _
      refine XS.ifNo X51.here hx rfl (hb hby at_162) rfl ((if0 _ _).trans (feq hc162_2).1) ?_
      show Steps p.tables e below (T51.setTop (mkF m 165 #[.val (.int pp1), .val (.int pp2), .val (.int (2 : Int32)), .val (.int fi), .val (.int ((fi + (2 : Int32)) - (1 : Int32))), .val (.ref b32), .val (.ref bx_40)] [])) _
      refine XS.aload X51.here hx rfl (hb hby at_165) rfl rfl ?_
      show Steps p.tables e below (T51.setTop (mkF m 167 #[.val (.int pp1), .val (.int pp2), .val (.int (2 : Int32)), .val (.int fi), .val (.int ((fi + (2 : Int32)) - (1 : Int32))), .val (.ref b32), .val (.ref bx_40)] [(.ref bx_40)])) _
      refine XS.bipush X51.here hx rfl (hb hby at_167) ?_
      show Steps p.tables e below (T51.setTop (mkF m 169 #[.val (.int pp1), .val (.int pp2), .val (.int (2 : Int32)), .val (.int fi), .val (.int ((fi + (2 : Int32)) - (1 : Int32))), .val (.ref b32), .val (.ref bx_40)] [(.int (7 : Int32)), (.ref bx_40)])) _
      refine XS.iloadN X51.here hx rfl (hb hby at_169) rfl ?_
      show Steps p.tables e below (T51.setTop (mkF m 170 #[.val (.int pp1), .val (.int pp2), .val (.int (2 : Int32)), .val (.int fi), .val (.int ((fi + (2 : Int32)) - (1 : Int32))), .val (.ref b32), .val (.ref bx_40)] [(.int fi), (.int (7 : Int32)), (.ref bx_40)])) _
      refine st52 _ ?_
      show Steps p.tables e below (T52.setTop (mkF m 173 #[.val (.int pp1), .val (.int pp2), .val (.int (2 : Int32)), .val (.int fi), .val (.int ((fi + (2 : Int32)) - (1 : Int32))), .val (.ref b32), .val (.ref bx_40)] [(.int (1 : Int32))])) _
      refine XS.ifNo X52.here hx rfl (hb hby at_173) rfl ((if0 _ _).trans (feq hc173_2).1) ?_
      show Steps p.tables e below (T52.setTop (mkF m 176 #[.val (.int pp1), .val (.int pp2), .val (.int (2 : Int32)), .val (.int fi), .val (.int ((fi + (2 : Int32)) - (1 : Int32))), .val (.ref b32), .val (.ref bx_40)] [])) _
      refine XS.iconst X52.here hx rfl (hb hby at_176) ?_
      show Steps p.tables e below (T52.setTop (mkF m 177 #[.val (.int pp1), .val (.int pp2), .val (.int (2 : Int32)), .val (.int fi), .val (.int ((fi + (2 : Int32)) - (1 : Int32))), .val (.ref b32), .val (.ref bx_40)] [(.int (1 : Int32))])) _
      refine XS.goto X52.here hx rfl (pc0 := 177) (pc' := 181) rfl (hb hby at_177) (by decide) (by decide) ?_
      show Steps p.tables e below (T52.setTop (mkF m 181 #[.val (.int pp1), .val (.int pp2), .val (.int (2 : Int32)), .val (.int fi), .val (.int ((fi + (2 : Int32)) - (1 : Int32))), .val (.ref b32), .val (.ref bx_40)] [(.int (1 : Int32))])) _
      exact retN X52 hx (t := .boolean) Bd.returns (by simp) (hb hby at_181) hr
    · show Q0 Z pp1 pp2 h0 n0 _ T52.heap _
      rw [e52]
      exact ⟨rfl, N52⟩
  · skip
    obtain ⟨_, _, ⟨T53, L53, k53, n53⟩, -, X53, ⟨Lc53, hQ53, l53, y53, z53⟩, st53⟩ := Jvm.LawKit.callS X0 hx (y := (⟨"java/lang/Math", "max", "(II)I"⟩ : MethodName)) hown (mvT hZ (hw _ (List.mem_of_getElem? (i := 1) rfl))) (mvT hZ (hw _ (List.mem_of_getElem? (i := 2) rfl))) (mvT hZ (hw _ (List.mem_of_getElem? (i := 3) rfl))) (mvT hZ (hw _ (List.mem_of_getElem? (i := 4) rfl))) (by decide) (backOf (W := 0) (rm1 l Z a0 hw [] (1 : Int32) (pp1 &&& (2147483647 : Int32)) h0 n0 Z0 ) hZ (hw _ (List.mem_of_getElem? (i := 4) rfl)) (hw _ (List.mem_of_getElem? (i := 3) rfl)) (by decide) (by decide)) (g := (mkF m 12 #[.val (.int pp1), .val (.int pp2), .val (.int (3 : Int32)), .unset, .unset, .unset, .unset] [(.int (pp1 &&& (2147483647 : Int32))), (.int (1 : Int32))])) rfl (by rw [hml]; rfl) (argsL := [(.int (1 : Int32)), (.int (pp1 &&& (2147483647 : Int32)))]) (rest := []) (lenOf pd__28_II_29_I rfl) rfl (by show 2 * 0 + _ ≤ _; exact Nat.le_of_eq rfl) (hb hby at_12) (fun _ _ => ⟨rfl, e0, (by decide : 0 + 0 ≤ _), (by decide : 0 + 0 ≤ _)⟩)
    dsimp only [Pt.U, Pt.locs, Pt.cells, Pt.slots] at X53 l53 y53 z53 st53 hQ53
    subst l53 y53 z53
    obtain ⟨rfl, N53q, e53⟩ := hQ53
    have N53 := Fr.app N0 N53q
    obtain ⟨_, _, ⟨T54, L54, k54, n54⟩, -, X54, ⟨Lc54, hQ54, l54, y54, z54⟩, st54⟩ := Jvm.LawKit.callS X53 hx (y := (⟨"java/lang/Math", "min", "(II)I"⟩ : MethodName)) hown (mvT hZ (hw _ (List.mem_of_getElem? (i := 5) rfl))) (mvT hZ (hw _ (List.mem_of_getElem? (i := 6) rfl))) (mvT hZ (hw _ (List.mem_of_getElem? (i := 3) rfl))) (mvT hZ (hw _ (List.mem_of_getElem? (i := 7) rfl))) (by decide) (backOf (W := 0) (rm2 l Z a0 hw [] (if (1 : Int32) < (pp1 &&& (2147483647 : Int32)) then (pp1 &&& (2147483647 : Int32)) else (1 : Int32)) (2147483645 : Int32) h0 n0 Z0 ) hZ (hw _ (List.mem_of_getElem? (i := 7) rfl)) (hw _ (List.mem_of_getElem? (i := 3) rfl)) (by decide) (by decide)) (g := (mkF m 23 #[.val (.int pp1), .val (.int pp2), .val (.int (3 : Int32)), .val (.int (if (1 : Int32) < (pp1 &&& (2147483647 : Int32)) then (pp1 &&& (2147483647 : Int32)) else (1 : Int32))), .unset, .unset, .unset] [(.int (2147483645 : Int32)), (.int (if (1 : Int32) < (pp1 &&& (2147483647 : Int32)) then (pp1 &&& (2147483647 : Int32)) else (1 : Int32)))])) rfl (by rw [hml]; rfl) (argsL := [(.int (if (1 : Int32) < (pp1 &&& (2147483647 : Int32)) then (pp1 &&& (2147483647 : Int32)) else (1 : Int32))), (.int (2147483645 : Int32))]) (rest := []) (lenOf pd__28_II_29_I rfl) rfl (by show 2 * 0 + _ ≤ _; exact Nat.le_of_eq rfl) (hb hby at_23) (fun _ _ => ⟨rfl, e53, (by decide : 0 + 0 ≤ _), (by decide : 0 + 0 ≤ _)⟩)
    dsimp only [Pt.U, Pt.locs, Pt.cells, Pt.slots] at X54 l54 y54 z54 st54 hQ54
    subst l54 y54 z54
    obtain ⟨rfl, N54q, e54⟩ := hQ54
    have N54 := Fr.app N53 N54q
    have pre55 : ∀ t, Steps p.tables e below (T54.setTop (mkF m 27 #[.val (.int pp1), .val (.int pp2), .val (.int (3 : Int32)), .val (.int (if (2147483645 : Int32) < (if (1 : Int32) < (pp1 &&& (2147483647 : Int32)) then (pp1 &&& (2147483647 : Int32)) else (1 : Int32)) then (2147483645 : Int32) else (if (1 : Int32) < (pp1 &&& (2147483647 : Int32)) then (pp1 &&& (2147483647 : Int32)) else (1 : Int32)))), .unset, .unset, .unset] [])) t → Steps p.tables e below (s₁.setTop (entryFrame m #[(.int pp1), (.int pp2)] maxLocals)) t := fun t kt => pre2 t (by
      show Steps p.tables e below (s₁.setTop (mkF m 7 #[.val (.int pp1), .val (.int pp2), .val (.int (3 : Int32)), .unset, .unset, .unset, .unset] [])) _
      refine XS.iconst X0.here hx rfl (hb hby at_7) ?_
      show Steps p.tables e below (s₁.setTop (mkF m 8 #[.val (.int pp1), .val (.int pp2), .val (.int (3 : Int32)), .unset, .unset, .unset, .unset] [(.int (1 : Int32))])) _
      refine XS.iloadN X0.here hx rfl (hb hby at_8) rfl ?_
      show Steps p.tables e below (s₁.setTop (mkF m 9 #[.val (.int pp1), .val (.int pp2), .val (.int (3 : Int32)), .unset, .unset, .unset, .unset] [(.int pp1), (.int (1 : Int32))])) _
      refine X0.ldcInt hx hown (mvT hZ (hw _ (List.mem_of_getElem? (i := 0) rfl))) (g := (mkF m 9 #[.val (.int pp1), .val (.int pp2), .val (.int (3 : Int32)), .unset, .unset, .unset, .unset] [(.int pp1), (.int (1 : Int32))])) rfl (hb hby at_9) _ ?_
      show Steps p.tables e below (s₁.setTop (mkF m 11 #[.val (.int pp1), .val (.int pp2), .val (.int (3 : Int32)), .unset, .unset, .unset, .unset] [(.int (2147483647 : Int32)), (.int pp1), (.int (1 : Int32))])) _
      refine XS.iand X0.here hx rfl (hb hby at_11) rfl ?_
      show Steps p.tables e below (s₁.setTop (mkF m 12 #[.val (.int pp1), .val (.int pp2), .val (.int (3 : Int32)), .unset, .unset, .unset, .unset] [(.int (pp1 &&& (2147483647 : Int32))), (.int (1 : Int32))])) _
      refine st53 _ ?_
      show Steps p.tables e below (T53.setTop (mkF m 15 #[.val (.int pp1), .val (.int pp2), .val (.int (3 : Int32)), .unset, .unset, .unset, .unset] [(.int (if (1 : Int32) < (pp1 &&& (2147483647 : Int32)) then (pp1 &&& (2147483647 : Int32)) else (1 : Int32)))])) _
      refine XS.istoreN X53.here hx rfl (hb hby at_15) rfl (l' := #[.val (.int pp1), .val (.int pp2), .val (.int (3 : Int32)), .val (.int (if (1 : Int32) < (pp1 &&& (2147483647 : Int32)) then (pp1 &&& (2147483647 : Int32)) else (1 : Int32))), .unset, .unset, .unset]) rfl ?_
      show Steps p.tables e below (T53.setTop (mkF m 16 #[.val (.int pp1), .val (.int pp2), .val (.int (3 : Int32)), .val (.int (if (1 : Int32) < (pp1 &&& (2147483647 : Int32)) then (pp1 &&& (2147483647 : Int32)) else (1 : Int32))), .unset, .unset, .unset] [])) _
      refine XS.iloadN X53.here hx rfl (hb hby at_16) rfl ?_
      show Steps p.tables e below (T53.setTop (mkF m 17 #[.val (.int pp1), .val (.int pp2), .val (.int (3 : Int32)), .val (.int (if (1 : Int32) < (pp1 &&& (2147483647 : Int32)) then (pp1 &&& (2147483647 : Int32)) else (1 : Int32))), .unset, .unset, .unset] [(.int (if (1 : Int32) < (pp1 &&& (2147483647 : Int32)) then (pp1 &&& (2147483647 : Int32)) else (1 : Int32)))])) _
      refine X53.ldcInt hx hown (mvT hZ (hw _ (List.mem_of_getElem? (i := 0) rfl))) (g := (mkF m 17 #[.val (.int pp1), .val (.int pp2), .val (.int (3 : Int32)), .val (.int (if (1 : Int32) < (pp1 &&& (2147483647 : Int32)) then (pp1 &&& (2147483647 : Int32)) else (1 : Int32))), .unset, .unset, .unset] [(.int (if (1 : Int32) < (pp1 &&& (2147483647 : Int32)) then (pp1 &&& (2147483647 : Int32)) else (1 : Int32)))])) rfl (hb hby at_17) _ ?_
      show Steps p.tables e below (T53.setTop (mkF m 19 #[.val (.int pp1), .val (.int pp2), .val (.int (3 : Int32)), .val (.int (if (1 : Int32) < (pp1 &&& (2147483647 : Int32)) then (pp1 &&& (2147483647 : Int32)) else (1 : Int32))), .unset, .unset, .unset] [(.int (2147483647 : Int32)), (.int (if (1 : Int32) < (pp1 &&& (2147483647 : Int32)) then (pp1 &&& (2147483647 : Int32)) else (1 : Int32)))])) _
      refine XS.iloadN X53.here hx rfl (hb hby at_19) rfl ?_
      show Steps p.tables e below (T53.setTop (mkF m 20 #[.val (.int pp1), .val (.int pp2), .val (.int (3 : Int32)), .val (.int (if (1 : Int32) < (pp1 &&& (2147483647 : Int32)) then (pp1 &&& (2147483647 : Int32)) else (1 : Int32))), .unset, .unset, .unset] [(.int (3 : Int32)), (.int (2147483647 : Int32)), (.int (if (1 : Int32) < (pp1 &&& (2147483647 : Int32)) then (pp1 &&& (2147483647 : Int32)) else (1 : Int32)))])) _
      refine XS.isub X53.here hx rfl (hb hby at_20) rfl ?_
      show Steps p.tables e below (T53.setTop (mkF m 21 #[.val (.int pp1), .val (.int pp2), .val (.int (3 : Int32)), .val (.int (if (1 : Int32) < (pp1 &&& (2147483647 : Int32)) then (pp1 &&& (2147483647 : Int32)) else (1 : Int32))), .unset, .unset, .unset] [(.int (2147483644 : Int32)), (.int (if (1 : Int32) < (pp1 &&& (2147483647 : Int32)) then (pp1 &&& (2147483647 : Int32)) else (1 : Int32)))])) _
      refine XS.iconst X53.here hx rfl (hb hby at_21) ?_
      show Steps p.tables e below (T53.setTop (mkF m 22 #[.val (.int pp1), .val (.int pp2), .val (.int (3 : Int32)), .val (.int (if (1 : Int32) < (pp1 &&& (2147483647 : Int32)) then (pp1 &&& (2147483647 : Int32)) else (1 : Int32))), .unset, .unset, .unset] [(.int (1 : Int32)), (.int (2147483644 : Int32)), (.int (if (1 : Int32) < (pp1 &&& (2147483647 : Int32)) then (pp1 &&& (2147483647 : Int32)) else (1 : Int32)))])) _
      refine XS.iadd X53.here hx rfl (hb hby at_22) rfl ?_
      show Steps p.tables e below (T53.setTop (mkF m 23 #[.val (.int pp1), .val (.int pp2), .val (.int (3 : Int32)), .val (.int (if (1 : Int32) < (pp1 &&& (2147483647 : Int32)) then (pp1 &&& (2147483647 : Int32)) else (1 : Int32))), .unset, .unset, .unset] [(.int (2147483645 : Int32)), (.int (if (1 : Int32) < (pp1 &&& (2147483647 : Int32)) then (pp1 &&& (2147483647 : Int32)) else (1 : Int32)))])) _
      refine st54 _ ?_
      show Steps p.tables e below (T54.setTop (mkF m 26 #[.val (.int pp1), .val (.int pp2), .val (.int (3 : Int32)), .val (.int (if (1 : Int32) < (pp1 &&& (2147483647 : Int32)) then (pp1 &&& (2147483647 : Int32)) else (1 : Int32))), .unset, .unset, .unset] [(.int (if (2147483645 : Int32) < (if (1 : Int32) < (pp1 &&& (2147483647 : Int32)) then (pp1 &&& (2147483647 : Int32)) else (1 : Int32)) then (2147483645 : Int32) else (if (1 : Int32) < (pp1 &&& (2147483647 : Int32)) then (pp1 &&& (2147483647 : Int32)) else (1 : Int32))))])) _
      refine XS.istoreN X54.here hx rfl (hb hby at_26) rfl (l' := #[.val (.int pp1), .val (.int pp2), .val (.int (3 : Int32)), .val (.int (if (2147483645 : Int32) < (if (1 : Int32) < (pp1 &&& (2147483647 : Int32)) then (pp1 &&& (2147483647 : Int32)) else (1 : Int32)) then (2147483645 : Int32) else (if (1 : Int32) < (pp1 &&& (2147483647 : Int32)) then (pp1 &&& (2147483647 : Int32)) else (1 : Int32)))), .unset, .unset, .unset]) rfl ?_
      exact kt)
    obtain ⟨fi, pre56⟩ : ∃ (fi : Int32), ∀ t, Steps p.tables e below (T54.setTop (mkF m 27 #[.val (.int pp1), .val (.int pp2), .val (.int (3 : Int32)), .val (.int fi), .unset, .unset, .unset] [])) t → Steps p.tables e below (s₁.setTop (entryFrame m #[(.int pp1), (.int pp2)] maxLocals)) t := ⟨(if (2147483645 : Int32) < (if (1 : Int32) < (pp1 &&& (2147483647 : Int32)) then (pp1 &&& (2147483647 : Int32)) else (1 : Int32)) then (2147483645 : Int32) else (if (1 : Int32) < (pp1 &&& (2147483647 : Int32)) then (pp1 &&& (2147483647 : Int32)) else (1 : Int32))), pre55⟩
    obtain ⟨T57, h57, X57, e57, E57, A57, D57, -, st57⟩ := newO X54 hx hZ hown (hw _ (List.mem_of_getElem? (i := 8) rfl)) (hw _ (List.mem_of_getElem? (i := 9) rfl)) (hw _ (List.mem_of_getElem? (i := 10) rfl)) e54 (g := (mkF m 34 #[.val (.int pp1), .val (.int pp2), .val (.int (3 : Int32)), .val (.int fi), .val (.int ((fi + (3 : Int32)) - (1 : Int32))), .unset, .unset] [])) rfl (hb hby at_34) (by decide) (by decide)
    obtain ⟨b57, g57⟩ : ∃ z, z = h0.size := ⟨_, rfl⟩
    rw [← g57] at A57 D57 st57
    have g_b57 : n0 ≤ b57 := Nat.le_trans Z0 (Nat.le_of_eq g57.symm)
    have Z57 : n0 ≤ h57.size := Nat.le_trans Z0 E57.1
    have kz57 := Nat.le_trans (Nat.le_refl _) E57.1
    have F57_name : Fld Z h57 b57 "com/example/escapement/escapement/cli/PartitionTable$Partition" "name" "Ljava/lang/String;" .null := D57 (Or.inr (hw _ (List.mem_of_getElem? (i := 31) rfl))) (ty := (.object "java/lang/String")) (by decide)
    have F57_first : Fld Z h57 b57 "com/example/escapement/escapement/cli/PartitionTable$Partition" "first" "I" (.int (0 : Int32)) := D57 (Or.inr (hw _ (List.mem_of_getElem? (i := 33) rfl))) (ty := .int) (by decide)
    have F57_last : Fld Z h57 b57 "com/example/escapement/escapement/cli/PartitionTable$Partition" "last" "I" (.int (0 : Int32)) := D57 (Or.inr (hw _ (List.mem_of_getElem? (i := 35) rfl))) (ty := .int) (by decide)
    have pre58 : ∀ t, Steps p.tables e below (T57.setTop (mkF m 38 #[.val (.int pp1), .val (.int pp2), .val (.int (3 : Int32)), .val (.int fi), .val (.int ((fi + (3 : Int32)) - (1 : Int32))), .unset, .unset] [(.ref b57), (.ref b57)])) t → Steps p.tables e below (s₁.setTop (entryFrame m #[(.int pp1), (.int pp2)] maxLocals)) t := fun t kt => pre56 t (by
      show Steps p.tables e below (T54.setTop (mkF m 27 #[.val (.int pp1), .val (.int pp2), .val (.int (3 : Int32)), .val (.int fi), .unset, .unset, .unset] [])) _
      refine XS.iloadN X54.here hx rfl (hb hby at_27) rfl ?_
      show Steps p.tables e below (T54.setTop (mkF m 28 #[.val (.int pp1), .val (.int pp2), .val (.int (3 : Int32)), .val (.int fi), .unset, .unset, .unset] [(.int fi)])) _
      refine XS.iloadN X54.here hx rfl (hb hby at_28) rfl ?_
      show Steps p.tables e below (T54.setTop (mkF m 29 #[.val (.int pp1), .val (.int pp2), .val (.int (3 : Int32)), .val (.int fi), .unset, .unset, .unset] [(.int (3 : Int32)), (.int fi)])) _
      refine XS.iadd X54.here hx rfl (hb hby at_29) rfl ?_
      show Steps p.tables e below (T54.setTop (mkF m 30 #[.val (.int pp1), .val (.int pp2), .val (.int (3 : Int32)), .val (.int fi), .unset, .unset, .unset] [(.int (fi + (3 : Int32)))])) _
      refine XS.iconst X54.here hx rfl (hb hby at_30) ?_
      show Steps p.tables e below (T54.setTop (mkF m 31 #[.val (.int pp1), .val (.int pp2), .val (.int (3 : Int32)), .val (.int fi), .unset, .unset, .unset] [(.int (1 : Int32)), (.int (fi + (3 : Int32)))])) _
      refine XS.isub X54.here hx rfl (hb hby at_31) rfl ?_
      show Steps p.tables e below (T54.setTop (mkF m 32 #[.val (.int pp1), .val (.int pp2), .val (.int (3 : Int32)), .val (.int fi), .unset, .unset, .unset] [(.int ((fi + (3 : Int32)) - (1 : Int32)))])) _
      refine XS.istore X54.here hx rfl (hb hby at_32) rfl (l' := #[.val (.int pp1), .val (.int pp2), .val (.int (3 : Int32)), .val (.int fi), .val (.int ((fi + (3 : Int32)) - (1 : Int32))), .unset, .unset]) rfl ?_
      show Steps p.tables e below (T54.setTop (mkF m 34 #[.val (.int pp1), .val (.int pp2), .val (.int (3 : Int32)), .val (.int fi), .val (.int ((fi + (3 : Int32)) - (1 : Int32))), .unset, .unset] [])) _
      refine st57 _ ?_
      show Steps p.tables e below (T57.setTop (mkF m 37 #[.val (.int pp1), .val (.int pp2), .val (.int (3 : Int32)), .val (.int fi), .val (.int ((fi + (3 : Int32)) - (1 : Int32))), .unset, .unset] [(.ref b57)])) _
      refine XS.dup X57.here hx rfl (hb hby at_37) rfl rfl ?_
      exact kt)
    obtain ⟨a59, T59, h59, kk59, X59, e59, E59, hS59, kz59, hZ, hown, st59⟩ := ldcS (s := s) (vm0 := s.vm) X57 hx hZ hown (hw _ (List.mem_of_getElem? (i := 11) rfl)) (fun d hd => hw d (own_str_in d hd)) e57 hS0 kz57 (g := (mkF m 38 #[.val (.int pp1), .val (.int pp2), .val (.int (3 : Int32)), .val (.int fi), .val (.int ((fi + (3 : Int32)) - (1 : Int32))), .unset, .unset] [(.ref b57), (.ref b57)])) rfl (hb hby at_38) (n := 4) (by decide) (by decide) (by decide) (by decide)
    have Z59 : n0 ≤ h59.size := Nat.le_trans Z57 E59.1
    have E_60 : Exa Z h59 b57 "com/example/escapement/escapement/cli/PartitionTable$Partition" := (A57.ext E59)
    have F_61 : Fld Z h59 b57 "com/example/escapement/escapement/cli/PartitionTable$Partition" "name" "Ljava/lang/String;" .null := (F57_name.ext E59)
    have F_62 : Fld Z h59 b57 "com/example/escapement/escapement/cli/PartitionTable$Partition" "first" "I" (.int (0 : Int32)) := (F57_first.ext E59)
    have F_63 : Fld Z h59 b57 "com/example/escapement/escapement/cli/PartitionTable$Partition" "last" "I" (.int (0 : Int32)) := (F57_last.ext E59)
    obtain ⟨_, _, ⟨T64, L64, k64, n64⟩, -, X64, ⟨Lc64, hQ64, l64, y64, z64⟩, st64⟩ := X59.specialBack hx (y := (⟨"com/example/escapement/escapement/cli/PartitionTable$Partition", "<init>", "(Ljava/lang/String;II)V"⟩ : MethodName)) rfl hown (mvT hZ (hw _ (List.mem_of_getElem? (i := 19) rfl))) (mvT hZ (hw _ (List.mem_of_getElem? (i := 20) rfl))) (mvT hZ (hw _ (List.mem_of_getElem? (i := 21) rfl))) (by decide) (backOf (W := 1) (rm3 l Z a0 hw [] b57 a59 fi ((fi + (3 : Int32)) - (1 : Int32)) .null (.int (0 : Int32)) (.int (0 : Int32)) h59 n0 Z59 E_60 g_b57 F_61 F_62 F_63) hZ (hw _ (List.mem_of_getElem? (i := 21) rfl)) (hw _ (List.mem_of_getElem? (i := 10) rfl)) (by decide) (by decide)) (g := (mkF m 43 #[.val (.int pp1), .val (.int pp2), .val (.int (3 : Int32)), .val (.int fi), .val (.int ((fi + (3 : Int32)) - (1 : Int32))), .unset, .unset] [(.int ((fi + (3 : Int32)) - (1 : Int32))), (.int fi), (.ref a59), (.ref b57), (.ref b57)])) rfl (by rw [hml]; rfl) (Steps.refl _) (a := b57) (argsL := [(.ref a59), (.int fi), (.int ((fi + (3 : Int32)) - (1 : Int32)))]) (rest := [(.ref b57)]) (lenOf pd__28_Ljava_2f_lang_2f_String_3b_II_29_V rfl) rfl (by show 2 * 0 + _ ≤ _; exact Nat.le_of_eq rfl) (hb hby at_43) (fun _ _ => ⟨rfl, e59, (by decide : 3 + 0 ≤ _), (by decide : 11 + 0 ≤ _)⟩)
    dsimp only [Pt.U, Pt.locs, Pt.cells, Pt.slots] at X64 l64 y64 z64 st64 hQ64
    subst l64 y64 z64
    obtain ⟨rfl, N64q, K64c, R64_0, R64_1, R64_2⟩ := hQ64
    have N64 := Fr.app N54 N64q
    have Z64 : n0 ≤ T64.heap.size := Nat.le_trans Z59 K64c.1
    have kz64 := Nat.le_trans kz59 K64c.1
    have E_66 : Exa Z T64.heap b57 "com/example/escapement/escapement/cli/PartitionTable$Partition" := (E_60.keep K64c)
    obtain ⟨cq65, kq65, q65a, q65b, q65c⟩ := isOf hZ rfl E_66
    obtain ⟨_, _, ⟨T65, L65, k65, n65⟩, -, X65, ⟨Lc65, hQ65, l65, y65, z65⟩, st65⟩ := X64.virtualBack hx (y := (⟨"com/example/escapement/escapement/cli/PartitionTable$Partition", "sites", "()[I"⟩ : MethodName)) (z := (⟨"com/example/escapement/escapement/cli/PartitionTable$Partition", "sites", "()[I"⟩ : MethodName)) hown (mvT hZ (hw _ (List.mem_of_getElem? (i := 36) rfl))) (mvT hZ (hw _ (List.mem_of_getElem? (i := 37) rfl))) (notFace_of_selects (args := #[]) (mvT hZ (hw _ (List.mem_of_getElem? (i := 39) rfl)))) (mvT hZ (hw _ (List.mem_of_getElem? (i := 39) rfl))) (mvT hZ (hw _ (List.mem_of_getElem? (i := 38) rfl))) (by decide) (backOf (W := 0) (rm6_3 l Z a0 hw [] b57 fi ((fi + (3 : Int32)) - (1 : Int32)) T64.heap n0 Z64 R64_1 R64_2 (show ((((fi + (3 : Int32)) - (1 : Int32)) - fi) + (1 : Int32)) = (3 : Int32) from own_len fi (3 : Int32))) hZ (hw _ (List.mem_of_getElem? (i := 40) rfl)) (hw _ (List.mem_of_getElem? (i := 10) rfl)) (by decide) (by decide)) q65a q65c (g := (mkF m 50 #[.val (.int pp1), .val (.int pp2), .val (.int (3 : Int32)), .val (.int fi), .val (.int ((fi + (3 : Int32)) - (1 : Int32))), .val (.ref b57), .unset] [(.ref b57)])) rfl (by rw [hml]; rfl) (Steps.refl _) (argsL := []) (rest := []) (lenOf pd__28__29__5b_I rfl) rfl (by show 2 * 0 + _ ≤ _; exact Nat.le_of_eq rfl) (hb hby at_50) (fun _ _ => ⟨rfl, rfl, (by decide : 3 + 1 ≤ _), (by decide : 11 + 3 ≤ _)⟩)
    dsimp only [Pt.U, Pt.locs, Pt.cells, Pt.slots] at X65 l65 y65 z65 st65 hQ65
    subst l65 y65 z65
    obtain ⟨bx_65, kx_65, rfl, N65q, K65c, g_bx_65, sb_bx_65, R65_0⟩ := hQ65
    have N65 := Fr.app N64 N65q
    have Z65 : n0 ≤ T65.heap.size := Nat.le_trans Z64 K65c.1
    have kz65 := Nat.le_trans kz64 K65c.1
    obtain ⟨cl_67, Ar_67, -, Sz_67, Nn_67, -, -⟩ := id R65_0
    have hc64_3 : (3 : Int32) = (3 : Int32) := by decide
    obtain ⟨cl_68, Ar_68, qq_68, Sz_68, Nn_68, Hh_68, Gg_68⟩ := id R65_0
    have hin_68 : ¬ ((0 : Int32) < 0 ∨ cl_68.slots.size ≤ ((0 : Int32)).toNatClampNeg) := inb_of Sz_68 ⟨by decide, by decide⟩
    have hat_68 : cl_68.slots[((0 : Int32)).toNatClampNeg]? = some (.int ((fi - (1 : Int32)) + (0 : Int32))) := Has.at Hh_68 hin_68 rfl
    have hc76_3 : ((fi - (1 : Int32)) + (0 : Int32)) = (fi - (1 : Int32)) := Int32.add_zero _
    obtain ⟨cl_69, Ar_69, qq_69, Sz_69, Nn_69, Hh_69, Gg_69⟩ := id R65_0
    have hin_69 : ¬ ((2 : Int32) < 0 ∨ cl_69.slots.size ≤ ((2 : Int32)).toNatClampNeg) := inb_of Sz_69 ⟨by decide, by decide⟩
    have hat_69 : cl_69.slots[((2 : Int32)).toNatClampNeg]? = some (.int ((fi - (1 : Int32)) + (2 : Int32))) := Has.at Hh_69 hin_69 rfl
    have hc89_3 : ((fi - (1 : Int32)) + (2 : Int32)) = (((fi + (3 : Int32)) - (1 : Int32)) - (1 : Int32)) := own_last fi (3 : Int32)
    obtain ⟨_, _, ⟨T70, L70, k70, n70⟩, -, X70, ⟨Lc70, hQ70, l70, y70, z70⟩, st70⟩ := Jvm.LawKit.callS X65 hx (y := (⟨"com/example/escapement/escapement/cli/PartitionSitesPinLaw", "at", "([III)Z"⟩ : MethodName)) hown (mvT hZ (hw _ (List.mem_of_getElem? (i := 42) rfl))) (mvT hZ (hw _ (List.mem_of_getElem? (i := 43) rfl))) (mvT hZ (hw _ (List.mem_of_getElem? (i := 44) rfl))) (mvT hZ (hw _ (List.mem_of_getElem? (i := 45) rfl))) (by decide) (backOf (W := 0) (rm7 l Z a0 hw [] bx_65 (0 : Int32) fi kx_65 (3 : Int32) [(.int ((fi - (1 : Int32)) + (0 : Int32))), (.int ((fi - (1 : Int32)) + (1 : Int32))), (.int ((fi - (1 : Int32)) + (2 : Int32)))] T65.heap n0 Z65 R65_0 (show ¬ (0 : Int32) < (0 : Int32) from (by decide)) (show (0 : Int32) < (3 : Int32) → ([(.int ((fi - (1 : Int32)) + (0 : Int32))), (.int ((fi - (1 : Int32)) + (1 : Int32))), (.int ((fi - (1 : Int32)) + (2 : Int32)))] : List Value).getD ((0 : Int32)).toNatClampNeg (.int (0 : Int32)) = .int ((fi - (1 : Int32)) + (0 : Int32)) from (fun _ => rfl))) hZ (hw _ (List.mem_of_getElem? (i := 45) rfl)) (hw _ (List.mem_of_getElem? (i := 44) rfl)) (by decide) (by decide)) (g := (mkF m 98 #[.val (.int pp1), .val (.int pp2), .val (.int (3 : Int32)), .val (.int fi), .val (.int ((fi + (3 : Int32)) - (1 : Int32))), .val (.ref b57), .val (.ref bx_65)] [(.int fi), (.int (0 : Int32)), (.ref bx_65)])) rfl (by rw [hml]; rfl) (argsL := [(.ref bx_65), (.int (0 : Int32)), (.int fi)]) (rest := []) (lenOf pd__28__5b_III_29_Z rfl) rfl (by show 2 * 0 + _ ≤ _; exact Nat.le_of_eq rfl) (hb hby at_98) (fun _ _ => ⟨rfl, rfl, (by decide : 4 + 0 ≤ _), (by decide : 14 + 0 ≤ _)⟩)
    dsimp only [Pt.U, Pt.locs, Pt.cells, Pt.slots] at X70 l70 y70 z70 st70 hQ70
    subst l70 y70 z70
    obtain ⟨rfl, N70q, e70⟩ := hQ70
    have N70 := Fr.app N65 N70q
    have hc101_3 : ¬ ((1 : Int32) = (0 : Int32)) := by decide
    obtain ⟨_, _, ⟨T71, L71, k71, n71⟩, -, X71, ⟨Lc71, hQ71, l71, y71, z71⟩, st71⟩ := Jvm.LawKit.callS X70 hx (y := (⟨"com/example/escapement/escapement/cli/PartitionSitesPinLaw", "at", "([III)Z"⟩ : MethodName)) hown (mvT hZ (hw _ (List.mem_of_getElem? (i := 42) rfl))) (mvT hZ (hw _ (List.mem_of_getElem? (i := 43) rfl))) (mvT hZ (hw _ (List.mem_of_getElem? (i := 44) rfl))) (mvT hZ (hw _ (List.mem_of_getElem? (i := 45) rfl))) (by decide) (backOf (W := 0) (rm7 l Z a0 hw [] bx_65 (1 : Int32) fi kx_65 (3 : Int32) [(.int ((fi - (1 : Int32)) + (0 : Int32))), (.int ((fi - (1 : Int32)) + (1 : Int32))), (.int ((fi - (1 : Int32)) + (2 : Int32)))] T65.heap n0 Z65 R65_0 (show ¬ (1 : Int32) < (0 : Int32) from (by decide)) (show (1 : Int32) < (3 : Int32) → ([(.int ((fi - (1 : Int32)) + (0 : Int32))), (.int ((fi - (1 : Int32)) + (1 : Int32))), (.int ((fi - (1 : Int32)) + (2 : Int32)))] : List Value).getD ((1 : Int32)).toNatClampNeg (.int (0 : Int32)) = .int ((fi - (1 : Int32)) + (1 : Int32)) from (fun _ => rfl))) hZ (hw _ (List.mem_of_getElem? (i := 45) rfl)) (hw _ (List.mem_of_getElem? (i := 44) rfl)) (by decide) (by decide)) (g := (mkF m 108 #[.val (.int pp1), .val (.int pp2), .val (.int (3 : Int32)), .val (.int fi), .val (.int ((fi + (3 : Int32)) - (1 : Int32))), .val (.ref b57), .val (.ref bx_65)] [(.int fi), (.int (1 : Int32)), (.ref bx_65)])) rfl (by rw [hml]; rfl) (argsL := [(.ref bx_65), (.int (1 : Int32)), (.int fi)]) (rest := []) (lenOf pd__28__5b_III_29_Z rfl) rfl (by show 2 * 0 + _ ≤ _; exact Nat.le_of_eq rfl) (hb hby at_108) (fun _ _ => ⟨rfl, e70, (by decide : 4 + 0 ≤ _), (by decide : 14 + 0 ≤ _)⟩)
    dsimp only [Pt.U, Pt.locs, Pt.cells, Pt.slots] at X71 l71 y71 z71 st71 hQ71
    subst l71 y71 z71
    obtain ⟨rfl, N71q, e71⟩ := hQ71
    have N71 := Fr.app N70 N71q
    have hc111_3 : ¬ ((1 : Int32) = (0 : Int32)) := by decide
    obtain ⟨_, _, ⟨T72, L72, k72, n72⟩, -, X72, ⟨Lc72, hQ72, l72, y72, z72⟩, st72⟩ := Jvm.LawKit.callS X71 hx (y := (⟨"com/example/escapement/escapement/cli/PartitionSitesPinLaw", "at", "([III)Z"⟩ : MethodName)) hown (mvT hZ (hw _ (List.mem_of_getElem? (i := 42) rfl))) (mvT hZ (hw _ (List.mem_of_getElem? (i := 43) rfl))) (mvT hZ (hw _ (List.mem_of_getElem? (i := 44) rfl))) (mvT hZ (hw _ (List.mem_of_getElem? (i := 45) rfl))) (by decide) (backOf (W := 0) (rm7 l Z a0 hw [] bx_65 (2 : Int32) fi kx_65 (3 : Int32) [(.int ((fi - (1 : Int32)) + (0 : Int32))), (.int ((fi - (1 : Int32)) + (1 : Int32))), (.int ((fi - (1 : Int32)) + (2 : Int32)))] T65.heap n0 Z65 R65_0 (show ¬ (2 : Int32) < (0 : Int32) from (by decide)) (show (2 : Int32) < (3 : Int32) → ([(.int ((fi - (1 : Int32)) + (0 : Int32))), (.int ((fi - (1 : Int32)) + (1 : Int32))), (.int ((fi - (1 : Int32)) + (2 : Int32)))] : List Value).getD ((2 : Int32)).toNatClampNeg (.int (0 : Int32)) = .int ((fi - (1 : Int32)) + (2 : Int32)) from (fun _ => rfl))) hZ (hw _ (List.mem_of_getElem? (i := 45) rfl)) (hw _ (List.mem_of_getElem? (i := 44) rfl)) (by decide) (by decide)) (g := (mkF m 118 #[.val (.int pp1), .val (.int pp2), .val (.int (3 : Int32)), .val (.int fi), .val (.int ((fi + (3 : Int32)) - (1 : Int32))), .val (.ref b57), .val (.ref bx_65)] [(.int fi), (.int (2 : Int32)), (.ref bx_65)])) rfl (by rw [hml]; rfl) (argsL := [(.ref bx_65), (.int (2 : Int32)), (.int fi)]) (rest := []) (lenOf pd__28__5b_III_29_Z rfl) rfl (by show 2 * 0 + _ ≤ _; exact Nat.le_of_eq rfl) (hb hby at_118) (fun _ _ => ⟨rfl, e71, (by decide : 4 + 0 ≤ _), (by decide : 14 + 0 ≤ _)⟩)
    dsimp only [Pt.U, Pt.locs, Pt.cells, Pt.slots] at X72 l72 y72 z72 st72 hQ72
    subst l72 y72 z72
    obtain ⟨rfl, N72q, e72⟩ := hQ72
    have N72 := Fr.app N71 N72q
    have hc121_3 : ¬ ((1 : Int32) = (0 : Int32)) := by decide
    obtain ⟨_, _, ⟨T73, L73, k73, n73⟩, -, X73, ⟨Lc73, hQ73, l73, y73, z73⟩, st73⟩ := Jvm.LawKit.callS X72 hx (y := (⟨"com/example/escapement/escapement/cli/PartitionSitesPinLaw", "at", "([III)Z"⟩ : MethodName)) hown (mvT hZ (hw _ (List.mem_of_getElem? (i := 42) rfl))) (mvT hZ (hw _ (List.mem_of_getElem? (i := 43) rfl))) (mvT hZ (hw _ (List.mem_of_getElem? (i := 44) rfl))) (mvT hZ (hw _ (List.mem_of_getElem? (i := 45) rfl))) (by decide) (backOf (W := 0) (rm7 l Z a0 hw [] bx_65 (3 : Int32) fi kx_65 (3 : Int32) [(.int ((fi - (1 : Int32)) + (0 : Int32))), (.int ((fi - (1 : Int32)) + (1 : Int32))), (.int ((fi - (1 : Int32)) + (2 : Int32)))] T65.heap n0 Z65 R65_0 (show ¬ (3 : Int32) < (0 : Int32) from (by decide)) (show (3 : Int32) < (3 : Int32) → ([(.int ((fi - (1 : Int32)) + (0 : Int32))), (.int ((fi - (1 : Int32)) + (1 : Int32))), (.int ((fi - (1 : Int32)) + (2 : Int32)))] : List Value).getD ((3 : Int32)).toNatClampNeg (.int (0 : Int32)) = .int ((fi - (1 : Int32)) + (3 : Int32)) from (fun h => absurd h (by decide)))) hZ (hw _ (List.mem_of_getElem? (i := 45) rfl)) (hw _ (List.mem_of_getElem? (i := 44) rfl)) (by decide) (by decide)) (g := (mkF m 128 #[.val (.int pp1), .val (.int pp2), .val (.int (3 : Int32)), .val (.int fi), .val (.int ((fi + (3 : Int32)) - (1 : Int32))), .val (.ref b57), .val (.ref bx_65)] [(.int fi), (.int (3 : Int32)), (.ref bx_65)])) rfl (by rw [hml]; rfl) (argsL := [(.ref bx_65), (.int (3 : Int32)), (.int fi)]) (rest := []) (lenOf pd__28__5b_III_29_Z rfl) rfl (by show 2 * 0 + _ ≤ _; exact Nat.le_of_eq rfl) (hb hby at_128) (fun _ _ => ⟨rfl, e72, (by decide : 4 + 0 ≤ _), (by decide : 14 + 0 ≤ _)⟩)
    dsimp only [Pt.U, Pt.locs, Pt.cells, Pt.slots] at X73 l73 y73 z73 st73 hQ73
    subst l73 y73 z73
    obtain ⟨rfl, N73q, e73⟩ := hQ73
    have N73 := Fr.app N72 N73q
    have hc131_3 : ¬ ((1 : Int32) = (0 : Int32)) := by decide
    obtain ⟨_, _, ⟨T74, L74, k74, n74⟩, -, X74, ⟨Lc74, hQ74, l74, y74, z74⟩, st74⟩ := Jvm.LawKit.callS X73 hx (y := (⟨"com/example/escapement/escapement/cli/PartitionSitesPinLaw", "at", "([III)Z"⟩ : MethodName)) hown (mvT hZ (hw _ (List.mem_of_getElem? (i := 42) rfl))) (mvT hZ (hw _ (List.mem_of_getElem? (i := 43) rfl))) (mvT hZ (hw _ (List.mem_of_getElem? (i := 44) rfl))) (mvT hZ (hw _ (List.mem_of_getElem? (i := 45) rfl))) (by decide) (backOf (W := 0) (rm7 l Z a0 hw [] bx_65 (4 : Int32) fi kx_65 (3 : Int32) [(.int ((fi - (1 : Int32)) + (0 : Int32))), (.int ((fi - (1 : Int32)) + (1 : Int32))), (.int ((fi - (1 : Int32)) + (2 : Int32)))] T65.heap n0 Z65 R65_0 (show ¬ (4 : Int32) < (0 : Int32) from (by decide)) (show (4 : Int32) < (3 : Int32) → ([(.int ((fi - (1 : Int32)) + (0 : Int32))), (.int ((fi - (1 : Int32)) + (1 : Int32))), (.int ((fi - (1 : Int32)) + (2 : Int32)))] : List Value).getD ((4 : Int32)).toNatClampNeg (.int (0 : Int32)) = .int ((fi - (1 : Int32)) + (4 : Int32)) from (fun h => absurd h (by decide)))) hZ (hw _ (List.mem_of_getElem? (i := 45) rfl)) (hw _ (List.mem_of_getElem? (i := 44) rfl)) (by decide) (by decide)) (g := (mkF m 138 #[.val (.int pp1), .val (.int pp2), .val (.int (3 : Int32)), .val (.int fi), .val (.int ((fi + (3 : Int32)) - (1 : Int32))), .val (.ref b57), .val (.ref bx_65)] [(.int fi), (.int (4 : Int32)), (.ref bx_65)])) rfl (by rw [hml]; rfl) (argsL := [(.ref bx_65), (.int (4 : Int32)), (.int fi)]) (rest := []) (lenOf pd__28__5b_III_29_Z rfl) rfl (by show 2 * 0 + _ ≤ _; exact Nat.le_of_eq rfl) (hb hby at_138) (fun _ _ => ⟨rfl, e73, (by decide : 4 + 0 ≤ _), (by decide : 14 + 0 ≤ _)⟩)
    dsimp only [Pt.U, Pt.locs, Pt.cells, Pt.slots] at X74 l74 y74 z74 st74 hQ74
    subst l74 y74 z74
    obtain ⟨rfl, N74q, e74⟩ := hQ74
    have N74 := Fr.app N73 N74q
    have hc141_3 : ¬ ((1 : Int32) = (0 : Int32)) := by decide
    obtain ⟨_, _, ⟨T75, L75, k75, n75⟩, -, X75, ⟨Lc75, hQ75, l75, y75, z75⟩, st75⟩ := Jvm.LawKit.callS X74 hx (y := (⟨"com/example/escapement/escapement/cli/PartitionSitesPinLaw", "at", "([III)Z"⟩ : MethodName)) hown (mvT hZ (hw _ (List.mem_of_getElem? (i := 42) rfl))) (mvT hZ (hw _ (List.mem_of_getElem? (i := 43) rfl))) (mvT hZ (hw _ (List.mem_of_getElem? (i := 44) rfl))) (mvT hZ (hw _ (List.mem_of_getElem? (i := 45) rfl))) (by decide) (backOf (W := 0) (rm7 l Z a0 hw [] bx_65 (5 : Int32) fi kx_65 (3 : Int32) [(.int ((fi - (1 : Int32)) + (0 : Int32))), (.int ((fi - (1 : Int32)) + (1 : Int32))), (.int ((fi - (1 : Int32)) + (2 : Int32)))] T65.heap n0 Z65 R65_0 (show ¬ (5 : Int32) < (0 : Int32) from (by decide)) (show (5 : Int32) < (3 : Int32) → ([(.int ((fi - (1 : Int32)) + (0 : Int32))), (.int ((fi - (1 : Int32)) + (1 : Int32))), (.int ((fi - (1 : Int32)) + (2 : Int32)))] : List Value).getD ((5 : Int32)).toNatClampNeg (.int (0 : Int32)) = .int ((fi - (1 : Int32)) + (5 : Int32)) from (fun h => absurd h (by decide)))) hZ (hw _ (List.mem_of_getElem? (i := 45) rfl)) (hw _ (List.mem_of_getElem? (i := 44) rfl)) (by decide) (by decide)) (g := (mkF m 148 #[.val (.int pp1), .val (.int pp2), .val (.int (3 : Int32)), .val (.int fi), .val (.int ((fi + (3 : Int32)) - (1 : Int32))), .val (.ref b57), .val (.ref bx_65)] [(.int fi), (.int (5 : Int32)), (.ref bx_65)])) rfl (by rw [hml]; rfl) (argsL := [(.ref bx_65), (.int (5 : Int32)), (.int fi)]) (rest := []) (lenOf pd__28__5b_III_29_Z rfl) rfl (by show 2 * 0 + _ ≤ _; exact Nat.le_of_eq rfl) (hb hby at_148) (fun _ _ => ⟨rfl, e74, (by decide : 4 + 0 ≤ _), (by decide : 14 + 0 ≤ _)⟩)
    dsimp only [Pt.U, Pt.locs, Pt.cells, Pt.slots] at X75 l75 y75 z75 st75 hQ75
    subst l75 y75 z75
    obtain ⟨rfl, N75q, e75⟩ := hQ75
    have N75 := Fr.app N74 N75q
    have hc151_3 : ¬ ((1 : Int32) = (0 : Int32)) := by decide
    obtain ⟨_, _, ⟨T76, L76, k76, n76⟩, -, X76, ⟨Lc76, hQ76, l76, y76, z76⟩, st76⟩ := Jvm.LawKit.callS X75 hx (y := (⟨"com/example/escapement/escapement/cli/PartitionSitesPinLaw", "at", "([III)Z"⟩ : MethodName)) hown (mvT hZ (hw _ (List.mem_of_getElem? (i := 42) rfl))) (mvT hZ (hw _ (List.mem_of_getElem? (i := 43) rfl))) (mvT hZ (hw _ (List.mem_of_getElem? (i := 44) rfl))) (mvT hZ (hw _ (List.mem_of_getElem? (i := 45) rfl))) (by decide) (backOf (W := 0) (rm7 l Z a0 hw [] bx_65 (6 : Int32) fi kx_65 (3 : Int32) [(.int ((fi - (1 : Int32)) + (0 : Int32))), (.int ((fi - (1 : Int32)) + (1 : Int32))), (.int ((fi - (1 : Int32)) + (2 : Int32)))] T65.heap n0 Z65 R65_0 (show ¬ (6 : Int32) < (0 : Int32) from (by decide)) (show (6 : Int32) < (3 : Int32) → ([(.int ((fi - (1 : Int32)) + (0 : Int32))), (.int ((fi - (1 : Int32)) + (1 : Int32))), (.int ((fi - (1 : Int32)) + (2 : Int32)))] : List Value).getD ((6 : Int32)).toNatClampNeg (.int (0 : Int32)) = .int ((fi - (1 : Int32)) + (6 : Int32)) from (fun h => absurd h (by decide)))) hZ (hw _ (List.mem_of_getElem? (i := 45) rfl)) (hw _ (List.mem_of_getElem? (i := 44) rfl)) (by decide) (by decide)) (g := (mkF m 159 #[.val (.int pp1), .val (.int pp2), .val (.int (3 : Int32)), .val (.int fi), .val (.int ((fi + (3 : Int32)) - (1 : Int32))), .val (.ref b57), .val (.ref bx_65)] [(.int fi), (.int (6 : Int32)), (.ref bx_65)])) rfl (by rw [hml]; rfl) (argsL := [(.ref bx_65), (.int (6 : Int32)), (.int fi)]) (rest := []) (lenOf pd__28__5b_III_29_Z rfl) rfl (by show 2 * 0 + _ ≤ _; exact Nat.le_of_eq rfl) (hb hby at_159) (fun _ _ => ⟨rfl, e75, (by decide : 4 + 0 ≤ _), (by decide : 14 + 0 ≤ _)⟩)
    dsimp only [Pt.U, Pt.locs, Pt.cells, Pt.slots] at X76 l76 y76 z76 st76 hQ76
    subst l76 y76 z76
    obtain ⟨rfl, N76q, e76⟩ := hQ76
    have N76 := Fr.app N75 N76q
    have hc162_3 : ¬ ((1 : Int32) = (0 : Int32)) := by decide
    obtain ⟨_, _, ⟨T77, L77, k77, n77⟩, -, X77, ⟨Lc77, hQ77, l77, y77, z77⟩, st77⟩ := Jvm.LawKit.callS X76 hx (y := (⟨"com/example/escapement/escapement/cli/PartitionSitesPinLaw", "at", "([III)Z"⟩ : MethodName)) hown (mvT hZ (hw _ (List.mem_of_getElem? (i := 42) rfl))) (mvT hZ (hw _ (List.mem_of_getElem? (i := 43) rfl))) (mvT hZ (hw _ (List.mem_of_getElem? (i := 44) rfl))) (mvT hZ (hw _ (List.mem_of_getElem? (i := 45) rfl))) (by decide) (backOf (W := 0) (rm7 l Z a0 hw [] bx_65 (7 : Int32) fi kx_65 (3 : Int32) [(.int ((fi - (1 : Int32)) + (0 : Int32))), (.int ((fi - (1 : Int32)) + (1 : Int32))), (.int ((fi - (1 : Int32)) + (2 : Int32)))] T65.heap n0 Z65 R65_0 (show ¬ (7 : Int32) < (0 : Int32) from (by decide)) (show (7 : Int32) < (3 : Int32) → ([(.int ((fi - (1 : Int32)) + (0 : Int32))), (.int ((fi - (1 : Int32)) + (1 : Int32))), (.int ((fi - (1 : Int32)) + (2 : Int32)))] : List Value).getD ((7 : Int32)).toNatClampNeg (.int (0 : Int32)) = .int ((fi - (1 : Int32)) + (7 : Int32)) from (fun h => absurd h (by decide)))) hZ (hw _ (List.mem_of_getElem? (i := 45) rfl)) (hw _ (List.mem_of_getElem? (i := 44) rfl)) (by decide) (by decide)) (g := (mkF m 170 #[.val (.int pp1), .val (.int pp2), .val (.int (3 : Int32)), .val (.int fi), .val (.int ((fi + (3 : Int32)) - (1 : Int32))), .val (.ref b57), .val (.ref bx_65)] [(.int fi), (.int (7 : Int32)), (.ref bx_65)])) rfl (by rw [hml]; rfl) (argsL := [(.ref bx_65), (.int (7 : Int32)), (.int fi)]) (rest := []) (lenOf pd__28__5b_III_29_Z rfl) rfl (by show 2 * 0 + _ ≤ _; exact Nat.le_of_eq rfl) (hb hby at_170) (fun _ _ => ⟨rfl, e76, (by decide : 4 + 0 ≤ _), (by decide : 14 + 0 ≤ _)⟩)
    dsimp only [Pt.U, Pt.locs, Pt.cells, Pt.slots] at X77 l77 y77 z77 st77 hQ77
    subst l77 y77 z77
    obtain ⟨rfl, N77q, e77⟩ := hQ77
    have N77 := Fr.app N76 N77q
    have hc173_3 : ¬ ((1 : Int32) = (0 : Int32)) := by decide
    obtain ⟨fs, hr, hrun, hended, qe1, qe2, qe3, qe4⟩ := Stand.leaveW (s := s) (vm₁ := T59.vm) X77 hS59 (by rw [e77]; exact kz65) (v := some (.int (1 : Int32))) (fun h => by rw [Bd.returns] at h; cases h)
    refine ⟨_, _, pre58 _ ?_, hrun, hended, _, _, rfl, ?_, qe1, qe2, qe3, qe4.mono (by decide) (by decide)⟩
    · show Steps p.tables e below (T57.setTop (mkF m 38 #[.val (.int pp1), .val (.int pp2), .val (.int (3 : Int32)), .val (.int fi), .val (.int ((fi + (3 : Int32)) - (1 : Int32))), .unset, .unset] [(.ref b57), (.ref b57)])) _
      refine st59 _ ?_
      show Steps p.tables e below (T59.setTop (mkF m 40 #[.val (.int pp1), .val (.int pp2), .val (.int (3 : Int32)), .val (.int fi), .val (.int ((fi + (3 : Int32)) - (1 : Int32))), .unset, .unset] [(.ref a59), (.ref b57), (.ref b57)])) _
      refine XS.iloadN X59.here hx rfl (hb hby at_40) rfl ?_
      show Steps p.tables e below (T59.setTop (mkF m 41 #[.val (.int pp1), .val (.int pp2), .val (.int (3 : Int32)), .val (.int fi), .val (.int ((fi + (3 : Int32)) - (1 : Int32))), .unset, .unset] [(.int fi), (.ref a59), (.ref b57), (.ref b57)])) _
      refine XS.iload X59.here hx rfl (hb hby at_41) rfl ?_
      show Steps p.tables e below (T59.setTop (mkF m 43 #[.val (.int pp1), .val (.int pp2), .val (.int (3 : Int32)), .val (.int fi), .val (.int ((fi + (3 : Int32)) - (1 : Int32))), .unset, .unset] [(.int ((fi + (3 : Int32)) - (1 : Int32))), (.int fi), (.ref a59), (.ref b57), (.ref b57)])) _
      refine st64.trans ?_
      show Steps p.tables e below (T64.setTop (mkF m 46 #[.val (.int pp1), .val (.int pp2), .val (.int (3 : Int32)), .val (.int fi), .val (.int ((fi + (3 : Int32)) - (1 : Int32))), .unset, .unset] [(.ref b57)])) _
      refine XS.astore X64.here hx rfl (hb hby at_46) rfl rfl (l' := #[.val (.int pp1), .val (.int pp2), .val (.int (3 : Int32)), .val (.int fi), .val (.int ((fi + (3 : Int32)) - (1 : Int32))), .val (.ref b57), .unset]) rfl ?_
      show Steps p.tables e below (T64.setTop (mkF m 48 #[.val (.int pp1), .val (.int pp2), .val (.int (3 : Int32)), .val (.int fi), .val (.int ((fi + (3 : Int32)) - (1 : Int32))), .val (.ref b57), .unset] [])) _
      refine XS.aload X64.here hx rfl (hb hby at_48) rfl rfl ?_
      show Steps p.tables e below (T64.setTop (mkF m 50 #[.val (.int pp1), .val (.int pp2), .val (.int (3 : Int32)), .val (.int fi), .val (.int ((fi + (3 : Int32)) - (1 : Int32))), .val (.ref b57), .unset] [(.ref b57)])) _
      refine st65.trans ?_
      show Steps p.tables e below (T65.setTop (mkF m 53 #[.val (.int pp1), .val (.int pp2), .val (.int (3 : Int32)), .val (.int fi), .val (.int ((fi + (3 : Int32)) - (1 : Int32))), .val (.ref b57), .unset] [(.ref bx_65)])) _
      refine XS.astore X65.here hx rfl (hb hby at_53) rfl rfl (l' := #[.val (.int pp1), .val (.int pp2), .val (.int (3 : Int32)), .val (.int fi), .val (.int ((fi + (3 : Int32)) - (1 : Int32))), .val (.ref b57), .val (.ref bx_65)]) rfl ?_
      show Steps p.tables e below (T65.setTop (mkF m 55 #[.val (.int pp1), .val (.int pp2), .val (.int (3 : Int32)), .val (.int fi), .val (.int ((fi + (3 : Int32)) - (1 : Int32))), .val (.ref b57), .val (.ref bx_65)] [])) _
      refine XS.aload X65.here hx rfl (hb hby at_55) rfl rfl ?_
      show Steps p.tables e below (T65.setTop (mkF m 57 #[.val (.int pp1), .val (.int pp2), .val (.int (3 : Int32)), .val (.int fi), .val (.int ((fi + (3 : Int32)) - (1 : Int32))), .val (.ref b57), .val (.ref bx_65)] [(.ref bx_65)])) _
      refine XS.ifnullNo X65.here hx rfl (hb hby at_57) rfl ?_
      show Steps p.tables e below (T65.setTop (mkF m 60 #[.val (.int pp1), .val (.int pp2), .val (.int (3 : Int32)), .val (.int fi), .val (.int ((fi + (3 : Int32)) - (1 : Int32))), .val (.ref b57), .val (.ref bx_65)] [])) _
      refine XS.aload X65.here hx rfl (hb hby at_60) rfl rfl ?_
      show Steps p.tables e below (T65.setTop (mkF m 62 #[.val (.int pp1), .val (.int pp2), .val (.int (3 : Int32)), .val (.int fi), .val (.int ((fi + (3 : Int32)) - (1 : Int32))), .val (.ref b57), .val (.ref bx_65)] [(.ref bx_65)])) _
      refine X65.arraylength hx (Ar_67.1) (State.isArrayOf_alike hZ.alike Ar_67.2.1) (g := (mkF m 62 #[.val (.int pp1), .val (.int pp2), .val (.int (3 : Int32)), .val (.int fi), .val (.int ((fi + (3 : Int32)) - (1 : Int32))), .val (.ref b57), .val (.ref bx_65)] [(.ref bx_65)])) rfl rfl (hb hby at_62) _ ?_
      rw [len_of Sz_67 Nn_67]
      show Steps p.tables e below (T65.setTop (mkF m 63 #[.val (.int pp1), .val (.int pp2), .val (.int (3 : Int32)), .val (.int fi), .val (.int ((fi + (3 : Int32)) - (1 : Int32))), .val (.ref b57), .val (.ref bx_65)] [(.int (3 : Int32))])) _
      refine XS.iloadN X65.here hx rfl (hb hby at_63) rfl ?_
      show Steps p.tables e below (T65.setTop (mkF m 64 #[.val (.int pp1), .val (.int pp2), .val (.int (3 : Int32)), .val (.int fi), .val (.int ((fi + (3 : Int32)) - (1 : Int32))), .val (.ref b57), .val (.ref bx_65)] [(.int (3 : Int32)), (.int (3 : Int32))])) _
      refine XS.icmpYes X65.here hx rfl (pc0 := 64) (pc' := 69) rfl (hb hby at_64) rfl (teq hc64_3).1 (by decide) (by decide) ?_
      show Steps p.tables e below (T65.setTop (mkF m 69 #[.val (.int pp1), .val (.int pp2), .val (.int (3 : Int32)), .val (.int fi), .val (.int ((fi + (3 : Int32)) - (1 : Int32))), .val (.ref b57), .val (.ref bx_65)] [])) _
      refine XS.aload X65.here hx rfl (hb hby at_69) rfl rfl ?_
      show Steps p.tables e below (T65.setTop (mkF m 71 #[.val (.int pp1), .val (.int pp2), .val (.int (3 : Int32)), .val (.int fi), .val (.int ((fi + (3 : Int32)) - (1 : Int32))), .val (.ref b57), .val (.ref bx_65)] [(.ref bx_65)])) _
      refine XS.iconst X65.here hx rfl (hb hby at_71) ?_
      show Steps p.tables e below (T65.setTop (mkF m 72 #[.val (.int pp1), .val (.int pp2), .val (.int (3 : Int32)), .val (.int fi), .val (.int ((fi + (3 : Int32)) - (1 : Int32))), .val (.ref b57), .val (.ref bx_65)] [(.int (0 : Int32)), (.ref bx_65)])) _
      refine X65.iaload hx (j := (0 : Int32)) (v := (.int ((fi - (1 : Int32)) + (0 : Int32)))) (Ar_68.1) (State.isArrayOf_alike hZ.alike Ar_68.2.1) Ar_68.2.2 hin_68 hat_68 (g := (mkF m 72 #[.val (.int pp1), .val (.int pp2), .val (.int (3 : Int32)), .val (.int fi), .val (.int ((fi + (3 : Int32)) - (1 : Int32))), .val (.ref b57), .val (.ref bx_65)] [(.int (0 : Int32)), (.ref bx_65)])) rfl rfl (hb hby at_72) _ ?_
      show Steps p.tables e below (T65.setTop (mkF m 73 #[.val (.int pp1), .val (.int pp2), .val (.int (3 : Int32)), .val (.int fi), .val (.int ((fi + (3 : Int32)) - (1 : Int32))), .val (.ref b57), .val (.ref bx_65)] [(.int ((fi - (1 : Int32)) + (0 : Int32)))])) _
      refine XS.iloadN X65.here hx rfl (hb hby at_73) rfl ?_
      show Steps p.tables e below (T65.setTop (mkF m 74 #[.val (.int pp1), .val (.int pp2), .val (.int (3 : Int32)), .val (.int fi), .val (.int ((fi + (3 : Int32)) - (1 : Int32))), .val (.ref b57), .val (.ref bx_65)] [(.int fi), (.int ((fi - (1 : Int32)) + (0 : Int32)))])) _
      refine XS.iconst X65.here hx rfl (hb hby at_74) ?_
      show Steps p.tables e below (T65.setTop (mkF m 75 #[.val (.int pp1), .val (.int pp2), .val (.int (3 : Int32)), .val (.int fi), .val (.int ((fi + (3 : Int32)) - (1 : Int32))), .val (.ref b57), .val (.ref bx_65)] [(.int (1 : Int32)), (.int fi), (.int ((fi - (1 : Int32)) + (0 : Int32)))])) _
      refine XS.isub X65.here hx rfl (hb hby at_75) rfl ?_
      show Steps p.tables e below (T65.setTop (mkF m 76 #[.val (.int pp1), .val (.int pp2), .val (.int (3 : Int32)), .val (.int fi), .val (.int ((fi + (3 : Int32)) - (1 : Int32))), .val (.ref b57), .val (.ref bx_65)] [(.int (fi - (1 : Int32))), (.int ((fi - (1 : Int32)) + (0 : Int32)))])) _
      refine XS.icmpNo X65.here hx rfl (hb hby at_76) rfl (teq hc76_3).2 ?_
      show Steps p.tables e below (T65.setTop (mkF m 79 #[.val (.int pp1), .val (.int pp2), .val (.int (3 : Int32)), .val (.int fi), .val (.int ((fi + (3 : Int32)) - (1 : Int32))), .val (.ref b57), .val (.ref bx_65)] [])) _
      refine XS.aload X65.here hx rfl (hb hby at_79) rfl rfl ?_
      show Steps p.tables e below (T65.setTop (mkF m 81 #[.val (.int pp1), .val (.int pp2), .val (.int (3 : Int32)), .val (.int fi), .val (.int ((fi + (3 : Int32)) - (1 : Int32))), .val (.ref b57), .val (.ref bx_65)] [(.ref bx_65)])) _
      refine XS.iloadN X65.here hx rfl (hb hby at_81) rfl ?_
      show Steps p.tables e below (T65.setTop (mkF m 82 #[.val (.int pp1), .val (.int pp2), .val (.int (3 : Int32)), .val (.int fi), .val (.int ((fi + (3 : Int32)) - (1 : Int32))), .val (.ref b57), .val (.ref bx_65)] [(.int (3 : Int32)), (.ref bx_65)])) _
      refine XS.iconst X65.here hx rfl (hb hby at_82) ?_
      show Steps p.tables e below (T65.setTop (mkF m 83 #[.val (.int pp1), .val (.int pp2), .val (.int (3 : Int32)), .val (.int fi), .val (.int ((fi + (3 : Int32)) - (1 : Int32))), .val (.ref b57), .val (.ref bx_65)] [(.int (1 : Int32)), (.int (3 : Int32)), (.ref bx_65)])) _
      refine XS.isub X65.here hx rfl (hb hby at_83) rfl ?_
      show Steps p.tables e below (T65.setTop (mkF m 84 #[.val (.int pp1), .val (.int pp2), .val (.int (3 : Int32)), .val (.int fi), .val (.int ((fi + (3 : Int32)) - (1 : Int32))), .val (.ref b57), .val (.ref bx_65)] [(.int (2 : Int32)), (.ref bx_65)])) _
      refine X65.iaload hx (j := (2 : Int32)) (v := (.int ((fi - (1 : Int32)) + (2 : Int32)))) (Ar_69.1) (State.isArrayOf_alike hZ.alike Ar_69.2.1) Ar_69.2.2 hin_69 hat_69 (g := (mkF m 84 #[.val (.int pp1), .val (.int pp2), .val (.int (3 : Int32)), .val (.int fi), .val (.int ((fi + (3 : Int32)) - (1 : Int32))), .val (.ref b57), .val (.ref bx_65)] [(.int (2 : Int32)), (.ref bx_65)])) rfl rfl (hb hby at_84) _ ?_
      show Steps p.tables e below (T65.setTop (mkF m 85 #[.val (.int pp1), .val (.int pp2), .val (.int (3 : Int32)), .val (.int fi), .val (.int ((fi + (3 : Int32)) - (1 : Int32))), .val (.ref b57), .val (.ref bx_65)] [(.int ((fi - (1 : Int32)) + (2 : Int32)))])) _
      refine XS.iload X65.here hx rfl (hb hby at_85) rfl ?_
      show Steps p.tables e below (T65.setTop (mkF m 87 #[.val (.int pp1), .val (.int pp2), .val (.int (3 : Int32)), .val (.int fi), .val (.int ((fi + (3 : Int32)) - (1 : Int32))), .val (.ref b57), .val (.ref bx_65)] [(.int ((fi + (3 : Int32)) - (1 : Int32))), (.int ((fi - (1 : Int32)) + (2 : Int32)))])) _
      refine XS.iconst X65.here hx rfl (hb hby at_87) ?_
      show Steps p.tables e below (T65.setTop (mkF m 88 #[.val (.int pp1), .val (.int pp2), .val (.int (3 : Int32)), .val (.int fi), .val (.int ((fi + (3 : Int32)) - (1 : Int32))), .val (.ref b57), .val (.ref bx_65)] [(.int (1 : Int32)), (.int ((fi + (3 : Int32)) - (1 : Int32))), (.int ((fi - (1 : Int32)) + (2 : Int32)))])) _
      refine XS.isub X65.here hx rfl (hb hby at_88) rfl ?_
      show Steps p.tables e below (T65.setTop (mkF m 89 #[.val (.int pp1), .val (.int pp2), .val (.int (3 : Int32)), .val (.int fi), .val (.int ((fi + (3 : Int32)) - (1 : Int32))), .val (.ref b57), .val (.ref bx_65)] [(.int (((fi + (3 : Int32)) - (1 : Int32)) - (1 : Int32))), (.int ((fi - (1 : Int32)) + (2 : Int32)))])) _
      refine XS.icmpYes X65.here hx rfl (pc0 := 89) (pc' := 94) rfl (hb hby at_89) rfl (teq hc89_3).1 (by decide) (by decide) ?_
      show Steps p.tables e below (T65.setTop (mkF m 94 #[.val (.int pp1), .val (.int pp2), .val (.int (3 : Int32)), .val (.int fi), .val (.int ((fi + (3 : Int32)) - (1 : Int32))), .val (.ref b57), .val (.ref bx_65)] [])) _
      refine XS.aload X65.here hx rfl (hb hby at_94) rfl rfl ?_
      show Steps p.tables e below (T65.setTop (mkF m 96 #[.val (.int pp1), .val (.int pp2), .val (.int (3 : Int32)), .val (.int fi), .val (.int ((fi + (3 : Int32)) - (1 : Int32))), .val (.ref b57), .val (.ref bx_65)] [(.ref bx_65)])) _
      refine XS.iconst X65.here hx rfl (hb hby at_96) ?_
      show Steps p.tables e below (T65.setTop (mkF m 97 #[.val (.int pp1), .val (.int pp2), .val (.int (3 : Int32)), .val (.int fi), .val (.int ((fi + (3 : Int32)) - (1 : Int32))), .val (.ref b57), .val (.ref bx_65)] [(.int (0 : Int32)), (.ref bx_65)])) _
      refine XS.iloadN X65.here hx rfl (hb hby at_97) rfl ?_
      show Steps p.tables e below (T65.setTop (mkF m 98 #[.val (.int pp1), .val (.int pp2), .val (.int (3 : Int32)), .val (.int fi), .val (.int ((fi + (3 : Int32)) - (1 : Int32))), .val (.ref b57), .val (.ref bx_65)] [(.int fi), (.int (0 : Int32)), (.ref bx_65)])) _
      refine st70 _ ?_
      show Steps p.tables e below (T70.setTop (mkF m 101 #[.val (.int pp1), .val (.int pp2), .val (.int (3 : Int32)), .val (.int fi), .val (.int ((fi + (3 : Int32)) - (1 : Int32))), .val (.ref b57), .val (.ref bx_65)] [(.int (1 : Int32))])) _
      refine XS.ifNo X70.here hx rfl (hb hby at_101) rfl ((if0 _ _).trans (feq hc101_3).1) ?_
      show Steps p.tables e below (T70.setTop (mkF m 104 #[.val (.int pp1), .val (.int pp2), .val (.int (3 : Int32)), .val (.int fi), .val (.int ((fi + (3 : Int32)) - (1 : Int32))), .val (.ref b57), .val (.ref bx_65)] [])) _
      refine XS.aload X70.here hx rfl (hb hby at_104) rfl rfl ?_
      show Steps p.tables e below (T70.setTop (mkF m 106 #[.val (.int pp1), .val (.int pp2), .val (.int (3 : Int32)), .val (.int fi), .val (.int ((fi + (3 : Int32)) - (1 : Int32))), .val (.ref b57), .val (.ref bx_65)] [(.ref bx_65)])) _
      refine XS.iconst X70.here hx rfl (hb hby at_106) ?_
      show Steps p.tables e below (T70.setTop (mkF m 107 #[.val (.int pp1), .val (.int pp2), .val (.int (3 : Int32)), .val (.int fi), .val (.int ((fi + (3 : Int32)) - (1 : Int32))), .val (.ref b57), .val (.ref bx_65)] [(.int (1 : Int32)), (.ref bx_65)])) _
      refine XS.iloadN X70.here hx rfl (hb hby at_107) rfl ?_
      show Steps p.tables e below (T70.setTop (mkF m 108 #[.val (.int pp1), .val (.int pp2), .val (.int (3 : Int32)), .val (.int fi), .val (.int ((fi + (3 : Int32)) - (1 : Int32))), .val (.ref b57), .val (.ref bx_65)] [(.int fi), (.int (1 : Int32)), (.ref bx_65)])) _
      refine st71 _ ?_
      show Steps p.tables e below (T71.setTop (mkF m 111 #[.val (.int pp1), .val (.int pp2), .val (.int (3 : Int32)), .val (.int fi), .val (.int ((fi + (3 : Int32)) - (1 : Int32))), .val (.ref b57), .val (.ref bx_65)] [(.int (1 : Int32))])) _
      refine XS.ifNo X71.here hx rfl (hb hby at_111) rfl ((if0 _ _).trans (feq hc111_3).1) ?_
      show Steps p.tables e below (T71.setTop (mkF m 114 #[.val (.int pp1), .val (.int pp2), .val (.int (3 : Int32)), .val (.int fi), .val (.int ((fi + (3 : Int32)) - (1 : Int32))), .val (.ref b57), .val (.ref bx_65)] [])) _
      refine XS.aload X71.here hx rfl (hb hby at_114) rfl rfl ?_
      show Steps p.tables e below (T71.setTop (mkF m 116 #[.val (.int pp1), .val (.int pp2), .val (.int (3 : Int32)), .val (.int fi), .val (.int ((fi + (3 : Int32)) - (1 : Int32))), .val (.ref b57), .val (.ref bx_65)] [(.ref bx_65)])) _
      refine XS.iconst X71.here hx rfl (hb hby at_116) ?_
      show Steps p.tables e below (T71.setTop (mkF m 117 #[.val (.int pp1), .val (.int pp2), .val (.int (3 : Int32)), .val (.int fi), .val (.int ((fi + (3 : Int32)) - (1 : Int32))), .val (.ref b57), .val (.ref bx_65)] [(.int (2 : Int32)), (.ref bx_65)])) _
      refine XS.iloadN X71.here hx rfl (hb hby at_117) rfl ?_
      show Steps p.tables e below (T71.setTop (mkF m 118 #[.val (.int pp1), .val (.int pp2), .val (.int (3 : Int32)), .val (.int fi), .val (.int ((fi + (3 : Int32)) - (1 : Int32))), .val (.ref b57), .val (.ref bx_65)] [(.int fi), (.int (2 : Int32)), (.ref bx_65)])) _
      refine st72 _ ?_
      show Steps p.tables e below (T72.setTop (mkF m 121 #[.val (.int pp1), .val (.int pp2), .val (.int (3 : Int32)), .val (.int fi), .val (.int ((fi + (3 : Int32)) - (1 : Int32))), .val (.ref b57), .val (.ref bx_65)] [(.int (1 : Int32))])) _
      refine XS.ifNo X72.here hx rfl (hb hby at_121) rfl ((if0 _ _).trans (feq hc121_3).1) ?_
      show Steps p.tables e below (T72.setTop (mkF m 124 #[.val (.int pp1), .val (.int pp2), .val (.int (3 : Int32)), .val (.int fi), .val (.int ((fi + (3 : Int32)) - (1 : Int32))), .val (.ref b57), .val (.ref bx_65)] [])) _
      refine XS.aload X72.here hx rfl (hb hby at_124) rfl rfl ?_
      show Steps p.tables e below (T72.setTop (mkF m 126 #[.val (.int pp1), .val (.int pp2), .val (.int (3 : Int32)), .val (.int fi), .val (.int ((fi + (3 : Int32)) - (1 : Int32))), .val (.ref b57), .val (.ref bx_65)] [(.ref bx_65)])) _
      refine XS.iconst X72.here hx rfl (hb hby at_126) ?_
      show Steps p.tables e below (T72.setTop (mkF m 127 #[.val (.int pp1), .val (.int pp2), .val (.int (3 : Int32)), .val (.int fi), .val (.int ((fi + (3 : Int32)) - (1 : Int32))), .val (.ref b57), .val (.ref bx_65)] [(.int (3 : Int32)), (.ref bx_65)])) _
      refine XS.iloadN X72.here hx rfl (hb hby at_127) rfl ?_
      show Steps p.tables e below (T72.setTop (mkF m 128 #[.val (.int pp1), .val (.int pp2), .val (.int (3 : Int32)), .val (.int fi), .val (.int ((fi + (3 : Int32)) - (1 : Int32))), .val (.ref b57), .val (.ref bx_65)] [(.int fi), (.int (3 : Int32)), (.ref bx_65)])) _
      refine st73 _ ?_
      show Steps p.tables e below (T73.setTop (mkF m 131 #[.val (.int pp1), .val (.int pp2), .val (.int (3 : Int32)), .val (.int fi), .val (.int ((fi + (3 : Int32)) - (1 : Int32))), .val (.ref b57), .val (.ref bx_65)] [(.int (1 : Int32))])) _
      refine XS.ifNo X73.here hx rfl (hb hby at_131) rfl ((if0 _ _).trans (feq hc131_3).1) ?_
      show Steps p.tables e below (T73.setTop (mkF m 134 #[.val (.int pp1), .val (.int pp2), .val (.int (3 : Int32)), .val (.int fi), .val (.int ((fi + (3 : Int32)) - (1 : Int32))), .val (.ref b57), .val (.ref bx_65)] [])) _
      refine XS.aload X73.here hx rfl (hb hby at_134) rfl rfl ?_
      show Steps p.tables e below (T73.setTop (mkF m 136 #[.val (.int pp1), .val (.int pp2), .val (.int (3 : Int32)), .val (.int fi), .val (.int ((fi + (3 : Int32)) - (1 : Int32))), .val (.ref b57), .val (.ref bx_65)] [(.ref bx_65)])) _
      refine XS.iconst X73.here hx rfl (hb hby at_136) ?_
      show Steps p.tables e below (T73.setTop (mkF m 137 #[.val (.int pp1), .val (.int pp2), .val (.int (3 : Int32)), .val (.int fi), .val (.int ((fi + (3 : Int32)) - (1 : Int32))), .val (.ref b57), .val (.ref bx_65)] [(.int (4 : Int32)), (.ref bx_65)])) _
      refine XS.iloadN X73.here hx rfl (hb hby at_137) rfl ?_
      show Steps p.tables e below (T73.setTop (mkF m 138 #[.val (.int pp1), .val (.int pp2), .val (.int (3 : Int32)), .val (.int fi), .val (.int ((fi + (3 : Int32)) - (1 : Int32))), .val (.ref b57), .val (.ref bx_65)] [(.int fi), (.int (4 : Int32)), (.ref bx_65)])) _
      refine st74 _ ?_
      show Steps p.tables e below (T74.setTop (mkF m 141 #[.val (.int pp1), .val (.int pp2), .val (.int (3 : Int32)), .val (.int fi), .val (.int ((fi + (3 : Int32)) - (1 : Int32))), .val (.ref b57), .val (.ref bx_65)] [(.int (1 : Int32))])) _
      refine XS.ifNo X74.here hx rfl (hb hby at_141) rfl ((if0 _ _).trans (feq hc141_3).1) ?_
      show Steps p.tables e below (T74.setTop (mkF m 144 #[.val (.int pp1), .val (.int pp2), .val (.int (3 : Int32)), .val (.int fi), .val (.int ((fi + (3 : Int32)) - (1 : Int32))), .val (.ref b57), .val (.ref bx_65)] [])) _
      refine XS.aload X74.here hx rfl (hb hby at_144) rfl rfl ?_
      show Steps p.tables e below (T74.setTop (mkF m 146 #[.val (.int pp1), .val (.int pp2), .val (.int (3 : Int32)), .val (.int fi), .val (.int ((fi + (3 : Int32)) - (1 : Int32))), .val (.ref b57), .val (.ref bx_65)] [(.ref bx_65)])) _
      refine XS.iconst X74.here hx rfl (hb hby at_146) ?_
      show Steps p.tables e below (T74.setTop (mkF m 147 #[.val (.int pp1), .val (.int pp2), .val (.int (3 : Int32)), .val (.int fi), .val (.int ((fi + (3 : Int32)) - (1 : Int32))), .val (.ref b57), .val (.ref bx_65)] [(.int (5 : Int32)), (.ref bx_65)])) _
      refine XS.iloadN X74.here hx rfl (hb hby at_147) rfl ?_
      show Steps p.tables e below (T74.setTop (mkF m 148 #[.val (.int pp1), .val (.int pp2), .val (.int (3 : Int32)), .val (.int fi), .val (.int ((fi + (3 : Int32)) - (1 : Int32))), .val (.ref b57), .val (.ref bx_65)] [(.int fi), (.int (5 : Int32)), (.ref bx_65)])) _
      refine st75 _ ?_
      show Steps p.tables e below (T75.setTop (mkF m 151 #[.val (.int pp1), .val (.int pp2), .val (.int (3 : Int32)), .val (.int fi), .val (.int ((fi + (3 : Int32)) - (1 : Int32))), .val (.ref b57), .val (.ref bx_65)] [(.int (1 : Int32))])) _
      refine XS.ifNo X75.here hx rfl (hb hby at_151) rfl ((if0 _ _).trans (feq hc151_3).1) ?_
      show Steps p.tables e below (T75.setTop (mkF m 154 #[.val (.int pp1), .val (.int pp2), .val (.int (3 : Int32)), .val (.int fi), .val (.int ((fi + (3 : Int32)) - (1 : Int32))), .val (.ref b57), .val (.ref bx_65)] [])) _
      refine XS.aload X75.here hx rfl (hb hby at_154) rfl rfl ?_
      show Steps p.tables e below (T75.setTop (mkF m 156 #[.val (.int pp1), .val (.int pp2), .val (.int (3 : Int32)), .val (.int fi), .val (.int ((fi + (3 : Int32)) - (1 : Int32))), .val (.ref b57), .val (.ref bx_65)] [(.ref bx_65)])) _
      refine XS.bipush X75.here hx rfl (hb hby at_156) ?_
      show Steps p.tables e below (T75.setTop (mkF m 158 #[.val (.int pp1), .val (.int pp2), .val (.int (3 : Int32)), .val (.int fi), .val (.int ((fi + (3 : Int32)) - (1 : Int32))), .val (.ref b57), .val (.ref bx_65)] [(.int (6 : Int32)), (.ref bx_65)])) _
      refine XS.iloadN X75.here hx rfl (hb hby at_158) rfl ?_
      show Steps p.tables e below (T75.setTop (mkF m 159 #[.val (.int pp1), .val (.int pp2), .val (.int (3 : Int32)), .val (.int fi), .val (.int ((fi + (3 : Int32)) - (1 : Int32))), .val (.ref b57), .val (.ref bx_65)] [(.int fi), (.int (6 : Int32)), (.ref bx_65)])) _
      refine st76 _ ?_
      show Steps p.tables e below (T76.setTop (mkF m 162 #[.val (.int pp1), .val (.int pp2), .val (.int (3 : Int32)), .val (.int fi), .val (.int ((fi + (3 : Int32)) - (1 : Int32))), .val (.ref b57), .val (.ref bx_65)] [(.int (1 : Int32))])) _
      refine XS.ifNo X76.here hx rfl (hb hby at_162) rfl ((if0 _ _).trans (feq hc162_3).1) ?_
      show Steps p.tables e below (T76.setTop (mkF m 165 #[.val (.int pp1), .val (.int pp2), .val (.int (3 : Int32)), .val (.int fi), .val (.int ((fi + (3 : Int32)) - (1 : Int32))), .val (.ref b57), .val (.ref bx_65)] [])) _
      refine XS.aload X76.here hx rfl (hb hby at_165) rfl rfl ?_
      show Steps p.tables e below (T76.setTop (mkF m 167 #[.val (.int pp1), .val (.int pp2), .val (.int (3 : Int32)), .val (.int fi), .val (.int ((fi + (3 : Int32)) - (1 : Int32))), .val (.ref b57), .val (.ref bx_65)] [(.ref bx_65)])) _
      refine XS.bipush X76.here hx rfl (hb hby at_167) ?_
      show Steps p.tables e below (T76.setTop (mkF m 169 #[.val (.int pp1), .val (.int pp2), .val (.int (3 : Int32)), .val (.int fi), .val (.int ((fi + (3 : Int32)) - (1 : Int32))), .val (.ref b57), .val (.ref bx_65)] [(.int (7 : Int32)), (.ref bx_65)])) _
      refine XS.iloadN X76.here hx rfl (hb hby at_169) rfl ?_
      show Steps p.tables e below (T76.setTop (mkF m 170 #[.val (.int pp1), .val (.int pp2), .val (.int (3 : Int32)), .val (.int fi), .val (.int ((fi + (3 : Int32)) - (1 : Int32))), .val (.ref b57), .val (.ref bx_65)] [(.int fi), (.int (7 : Int32)), (.ref bx_65)])) _
      refine st77 _ ?_
      show Steps p.tables e below (T77.setTop (mkF m 173 #[.val (.int pp1), .val (.int pp2), .val (.int (3 : Int32)), .val (.int fi), .val (.int ((fi + (3 : Int32)) - (1 : Int32))), .val (.ref b57), .val (.ref bx_65)] [(.int (1 : Int32))])) _
      refine XS.ifNo X77.here hx rfl (hb hby at_173) rfl ((if0 _ _).trans (feq hc173_3).1) ?_
      show Steps p.tables e below (T77.setTop (mkF m 176 #[.val (.int pp1), .val (.int pp2), .val (.int (3 : Int32)), .val (.int fi), .val (.int ((fi + (3 : Int32)) - (1 : Int32))), .val (.ref b57), .val (.ref bx_65)] [])) _
      refine XS.iconst X77.here hx rfl (hb hby at_176) ?_
      show Steps p.tables e below (T77.setTop (mkF m 177 #[.val (.int pp1), .val (.int pp2), .val (.int (3 : Int32)), .val (.int fi), .val (.int ((fi + (3 : Int32)) - (1 : Int32))), .val (.ref b57), .val (.ref bx_65)] [(.int (1 : Int32))])) _
      refine XS.goto X77.here hx rfl (pc0 := 177) (pc' := 181) rfl (hb hby at_177) (by decide) (by decide) ?_
      show Steps p.tables e below (T77.setTop (mkF m 181 #[.val (.int pp1), .val (.int pp2), .val (.int (3 : Int32)), .val (.int fi), .val (.int ((fi + (3 : Int32)) - (1 : Int32))), .val (.ref b57), .val (.ref bx_65)] [(.int (1 : Int32))])) _
      exact retN X77 hx (t := .boolean) Bd.returns (by simp) (hb hby at_181) hr
    · show Q0 Z pp1 pp2 h0 n0 _ T77.heap _
      rw [e77]
      exact ⟨rfl, N77⟩
  · skip
    obtain ⟨_, _, ⟨T78, L78, k78, n78⟩, -, X78, ⟨Lc78, hQ78, l78, y78, z78⟩, st78⟩ := Jvm.LawKit.callS X0 hx (y := (⟨"java/lang/Math", "max", "(II)I"⟩ : MethodName)) hown (mvT hZ (hw _ (List.mem_of_getElem? (i := 1) rfl))) (mvT hZ (hw _ (List.mem_of_getElem? (i := 2) rfl))) (mvT hZ (hw _ (List.mem_of_getElem? (i := 3) rfl))) (mvT hZ (hw _ (List.mem_of_getElem? (i := 4) rfl))) (by decide) (backOf (W := 0) (rm1 l Z a0 hw [] (1 : Int32) (pp1 &&& (2147483647 : Int32)) h0 n0 Z0 ) hZ (hw _ (List.mem_of_getElem? (i := 4) rfl)) (hw _ (List.mem_of_getElem? (i := 3) rfl)) (by decide) (by decide)) (g := (mkF m 12 #[.val (.int pp1), .val (.int pp2), .val (.int (4 : Int32)), .unset, .unset, .unset, .unset] [(.int (pp1 &&& (2147483647 : Int32))), (.int (1 : Int32))])) rfl (by rw [hml]; rfl) (argsL := [(.int (1 : Int32)), (.int (pp1 &&& (2147483647 : Int32)))]) (rest := []) (lenOf pd__28_II_29_I rfl) rfl (by show 2 * 0 + _ ≤ _; exact Nat.le_of_eq rfl) (hb hby at_12) (fun _ _ => ⟨rfl, e0, (by decide : 0 + 0 ≤ _), (by decide : 0 + 0 ≤ _)⟩)
    dsimp only [Pt.U, Pt.locs, Pt.cells, Pt.slots] at X78 l78 y78 z78 st78 hQ78
    subst l78 y78 z78
    obtain ⟨rfl, N78q, e78⟩ := hQ78
    have N78 := Fr.app N0 N78q
    obtain ⟨_, _, ⟨T79, L79, k79, n79⟩, -, X79, ⟨Lc79, hQ79, l79, y79, z79⟩, st79⟩ := Jvm.LawKit.callS X78 hx (y := (⟨"java/lang/Math", "min", "(II)I"⟩ : MethodName)) hown (mvT hZ (hw _ (List.mem_of_getElem? (i := 5) rfl))) (mvT hZ (hw _ (List.mem_of_getElem? (i := 6) rfl))) (mvT hZ (hw _ (List.mem_of_getElem? (i := 3) rfl))) (mvT hZ (hw _ (List.mem_of_getElem? (i := 7) rfl))) (by decide) (backOf (W := 0) (rm2 l Z a0 hw [] (if (1 : Int32) < (pp1 &&& (2147483647 : Int32)) then (pp1 &&& (2147483647 : Int32)) else (1 : Int32)) (2147483644 : Int32) h0 n0 Z0 ) hZ (hw _ (List.mem_of_getElem? (i := 7) rfl)) (hw _ (List.mem_of_getElem? (i := 3) rfl)) (by decide) (by decide)) (g := (mkF m 23 #[.val (.int pp1), .val (.int pp2), .val (.int (4 : Int32)), .val (.int (if (1 : Int32) < (pp1 &&& (2147483647 : Int32)) then (pp1 &&& (2147483647 : Int32)) else (1 : Int32))), .unset, .unset, .unset] [(.int (2147483644 : Int32)), (.int (if (1 : Int32) < (pp1 &&& (2147483647 : Int32)) then (pp1 &&& (2147483647 : Int32)) else (1 : Int32)))])) rfl (by rw [hml]; rfl) (argsL := [(.int (if (1 : Int32) < (pp1 &&& (2147483647 : Int32)) then (pp1 &&& (2147483647 : Int32)) else (1 : Int32))), (.int (2147483644 : Int32))]) (rest := []) (lenOf pd__28_II_29_I rfl) rfl (by show 2 * 0 + _ ≤ _; exact Nat.le_of_eq rfl) (hb hby at_23) (fun _ _ => ⟨rfl, e78, (by decide : 0 + 0 ≤ _), (by decide : 0 + 0 ≤ _)⟩)
    dsimp only [Pt.U, Pt.locs, Pt.cells, Pt.slots] at X79 l79 y79 z79 st79 hQ79
    subst l79 y79 z79
    obtain ⟨rfl, N79q, e79⟩ := hQ79
    have N79 := Fr.app N78 N79q
    have pre80 : ∀ t, Steps p.tables e below (T79.setTop (mkF m 27 #[.val (.int pp1), .val (.int pp2), .val (.int (4 : Int32)), .val (.int (if (2147483644 : Int32) < (if (1 : Int32) < (pp1 &&& (2147483647 : Int32)) then (pp1 &&& (2147483647 : Int32)) else (1 : Int32)) then (2147483644 : Int32) else (if (1 : Int32) < (pp1 &&& (2147483647 : Int32)) then (pp1 &&& (2147483647 : Int32)) else (1 : Int32)))), .unset, .unset, .unset] [])) t → Steps p.tables e below (s₁.setTop (entryFrame m #[(.int pp1), (.int pp2)] maxLocals)) t := fun t kt => pre2 t (by
      show Steps p.tables e below (s₁.setTop (mkF m 7 #[.val (.int pp1), .val (.int pp2), .val (.int (4 : Int32)), .unset, .unset, .unset, .unset] [])) _
      refine XS.iconst X0.here hx rfl (hb hby at_7) ?_
      show Steps p.tables e below (s₁.setTop (mkF m 8 #[.val (.int pp1), .val (.int pp2), .val (.int (4 : Int32)), .unset, .unset, .unset, .unset] [(.int (1 : Int32))])) _
      refine XS.iloadN X0.here hx rfl (hb hby at_8) rfl ?_
      show Steps p.tables e below (s₁.setTop (mkF m 9 #[.val (.int pp1), .val (.int pp2), .val (.int (4 : Int32)), .unset, .unset, .unset, .unset] [(.int pp1), (.int (1 : Int32))])) _
      refine X0.ldcInt hx hown (mvT hZ (hw _ (List.mem_of_getElem? (i := 0) rfl))) (g := (mkF m 9 #[.val (.int pp1), .val (.int pp2), .val (.int (4 : Int32)), .unset, .unset, .unset, .unset] [(.int pp1), (.int (1 : Int32))])) rfl (hb hby at_9) _ ?_
      show Steps p.tables e below (s₁.setTop (mkF m 11 #[.val (.int pp1), .val (.int pp2), .val (.int (4 : Int32)), .unset, .unset, .unset, .unset] [(.int (2147483647 : Int32)), (.int pp1), (.int (1 : Int32))])) _
      refine XS.iand X0.here hx rfl (hb hby at_11) rfl ?_
      show Steps p.tables e below (s₁.setTop (mkF m 12 #[.val (.int pp1), .val (.int pp2), .val (.int (4 : Int32)), .unset, .unset, .unset, .unset] [(.int (pp1 &&& (2147483647 : Int32))), (.int (1 : Int32))])) _
      refine st78 _ ?_
      show Steps p.tables e below (T78.setTop (mkF m 15 #[.val (.int pp1), .val (.int pp2), .val (.int (4 : Int32)), .unset, .unset, .unset, .unset] [(.int (if (1 : Int32) < (pp1 &&& (2147483647 : Int32)) then (pp1 &&& (2147483647 : Int32)) else (1 : Int32)))])) _
      refine XS.istoreN X78.here hx rfl (hb hby at_15) rfl (l' := #[.val (.int pp1), .val (.int pp2), .val (.int (4 : Int32)), .val (.int (if (1 : Int32) < (pp1 &&& (2147483647 : Int32)) then (pp1 &&& (2147483647 : Int32)) else (1 : Int32))), .unset, .unset, .unset]) rfl ?_
      show Steps p.tables e below (T78.setTop (mkF m 16 #[.val (.int pp1), .val (.int pp2), .val (.int (4 : Int32)), .val (.int (if (1 : Int32) < (pp1 &&& (2147483647 : Int32)) then (pp1 &&& (2147483647 : Int32)) else (1 : Int32))), .unset, .unset, .unset] [])) _
      refine XS.iloadN X78.here hx rfl (hb hby at_16) rfl ?_
      show Steps p.tables e below (T78.setTop (mkF m 17 #[.val (.int pp1), .val (.int pp2), .val (.int (4 : Int32)), .val (.int (if (1 : Int32) < (pp1 &&& (2147483647 : Int32)) then (pp1 &&& (2147483647 : Int32)) else (1 : Int32))), .unset, .unset, .unset] [(.int (if (1 : Int32) < (pp1 &&& (2147483647 : Int32)) then (pp1 &&& (2147483647 : Int32)) else (1 : Int32)))])) _
      refine X78.ldcInt hx hown (mvT hZ (hw _ (List.mem_of_getElem? (i := 0) rfl))) (g := (mkF m 17 #[.val (.int pp1), .val (.int pp2), .val (.int (4 : Int32)), .val (.int (if (1 : Int32) < (pp1 &&& (2147483647 : Int32)) then (pp1 &&& (2147483647 : Int32)) else (1 : Int32))), .unset, .unset, .unset] [(.int (if (1 : Int32) < (pp1 &&& (2147483647 : Int32)) then (pp1 &&& (2147483647 : Int32)) else (1 : Int32)))])) rfl (hb hby at_17) _ ?_
      show Steps p.tables e below (T78.setTop (mkF m 19 #[.val (.int pp1), .val (.int pp2), .val (.int (4 : Int32)), .val (.int (if (1 : Int32) < (pp1 &&& (2147483647 : Int32)) then (pp1 &&& (2147483647 : Int32)) else (1 : Int32))), .unset, .unset, .unset] [(.int (2147483647 : Int32)), (.int (if (1 : Int32) < (pp1 &&& (2147483647 : Int32)) then (pp1 &&& (2147483647 : Int32)) else (1 : Int32)))])) _
      refine XS.iloadN X78.here hx rfl (hb hby at_19) rfl ?_
      show Steps p.tables e below (T78.setTop (mkF m 20 #[.val (.int pp1), .val (.int pp2), .val (.int (4 : Int32)), .val (.int (if (1 : Int32) < (pp1 &&& (2147483647 : Int32)) then (pp1 &&& (2147483647 : Int32)) else (1 : Int32))), .unset, .unset, .unset] [(.int (4 : Int32)), (.int (2147483647 : Int32)), (.int (if (1 : Int32) < (pp1 &&& (2147483647 : Int32)) then (pp1 &&& (2147483647 : Int32)) else (1 : Int32)))])) _
      refine XS.isub X78.here hx rfl (hb hby at_20) rfl ?_
      show Steps p.tables e below (T78.setTop (mkF m 21 #[.val (.int pp1), .val (.int pp2), .val (.int (4 : Int32)), .val (.int (if (1 : Int32) < (pp1 &&& (2147483647 : Int32)) then (pp1 &&& (2147483647 : Int32)) else (1 : Int32))), .unset, .unset, .unset] [(.int (2147483643 : Int32)), (.int (if (1 : Int32) < (pp1 &&& (2147483647 : Int32)) then (pp1 &&& (2147483647 : Int32)) else (1 : Int32)))])) _
      refine XS.iconst X78.here hx rfl (hb hby at_21) ?_
      show Steps p.tables e below (T78.setTop (mkF m 22 #[.val (.int pp1), .val (.int pp2), .val (.int (4 : Int32)), .val (.int (if (1 : Int32) < (pp1 &&& (2147483647 : Int32)) then (pp1 &&& (2147483647 : Int32)) else (1 : Int32))), .unset, .unset, .unset] [(.int (1 : Int32)), (.int (2147483643 : Int32)), (.int (if (1 : Int32) < (pp1 &&& (2147483647 : Int32)) then (pp1 &&& (2147483647 : Int32)) else (1 : Int32)))])) _
      refine XS.iadd X78.here hx rfl (hb hby at_22) rfl ?_
      show Steps p.tables e below (T78.setTop (mkF m 23 #[.val (.int pp1), .val (.int pp2), .val (.int (4 : Int32)), .val (.int (if (1 : Int32) < (pp1 &&& (2147483647 : Int32)) then (pp1 &&& (2147483647 : Int32)) else (1 : Int32))), .unset, .unset, .unset] [(.int (2147483644 : Int32)), (.int (if (1 : Int32) < (pp1 &&& (2147483647 : Int32)) then (pp1 &&& (2147483647 : Int32)) else (1 : Int32)))])) _
      refine st79 _ ?_
      show Steps p.tables e below (T79.setTop (mkF m 26 #[.val (.int pp1), .val (.int pp2), .val (.int (4 : Int32)), .val (.int (if (1 : Int32) < (pp1 &&& (2147483647 : Int32)) then (pp1 &&& (2147483647 : Int32)) else (1 : Int32))), .unset, .unset, .unset] [(.int (if (2147483644 : Int32) < (if (1 : Int32) < (pp1 &&& (2147483647 : Int32)) then (pp1 &&& (2147483647 : Int32)) else (1 : Int32)) then (2147483644 : Int32) else (if (1 : Int32) < (pp1 &&& (2147483647 : Int32)) then (pp1 &&& (2147483647 : Int32)) else (1 : Int32))))])) _
      refine XS.istoreN X79.here hx rfl (hb hby at_26) rfl (l' := #[.val (.int pp1), .val (.int pp2), .val (.int (4 : Int32)), .val (.int (if (2147483644 : Int32) < (if (1 : Int32) < (pp1 &&& (2147483647 : Int32)) then (pp1 &&& (2147483647 : Int32)) else (1 : Int32)) then (2147483644 : Int32) else (if (1 : Int32) < (pp1 &&& (2147483647 : Int32)) then (pp1 &&& (2147483647 : Int32)) else (1 : Int32)))), .unset, .unset, .unset]) rfl ?_
      exact kt)
    obtain ⟨fi, pre81⟩ : ∃ (fi : Int32), ∀ t, Steps p.tables e below (T79.setTop (mkF m 27 #[.val (.int pp1), .val (.int pp2), .val (.int (4 : Int32)), .val (.int fi), .unset, .unset, .unset] [])) t → Steps p.tables e below (s₁.setTop (entryFrame m #[(.int pp1), (.int pp2)] maxLocals)) t := ⟨(if (2147483644 : Int32) < (if (1 : Int32) < (pp1 &&& (2147483647 : Int32)) then (pp1 &&& (2147483647 : Int32)) else (1 : Int32)) then (2147483644 : Int32) else (if (1 : Int32) < (pp1 &&& (2147483647 : Int32)) then (pp1 &&& (2147483647 : Int32)) else (1 : Int32))), pre80⟩
    obtain ⟨T82, h82, X82, e82, E82, A82, D82, -, st82⟩ := newO X79 hx hZ hown (hw _ (List.mem_of_getElem? (i := 8) rfl)) (hw _ (List.mem_of_getElem? (i := 9) rfl)) (hw _ (List.mem_of_getElem? (i := 10) rfl)) e79 (g := (mkF m 34 #[.val (.int pp1), .val (.int pp2), .val (.int (4 : Int32)), .val (.int fi), .val (.int ((fi + (4 : Int32)) - (1 : Int32))), .unset, .unset] [])) rfl (hb hby at_34) (by decide) (by decide)
    obtain ⟨b82, g82⟩ : ∃ z, z = h0.size := ⟨_, rfl⟩
    rw [← g82] at A82 D82 st82
    have g_b82 : n0 ≤ b82 := Nat.le_trans Z0 (Nat.le_of_eq g82.symm)
    have Z82 : n0 ≤ h82.size := Nat.le_trans Z0 E82.1
    have kz82 := Nat.le_trans (Nat.le_refl _) E82.1
    have F82_name : Fld Z h82 b82 "com/example/escapement/escapement/cli/PartitionTable$Partition" "name" "Ljava/lang/String;" .null := D82 (Or.inr (hw _ (List.mem_of_getElem? (i := 31) rfl))) (ty := (.object "java/lang/String")) (by decide)
    have F82_first : Fld Z h82 b82 "com/example/escapement/escapement/cli/PartitionTable$Partition" "first" "I" (.int (0 : Int32)) := D82 (Or.inr (hw _ (List.mem_of_getElem? (i := 33) rfl))) (ty := .int) (by decide)
    have F82_last : Fld Z h82 b82 "com/example/escapement/escapement/cli/PartitionTable$Partition" "last" "I" (.int (0 : Int32)) := D82 (Or.inr (hw _ (List.mem_of_getElem? (i := 35) rfl))) (ty := .int) (by decide)
    have pre83 : ∀ t, Steps p.tables e below (T82.setTop (mkF m 38 #[.val (.int pp1), .val (.int pp2), .val (.int (4 : Int32)), .val (.int fi), .val (.int ((fi + (4 : Int32)) - (1 : Int32))), .unset, .unset] [(.ref b82), (.ref b82)])) t → Steps p.tables e below (s₁.setTop (entryFrame m #[(.int pp1), (.int pp2)] maxLocals)) t := fun t kt => pre81 t (by
      show Steps p.tables e below (T79.setTop (mkF m 27 #[.val (.int pp1), .val (.int pp2), .val (.int (4 : Int32)), .val (.int fi), .unset, .unset, .unset] [])) _
      refine XS.iloadN X79.here hx rfl (hb hby at_27) rfl ?_
      show Steps p.tables e below (T79.setTop (mkF m 28 #[.val (.int pp1), .val (.int pp2), .val (.int (4 : Int32)), .val (.int fi), .unset, .unset, .unset] [(.int fi)])) _
      refine XS.iloadN X79.here hx rfl (hb hby at_28) rfl ?_
      show Steps p.tables e below (T79.setTop (mkF m 29 #[.val (.int pp1), .val (.int pp2), .val (.int (4 : Int32)), .val (.int fi), .unset, .unset, .unset] [(.int (4 : Int32)), (.int fi)])) _
      refine XS.iadd X79.here hx rfl (hb hby at_29) rfl ?_
      show Steps p.tables e below (T79.setTop (mkF m 30 #[.val (.int pp1), .val (.int pp2), .val (.int (4 : Int32)), .val (.int fi), .unset, .unset, .unset] [(.int (fi + (4 : Int32)))])) _
      refine XS.iconst X79.here hx rfl (hb hby at_30) ?_
      show Steps p.tables e below (T79.setTop (mkF m 31 #[.val (.int pp1), .val (.int pp2), .val (.int (4 : Int32)), .val (.int fi), .unset, .unset, .unset] [(.int (1 : Int32)), (.int (fi + (4 : Int32)))])) _
      refine XS.isub X79.here hx rfl (hb hby at_31) rfl ?_
      show Steps p.tables e below (T79.setTop (mkF m 32 #[.val (.int pp1), .val (.int pp2), .val (.int (4 : Int32)), .val (.int fi), .unset, .unset, .unset] [(.int ((fi + (4 : Int32)) - (1 : Int32)))])) _
      refine XS.istore X79.here hx rfl (hb hby at_32) rfl (l' := #[.val (.int pp1), .val (.int pp2), .val (.int (4 : Int32)), .val (.int fi), .val (.int ((fi + (4 : Int32)) - (1 : Int32))), .unset, .unset]) rfl ?_
      show Steps p.tables e below (T79.setTop (mkF m 34 #[.val (.int pp1), .val (.int pp2), .val (.int (4 : Int32)), .val (.int fi), .val (.int ((fi + (4 : Int32)) - (1 : Int32))), .unset, .unset] [])) _
      refine st82 _ ?_
      show Steps p.tables e below (T82.setTop (mkF m 37 #[.val (.int pp1), .val (.int pp2), .val (.int (4 : Int32)), .val (.int fi), .val (.int ((fi + (4 : Int32)) - (1 : Int32))), .unset, .unset] [(.ref b82)])) _
      refine XS.dup X82.here hx rfl (hb hby at_37) rfl rfl ?_
      exact kt)
    obtain ⟨a84, T84, h84, kk84, X84, e84, E84, hS84, kz84, hZ, hown, st84⟩ := ldcS (s := s) (vm0 := s.vm) X82 hx hZ hown (hw _ (List.mem_of_getElem? (i := 11) rfl)) (fun d hd => hw d (own_str_in d hd)) e82 hS0 kz82 (g := (mkF m 38 #[.val (.int pp1), .val (.int pp2), .val (.int (4 : Int32)), .val (.int fi), .val (.int ((fi + (4 : Int32)) - (1 : Int32))), .unset, .unset] [(.ref b82), (.ref b82)])) rfl (hb hby at_38) (n := 4) (by decide) (by decide) (by decide) (by decide)
    have Z84 : n0 ≤ h84.size := Nat.le_trans Z82 E84.1
    have E_85 : Exa Z h84 b82 "com/example/escapement/escapement/cli/PartitionTable$Partition" := (A82.ext E84)
    have F_86 : Fld Z h84 b82 "com/example/escapement/escapement/cli/PartitionTable$Partition" "name" "Ljava/lang/String;" .null := (F82_name.ext E84)
    have F_87 : Fld Z h84 b82 "com/example/escapement/escapement/cli/PartitionTable$Partition" "first" "I" (.int (0 : Int32)) := (F82_first.ext E84)
    have F_88 : Fld Z h84 b82 "com/example/escapement/escapement/cli/PartitionTable$Partition" "last" "I" (.int (0 : Int32)) := (F82_last.ext E84)
    obtain ⟨_, _, ⟨T89, L89, k89, n89⟩, -, X89, ⟨Lc89, hQ89, l89, y89, z89⟩, st89⟩ := X84.specialBack hx (y := (⟨"com/example/escapement/escapement/cli/PartitionTable$Partition", "<init>", "(Ljava/lang/String;II)V"⟩ : MethodName)) rfl hown (mvT hZ (hw _ (List.mem_of_getElem? (i := 19) rfl))) (mvT hZ (hw _ (List.mem_of_getElem? (i := 20) rfl))) (mvT hZ (hw _ (List.mem_of_getElem? (i := 21) rfl))) (by decide) (backOf (W := 1) (rm3 l Z a0 hw [] b82 a84 fi ((fi + (4 : Int32)) - (1 : Int32)) .null (.int (0 : Int32)) (.int (0 : Int32)) h84 n0 Z84 E_85 g_b82 F_86 F_87 F_88) hZ (hw _ (List.mem_of_getElem? (i := 21) rfl)) (hw _ (List.mem_of_getElem? (i := 10) rfl)) (by decide) (by decide)) (g := (mkF m 43 #[.val (.int pp1), .val (.int pp2), .val (.int (4 : Int32)), .val (.int fi), .val (.int ((fi + (4 : Int32)) - (1 : Int32))), .unset, .unset] [(.int ((fi + (4 : Int32)) - (1 : Int32))), (.int fi), (.ref a84), (.ref b82), (.ref b82)])) rfl (by rw [hml]; rfl) (Steps.refl _) (a := b82) (argsL := [(.ref a84), (.int fi), (.int ((fi + (4 : Int32)) - (1 : Int32)))]) (rest := [(.ref b82)]) (lenOf pd__28_Ljava_2f_lang_2f_String_3b_II_29_V rfl) rfl (by show 2 * 0 + _ ≤ _; exact Nat.le_of_eq rfl) (hb hby at_43) (fun _ _ => ⟨rfl, e84, (by decide : 3 + 0 ≤ _), (by decide : 11 + 0 ≤ _)⟩)
    dsimp only [Pt.U, Pt.locs, Pt.cells, Pt.slots] at X89 l89 y89 z89 st89 hQ89
    subst l89 y89 z89
    obtain ⟨rfl, N89q, K89c, R89_0, R89_1, R89_2⟩ := hQ89
    have N89 := Fr.app N79 N89q
    have Z89 : n0 ≤ T89.heap.size := Nat.le_trans Z84 K89c.1
    have kz89 := Nat.le_trans kz84 K89c.1
    have E_91 : Exa Z T89.heap b82 "com/example/escapement/escapement/cli/PartitionTable$Partition" := (E_85.keep K89c)
    obtain ⟨cq90, kq90, q90a, q90b, q90c⟩ := isOf hZ rfl E_91
    obtain ⟨_, _, ⟨T90, L90, k90, n90⟩, -, X90, ⟨Lc90, hQ90, l90, y90, z90⟩, st90⟩ := X89.virtualBack hx (y := (⟨"com/example/escapement/escapement/cli/PartitionTable$Partition", "sites", "()[I"⟩ : MethodName)) (z := (⟨"com/example/escapement/escapement/cli/PartitionTable$Partition", "sites", "()[I"⟩ : MethodName)) hown (mvT hZ (hw _ (List.mem_of_getElem? (i := 36) rfl))) (mvT hZ (hw _ (List.mem_of_getElem? (i := 37) rfl))) (notFace_of_selects (args := #[]) (mvT hZ (hw _ (List.mem_of_getElem? (i := 39) rfl)))) (mvT hZ (hw _ (List.mem_of_getElem? (i := 39) rfl))) (mvT hZ (hw _ (List.mem_of_getElem? (i := 38) rfl))) (by decide) (backOf (W := 0) (rm6_4 l Z a0 hw [] b82 fi ((fi + (4 : Int32)) - (1 : Int32)) T89.heap n0 Z89 R89_1 R89_2 (show ((((fi + (4 : Int32)) - (1 : Int32)) - fi) + (1 : Int32)) = (4 : Int32) from own_len fi (4 : Int32))) hZ (hw _ (List.mem_of_getElem? (i := 40) rfl)) (hw _ (List.mem_of_getElem? (i := 10) rfl)) (by decide) (by decide)) q90a q90c (g := (mkF m 50 #[.val (.int pp1), .val (.int pp2), .val (.int (4 : Int32)), .val (.int fi), .val (.int ((fi + (4 : Int32)) - (1 : Int32))), .val (.ref b82), .unset] [(.ref b82)])) rfl (by rw [hml]; rfl) (Steps.refl _) (argsL := []) (rest := []) (lenOf pd__28__29__5b_I rfl) rfl (by show 2 * 0 + _ ≤ _; exact Nat.le_of_eq rfl) (hb hby at_50) (fun _ _ => ⟨rfl, rfl, (by decide : 3 + 1 ≤ _), (by decide : 11 + 4 ≤ _)⟩)
    dsimp only [Pt.U, Pt.locs, Pt.cells, Pt.slots] at X90 l90 y90 z90 st90 hQ90
    subst l90 y90 z90
    obtain ⟨bx_90, kx_90, rfl, N90q, K90c, g_bx_90, sb_bx_90, R90_0⟩ := hQ90
    have N90 := Fr.app N89 N90q
    have Z90 : n0 ≤ T90.heap.size := Nat.le_trans Z89 K90c.1
    have kz90 := Nat.le_trans kz89 K90c.1
    obtain ⟨cl_92, Ar_92, -, Sz_92, Nn_92, -, -⟩ := id R90_0
    have hc64_4 : (4 : Int32) = (4 : Int32) := by decide
    obtain ⟨cl_93, Ar_93, qq_93, Sz_93, Nn_93, Hh_93, Gg_93⟩ := id R90_0
    have hin_93 : ¬ ((0 : Int32) < 0 ∨ cl_93.slots.size ≤ ((0 : Int32)).toNatClampNeg) := inb_of Sz_93 ⟨by decide, by decide⟩
    have hat_93 : cl_93.slots[((0 : Int32)).toNatClampNeg]? = some (.int ((fi - (1 : Int32)) + (0 : Int32))) := Has.at Hh_93 hin_93 rfl
    have hc76_4 : ((fi - (1 : Int32)) + (0 : Int32)) = (fi - (1 : Int32)) := Int32.add_zero _
    obtain ⟨cl_94, Ar_94, qq_94, Sz_94, Nn_94, Hh_94, Gg_94⟩ := id R90_0
    have hin_94 : ¬ ((3 : Int32) < 0 ∨ cl_94.slots.size ≤ ((3 : Int32)).toNatClampNeg) := inb_of Sz_94 ⟨by decide, by decide⟩
    have hat_94 : cl_94.slots[((3 : Int32)).toNatClampNeg]? = some (.int ((fi - (1 : Int32)) + (3 : Int32))) := Has.at Hh_94 hin_94 rfl
    have hc89_4 : ((fi - (1 : Int32)) + (3 : Int32)) = (((fi + (4 : Int32)) - (1 : Int32)) - (1 : Int32)) := own_last fi (4 : Int32)
    obtain ⟨_, _, ⟨T95, L95, k95, n95⟩, -, X95, ⟨Lc95, hQ95, l95, y95, z95⟩, st95⟩ := Jvm.LawKit.callS X90 hx (y := (⟨"com/example/escapement/escapement/cli/PartitionSitesPinLaw", "at", "([III)Z"⟩ : MethodName)) hown (mvT hZ (hw _ (List.mem_of_getElem? (i := 42) rfl))) (mvT hZ (hw _ (List.mem_of_getElem? (i := 43) rfl))) (mvT hZ (hw _ (List.mem_of_getElem? (i := 44) rfl))) (mvT hZ (hw _ (List.mem_of_getElem? (i := 45) rfl))) (by decide) (backOf (W := 0) (rm7 l Z a0 hw [] bx_90 (0 : Int32) fi kx_90 (4 : Int32) [(.int ((fi - (1 : Int32)) + (0 : Int32))), (.int ((fi - (1 : Int32)) + (1 : Int32))), (.int ((fi - (1 : Int32)) + (2 : Int32))), (.int ((fi - (1 : Int32)) + (3 : Int32)))] T90.heap n0 Z90 R90_0 (show ¬ (0 : Int32) < (0 : Int32) from (by decide)) (show (0 : Int32) < (4 : Int32) → ([(.int ((fi - (1 : Int32)) + (0 : Int32))), (.int ((fi - (1 : Int32)) + (1 : Int32))), (.int ((fi - (1 : Int32)) + (2 : Int32))), (.int ((fi - (1 : Int32)) + (3 : Int32)))] : List Value).getD ((0 : Int32)).toNatClampNeg (.int (0 : Int32)) = .int ((fi - (1 : Int32)) + (0 : Int32)) from (fun _ => rfl))) hZ (hw _ (List.mem_of_getElem? (i := 45) rfl)) (hw _ (List.mem_of_getElem? (i := 44) rfl)) (by decide) (by decide)) (g := (mkF m 98 #[.val (.int pp1), .val (.int pp2), .val (.int (4 : Int32)), .val (.int fi), .val (.int ((fi + (4 : Int32)) - (1 : Int32))), .val (.ref b82), .val (.ref bx_90)] [(.int fi), (.int (0 : Int32)), (.ref bx_90)])) rfl (by rw [hml]; rfl) (argsL := [(.ref bx_90), (.int (0 : Int32)), (.int fi)]) (rest := []) (lenOf pd__28__5b_III_29_Z rfl) rfl (by show 2 * 0 + _ ≤ _; exact Nat.le_of_eq rfl) (hb hby at_98) (fun _ _ => ⟨rfl, rfl, (by decide : 4 + 0 ≤ _), (by decide : 15 + 0 ≤ _)⟩)
    dsimp only [Pt.U, Pt.locs, Pt.cells, Pt.slots] at X95 l95 y95 z95 st95 hQ95
    subst l95 y95 z95
    obtain ⟨rfl, N95q, e95⟩ := hQ95
    have N95 := Fr.app N90 N95q
    have hc101_4 : ¬ ((1 : Int32) = (0 : Int32)) := by decide
    obtain ⟨_, _, ⟨T96, L96, k96, n96⟩, -, X96, ⟨Lc96, hQ96, l96, y96, z96⟩, st96⟩ := Jvm.LawKit.callS X95 hx (y := (⟨"com/example/escapement/escapement/cli/PartitionSitesPinLaw", "at", "([III)Z"⟩ : MethodName)) hown (mvT hZ (hw _ (List.mem_of_getElem? (i := 42) rfl))) (mvT hZ (hw _ (List.mem_of_getElem? (i := 43) rfl))) (mvT hZ (hw _ (List.mem_of_getElem? (i := 44) rfl))) (mvT hZ (hw _ (List.mem_of_getElem? (i := 45) rfl))) (by decide) (backOf (W := 0) (rm7 l Z a0 hw [] bx_90 (1 : Int32) fi kx_90 (4 : Int32) [(.int ((fi - (1 : Int32)) + (0 : Int32))), (.int ((fi - (1 : Int32)) + (1 : Int32))), (.int ((fi - (1 : Int32)) + (2 : Int32))), (.int ((fi - (1 : Int32)) + (3 : Int32)))] T90.heap n0 Z90 R90_0 (show ¬ (1 : Int32) < (0 : Int32) from (by decide)) (show (1 : Int32) < (4 : Int32) → ([(.int ((fi - (1 : Int32)) + (0 : Int32))), (.int ((fi - (1 : Int32)) + (1 : Int32))), (.int ((fi - (1 : Int32)) + (2 : Int32))), (.int ((fi - (1 : Int32)) + (3 : Int32)))] : List Value).getD ((1 : Int32)).toNatClampNeg (.int (0 : Int32)) = .int ((fi - (1 : Int32)) + (1 : Int32)) from (fun _ => rfl))) hZ (hw _ (List.mem_of_getElem? (i := 45) rfl)) (hw _ (List.mem_of_getElem? (i := 44) rfl)) (by decide) (by decide)) (g := (mkF m 108 #[.val (.int pp1), .val (.int pp2), .val (.int (4 : Int32)), .val (.int fi), .val (.int ((fi + (4 : Int32)) - (1 : Int32))), .val (.ref b82), .val (.ref bx_90)] [(.int fi), (.int (1 : Int32)), (.ref bx_90)])) rfl (by rw [hml]; rfl) (argsL := [(.ref bx_90), (.int (1 : Int32)), (.int fi)]) (rest := []) (lenOf pd__28__5b_III_29_Z rfl) rfl (by show 2 * 0 + _ ≤ _; exact Nat.le_of_eq rfl) (hb hby at_108) (fun _ _ => ⟨rfl, e95, (by decide : 4 + 0 ≤ _), (by decide : 15 + 0 ≤ _)⟩)
    dsimp only [Pt.U, Pt.locs, Pt.cells, Pt.slots] at X96 l96 y96 z96 st96 hQ96
    subst l96 y96 z96
    obtain ⟨rfl, N96q, e96⟩ := hQ96
    have N96 := Fr.app N95 N96q
    have hc111_4 : ¬ ((1 : Int32) = (0 : Int32)) := by decide
    obtain ⟨_, _, ⟨T97, L97, k97, n97⟩, -, X97, ⟨Lc97, hQ97, l97, y97, z97⟩, st97⟩ := Jvm.LawKit.callS X96 hx (y := (⟨"com/example/escapement/escapement/cli/PartitionSitesPinLaw", "at", "([III)Z"⟩ : MethodName)) hown (mvT hZ (hw _ (List.mem_of_getElem? (i := 42) rfl))) (mvT hZ (hw _ (List.mem_of_getElem? (i := 43) rfl))) (mvT hZ (hw _ (List.mem_of_getElem? (i := 44) rfl))) (mvT hZ (hw _ (List.mem_of_getElem? (i := 45) rfl))) (by decide) (backOf (W := 0) (rm7 l Z a0 hw [] bx_90 (2 : Int32) fi kx_90 (4 : Int32) [(.int ((fi - (1 : Int32)) + (0 : Int32))), (.int ((fi - (1 : Int32)) + (1 : Int32))), (.int ((fi - (1 : Int32)) + (2 : Int32))), (.int ((fi - (1 : Int32)) + (3 : Int32)))] T90.heap n0 Z90 R90_0 (show ¬ (2 : Int32) < (0 : Int32) from (by decide)) (show (2 : Int32) < (4 : Int32) → ([(.int ((fi - (1 : Int32)) + (0 : Int32))), (.int ((fi - (1 : Int32)) + (1 : Int32))), (.int ((fi - (1 : Int32)) + (2 : Int32))), (.int ((fi - (1 : Int32)) + (3 : Int32)))] : List Value).getD ((2 : Int32)).toNatClampNeg (.int (0 : Int32)) = .int ((fi - (1 : Int32)) + (2 : Int32)) from (fun _ => rfl))) hZ (hw _ (List.mem_of_getElem? (i := 45) rfl)) (hw _ (List.mem_of_getElem? (i := 44) rfl)) (by decide) (by decide)) (g := (mkF m 118 #[.val (.int pp1), .val (.int pp2), .val (.int (4 : Int32)), .val (.int fi), .val (.int ((fi + (4 : Int32)) - (1 : Int32))), .val (.ref b82), .val (.ref bx_90)] [(.int fi), (.int (2 : Int32)), (.ref bx_90)])) rfl (by rw [hml]; rfl) (argsL := [(.ref bx_90), (.int (2 : Int32)), (.int fi)]) (rest := []) (lenOf pd__28__5b_III_29_Z rfl) rfl (by show 2 * 0 + _ ≤ _; exact Nat.le_of_eq rfl) (hb hby at_118) (fun _ _ => ⟨rfl, e96, (by decide : 4 + 0 ≤ _), (by decide : 15 + 0 ≤ _)⟩)
    dsimp only [Pt.U, Pt.locs, Pt.cells, Pt.slots] at X97 l97 y97 z97 st97 hQ97
    subst l97 y97 z97
    obtain ⟨rfl, N97q, e97⟩ := hQ97
    have N97 := Fr.app N96 N97q
    have hc121_4 : ¬ ((1 : Int32) = (0 : Int32)) := by decide
    obtain ⟨_, _, ⟨T98, L98, k98, n98⟩, -, X98, ⟨Lc98, hQ98, l98, y98, z98⟩, st98⟩ := Jvm.LawKit.callS X97 hx (y := (⟨"com/example/escapement/escapement/cli/PartitionSitesPinLaw", "at", "([III)Z"⟩ : MethodName)) hown (mvT hZ (hw _ (List.mem_of_getElem? (i := 42) rfl))) (mvT hZ (hw _ (List.mem_of_getElem? (i := 43) rfl))) (mvT hZ (hw _ (List.mem_of_getElem? (i := 44) rfl))) (mvT hZ (hw _ (List.mem_of_getElem? (i := 45) rfl))) (by decide) (backOf (W := 0) (rm7 l Z a0 hw [] bx_90 (3 : Int32) fi kx_90 (4 : Int32) [(.int ((fi - (1 : Int32)) + (0 : Int32))), (.int ((fi - (1 : Int32)) + (1 : Int32))), (.int ((fi - (1 : Int32)) + (2 : Int32))), (.int ((fi - (1 : Int32)) + (3 : Int32)))] T90.heap n0 Z90 R90_0 (show ¬ (3 : Int32) < (0 : Int32) from (by decide)) (show (3 : Int32) < (4 : Int32) → ([(.int ((fi - (1 : Int32)) + (0 : Int32))), (.int ((fi - (1 : Int32)) + (1 : Int32))), (.int ((fi - (1 : Int32)) + (2 : Int32))), (.int ((fi - (1 : Int32)) + (3 : Int32)))] : List Value).getD ((3 : Int32)).toNatClampNeg (.int (0 : Int32)) = .int ((fi - (1 : Int32)) + (3 : Int32)) from (fun _ => rfl))) hZ (hw _ (List.mem_of_getElem? (i := 45) rfl)) (hw _ (List.mem_of_getElem? (i := 44) rfl)) (by decide) (by decide)) (g := (mkF m 128 #[.val (.int pp1), .val (.int pp2), .val (.int (4 : Int32)), .val (.int fi), .val (.int ((fi + (4 : Int32)) - (1 : Int32))), .val (.ref b82), .val (.ref bx_90)] [(.int fi), (.int (3 : Int32)), (.ref bx_90)])) rfl (by rw [hml]; rfl) (argsL := [(.ref bx_90), (.int (3 : Int32)), (.int fi)]) (rest := []) (lenOf pd__28__5b_III_29_Z rfl) rfl (by show 2 * 0 + _ ≤ _; exact Nat.le_of_eq rfl) (hb hby at_128) (fun _ _ => ⟨rfl, e97, (by decide : 4 + 0 ≤ _), (by decide : 15 + 0 ≤ _)⟩)
    dsimp only [Pt.U, Pt.locs, Pt.cells, Pt.slots] at X98 l98 y98 z98 st98 hQ98
    subst l98 y98 z98
    obtain ⟨rfl, N98q, e98⟩ := hQ98
    have N98 := Fr.app N97 N98q
    have hc131_4 : ¬ ((1 : Int32) = (0 : Int32)) := by decide
    obtain ⟨_, _, ⟨T99, L99, k99, n99⟩, -, X99, ⟨Lc99, hQ99, l99, y99, z99⟩, st99⟩ := Jvm.LawKit.callS X98 hx (y := (⟨"com/example/escapement/escapement/cli/PartitionSitesPinLaw", "at", "([III)Z"⟩ : MethodName)) hown (mvT hZ (hw _ (List.mem_of_getElem? (i := 42) rfl))) (mvT hZ (hw _ (List.mem_of_getElem? (i := 43) rfl))) (mvT hZ (hw _ (List.mem_of_getElem? (i := 44) rfl))) (mvT hZ (hw _ (List.mem_of_getElem? (i := 45) rfl))) (by decide) (backOf (W := 0) (rm7 l Z a0 hw [] bx_90 (4 : Int32) fi kx_90 (4 : Int32) [(.int ((fi - (1 : Int32)) + (0 : Int32))), (.int ((fi - (1 : Int32)) + (1 : Int32))), (.int ((fi - (1 : Int32)) + (2 : Int32))), (.int ((fi - (1 : Int32)) + (3 : Int32)))] T90.heap n0 Z90 R90_0 (show ¬ (4 : Int32) < (0 : Int32) from (by decide)) (show (4 : Int32) < (4 : Int32) → ([(.int ((fi - (1 : Int32)) + (0 : Int32))), (.int ((fi - (1 : Int32)) + (1 : Int32))), (.int ((fi - (1 : Int32)) + (2 : Int32))), (.int ((fi - (1 : Int32)) + (3 : Int32)))] : List Value).getD ((4 : Int32)).toNatClampNeg (.int (0 : Int32)) = .int ((fi - (1 : Int32)) + (4 : Int32)) from (fun h => absurd h (by decide)))) hZ (hw _ (List.mem_of_getElem? (i := 45) rfl)) (hw _ (List.mem_of_getElem? (i := 44) rfl)) (by decide) (by decide)) (g := (mkF m 138 #[.val (.int pp1), .val (.int pp2), .val (.int (4 : Int32)), .val (.int fi), .val (.int ((fi + (4 : Int32)) - (1 : Int32))), .val (.ref b82), .val (.ref bx_90)] [(.int fi), (.int (4 : Int32)), (.ref bx_90)])) rfl (by rw [hml]; rfl) (argsL := [(.ref bx_90), (.int (4 : Int32)), (.int fi)]) (rest := []) (lenOf pd__28__5b_III_29_Z rfl) rfl (by show 2 * 0 + _ ≤ _; exact Nat.le_of_eq rfl) (hb hby at_138) (fun _ _ => ⟨rfl, e98, (by decide : 4 + 0 ≤ _), (by decide : 15 + 0 ≤ _)⟩)
    dsimp only [Pt.U, Pt.locs, Pt.cells, Pt.slots] at X99 l99 y99 z99 st99 hQ99
    subst l99 y99 z99
    obtain ⟨rfl, N99q, e99⟩ := hQ99
    have N99 := Fr.app N98 N99q
    have hc141_4 : ¬ ((1 : Int32) = (0 : Int32)) := by decide
    obtain ⟨_, _, ⟨T100, L100, k100, n100⟩, -, X100, ⟨Lc100, hQ100, l100, y100, z100⟩, st100⟩ := Jvm.LawKit.callS X99 hx (y := (⟨"com/example/escapement/escapement/cli/PartitionSitesPinLaw", "at", "([III)Z"⟩ : MethodName)) hown (mvT hZ (hw _ (List.mem_of_getElem? (i := 42) rfl))) (mvT hZ (hw _ (List.mem_of_getElem? (i := 43) rfl))) (mvT hZ (hw _ (List.mem_of_getElem? (i := 44) rfl))) (mvT hZ (hw _ (List.mem_of_getElem? (i := 45) rfl))) (by decide) (backOf (W := 0) (rm7 l Z a0 hw [] bx_90 (5 : Int32) fi kx_90 (4 : Int32) [(.int ((fi - (1 : Int32)) + (0 : Int32))), (.int ((fi - (1 : Int32)) + (1 : Int32))), (.int ((fi - (1 : Int32)) + (2 : Int32))), (.int ((fi - (1 : Int32)) + (3 : Int32)))] T90.heap n0 Z90 R90_0 (show ¬ (5 : Int32) < (0 : Int32) from (by decide)) (show (5 : Int32) < (4 : Int32) → ([(.int ((fi - (1 : Int32)) + (0 : Int32))), (.int ((fi - (1 : Int32)) + (1 : Int32))), (.int ((fi - (1 : Int32)) + (2 : Int32))), (.int ((fi - (1 : Int32)) + (3 : Int32)))] : List Value).getD ((5 : Int32)).toNatClampNeg (.int (0 : Int32)) = .int ((fi - (1 : Int32)) + (5 : Int32)) from (fun h => absurd h (by decide)))) hZ (hw _ (List.mem_of_getElem? (i := 45) rfl)) (hw _ (List.mem_of_getElem? (i := 44) rfl)) (by decide) (by decide)) (g := (mkF m 148 #[.val (.int pp1), .val (.int pp2), .val (.int (4 : Int32)), .val (.int fi), .val (.int ((fi + (4 : Int32)) - (1 : Int32))), .val (.ref b82), .val (.ref bx_90)] [(.int fi), (.int (5 : Int32)), (.ref bx_90)])) rfl (by rw [hml]; rfl) (argsL := [(.ref bx_90), (.int (5 : Int32)), (.int fi)]) (rest := []) (lenOf pd__28__5b_III_29_Z rfl) rfl (by show 2 * 0 + _ ≤ _; exact Nat.le_of_eq rfl) (hb hby at_148) (fun _ _ => ⟨rfl, e99, (by decide : 4 + 0 ≤ _), (by decide : 15 + 0 ≤ _)⟩)
    dsimp only [Pt.U, Pt.locs, Pt.cells, Pt.slots] at X100 l100 y100 z100 st100 hQ100
    subst l100 y100 z100
    obtain ⟨rfl, N100q, e100⟩ := hQ100
    have N100 := Fr.app N99 N100q
    have hc151_4 : ¬ ((1 : Int32) = (0 : Int32)) := by decide
    obtain ⟨_, _, ⟨T101, L101, k101, n101⟩, -, X101, ⟨Lc101, hQ101, l101, y101, z101⟩, st101⟩ := Jvm.LawKit.callS X100 hx (y := (⟨"com/example/escapement/escapement/cli/PartitionSitesPinLaw", "at", "([III)Z"⟩ : MethodName)) hown (mvT hZ (hw _ (List.mem_of_getElem? (i := 42) rfl))) (mvT hZ (hw _ (List.mem_of_getElem? (i := 43) rfl))) (mvT hZ (hw _ (List.mem_of_getElem? (i := 44) rfl))) (mvT hZ (hw _ (List.mem_of_getElem? (i := 45) rfl))) (by decide) (backOf (W := 0) (rm7 l Z a0 hw [] bx_90 (6 : Int32) fi kx_90 (4 : Int32) [(.int ((fi - (1 : Int32)) + (0 : Int32))), (.int ((fi - (1 : Int32)) + (1 : Int32))), (.int ((fi - (1 : Int32)) + (2 : Int32))), (.int ((fi - (1 : Int32)) + (3 : Int32)))] T90.heap n0 Z90 R90_0 (show ¬ (6 : Int32) < (0 : Int32) from (by decide)) (show (6 : Int32) < (4 : Int32) → ([(.int ((fi - (1 : Int32)) + (0 : Int32))), (.int ((fi - (1 : Int32)) + (1 : Int32))), (.int ((fi - (1 : Int32)) + (2 : Int32))), (.int ((fi - (1 : Int32)) + (3 : Int32)))] : List Value).getD ((6 : Int32)).toNatClampNeg (.int (0 : Int32)) = .int ((fi - (1 : Int32)) + (6 : Int32)) from (fun h => absurd h (by decide)))) hZ (hw _ (List.mem_of_getElem? (i := 45) rfl)) (hw _ (List.mem_of_getElem? (i := 44) rfl)) (by decide) (by decide)) (g := (mkF m 159 #[.val (.int pp1), .val (.int pp2), .val (.int (4 : Int32)), .val (.int fi), .val (.int ((fi + (4 : Int32)) - (1 : Int32))), .val (.ref b82), .val (.ref bx_90)] [(.int fi), (.int (6 : Int32)), (.ref bx_90)])) rfl (by rw [hml]; rfl) (argsL := [(.ref bx_90), (.int (6 : Int32)), (.int fi)]) (rest := []) (lenOf pd__28__5b_III_29_Z rfl) rfl (by show 2 * 0 + _ ≤ _; exact Nat.le_of_eq rfl) (hb hby at_159) (fun _ _ => ⟨rfl, e100, (by decide : 4 + 0 ≤ _), (by decide : 15 + 0 ≤ _)⟩)
    dsimp only [Pt.U, Pt.locs, Pt.cells, Pt.slots] at X101 l101 y101 z101 st101 hQ101
    subst l101 y101 z101
    obtain ⟨rfl, N101q, e101⟩ := hQ101
    have N101 := Fr.app N100 N101q
    have hc162_4 : ¬ ((1 : Int32) = (0 : Int32)) := by decide
    obtain ⟨_, _, ⟨T102, L102, k102, n102⟩, -, X102, ⟨Lc102, hQ102, l102, y102, z102⟩, st102⟩ := Jvm.LawKit.callS X101 hx (y := (⟨"com/example/escapement/escapement/cli/PartitionSitesPinLaw", "at", "([III)Z"⟩ : MethodName)) hown (mvT hZ (hw _ (List.mem_of_getElem? (i := 42) rfl))) (mvT hZ (hw _ (List.mem_of_getElem? (i := 43) rfl))) (mvT hZ (hw _ (List.mem_of_getElem? (i := 44) rfl))) (mvT hZ (hw _ (List.mem_of_getElem? (i := 45) rfl))) (by decide) (backOf (W := 0) (rm7 l Z a0 hw [] bx_90 (7 : Int32) fi kx_90 (4 : Int32) [(.int ((fi - (1 : Int32)) + (0 : Int32))), (.int ((fi - (1 : Int32)) + (1 : Int32))), (.int ((fi - (1 : Int32)) + (2 : Int32))), (.int ((fi - (1 : Int32)) + (3 : Int32)))] T90.heap n0 Z90 R90_0 (show ¬ (7 : Int32) < (0 : Int32) from (by decide)) (show (7 : Int32) < (4 : Int32) → ([(.int ((fi - (1 : Int32)) + (0 : Int32))), (.int ((fi - (1 : Int32)) + (1 : Int32))), (.int ((fi - (1 : Int32)) + (2 : Int32))), (.int ((fi - (1 : Int32)) + (3 : Int32)))] : List Value).getD ((7 : Int32)).toNatClampNeg (.int (0 : Int32)) = .int ((fi - (1 : Int32)) + (7 : Int32)) from (fun h => absurd h (by decide)))) hZ (hw _ (List.mem_of_getElem? (i := 45) rfl)) (hw _ (List.mem_of_getElem? (i := 44) rfl)) (by decide) (by decide)) (g := (mkF m 170 #[.val (.int pp1), .val (.int pp2), .val (.int (4 : Int32)), .val (.int fi), .val (.int ((fi + (4 : Int32)) - (1 : Int32))), .val (.ref b82), .val (.ref bx_90)] [(.int fi), (.int (7 : Int32)), (.ref bx_90)])) rfl (by rw [hml]; rfl) (argsL := [(.ref bx_90), (.int (7 : Int32)), (.int fi)]) (rest := []) (lenOf pd__28__5b_III_29_Z rfl) rfl (by show 2 * 0 + _ ≤ _; exact Nat.le_of_eq rfl) (hb hby at_170) (fun _ _ => ⟨rfl, e101, (by decide : 4 + 0 ≤ _), (by decide : 15 + 0 ≤ _)⟩)
    dsimp only [Pt.U, Pt.locs, Pt.cells, Pt.slots] at X102 l102 y102 z102 st102 hQ102
    subst l102 y102 z102
    obtain ⟨rfl, N102q, e102⟩ := hQ102
    have N102 := Fr.app N101 N102q
    have hc173_4 : ¬ ((1 : Int32) = (0 : Int32)) := by decide
    obtain ⟨fs, hr, hrun, hended, qe1, qe2, qe3, qe4⟩ := Stand.leaveW (s := s) (vm₁ := T84.vm) X102 hS84 (by rw [e102]; exact kz90) (v := some (.int (1 : Int32))) (fun h => by rw [Bd.returns] at h; cases h)
    refine ⟨_, _, pre83 _ ?_, hrun, hended, _, _, rfl, ?_, qe1, qe2, qe3, qe4.mono (by decide) (by decide)⟩
    · show Steps p.tables e below (T82.setTop (mkF m 38 #[.val (.int pp1), .val (.int pp2), .val (.int (4 : Int32)), .val (.int fi), .val (.int ((fi + (4 : Int32)) - (1 : Int32))), .unset, .unset] [(.ref b82), (.ref b82)])) _
      refine st84 _ ?_
      show Steps p.tables e below (T84.setTop (mkF m 40 #[.val (.int pp1), .val (.int pp2), .val (.int (4 : Int32)), .val (.int fi), .val (.int ((fi + (4 : Int32)) - (1 : Int32))), .unset, .unset] [(.ref a84), (.ref b82), (.ref b82)])) _
      refine XS.iloadN X84.here hx rfl (hb hby at_40) rfl ?_
      show Steps p.tables e below (T84.setTop (mkF m 41 #[.val (.int pp1), .val (.int pp2), .val (.int (4 : Int32)), .val (.int fi), .val (.int ((fi + (4 : Int32)) - (1 : Int32))), .unset, .unset] [(.int fi), (.ref a84), (.ref b82), (.ref b82)])) _
      refine XS.iload X84.here hx rfl (hb hby at_41) rfl ?_
      show Steps p.tables e below (T84.setTop (mkF m 43 #[.val (.int pp1), .val (.int pp2), .val (.int (4 : Int32)), .val (.int fi), .val (.int ((fi + (4 : Int32)) - (1 : Int32))), .unset, .unset] [(.int ((fi + (4 : Int32)) - (1 : Int32))), (.int fi), (.ref a84), (.ref b82), (.ref b82)])) _
      refine st89.trans ?_
      show Steps p.tables e below (T89.setTop (mkF m 46 #[.val (.int pp1), .val (.int pp2), .val (.int (4 : Int32)), .val (.int fi), .val (.int ((fi + (4 : Int32)) - (1 : Int32))), .unset, .unset] [(.ref b82)])) _
      refine XS.astore X89.here hx rfl (hb hby at_46) rfl rfl (l' := #[.val (.int pp1), .val (.int pp2), .val (.int (4 : Int32)), .val (.int fi), .val (.int ((fi + (4 : Int32)) - (1 : Int32))), .val (.ref b82), .unset]) rfl ?_
      show Steps p.tables e below (T89.setTop (mkF m 48 #[.val (.int pp1), .val (.int pp2), .val (.int (4 : Int32)), .val (.int fi), .val (.int ((fi + (4 : Int32)) - (1 : Int32))), .val (.ref b82), .unset] [])) _
      refine XS.aload X89.here hx rfl (hb hby at_48) rfl rfl ?_
      show Steps p.tables e below (T89.setTop (mkF m 50 #[.val (.int pp1), .val (.int pp2), .val (.int (4 : Int32)), .val (.int fi), .val (.int ((fi + (4 : Int32)) - (1 : Int32))), .val (.ref b82), .unset] [(.ref b82)])) _
      refine st90.trans ?_
      show Steps p.tables e below (T90.setTop (mkF m 53 #[.val (.int pp1), .val (.int pp2), .val (.int (4 : Int32)), .val (.int fi), .val (.int ((fi + (4 : Int32)) - (1 : Int32))), .val (.ref b82), .unset] [(.ref bx_90)])) _
      refine XS.astore X90.here hx rfl (hb hby at_53) rfl rfl (l' := #[.val (.int pp1), .val (.int pp2), .val (.int (4 : Int32)), .val (.int fi), .val (.int ((fi + (4 : Int32)) - (1 : Int32))), .val (.ref b82), .val (.ref bx_90)]) rfl ?_
      show Steps p.tables e below (T90.setTop (mkF m 55 #[.val (.int pp1), .val (.int pp2), .val (.int (4 : Int32)), .val (.int fi), .val (.int ((fi + (4 : Int32)) - (1 : Int32))), .val (.ref b82), .val (.ref bx_90)] [])) _
      refine XS.aload X90.here hx rfl (hb hby at_55) rfl rfl ?_
      show Steps p.tables e below (T90.setTop (mkF m 57 #[.val (.int pp1), .val (.int pp2), .val (.int (4 : Int32)), .val (.int fi), .val (.int ((fi + (4 : Int32)) - (1 : Int32))), .val (.ref b82), .val (.ref bx_90)] [(.ref bx_90)])) _
      refine XS.ifnullNo X90.here hx rfl (hb hby at_57) rfl ?_
      show Steps p.tables e below (T90.setTop (mkF m 60 #[.val (.int pp1), .val (.int pp2), .val (.int (4 : Int32)), .val (.int fi), .val (.int ((fi + (4 : Int32)) - (1 : Int32))), .val (.ref b82), .val (.ref bx_90)] [])) _
      refine XS.aload X90.here hx rfl (hb hby at_60) rfl rfl ?_
      show Steps p.tables e below (T90.setTop (mkF m 62 #[.val (.int pp1), .val (.int pp2), .val (.int (4 : Int32)), .val (.int fi), .val (.int ((fi + (4 : Int32)) - (1 : Int32))), .val (.ref b82), .val (.ref bx_90)] [(.ref bx_90)])) _
      refine X90.arraylength hx (Ar_92.1) (State.isArrayOf_alike hZ.alike Ar_92.2.1) (g := (mkF m 62 #[.val (.int pp1), .val (.int pp2), .val (.int (4 : Int32)), .val (.int fi), .val (.int ((fi + (4 : Int32)) - (1 : Int32))), .val (.ref b82), .val (.ref bx_90)] [(.ref bx_90)])) rfl rfl (hb hby at_62) _ ?_
      rw [len_of Sz_92 Nn_92]
      show Steps p.tables e below (T90.setTop (mkF m 63 #[.val (.int pp1), .val (.int pp2), .val (.int (4 : Int32)), .val (.int fi), .val (.int ((fi + (4 : Int32)) - (1 : Int32))), .val (.ref b82), .val (.ref bx_90)] [(.int (4 : Int32))])) _
      refine XS.iloadN X90.here hx rfl (hb hby at_63) rfl ?_
      show Steps p.tables e below (T90.setTop (mkF m 64 #[.val (.int pp1), .val (.int pp2), .val (.int (4 : Int32)), .val (.int fi), .val (.int ((fi + (4 : Int32)) - (1 : Int32))), .val (.ref b82), .val (.ref bx_90)] [(.int (4 : Int32)), (.int (4 : Int32))])) _
      refine XS.icmpYes X90.here hx rfl (pc0 := 64) (pc' := 69) rfl (hb hby at_64) rfl (teq hc64_4).1 (by decide) (by decide) ?_
      show Steps p.tables e below (T90.setTop (mkF m 69 #[.val (.int pp1), .val (.int pp2), .val (.int (4 : Int32)), .val (.int fi), .val (.int ((fi + (4 : Int32)) - (1 : Int32))), .val (.ref b82), .val (.ref bx_90)] [])) _
      refine XS.aload X90.here hx rfl (hb hby at_69) rfl rfl ?_
      show Steps p.tables e below (T90.setTop (mkF m 71 #[.val (.int pp1), .val (.int pp2), .val (.int (4 : Int32)), .val (.int fi), .val (.int ((fi + (4 : Int32)) - (1 : Int32))), .val (.ref b82), .val (.ref bx_90)] [(.ref bx_90)])) _
      refine XS.iconst X90.here hx rfl (hb hby at_71) ?_
      show Steps p.tables e below (T90.setTop (mkF m 72 #[.val (.int pp1), .val (.int pp2), .val (.int (4 : Int32)), .val (.int fi), .val (.int ((fi + (4 : Int32)) - (1 : Int32))), .val (.ref b82), .val (.ref bx_90)] [(.int (0 : Int32)), (.ref bx_90)])) _
      refine X90.iaload hx (j := (0 : Int32)) (v := (.int ((fi - (1 : Int32)) + (0 : Int32)))) (Ar_93.1) (State.isArrayOf_alike hZ.alike Ar_93.2.1) Ar_93.2.2 hin_93 hat_93 (g := (mkF m 72 #[.val (.int pp1), .val (.int pp2), .val (.int (4 : Int32)), .val (.int fi), .val (.int ((fi + (4 : Int32)) - (1 : Int32))), .val (.ref b82), .val (.ref bx_90)] [(.int (0 : Int32)), (.ref bx_90)])) rfl rfl (hb hby at_72) _ ?_
      show Steps p.tables e below (T90.setTop (mkF m 73 #[.val (.int pp1), .val (.int pp2), .val (.int (4 : Int32)), .val (.int fi), .val (.int ((fi + (4 : Int32)) - (1 : Int32))), .val (.ref b82), .val (.ref bx_90)] [(.int ((fi - (1 : Int32)) + (0 : Int32)))])) _
      refine XS.iloadN X90.here hx rfl (hb hby at_73) rfl ?_
      show Steps p.tables e below (T90.setTop (mkF m 74 #[.val (.int pp1), .val (.int pp2), .val (.int (4 : Int32)), .val (.int fi), .val (.int ((fi + (4 : Int32)) - (1 : Int32))), .val (.ref b82), .val (.ref bx_90)] [(.int fi), (.int ((fi - (1 : Int32)) + (0 : Int32)))])) _
      refine XS.iconst X90.here hx rfl (hb hby at_74) ?_
      show Steps p.tables e below (T90.setTop (mkF m 75 #[.val (.int pp1), .val (.int pp2), .val (.int (4 : Int32)), .val (.int fi), .val (.int ((fi + (4 : Int32)) - (1 : Int32))), .val (.ref b82), .val (.ref bx_90)] [(.int (1 : Int32)), (.int fi), (.int ((fi - (1 : Int32)) + (0 : Int32)))])) _
      refine XS.isub X90.here hx rfl (hb hby at_75) rfl ?_
      show Steps p.tables e below (T90.setTop (mkF m 76 #[.val (.int pp1), .val (.int pp2), .val (.int (4 : Int32)), .val (.int fi), .val (.int ((fi + (4 : Int32)) - (1 : Int32))), .val (.ref b82), .val (.ref bx_90)] [(.int (fi - (1 : Int32))), (.int ((fi - (1 : Int32)) + (0 : Int32)))])) _
      refine XS.icmpNo X90.here hx rfl (hb hby at_76) rfl (teq hc76_4).2 ?_
      show Steps p.tables e below (T90.setTop (mkF m 79 #[.val (.int pp1), .val (.int pp2), .val (.int (4 : Int32)), .val (.int fi), .val (.int ((fi + (4 : Int32)) - (1 : Int32))), .val (.ref b82), .val (.ref bx_90)] [])) _
      refine XS.aload X90.here hx rfl (hb hby at_79) rfl rfl ?_
      show Steps p.tables e below (T90.setTop (mkF m 81 #[.val (.int pp1), .val (.int pp2), .val (.int (4 : Int32)), .val (.int fi), .val (.int ((fi + (4 : Int32)) - (1 : Int32))), .val (.ref b82), .val (.ref bx_90)] [(.ref bx_90)])) _
      refine XS.iloadN X90.here hx rfl (hb hby at_81) rfl ?_
      show Steps p.tables e below (T90.setTop (mkF m 82 #[.val (.int pp1), .val (.int pp2), .val (.int (4 : Int32)), .val (.int fi), .val (.int ((fi + (4 : Int32)) - (1 : Int32))), .val (.ref b82), .val (.ref bx_90)] [(.int (4 : Int32)), (.ref bx_90)])) _
      refine XS.iconst X90.here hx rfl (hb hby at_82) ?_
      show Steps p.tables e below (T90.setTop (mkF m 83 #[.val (.int pp1), .val (.int pp2), .val (.int (4 : Int32)), .val (.int fi), .val (.int ((fi + (4 : Int32)) - (1 : Int32))), .val (.ref b82), .val (.ref bx_90)] [(.int (1 : Int32)), (.int (4 : Int32)), (.ref bx_90)])) _
      refine XS.isub X90.here hx rfl (hb hby at_83) rfl ?_
      show Steps p.tables e below (T90.setTop (mkF m 84 #[.val (.int pp1), .val (.int pp2), .val (.int (4 : Int32)), .val (.int fi), .val (.int ((fi + (4 : Int32)) - (1 : Int32))), .val (.ref b82), .val (.ref bx_90)] [(.int (3 : Int32)), (.ref bx_90)])) _
      refine X90.iaload hx (j := (3 : Int32)) (v := (.int ((fi - (1 : Int32)) + (3 : Int32)))) (Ar_94.1) (State.isArrayOf_alike hZ.alike Ar_94.2.1) Ar_94.2.2 hin_94 hat_94 (g := (mkF m 84 #[.val (.int pp1), .val (.int pp2), .val (.int (4 : Int32)), .val (.int fi), .val (.int ((fi + (4 : Int32)) - (1 : Int32))), .val (.ref b82), .val (.ref bx_90)] [(.int (3 : Int32)), (.ref bx_90)])) rfl rfl (hb hby at_84) _ ?_
      show Steps p.tables e below (T90.setTop (mkF m 85 #[.val (.int pp1), .val (.int pp2), .val (.int (4 : Int32)), .val (.int fi), .val (.int ((fi + (4 : Int32)) - (1 : Int32))), .val (.ref b82), .val (.ref bx_90)] [(.int ((fi - (1 : Int32)) + (3 : Int32)))])) _
      refine XS.iload X90.here hx rfl (hb hby at_85) rfl ?_
      show Steps p.tables e below (T90.setTop (mkF m 87 #[.val (.int pp1), .val (.int pp2), .val (.int (4 : Int32)), .val (.int fi), .val (.int ((fi + (4 : Int32)) - (1 : Int32))), .val (.ref b82), .val (.ref bx_90)] [(.int ((fi + (4 : Int32)) - (1 : Int32))), (.int ((fi - (1 : Int32)) + (3 : Int32)))])) _
      refine XS.iconst X90.here hx rfl (hb hby at_87) ?_
      show Steps p.tables e below (T90.setTop (mkF m 88 #[.val (.int pp1), .val (.int pp2), .val (.int (4 : Int32)), .val (.int fi), .val (.int ((fi + (4 : Int32)) - (1 : Int32))), .val (.ref b82), .val (.ref bx_90)] [(.int (1 : Int32)), (.int ((fi + (4 : Int32)) - (1 : Int32))), (.int ((fi - (1 : Int32)) + (3 : Int32)))])) _
      refine XS.isub X90.here hx rfl (hb hby at_88) rfl ?_
      show Steps p.tables e below (T90.setTop (mkF m 89 #[.val (.int pp1), .val (.int pp2), .val (.int (4 : Int32)), .val (.int fi), .val (.int ((fi + (4 : Int32)) - (1 : Int32))), .val (.ref b82), .val (.ref bx_90)] [(.int (((fi + (4 : Int32)) - (1 : Int32)) - (1 : Int32))), (.int ((fi - (1 : Int32)) + (3 : Int32)))])) _
      refine XS.icmpYes X90.here hx rfl (pc0 := 89) (pc' := 94) rfl (hb hby at_89) rfl (teq hc89_4).1 (by decide) (by decide) ?_
      show Steps p.tables e below (T90.setTop (mkF m 94 #[.val (.int pp1), .val (.int pp2), .val (.int (4 : Int32)), .val (.int fi), .val (.int ((fi + (4 : Int32)) - (1 : Int32))), .val (.ref b82), .val (.ref bx_90)] [])) _
      refine XS.aload X90.here hx rfl (hb hby at_94) rfl rfl ?_
      show Steps p.tables e below (T90.setTop (mkF m 96 #[.val (.int pp1), .val (.int pp2), .val (.int (4 : Int32)), .val (.int fi), .val (.int ((fi + (4 : Int32)) - (1 : Int32))), .val (.ref b82), .val (.ref bx_90)] [(.ref bx_90)])) _
      refine XS.iconst X90.here hx rfl (hb hby at_96) ?_
      show Steps p.tables e below (T90.setTop (mkF m 97 #[.val (.int pp1), .val (.int pp2), .val (.int (4 : Int32)), .val (.int fi), .val (.int ((fi + (4 : Int32)) - (1 : Int32))), .val (.ref b82), .val (.ref bx_90)] [(.int (0 : Int32)), (.ref bx_90)])) _
      refine XS.iloadN X90.here hx rfl (hb hby at_97) rfl ?_
      show Steps p.tables e below (T90.setTop (mkF m 98 #[.val (.int pp1), .val (.int pp2), .val (.int (4 : Int32)), .val (.int fi), .val (.int ((fi + (4 : Int32)) - (1 : Int32))), .val (.ref b82), .val (.ref bx_90)] [(.int fi), (.int (0 : Int32)), (.ref bx_90)])) _
      refine st95 _ ?_
      show Steps p.tables e below (T95.setTop (mkF m 101 #[.val (.int pp1), .val (.int pp2), .val (.int (4 : Int32)), .val (.int fi), .val (.int ((fi + (4 : Int32)) - (1 : Int32))), .val (.ref b82), .val (.ref bx_90)] [(.int (1 : Int32))])) _
      refine XS.ifNo X95.here hx rfl (hb hby at_101) rfl ((if0 _ _).trans (feq hc101_4).1) ?_
      show Steps p.tables e below (T95.setTop (mkF m 104 #[.val (.int pp1), .val (.int pp2), .val (.int (4 : Int32)), .val (.int fi), .val (.int ((fi + (4 : Int32)) - (1 : Int32))), .val (.ref b82), .val (.ref bx_90)] [])) _
      refine XS.aload X95.here hx rfl (hb hby at_104) rfl rfl ?_
      show Steps p.tables e below (T95.setTop (mkF m 106 #[.val (.int pp1), .val (.int pp2), .val (.int (4 : Int32)), .val (.int fi), .val (.int ((fi + (4 : Int32)) - (1 : Int32))), .val (.ref b82), .val (.ref bx_90)] [(.ref bx_90)])) _
      refine XS.iconst X95.here hx rfl (hb hby at_106) ?_
      show Steps p.tables e below (T95.setTop (mkF m 107 #[.val (.int pp1), .val (.int pp2), .val (.int (4 : Int32)), .val (.int fi), .val (.int ((fi + (4 : Int32)) - (1 : Int32))), .val (.ref b82), .val (.ref bx_90)] [(.int (1 : Int32)), (.ref bx_90)])) _
      refine XS.iloadN X95.here hx rfl (hb hby at_107) rfl ?_
      show Steps p.tables e below (T95.setTop (mkF m 108 #[.val (.int pp1), .val (.int pp2), .val (.int (4 : Int32)), .val (.int fi), .val (.int ((fi + (4 : Int32)) - (1 : Int32))), .val (.ref b82), .val (.ref bx_90)] [(.int fi), (.int (1 : Int32)), (.ref bx_90)])) _
      refine st96 _ ?_
      show Steps p.tables e below (T96.setTop (mkF m 111 #[.val (.int pp1), .val (.int pp2), .val (.int (4 : Int32)), .val (.int fi), .val (.int ((fi + (4 : Int32)) - (1 : Int32))), .val (.ref b82), .val (.ref bx_90)] [(.int (1 : Int32))])) _
      refine XS.ifNo X96.here hx rfl (hb hby at_111) rfl ((if0 _ _).trans (feq hc111_4).1) ?_
      show Steps p.tables e below (T96.setTop (mkF m 114 #[.val (.int pp1), .val (.int pp2), .val (.int (4 : Int32)), .val (.int fi), .val (.int ((fi + (4 : Int32)) - (1 : Int32))), .val (.ref b82), .val (.ref bx_90)] [])) _
      refine XS.aload X96.here hx rfl (hb hby at_114) rfl rfl ?_
      show Steps p.tables e below (T96.setTop (mkF m 116 #[.val (.int pp1), .val (.int pp2), .val (.int (4 : Int32)), .val (.int fi), .val (.int ((fi + (4 : Int32)) - (1 : Int32))), .val (.ref b82), .val (.ref bx_90)] [(.ref bx_90)])) _
      refine XS.iconst X96.here hx rfl (hb hby at_116) ?_
      show Steps p.tables e below (T96.setTop (mkF m 117 #[.val (.int pp1), .val (.int pp2), .val (.int (4 : Int32)), .val (.int fi), .val (.int ((fi + (4 : Int32)) - (1 : Int32))), .val (.ref b82), .val (.ref bx_90)] [(.int (2 : Int32)), (.ref bx_90)])) _
      refine XS.iloadN X96.here hx rfl (hb hby at_117) rfl ?_
      show Steps p.tables e below (T96.setTop (mkF m 118 #[.val (.int pp1), .val (.int pp2), .val (.int (4 : Int32)), .val (.int fi), .val (.int ((fi + (4 : Int32)) - (1 : Int32))), .val (.ref b82), .val (.ref bx_90)] [(.int fi), (.int (2 : Int32)), (.ref bx_90)])) _
      refine st97 _ ?_
      show Steps p.tables e below (T97.setTop (mkF m 121 #[.val (.int pp1), .val (.int pp2), .val (.int (4 : Int32)), .val (.int fi), .val (.int ((fi + (4 : Int32)) - (1 : Int32))), .val (.ref b82), .val (.ref bx_90)] [(.int (1 : Int32))])) _
      refine XS.ifNo X97.here hx rfl (hb hby at_121) rfl ((if0 _ _).trans (feq hc121_4).1) ?_
      show Steps p.tables e below (T97.setTop (mkF m 124 #[.val (.int pp1), .val (.int pp2), .val (.int (4 : Int32)), .val (.int fi), .val (.int ((fi + (4 : Int32)) - (1 : Int32))), .val (.ref b82), .val (.ref bx_90)] [])) _
      refine XS.aload X97.here hx rfl (hb hby at_124) rfl rfl ?_
      show Steps p.tables e below (T97.setTop (mkF m 126 #[.val (.int pp1), .val (.int pp2), .val (.int (4 : Int32)), .val (.int fi), .val (.int ((fi + (4 : Int32)) - (1 : Int32))), .val (.ref b82), .val (.ref bx_90)] [(.ref bx_90)])) _
      refine XS.iconst X97.here hx rfl (hb hby at_126) ?_
      show Steps p.tables e below (T97.setTop (mkF m 127 #[.val (.int pp1), .val (.int pp2), .val (.int (4 : Int32)), .val (.int fi), .val (.int ((fi + (4 : Int32)) - (1 : Int32))), .val (.ref b82), .val (.ref bx_90)] [(.int (3 : Int32)), (.ref bx_90)])) _
      refine XS.iloadN X97.here hx rfl (hb hby at_127) rfl ?_
      show Steps p.tables e below (T97.setTop (mkF m 128 #[.val (.int pp1), .val (.int pp2), .val (.int (4 : Int32)), .val (.int fi), .val (.int ((fi + (4 : Int32)) - (1 : Int32))), .val (.ref b82), .val (.ref bx_90)] [(.int fi), (.int (3 : Int32)), (.ref bx_90)])) _
      refine st98 _ ?_
      show Steps p.tables e below (T98.setTop (mkF m 131 #[.val (.int pp1), .val (.int pp2), .val (.int (4 : Int32)), .val (.int fi), .val (.int ((fi + (4 : Int32)) - (1 : Int32))), .val (.ref b82), .val (.ref bx_90)] [(.int (1 : Int32))])) _
      refine XS.ifNo X98.here hx rfl (hb hby at_131) rfl ((if0 _ _).trans (feq hc131_4).1) ?_
      show Steps p.tables e below (T98.setTop (mkF m 134 #[.val (.int pp1), .val (.int pp2), .val (.int (4 : Int32)), .val (.int fi), .val (.int ((fi + (4 : Int32)) - (1 : Int32))), .val (.ref b82), .val (.ref bx_90)] [])) _
      refine XS.aload X98.here hx rfl (hb hby at_134) rfl rfl ?_
      show Steps p.tables e below (T98.setTop (mkF m 136 #[.val (.int pp1), .val (.int pp2), .val (.int (4 : Int32)), .val (.int fi), .val (.int ((fi + (4 : Int32)) - (1 : Int32))), .val (.ref b82), .val (.ref bx_90)] [(.ref bx_90)])) _
      refine XS.iconst X98.here hx rfl (hb hby at_136) ?_
      show Steps p.tables e below (T98.setTop (mkF m 137 #[.val (.int pp1), .val (.int pp2), .val (.int (4 : Int32)), .val (.int fi), .val (.int ((fi + (4 : Int32)) - (1 : Int32))), .val (.ref b82), .val (.ref bx_90)] [(.int (4 : Int32)), (.ref bx_90)])) _
      refine XS.iloadN X98.here hx rfl (hb hby at_137) rfl ?_
      show Steps p.tables e below (T98.setTop (mkF m 138 #[.val (.int pp1), .val (.int pp2), .val (.int (4 : Int32)), .val (.int fi), .val (.int ((fi + (4 : Int32)) - (1 : Int32))), .val (.ref b82), .val (.ref bx_90)] [(.int fi), (.int (4 : Int32)), (.ref bx_90)])) _
      refine st99 _ ?_
      show Steps p.tables e below (T99.setTop (mkF m 141 #[.val (.int pp1), .val (.int pp2), .val (.int (4 : Int32)), .val (.int fi), .val (.int ((fi + (4 : Int32)) - (1 : Int32))), .val (.ref b82), .val (.ref bx_90)] [(.int (1 : Int32))])) _
      refine XS.ifNo X99.here hx rfl (hb hby at_141) rfl ((if0 _ _).trans (feq hc141_4).1) ?_
      show Steps p.tables e below (T99.setTop (mkF m 144 #[.val (.int pp1), .val (.int pp2), .val (.int (4 : Int32)), .val (.int fi), .val (.int ((fi + (4 : Int32)) - (1 : Int32))), .val (.ref b82), .val (.ref bx_90)] [])) _
      refine XS.aload X99.here hx rfl (hb hby at_144) rfl rfl ?_
      show Steps p.tables e below (T99.setTop (mkF m 146 #[.val (.int pp1), .val (.int pp2), .val (.int (4 : Int32)), .val (.int fi), .val (.int ((fi + (4 : Int32)) - (1 : Int32))), .val (.ref b82), .val (.ref bx_90)] [(.ref bx_90)])) _
      refine XS.iconst X99.here hx rfl (hb hby at_146) ?_
      show Steps p.tables e below (T99.setTop (mkF m 147 #[.val (.int pp1), .val (.int pp2), .val (.int (4 : Int32)), .val (.int fi), .val (.int ((fi + (4 : Int32)) - (1 : Int32))), .val (.ref b82), .val (.ref bx_90)] [(.int (5 : Int32)), (.ref bx_90)])) _
      refine XS.iloadN X99.here hx rfl (hb hby at_147) rfl ?_
      show Steps p.tables e below (T99.setTop (mkF m 148 #[.val (.int pp1), .val (.int pp2), .val (.int (4 : Int32)), .val (.int fi), .val (.int ((fi + (4 : Int32)) - (1 : Int32))), .val (.ref b82), .val (.ref bx_90)] [(.int fi), (.int (5 : Int32)), (.ref bx_90)])) _
      refine st100 _ ?_
      show Steps p.tables e below (T100.setTop (mkF m 151 #[.val (.int pp1), .val (.int pp2), .val (.int (4 : Int32)), .val (.int fi), .val (.int ((fi + (4 : Int32)) - (1 : Int32))), .val (.ref b82), .val (.ref bx_90)] [(.int (1 : Int32))])) _
      refine XS.ifNo X100.here hx rfl (hb hby at_151) rfl ((if0 _ _).trans (feq hc151_4).1) ?_
      show Steps p.tables e below (T100.setTop (mkF m 154 #[.val (.int pp1), .val (.int pp2), .val (.int (4 : Int32)), .val (.int fi), .val (.int ((fi + (4 : Int32)) - (1 : Int32))), .val (.ref b82), .val (.ref bx_90)] [])) _
      refine XS.aload X100.here hx rfl (hb hby at_154) rfl rfl ?_
      show Steps p.tables e below (T100.setTop (mkF m 156 #[.val (.int pp1), .val (.int pp2), .val (.int (4 : Int32)), .val (.int fi), .val (.int ((fi + (4 : Int32)) - (1 : Int32))), .val (.ref b82), .val (.ref bx_90)] [(.ref bx_90)])) _
      refine XS.bipush X100.here hx rfl (hb hby at_156) ?_
      show Steps p.tables e below (T100.setTop (mkF m 158 #[.val (.int pp1), .val (.int pp2), .val (.int (4 : Int32)), .val (.int fi), .val (.int ((fi + (4 : Int32)) - (1 : Int32))), .val (.ref b82), .val (.ref bx_90)] [(.int (6 : Int32)), (.ref bx_90)])) _
      refine XS.iloadN X100.here hx rfl (hb hby at_158) rfl ?_
      show Steps p.tables e below (T100.setTop (mkF m 159 #[.val (.int pp1), .val (.int pp2), .val (.int (4 : Int32)), .val (.int fi), .val (.int ((fi + (4 : Int32)) - (1 : Int32))), .val (.ref b82), .val (.ref bx_90)] [(.int fi), (.int (6 : Int32)), (.ref bx_90)])) _
      refine st101 _ ?_
      show Steps p.tables e below (T101.setTop (mkF m 162 #[.val (.int pp1), .val (.int pp2), .val (.int (4 : Int32)), .val (.int fi), .val (.int ((fi + (4 : Int32)) - (1 : Int32))), .val (.ref b82), .val (.ref bx_90)] [(.int (1 : Int32))])) _
      refine XS.ifNo X101.here hx rfl (hb hby at_162) rfl ((if0 _ _).trans (feq hc162_4).1) ?_
      show Steps p.tables e below (T101.setTop (mkF m 165 #[.val (.int pp1), .val (.int pp2), .val (.int (4 : Int32)), .val (.int fi), .val (.int ((fi + (4 : Int32)) - (1 : Int32))), .val (.ref b82), .val (.ref bx_90)] [])) _
      refine XS.aload X101.here hx rfl (hb hby at_165) rfl rfl ?_
      show Steps p.tables e below (T101.setTop (mkF m 167 #[.val (.int pp1), .val (.int pp2), .val (.int (4 : Int32)), .val (.int fi), .val (.int ((fi + (4 : Int32)) - (1 : Int32))), .val (.ref b82), .val (.ref bx_90)] [(.ref bx_90)])) _
      refine XS.bipush X101.here hx rfl (hb hby at_167) ?_
      show Steps p.tables e below (T101.setTop (mkF m 169 #[.val (.int pp1), .val (.int pp2), .val (.int (4 : Int32)), .val (.int fi), .val (.int ((fi + (4 : Int32)) - (1 : Int32))), .val (.ref b82), .val (.ref bx_90)] [(.int (7 : Int32)), (.ref bx_90)])) _
      refine XS.iloadN X101.here hx rfl (hb hby at_169) rfl ?_
      show Steps p.tables e below (T101.setTop (mkF m 170 #[.val (.int pp1), .val (.int pp2), .val (.int (4 : Int32)), .val (.int fi), .val (.int ((fi + (4 : Int32)) - (1 : Int32))), .val (.ref b82), .val (.ref bx_90)] [(.int fi), (.int (7 : Int32)), (.ref bx_90)])) _
      refine st102 _ ?_
      show Steps p.tables e below (T102.setTop (mkF m 173 #[.val (.int pp1), .val (.int pp2), .val (.int (4 : Int32)), .val (.int fi), .val (.int ((fi + (4 : Int32)) - (1 : Int32))), .val (.ref b82), .val (.ref bx_90)] [(.int (1 : Int32))])) _
      refine XS.ifNo X102.here hx rfl (hb hby at_173) rfl ((if0 _ _).trans (feq hc173_4).1) ?_
      show Steps p.tables e below (T102.setTop (mkF m 176 #[.val (.int pp1), .val (.int pp2), .val (.int (4 : Int32)), .val (.int fi), .val (.int ((fi + (4 : Int32)) - (1 : Int32))), .val (.ref b82), .val (.ref bx_90)] [])) _
      refine XS.iconst X102.here hx rfl (hb hby at_176) ?_
      show Steps p.tables e below (T102.setTop (mkF m 177 #[.val (.int pp1), .val (.int pp2), .val (.int (4 : Int32)), .val (.int fi), .val (.int ((fi + (4 : Int32)) - (1 : Int32))), .val (.ref b82), .val (.ref bx_90)] [(.int (1 : Int32))])) _
      refine XS.goto X102.here hx rfl (pc0 := 177) (pc' := 181) rfl (hb hby at_177) (by decide) (by decide) ?_
      show Steps p.tables e below (T102.setTop (mkF m 181 #[.val (.int pp1), .val (.int pp2), .val (.int (4 : Int32)), .val (.int fi), .val (.int ((fi + (4 : Int32)) - (1 : Int32))), .val (.ref b82), .val (.ref bx_90)] [(.int (1 : Int32))])) _
      exact retN X102 hx (t := .boolean) Bd.returns (by simp) (hb hby at_181) hr
    · show Q0 Z pp1 pp2 h0 n0 _ T102.heap _
      rw [e102]
      exact ⟨rfl, N102⟩
  · skip
    obtain ⟨_, _, ⟨T103, L103, k103, n103⟩, -, X103, ⟨Lc103, hQ103, l103, y103, z103⟩, st103⟩ := Jvm.LawKit.callS X0 hx (y := (⟨"java/lang/Math", "max", "(II)I"⟩ : MethodName)) hown (mvT hZ (hw _ (List.mem_of_getElem? (i := 1) rfl))) (mvT hZ (hw _ (List.mem_of_getElem? (i := 2) rfl))) (mvT hZ (hw _ (List.mem_of_getElem? (i := 3) rfl))) (mvT hZ (hw _ (List.mem_of_getElem? (i := 4) rfl))) (by decide) (backOf (W := 0) (rm1 l Z a0 hw [] (1 : Int32) (pp1 &&& (2147483647 : Int32)) h0 n0 Z0 ) hZ (hw _ (List.mem_of_getElem? (i := 4) rfl)) (hw _ (List.mem_of_getElem? (i := 3) rfl)) (by decide) (by decide)) (g := (mkF m 12 #[.val (.int pp1), .val (.int pp2), .val (.int (5 : Int32)), .unset, .unset, .unset, .unset] [(.int (pp1 &&& (2147483647 : Int32))), (.int (1 : Int32))])) rfl (by rw [hml]; rfl) (argsL := [(.int (1 : Int32)), (.int (pp1 &&& (2147483647 : Int32)))]) (rest := []) (lenOf pd__28_II_29_I rfl) rfl (by show 2 * 0 + _ ≤ _; exact Nat.le_of_eq rfl) (hb hby at_12) (fun _ _ => ⟨rfl, e0, (by decide : 0 + 0 ≤ _), (by decide : 0 + 0 ≤ _)⟩)
    dsimp only [Pt.U, Pt.locs, Pt.cells, Pt.slots] at X103 l103 y103 z103 st103 hQ103
    subst l103 y103 z103
    obtain ⟨rfl, N103q, e103⟩ := hQ103
    have N103 := Fr.app N0 N103q
    obtain ⟨_, _, ⟨T104, L104, k104, n104⟩, -, X104, ⟨Lc104, hQ104, l104, y104, z104⟩, st104⟩ := Jvm.LawKit.callS X103 hx (y := (⟨"java/lang/Math", "min", "(II)I"⟩ : MethodName)) hown (mvT hZ (hw _ (List.mem_of_getElem? (i := 5) rfl))) (mvT hZ (hw _ (List.mem_of_getElem? (i := 6) rfl))) (mvT hZ (hw _ (List.mem_of_getElem? (i := 3) rfl))) (mvT hZ (hw _ (List.mem_of_getElem? (i := 7) rfl))) (by decide) (backOf (W := 0) (rm2 l Z a0 hw [] (if (1 : Int32) < (pp1 &&& (2147483647 : Int32)) then (pp1 &&& (2147483647 : Int32)) else (1 : Int32)) (2147483643 : Int32) h0 n0 Z0 ) hZ (hw _ (List.mem_of_getElem? (i := 7) rfl)) (hw _ (List.mem_of_getElem? (i := 3) rfl)) (by decide) (by decide)) (g := (mkF m 23 #[.val (.int pp1), .val (.int pp2), .val (.int (5 : Int32)), .val (.int (if (1 : Int32) < (pp1 &&& (2147483647 : Int32)) then (pp1 &&& (2147483647 : Int32)) else (1 : Int32))), .unset, .unset, .unset] [(.int (2147483643 : Int32)), (.int (if (1 : Int32) < (pp1 &&& (2147483647 : Int32)) then (pp1 &&& (2147483647 : Int32)) else (1 : Int32)))])) rfl (by rw [hml]; rfl) (argsL := [(.int (if (1 : Int32) < (pp1 &&& (2147483647 : Int32)) then (pp1 &&& (2147483647 : Int32)) else (1 : Int32))), (.int (2147483643 : Int32))]) (rest := []) (lenOf pd__28_II_29_I rfl) rfl (by show 2 * 0 + _ ≤ _; exact Nat.le_of_eq rfl) (hb hby at_23) (fun _ _ => ⟨rfl, e103, (by decide : 0 + 0 ≤ _), (by decide : 0 + 0 ≤ _)⟩)
    dsimp only [Pt.U, Pt.locs, Pt.cells, Pt.slots] at X104 l104 y104 z104 st104 hQ104
    subst l104 y104 z104
    obtain ⟨rfl, N104q, e104⟩ := hQ104
    have N104 := Fr.app N103 N104q
    have pre105 : ∀ t, Steps p.tables e below (T104.setTop (mkF m 27 #[.val (.int pp1), .val (.int pp2), .val (.int (5 : Int32)), .val (.int (if (2147483643 : Int32) < (if (1 : Int32) < (pp1 &&& (2147483647 : Int32)) then (pp1 &&& (2147483647 : Int32)) else (1 : Int32)) then (2147483643 : Int32) else (if (1 : Int32) < (pp1 &&& (2147483647 : Int32)) then (pp1 &&& (2147483647 : Int32)) else (1 : Int32)))), .unset, .unset, .unset] [])) t → Steps p.tables e below (s₁.setTop (entryFrame m #[(.int pp1), (.int pp2)] maxLocals)) t := fun t kt => pre2 t (by
      show Steps p.tables e below (s₁.setTop (mkF m 7 #[.val (.int pp1), .val (.int pp2), .val (.int (5 : Int32)), .unset, .unset, .unset, .unset] [])) _
      refine XS.iconst X0.here hx rfl (hb hby at_7) ?_
      show Steps p.tables e below (s₁.setTop (mkF m 8 #[.val (.int pp1), .val (.int pp2), .val (.int (5 : Int32)), .unset, .unset, .unset, .unset] [(.int (1 : Int32))])) _
      refine XS.iloadN X0.here hx rfl (hb hby at_8) rfl ?_
      show Steps p.tables e below (s₁.setTop (mkF m 9 #[.val (.int pp1), .val (.int pp2), .val (.int (5 : Int32)), .unset, .unset, .unset, .unset] [(.int pp1), (.int (1 : Int32))])) _
      refine X0.ldcInt hx hown (mvT hZ (hw _ (List.mem_of_getElem? (i := 0) rfl))) (g := (mkF m 9 #[.val (.int pp1), .val (.int pp2), .val (.int (5 : Int32)), .unset, .unset, .unset, .unset] [(.int pp1), (.int (1 : Int32))])) rfl (hb hby at_9) _ ?_
      show Steps p.tables e below (s₁.setTop (mkF m 11 #[.val (.int pp1), .val (.int pp2), .val (.int (5 : Int32)), .unset, .unset, .unset, .unset] [(.int (2147483647 : Int32)), (.int pp1), (.int (1 : Int32))])) _
      refine XS.iand X0.here hx rfl (hb hby at_11) rfl ?_
      show Steps p.tables e below (s₁.setTop (mkF m 12 #[.val (.int pp1), .val (.int pp2), .val (.int (5 : Int32)), .unset, .unset, .unset, .unset] [(.int (pp1 &&& (2147483647 : Int32))), (.int (1 : Int32))])) _
      refine st103 _ ?_
      show Steps p.tables e below (T103.setTop (mkF m 15 #[.val (.int pp1), .val (.int pp2), .val (.int (5 : Int32)), .unset, .unset, .unset, .unset] [(.int (if (1 : Int32) < (pp1 &&& (2147483647 : Int32)) then (pp1 &&& (2147483647 : Int32)) else (1 : Int32)))])) _
      refine XS.istoreN X103.here hx rfl (hb hby at_15) rfl (l' := #[.val (.int pp1), .val (.int pp2), .val (.int (5 : Int32)), .val (.int (if (1 : Int32) < (pp1 &&& (2147483647 : Int32)) then (pp1 &&& (2147483647 : Int32)) else (1 : Int32))), .unset, .unset, .unset]) rfl ?_
      show Steps p.tables e below (T103.setTop (mkF m 16 #[.val (.int pp1), .val (.int pp2), .val (.int (5 : Int32)), .val (.int (if (1 : Int32) < (pp1 &&& (2147483647 : Int32)) then (pp1 &&& (2147483647 : Int32)) else (1 : Int32))), .unset, .unset, .unset] [])) _
      refine XS.iloadN X103.here hx rfl (hb hby at_16) rfl ?_
      show Steps p.tables e below (T103.setTop (mkF m 17 #[.val (.int pp1), .val (.int pp2), .val (.int (5 : Int32)), .val (.int (if (1 : Int32) < (pp1 &&& (2147483647 : Int32)) then (pp1 &&& (2147483647 : Int32)) else (1 : Int32))), .unset, .unset, .unset] [(.int (if (1 : Int32) < (pp1 &&& (2147483647 : Int32)) then (pp1 &&& (2147483647 : Int32)) else (1 : Int32)))])) _
      refine X103.ldcInt hx hown (mvT hZ (hw _ (List.mem_of_getElem? (i := 0) rfl))) (g := (mkF m 17 #[.val (.int pp1), .val (.int pp2), .val (.int (5 : Int32)), .val (.int (if (1 : Int32) < (pp1 &&& (2147483647 : Int32)) then (pp1 &&& (2147483647 : Int32)) else (1 : Int32))), .unset, .unset, .unset] [(.int (if (1 : Int32) < (pp1 &&& (2147483647 : Int32)) then (pp1 &&& (2147483647 : Int32)) else (1 : Int32)))])) rfl (hb hby at_17) _ ?_
      show Steps p.tables e below (T103.setTop (mkF m 19 #[.val (.int pp1), .val (.int pp2), .val (.int (5 : Int32)), .val (.int (if (1 : Int32) < (pp1 &&& (2147483647 : Int32)) then (pp1 &&& (2147483647 : Int32)) else (1 : Int32))), .unset, .unset, .unset] [(.int (2147483647 : Int32)), (.int (if (1 : Int32) < (pp1 &&& (2147483647 : Int32)) then (pp1 &&& (2147483647 : Int32)) else (1 : Int32)))])) _
      refine XS.iloadN X103.here hx rfl (hb hby at_19) rfl ?_
      show Steps p.tables e below (T103.setTop (mkF m 20 #[.val (.int pp1), .val (.int pp2), .val (.int (5 : Int32)), .val (.int (if (1 : Int32) < (pp1 &&& (2147483647 : Int32)) then (pp1 &&& (2147483647 : Int32)) else (1 : Int32))), .unset, .unset, .unset] [(.int (5 : Int32)), (.int (2147483647 : Int32)), (.int (if (1 : Int32) < (pp1 &&& (2147483647 : Int32)) then (pp1 &&& (2147483647 : Int32)) else (1 : Int32)))])) _
      refine XS.isub X103.here hx rfl (hb hby at_20) rfl ?_
      show Steps p.tables e below (T103.setTop (mkF m 21 #[.val (.int pp1), .val (.int pp2), .val (.int (5 : Int32)), .val (.int (if (1 : Int32) < (pp1 &&& (2147483647 : Int32)) then (pp1 &&& (2147483647 : Int32)) else (1 : Int32))), .unset, .unset, .unset] [(.int (2147483642 : Int32)), (.int (if (1 : Int32) < (pp1 &&& (2147483647 : Int32)) then (pp1 &&& (2147483647 : Int32)) else (1 : Int32)))])) _
      refine XS.iconst X103.here hx rfl (hb hby at_21) ?_
      show Steps p.tables e below (T103.setTop (mkF m 22 #[.val (.int pp1), .val (.int pp2), .val (.int (5 : Int32)), .val (.int (if (1 : Int32) < (pp1 &&& (2147483647 : Int32)) then (pp1 &&& (2147483647 : Int32)) else (1 : Int32))), .unset, .unset, .unset] [(.int (1 : Int32)), (.int (2147483642 : Int32)), (.int (if (1 : Int32) < (pp1 &&& (2147483647 : Int32)) then (pp1 &&& (2147483647 : Int32)) else (1 : Int32)))])) _
      refine XS.iadd X103.here hx rfl (hb hby at_22) rfl ?_
      show Steps p.tables e below (T103.setTop (mkF m 23 #[.val (.int pp1), .val (.int pp2), .val (.int (5 : Int32)), .val (.int (if (1 : Int32) < (pp1 &&& (2147483647 : Int32)) then (pp1 &&& (2147483647 : Int32)) else (1 : Int32))), .unset, .unset, .unset] [(.int (2147483643 : Int32)), (.int (if (1 : Int32) < (pp1 &&& (2147483647 : Int32)) then (pp1 &&& (2147483647 : Int32)) else (1 : Int32)))])) _
      refine st104 _ ?_
      show Steps p.tables e below (T104.setTop (mkF m 26 #[.val (.int pp1), .val (.int pp2), .val (.int (5 : Int32)), .val (.int (if (1 : Int32) < (pp1 &&& (2147483647 : Int32)) then (pp1 &&& (2147483647 : Int32)) else (1 : Int32))), .unset, .unset, .unset] [(.int (if (2147483643 : Int32) < (if (1 : Int32) < (pp1 &&& (2147483647 : Int32)) then (pp1 &&& (2147483647 : Int32)) else (1 : Int32)) then (2147483643 : Int32) else (if (1 : Int32) < (pp1 &&& (2147483647 : Int32)) then (pp1 &&& (2147483647 : Int32)) else (1 : Int32))))])) _
      refine XS.istoreN X104.here hx rfl (hb hby at_26) rfl (l' := #[.val (.int pp1), .val (.int pp2), .val (.int (5 : Int32)), .val (.int (if (2147483643 : Int32) < (if (1 : Int32) < (pp1 &&& (2147483647 : Int32)) then (pp1 &&& (2147483647 : Int32)) else (1 : Int32)) then (2147483643 : Int32) else (if (1 : Int32) < (pp1 &&& (2147483647 : Int32)) then (pp1 &&& (2147483647 : Int32)) else (1 : Int32)))), .unset, .unset, .unset]) rfl ?_
      exact kt)
    obtain ⟨fi, pre106⟩ : ∃ (fi : Int32), ∀ t, Steps p.tables e below (T104.setTop (mkF m 27 #[.val (.int pp1), .val (.int pp2), .val (.int (5 : Int32)), .val (.int fi), .unset, .unset, .unset] [])) t → Steps p.tables e below (s₁.setTop (entryFrame m #[(.int pp1), (.int pp2)] maxLocals)) t := ⟨(if (2147483643 : Int32) < (if (1 : Int32) < (pp1 &&& (2147483647 : Int32)) then (pp1 &&& (2147483647 : Int32)) else (1 : Int32)) then (2147483643 : Int32) else (if (1 : Int32) < (pp1 &&& (2147483647 : Int32)) then (pp1 &&& (2147483647 : Int32)) else (1 : Int32))), pre105⟩
    obtain ⟨T107, h107, X107, e107, E107, A107, D107, -, st107⟩ := newO X104 hx hZ hown (hw _ (List.mem_of_getElem? (i := 8) rfl)) (hw _ (List.mem_of_getElem? (i := 9) rfl)) (hw _ (List.mem_of_getElem? (i := 10) rfl)) e104 (g := (mkF m 34 #[.val (.int pp1), .val (.int pp2), .val (.int (5 : Int32)), .val (.int fi), .val (.int ((fi + (5 : Int32)) - (1 : Int32))), .unset, .unset] [])) rfl (hb hby at_34) (by decide) (by decide)
    obtain ⟨b107, g107⟩ : ∃ z, z = h0.size := ⟨_, rfl⟩
    rw [← g107] at A107 D107 st107
    have g_b107 : n0 ≤ b107 := Nat.le_trans Z0 (Nat.le_of_eq g107.symm)
    have Z107 : n0 ≤ h107.size := Nat.le_trans Z0 E107.1
    have kz107 := Nat.le_trans (Nat.le_refl _) E107.1
    have F107_name : Fld Z h107 b107 "com/example/escapement/escapement/cli/PartitionTable$Partition" "name" "Ljava/lang/String;" .null := D107 (Or.inr (hw _ (List.mem_of_getElem? (i := 31) rfl))) (ty := (.object "java/lang/String")) (by decide)
    have F107_first : Fld Z h107 b107 "com/example/escapement/escapement/cli/PartitionTable$Partition" "first" "I" (.int (0 : Int32)) := D107 (Or.inr (hw _ (List.mem_of_getElem? (i := 33) rfl))) (ty := .int) (by decide)
    have F107_last : Fld Z h107 b107 "com/example/escapement/escapement/cli/PartitionTable$Partition" "last" "I" (.int (0 : Int32)) := D107 (Or.inr (hw _ (List.mem_of_getElem? (i := 35) rfl))) (ty := .int) (by decide)
    have pre108 : ∀ t, Steps p.tables e below (T107.setTop (mkF m 38 #[.val (.int pp1), .val (.int pp2), .val (.int (5 : Int32)), .val (.int fi), .val (.int ((fi + (5 : Int32)) - (1 : Int32))), .unset, .unset] [(.ref b107), (.ref b107)])) t → Steps p.tables e below (s₁.setTop (entryFrame m #[(.int pp1), (.int pp2)] maxLocals)) t := fun t kt => pre106 t (by
      show Steps p.tables e below (T104.setTop (mkF m 27 #[.val (.int pp1), .val (.int pp2), .val (.int (5 : Int32)), .val (.int fi), .unset, .unset, .unset] [])) _
      refine XS.iloadN X104.here hx rfl (hb hby at_27) rfl ?_
      show Steps p.tables e below (T104.setTop (mkF m 28 #[.val (.int pp1), .val (.int pp2), .val (.int (5 : Int32)), .val (.int fi), .unset, .unset, .unset] [(.int fi)])) _
      refine XS.iloadN X104.here hx rfl (hb hby at_28) rfl ?_
      show Steps p.tables e below (T104.setTop (mkF m 29 #[.val (.int pp1), .val (.int pp2), .val (.int (5 : Int32)), .val (.int fi), .unset, .unset, .unset] [(.int (5 : Int32)), (.int fi)])) _
      refine XS.iadd X104.here hx rfl (hb hby at_29) rfl ?_
      show Steps p.tables e below (T104.setTop (mkF m 30 #[.val (.int pp1), .val (.int pp2), .val (.int (5 : Int32)), .val (.int fi), .unset, .unset, .unset] [(.int (fi + (5 : Int32)))])) _
      refine XS.iconst X104.here hx rfl (hb hby at_30) ?_
      show Steps p.tables e below (T104.setTop (mkF m 31 #[.val (.int pp1), .val (.int pp2), .val (.int (5 : Int32)), .val (.int fi), .unset, .unset, .unset] [(.int (1 : Int32)), (.int (fi + (5 : Int32)))])) _
      refine XS.isub X104.here hx rfl (hb hby at_31) rfl ?_
      show Steps p.tables e below (T104.setTop (mkF m 32 #[.val (.int pp1), .val (.int pp2), .val (.int (5 : Int32)), .val (.int fi), .unset, .unset, .unset] [(.int ((fi + (5 : Int32)) - (1 : Int32)))])) _
      refine XS.istore X104.here hx rfl (hb hby at_32) rfl (l' := #[.val (.int pp1), .val (.int pp2), .val (.int (5 : Int32)), .val (.int fi), .val (.int ((fi + (5 : Int32)) - (1 : Int32))), .unset, .unset]) rfl ?_
      show Steps p.tables e below (T104.setTop (mkF m 34 #[.val (.int pp1), .val (.int pp2), .val (.int (5 : Int32)), .val (.int fi), .val (.int ((fi + (5 : Int32)) - (1 : Int32))), .unset, .unset] [])) _
      refine st107 _ ?_
      show Steps p.tables e below (T107.setTop (mkF m 37 #[.val (.int pp1), .val (.int pp2), .val (.int (5 : Int32)), .val (.int fi), .val (.int ((fi + (5 : Int32)) - (1 : Int32))), .unset, .unset] [(.ref b107)])) _
      refine XS.dup X107.here hx rfl (hb hby at_37) rfl rfl ?_
      exact kt)
    obtain ⟨a109, T109, h109, kk109, X109, e109, E109, hS109, kz109, hZ, hown, st109⟩ := ldcS (s := s) (vm0 := s.vm) X107 hx hZ hown (hw _ (List.mem_of_getElem? (i := 11) rfl)) (fun d hd => hw d (own_str_in d hd)) e107 hS0 kz107 (g := (mkF m 38 #[.val (.int pp1), .val (.int pp2), .val (.int (5 : Int32)), .val (.int fi), .val (.int ((fi + (5 : Int32)) - (1 : Int32))), .unset, .unset] [(.ref b107), (.ref b107)])) rfl (hb hby at_38) (n := 4) (by decide) (by decide) (by decide) (by decide)
    have Z109 : n0 ≤ h109.size := Nat.le_trans Z107 E109.1
    have E_110 : Exa Z h109 b107 "com/example/escapement/escapement/cli/PartitionTable$Partition" := (A107.ext E109)
    have F_111 : Fld Z h109 b107 "com/example/escapement/escapement/cli/PartitionTable$Partition" "name" "Ljava/lang/String;" .null := (F107_name.ext E109)
    have F_112 : Fld Z h109 b107 "com/example/escapement/escapement/cli/PartitionTable$Partition" "first" "I" (.int (0 : Int32)) := (F107_first.ext E109)
    have F_113 : Fld Z h109 b107 "com/example/escapement/escapement/cli/PartitionTable$Partition" "last" "I" (.int (0 : Int32)) := (F107_last.ext E109)
    obtain ⟨_, _, ⟨T114, L114, k114, n114⟩, -, X114, ⟨Lc114, hQ114, l114, y114, z114⟩, st114⟩ := X109.specialBack hx (y := (⟨"com/example/escapement/escapement/cli/PartitionTable$Partition", "<init>", "(Ljava/lang/String;II)V"⟩ : MethodName)) rfl hown (mvT hZ (hw _ (List.mem_of_getElem? (i := 19) rfl))) (mvT hZ (hw _ (List.mem_of_getElem? (i := 20) rfl))) (mvT hZ (hw _ (List.mem_of_getElem? (i := 21) rfl))) (by decide) (backOf (W := 1) (rm3 l Z a0 hw [] b107 a109 fi ((fi + (5 : Int32)) - (1 : Int32)) .null (.int (0 : Int32)) (.int (0 : Int32)) h109 n0 Z109 E_110 g_b107 F_111 F_112 F_113) hZ (hw _ (List.mem_of_getElem? (i := 21) rfl)) (hw _ (List.mem_of_getElem? (i := 10) rfl)) (by decide) (by decide)) (g := (mkF m 43 #[.val (.int pp1), .val (.int pp2), .val (.int (5 : Int32)), .val (.int fi), .val (.int ((fi + (5 : Int32)) - (1 : Int32))), .unset, .unset] [(.int ((fi + (5 : Int32)) - (1 : Int32))), (.int fi), (.ref a109), (.ref b107), (.ref b107)])) rfl (by rw [hml]; rfl) (Steps.refl _) (a := b107) (argsL := [(.ref a109), (.int fi), (.int ((fi + (5 : Int32)) - (1 : Int32)))]) (rest := [(.ref b107)]) (lenOf pd__28_Ljava_2f_lang_2f_String_3b_II_29_V rfl) rfl (by show 2 * 0 + _ ≤ _; exact Nat.le_of_eq rfl) (hb hby at_43) (fun _ _ => ⟨rfl, e109, (by decide : 3 + 0 ≤ _), (by decide : 11 + 0 ≤ _)⟩)
    dsimp only [Pt.U, Pt.locs, Pt.cells, Pt.slots] at X114 l114 y114 z114 st114 hQ114
    subst l114 y114 z114
    obtain ⟨rfl, N114q, K114c, R114_0, R114_1, R114_2⟩ := hQ114
    have N114 := Fr.app N104 N114q
    have Z114 : n0 ≤ T114.heap.size := Nat.le_trans Z109 K114c.1
    have kz114 := Nat.le_trans kz109 K114c.1
    have E_116 : Exa Z T114.heap b107 "com/example/escapement/escapement/cli/PartitionTable$Partition" := (E_110.keep K114c)
    obtain ⟨cq115, kq115, q115a, q115b, q115c⟩ := isOf hZ rfl E_116
    obtain ⟨_, _, ⟨T115, L115, k115, n115⟩, -, X115, ⟨Lc115, hQ115, l115, y115, z115⟩, st115⟩ := X114.virtualBack hx (y := (⟨"com/example/escapement/escapement/cli/PartitionTable$Partition", "sites", "()[I"⟩ : MethodName)) (z := (⟨"com/example/escapement/escapement/cli/PartitionTable$Partition", "sites", "()[I"⟩ : MethodName)) hown (mvT hZ (hw _ (List.mem_of_getElem? (i := 36) rfl))) (mvT hZ (hw _ (List.mem_of_getElem? (i := 37) rfl))) (notFace_of_selects (args := #[]) (mvT hZ (hw _ (List.mem_of_getElem? (i := 39) rfl)))) (mvT hZ (hw _ (List.mem_of_getElem? (i := 39) rfl))) (mvT hZ (hw _ (List.mem_of_getElem? (i := 38) rfl))) (by decide) (backOf (W := 0) (rm6_5 l Z a0 hw [] b107 fi ((fi + (5 : Int32)) - (1 : Int32)) T114.heap n0 Z114 R114_1 R114_2 (show ((((fi + (5 : Int32)) - (1 : Int32)) - fi) + (1 : Int32)) = (5 : Int32) from own_len fi (5 : Int32))) hZ (hw _ (List.mem_of_getElem? (i := 40) rfl)) (hw _ (List.mem_of_getElem? (i := 10) rfl)) (by decide) (by decide)) q115a q115c (g := (mkF m 50 #[.val (.int pp1), .val (.int pp2), .val (.int (5 : Int32)), .val (.int fi), .val (.int ((fi + (5 : Int32)) - (1 : Int32))), .val (.ref b107), .unset] [(.ref b107)])) rfl (by rw [hml]; rfl) (Steps.refl _) (argsL := []) (rest := []) (lenOf pd__28__29__5b_I rfl) rfl (by show 2 * 0 + _ ≤ _; exact Nat.le_of_eq rfl) (hb hby at_50) (fun _ _ => ⟨rfl, rfl, (by decide : 3 + 1 ≤ _), (by decide : 11 + 5 ≤ _)⟩)
    dsimp only [Pt.U, Pt.locs, Pt.cells, Pt.slots] at X115 l115 y115 z115 st115 hQ115
    subst l115 y115 z115
    obtain ⟨bx_115, kx_115, rfl, N115q, K115c, g_bx_115, sb_bx_115, R115_0⟩ := hQ115
    have N115 := Fr.app N114 N115q
    have Z115 : n0 ≤ T115.heap.size := Nat.le_trans Z114 K115c.1
    have kz115 := Nat.le_trans kz114 K115c.1
    obtain ⟨cl_117, Ar_117, -, Sz_117, Nn_117, -, -⟩ := id R115_0
    have hc64_5 : (5 : Int32) = (5 : Int32) := by decide
    obtain ⟨cl_118, Ar_118, qq_118, Sz_118, Nn_118, Hh_118, Gg_118⟩ := id R115_0
    have hin_118 : ¬ ((0 : Int32) < 0 ∨ cl_118.slots.size ≤ ((0 : Int32)).toNatClampNeg) := inb_of Sz_118 ⟨by decide, by decide⟩
    have hat_118 : cl_118.slots[((0 : Int32)).toNatClampNeg]? = some (.int ((fi - (1 : Int32)) + (0 : Int32))) := Has.at Hh_118 hin_118 rfl
    have hc76_5 : ((fi - (1 : Int32)) + (0 : Int32)) = (fi - (1 : Int32)) := Int32.add_zero _
    obtain ⟨cl_119, Ar_119, qq_119, Sz_119, Nn_119, Hh_119, Gg_119⟩ := id R115_0
    have hin_119 : ¬ ((4 : Int32) < 0 ∨ cl_119.slots.size ≤ ((4 : Int32)).toNatClampNeg) := inb_of Sz_119 ⟨by decide, by decide⟩
    have hat_119 : cl_119.slots[((4 : Int32)).toNatClampNeg]? = some (.int ((fi - (1 : Int32)) + (4 : Int32))) := Has.at Hh_119 hin_119 rfl
    have hc89_5 : ((fi - (1 : Int32)) + (4 : Int32)) = (((fi + (5 : Int32)) - (1 : Int32)) - (1 : Int32)) := own_last fi (5 : Int32)
    obtain ⟨_, _, ⟨T120, L120, k120, n120⟩, -, X120, ⟨Lc120, hQ120, l120, y120, z120⟩, st120⟩ := Jvm.LawKit.callS X115 hx (y := (⟨"com/example/escapement/escapement/cli/PartitionSitesPinLaw", "at", "([III)Z"⟩ : MethodName)) hown (mvT hZ (hw _ (List.mem_of_getElem? (i := 42) rfl))) (mvT hZ (hw _ (List.mem_of_getElem? (i := 43) rfl))) (mvT hZ (hw _ (List.mem_of_getElem? (i := 44) rfl))) (mvT hZ (hw _ (List.mem_of_getElem? (i := 45) rfl))) (by decide) (backOf (W := 0) (rm7 l Z a0 hw [] bx_115 (0 : Int32) fi kx_115 (5 : Int32) [(.int ((fi - (1 : Int32)) + (0 : Int32))), (.int ((fi - (1 : Int32)) + (1 : Int32))), (.int ((fi - (1 : Int32)) + (2 : Int32))), (.int ((fi - (1 : Int32)) + (3 : Int32))), (.int ((fi - (1 : Int32)) + (4 : Int32)))] T115.heap n0 Z115 R115_0 (show ¬ (0 : Int32) < (0 : Int32) from (by decide)) (show (0 : Int32) < (5 : Int32) → ([(.int ((fi - (1 : Int32)) + (0 : Int32))), (.int ((fi - (1 : Int32)) + (1 : Int32))), (.int ((fi - (1 : Int32)) + (2 : Int32))), (.int ((fi - (1 : Int32)) + (3 : Int32))), (.int ((fi - (1 : Int32)) + (4 : Int32)))] : List Value).getD ((0 : Int32)).toNatClampNeg (.int (0 : Int32)) = .int ((fi - (1 : Int32)) + (0 : Int32)) from (fun _ => rfl))) hZ (hw _ (List.mem_of_getElem? (i := 45) rfl)) (hw _ (List.mem_of_getElem? (i := 44) rfl)) (by decide) (by decide)) (g := (mkF m 98 #[.val (.int pp1), .val (.int pp2), .val (.int (5 : Int32)), .val (.int fi), .val (.int ((fi + (5 : Int32)) - (1 : Int32))), .val (.ref b107), .val (.ref bx_115)] [(.int fi), (.int (0 : Int32)), (.ref bx_115)])) rfl (by rw [hml]; rfl) (argsL := [(.ref bx_115), (.int (0 : Int32)), (.int fi)]) (rest := []) (lenOf pd__28__5b_III_29_Z rfl) rfl (by show 2 * 0 + _ ≤ _; exact Nat.le_of_eq rfl) (hb hby at_98) (fun _ _ => ⟨rfl, rfl, (by decide : 4 + 0 ≤ _), (by decide : 16 + 0 ≤ _)⟩)
    dsimp only [Pt.U, Pt.locs, Pt.cells, Pt.slots] at X120 l120 y120 z120 st120 hQ120
    subst l120 y120 z120
    obtain ⟨rfl, N120q, e120⟩ := hQ120
    have N120 := Fr.app N115 N120q
    have hc101_5 : ¬ ((1 : Int32) = (0 : Int32)) := by decide
    obtain ⟨_, _, ⟨T121, L121, k121, n121⟩, -, X121, ⟨Lc121, hQ121, l121, y121, z121⟩, st121⟩ := Jvm.LawKit.callS X120 hx (y := (⟨"com/example/escapement/escapement/cli/PartitionSitesPinLaw", "at", "([III)Z"⟩ : MethodName)) hown (mvT hZ (hw _ (List.mem_of_getElem? (i := 42) rfl))) (mvT hZ (hw _ (List.mem_of_getElem? (i := 43) rfl))) (mvT hZ (hw _ (List.mem_of_getElem? (i := 44) rfl))) (mvT hZ (hw _ (List.mem_of_getElem? (i := 45) rfl))) (by decide) (backOf (W := 0) (rm7 l Z a0 hw [] bx_115 (1 : Int32) fi kx_115 (5 : Int32) [(.int ((fi - (1 : Int32)) + (0 : Int32))), (.int ((fi - (1 : Int32)) + (1 : Int32))), (.int ((fi - (1 : Int32)) + (2 : Int32))), (.int ((fi - (1 : Int32)) + (3 : Int32))), (.int ((fi - (1 : Int32)) + (4 : Int32)))] T115.heap n0 Z115 R115_0 (show ¬ (1 : Int32) < (0 : Int32) from (by decide)) (show (1 : Int32) < (5 : Int32) → ([(.int ((fi - (1 : Int32)) + (0 : Int32))), (.int ((fi - (1 : Int32)) + (1 : Int32))), (.int ((fi - (1 : Int32)) + (2 : Int32))), (.int ((fi - (1 : Int32)) + (3 : Int32))), (.int ((fi - (1 : Int32)) + (4 : Int32)))] : List Value).getD ((1 : Int32)).toNatClampNeg (.int (0 : Int32)) = .int ((fi - (1 : Int32)) + (1 : Int32)) from (fun _ => rfl))) hZ (hw _ (List.mem_of_getElem? (i := 45) rfl)) (hw _ (List.mem_of_getElem? (i := 44) rfl)) (by decide) (by decide)) (g := (mkF m 108 #[.val (.int pp1), .val (.int pp2), .val (.int (5 : Int32)), .val (.int fi), .val (.int ((fi + (5 : Int32)) - (1 : Int32))), .val (.ref b107), .val (.ref bx_115)] [(.int fi), (.int (1 : Int32)), (.ref bx_115)])) rfl (by rw [hml]; rfl) (argsL := [(.ref bx_115), (.int (1 : Int32)), (.int fi)]) (rest := []) (lenOf pd__28__5b_III_29_Z rfl) rfl (by show 2 * 0 + _ ≤ _; exact Nat.le_of_eq rfl) (hb hby at_108) (fun _ _ => ⟨rfl, e120, (by decide : 4 + 0 ≤ _), (by decide : 16 + 0 ≤ _)⟩)
    dsimp only [Pt.U, Pt.locs, Pt.cells, Pt.slots] at X121 l121 y121 z121 st121 hQ121
    subst l121 y121 z121
    obtain ⟨rfl, N121q, e121⟩ := hQ121
    have N121 := Fr.app N120 N121q
    have hc111_5 : ¬ ((1 : Int32) = (0 : Int32)) := by decide
    obtain ⟨_, _, ⟨T122, L122, k122, n122⟩, -, X122, ⟨Lc122, hQ122, l122, y122, z122⟩, st122⟩ := Jvm.LawKit.callS X121 hx (y := (⟨"com/example/escapement/escapement/cli/PartitionSitesPinLaw", "at", "([III)Z"⟩ : MethodName)) hown (mvT hZ (hw _ (List.mem_of_getElem? (i := 42) rfl))) (mvT hZ (hw _ (List.mem_of_getElem? (i := 43) rfl))) (mvT hZ (hw _ (List.mem_of_getElem? (i := 44) rfl))) (mvT hZ (hw _ (List.mem_of_getElem? (i := 45) rfl))) (by decide) (backOf (W := 0) (rm7 l Z a0 hw [] bx_115 (2 : Int32) fi kx_115 (5 : Int32) [(.int ((fi - (1 : Int32)) + (0 : Int32))), (.int ((fi - (1 : Int32)) + (1 : Int32))), (.int ((fi - (1 : Int32)) + (2 : Int32))), (.int ((fi - (1 : Int32)) + (3 : Int32))), (.int ((fi - (1 : Int32)) + (4 : Int32)))] T115.heap n0 Z115 R115_0 (show ¬ (2 : Int32) < (0 : Int32) from (by decide)) (show (2 : Int32) < (5 : Int32) → ([(.int ((fi - (1 : Int32)) + (0 : Int32))), (.int ((fi - (1 : Int32)) + (1 : Int32))), (.int ((fi - (1 : Int32)) + (2 : Int32))), (.int ((fi - (1 : Int32)) + (3 : Int32))), (.int ((fi - (1 : Int32)) + (4 : Int32)))] : List Value).getD ((2 : Int32)).toNatClampNeg (.int (0 : Int32)) = .int ((fi - (1 : Int32)) + (2 : Int32)) from (fun _ => rfl))) hZ (hw _ (List.mem_of_getElem? (i := 45) rfl)) (hw _ (List.mem_of_getElem? (i := 44) rfl)) (by decide) (by decide)) (g := (mkF m 118 #[.val (.int pp1), .val (.int pp2), .val (.int (5 : Int32)), .val (.int fi), .val (.int ((fi + (5 : Int32)) - (1 : Int32))), .val (.ref b107), .val (.ref bx_115)] [(.int fi), (.int (2 : Int32)), (.ref bx_115)])) rfl (by rw [hml]; rfl) (argsL := [(.ref bx_115), (.int (2 : Int32)), (.int fi)]) (rest := []) (lenOf pd__28__5b_III_29_Z rfl) rfl (by show 2 * 0 + _ ≤ _; exact Nat.le_of_eq rfl) (hb hby at_118) (fun _ _ => ⟨rfl, e121, (by decide : 4 + 0 ≤ _), (by decide : 16 + 0 ≤ _)⟩)
    dsimp only [Pt.U, Pt.locs, Pt.cells, Pt.slots] at X122 l122 y122 z122 st122 hQ122
    subst l122 y122 z122
    obtain ⟨rfl, N122q, e122⟩ := hQ122
    have N122 := Fr.app N121 N122q
    have hc121_5 : ¬ ((1 : Int32) = (0 : Int32)) := by decide
    obtain ⟨_, _, ⟨T123, L123, k123, n123⟩, -, X123, ⟨Lc123, hQ123, l123, y123, z123⟩, st123⟩ := Jvm.LawKit.callS X122 hx (y := (⟨"com/example/escapement/escapement/cli/PartitionSitesPinLaw", "at", "([III)Z"⟩ : MethodName)) hown (mvT hZ (hw _ (List.mem_of_getElem? (i := 42) rfl))) (mvT hZ (hw _ (List.mem_of_getElem? (i := 43) rfl))) (mvT hZ (hw _ (List.mem_of_getElem? (i := 44) rfl))) (mvT hZ (hw _ (List.mem_of_getElem? (i := 45) rfl))) (by decide) (backOf (W := 0) (rm7 l Z a0 hw [] bx_115 (3 : Int32) fi kx_115 (5 : Int32) [(.int ((fi - (1 : Int32)) + (0 : Int32))), (.int ((fi - (1 : Int32)) + (1 : Int32))), (.int ((fi - (1 : Int32)) + (2 : Int32))), (.int ((fi - (1 : Int32)) + (3 : Int32))), (.int ((fi - (1 : Int32)) + (4 : Int32)))] T115.heap n0 Z115 R115_0 (show ¬ (3 : Int32) < (0 : Int32) from (by decide)) (show (3 : Int32) < (5 : Int32) → ([(.int ((fi - (1 : Int32)) + (0 : Int32))), (.int ((fi - (1 : Int32)) + (1 : Int32))), (.int ((fi - (1 : Int32)) + (2 : Int32))), (.int ((fi - (1 : Int32)) + (3 : Int32))), (.int ((fi - (1 : Int32)) + (4 : Int32)))] : List Value).getD ((3 : Int32)).toNatClampNeg (.int (0 : Int32)) = .int ((fi - (1 : Int32)) + (3 : Int32)) from (fun _ => rfl))) hZ (hw _ (List.mem_of_getElem? (i := 45) rfl)) (hw _ (List.mem_of_getElem? (i := 44) rfl)) (by decide) (by decide)) (g := (mkF m 128 #[.val (.int pp1), .val (.int pp2), .val (.int (5 : Int32)), .val (.int fi), .val (.int ((fi + (5 : Int32)) - (1 : Int32))), .val (.ref b107), .val (.ref bx_115)] [(.int fi), (.int (3 : Int32)), (.ref bx_115)])) rfl (by rw [hml]; rfl) (argsL := [(.ref bx_115), (.int (3 : Int32)), (.int fi)]) (rest := []) (lenOf pd__28__5b_III_29_Z rfl) rfl (by show 2 * 0 + _ ≤ _; exact Nat.le_of_eq rfl) (hb hby at_128) (fun _ _ => ⟨rfl, e122, (by decide : 4 + 0 ≤ _), (by decide : 16 + 0 ≤ _)⟩)
    dsimp only [Pt.U, Pt.locs, Pt.cells, Pt.slots] at X123 l123 y123 z123 st123 hQ123
    subst l123 y123 z123
    obtain ⟨rfl, N123q, e123⟩ := hQ123
    have N123 := Fr.app N122 N123q
    have hc131_5 : ¬ ((1 : Int32) = (0 : Int32)) := by decide
    obtain ⟨_, _, ⟨T124, L124, k124, n124⟩, -, X124, ⟨Lc124, hQ124, l124, y124, z124⟩, st124⟩ := Jvm.LawKit.callS X123 hx (y := (⟨"com/example/escapement/escapement/cli/PartitionSitesPinLaw", "at", "([III)Z"⟩ : MethodName)) hown (mvT hZ (hw _ (List.mem_of_getElem? (i := 42) rfl))) (mvT hZ (hw _ (List.mem_of_getElem? (i := 43) rfl))) (mvT hZ (hw _ (List.mem_of_getElem? (i := 44) rfl))) (mvT hZ (hw _ (List.mem_of_getElem? (i := 45) rfl))) (by decide) (backOf (W := 0) (rm7 l Z a0 hw [] bx_115 (4 : Int32) fi kx_115 (5 : Int32) [(.int ((fi - (1 : Int32)) + (0 : Int32))), (.int ((fi - (1 : Int32)) + (1 : Int32))), (.int ((fi - (1 : Int32)) + (2 : Int32))), (.int ((fi - (1 : Int32)) + (3 : Int32))), (.int ((fi - (1 : Int32)) + (4 : Int32)))] T115.heap n0 Z115 R115_0 (show ¬ (4 : Int32) < (0 : Int32) from (by decide)) (show (4 : Int32) < (5 : Int32) → ([(.int ((fi - (1 : Int32)) + (0 : Int32))), (.int ((fi - (1 : Int32)) + (1 : Int32))), (.int ((fi - (1 : Int32)) + (2 : Int32))), (.int ((fi - (1 : Int32)) + (3 : Int32))), (.int ((fi - (1 : Int32)) + (4 : Int32)))] : List Value).getD ((4 : Int32)).toNatClampNeg (.int (0 : Int32)) = .int ((fi - (1 : Int32)) + (4 : Int32)) from (fun _ => rfl))) hZ (hw _ (List.mem_of_getElem? (i := 45) rfl)) (hw _ (List.mem_of_getElem? (i := 44) rfl)) (by decide) (by decide)) (g := (mkF m 138 #[.val (.int pp1), .val (.int pp2), .val (.int (5 : Int32)), .val (.int fi), .val (.int ((fi + (5 : Int32)) - (1 : Int32))), .val (.ref b107), .val (.ref bx_115)] [(.int fi), (.int (4 : Int32)), (.ref bx_115)])) rfl (by rw [hml]; rfl) (argsL := [(.ref bx_115), (.int (4 : Int32)), (.int fi)]) (rest := []) (lenOf pd__28__5b_III_29_Z rfl) rfl (by show 2 * 0 + _ ≤ _; exact Nat.le_of_eq rfl) (hb hby at_138) (fun _ _ => ⟨rfl, e123, (by decide : 4 + 0 ≤ _), (by decide : 16 + 0 ≤ _)⟩)
    dsimp only [Pt.U, Pt.locs, Pt.cells, Pt.slots] at X124 l124 y124 z124 st124 hQ124
    subst l124 y124 z124
    obtain ⟨rfl, N124q, e124⟩ := hQ124
    have N124 := Fr.app N123 N124q
    have hc141_5 : ¬ ((1 : Int32) = (0 : Int32)) := by decide
    obtain ⟨_, _, ⟨T125, L125, k125, n125⟩, -, X125, ⟨Lc125, hQ125, l125, y125, z125⟩, st125⟩ := Jvm.LawKit.callS X124 hx (y := (⟨"com/example/escapement/escapement/cli/PartitionSitesPinLaw", "at", "([III)Z"⟩ : MethodName)) hown (mvT hZ (hw _ (List.mem_of_getElem? (i := 42) rfl))) (mvT hZ (hw _ (List.mem_of_getElem? (i := 43) rfl))) (mvT hZ (hw _ (List.mem_of_getElem? (i := 44) rfl))) (mvT hZ (hw _ (List.mem_of_getElem? (i := 45) rfl))) (by decide) (backOf (W := 0) (rm7 l Z a0 hw [] bx_115 (5 : Int32) fi kx_115 (5 : Int32) [(.int ((fi - (1 : Int32)) + (0 : Int32))), (.int ((fi - (1 : Int32)) + (1 : Int32))), (.int ((fi - (1 : Int32)) + (2 : Int32))), (.int ((fi - (1 : Int32)) + (3 : Int32))), (.int ((fi - (1 : Int32)) + (4 : Int32)))] T115.heap n0 Z115 R115_0 (show ¬ (5 : Int32) < (0 : Int32) from (by decide)) (show (5 : Int32) < (5 : Int32) → ([(.int ((fi - (1 : Int32)) + (0 : Int32))), (.int ((fi - (1 : Int32)) + (1 : Int32))), (.int ((fi - (1 : Int32)) + (2 : Int32))), (.int ((fi - (1 : Int32)) + (3 : Int32))), (.int ((fi - (1 : Int32)) + (4 : Int32)))] : List Value).getD ((5 : Int32)).toNatClampNeg (.int (0 : Int32)) = .int ((fi - (1 : Int32)) + (5 : Int32)) from (fun h => absurd h (by decide)))) hZ (hw _ (List.mem_of_getElem? (i := 45) rfl)) (hw _ (List.mem_of_getElem? (i := 44) rfl)) (by decide) (by decide)) (g := (mkF m 148 #[.val (.int pp1), .val (.int pp2), .val (.int (5 : Int32)), .val (.int fi), .val (.int ((fi + (5 : Int32)) - (1 : Int32))), .val (.ref b107), .val (.ref bx_115)] [(.int fi), (.int (5 : Int32)), (.ref bx_115)])) rfl (by rw [hml]; rfl) (argsL := [(.ref bx_115), (.int (5 : Int32)), (.int fi)]) (rest := []) (lenOf pd__28__5b_III_29_Z rfl) rfl (by show 2 * 0 + _ ≤ _; exact Nat.le_of_eq rfl) (hb hby at_148) (fun _ _ => ⟨rfl, e124, (by decide : 4 + 0 ≤ _), (by decide : 16 + 0 ≤ _)⟩)
    dsimp only [Pt.U, Pt.locs, Pt.cells, Pt.slots] at X125 l125 y125 z125 st125 hQ125
    subst l125 y125 z125
    obtain ⟨rfl, N125q, e125⟩ := hQ125
    have N125 := Fr.app N124 N125q
    have hc151_5 : ¬ ((1 : Int32) = (0 : Int32)) := by decide
    obtain ⟨_, _, ⟨T126, L126, k126, n126⟩, -, X126, ⟨Lc126, hQ126, l126, y126, z126⟩, st126⟩ := Jvm.LawKit.callS X125 hx (y := (⟨"com/example/escapement/escapement/cli/PartitionSitesPinLaw", "at", "([III)Z"⟩ : MethodName)) hown (mvT hZ (hw _ (List.mem_of_getElem? (i := 42) rfl))) (mvT hZ (hw _ (List.mem_of_getElem? (i := 43) rfl))) (mvT hZ (hw _ (List.mem_of_getElem? (i := 44) rfl))) (mvT hZ (hw _ (List.mem_of_getElem? (i := 45) rfl))) (by decide) (backOf (W := 0) (rm7 l Z a0 hw [] bx_115 (6 : Int32) fi kx_115 (5 : Int32) [(.int ((fi - (1 : Int32)) + (0 : Int32))), (.int ((fi - (1 : Int32)) + (1 : Int32))), (.int ((fi - (1 : Int32)) + (2 : Int32))), (.int ((fi - (1 : Int32)) + (3 : Int32))), (.int ((fi - (1 : Int32)) + (4 : Int32)))] T115.heap n0 Z115 R115_0 (show ¬ (6 : Int32) < (0 : Int32) from (by decide)) (show (6 : Int32) < (5 : Int32) → ([(.int ((fi - (1 : Int32)) + (0 : Int32))), (.int ((fi - (1 : Int32)) + (1 : Int32))), (.int ((fi - (1 : Int32)) + (2 : Int32))), (.int ((fi - (1 : Int32)) + (3 : Int32))), (.int ((fi - (1 : Int32)) + (4 : Int32)))] : List Value).getD ((6 : Int32)).toNatClampNeg (.int (0 : Int32)) = .int ((fi - (1 : Int32)) + (6 : Int32)) from (fun h => absurd h (by decide)))) hZ (hw _ (List.mem_of_getElem? (i := 45) rfl)) (hw _ (List.mem_of_getElem? (i := 44) rfl)) (by decide) (by decide)) (g := (mkF m 159 #[.val (.int pp1), .val (.int pp2), .val (.int (5 : Int32)), .val (.int fi), .val (.int ((fi + (5 : Int32)) - (1 : Int32))), .val (.ref b107), .val (.ref bx_115)] [(.int fi), (.int (6 : Int32)), (.ref bx_115)])) rfl (by rw [hml]; rfl) (argsL := [(.ref bx_115), (.int (6 : Int32)), (.int fi)]) (rest := []) (lenOf pd__28__5b_III_29_Z rfl) rfl (by show 2 * 0 + _ ≤ _; exact Nat.le_of_eq rfl) (hb hby at_159) (fun _ _ => ⟨rfl, e125, (by decide : 4 + 0 ≤ _), (by decide : 16 + 0 ≤ _)⟩)
    dsimp only [Pt.U, Pt.locs, Pt.cells, Pt.slots] at X126 l126 y126 z126 st126 hQ126
    subst l126 y126 z126
    obtain ⟨rfl, N126q, e126⟩ := hQ126
    have N126 := Fr.app N125 N126q
    have hc162_5 : ¬ ((1 : Int32) = (0 : Int32)) := by decide
    obtain ⟨_, _, ⟨T127, L127, k127, n127⟩, -, X127, ⟨Lc127, hQ127, l127, y127, z127⟩, st127⟩ := Jvm.LawKit.callS X126 hx (y := (⟨"com/example/escapement/escapement/cli/PartitionSitesPinLaw", "at", "([III)Z"⟩ : MethodName)) hown (mvT hZ (hw _ (List.mem_of_getElem? (i := 42) rfl))) (mvT hZ (hw _ (List.mem_of_getElem? (i := 43) rfl))) (mvT hZ (hw _ (List.mem_of_getElem? (i := 44) rfl))) (mvT hZ (hw _ (List.mem_of_getElem? (i := 45) rfl))) (by decide) (backOf (W := 0) (rm7 l Z a0 hw [] bx_115 (7 : Int32) fi kx_115 (5 : Int32) [(.int ((fi - (1 : Int32)) + (0 : Int32))), (.int ((fi - (1 : Int32)) + (1 : Int32))), (.int ((fi - (1 : Int32)) + (2 : Int32))), (.int ((fi - (1 : Int32)) + (3 : Int32))), (.int ((fi - (1 : Int32)) + (4 : Int32)))] T115.heap n0 Z115 R115_0 (show ¬ (7 : Int32) < (0 : Int32) from (by decide)) (show (7 : Int32) < (5 : Int32) → ([(.int ((fi - (1 : Int32)) + (0 : Int32))), (.int ((fi - (1 : Int32)) + (1 : Int32))), (.int ((fi - (1 : Int32)) + (2 : Int32))), (.int ((fi - (1 : Int32)) + (3 : Int32))), (.int ((fi - (1 : Int32)) + (4 : Int32)))] : List Value).getD ((7 : Int32)).toNatClampNeg (.int (0 : Int32)) = .int ((fi - (1 : Int32)) + (7 : Int32)) from (fun h => absurd h (by decide)))) hZ (hw _ (List.mem_of_getElem? (i := 45) rfl)) (hw _ (List.mem_of_getElem? (i := 44) rfl)) (by decide) (by decide)) (g := (mkF m 170 #[.val (.int pp1), .val (.int pp2), .val (.int (5 : Int32)), .val (.int fi), .val (.int ((fi + (5 : Int32)) - (1 : Int32))), .val (.ref b107), .val (.ref bx_115)] [(.int fi), (.int (7 : Int32)), (.ref bx_115)])) rfl (by rw [hml]; rfl) (argsL := [(.ref bx_115), (.int (7 : Int32)), (.int fi)]) (rest := []) (lenOf pd__28__5b_III_29_Z rfl) rfl (by show 2 * 0 + _ ≤ _; exact Nat.le_of_eq rfl) (hb hby at_170) (fun _ _ => ⟨rfl, e126, (by decide : 4 + 0 ≤ _), (by decide : 16 + 0 ≤ _)⟩)
    dsimp only [Pt.U, Pt.locs, Pt.cells, Pt.slots] at X127 l127 y127 z127 st127 hQ127
    subst l127 y127 z127
    obtain ⟨rfl, N127q, e127⟩ := hQ127
    have N127 := Fr.app N126 N127q
    have hc173_5 : ¬ ((1 : Int32) = (0 : Int32)) := by decide
    obtain ⟨fs, hr, hrun, hended, qe1, qe2, qe3, qe4⟩ := Stand.leaveW (s := s) (vm₁ := T109.vm) X127 hS109 (by rw [e127]; exact kz115) (v := some (.int (1 : Int32))) (fun h => by rw [Bd.returns] at h; cases h)
    refine ⟨_, _, pre108 _ ?_, hrun, hended, _, _, rfl, ?_, qe1, qe2, qe3, qe4.mono (by decide) (by decide)⟩
    · show Steps p.tables e below (T107.setTop (mkF m 38 #[.val (.int pp1), .val (.int pp2), .val (.int (5 : Int32)), .val (.int fi), .val (.int ((fi + (5 : Int32)) - (1 : Int32))), .unset, .unset] [(.ref b107), (.ref b107)])) _
      refine st109 _ ?_
      show Steps p.tables e below (T109.setTop (mkF m 40 #[.val (.int pp1), .val (.int pp2), .val (.int (5 : Int32)), .val (.int fi), .val (.int ((fi + (5 : Int32)) - (1 : Int32))), .unset, .unset] [(.ref a109), (.ref b107), (.ref b107)])) _
      refine XS.iloadN X109.here hx rfl (hb hby at_40) rfl ?_
      show Steps p.tables e below (T109.setTop (mkF m 41 #[.val (.int pp1), .val (.int pp2), .val (.int (5 : Int32)), .val (.int fi), .val (.int ((fi + (5 : Int32)) - (1 : Int32))), .unset, .unset] [(.int fi), (.ref a109), (.ref b107), (.ref b107)])) _
      refine XS.iload X109.here hx rfl (hb hby at_41) rfl ?_
      show Steps p.tables e below (T109.setTop (mkF m 43 #[.val (.int pp1), .val (.int pp2), .val (.int (5 : Int32)), .val (.int fi), .val (.int ((fi + (5 : Int32)) - (1 : Int32))), .unset, .unset] [(.int ((fi + (5 : Int32)) - (1 : Int32))), (.int fi), (.ref a109), (.ref b107), (.ref b107)])) _
      refine st114.trans ?_
      show Steps p.tables e below (T114.setTop (mkF m 46 #[.val (.int pp1), .val (.int pp2), .val (.int (5 : Int32)), .val (.int fi), .val (.int ((fi + (5 : Int32)) - (1 : Int32))), .unset, .unset] [(.ref b107)])) _
      refine XS.astore X114.here hx rfl (hb hby at_46) rfl rfl (l' := #[.val (.int pp1), .val (.int pp2), .val (.int (5 : Int32)), .val (.int fi), .val (.int ((fi + (5 : Int32)) - (1 : Int32))), .val (.ref b107), .unset]) rfl ?_
      show Steps p.tables e below (T114.setTop (mkF m 48 #[.val (.int pp1), .val (.int pp2), .val (.int (5 : Int32)), .val (.int fi), .val (.int ((fi + (5 : Int32)) - (1 : Int32))), .val (.ref b107), .unset] [])) _
      refine XS.aload X114.here hx rfl (hb hby at_48) rfl rfl ?_
      show Steps p.tables e below (T114.setTop (mkF m 50 #[.val (.int pp1), .val (.int pp2), .val (.int (5 : Int32)), .val (.int fi), .val (.int ((fi + (5 : Int32)) - (1 : Int32))), .val (.ref b107), .unset] [(.ref b107)])) _
      refine st115.trans ?_
      show Steps p.tables e below (T115.setTop (mkF m 53 #[.val (.int pp1), .val (.int pp2), .val (.int (5 : Int32)), .val (.int fi), .val (.int ((fi + (5 : Int32)) - (1 : Int32))), .val (.ref b107), .unset] [(.ref bx_115)])) _
      refine XS.astore X115.here hx rfl (hb hby at_53) rfl rfl (l' := #[.val (.int pp1), .val (.int pp2), .val (.int (5 : Int32)), .val (.int fi), .val (.int ((fi + (5 : Int32)) - (1 : Int32))), .val (.ref b107), .val (.ref bx_115)]) rfl ?_
      show Steps p.tables e below (T115.setTop (mkF m 55 #[.val (.int pp1), .val (.int pp2), .val (.int (5 : Int32)), .val (.int fi), .val (.int ((fi + (5 : Int32)) - (1 : Int32))), .val (.ref b107), .val (.ref bx_115)] [])) _
      refine XS.aload X115.here hx rfl (hb hby at_55) rfl rfl ?_
      show Steps p.tables e below (T115.setTop (mkF m 57 #[.val (.int pp1), .val (.int pp2), .val (.int (5 : Int32)), .val (.int fi), .val (.int ((fi + (5 : Int32)) - (1 : Int32))), .val (.ref b107), .val (.ref bx_115)] [(.ref bx_115)])) _
      refine XS.ifnullNo X115.here hx rfl (hb hby at_57) rfl ?_
      show Steps p.tables e below (T115.setTop (mkF m 60 #[.val (.int pp1), .val (.int pp2), .val (.int (5 : Int32)), .val (.int fi), .val (.int ((fi + (5 : Int32)) - (1 : Int32))), .val (.ref b107), .val (.ref bx_115)] [])) _
      refine XS.aload X115.here hx rfl (hb hby at_60) rfl rfl ?_
      show Steps p.tables e below (T115.setTop (mkF m 62 #[.val (.int pp1), .val (.int pp2), .val (.int (5 : Int32)), .val (.int fi), .val (.int ((fi + (5 : Int32)) - (1 : Int32))), .val (.ref b107), .val (.ref bx_115)] [(.ref bx_115)])) _
      refine X115.arraylength hx (Ar_117.1) (State.isArrayOf_alike hZ.alike Ar_117.2.1) (g := (mkF m 62 #[.val (.int pp1), .val (.int pp2), .val (.int (5 : Int32)), .val (.int fi), .val (.int ((fi + (5 : Int32)) - (1 : Int32))), .val (.ref b107), .val (.ref bx_115)] [(.ref bx_115)])) rfl rfl (hb hby at_62) _ ?_
      rw [len_of Sz_117 Nn_117]
      show Steps p.tables e below (T115.setTop (mkF m 63 #[.val (.int pp1), .val (.int pp2), .val (.int (5 : Int32)), .val (.int fi), .val (.int ((fi + (5 : Int32)) - (1 : Int32))), .val (.ref b107), .val (.ref bx_115)] [(.int (5 : Int32))])) _
      refine XS.iloadN X115.here hx rfl (hb hby at_63) rfl ?_
      show Steps p.tables e below (T115.setTop (mkF m 64 #[.val (.int pp1), .val (.int pp2), .val (.int (5 : Int32)), .val (.int fi), .val (.int ((fi + (5 : Int32)) - (1 : Int32))), .val (.ref b107), .val (.ref bx_115)] [(.int (5 : Int32)), (.int (5 : Int32))])) _
      refine XS.icmpYes X115.here hx rfl (pc0 := 64) (pc' := 69) rfl (hb hby at_64) rfl (teq hc64_5).1 (by decide) (by decide) ?_
      show Steps p.tables e below (T115.setTop (mkF m 69 #[.val (.int pp1), .val (.int pp2), .val (.int (5 : Int32)), .val (.int fi), .val (.int ((fi + (5 : Int32)) - (1 : Int32))), .val (.ref b107), .val (.ref bx_115)] [])) _
      refine XS.aload X115.here hx rfl (hb hby at_69) rfl rfl ?_
      show Steps p.tables e below (T115.setTop (mkF m 71 #[.val (.int pp1), .val (.int pp2), .val (.int (5 : Int32)), .val (.int fi), .val (.int ((fi + (5 : Int32)) - (1 : Int32))), .val (.ref b107), .val (.ref bx_115)] [(.ref bx_115)])) _
      refine XS.iconst X115.here hx rfl (hb hby at_71) ?_
      show Steps p.tables e below (T115.setTop (mkF m 72 #[.val (.int pp1), .val (.int pp2), .val (.int (5 : Int32)), .val (.int fi), .val (.int ((fi + (5 : Int32)) - (1 : Int32))), .val (.ref b107), .val (.ref bx_115)] [(.int (0 : Int32)), (.ref bx_115)])) _
      refine X115.iaload hx (j := (0 : Int32)) (v := (.int ((fi - (1 : Int32)) + (0 : Int32)))) (Ar_118.1) (State.isArrayOf_alike hZ.alike Ar_118.2.1) Ar_118.2.2 hin_118 hat_118 (g := (mkF m 72 #[.val (.int pp1), .val (.int pp2), .val (.int (5 : Int32)), .val (.int fi), .val (.int ((fi + (5 : Int32)) - (1 : Int32))), .val (.ref b107), .val (.ref bx_115)] [(.int (0 : Int32)), (.ref bx_115)])) rfl rfl (hb hby at_72) _ ?_
      show Steps p.tables e below (T115.setTop (mkF m 73 #[.val (.int pp1), .val (.int pp2), .val (.int (5 : Int32)), .val (.int fi), .val (.int ((fi + (5 : Int32)) - (1 : Int32))), .val (.ref b107), .val (.ref bx_115)] [(.int ((fi - (1 : Int32)) + (0 : Int32)))])) _
      refine XS.iloadN X115.here hx rfl (hb hby at_73) rfl ?_
      show Steps p.tables e below (T115.setTop (mkF m 74 #[.val (.int pp1), .val (.int pp2), .val (.int (5 : Int32)), .val (.int fi), .val (.int ((fi + (5 : Int32)) - (1 : Int32))), .val (.ref b107), .val (.ref bx_115)] [(.int fi), (.int ((fi - (1 : Int32)) + (0 : Int32)))])) _
      refine XS.iconst X115.here hx rfl (hb hby at_74) ?_
      show Steps p.tables e below (T115.setTop (mkF m 75 #[.val (.int pp1), .val (.int pp2), .val (.int (5 : Int32)), .val (.int fi), .val (.int ((fi + (5 : Int32)) - (1 : Int32))), .val (.ref b107), .val (.ref bx_115)] [(.int (1 : Int32)), (.int fi), (.int ((fi - (1 : Int32)) + (0 : Int32)))])) _
      refine XS.isub X115.here hx rfl (hb hby at_75) rfl ?_
      show Steps p.tables e below (T115.setTop (mkF m 76 #[.val (.int pp1), .val (.int pp2), .val (.int (5 : Int32)), .val (.int fi), .val (.int ((fi + (5 : Int32)) - (1 : Int32))), .val (.ref b107), .val (.ref bx_115)] [(.int (fi - (1 : Int32))), (.int ((fi - (1 : Int32)) + (0 : Int32)))])) _
      refine XS.icmpNo X115.here hx rfl (hb hby at_76) rfl (teq hc76_5).2 ?_
      show Steps p.tables e below (T115.setTop (mkF m 79 #[.val (.int pp1), .val (.int pp2), .val (.int (5 : Int32)), .val (.int fi), .val (.int ((fi + (5 : Int32)) - (1 : Int32))), .val (.ref b107), .val (.ref bx_115)] [])) _
      refine XS.aload X115.here hx rfl (hb hby at_79) rfl rfl ?_
      show Steps p.tables e below (T115.setTop (mkF m 81 #[.val (.int pp1), .val (.int pp2), .val (.int (5 : Int32)), .val (.int fi), .val (.int ((fi + (5 : Int32)) - (1 : Int32))), .val (.ref b107), .val (.ref bx_115)] [(.ref bx_115)])) _
      refine XS.iloadN X115.here hx rfl (hb hby at_81) rfl ?_
      show Steps p.tables e below (T115.setTop (mkF m 82 #[.val (.int pp1), .val (.int pp2), .val (.int (5 : Int32)), .val (.int fi), .val (.int ((fi + (5 : Int32)) - (1 : Int32))), .val (.ref b107), .val (.ref bx_115)] [(.int (5 : Int32)), (.ref bx_115)])) _
      refine XS.iconst X115.here hx rfl (hb hby at_82) ?_
      show Steps p.tables e below (T115.setTop (mkF m 83 #[.val (.int pp1), .val (.int pp2), .val (.int (5 : Int32)), .val (.int fi), .val (.int ((fi + (5 : Int32)) - (1 : Int32))), .val (.ref b107), .val (.ref bx_115)] [(.int (1 : Int32)), (.int (5 : Int32)), (.ref bx_115)])) _
      refine XS.isub X115.here hx rfl (hb hby at_83) rfl ?_
      show Steps p.tables e below (T115.setTop (mkF m 84 #[.val (.int pp1), .val (.int pp2), .val (.int (5 : Int32)), .val (.int fi), .val (.int ((fi + (5 : Int32)) - (1 : Int32))), .val (.ref b107), .val (.ref bx_115)] [(.int (4 : Int32)), (.ref bx_115)])) _
      refine X115.iaload hx (j := (4 : Int32)) (v := (.int ((fi - (1 : Int32)) + (4 : Int32)))) (Ar_119.1) (State.isArrayOf_alike hZ.alike Ar_119.2.1) Ar_119.2.2 hin_119 hat_119 (g := (mkF m 84 #[.val (.int pp1), .val (.int pp2), .val (.int (5 : Int32)), .val (.int fi), .val (.int ((fi + (5 : Int32)) - (1 : Int32))), .val (.ref b107), .val (.ref bx_115)] [(.int (4 : Int32)), (.ref bx_115)])) rfl rfl (hb hby at_84) _ ?_
      show Steps p.tables e below (T115.setTop (mkF m 85 #[.val (.int pp1), .val (.int pp2), .val (.int (5 : Int32)), .val (.int fi), .val (.int ((fi + (5 : Int32)) - (1 : Int32))), .val (.ref b107), .val (.ref bx_115)] [(.int ((fi - (1 : Int32)) + (4 : Int32)))])) _
      refine XS.iload X115.here hx rfl (hb hby at_85) rfl ?_
      show Steps p.tables e below (T115.setTop (mkF m 87 #[.val (.int pp1), .val (.int pp2), .val (.int (5 : Int32)), .val (.int fi), .val (.int ((fi + (5 : Int32)) - (1 : Int32))), .val (.ref b107), .val (.ref bx_115)] [(.int ((fi + (5 : Int32)) - (1 : Int32))), (.int ((fi - (1 : Int32)) + (4 : Int32)))])) _
      refine XS.iconst X115.here hx rfl (hb hby at_87) ?_
      show Steps p.tables e below (T115.setTop (mkF m 88 #[.val (.int pp1), .val (.int pp2), .val (.int (5 : Int32)), .val (.int fi), .val (.int ((fi + (5 : Int32)) - (1 : Int32))), .val (.ref b107), .val (.ref bx_115)] [(.int (1 : Int32)), (.int ((fi + (5 : Int32)) - (1 : Int32))), (.int ((fi - (1 : Int32)) + (4 : Int32)))])) _
      refine XS.isub X115.here hx rfl (hb hby at_88) rfl ?_
      show Steps p.tables e below (T115.setTop (mkF m 89 #[.val (.int pp1), .val (.int pp2), .val (.int (5 : Int32)), .val (.int fi), .val (.int ((fi + (5 : Int32)) - (1 : Int32))), .val (.ref b107), .val (.ref bx_115)] [(.int (((fi + (5 : Int32)) - (1 : Int32)) - (1 : Int32))), (.int ((fi - (1 : Int32)) + (4 : Int32)))])) _
      refine XS.icmpYes X115.here hx rfl (pc0 := 89) (pc' := 94) rfl (hb hby at_89) rfl (teq hc89_5).1 (by decide) (by decide) ?_
      show Steps p.tables e below (T115.setTop (mkF m 94 #[.val (.int pp1), .val (.int pp2), .val (.int (5 : Int32)), .val (.int fi), .val (.int ((fi + (5 : Int32)) - (1 : Int32))), .val (.ref b107), .val (.ref bx_115)] [])) _
      refine XS.aload X115.here hx rfl (hb hby at_94) rfl rfl ?_
      show Steps p.tables e below (T115.setTop (mkF m 96 #[.val (.int pp1), .val (.int pp2), .val (.int (5 : Int32)), .val (.int fi), .val (.int ((fi + (5 : Int32)) - (1 : Int32))), .val (.ref b107), .val (.ref bx_115)] [(.ref bx_115)])) _
      refine XS.iconst X115.here hx rfl (hb hby at_96) ?_
      show Steps p.tables e below (T115.setTop (mkF m 97 #[.val (.int pp1), .val (.int pp2), .val (.int (5 : Int32)), .val (.int fi), .val (.int ((fi + (5 : Int32)) - (1 : Int32))), .val (.ref b107), .val (.ref bx_115)] [(.int (0 : Int32)), (.ref bx_115)])) _
      refine XS.iloadN X115.here hx rfl (hb hby at_97) rfl ?_
      show Steps p.tables e below (T115.setTop (mkF m 98 #[.val (.int pp1), .val (.int pp2), .val (.int (5 : Int32)), .val (.int fi), .val (.int ((fi + (5 : Int32)) - (1 : Int32))), .val (.ref b107), .val (.ref bx_115)] [(.int fi), (.int (0 : Int32)), (.ref bx_115)])) _
      refine st120 _ ?_
      show Steps p.tables e below (T120.setTop (mkF m 101 #[.val (.int pp1), .val (.int pp2), .val (.int (5 : Int32)), .val (.int fi), .val (.int ((fi + (5 : Int32)) - (1 : Int32))), .val (.ref b107), .val (.ref bx_115)] [(.int (1 : Int32))])) _
      refine XS.ifNo X120.here hx rfl (hb hby at_101) rfl ((if0 _ _).trans (feq hc101_5).1) ?_
      show Steps p.tables e below (T120.setTop (mkF m 104 #[.val (.int pp1), .val (.int pp2), .val (.int (5 : Int32)), .val (.int fi), .val (.int ((fi + (5 : Int32)) - (1 : Int32))), .val (.ref b107), .val (.ref bx_115)] [])) _
      refine XS.aload X120.here hx rfl (hb hby at_104) rfl rfl ?_
      show Steps p.tables e below (T120.setTop (mkF m 106 #[.val (.int pp1), .val (.int pp2), .val (.int (5 : Int32)), .val (.int fi), .val (.int ((fi + (5 : Int32)) - (1 : Int32))), .val (.ref b107), .val (.ref bx_115)] [(.ref bx_115)])) _
      refine XS.iconst X120.here hx rfl (hb hby at_106) ?_
      show Steps p.tables e below (T120.setTop (mkF m 107 #[.val (.int pp1), .val (.int pp2), .val (.int (5 : Int32)), .val (.int fi), .val (.int ((fi + (5 : Int32)) - (1 : Int32))), .val (.ref b107), .val (.ref bx_115)] [(.int (1 : Int32)), (.ref bx_115)])) _
      refine XS.iloadN X120.here hx rfl (hb hby at_107) rfl ?_
      show Steps p.tables e below (T120.setTop (mkF m 108 #[.val (.int pp1), .val (.int pp2), .val (.int (5 : Int32)), .val (.int fi), .val (.int ((fi + (5 : Int32)) - (1 : Int32))), .val (.ref b107), .val (.ref bx_115)] [(.int fi), (.int (1 : Int32)), (.ref bx_115)])) _
      refine st121 _ ?_
      show Steps p.tables e below (T121.setTop (mkF m 111 #[.val (.int pp1), .val (.int pp2), .val (.int (5 : Int32)), .val (.int fi), .val (.int ((fi + (5 : Int32)) - (1 : Int32))), .val (.ref b107), .val (.ref bx_115)] [(.int (1 : Int32))])) _
      refine XS.ifNo X121.here hx rfl (hb hby at_111) rfl ((if0 _ _).trans (feq hc111_5).1) ?_
      show Steps p.tables e below (T121.setTop (mkF m 114 #[.val (.int pp1), .val (.int pp2), .val (.int (5 : Int32)), .val (.int fi), .val (.int ((fi + (5 : Int32)) - (1 : Int32))), .val (.ref b107), .val (.ref bx_115)] [])) _
      refine XS.aload X121.here hx rfl (hb hby at_114) rfl rfl ?_
      show Steps p.tables e below (T121.setTop (mkF m 116 #[.val (.int pp1), .val (.int pp2), .val (.int (5 : Int32)), .val (.int fi), .val (.int ((fi + (5 : Int32)) - (1 : Int32))), .val (.ref b107), .val (.ref bx_115)] [(.ref bx_115)])) _
      refine XS.iconst X121.here hx rfl (hb hby at_116) ?_
      show Steps p.tables e below (T121.setTop (mkF m 117 #[.val (.int pp1), .val (.int pp2), .val (.int (5 : Int32)), .val (.int fi), .val (.int ((fi + (5 : Int32)) - (1 : Int32))), .val (.ref b107), .val (.ref bx_115)] [(.int (2 : Int32)), (.ref bx_115)])) _
      refine XS.iloadN X121.here hx rfl (hb hby at_117) rfl ?_
      show Steps p.tables e below (T121.setTop (mkF m 118 #[.val (.int pp1), .val (.int pp2), .val (.int (5 : Int32)), .val (.int fi), .val (.int ((fi + (5 : Int32)) - (1 : Int32))), .val (.ref b107), .val (.ref bx_115)] [(.int fi), (.int (2 : Int32)), (.ref bx_115)])) _
      refine st122 _ ?_
      show Steps p.tables e below (T122.setTop (mkF m 121 #[.val (.int pp1), .val (.int pp2), .val (.int (5 : Int32)), .val (.int fi), .val (.int ((fi + (5 : Int32)) - (1 : Int32))), .val (.ref b107), .val (.ref bx_115)] [(.int (1 : Int32))])) _
      refine XS.ifNo X122.here hx rfl (hb hby at_121) rfl ((if0 _ _).trans (feq hc121_5).1) ?_
      show Steps p.tables e below (T122.setTop (mkF m 124 #[.val (.int pp1), .val (.int pp2), .val (.int (5 : Int32)), .val (.int fi), .val (.int ((fi + (5 : Int32)) - (1 : Int32))), .val (.ref b107), .val (.ref bx_115)] [])) _
      refine XS.aload X122.here hx rfl (hb hby at_124) rfl rfl ?_
      show Steps p.tables e below (T122.setTop (mkF m 126 #[.val (.int pp1), .val (.int pp2), .val (.int (5 : Int32)), .val (.int fi), .val (.int ((fi + (5 : Int32)) - (1 : Int32))), .val (.ref b107), .val (.ref bx_115)] [(.ref bx_115)])) _
      refine XS.iconst X122.here hx rfl (hb hby at_126) ?_
      show Steps p.tables e below (T122.setTop (mkF m 127 #[.val (.int pp1), .val (.int pp2), .val (.int (5 : Int32)), .val (.int fi), .val (.int ((fi + (5 : Int32)) - (1 : Int32))), .val (.ref b107), .val (.ref bx_115)] [(.int (3 : Int32)), (.ref bx_115)])) _
      refine XS.iloadN X122.here hx rfl (hb hby at_127) rfl ?_
      show Steps p.tables e below (T122.setTop (mkF m 128 #[.val (.int pp1), .val (.int pp2), .val (.int (5 : Int32)), .val (.int fi), .val (.int ((fi + (5 : Int32)) - (1 : Int32))), .val (.ref b107), .val (.ref bx_115)] [(.int fi), (.int (3 : Int32)), (.ref bx_115)])) _
      refine st123 _ ?_
      show Steps p.tables e below (T123.setTop (mkF m 131 #[.val (.int pp1), .val (.int pp2), .val (.int (5 : Int32)), .val (.int fi), .val (.int ((fi + (5 : Int32)) - (1 : Int32))), .val (.ref b107), .val (.ref bx_115)] [(.int (1 : Int32))])) _
      refine XS.ifNo X123.here hx rfl (hb hby at_131) rfl ((if0 _ _).trans (feq hc131_5).1) ?_
      show Steps p.tables e below (T123.setTop (mkF m 134 #[.val (.int pp1), .val (.int pp2), .val (.int (5 : Int32)), .val (.int fi), .val (.int ((fi + (5 : Int32)) - (1 : Int32))), .val (.ref b107), .val (.ref bx_115)] [])) _
      refine XS.aload X123.here hx rfl (hb hby at_134) rfl rfl ?_
      show Steps p.tables e below (T123.setTop (mkF m 136 #[.val (.int pp1), .val (.int pp2), .val (.int (5 : Int32)), .val (.int fi), .val (.int ((fi + (5 : Int32)) - (1 : Int32))), .val (.ref b107), .val (.ref bx_115)] [(.ref bx_115)])) _
      refine XS.iconst X123.here hx rfl (hb hby at_136) ?_
      show Steps p.tables e below (T123.setTop (mkF m 137 #[.val (.int pp1), .val (.int pp2), .val (.int (5 : Int32)), .val (.int fi), .val (.int ((fi + (5 : Int32)) - (1 : Int32))), .val (.ref b107), .val (.ref bx_115)] [(.int (4 : Int32)), (.ref bx_115)])) _
      refine XS.iloadN X123.here hx rfl (hb hby at_137) rfl ?_
      show Steps p.tables e below (T123.setTop (mkF m 138 #[.val (.int pp1), .val (.int pp2), .val (.int (5 : Int32)), .val (.int fi), .val (.int ((fi + (5 : Int32)) - (1 : Int32))), .val (.ref b107), .val (.ref bx_115)] [(.int fi), (.int (4 : Int32)), (.ref bx_115)])) _
      refine st124 _ ?_
      show Steps p.tables e below (T124.setTop (mkF m 141 #[.val (.int pp1), .val (.int pp2), .val (.int (5 : Int32)), .val (.int fi), .val (.int ((fi + (5 : Int32)) - (1 : Int32))), .val (.ref b107), .val (.ref bx_115)] [(.int (1 : Int32))])) _
      refine XS.ifNo X124.here hx rfl (hb hby at_141) rfl ((if0 _ _).trans (feq hc141_5).1) ?_
      show Steps p.tables e below (T124.setTop (mkF m 144 #[.val (.int pp1), .val (.int pp2), .val (.int (5 : Int32)), .val (.int fi), .val (.int ((fi + (5 : Int32)) - (1 : Int32))), .val (.ref b107), .val (.ref bx_115)] [])) _
      refine XS.aload X124.here hx rfl (hb hby at_144) rfl rfl ?_
      show Steps p.tables e below (T124.setTop (mkF m 146 #[.val (.int pp1), .val (.int pp2), .val (.int (5 : Int32)), .val (.int fi), .val (.int ((fi + (5 : Int32)) - (1 : Int32))), .val (.ref b107), .val (.ref bx_115)] [(.ref bx_115)])) _
      refine XS.iconst X124.here hx rfl (hb hby at_146) ?_
      show Steps p.tables e below (T124.setTop (mkF m 147 #[.val (.int pp1), .val (.int pp2), .val (.int (5 : Int32)), .val (.int fi), .val (.int ((fi + (5 : Int32)) - (1 : Int32))), .val (.ref b107), .val (.ref bx_115)] [(.int (5 : Int32)), (.ref bx_115)])) _
      refine XS.iloadN X124.here hx rfl (hb hby at_147) rfl ?_
      show Steps p.tables e below (T124.setTop (mkF m 148 #[.val (.int pp1), .val (.int pp2), .val (.int (5 : Int32)), .val (.int fi), .val (.int ((fi + (5 : Int32)) - (1 : Int32))), .val (.ref b107), .val (.ref bx_115)] [(.int fi), (.int (5 : Int32)), (.ref bx_115)])) _
      refine st125 _ ?_
      show Steps p.tables e below (T125.setTop (mkF m 151 #[.val (.int pp1), .val (.int pp2), .val (.int (5 : Int32)), .val (.int fi), .val (.int ((fi + (5 : Int32)) - (1 : Int32))), .val (.ref b107), .val (.ref bx_115)] [(.int (1 : Int32))])) _
      refine XS.ifNo X125.here hx rfl (hb hby at_151) rfl ((if0 _ _).trans (feq hc151_5).1) ?_
      show Steps p.tables e below (T125.setTop (mkF m 154 #[.val (.int pp1), .val (.int pp2), .val (.int (5 : Int32)), .val (.int fi), .val (.int ((fi + (5 : Int32)) - (1 : Int32))), .val (.ref b107), .val (.ref bx_115)] [])) _
      refine XS.aload X125.here hx rfl (hb hby at_154) rfl rfl ?_
      show Steps p.tables e below (T125.setTop (mkF m 156 #[.val (.int pp1), .val (.int pp2), .val (.int (5 : Int32)), .val (.int fi), .val (.int ((fi + (5 : Int32)) - (1 : Int32))), .val (.ref b107), .val (.ref bx_115)] [(.ref bx_115)])) _
      refine XS.bipush X125.here hx rfl (hb hby at_156) ?_
      show Steps p.tables e below (T125.setTop (mkF m 158 #[.val (.int pp1), .val (.int pp2), .val (.int (5 : Int32)), .val (.int fi), .val (.int ((fi + (5 : Int32)) - (1 : Int32))), .val (.ref b107), .val (.ref bx_115)] [(.int (6 : Int32)), (.ref bx_115)])) _
      refine XS.iloadN X125.here hx rfl (hb hby at_158) rfl ?_
      show Steps p.tables e below (T125.setTop (mkF m 159 #[.val (.int pp1), .val (.int pp2), .val (.int (5 : Int32)), .val (.int fi), .val (.int ((fi + (5 : Int32)) - (1 : Int32))), .val (.ref b107), .val (.ref bx_115)] [(.int fi), (.int (6 : Int32)), (.ref bx_115)])) _
      refine st126 _ ?_
      show Steps p.tables e below (T126.setTop (mkF m 162 #[.val (.int pp1), .val (.int pp2), .val (.int (5 : Int32)), .val (.int fi), .val (.int ((fi + (5 : Int32)) - (1 : Int32))), .val (.ref b107), .val (.ref bx_115)] [(.int (1 : Int32))])) _
      refine XS.ifNo X126.here hx rfl (hb hby at_162) rfl ((if0 _ _).trans (feq hc162_5).1) ?_
      show Steps p.tables e below (T126.setTop (mkF m 165 #[.val (.int pp1), .val (.int pp2), .val (.int (5 : Int32)), .val (.int fi), .val (.int ((fi + (5 : Int32)) - (1 : Int32))), .val (.ref b107), .val (.ref bx_115)] [])) _
      refine XS.aload X126.here hx rfl (hb hby at_165) rfl rfl ?_
      show Steps p.tables e below (T126.setTop (mkF m 167 #[.val (.int pp1), .val (.int pp2), .val (.int (5 : Int32)), .val (.int fi), .val (.int ((fi + (5 : Int32)) - (1 : Int32))), .val (.ref b107), .val (.ref bx_115)] [(.ref bx_115)])) _
      refine XS.bipush X126.here hx rfl (hb hby at_167) ?_
      show Steps p.tables e below (T126.setTop (mkF m 169 #[.val (.int pp1), .val (.int pp2), .val (.int (5 : Int32)), .val (.int fi), .val (.int ((fi + (5 : Int32)) - (1 : Int32))), .val (.ref b107), .val (.ref bx_115)] [(.int (7 : Int32)), (.ref bx_115)])) _
      refine XS.iloadN X126.here hx rfl (hb hby at_169) rfl ?_
      show Steps p.tables e below (T126.setTop (mkF m 170 #[.val (.int pp1), .val (.int pp2), .val (.int (5 : Int32)), .val (.int fi), .val (.int ((fi + (5 : Int32)) - (1 : Int32))), .val (.ref b107), .val (.ref bx_115)] [(.int fi), (.int (7 : Int32)), (.ref bx_115)])) _
      refine st127 _ ?_
      show Steps p.tables e below (T127.setTop (mkF m 173 #[.val (.int pp1), .val (.int pp2), .val (.int (5 : Int32)), .val (.int fi), .val (.int ((fi + (5 : Int32)) - (1 : Int32))), .val (.ref b107), .val (.ref bx_115)] [(.int (1 : Int32))])) _
      refine XS.ifNo X127.here hx rfl (hb hby at_173) rfl ((if0 _ _).trans (feq hc173_5).1) ?_
      show Steps p.tables e below (T127.setTop (mkF m 176 #[.val (.int pp1), .val (.int pp2), .val (.int (5 : Int32)), .val (.int fi), .val (.int ((fi + (5 : Int32)) - (1 : Int32))), .val (.ref b107), .val (.ref bx_115)] [])) _
      refine XS.iconst X127.here hx rfl (hb hby at_176) ?_
      show Steps p.tables e below (T127.setTop (mkF m 177 #[.val (.int pp1), .val (.int pp2), .val (.int (5 : Int32)), .val (.int fi), .val (.int ((fi + (5 : Int32)) - (1 : Int32))), .val (.ref b107), .val (.ref bx_115)] [(.int (1 : Int32))])) _
      refine XS.goto X127.here hx rfl (pc0 := 177) (pc' := 181) rfl (hb hby at_177) (by decide) (by decide) ?_
      show Steps p.tables e below (T127.setTop (mkF m 181 #[.val (.int pp1), .val (.int pp2), .val (.int (5 : Int32)), .val (.int fi), .val (.int ((fi + (5 : Int32)) - (1 : Int32))), .val (.ref b107), .val (.ref bx_115)] [(.int (1 : Int32))])) _
      exact retN X127 hx (t := .boolean) Bd.returns (by simp) (hb hby at_181) hr
    · show Q0 Z pp1 pp2 h0 n0 _ T127.heap _
      rw [e127]
      exact ⟨rfl, N127⟩
  · skip
    obtain ⟨_, _, ⟨T128, L128, k128, n128⟩, -, X128, ⟨Lc128, hQ128, l128, y128, z128⟩, st128⟩ := Jvm.LawKit.callS X0 hx (y := (⟨"java/lang/Math", "max", "(II)I"⟩ : MethodName)) hown (mvT hZ (hw _ (List.mem_of_getElem? (i := 1) rfl))) (mvT hZ (hw _ (List.mem_of_getElem? (i := 2) rfl))) (mvT hZ (hw _ (List.mem_of_getElem? (i := 3) rfl))) (mvT hZ (hw _ (List.mem_of_getElem? (i := 4) rfl))) (by decide) (backOf (W := 0) (rm1 l Z a0 hw [] (1 : Int32) (pp1 &&& (2147483647 : Int32)) h0 n0 Z0 ) hZ (hw _ (List.mem_of_getElem? (i := 4) rfl)) (hw _ (List.mem_of_getElem? (i := 3) rfl)) (by decide) (by decide)) (g := (mkF m 12 #[.val (.int pp1), .val (.int pp2), .val (.int (6 : Int32)), .unset, .unset, .unset, .unset] [(.int (pp1 &&& (2147483647 : Int32))), (.int (1 : Int32))])) rfl (by rw [hml]; rfl) (argsL := [(.int (1 : Int32)), (.int (pp1 &&& (2147483647 : Int32)))]) (rest := []) (lenOf pd__28_II_29_I rfl) rfl (by show 2 * 0 + _ ≤ _; exact Nat.le_of_eq rfl) (hb hby at_12) (fun _ _ => ⟨rfl, e0, (by decide : 0 + 0 ≤ _), (by decide : 0 + 0 ≤ _)⟩)
    dsimp only [Pt.U, Pt.locs, Pt.cells, Pt.slots] at X128 l128 y128 z128 st128 hQ128
    subst l128 y128 z128
    obtain ⟨rfl, N128q, e128⟩ := hQ128
    have N128 := Fr.app N0 N128q
    obtain ⟨_, _, ⟨T129, L129, k129, n129⟩, -, X129, ⟨Lc129, hQ129, l129, y129, z129⟩, st129⟩ := Jvm.LawKit.callS X128 hx (y := (⟨"java/lang/Math", "min", "(II)I"⟩ : MethodName)) hown (mvT hZ (hw _ (List.mem_of_getElem? (i := 5) rfl))) (mvT hZ (hw _ (List.mem_of_getElem? (i := 6) rfl))) (mvT hZ (hw _ (List.mem_of_getElem? (i := 3) rfl))) (mvT hZ (hw _ (List.mem_of_getElem? (i := 7) rfl))) (by decide) (backOf (W := 0) (rm2 l Z a0 hw [] (if (1 : Int32) < (pp1 &&& (2147483647 : Int32)) then (pp1 &&& (2147483647 : Int32)) else (1 : Int32)) (2147483642 : Int32) h0 n0 Z0 ) hZ (hw _ (List.mem_of_getElem? (i := 7) rfl)) (hw _ (List.mem_of_getElem? (i := 3) rfl)) (by decide) (by decide)) (g := (mkF m 23 #[.val (.int pp1), .val (.int pp2), .val (.int (6 : Int32)), .val (.int (if (1 : Int32) < (pp1 &&& (2147483647 : Int32)) then (pp1 &&& (2147483647 : Int32)) else (1 : Int32))), .unset, .unset, .unset] [(.int (2147483642 : Int32)), (.int (if (1 : Int32) < (pp1 &&& (2147483647 : Int32)) then (pp1 &&& (2147483647 : Int32)) else (1 : Int32)))])) rfl (by rw [hml]; rfl) (argsL := [(.int (if (1 : Int32) < (pp1 &&& (2147483647 : Int32)) then (pp1 &&& (2147483647 : Int32)) else (1 : Int32))), (.int (2147483642 : Int32))]) (rest := []) (lenOf pd__28_II_29_I rfl) rfl (by show 2 * 0 + _ ≤ _; exact Nat.le_of_eq rfl) (hb hby at_23) (fun _ _ => ⟨rfl, e128, (by decide : 0 + 0 ≤ _), (by decide : 0 + 0 ≤ _)⟩)
    dsimp only [Pt.U, Pt.locs, Pt.cells, Pt.slots] at X129 l129 y129 z129 st129 hQ129
    subst l129 y129 z129
    obtain ⟨rfl, N129q, e129⟩ := hQ129
    have N129 := Fr.app N128 N129q
    have pre130 : ∀ t, Steps p.tables e below (T129.setTop (mkF m 27 #[.val (.int pp1), .val (.int pp2), .val (.int (6 : Int32)), .val (.int (if (2147483642 : Int32) < (if (1 : Int32) < (pp1 &&& (2147483647 : Int32)) then (pp1 &&& (2147483647 : Int32)) else (1 : Int32)) then (2147483642 : Int32) else (if (1 : Int32) < (pp1 &&& (2147483647 : Int32)) then (pp1 &&& (2147483647 : Int32)) else (1 : Int32)))), .unset, .unset, .unset] [])) t → Steps p.tables e below (s₁.setTop (entryFrame m #[(.int pp1), (.int pp2)] maxLocals)) t := fun t kt => pre2 t (by
      show Steps p.tables e below (s₁.setTop (mkF m 7 #[.val (.int pp1), .val (.int pp2), .val (.int (6 : Int32)), .unset, .unset, .unset, .unset] [])) _
      refine XS.iconst X0.here hx rfl (hb hby at_7) ?_
      show Steps p.tables e below (s₁.setTop (mkF m 8 #[.val (.int pp1), .val (.int pp2), .val (.int (6 : Int32)), .unset, .unset, .unset, .unset] [(.int (1 : Int32))])) _
      refine XS.iloadN X0.here hx rfl (hb hby at_8) rfl ?_
      show Steps p.tables e below (s₁.setTop (mkF m 9 #[.val (.int pp1), .val (.int pp2), .val (.int (6 : Int32)), .unset, .unset, .unset, .unset] [(.int pp1), (.int (1 : Int32))])) _
      refine X0.ldcInt hx hown (mvT hZ (hw _ (List.mem_of_getElem? (i := 0) rfl))) (g := (mkF m 9 #[.val (.int pp1), .val (.int pp2), .val (.int (6 : Int32)), .unset, .unset, .unset, .unset] [(.int pp1), (.int (1 : Int32))])) rfl (hb hby at_9) _ ?_
      show Steps p.tables e below (s₁.setTop (mkF m 11 #[.val (.int pp1), .val (.int pp2), .val (.int (6 : Int32)), .unset, .unset, .unset, .unset] [(.int (2147483647 : Int32)), (.int pp1), (.int (1 : Int32))])) _
      refine XS.iand X0.here hx rfl (hb hby at_11) rfl ?_
      show Steps p.tables e below (s₁.setTop (mkF m 12 #[.val (.int pp1), .val (.int pp2), .val (.int (6 : Int32)), .unset, .unset, .unset, .unset] [(.int (pp1 &&& (2147483647 : Int32))), (.int (1 : Int32))])) _
      refine st128 _ ?_
      show Steps p.tables e below (T128.setTop (mkF m 15 #[.val (.int pp1), .val (.int pp2), .val (.int (6 : Int32)), .unset, .unset, .unset, .unset] [(.int (if (1 : Int32) < (pp1 &&& (2147483647 : Int32)) then (pp1 &&& (2147483647 : Int32)) else (1 : Int32)))])) _
      refine XS.istoreN X128.here hx rfl (hb hby at_15) rfl (l' := #[.val (.int pp1), .val (.int pp2), .val (.int (6 : Int32)), .val (.int (if (1 : Int32) < (pp1 &&& (2147483647 : Int32)) then (pp1 &&& (2147483647 : Int32)) else (1 : Int32))), .unset, .unset, .unset]) rfl ?_
      show Steps p.tables e below (T128.setTop (mkF m 16 #[.val (.int pp1), .val (.int pp2), .val (.int (6 : Int32)), .val (.int (if (1 : Int32) < (pp1 &&& (2147483647 : Int32)) then (pp1 &&& (2147483647 : Int32)) else (1 : Int32))), .unset, .unset, .unset] [])) _
      refine XS.iloadN X128.here hx rfl (hb hby at_16) rfl ?_
      show Steps p.tables e below (T128.setTop (mkF m 17 #[.val (.int pp1), .val (.int pp2), .val (.int (6 : Int32)), .val (.int (if (1 : Int32) < (pp1 &&& (2147483647 : Int32)) then (pp1 &&& (2147483647 : Int32)) else (1 : Int32))), .unset, .unset, .unset] [(.int (if (1 : Int32) < (pp1 &&& (2147483647 : Int32)) then (pp1 &&& (2147483647 : Int32)) else (1 : Int32)))])) _
      refine X128.ldcInt hx hown (mvT hZ (hw _ (List.mem_of_getElem? (i := 0) rfl))) (g := (mkF m 17 #[.val (.int pp1), .val (.int pp2), .val (.int (6 : Int32)), .val (.int (if (1 : Int32) < (pp1 &&& (2147483647 : Int32)) then (pp1 &&& (2147483647 : Int32)) else (1 : Int32))), .unset, .unset, .unset] [(.int (if (1 : Int32) < (pp1 &&& (2147483647 : Int32)) then (pp1 &&& (2147483647 : Int32)) else (1 : Int32)))])) rfl (hb hby at_17) _ ?_
      show Steps p.tables e below (T128.setTop (mkF m 19 #[.val (.int pp1), .val (.int pp2), .val (.int (6 : Int32)), .val (.int (if (1 : Int32) < (pp1 &&& (2147483647 : Int32)) then (pp1 &&& (2147483647 : Int32)) else (1 : Int32))), .unset, .unset, .unset] [(.int (2147483647 : Int32)), (.int (if (1 : Int32) < (pp1 &&& (2147483647 : Int32)) then (pp1 &&& (2147483647 : Int32)) else (1 : Int32)))])) _
      refine XS.iloadN X128.here hx rfl (hb hby at_19) rfl ?_
      show Steps p.tables e below (T128.setTop (mkF m 20 #[.val (.int pp1), .val (.int pp2), .val (.int (6 : Int32)), .val (.int (if (1 : Int32) < (pp1 &&& (2147483647 : Int32)) then (pp1 &&& (2147483647 : Int32)) else (1 : Int32))), .unset, .unset, .unset] [(.int (6 : Int32)), (.int (2147483647 : Int32)), (.int (if (1 : Int32) < (pp1 &&& (2147483647 : Int32)) then (pp1 &&& (2147483647 : Int32)) else (1 : Int32)))])) _
      refine XS.isub X128.here hx rfl (hb hby at_20) rfl ?_
      show Steps p.tables e below (T128.setTop (mkF m 21 #[.val (.int pp1), .val (.int pp2), .val (.int (6 : Int32)), .val (.int (if (1 : Int32) < (pp1 &&& (2147483647 : Int32)) then (pp1 &&& (2147483647 : Int32)) else (1 : Int32))), .unset, .unset, .unset] [(.int (2147483641 : Int32)), (.int (if (1 : Int32) < (pp1 &&& (2147483647 : Int32)) then (pp1 &&& (2147483647 : Int32)) else (1 : Int32)))])) _
      refine XS.iconst X128.here hx rfl (hb hby at_21) ?_
      show Steps p.tables e below (T128.setTop (mkF m 22 #[.val (.int pp1), .val (.int pp2), .val (.int (6 : Int32)), .val (.int (if (1 : Int32) < (pp1 &&& (2147483647 : Int32)) then (pp1 &&& (2147483647 : Int32)) else (1 : Int32))), .unset, .unset, .unset] [(.int (1 : Int32)), (.int (2147483641 : Int32)), (.int (if (1 : Int32) < (pp1 &&& (2147483647 : Int32)) then (pp1 &&& (2147483647 : Int32)) else (1 : Int32)))])) _
      refine XS.iadd X128.here hx rfl (hb hby at_22) rfl ?_
      show Steps p.tables e below (T128.setTop (mkF m 23 #[.val (.int pp1), .val (.int pp2), .val (.int (6 : Int32)), .val (.int (if (1 : Int32) < (pp1 &&& (2147483647 : Int32)) then (pp1 &&& (2147483647 : Int32)) else (1 : Int32))), .unset, .unset, .unset] [(.int (2147483642 : Int32)), (.int (if (1 : Int32) < (pp1 &&& (2147483647 : Int32)) then (pp1 &&& (2147483647 : Int32)) else (1 : Int32)))])) _
      refine st129 _ ?_
      show Steps p.tables e below (T129.setTop (mkF m 26 #[.val (.int pp1), .val (.int pp2), .val (.int (6 : Int32)), .val (.int (if (1 : Int32) < (pp1 &&& (2147483647 : Int32)) then (pp1 &&& (2147483647 : Int32)) else (1 : Int32))), .unset, .unset, .unset] [(.int (if (2147483642 : Int32) < (if (1 : Int32) < (pp1 &&& (2147483647 : Int32)) then (pp1 &&& (2147483647 : Int32)) else (1 : Int32)) then (2147483642 : Int32) else (if (1 : Int32) < (pp1 &&& (2147483647 : Int32)) then (pp1 &&& (2147483647 : Int32)) else (1 : Int32))))])) _
      refine XS.istoreN X129.here hx rfl (hb hby at_26) rfl (l' := #[.val (.int pp1), .val (.int pp2), .val (.int (6 : Int32)), .val (.int (if (2147483642 : Int32) < (if (1 : Int32) < (pp1 &&& (2147483647 : Int32)) then (pp1 &&& (2147483647 : Int32)) else (1 : Int32)) then (2147483642 : Int32) else (if (1 : Int32) < (pp1 &&& (2147483647 : Int32)) then (pp1 &&& (2147483647 : Int32)) else (1 : Int32)))), .unset, .unset, .unset]) rfl ?_
      exact kt)
    obtain ⟨fi, pre131⟩ : ∃ (fi : Int32), ∀ t, Steps p.tables e below (T129.setTop (mkF m 27 #[.val (.int pp1), .val (.int pp2), .val (.int (6 : Int32)), .val (.int fi), .unset, .unset, .unset] [])) t → Steps p.tables e below (s₁.setTop (entryFrame m #[(.int pp1), (.int pp2)] maxLocals)) t := ⟨(if (2147483642 : Int32) < (if (1 : Int32) < (pp1 &&& (2147483647 : Int32)) then (pp1 &&& (2147483647 : Int32)) else (1 : Int32)) then (2147483642 : Int32) else (if (1 : Int32) < (pp1 &&& (2147483647 : Int32)) then (pp1 &&& (2147483647 : Int32)) else (1 : Int32))), pre130⟩
    obtain ⟨T132, h132, X132, e132, E132, A132, D132, -, st132⟩ := newO X129 hx hZ hown (hw _ (List.mem_of_getElem? (i := 8) rfl)) (hw _ (List.mem_of_getElem? (i := 9) rfl)) (hw _ (List.mem_of_getElem? (i := 10) rfl)) e129 (g := (mkF m 34 #[.val (.int pp1), .val (.int pp2), .val (.int (6 : Int32)), .val (.int fi), .val (.int ((fi + (6 : Int32)) - (1 : Int32))), .unset, .unset] [])) rfl (hb hby at_34) (by decide) (by decide)
    obtain ⟨b132, g132⟩ : ∃ z, z = h0.size := ⟨_, rfl⟩
    rw [← g132] at A132 D132 st132
    have g_b132 : n0 ≤ b132 := Nat.le_trans Z0 (Nat.le_of_eq g132.symm)
    have Z132 : n0 ≤ h132.size := Nat.le_trans Z0 E132.1
    have kz132 := Nat.le_trans (Nat.le_refl _) E132.1
    have F132_name : Fld Z h132 b132 "com/example/escapement/escapement/cli/PartitionTable$Partition" "name" "Ljava/lang/String;" .null := D132 (Or.inr (hw _ (List.mem_of_getElem? (i := 31) rfl))) (ty := (.object "java/lang/String")) (by decide)
    have F132_first : Fld Z h132 b132 "com/example/escapement/escapement/cli/PartitionTable$Partition" "first" "I" (.int (0 : Int32)) := D132 (Or.inr (hw _ (List.mem_of_getElem? (i := 33) rfl))) (ty := .int) (by decide)
    have F132_last : Fld Z h132 b132 "com/example/escapement/escapement/cli/PartitionTable$Partition" "last" "I" (.int (0 : Int32)) := D132 (Or.inr (hw _ (List.mem_of_getElem? (i := 35) rfl))) (ty := .int) (by decide)
    have pre133 : ∀ t, Steps p.tables e below (T132.setTop (mkF m 38 #[.val (.int pp1), .val (.int pp2), .val (.int (6 : Int32)), .val (.int fi), .val (.int ((fi + (6 : Int32)) - (1 : Int32))), .unset, .unset] [(.ref b132), (.ref b132)])) t → Steps p.tables e below (s₁.setTop (entryFrame m #[(.int pp1), (.int pp2)] maxLocals)) t := fun t kt => pre131 t (by
      show Steps p.tables e below (T129.setTop (mkF m 27 #[.val (.int pp1), .val (.int pp2), .val (.int (6 : Int32)), .val (.int fi), .unset, .unset, .unset] [])) _
      refine XS.iloadN X129.here hx rfl (hb hby at_27) rfl ?_
      show Steps p.tables e below (T129.setTop (mkF m 28 #[.val (.int pp1), .val (.int pp2), .val (.int (6 : Int32)), .val (.int fi), .unset, .unset, .unset] [(.int fi)])) _
      refine XS.iloadN X129.here hx rfl (hb hby at_28) rfl ?_
      show Steps p.tables e below (T129.setTop (mkF m 29 #[.val (.int pp1), .val (.int pp2), .val (.int (6 : Int32)), .val (.int fi), .unset, .unset, .unset] [(.int (6 : Int32)), (.int fi)])) _
      refine XS.iadd X129.here hx rfl (hb hby at_29) rfl ?_
      show Steps p.tables e below (T129.setTop (mkF m 30 #[.val (.int pp1), .val (.int pp2), .val (.int (6 : Int32)), .val (.int fi), .unset, .unset, .unset] [(.int (fi + (6 : Int32)))])) _
      refine XS.iconst X129.here hx rfl (hb hby at_30) ?_
      show Steps p.tables e below (T129.setTop (mkF m 31 #[.val (.int pp1), .val (.int pp2), .val (.int (6 : Int32)), .val (.int fi), .unset, .unset, .unset] [(.int (1 : Int32)), (.int (fi + (6 : Int32)))])) _
      refine XS.isub X129.here hx rfl (hb hby at_31) rfl ?_
      show Steps p.tables e below (T129.setTop (mkF m 32 #[.val (.int pp1), .val (.int pp2), .val (.int (6 : Int32)), .val (.int fi), .unset, .unset, .unset] [(.int ((fi + (6 : Int32)) - (1 : Int32)))])) _
      refine XS.istore X129.here hx rfl (hb hby at_32) rfl (l' := #[.val (.int pp1), .val (.int pp2), .val (.int (6 : Int32)), .val (.int fi), .val (.int ((fi + (6 : Int32)) - (1 : Int32))), .unset, .unset]) rfl ?_
      show Steps p.tables e below (T129.setTop (mkF m 34 #[.val (.int pp1), .val (.int pp2), .val (.int (6 : Int32)), .val (.int fi), .val (.int ((fi + (6 : Int32)) - (1 : Int32))), .unset, .unset] [])) _
      refine st132 _ ?_
      show Steps p.tables e below (T132.setTop (mkF m 37 #[.val (.int pp1), .val (.int pp2), .val (.int (6 : Int32)), .val (.int fi), .val (.int ((fi + (6 : Int32)) - (1 : Int32))), .unset, .unset] [(.ref b132)])) _
      refine XS.dup X132.here hx rfl (hb hby at_37) rfl rfl ?_
      exact kt)
    obtain ⟨a134, T134, h134, kk134, X134, e134, E134, hS134, kz134, hZ, hown, st134⟩ := ldcS (s := s) (vm0 := s.vm) X132 hx hZ hown (hw _ (List.mem_of_getElem? (i := 11) rfl)) (fun d hd => hw d (own_str_in d hd)) e132 hS0 kz132 (g := (mkF m 38 #[.val (.int pp1), .val (.int pp2), .val (.int (6 : Int32)), .val (.int fi), .val (.int ((fi + (6 : Int32)) - (1 : Int32))), .unset, .unset] [(.ref b132), (.ref b132)])) rfl (hb hby at_38) (n := 4) (by decide) (by decide) (by decide) (by decide)
    have Z134 : n0 ≤ h134.size := Nat.le_trans Z132 E134.1
    have E_135 : Exa Z h134 b132 "com/example/escapement/escapement/cli/PartitionTable$Partition" := (A132.ext E134)
    have F_136 : Fld Z h134 b132 "com/example/escapement/escapement/cli/PartitionTable$Partition" "name" "Ljava/lang/String;" .null := (F132_name.ext E134)
    have F_137 : Fld Z h134 b132 "com/example/escapement/escapement/cli/PartitionTable$Partition" "first" "I" (.int (0 : Int32)) := (F132_first.ext E134)
    have F_138 : Fld Z h134 b132 "com/example/escapement/escapement/cli/PartitionTable$Partition" "last" "I" (.int (0 : Int32)) := (F132_last.ext E134)
    obtain ⟨_, _, ⟨T139, L139, k139, n139⟩, -, X139, ⟨Lc139, hQ139, l139, y139, z139⟩, st139⟩ := X134.specialBack hx (y := (⟨"com/example/escapement/escapement/cli/PartitionTable$Partition", "<init>", "(Ljava/lang/String;II)V"⟩ : MethodName)) rfl hown (mvT hZ (hw _ (List.mem_of_getElem? (i := 19) rfl))) (mvT hZ (hw _ (List.mem_of_getElem? (i := 20) rfl))) (mvT hZ (hw _ (List.mem_of_getElem? (i := 21) rfl))) (by decide) (backOf (W := 1) (rm3 l Z a0 hw [] b132 a134 fi ((fi + (6 : Int32)) - (1 : Int32)) .null (.int (0 : Int32)) (.int (0 : Int32)) h134 n0 Z134 E_135 g_b132 F_136 F_137 F_138) hZ (hw _ (List.mem_of_getElem? (i := 21) rfl)) (hw _ (List.mem_of_getElem? (i := 10) rfl)) (by decide) (by decide)) (g := (mkF m 43 #[.val (.int pp1), .val (.int pp2), .val (.int (6 : Int32)), .val (.int fi), .val (.int ((fi + (6 : Int32)) - (1 : Int32))), .unset, .unset] [(.int ((fi + (6 : Int32)) - (1 : Int32))), (.int fi), (.ref a134), (.ref b132), (.ref b132)])) rfl (by rw [hml]; rfl) (Steps.refl _) (a := b132) (argsL := [(.ref a134), (.int fi), (.int ((fi + (6 : Int32)) - (1 : Int32)))]) (rest := [(.ref b132)]) (lenOf pd__28_Ljava_2f_lang_2f_String_3b_II_29_V rfl) rfl (by show 2 * 0 + _ ≤ _; exact Nat.le_of_eq rfl) (hb hby at_43) (fun _ _ => ⟨rfl, e134, (by decide : 3 + 0 ≤ _), (by decide : 11 + 0 ≤ _)⟩)
    dsimp only [Pt.U, Pt.locs, Pt.cells, Pt.slots] at X139 l139 y139 z139 st139 hQ139
    subst l139 y139 z139
    obtain ⟨rfl, N139q, K139c, R139_0, R139_1, R139_2⟩ := hQ139
    have N139 := Fr.app N129 N139q
    have Z139 : n0 ≤ T139.heap.size := Nat.le_trans Z134 K139c.1
    have kz139 := Nat.le_trans kz134 K139c.1
    have E_141 : Exa Z T139.heap b132 "com/example/escapement/escapement/cli/PartitionTable$Partition" := (E_135.keep K139c)
    obtain ⟨cq140, kq140, q140a, q140b, q140c⟩ := isOf hZ rfl E_141
    obtain ⟨_, _, ⟨T140, L140, k140, n140⟩, -, X140, ⟨Lc140, hQ140, l140, y140, z140⟩, st140⟩ := X139.virtualBack hx (y := (⟨"com/example/escapement/escapement/cli/PartitionTable$Partition", "sites", "()[I"⟩ : MethodName)) (z := (⟨"com/example/escapement/escapement/cli/PartitionTable$Partition", "sites", "()[I"⟩ : MethodName)) hown (mvT hZ (hw _ (List.mem_of_getElem? (i := 36) rfl))) (mvT hZ (hw _ (List.mem_of_getElem? (i := 37) rfl))) (notFace_of_selects (args := #[]) (mvT hZ (hw _ (List.mem_of_getElem? (i := 39) rfl)))) (mvT hZ (hw _ (List.mem_of_getElem? (i := 39) rfl))) (mvT hZ (hw _ (List.mem_of_getElem? (i := 38) rfl))) (by decide) (backOf (W := 0) (rm6_6 l Z a0 hw [] b132 fi ((fi + (6 : Int32)) - (1 : Int32)) T139.heap n0 Z139 R139_1 R139_2 (show ((((fi + (6 : Int32)) - (1 : Int32)) - fi) + (1 : Int32)) = (6 : Int32) from own_len fi (6 : Int32))) hZ (hw _ (List.mem_of_getElem? (i := 40) rfl)) (hw _ (List.mem_of_getElem? (i := 10) rfl)) (by decide) (by decide)) q140a q140c (g := (mkF m 50 #[.val (.int pp1), .val (.int pp2), .val (.int (6 : Int32)), .val (.int fi), .val (.int ((fi + (6 : Int32)) - (1 : Int32))), .val (.ref b132), .unset] [(.ref b132)])) rfl (by rw [hml]; rfl) (Steps.refl _) (argsL := []) (rest := []) (lenOf pd__28__29__5b_I rfl) rfl (by show 2 * 0 + _ ≤ _; exact Nat.le_of_eq rfl) (hb hby at_50) (fun _ _ => ⟨rfl, rfl, (by decide : 3 + 1 ≤ _), (by decide : 11 + 6 ≤ _)⟩)
    dsimp only [Pt.U, Pt.locs, Pt.cells, Pt.slots] at X140 l140 y140 z140 st140 hQ140
    subst l140 y140 z140
    obtain ⟨bx_140, kx_140, rfl, N140q, K140c, g_bx_140, sb_bx_140, R140_0⟩ := hQ140
    have N140 := Fr.app N139 N140q
    have Z140 : n0 ≤ T140.heap.size := Nat.le_trans Z139 K140c.1
    have kz140 := Nat.le_trans kz139 K140c.1
    obtain ⟨cl_142, Ar_142, -, Sz_142, Nn_142, -, -⟩ := id R140_0
    have hc64_6 : (6 : Int32) = (6 : Int32) := by decide
    obtain ⟨cl_143, Ar_143, qq_143, Sz_143, Nn_143, Hh_143, Gg_143⟩ := id R140_0
    have hin_143 : ¬ ((0 : Int32) < 0 ∨ cl_143.slots.size ≤ ((0 : Int32)).toNatClampNeg) := inb_of Sz_143 ⟨by decide, by decide⟩
    have hat_143 : cl_143.slots[((0 : Int32)).toNatClampNeg]? = some (.int ((fi - (1 : Int32)) + (0 : Int32))) := Has.at Hh_143 hin_143 rfl
    have hc76_6 : ((fi - (1 : Int32)) + (0 : Int32)) = (fi - (1 : Int32)) := Int32.add_zero _
    obtain ⟨cl_144, Ar_144, qq_144, Sz_144, Nn_144, Hh_144, Gg_144⟩ := id R140_0
    have hin_144 : ¬ ((5 : Int32) < 0 ∨ cl_144.slots.size ≤ ((5 : Int32)).toNatClampNeg) := inb_of Sz_144 ⟨by decide, by decide⟩
    have hat_144 : cl_144.slots[((5 : Int32)).toNatClampNeg]? = some (.int ((fi - (1 : Int32)) + (5 : Int32))) := Has.at Hh_144 hin_144 rfl
    have hc89_6 : ((fi - (1 : Int32)) + (5 : Int32)) = (((fi + (6 : Int32)) - (1 : Int32)) - (1 : Int32)) := own_last fi (6 : Int32)
    obtain ⟨_, _, ⟨T145, L145, k145, n145⟩, -, X145, ⟨Lc145, hQ145, l145, y145, z145⟩, st145⟩ := Jvm.LawKit.callS X140 hx (y := (⟨"com/example/escapement/escapement/cli/PartitionSitesPinLaw", "at", "([III)Z"⟩ : MethodName)) hown (mvT hZ (hw _ (List.mem_of_getElem? (i := 42) rfl))) (mvT hZ (hw _ (List.mem_of_getElem? (i := 43) rfl))) (mvT hZ (hw _ (List.mem_of_getElem? (i := 44) rfl))) (mvT hZ (hw _ (List.mem_of_getElem? (i := 45) rfl))) (by decide) (backOf (W := 0) (rm7 l Z a0 hw [] bx_140 (0 : Int32) fi kx_140 (6 : Int32) [(.int ((fi - (1 : Int32)) + (0 : Int32))), (.int ((fi - (1 : Int32)) + (1 : Int32))), (.int ((fi - (1 : Int32)) + (2 : Int32))), (.int ((fi - (1 : Int32)) + (3 : Int32))), (.int ((fi - (1 : Int32)) + (4 : Int32))), (.int ((fi - (1 : Int32)) + (5 : Int32)))] T140.heap n0 Z140 R140_0 (show ¬ (0 : Int32) < (0 : Int32) from (by decide)) (show (0 : Int32) < (6 : Int32) → ([(.int ((fi - (1 : Int32)) + (0 : Int32))), (.int ((fi - (1 : Int32)) + (1 : Int32))), (.int ((fi - (1 : Int32)) + (2 : Int32))), (.int ((fi - (1 : Int32)) + (3 : Int32))), (.int ((fi - (1 : Int32)) + (4 : Int32))), (.int ((fi - (1 : Int32)) + (5 : Int32)))] : List Value).getD ((0 : Int32)).toNatClampNeg (.int (0 : Int32)) = .int ((fi - (1 : Int32)) + (0 : Int32)) from (fun _ => rfl))) hZ (hw _ (List.mem_of_getElem? (i := 45) rfl)) (hw _ (List.mem_of_getElem? (i := 44) rfl)) (by decide) (by decide)) (g := (mkF m 98 #[.val (.int pp1), .val (.int pp2), .val (.int (6 : Int32)), .val (.int fi), .val (.int ((fi + (6 : Int32)) - (1 : Int32))), .val (.ref b132), .val (.ref bx_140)] [(.int fi), (.int (0 : Int32)), (.ref bx_140)])) rfl (by rw [hml]; rfl) (argsL := [(.ref bx_140), (.int (0 : Int32)), (.int fi)]) (rest := []) (lenOf pd__28__5b_III_29_Z rfl) rfl (by show 2 * 0 + _ ≤ _; exact Nat.le_of_eq rfl) (hb hby at_98) (fun _ _ => ⟨rfl, rfl, (by decide : 4 + 0 ≤ _), (by decide : 17 + 0 ≤ _)⟩)
    dsimp only [Pt.U, Pt.locs, Pt.cells, Pt.slots] at X145 l145 y145 z145 st145 hQ145
    subst l145 y145 z145
    obtain ⟨rfl, N145q, e145⟩ := hQ145
    have N145 := Fr.app N140 N145q
    have hc101_6 : ¬ ((1 : Int32) = (0 : Int32)) := by decide
    obtain ⟨_, _, ⟨T146, L146, k146, n146⟩, -, X146, ⟨Lc146, hQ146, l146, y146, z146⟩, st146⟩ := Jvm.LawKit.callS X145 hx (y := (⟨"com/example/escapement/escapement/cli/PartitionSitesPinLaw", "at", "([III)Z"⟩ : MethodName)) hown (mvT hZ (hw _ (List.mem_of_getElem? (i := 42) rfl))) (mvT hZ (hw _ (List.mem_of_getElem? (i := 43) rfl))) (mvT hZ (hw _ (List.mem_of_getElem? (i := 44) rfl))) (mvT hZ (hw _ (List.mem_of_getElem? (i := 45) rfl))) (by decide) (backOf (W := 0) (rm7 l Z a0 hw [] bx_140 (1 : Int32) fi kx_140 (6 : Int32) [(.int ((fi - (1 : Int32)) + (0 : Int32))), (.int ((fi - (1 : Int32)) + (1 : Int32))), (.int ((fi - (1 : Int32)) + (2 : Int32))), (.int ((fi - (1 : Int32)) + (3 : Int32))), (.int ((fi - (1 : Int32)) + (4 : Int32))), (.int ((fi - (1 : Int32)) + (5 : Int32)))] T140.heap n0 Z140 R140_0 (show ¬ (1 : Int32) < (0 : Int32) from (by decide)) (show (1 : Int32) < (6 : Int32) → ([(.int ((fi - (1 : Int32)) + (0 : Int32))), (.int ((fi - (1 : Int32)) + (1 : Int32))), (.int ((fi - (1 : Int32)) + (2 : Int32))), (.int ((fi - (1 : Int32)) + (3 : Int32))), (.int ((fi - (1 : Int32)) + (4 : Int32))), (.int ((fi - (1 : Int32)) + (5 : Int32)))] : List Value).getD ((1 : Int32)).toNatClampNeg (.int (0 : Int32)) = .int ((fi - (1 : Int32)) + (1 : Int32)) from (fun _ => rfl))) hZ (hw _ (List.mem_of_getElem? (i := 45) rfl)) (hw _ (List.mem_of_getElem? (i := 44) rfl)) (by decide) (by decide)) (g := (mkF m 108 #[.val (.int pp1), .val (.int pp2), .val (.int (6 : Int32)), .val (.int fi), .val (.int ((fi + (6 : Int32)) - (1 : Int32))), .val (.ref b132), .val (.ref bx_140)] [(.int fi), (.int (1 : Int32)), (.ref bx_140)])) rfl (by rw [hml]; rfl) (argsL := [(.ref bx_140), (.int (1 : Int32)), (.int fi)]) (rest := []) (lenOf pd__28__5b_III_29_Z rfl) rfl (by show 2 * 0 + _ ≤ _; exact Nat.le_of_eq rfl) (hb hby at_108) (fun _ _ => ⟨rfl, e145, (by decide : 4 + 0 ≤ _), (by decide : 17 + 0 ≤ _)⟩)
    dsimp only [Pt.U, Pt.locs, Pt.cells, Pt.slots] at X146 l146 y146 z146 st146 hQ146
    subst l146 y146 z146
    obtain ⟨rfl, N146q, e146⟩ := hQ146
    have N146 := Fr.app N145 N146q
    have hc111_6 : ¬ ((1 : Int32) = (0 : Int32)) := by decide
    obtain ⟨_, _, ⟨T147, L147, k147, n147⟩, -, X147, ⟨Lc147, hQ147, l147, y147, z147⟩, st147⟩ := Jvm.LawKit.callS X146 hx (y := (⟨"com/example/escapement/escapement/cli/PartitionSitesPinLaw", "at", "([III)Z"⟩ : MethodName)) hown (mvT hZ (hw _ (List.mem_of_getElem? (i := 42) rfl))) (mvT hZ (hw _ (List.mem_of_getElem? (i := 43) rfl))) (mvT hZ (hw _ (List.mem_of_getElem? (i := 44) rfl))) (mvT hZ (hw _ (List.mem_of_getElem? (i := 45) rfl))) (by decide) (backOf (W := 0) (rm7 l Z a0 hw [] bx_140 (2 : Int32) fi kx_140 (6 : Int32) [(.int ((fi - (1 : Int32)) + (0 : Int32))), (.int ((fi - (1 : Int32)) + (1 : Int32))), (.int ((fi - (1 : Int32)) + (2 : Int32))), (.int ((fi - (1 : Int32)) + (3 : Int32))), (.int ((fi - (1 : Int32)) + (4 : Int32))), (.int ((fi - (1 : Int32)) + (5 : Int32)))] T140.heap n0 Z140 R140_0 (show ¬ (2 : Int32) < (0 : Int32) from (by decide)) (show (2 : Int32) < (6 : Int32) → ([(.int ((fi - (1 : Int32)) + (0 : Int32))), (.int ((fi - (1 : Int32)) + (1 : Int32))), (.int ((fi - (1 : Int32)) + (2 : Int32))), (.int ((fi - (1 : Int32)) + (3 : Int32))), (.int ((fi - (1 : Int32)) + (4 : Int32))), (.int ((fi - (1 : Int32)) + (5 : Int32)))] : List Value).getD ((2 : Int32)).toNatClampNeg (.int (0 : Int32)) = .int ((fi - (1 : Int32)) + (2 : Int32)) from (fun _ => rfl))) hZ (hw _ (List.mem_of_getElem? (i := 45) rfl)) (hw _ (List.mem_of_getElem? (i := 44) rfl)) (by decide) (by decide)) (g := (mkF m 118 #[.val (.int pp1), .val (.int pp2), .val (.int (6 : Int32)), .val (.int fi), .val (.int ((fi + (6 : Int32)) - (1 : Int32))), .val (.ref b132), .val (.ref bx_140)] [(.int fi), (.int (2 : Int32)), (.ref bx_140)])) rfl (by rw [hml]; rfl) (argsL := [(.ref bx_140), (.int (2 : Int32)), (.int fi)]) (rest := []) (lenOf pd__28__5b_III_29_Z rfl) rfl (by show 2 * 0 + _ ≤ _; exact Nat.le_of_eq rfl) (hb hby at_118) (fun _ _ => ⟨rfl, e146, (by decide : 4 + 0 ≤ _), (by decide : 17 + 0 ≤ _)⟩)
    dsimp only [Pt.U, Pt.locs, Pt.cells, Pt.slots] at X147 l147 y147 z147 st147 hQ147
    subst l147 y147 z147
    obtain ⟨rfl, N147q, e147⟩ := hQ147
    have N147 := Fr.app N146 N147q
    have hc121_6 : ¬ ((1 : Int32) = (0 : Int32)) := by decide
    obtain ⟨_, _, ⟨T148, L148, k148, n148⟩, -, X148, ⟨Lc148, hQ148, l148, y148, z148⟩, st148⟩ := Jvm.LawKit.callS X147 hx (y := (⟨"com/example/escapement/escapement/cli/PartitionSitesPinLaw", "at", "([III)Z"⟩ : MethodName)) hown (mvT hZ (hw _ (List.mem_of_getElem? (i := 42) rfl))) (mvT hZ (hw _ (List.mem_of_getElem? (i := 43) rfl))) (mvT hZ (hw _ (List.mem_of_getElem? (i := 44) rfl))) (mvT hZ (hw _ (List.mem_of_getElem? (i := 45) rfl))) (by decide) (backOf (W := 0) (rm7 l Z a0 hw [] bx_140 (3 : Int32) fi kx_140 (6 : Int32) [(.int ((fi - (1 : Int32)) + (0 : Int32))), (.int ((fi - (1 : Int32)) + (1 : Int32))), (.int ((fi - (1 : Int32)) + (2 : Int32))), (.int ((fi - (1 : Int32)) + (3 : Int32))), (.int ((fi - (1 : Int32)) + (4 : Int32))), (.int ((fi - (1 : Int32)) + (5 : Int32)))] T140.heap n0 Z140 R140_0 (show ¬ (3 : Int32) < (0 : Int32) from (by decide)) (show (3 : Int32) < (6 : Int32) → ([(.int ((fi - (1 : Int32)) + (0 : Int32))), (.int ((fi - (1 : Int32)) + (1 : Int32))), (.int ((fi - (1 : Int32)) + (2 : Int32))), (.int ((fi - (1 : Int32)) + (3 : Int32))), (.int ((fi - (1 : Int32)) + (4 : Int32))), (.int ((fi - (1 : Int32)) + (5 : Int32)))] : List Value).getD ((3 : Int32)).toNatClampNeg (.int (0 : Int32)) = .int ((fi - (1 : Int32)) + (3 : Int32)) from (fun _ => rfl))) hZ (hw _ (List.mem_of_getElem? (i := 45) rfl)) (hw _ (List.mem_of_getElem? (i := 44) rfl)) (by decide) (by decide)) (g := (mkF m 128 #[.val (.int pp1), .val (.int pp2), .val (.int (6 : Int32)), .val (.int fi), .val (.int ((fi + (6 : Int32)) - (1 : Int32))), .val (.ref b132), .val (.ref bx_140)] [(.int fi), (.int (3 : Int32)), (.ref bx_140)])) rfl (by rw [hml]; rfl) (argsL := [(.ref bx_140), (.int (3 : Int32)), (.int fi)]) (rest := []) (lenOf pd__28__5b_III_29_Z rfl) rfl (by show 2 * 0 + _ ≤ _; exact Nat.le_of_eq rfl) (hb hby at_128) (fun _ _ => ⟨rfl, e147, (by decide : 4 + 0 ≤ _), (by decide : 17 + 0 ≤ _)⟩)
    dsimp only [Pt.U, Pt.locs, Pt.cells, Pt.slots] at X148 l148 y148 z148 st148 hQ148
    subst l148 y148 z148
    obtain ⟨rfl, N148q, e148⟩ := hQ148
    have N148 := Fr.app N147 N148q
    have hc131_6 : ¬ ((1 : Int32) = (0 : Int32)) := by decide
    obtain ⟨_, _, ⟨T149, L149, k149, n149⟩, -, X149, ⟨Lc149, hQ149, l149, y149, z149⟩, st149⟩ := Jvm.LawKit.callS X148 hx (y := (⟨"com/example/escapement/escapement/cli/PartitionSitesPinLaw", "at", "([III)Z"⟩ : MethodName)) hown (mvT hZ (hw _ (List.mem_of_getElem? (i := 42) rfl))) (mvT hZ (hw _ (List.mem_of_getElem? (i := 43) rfl))) (mvT hZ (hw _ (List.mem_of_getElem? (i := 44) rfl))) (mvT hZ (hw _ (List.mem_of_getElem? (i := 45) rfl))) (by decide) (backOf (W := 0) (rm7 l Z a0 hw [] bx_140 (4 : Int32) fi kx_140 (6 : Int32) [(.int ((fi - (1 : Int32)) + (0 : Int32))), (.int ((fi - (1 : Int32)) + (1 : Int32))), (.int ((fi - (1 : Int32)) + (2 : Int32))), (.int ((fi - (1 : Int32)) + (3 : Int32))), (.int ((fi - (1 : Int32)) + (4 : Int32))), (.int ((fi - (1 : Int32)) + (5 : Int32)))] T140.heap n0 Z140 R140_0 (show ¬ (4 : Int32) < (0 : Int32) from (by decide)) (show (4 : Int32) < (6 : Int32) → ([(.int ((fi - (1 : Int32)) + (0 : Int32))), (.int ((fi - (1 : Int32)) + (1 : Int32))), (.int ((fi - (1 : Int32)) + (2 : Int32))), (.int ((fi - (1 : Int32)) + (3 : Int32))), (.int ((fi - (1 : Int32)) + (4 : Int32))), (.int ((fi - (1 : Int32)) + (5 : Int32)))] : List Value).getD ((4 : Int32)).toNatClampNeg (.int (0 : Int32)) = .int ((fi - (1 : Int32)) + (4 : Int32)) from (fun _ => rfl))) hZ (hw _ (List.mem_of_getElem? (i := 45) rfl)) (hw _ (List.mem_of_getElem? (i := 44) rfl)) (by decide) (by decide)) (g := (mkF m 138 #[.val (.int pp1), .val (.int pp2), .val (.int (6 : Int32)), .val (.int fi), .val (.int ((fi + (6 : Int32)) - (1 : Int32))), .val (.ref b132), .val (.ref bx_140)] [(.int fi), (.int (4 : Int32)), (.ref bx_140)])) rfl (by rw [hml]; rfl) (argsL := [(.ref bx_140), (.int (4 : Int32)), (.int fi)]) (rest := []) (lenOf pd__28__5b_III_29_Z rfl) rfl (by show 2 * 0 + _ ≤ _; exact Nat.le_of_eq rfl) (hb hby at_138) (fun _ _ => ⟨rfl, e148, (by decide : 4 + 0 ≤ _), (by decide : 17 + 0 ≤ _)⟩)
    dsimp only [Pt.U, Pt.locs, Pt.cells, Pt.slots] at X149 l149 y149 z149 st149 hQ149
    subst l149 y149 z149
    obtain ⟨rfl, N149q, e149⟩ := hQ149
    have N149 := Fr.app N148 N149q
    have hc141_6 : ¬ ((1 : Int32) = (0 : Int32)) := by decide
    obtain ⟨_, _, ⟨T150, L150, k150, n150⟩, -, X150, ⟨Lc150, hQ150, l150, y150, z150⟩, st150⟩ := Jvm.LawKit.callS X149 hx (y := (⟨"com/example/escapement/escapement/cli/PartitionSitesPinLaw", "at", "([III)Z"⟩ : MethodName)) hown (mvT hZ (hw _ (List.mem_of_getElem? (i := 42) rfl))) (mvT hZ (hw _ (List.mem_of_getElem? (i := 43) rfl))) (mvT hZ (hw _ (List.mem_of_getElem? (i := 44) rfl))) (mvT hZ (hw _ (List.mem_of_getElem? (i := 45) rfl))) (by decide) (backOf (W := 0) (rm7 l Z a0 hw [] bx_140 (5 : Int32) fi kx_140 (6 : Int32) [(.int ((fi - (1 : Int32)) + (0 : Int32))), (.int ((fi - (1 : Int32)) + (1 : Int32))), (.int ((fi - (1 : Int32)) + (2 : Int32))), (.int ((fi - (1 : Int32)) + (3 : Int32))), (.int ((fi - (1 : Int32)) + (4 : Int32))), (.int ((fi - (1 : Int32)) + (5 : Int32)))] T140.heap n0 Z140 R140_0 (show ¬ (5 : Int32) < (0 : Int32) from (by decide)) (show (5 : Int32) < (6 : Int32) → ([(.int ((fi - (1 : Int32)) + (0 : Int32))), (.int ((fi - (1 : Int32)) + (1 : Int32))), (.int ((fi - (1 : Int32)) + (2 : Int32))), (.int ((fi - (1 : Int32)) + (3 : Int32))), (.int ((fi - (1 : Int32)) + (4 : Int32))), (.int ((fi - (1 : Int32)) + (5 : Int32)))] : List Value).getD ((5 : Int32)).toNatClampNeg (.int (0 : Int32)) = .int ((fi - (1 : Int32)) + (5 : Int32)) from (fun _ => rfl))) hZ (hw _ (List.mem_of_getElem? (i := 45) rfl)) (hw _ (List.mem_of_getElem? (i := 44) rfl)) (by decide) (by decide)) (g := (mkF m 148 #[.val (.int pp1), .val (.int pp2), .val (.int (6 : Int32)), .val (.int fi), .val (.int ((fi + (6 : Int32)) - (1 : Int32))), .val (.ref b132), .val (.ref bx_140)] [(.int fi), (.int (5 : Int32)), (.ref bx_140)])) rfl (by rw [hml]; rfl) (argsL := [(.ref bx_140), (.int (5 : Int32)), (.int fi)]) (rest := []) (lenOf pd__28__5b_III_29_Z rfl) rfl (by show 2 * 0 + _ ≤ _; exact Nat.le_of_eq rfl) (hb hby at_148) (fun _ _ => ⟨rfl, e149, (by decide : 4 + 0 ≤ _), (by decide : 17 + 0 ≤ _)⟩)
    dsimp only [Pt.U, Pt.locs, Pt.cells, Pt.slots] at X150 l150 y150 z150 st150 hQ150
    subst l150 y150 z150
    obtain ⟨rfl, N150q, e150⟩ := hQ150
    have N150 := Fr.app N149 N150q
    have hc151_6 : ¬ ((1 : Int32) = (0 : Int32)) := by decide
    obtain ⟨_, _, ⟨T151, L151, k151, n151⟩, -, X151, ⟨Lc151, hQ151, l151, y151, z151⟩, st151⟩ := Jvm.LawKit.callS X150 hx (y := (⟨"com/example/escapement/escapement/cli/PartitionSitesPinLaw", "at", "([III)Z"⟩ : MethodName)) hown (mvT hZ (hw _ (List.mem_of_getElem? (i := 42) rfl))) (mvT hZ (hw _ (List.mem_of_getElem? (i := 43) rfl))) (mvT hZ (hw _ (List.mem_of_getElem? (i := 44) rfl))) (mvT hZ (hw _ (List.mem_of_getElem? (i := 45) rfl))) (by decide) (backOf (W := 0) (rm7 l Z a0 hw [] bx_140 (6 : Int32) fi kx_140 (6 : Int32) [(.int ((fi - (1 : Int32)) + (0 : Int32))), (.int ((fi - (1 : Int32)) + (1 : Int32))), (.int ((fi - (1 : Int32)) + (2 : Int32))), (.int ((fi - (1 : Int32)) + (3 : Int32))), (.int ((fi - (1 : Int32)) + (4 : Int32))), (.int ((fi - (1 : Int32)) + (5 : Int32)))] T140.heap n0 Z140 R140_0 (show ¬ (6 : Int32) < (0 : Int32) from (by decide)) (show (6 : Int32) < (6 : Int32) → ([(.int ((fi - (1 : Int32)) + (0 : Int32))), (.int ((fi - (1 : Int32)) + (1 : Int32))), (.int ((fi - (1 : Int32)) + (2 : Int32))), (.int ((fi - (1 : Int32)) + (3 : Int32))), (.int ((fi - (1 : Int32)) + (4 : Int32))), (.int ((fi - (1 : Int32)) + (5 : Int32)))] : List Value).getD ((6 : Int32)).toNatClampNeg (.int (0 : Int32)) = .int ((fi - (1 : Int32)) + (6 : Int32)) from (fun h => absurd h (by decide)))) hZ (hw _ (List.mem_of_getElem? (i := 45) rfl)) (hw _ (List.mem_of_getElem? (i := 44) rfl)) (by decide) (by decide)) (g := (mkF m 159 #[.val (.int pp1), .val (.int pp2), .val (.int (6 : Int32)), .val (.int fi), .val (.int ((fi + (6 : Int32)) - (1 : Int32))), .val (.ref b132), .val (.ref bx_140)] [(.int fi), (.int (6 : Int32)), (.ref bx_140)])) rfl (by rw [hml]; rfl) (argsL := [(.ref bx_140), (.int (6 : Int32)), (.int fi)]) (rest := []) (lenOf pd__28__5b_III_29_Z rfl) rfl (by show 2 * 0 + _ ≤ _; exact Nat.le_of_eq rfl) (hb hby at_159) (fun _ _ => ⟨rfl, e150, (by decide : 4 + 0 ≤ _), (by decide : 17 + 0 ≤ _)⟩)
    dsimp only [Pt.U, Pt.locs, Pt.cells, Pt.slots] at X151 l151 y151 z151 st151 hQ151
    subst l151 y151 z151
    obtain ⟨rfl, N151q, e151⟩ := hQ151
    have N151 := Fr.app N150 N151q
    have hc162_6 : ¬ ((1 : Int32) = (0 : Int32)) := by decide
    obtain ⟨_, _, ⟨T152, L152, k152, n152⟩, -, X152, ⟨Lc152, hQ152, l152, y152, z152⟩, st152⟩ := Jvm.LawKit.callS X151 hx (y := (⟨"com/example/escapement/escapement/cli/PartitionSitesPinLaw", "at", "([III)Z"⟩ : MethodName)) hown (mvT hZ (hw _ (List.mem_of_getElem? (i := 42) rfl))) (mvT hZ (hw _ (List.mem_of_getElem? (i := 43) rfl))) (mvT hZ (hw _ (List.mem_of_getElem? (i := 44) rfl))) (mvT hZ (hw _ (List.mem_of_getElem? (i := 45) rfl))) (by decide) (backOf (W := 0) (rm7 l Z a0 hw [] bx_140 (7 : Int32) fi kx_140 (6 : Int32) [(.int ((fi - (1 : Int32)) + (0 : Int32))), (.int ((fi - (1 : Int32)) + (1 : Int32))), (.int ((fi - (1 : Int32)) + (2 : Int32))), (.int ((fi - (1 : Int32)) + (3 : Int32))), (.int ((fi - (1 : Int32)) + (4 : Int32))), (.int ((fi - (1 : Int32)) + (5 : Int32)))] T140.heap n0 Z140 R140_0 (show ¬ (7 : Int32) < (0 : Int32) from (by decide)) (show (7 : Int32) < (6 : Int32) → ([(.int ((fi - (1 : Int32)) + (0 : Int32))), (.int ((fi - (1 : Int32)) + (1 : Int32))), (.int ((fi - (1 : Int32)) + (2 : Int32))), (.int ((fi - (1 : Int32)) + (3 : Int32))), (.int ((fi - (1 : Int32)) + (4 : Int32))), (.int ((fi - (1 : Int32)) + (5 : Int32)))] : List Value).getD ((7 : Int32)).toNatClampNeg (.int (0 : Int32)) = .int ((fi - (1 : Int32)) + (7 : Int32)) from (fun h => absurd h (by decide)))) hZ (hw _ (List.mem_of_getElem? (i := 45) rfl)) (hw _ (List.mem_of_getElem? (i := 44) rfl)) (by decide) (by decide)) (g := (mkF m 170 #[.val (.int pp1), .val (.int pp2), .val (.int (6 : Int32)), .val (.int fi), .val (.int ((fi + (6 : Int32)) - (1 : Int32))), .val (.ref b132), .val (.ref bx_140)] [(.int fi), (.int (7 : Int32)), (.ref bx_140)])) rfl (by rw [hml]; rfl) (argsL := [(.ref bx_140), (.int (7 : Int32)), (.int fi)]) (rest := []) (lenOf pd__28__5b_III_29_Z rfl) rfl (by show 2 * 0 + _ ≤ _; exact Nat.le_of_eq rfl) (hb hby at_170) (fun _ _ => ⟨rfl, e151, (by decide : 4 + 0 ≤ _), (by decide : 17 + 0 ≤ _)⟩)
    dsimp only [Pt.U, Pt.locs, Pt.cells, Pt.slots] at X152 l152 y152 z152 st152 hQ152
    subst l152 y152 z152
    obtain ⟨rfl, N152q, e152⟩ := hQ152
    have N152 := Fr.app N151 N152q
    have hc173_6 : ¬ ((1 : Int32) = (0 : Int32)) := by decide
    obtain ⟨fs, hr, hrun, hended, qe1, qe2, qe3, qe4⟩ := Stand.leaveW (s := s) (vm₁ := T134.vm) X152 hS134 (by rw [e152]; exact kz140) (v := some (.int (1 : Int32))) (fun h => by rw [Bd.returns] at h; cases h)
    refine ⟨_, _, pre133 _ ?_, hrun, hended, _, _, rfl, ?_, qe1, qe2, qe3, qe4.mono (by decide) (by decide)⟩
    · show Steps p.tables e below (T132.setTop (mkF m 38 #[.val (.int pp1), .val (.int pp2), .val (.int (6 : Int32)), .val (.int fi), .val (.int ((fi + (6 : Int32)) - (1 : Int32))), .unset, .unset] [(.ref b132), (.ref b132)])) _
      refine st134 _ ?_
      show Steps p.tables e below (T134.setTop (mkF m 40 #[.val (.int pp1), .val (.int pp2), .val (.int (6 : Int32)), .val (.int fi), .val (.int ((fi + (6 : Int32)) - (1 : Int32))), .unset, .unset] [(.ref a134), (.ref b132), (.ref b132)])) _
      refine XS.iloadN X134.here hx rfl (hb hby at_40) rfl ?_
      show Steps p.tables e below (T134.setTop (mkF m 41 #[.val (.int pp1), .val (.int pp2), .val (.int (6 : Int32)), .val (.int fi), .val (.int ((fi + (6 : Int32)) - (1 : Int32))), .unset, .unset] [(.int fi), (.ref a134), (.ref b132), (.ref b132)])) _
      refine XS.iload X134.here hx rfl (hb hby at_41) rfl ?_
      show Steps p.tables e below (T134.setTop (mkF m 43 #[.val (.int pp1), .val (.int pp2), .val (.int (6 : Int32)), .val (.int fi), .val (.int ((fi + (6 : Int32)) - (1 : Int32))), .unset, .unset] [(.int ((fi + (6 : Int32)) - (1 : Int32))), (.int fi), (.ref a134), (.ref b132), (.ref b132)])) _
      refine st139.trans ?_
      show Steps p.tables e below (T139.setTop (mkF m 46 #[.val (.int pp1), .val (.int pp2), .val (.int (6 : Int32)), .val (.int fi), .val (.int ((fi + (6 : Int32)) - (1 : Int32))), .unset, .unset] [(.ref b132)])) _
      refine XS.astore X139.here hx rfl (hb hby at_46) rfl rfl (l' := #[.val (.int pp1), .val (.int pp2), .val (.int (6 : Int32)), .val (.int fi), .val (.int ((fi + (6 : Int32)) - (1 : Int32))), .val (.ref b132), .unset]) rfl ?_
      show Steps p.tables e below (T139.setTop (mkF m 48 #[.val (.int pp1), .val (.int pp2), .val (.int (6 : Int32)), .val (.int fi), .val (.int ((fi + (6 : Int32)) - (1 : Int32))), .val (.ref b132), .unset] [])) _
      refine XS.aload X139.here hx rfl (hb hby at_48) rfl rfl ?_
      show Steps p.tables e below (T139.setTop (mkF m 50 #[.val (.int pp1), .val (.int pp2), .val (.int (6 : Int32)), .val (.int fi), .val (.int ((fi + (6 : Int32)) - (1 : Int32))), .val (.ref b132), .unset] [(.ref b132)])) _
      refine st140.trans ?_
      show Steps p.tables e below (T140.setTop (mkF m 53 #[.val (.int pp1), .val (.int pp2), .val (.int (6 : Int32)), .val (.int fi), .val (.int ((fi + (6 : Int32)) - (1 : Int32))), .val (.ref b132), .unset] [(.ref bx_140)])) _
      refine XS.astore X140.here hx rfl (hb hby at_53) rfl rfl (l' := #[.val (.int pp1), .val (.int pp2), .val (.int (6 : Int32)), .val (.int fi), .val (.int ((fi + (6 : Int32)) - (1 : Int32))), .val (.ref b132), .val (.ref bx_140)]) rfl ?_
      show Steps p.tables e below (T140.setTop (mkF m 55 #[.val (.int pp1), .val (.int pp2), .val (.int (6 : Int32)), .val (.int fi), .val (.int ((fi + (6 : Int32)) - (1 : Int32))), .val (.ref b132), .val (.ref bx_140)] [])) _
      refine XS.aload X140.here hx rfl (hb hby at_55) rfl rfl ?_
      show Steps p.tables e below (T140.setTop (mkF m 57 #[.val (.int pp1), .val (.int pp2), .val (.int (6 : Int32)), .val (.int fi), .val (.int ((fi + (6 : Int32)) - (1 : Int32))), .val (.ref b132), .val (.ref bx_140)] [(.ref bx_140)])) _
      refine XS.ifnullNo X140.here hx rfl (hb hby at_57) rfl ?_
      show Steps p.tables e below (T140.setTop (mkF m 60 #[.val (.int pp1), .val (.int pp2), .val (.int (6 : Int32)), .val (.int fi), .val (.int ((fi + (6 : Int32)) - (1 : Int32))), .val (.ref b132), .val (.ref bx_140)] [])) _
      refine XS.aload X140.here hx rfl (hb hby at_60) rfl rfl ?_
      show Steps p.tables e below (T140.setTop (mkF m 62 #[.val (.int pp1), .val (.int pp2), .val (.int (6 : Int32)), .val (.int fi), .val (.int ((fi + (6 : Int32)) - (1 : Int32))), .val (.ref b132), .val (.ref bx_140)] [(.ref bx_140)])) _
      refine X140.arraylength hx (Ar_142.1) (State.isArrayOf_alike hZ.alike Ar_142.2.1) (g := (mkF m 62 #[.val (.int pp1), .val (.int pp2), .val (.int (6 : Int32)), .val (.int fi), .val (.int ((fi + (6 : Int32)) - (1 : Int32))), .val (.ref b132), .val (.ref bx_140)] [(.ref bx_140)])) rfl rfl (hb hby at_62) _ ?_
      rw [len_of Sz_142 Nn_142]
      show Steps p.tables e below (T140.setTop (mkF m 63 #[.val (.int pp1), .val (.int pp2), .val (.int (6 : Int32)), .val (.int fi), .val (.int ((fi + (6 : Int32)) - (1 : Int32))), .val (.ref b132), .val (.ref bx_140)] [(.int (6 : Int32))])) _
      refine XS.iloadN X140.here hx rfl (hb hby at_63) rfl ?_
      show Steps p.tables e below (T140.setTop (mkF m 64 #[.val (.int pp1), .val (.int pp2), .val (.int (6 : Int32)), .val (.int fi), .val (.int ((fi + (6 : Int32)) - (1 : Int32))), .val (.ref b132), .val (.ref bx_140)] [(.int (6 : Int32)), (.int (6 : Int32))])) _
      refine XS.icmpYes X140.here hx rfl (pc0 := 64) (pc' := 69) rfl (hb hby at_64) rfl (teq hc64_6).1 (by decide) (by decide) ?_
      show Steps p.tables e below (T140.setTop (mkF m 69 #[.val (.int pp1), .val (.int pp2), .val (.int (6 : Int32)), .val (.int fi), .val (.int ((fi + (6 : Int32)) - (1 : Int32))), .val (.ref b132), .val (.ref bx_140)] [])) _
      refine XS.aload X140.here hx rfl (hb hby at_69) rfl rfl ?_
      show Steps p.tables e below (T140.setTop (mkF m 71 #[.val (.int pp1), .val (.int pp2), .val (.int (6 : Int32)), .val (.int fi), .val (.int ((fi + (6 : Int32)) - (1 : Int32))), .val (.ref b132), .val (.ref bx_140)] [(.ref bx_140)])) _
      refine XS.iconst X140.here hx rfl (hb hby at_71) ?_
      show Steps p.tables e below (T140.setTop (mkF m 72 #[.val (.int pp1), .val (.int pp2), .val (.int (6 : Int32)), .val (.int fi), .val (.int ((fi + (6 : Int32)) - (1 : Int32))), .val (.ref b132), .val (.ref bx_140)] [(.int (0 : Int32)), (.ref bx_140)])) _
      refine X140.iaload hx (j := (0 : Int32)) (v := (.int ((fi - (1 : Int32)) + (0 : Int32)))) (Ar_143.1) (State.isArrayOf_alike hZ.alike Ar_143.2.1) Ar_143.2.2 hin_143 hat_143 (g := (mkF m 72 #[.val (.int pp1), .val (.int pp2), .val (.int (6 : Int32)), .val (.int fi), .val (.int ((fi + (6 : Int32)) - (1 : Int32))), .val (.ref b132), .val (.ref bx_140)] [(.int (0 : Int32)), (.ref bx_140)])) rfl rfl (hb hby at_72) _ ?_
      show Steps p.tables e below (T140.setTop (mkF m 73 #[.val (.int pp1), .val (.int pp2), .val (.int (6 : Int32)), .val (.int fi), .val (.int ((fi + (6 : Int32)) - (1 : Int32))), .val (.ref b132), .val (.ref bx_140)] [(.int ((fi - (1 : Int32)) + (0 : Int32)))])) _
      refine XS.iloadN X140.here hx rfl (hb hby at_73) rfl ?_
      show Steps p.tables e below (T140.setTop (mkF m 74 #[.val (.int pp1), .val (.int pp2), .val (.int (6 : Int32)), .val (.int fi), .val (.int ((fi + (6 : Int32)) - (1 : Int32))), .val (.ref b132), .val (.ref bx_140)] [(.int fi), (.int ((fi - (1 : Int32)) + (0 : Int32)))])) _
      refine XS.iconst X140.here hx rfl (hb hby at_74) ?_
      show Steps p.tables e below (T140.setTop (mkF m 75 #[.val (.int pp1), .val (.int pp2), .val (.int (6 : Int32)), .val (.int fi), .val (.int ((fi + (6 : Int32)) - (1 : Int32))), .val (.ref b132), .val (.ref bx_140)] [(.int (1 : Int32)), (.int fi), (.int ((fi - (1 : Int32)) + (0 : Int32)))])) _
      refine XS.isub X140.here hx rfl (hb hby at_75) rfl ?_
      show Steps p.tables e below (T140.setTop (mkF m 76 #[.val (.int pp1), .val (.int pp2), .val (.int (6 : Int32)), .val (.int fi), .val (.int ((fi + (6 : Int32)) - (1 : Int32))), .val (.ref b132), .val (.ref bx_140)] [(.int (fi - (1 : Int32))), (.int ((fi - (1 : Int32)) + (0 : Int32)))])) _
      refine XS.icmpNo X140.here hx rfl (hb hby at_76) rfl (teq hc76_6).2 ?_
      show Steps p.tables e below (T140.setTop (mkF m 79 #[.val (.int pp1), .val (.int pp2), .val (.int (6 : Int32)), .val (.int fi), .val (.int ((fi + (6 : Int32)) - (1 : Int32))), .val (.ref b132), .val (.ref bx_140)] [])) _
      refine XS.aload X140.here hx rfl (hb hby at_79) rfl rfl ?_
      show Steps p.tables e below (T140.setTop (mkF m 81 #[.val (.int pp1), .val (.int pp2), .val (.int (6 : Int32)), .val (.int fi), .val (.int ((fi + (6 : Int32)) - (1 : Int32))), .val (.ref b132), .val (.ref bx_140)] [(.ref bx_140)])) _
      refine XS.iloadN X140.here hx rfl (hb hby at_81) rfl ?_
      show Steps p.tables e below (T140.setTop (mkF m 82 #[.val (.int pp1), .val (.int pp2), .val (.int (6 : Int32)), .val (.int fi), .val (.int ((fi + (6 : Int32)) - (1 : Int32))), .val (.ref b132), .val (.ref bx_140)] [(.int (6 : Int32)), (.ref bx_140)])) _
      refine XS.iconst X140.here hx rfl (hb hby at_82) ?_
      show Steps p.tables e below (T140.setTop (mkF m 83 #[.val (.int pp1), .val (.int pp2), .val (.int (6 : Int32)), .val (.int fi), .val (.int ((fi + (6 : Int32)) - (1 : Int32))), .val (.ref b132), .val (.ref bx_140)] [(.int (1 : Int32)), (.int (6 : Int32)), (.ref bx_140)])) _
      refine XS.isub X140.here hx rfl (hb hby at_83) rfl ?_
      show Steps p.tables e below (T140.setTop (mkF m 84 #[.val (.int pp1), .val (.int pp2), .val (.int (6 : Int32)), .val (.int fi), .val (.int ((fi + (6 : Int32)) - (1 : Int32))), .val (.ref b132), .val (.ref bx_140)] [(.int (5 : Int32)), (.ref bx_140)])) _
      refine X140.iaload hx (j := (5 : Int32)) (v := (.int ((fi - (1 : Int32)) + (5 : Int32)))) (Ar_144.1) (State.isArrayOf_alike hZ.alike Ar_144.2.1) Ar_144.2.2 hin_144 hat_144 (g := (mkF m 84 #[.val (.int pp1), .val (.int pp2), .val (.int (6 : Int32)), .val (.int fi), .val (.int ((fi + (6 : Int32)) - (1 : Int32))), .val (.ref b132), .val (.ref bx_140)] [(.int (5 : Int32)), (.ref bx_140)])) rfl rfl (hb hby at_84) _ ?_
      show Steps p.tables e below (T140.setTop (mkF m 85 #[.val (.int pp1), .val (.int pp2), .val (.int (6 : Int32)), .val (.int fi), .val (.int ((fi + (6 : Int32)) - (1 : Int32))), .val (.ref b132), .val (.ref bx_140)] [(.int ((fi - (1 : Int32)) + (5 : Int32)))])) _
      refine XS.iload X140.here hx rfl (hb hby at_85) rfl ?_
      show Steps p.tables e below (T140.setTop (mkF m 87 #[.val (.int pp1), .val (.int pp2), .val (.int (6 : Int32)), .val (.int fi), .val (.int ((fi + (6 : Int32)) - (1 : Int32))), .val (.ref b132), .val (.ref bx_140)] [(.int ((fi + (6 : Int32)) - (1 : Int32))), (.int ((fi - (1 : Int32)) + (5 : Int32)))])) _
      refine XS.iconst X140.here hx rfl (hb hby at_87) ?_
      show Steps p.tables e below (T140.setTop (mkF m 88 #[.val (.int pp1), .val (.int pp2), .val (.int (6 : Int32)), .val (.int fi), .val (.int ((fi + (6 : Int32)) - (1 : Int32))), .val (.ref b132), .val (.ref bx_140)] [(.int (1 : Int32)), (.int ((fi + (6 : Int32)) - (1 : Int32))), (.int ((fi - (1 : Int32)) + (5 : Int32)))])) _
      refine XS.isub X140.here hx rfl (hb hby at_88) rfl ?_
      show Steps p.tables e below (T140.setTop (mkF m 89 #[.val (.int pp1), .val (.int pp2), .val (.int (6 : Int32)), .val (.int fi), .val (.int ((fi + (6 : Int32)) - (1 : Int32))), .val (.ref b132), .val (.ref bx_140)] [(.int (((fi + (6 : Int32)) - (1 : Int32)) - (1 : Int32))), (.int ((fi - (1 : Int32)) + (5 : Int32)))])) _
      refine XS.icmpYes X140.here hx rfl (pc0 := 89) (pc' := 94) rfl (hb hby at_89) rfl (teq hc89_6).1 (by decide) (by decide) ?_
      show Steps p.tables e below (T140.setTop (mkF m 94 #[.val (.int pp1), .val (.int pp2), .val (.int (6 : Int32)), .val (.int fi), .val (.int ((fi + (6 : Int32)) - (1 : Int32))), .val (.ref b132), .val (.ref bx_140)] [])) _
      refine XS.aload X140.here hx rfl (hb hby at_94) rfl rfl ?_
      show Steps p.tables e below (T140.setTop (mkF m 96 #[.val (.int pp1), .val (.int pp2), .val (.int (6 : Int32)), .val (.int fi), .val (.int ((fi + (6 : Int32)) - (1 : Int32))), .val (.ref b132), .val (.ref bx_140)] [(.ref bx_140)])) _
      refine XS.iconst X140.here hx rfl (hb hby at_96) ?_
      show Steps p.tables e below (T140.setTop (mkF m 97 #[.val (.int pp1), .val (.int pp2), .val (.int (6 : Int32)), .val (.int fi), .val (.int ((fi + (6 : Int32)) - (1 : Int32))), .val (.ref b132), .val (.ref bx_140)] [(.int (0 : Int32)), (.ref bx_140)])) _
      refine XS.iloadN X140.here hx rfl (hb hby at_97) rfl ?_
      show Steps p.tables e below (T140.setTop (mkF m 98 #[.val (.int pp1), .val (.int pp2), .val (.int (6 : Int32)), .val (.int fi), .val (.int ((fi + (6 : Int32)) - (1 : Int32))), .val (.ref b132), .val (.ref bx_140)] [(.int fi), (.int (0 : Int32)), (.ref bx_140)])) _
      refine st145 _ ?_
      show Steps p.tables e below (T145.setTop (mkF m 101 #[.val (.int pp1), .val (.int pp2), .val (.int (6 : Int32)), .val (.int fi), .val (.int ((fi + (6 : Int32)) - (1 : Int32))), .val (.ref b132), .val (.ref bx_140)] [(.int (1 : Int32))])) _
      refine XS.ifNo X145.here hx rfl (hb hby at_101) rfl ((if0 _ _).trans (feq hc101_6).1) ?_
      show Steps p.tables e below (T145.setTop (mkF m 104 #[.val (.int pp1), .val (.int pp2), .val (.int (6 : Int32)), .val (.int fi), .val (.int ((fi + (6 : Int32)) - (1 : Int32))), .val (.ref b132), .val (.ref bx_140)] [])) _
      refine XS.aload X145.here hx rfl (hb hby at_104) rfl rfl ?_
      show Steps p.tables e below (T145.setTop (mkF m 106 #[.val (.int pp1), .val (.int pp2), .val (.int (6 : Int32)), .val (.int fi), .val (.int ((fi + (6 : Int32)) - (1 : Int32))), .val (.ref b132), .val (.ref bx_140)] [(.ref bx_140)])) _
      refine XS.iconst X145.here hx rfl (hb hby at_106) ?_
      show Steps p.tables e below (T145.setTop (mkF m 107 #[.val (.int pp1), .val (.int pp2), .val (.int (6 : Int32)), .val (.int fi), .val (.int ((fi + (6 : Int32)) - (1 : Int32))), .val (.ref b132), .val (.ref bx_140)] [(.int (1 : Int32)), (.ref bx_140)])) _
      refine XS.iloadN X145.here hx rfl (hb hby at_107) rfl ?_
      show Steps p.tables e below (T145.setTop (mkF m 108 #[.val (.int pp1), .val (.int pp2), .val (.int (6 : Int32)), .val (.int fi), .val (.int ((fi + (6 : Int32)) - (1 : Int32))), .val (.ref b132), .val (.ref bx_140)] [(.int fi), (.int (1 : Int32)), (.ref bx_140)])) _
      refine st146 _ ?_
      show Steps p.tables e below (T146.setTop (mkF m 111 #[.val (.int pp1), .val (.int pp2), .val (.int (6 : Int32)), .val (.int fi), .val (.int ((fi + (6 : Int32)) - (1 : Int32))), .val (.ref b132), .val (.ref bx_140)] [(.int (1 : Int32))])) _
      refine XS.ifNo X146.here hx rfl (hb hby at_111) rfl ((if0 _ _).trans (feq hc111_6).1) ?_
      show Steps p.tables e below (T146.setTop (mkF m 114 #[.val (.int pp1), .val (.int pp2), .val (.int (6 : Int32)), .val (.int fi), .val (.int ((fi + (6 : Int32)) - (1 : Int32))), .val (.ref b132), .val (.ref bx_140)] [])) _
      refine XS.aload X146.here hx rfl (hb hby at_114) rfl rfl ?_
      show Steps p.tables e below (T146.setTop (mkF m 116 #[.val (.int pp1), .val (.int pp2), .val (.int (6 : Int32)), .val (.int fi), .val (.int ((fi + (6 : Int32)) - (1 : Int32))), .val (.ref b132), .val (.ref bx_140)] [(.ref bx_140)])) _
      refine XS.iconst X146.here hx rfl (hb hby at_116) ?_
      show Steps p.tables e below (T146.setTop (mkF m 117 #[.val (.int pp1), .val (.int pp2), .val (.int (6 : Int32)), .val (.int fi), .val (.int ((fi + (6 : Int32)) - (1 : Int32))), .val (.ref b132), .val (.ref bx_140)] [(.int (2 : Int32)), (.ref bx_140)])) _
      refine XS.iloadN X146.here hx rfl (hb hby at_117) rfl ?_
      show Steps p.tables e below (T146.setTop (mkF m 118 #[.val (.int pp1), .val (.int pp2), .val (.int (6 : Int32)), .val (.int fi), .val (.int ((fi + (6 : Int32)) - (1 : Int32))), .val (.ref b132), .val (.ref bx_140)] [(.int fi), (.int (2 : Int32)), (.ref bx_140)])) _
      refine st147 _ ?_
      show Steps p.tables e below (T147.setTop (mkF m 121 #[.val (.int pp1), .val (.int pp2), .val (.int (6 : Int32)), .val (.int fi), .val (.int ((fi + (6 : Int32)) - (1 : Int32))), .val (.ref b132), .val (.ref bx_140)] [(.int (1 : Int32))])) _
      refine XS.ifNo X147.here hx rfl (hb hby at_121) rfl ((if0 _ _).trans (feq hc121_6).1) ?_
      show Steps p.tables e below (T147.setTop (mkF m 124 #[.val (.int pp1), .val (.int pp2), .val (.int (6 : Int32)), .val (.int fi), .val (.int ((fi + (6 : Int32)) - (1 : Int32))), .val (.ref b132), .val (.ref bx_140)] [])) _
      refine XS.aload X147.here hx rfl (hb hby at_124) rfl rfl ?_
      show Steps p.tables e below (T147.setTop (mkF m 126 #[.val (.int pp1), .val (.int pp2), .val (.int (6 : Int32)), .val (.int fi), .val (.int ((fi + (6 : Int32)) - (1 : Int32))), .val (.ref b132), .val (.ref bx_140)] [(.ref bx_140)])) _
      refine XS.iconst X147.here hx rfl (hb hby at_126) ?_
      show Steps p.tables e below (T147.setTop (mkF m 127 #[.val (.int pp1), .val (.int pp2), .val (.int (6 : Int32)), .val (.int fi), .val (.int ((fi + (6 : Int32)) - (1 : Int32))), .val (.ref b132), .val (.ref bx_140)] [(.int (3 : Int32)), (.ref bx_140)])) _
      refine XS.iloadN X147.here hx rfl (hb hby at_127) rfl ?_
      show Steps p.tables e below (T147.setTop (mkF m 128 #[.val (.int pp1), .val (.int pp2), .val (.int (6 : Int32)), .val (.int fi), .val (.int ((fi + (6 : Int32)) - (1 : Int32))), .val (.ref b132), .val (.ref bx_140)] [(.int fi), (.int (3 : Int32)), (.ref bx_140)])) _
      refine st148 _ ?_
      show Steps p.tables e below (T148.setTop (mkF m 131 #[.val (.int pp1), .val (.int pp2), .val (.int (6 : Int32)), .val (.int fi), .val (.int ((fi + (6 : Int32)) - (1 : Int32))), .val (.ref b132), .val (.ref bx_140)] [(.int (1 : Int32))])) _
      refine XS.ifNo X148.here hx rfl (hb hby at_131) rfl ((if0 _ _).trans (feq hc131_6).1) ?_
      show Steps p.tables e below (T148.setTop (mkF m 134 #[.val (.int pp1), .val (.int pp2), .val (.int (6 : Int32)), .val (.int fi), .val (.int ((fi + (6 : Int32)) - (1 : Int32))), .val (.ref b132), .val (.ref bx_140)] [])) _
      refine XS.aload X148.here hx rfl (hb hby at_134) rfl rfl ?_
      show Steps p.tables e below (T148.setTop (mkF m 136 #[.val (.int pp1), .val (.int pp2), .val (.int (6 : Int32)), .val (.int fi), .val (.int ((fi + (6 : Int32)) - (1 : Int32))), .val (.ref b132), .val (.ref bx_140)] [(.ref bx_140)])) _
      refine XS.iconst X148.here hx rfl (hb hby at_136) ?_
      show Steps p.tables e below (T148.setTop (mkF m 137 #[.val (.int pp1), .val (.int pp2), .val (.int (6 : Int32)), .val (.int fi), .val (.int ((fi + (6 : Int32)) - (1 : Int32))), .val (.ref b132), .val (.ref bx_140)] [(.int (4 : Int32)), (.ref bx_140)])) _
      refine XS.iloadN X148.here hx rfl (hb hby at_137) rfl ?_
      show Steps p.tables e below (T148.setTop (mkF m 138 #[.val (.int pp1), .val (.int pp2), .val (.int (6 : Int32)), .val (.int fi), .val (.int ((fi + (6 : Int32)) - (1 : Int32))), .val (.ref b132), .val (.ref bx_140)] [(.int fi), (.int (4 : Int32)), (.ref bx_140)])) _
      refine st149 _ ?_
      show Steps p.tables e below (T149.setTop (mkF m 141 #[.val (.int pp1), .val (.int pp2), .val (.int (6 : Int32)), .val (.int fi), .val (.int ((fi + (6 : Int32)) - (1 : Int32))), .val (.ref b132), .val (.ref bx_140)] [(.int (1 : Int32))])) _
      refine XS.ifNo X149.here hx rfl (hb hby at_141) rfl ((if0 _ _).trans (feq hc141_6).1) ?_
      show Steps p.tables e below (T149.setTop (mkF m 144 #[.val (.int pp1), .val (.int pp2), .val (.int (6 : Int32)), .val (.int fi), .val (.int ((fi + (6 : Int32)) - (1 : Int32))), .val (.ref b132), .val (.ref bx_140)] [])) _
      refine XS.aload X149.here hx rfl (hb hby at_144) rfl rfl ?_
      show Steps p.tables e below (T149.setTop (mkF m 146 #[.val (.int pp1), .val (.int pp2), .val (.int (6 : Int32)), .val (.int fi), .val (.int ((fi + (6 : Int32)) - (1 : Int32))), .val (.ref b132), .val (.ref bx_140)] [(.ref bx_140)])) _
      refine XS.iconst X149.here hx rfl (hb hby at_146) ?_
      show Steps p.tables e below (T149.setTop (mkF m 147 #[.val (.int pp1), .val (.int pp2), .val (.int (6 : Int32)), .val (.int fi), .val (.int ((fi + (6 : Int32)) - (1 : Int32))), .val (.ref b132), .val (.ref bx_140)] [(.int (5 : Int32)), (.ref bx_140)])) _
      refine XS.iloadN X149.here hx rfl (hb hby at_147) rfl ?_
      show Steps p.tables e below (T149.setTop (mkF m 148 #[.val (.int pp1), .val (.int pp2), .val (.int (6 : Int32)), .val (.int fi), .val (.int ((fi + (6 : Int32)) - (1 : Int32))), .val (.ref b132), .val (.ref bx_140)] [(.int fi), (.int (5 : Int32)), (.ref bx_140)])) _
      refine st150 _ ?_
      show Steps p.tables e below (T150.setTop (mkF m 151 #[.val (.int pp1), .val (.int pp2), .val (.int (6 : Int32)), .val (.int fi), .val (.int ((fi + (6 : Int32)) - (1 : Int32))), .val (.ref b132), .val (.ref bx_140)] [(.int (1 : Int32))])) _
      refine XS.ifNo X150.here hx rfl (hb hby at_151) rfl ((if0 _ _).trans (feq hc151_6).1) ?_
      show Steps p.tables e below (T150.setTop (mkF m 154 #[.val (.int pp1), .val (.int pp2), .val (.int (6 : Int32)), .val (.int fi), .val (.int ((fi + (6 : Int32)) - (1 : Int32))), .val (.ref b132), .val (.ref bx_140)] [])) _
      refine XS.aload X150.here hx rfl (hb hby at_154) rfl rfl ?_
      show Steps p.tables e below (T150.setTop (mkF m 156 #[.val (.int pp1), .val (.int pp2), .val (.int (6 : Int32)), .val (.int fi), .val (.int ((fi + (6 : Int32)) - (1 : Int32))), .val (.ref b132), .val (.ref bx_140)] [(.ref bx_140)])) _
      refine XS.bipush X150.here hx rfl (hb hby at_156) ?_
      show Steps p.tables e below (T150.setTop (mkF m 158 #[.val (.int pp1), .val (.int pp2), .val (.int (6 : Int32)), .val (.int fi), .val (.int ((fi + (6 : Int32)) - (1 : Int32))), .val (.ref b132), .val (.ref bx_140)] [(.int (6 : Int32)), (.ref bx_140)])) _
      refine XS.iloadN X150.here hx rfl (hb hby at_158) rfl ?_
      show Steps p.tables e below (T150.setTop (mkF m 159 #[.val (.int pp1), .val (.int pp2), .val (.int (6 : Int32)), .val (.int fi), .val (.int ((fi + (6 : Int32)) - (1 : Int32))), .val (.ref b132), .val (.ref bx_140)] [(.int fi), (.int (6 : Int32)), (.ref bx_140)])) _
      refine st151 _ ?_
      show Steps p.tables e below (T151.setTop (mkF m 162 #[.val (.int pp1), .val (.int pp2), .val (.int (6 : Int32)), .val (.int fi), .val (.int ((fi + (6 : Int32)) - (1 : Int32))), .val (.ref b132), .val (.ref bx_140)] [(.int (1 : Int32))])) _
      refine XS.ifNo X151.here hx rfl (hb hby at_162) rfl ((if0 _ _).trans (feq hc162_6).1) ?_
      show Steps p.tables e below (T151.setTop (mkF m 165 #[.val (.int pp1), .val (.int pp2), .val (.int (6 : Int32)), .val (.int fi), .val (.int ((fi + (6 : Int32)) - (1 : Int32))), .val (.ref b132), .val (.ref bx_140)] [])) _
      refine XS.aload X151.here hx rfl (hb hby at_165) rfl rfl ?_
      show Steps p.tables e below (T151.setTop (mkF m 167 #[.val (.int pp1), .val (.int pp2), .val (.int (6 : Int32)), .val (.int fi), .val (.int ((fi + (6 : Int32)) - (1 : Int32))), .val (.ref b132), .val (.ref bx_140)] [(.ref bx_140)])) _
      refine XS.bipush X151.here hx rfl (hb hby at_167) ?_
      show Steps p.tables e below (T151.setTop (mkF m 169 #[.val (.int pp1), .val (.int pp2), .val (.int (6 : Int32)), .val (.int fi), .val (.int ((fi + (6 : Int32)) - (1 : Int32))), .val (.ref b132), .val (.ref bx_140)] [(.int (7 : Int32)), (.ref bx_140)])) _
      refine XS.iloadN X151.here hx rfl (hb hby at_169) rfl ?_
      show Steps p.tables e below (T151.setTop (mkF m 170 #[.val (.int pp1), .val (.int pp2), .val (.int (6 : Int32)), .val (.int fi), .val (.int ((fi + (6 : Int32)) - (1 : Int32))), .val (.ref b132), .val (.ref bx_140)] [(.int fi), (.int (7 : Int32)), (.ref bx_140)])) _
      refine st152 _ ?_
      show Steps p.tables e below (T152.setTop (mkF m 173 #[.val (.int pp1), .val (.int pp2), .val (.int (6 : Int32)), .val (.int fi), .val (.int ((fi + (6 : Int32)) - (1 : Int32))), .val (.ref b132), .val (.ref bx_140)] [(.int (1 : Int32))])) _
      refine XS.ifNo X152.here hx rfl (hb hby at_173) rfl ((if0 _ _).trans (feq hc173_6).1) ?_
      show Steps p.tables e below (T152.setTop (mkF m 176 #[.val (.int pp1), .val (.int pp2), .val (.int (6 : Int32)), .val (.int fi), .val (.int ((fi + (6 : Int32)) - (1 : Int32))), .val (.ref b132), .val (.ref bx_140)] [])) _
      refine XS.iconst X152.here hx rfl (hb hby at_176) ?_
      show Steps p.tables e below (T152.setTop (mkF m 177 #[.val (.int pp1), .val (.int pp2), .val (.int (6 : Int32)), .val (.int fi), .val (.int ((fi + (6 : Int32)) - (1 : Int32))), .val (.ref b132), .val (.ref bx_140)] [(.int (1 : Int32))])) _
      refine XS.goto X152.here hx rfl (pc0 := 177) (pc' := 181) rfl (hb hby at_177) (by decide) (by decide) ?_
      show Steps p.tables e below (T152.setTop (mkF m 181 #[.val (.int pp1), .val (.int pp2), .val (.int (6 : Int32)), .val (.int fi), .val (.int ((fi + (6 : Int32)) - (1 : Int32))), .val (.ref b132), .val (.ref bx_140)] [(.int (1 : Int32))])) _
      exact retN X152 hx (t := .boolean) Bd.returns (by simp) (hb hby at_181) hr
    · show Q0 Z pp1 pp2 h0 n0 _ T152.heap _
      rw [e152]
      exact ⟨rfl, N152⟩
  · skip
    obtain ⟨_, _, ⟨T153, L153, k153, n153⟩, -, X153, ⟨Lc153, hQ153, l153, y153, z153⟩, st153⟩ := Jvm.LawKit.callS X0 hx (y := (⟨"java/lang/Math", "max", "(II)I"⟩ : MethodName)) hown (mvT hZ (hw _ (List.mem_of_getElem? (i := 1) rfl))) (mvT hZ (hw _ (List.mem_of_getElem? (i := 2) rfl))) (mvT hZ (hw _ (List.mem_of_getElem? (i := 3) rfl))) (mvT hZ (hw _ (List.mem_of_getElem? (i := 4) rfl))) (by decide) (backOf (W := 0) (rm1 l Z a0 hw [] (1 : Int32) (pp1 &&& (2147483647 : Int32)) h0 n0 Z0 ) hZ (hw _ (List.mem_of_getElem? (i := 4) rfl)) (hw _ (List.mem_of_getElem? (i := 3) rfl)) (by decide) (by decide)) (g := (mkF m 12 #[.val (.int pp1), .val (.int pp2), .val (.int (7 : Int32)), .unset, .unset, .unset, .unset] [(.int (pp1 &&& (2147483647 : Int32))), (.int (1 : Int32))])) rfl (by rw [hml]; rfl) (argsL := [(.int (1 : Int32)), (.int (pp1 &&& (2147483647 : Int32)))]) (rest := []) (lenOf pd__28_II_29_I rfl) rfl (by show 2 * 0 + _ ≤ _; exact Nat.le_of_eq rfl) (hb hby at_12) (fun _ _ => ⟨rfl, e0, (by decide : 0 + 0 ≤ _), (by decide : 0 + 0 ≤ _)⟩)
    dsimp only [Pt.U, Pt.locs, Pt.cells, Pt.slots] at X153 l153 y153 z153 st153 hQ153
    subst l153 y153 z153
    obtain ⟨rfl, N153q, e153⟩ := hQ153
    have N153 := Fr.app N0 N153q
    obtain ⟨_, _, ⟨T154, L154, k154, n154⟩, -, X154, ⟨Lc154, hQ154, l154, y154, z154⟩, st154⟩ := Jvm.LawKit.callS X153 hx (y := (⟨"java/lang/Math", "min", "(II)I"⟩ : MethodName)) hown (mvT hZ (hw _ (List.mem_of_getElem? (i := 5) rfl))) (mvT hZ (hw _ (List.mem_of_getElem? (i := 6) rfl))) (mvT hZ (hw _ (List.mem_of_getElem? (i := 3) rfl))) (mvT hZ (hw _ (List.mem_of_getElem? (i := 7) rfl))) (by decide) (backOf (W := 0) (rm2 l Z a0 hw [] (if (1 : Int32) < (pp1 &&& (2147483647 : Int32)) then (pp1 &&& (2147483647 : Int32)) else (1 : Int32)) (2147483641 : Int32) h0 n0 Z0 ) hZ (hw _ (List.mem_of_getElem? (i := 7) rfl)) (hw _ (List.mem_of_getElem? (i := 3) rfl)) (by decide) (by decide)) (g := (mkF m 23 #[.val (.int pp1), .val (.int pp2), .val (.int (7 : Int32)), .val (.int (if (1 : Int32) < (pp1 &&& (2147483647 : Int32)) then (pp1 &&& (2147483647 : Int32)) else (1 : Int32))), .unset, .unset, .unset] [(.int (2147483641 : Int32)), (.int (if (1 : Int32) < (pp1 &&& (2147483647 : Int32)) then (pp1 &&& (2147483647 : Int32)) else (1 : Int32)))])) rfl (by rw [hml]; rfl) (argsL := [(.int (if (1 : Int32) < (pp1 &&& (2147483647 : Int32)) then (pp1 &&& (2147483647 : Int32)) else (1 : Int32))), (.int (2147483641 : Int32))]) (rest := []) (lenOf pd__28_II_29_I rfl) rfl (by show 2 * 0 + _ ≤ _; exact Nat.le_of_eq rfl) (hb hby at_23) (fun _ _ => ⟨rfl, e153, (by decide : 0 + 0 ≤ _), (by decide : 0 + 0 ≤ _)⟩)
    dsimp only [Pt.U, Pt.locs, Pt.cells, Pt.slots] at X154 l154 y154 z154 st154 hQ154
    subst l154 y154 z154
    obtain ⟨rfl, N154q, e154⟩ := hQ154
    have N154 := Fr.app N153 N154q
    have pre155 : ∀ t, Steps p.tables e below (T154.setTop (mkF m 27 #[.val (.int pp1), .val (.int pp2), .val (.int (7 : Int32)), .val (.int (if (2147483641 : Int32) < (if (1 : Int32) < (pp1 &&& (2147483647 : Int32)) then (pp1 &&& (2147483647 : Int32)) else (1 : Int32)) then (2147483641 : Int32) else (if (1 : Int32) < (pp1 &&& (2147483647 : Int32)) then (pp1 &&& (2147483647 : Int32)) else (1 : Int32)))), .unset, .unset, .unset] [])) t → Steps p.tables e below (s₁.setTop (entryFrame m #[(.int pp1), (.int pp2)] maxLocals)) t := fun t kt => pre2 t (by
      show Steps p.tables e below (s₁.setTop (mkF m 7 #[.val (.int pp1), .val (.int pp2), .val (.int (7 : Int32)), .unset, .unset, .unset, .unset] [])) _
      refine XS.iconst X0.here hx rfl (hb hby at_7) ?_
      show Steps p.tables e below (s₁.setTop (mkF m 8 #[.val (.int pp1), .val (.int pp2), .val (.int (7 : Int32)), .unset, .unset, .unset, .unset] [(.int (1 : Int32))])) _
      refine XS.iloadN X0.here hx rfl (hb hby at_8) rfl ?_
      show Steps p.tables e below (s₁.setTop (mkF m 9 #[.val (.int pp1), .val (.int pp2), .val (.int (7 : Int32)), .unset, .unset, .unset, .unset] [(.int pp1), (.int (1 : Int32))])) _
      refine X0.ldcInt hx hown (mvT hZ (hw _ (List.mem_of_getElem? (i := 0) rfl))) (g := (mkF m 9 #[.val (.int pp1), .val (.int pp2), .val (.int (7 : Int32)), .unset, .unset, .unset, .unset] [(.int pp1), (.int (1 : Int32))])) rfl (hb hby at_9) _ ?_
      show Steps p.tables e below (s₁.setTop (mkF m 11 #[.val (.int pp1), .val (.int pp2), .val (.int (7 : Int32)), .unset, .unset, .unset, .unset] [(.int (2147483647 : Int32)), (.int pp1), (.int (1 : Int32))])) _
      refine XS.iand X0.here hx rfl (hb hby at_11) rfl ?_
      show Steps p.tables e below (s₁.setTop (mkF m 12 #[.val (.int pp1), .val (.int pp2), .val (.int (7 : Int32)), .unset, .unset, .unset, .unset] [(.int (pp1 &&& (2147483647 : Int32))), (.int (1 : Int32))])) _
      refine st153 _ ?_
      show Steps p.tables e below (T153.setTop (mkF m 15 #[.val (.int pp1), .val (.int pp2), .val (.int (7 : Int32)), .unset, .unset, .unset, .unset] [(.int (if (1 : Int32) < (pp1 &&& (2147483647 : Int32)) then (pp1 &&& (2147483647 : Int32)) else (1 : Int32)))])) _
      refine XS.istoreN X153.here hx rfl (hb hby at_15) rfl (l' := #[.val (.int pp1), .val (.int pp2), .val (.int (7 : Int32)), .val (.int (if (1 : Int32) < (pp1 &&& (2147483647 : Int32)) then (pp1 &&& (2147483647 : Int32)) else (1 : Int32))), .unset, .unset, .unset]) rfl ?_
      show Steps p.tables e below (T153.setTop (mkF m 16 #[.val (.int pp1), .val (.int pp2), .val (.int (7 : Int32)), .val (.int (if (1 : Int32) < (pp1 &&& (2147483647 : Int32)) then (pp1 &&& (2147483647 : Int32)) else (1 : Int32))), .unset, .unset, .unset] [])) _
      refine XS.iloadN X153.here hx rfl (hb hby at_16) rfl ?_
      show Steps p.tables e below (T153.setTop (mkF m 17 #[.val (.int pp1), .val (.int pp2), .val (.int (7 : Int32)), .val (.int (if (1 : Int32) < (pp1 &&& (2147483647 : Int32)) then (pp1 &&& (2147483647 : Int32)) else (1 : Int32))), .unset, .unset, .unset] [(.int (if (1 : Int32) < (pp1 &&& (2147483647 : Int32)) then (pp1 &&& (2147483647 : Int32)) else (1 : Int32)))])) _
      refine X153.ldcInt hx hown (mvT hZ (hw _ (List.mem_of_getElem? (i := 0) rfl))) (g := (mkF m 17 #[.val (.int pp1), .val (.int pp2), .val (.int (7 : Int32)), .val (.int (if (1 : Int32) < (pp1 &&& (2147483647 : Int32)) then (pp1 &&& (2147483647 : Int32)) else (1 : Int32))), .unset, .unset, .unset] [(.int (if (1 : Int32) < (pp1 &&& (2147483647 : Int32)) then (pp1 &&& (2147483647 : Int32)) else (1 : Int32)))])) rfl (hb hby at_17) _ ?_
      show Steps p.tables e below (T153.setTop (mkF m 19 #[.val (.int pp1), .val (.int pp2), .val (.int (7 : Int32)), .val (.int (if (1 : Int32) < (pp1 &&& (2147483647 : Int32)) then (pp1 &&& (2147483647 : Int32)) else (1 : Int32))), .unset, .unset, .unset] [(.int (2147483647 : Int32)), (.int (if (1 : Int32) < (pp1 &&& (2147483647 : Int32)) then (pp1 &&& (2147483647 : Int32)) else (1 : Int32)))])) _
      refine XS.iloadN X153.here hx rfl (hb hby at_19) rfl ?_
      show Steps p.tables e below (T153.setTop (mkF m 20 #[.val (.int pp1), .val (.int pp2), .val (.int (7 : Int32)), .val (.int (if (1 : Int32) < (pp1 &&& (2147483647 : Int32)) then (pp1 &&& (2147483647 : Int32)) else (1 : Int32))), .unset, .unset, .unset] [(.int (7 : Int32)), (.int (2147483647 : Int32)), (.int (if (1 : Int32) < (pp1 &&& (2147483647 : Int32)) then (pp1 &&& (2147483647 : Int32)) else (1 : Int32)))])) _
      refine XS.isub X153.here hx rfl (hb hby at_20) rfl ?_
      show Steps p.tables e below (T153.setTop (mkF m 21 #[.val (.int pp1), .val (.int pp2), .val (.int (7 : Int32)), .val (.int (if (1 : Int32) < (pp1 &&& (2147483647 : Int32)) then (pp1 &&& (2147483647 : Int32)) else (1 : Int32))), .unset, .unset, .unset] [(.int (2147483640 : Int32)), (.int (if (1 : Int32) < (pp1 &&& (2147483647 : Int32)) then (pp1 &&& (2147483647 : Int32)) else (1 : Int32)))])) _
      refine XS.iconst X153.here hx rfl (hb hby at_21) ?_
      show Steps p.tables e below (T153.setTop (mkF m 22 #[.val (.int pp1), .val (.int pp2), .val (.int (7 : Int32)), .val (.int (if (1 : Int32) < (pp1 &&& (2147483647 : Int32)) then (pp1 &&& (2147483647 : Int32)) else (1 : Int32))), .unset, .unset, .unset] [(.int (1 : Int32)), (.int (2147483640 : Int32)), (.int (if (1 : Int32) < (pp1 &&& (2147483647 : Int32)) then (pp1 &&& (2147483647 : Int32)) else (1 : Int32)))])) _
      refine XS.iadd X153.here hx rfl (hb hby at_22) rfl ?_
      show Steps p.tables e below (T153.setTop (mkF m 23 #[.val (.int pp1), .val (.int pp2), .val (.int (7 : Int32)), .val (.int (if (1 : Int32) < (pp1 &&& (2147483647 : Int32)) then (pp1 &&& (2147483647 : Int32)) else (1 : Int32))), .unset, .unset, .unset] [(.int (2147483641 : Int32)), (.int (if (1 : Int32) < (pp1 &&& (2147483647 : Int32)) then (pp1 &&& (2147483647 : Int32)) else (1 : Int32)))])) _
      refine st154 _ ?_
      show Steps p.tables e below (T154.setTop (mkF m 26 #[.val (.int pp1), .val (.int pp2), .val (.int (7 : Int32)), .val (.int (if (1 : Int32) < (pp1 &&& (2147483647 : Int32)) then (pp1 &&& (2147483647 : Int32)) else (1 : Int32))), .unset, .unset, .unset] [(.int (if (2147483641 : Int32) < (if (1 : Int32) < (pp1 &&& (2147483647 : Int32)) then (pp1 &&& (2147483647 : Int32)) else (1 : Int32)) then (2147483641 : Int32) else (if (1 : Int32) < (pp1 &&& (2147483647 : Int32)) then (pp1 &&& (2147483647 : Int32)) else (1 : Int32))))])) _
      refine XS.istoreN X154.here hx rfl (hb hby at_26) rfl (l' := #[.val (.int pp1), .val (.int pp2), .val (.int (7 : Int32)), .val (.int (if (2147483641 : Int32) < (if (1 : Int32) < (pp1 &&& (2147483647 : Int32)) then (pp1 &&& (2147483647 : Int32)) else (1 : Int32)) then (2147483641 : Int32) else (if (1 : Int32) < (pp1 &&& (2147483647 : Int32)) then (pp1 &&& (2147483647 : Int32)) else (1 : Int32)))), .unset, .unset, .unset]) rfl ?_
      exact kt)
    obtain ⟨fi, pre156⟩ : ∃ (fi : Int32), ∀ t, Steps p.tables e below (T154.setTop (mkF m 27 #[.val (.int pp1), .val (.int pp2), .val (.int (7 : Int32)), .val (.int fi), .unset, .unset, .unset] [])) t → Steps p.tables e below (s₁.setTop (entryFrame m #[(.int pp1), (.int pp2)] maxLocals)) t := ⟨(if (2147483641 : Int32) < (if (1 : Int32) < (pp1 &&& (2147483647 : Int32)) then (pp1 &&& (2147483647 : Int32)) else (1 : Int32)) then (2147483641 : Int32) else (if (1 : Int32) < (pp1 &&& (2147483647 : Int32)) then (pp1 &&& (2147483647 : Int32)) else (1 : Int32))), pre155⟩
    obtain ⟨T157, h157, X157, e157, E157, A157, D157, -, st157⟩ := newO X154 hx hZ hown (hw _ (List.mem_of_getElem? (i := 8) rfl)) (hw _ (List.mem_of_getElem? (i := 9) rfl)) (hw _ (List.mem_of_getElem? (i := 10) rfl)) e154 (g := (mkF m 34 #[.val (.int pp1), .val (.int pp2), .val (.int (7 : Int32)), .val (.int fi), .val (.int ((fi + (7 : Int32)) - (1 : Int32))), .unset, .unset] [])) rfl (hb hby at_34) (by decide) (by decide)
    obtain ⟨b157, g157⟩ : ∃ z, z = h0.size := ⟨_, rfl⟩
    rw [← g157] at A157 D157 st157
    have g_b157 : n0 ≤ b157 := Nat.le_trans Z0 (Nat.le_of_eq g157.symm)
    have Z157 : n0 ≤ h157.size := Nat.le_trans Z0 E157.1
    have kz157 := Nat.le_trans (Nat.le_refl _) E157.1
    have F157_name : Fld Z h157 b157 "com/example/escapement/escapement/cli/PartitionTable$Partition" "name" "Ljava/lang/String;" .null := D157 (Or.inr (hw _ (List.mem_of_getElem? (i := 31) rfl))) (ty := (.object "java/lang/String")) (by decide)
    have F157_first : Fld Z h157 b157 "com/example/escapement/escapement/cli/PartitionTable$Partition" "first" "I" (.int (0 : Int32)) := D157 (Or.inr (hw _ (List.mem_of_getElem? (i := 33) rfl))) (ty := .int) (by decide)
    have F157_last : Fld Z h157 b157 "com/example/escapement/escapement/cli/PartitionTable$Partition" "last" "I" (.int (0 : Int32)) := D157 (Or.inr (hw _ (List.mem_of_getElem? (i := 35) rfl))) (ty := .int) (by decide)
    have pre158 : ∀ t, Steps p.tables e below (T157.setTop (mkF m 38 #[.val (.int pp1), .val (.int pp2), .val (.int (7 : Int32)), .val (.int fi), .val (.int ((fi + (7 : Int32)) - (1 : Int32))), .unset, .unset] [(.ref b157), (.ref b157)])) t → Steps p.tables e below (s₁.setTop (entryFrame m #[(.int pp1), (.int pp2)] maxLocals)) t := fun t kt => pre156 t (by
      show Steps p.tables e below (T154.setTop (mkF m 27 #[.val (.int pp1), .val (.int pp2), .val (.int (7 : Int32)), .val (.int fi), .unset, .unset, .unset] [])) _
      refine XS.iloadN X154.here hx rfl (hb hby at_27) rfl ?_
      show Steps p.tables e below (T154.setTop (mkF m 28 #[.val (.int pp1), .val (.int pp2), .val (.int (7 : Int32)), .val (.int fi), .unset, .unset, .unset] [(.int fi)])) _
      refine XS.iloadN X154.here hx rfl (hb hby at_28) rfl ?_
      show Steps p.tables e below (T154.setTop (mkF m 29 #[.val (.int pp1), .val (.int pp2), .val (.int (7 : Int32)), .val (.int fi), .unset, .unset, .unset] [(.int (7 : Int32)), (.int fi)])) _
      refine XS.iadd X154.here hx rfl (hb hby at_29) rfl ?_
      show Steps p.tables e below (T154.setTop (mkF m 30 #[.val (.int pp1), .val (.int pp2), .val (.int (7 : Int32)), .val (.int fi), .unset, .unset, .unset] [(.int (fi + (7 : Int32)))])) _
      refine XS.iconst X154.here hx rfl (hb hby at_30) ?_
      show Steps p.tables e below (T154.setTop (mkF m 31 #[.val (.int pp1), .val (.int pp2), .val (.int (7 : Int32)), .val (.int fi), .unset, .unset, .unset] [(.int (1 : Int32)), (.int (fi + (7 : Int32)))])) _
      refine XS.isub X154.here hx rfl (hb hby at_31) rfl ?_
      show Steps p.tables e below (T154.setTop (mkF m 32 #[.val (.int pp1), .val (.int pp2), .val (.int (7 : Int32)), .val (.int fi), .unset, .unset, .unset] [(.int ((fi + (7 : Int32)) - (1 : Int32)))])) _
      refine XS.istore X154.here hx rfl (hb hby at_32) rfl (l' := #[.val (.int pp1), .val (.int pp2), .val (.int (7 : Int32)), .val (.int fi), .val (.int ((fi + (7 : Int32)) - (1 : Int32))), .unset, .unset]) rfl ?_
      show Steps p.tables e below (T154.setTop (mkF m 34 #[.val (.int pp1), .val (.int pp2), .val (.int (7 : Int32)), .val (.int fi), .val (.int ((fi + (7 : Int32)) - (1 : Int32))), .unset, .unset] [])) _
      refine st157 _ ?_
      show Steps p.tables e below (T157.setTop (mkF m 37 #[.val (.int pp1), .val (.int pp2), .val (.int (7 : Int32)), .val (.int fi), .val (.int ((fi + (7 : Int32)) - (1 : Int32))), .unset, .unset] [(.ref b157)])) _
      refine XS.dup X157.here hx rfl (hb hby at_37) rfl rfl ?_
      exact kt)
    obtain ⟨a159, T159, h159, kk159, X159, e159, E159, hS159, kz159, hZ, hown, st159⟩ := ldcS (s := s) (vm0 := s.vm) X157 hx hZ hown (hw _ (List.mem_of_getElem? (i := 11) rfl)) (fun d hd => hw d (own_str_in d hd)) e157 hS0 kz157 (g := (mkF m 38 #[.val (.int pp1), .val (.int pp2), .val (.int (7 : Int32)), .val (.int fi), .val (.int ((fi + (7 : Int32)) - (1 : Int32))), .unset, .unset] [(.ref b157), (.ref b157)])) rfl (hb hby at_38) (n := 4) (by decide) (by decide) (by decide) (by decide)
    have Z159 : n0 ≤ h159.size := Nat.le_trans Z157 E159.1
    have E_160 : Exa Z h159 b157 "com/example/escapement/escapement/cli/PartitionTable$Partition" := (A157.ext E159)
    have F_161 : Fld Z h159 b157 "com/example/escapement/escapement/cli/PartitionTable$Partition" "name" "Ljava/lang/String;" .null := (F157_name.ext E159)
    have F_162 : Fld Z h159 b157 "com/example/escapement/escapement/cli/PartitionTable$Partition" "first" "I" (.int (0 : Int32)) := (F157_first.ext E159)
    have F_163 : Fld Z h159 b157 "com/example/escapement/escapement/cli/PartitionTable$Partition" "last" "I" (.int (0 : Int32)) := (F157_last.ext E159)
    obtain ⟨_, _, ⟨T164, L164, k164, n164⟩, -, X164, ⟨Lc164, hQ164, l164, y164, z164⟩, st164⟩ := X159.specialBack hx (y := (⟨"com/example/escapement/escapement/cli/PartitionTable$Partition", "<init>", "(Ljava/lang/String;II)V"⟩ : MethodName)) rfl hown (mvT hZ (hw _ (List.mem_of_getElem? (i := 19) rfl))) (mvT hZ (hw _ (List.mem_of_getElem? (i := 20) rfl))) (mvT hZ (hw _ (List.mem_of_getElem? (i := 21) rfl))) (by decide) (backOf (W := 1) (rm3 l Z a0 hw [] b157 a159 fi ((fi + (7 : Int32)) - (1 : Int32)) .null (.int (0 : Int32)) (.int (0 : Int32)) h159 n0 Z159 E_160 g_b157 F_161 F_162 F_163) hZ (hw _ (List.mem_of_getElem? (i := 21) rfl)) (hw _ (List.mem_of_getElem? (i := 10) rfl)) (by decide) (by decide)) (g := (mkF m 43 #[.val (.int pp1), .val (.int pp2), .val (.int (7 : Int32)), .val (.int fi), .val (.int ((fi + (7 : Int32)) - (1 : Int32))), .unset, .unset] [(.int ((fi + (7 : Int32)) - (1 : Int32))), (.int fi), (.ref a159), (.ref b157), (.ref b157)])) rfl (by rw [hml]; rfl) (Steps.refl _) (a := b157) (argsL := [(.ref a159), (.int fi), (.int ((fi + (7 : Int32)) - (1 : Int32)))]) (rest := [(.ref b157)]) (lenOf pd__28_Ljava_2f_lang_2f_String_3b_II_29_V rfl) rfl (by show 2 * 0 + _ ≤ _; exact Nat.le_of_eq rfl) (hb hby at_43) (fun _ _ => ⟨rfl, e159, (by decide : 3 + 0 ≤ _), (by decide : 11 + 0 ≤ _)⟩)
    dsimp only [Pt.U, Pt.locs, Pt.cells, Pt.slots] at X164 l164 y164 z164 st164 hQ164
    subst l164 y164 z164
    obtain ⟨rfl, N164q, K164c, R164_0, R164_1, R164_2⟩ := hQ164
    have N164 := Fr.app N154 N164q
    have Z164 : n0 ≤ T164.heap.size := Nat.le_trans Z159 K164c.1
    have kz164 := Nat.le_trans kz159 K164c.1
    have E_166 : Exa Z T164.heap b157 "com/example/escapement/escapement/cli/PartitionTable$Partition" := (E_160.keep K164c)
    obtain ⟨cq165, kq165, q165a, q165b, q165c⟩ := isOf hZ rfl E_166
    obtain ⟨_, _, ⟨T165, L165, k165, n165⟩, -, X165, ⟨Lc165, hQ165, l165, y165, z165⟩, st165⟩ := X164.virtualBack hx (y := (⟨"com/example/escapement/escapement/cli/PartitionTable$Partition", "sites", "()[I"⟩ : MethodName)) (z := (⟨"com/example/escapement/escapement/cli/PartitionTable$Partition", "sites", "()[I"⟩ : MethodName)) hown (mvT hZ (hw _ (List.mem_of_getElem? (i := 36) rfl))) (mvT hZ (hw _ (List.mem_of_getElem? (i := 37) rfl))) (notFace_of_selects (args := #[]) (mvT hZ (hw _ (List.mem_of_getElem? (i := 39) rfl)))) (mvT hZ (hw _ (List.mem_of_getElem? (i := 39) rfl))) (mvT hZ (hw _ (List.mem_of_getElem? (i := 38) rfl))) (by decide) (backOf (W := 0) (rm6_7 l Z a0 hw [] b157 fi ((fi + (7 : Int32)) - (1 : Int32)) T164.heap n0 Z164 R164_1 R164_2 (show ((((fi + (7 : Int32)) - (1 : Int32)) - fi) + (1 : Int32)) = (7 : Int32) from own_len fi (7 : Int32))) hZ (hw _ (List.mem_of_getElem? (i := 40) rfl)) (hw _ (List.mem_of_getElem? (i := 10) rfl)) (by decide) (by decide)) q165a q165c (g := (mkF m 50 #[.val (.int pp1), .val (.int pp2), .val (.int (7 : Int32)), .val (.int fi), .val (.int ((fi + (7 : Int32)) - (1 : Int32))), .val (.ref b157), .unset] [(.ref b157)])) rfl (by rw [hml]; rfl) (Steps.refl _) (argsL := []) (rest := []) (lenOf pd__28__29__5b_I rfl) rfl (by show 2 * 0 + _ ≤ _; exact Nat.le_of_eq rfl) (hb hby at_50) (fun _ _ => ⟨rfl, rfl, (by decide : 3 + 1 ≤ _), (by decide : 11 + 7 ≤ _)⟩)
    dsimp only [Pt.U, Pt.locs, Pt.cells, Pt.slots] at X165 l165 y165 z165 st165 hQ165
    subst l165 y165 z165
    obtain ⟨bx_165, kx_165, rfl, N165q, K165c, g_bx_165, sb_bx_165, R165_0⟩ := hQ165
    have N165 := Fr.app N164 N165q
    have Z165 : n0 ≤ T165.heap.size := Nat.le_trans Z164 K165c.1
    have kz165 := Nat.le_trans kz164 K165c.1
    obtain ⟨cl_167, Ar_167, -, Sz_167, Nn_167, -, -⟩ := id R165_0
    have hc64_7 : (7 : Int32) = (7 : Int32) := by decide
    obtain ⟨cl_168, Ar_168, qq_168, Sz_168, Nn_168, Hh_168, Gg_168⟩ := id R165_0
    have hin_168 : ¬ ((0 : Int32) < 0 ∨ cl_168.slots.size ≤ ((0 : Int32)).toNatClampNeg) := inb_of Sz_168 ⟨by decide, by decide⟩
    have hat_168 : cl_168.slots[((0 : Int32)).toNatClampNeg]? = some (.int ((fi - (1 : Int32)) + (0 : Int32))) := Has.at Hh_168 hin_168 rfl
    have hc76_7 : ((fi - (1 : Int32)) + (0 : Int32)) = (fi - (1 : Int32)) := Int32.add_zero _
    obtain ⟨cl_169, Ar_169, qq_169, Sz_169, Nn_169, Hh_169, Gg_169⟩ := id R165_0
    have hin_169 : ¬ ((6 : Int32) < 0 ∨ cl_169.slots.size ≤ ((6 : Int32)).toNatClampNeg) := inb_of Sz_169 ⟨by decide, by decide⟩
    have hat_169 : cl_169.slots[((6 : Int32)).toNatClampNeg]? = some (.int ((fi - (1 : Int32)) + (6 : Int32))) := Has.at Hh_169 hin_169 rfl
    have hc89_7 : ((fi - (1 : Int32)) + (6 : Int32)) = (((fi + (7 : Int32)) - (1 : Int32)) - (1 : Int32)) := own_last fi (7 : Int32)
    obtain ⟨_, _, ⟨T170, L170, k170, n170⟩, -, X170, ⟨Lc170, hQ170, l170, y170, z170⟩, st170⟩ := Jvm.LawKit.callS X165 hx (y := (⟨"com/example/escapement/escapement/cli/PartitionSitesPinLaw", "at", "([III)Z"⟩ : MethodName)) hown (mvT hZ (hw _ (List.mem_of_getElem? (i := 42) rfl))) (mvT hZ (hw _ (List.mem_of_getElem? (i := 43) rfl))) (mvT hZ (hw _ (List.mem_of_getElem? (i := 44) rfl))) (mvT hZ (hw _ (List.mem_of_getElem? (i := 45) rfl))) (by decide) (backOf (W := 0) (rm7 l Z a0 hw [] bx_165 (0 : Int32) fi kx_165 (7 : Int32) [(.int ((fi - (1 : Int32)) + (0 : Int32))), (.int ((fi - (1 : Int32)) + (1 : Int32))), (.int ((fi - (1 : Int32)) + (2 : Int32))), (.int ((fi - (1 : Int32)) + (3 : Int32))), (.int ((fi - (1 : Int32)) + (4 : Int32))), (.int ((fi - (1 : Int32)) + (5 : Int32))), (.int ((fi - (1 : Int32)) + (6 : Int32)))] T165.heap n0 Z165 R165_0 (show ¬ (0 : Int32) < (0 : Int32) from (by decide)) (show (0 : Int32) < (7 : Int32) → ([(.int ((fi - (1 : Int32)) + (0 : Int32))), (.int ((fi - (1 : Int32)) + (1 : Int32))), (.int ((fi - (1 : Int32)) + (2 : Int32))), (.int ((fi - (1 : Int32)) + (3 : Int32))), (.int ((fi - (1 : Int32)) + (4 : Int32))), (.int ((fi - (1 : Int32)) + (5 : Int32))), (.int ((fi - (1 : Int32)) + (6 : Int32)))] : List Value).getD ((0 : Int32)).toNatClampNeg (.int (0 : Int32)) = .int ((fi - (1 : Int32)) + (0 : Int32)) from (fun _ => rfl))) hZ (hw _ (List.mem_of_getElem? (i := 45) rfl)) (hw _ (List.mem_of_getElem? (i := 44) rfl)) (by decide) (by decide)) (g := (mkF m 98 #[.val (.int pp1), .val (.int pp2), .val (.int (7 : Int32)), .val (.int fi), .val (.int ((fi + (7 : Int32)) - (1 : Int32))), .val (.ref b157), .val (.ref bx_165)] [(.int fi), (.int (0 : Int32)), (.ref bx_165)])) rfl (by rw [hml]; rfl) (argsL := [(.ref bx_165), (.int (0 : Int32)), (.int fi)]) (rest := []) (lenOf pd__28__5b_III_29_Z rfl) rfl (by show 2 * 0 + _ ≤ _; exact Nat.le_of_eq rfl) (hb hby at_98) (fun _ _ => ⟨rfl, rfl, (by decide : 4 + 0 ≤ _), (by decide : 18 + 0 ≤ _)⟩)
    dsimp only [Pt.U, Pt.locs, Pt.cells, Pt.slots] at X170 l170 y170 z170 st170 hQ170
    subst l170 y170 z170
    obtain ⟨rfl, N170q, e170⟩ := hQ170
    have N170 := Fr.app N165 N170q
    have hc101_7 : ¬ ((1 : Int32) = (0 : Int32)) := by decide
    obtain ⟨_, _, ⟨T171, L171, k171, n171⟩, -, X171, ⟨Lc171, hQ171, l171, y171, z171⟩, st171⟩ := Jvm.LawKit.callS X170 hx (y := (⟨"com/example/escapement/escapement/cli/PartitionSitesPinLaw", "at", "([III)Z"⟩ : MethodName)) hown (mvT hZ (hw _ (List.mem_of_getElem? (i := 42) rfl))) (mvT hZ (hw _ (List.mem_of_getElem? (i := 43) rfl))) (mvT hZ (hw _ (List.mem_of_getElem? (i := 44) rfl))) (mvT hZ (hw _ (List.mem_of_getElem? (i := 45) rfl))) (by decide) (backOf (W := 0) (rm7 l Z a0 hw [] bx_165 (1 : Int32) fi kx_165 (7 : Int32) [(.int ((fi - (1 : Int32)) + (0 : Int32))), (.int ((fi - (1 : Int32)) + (1 : Int32))), (.int ((fi - (1 : Int32)) + (2 : Int32))), (.int ((fi - (1 : Int32)) + (3 : Int32))), (.int ((fi - (1 : Int32)) + (4 : Int32))), (.int ((fi - (1 : Int32)) + (5 : Int32))), (.int ((fi - (1 : Int32)) + (6 : Int32)))] T165.heap n0 Z165 R165_0 (show ¬ (1 : Int32) < (0 : Int32) from (by decide)) (show (1 : Int32) < (7 : Int32) → ([(.int ((fi - (1 : Int32)) + (0 : Int32))), (.int ((fi - (1 : Int32)) + (1 : Int32))), (.int ((fi - (1 : Int32)) + (2 : Int32))), (.int ((fi - (1 : Int32)) + (3 : Int32))), (.int ((fi - (1 : Int32)) + (4 : Int32))), (.int ((fi - (1 : Int32)) + (5 : Int32))), (.int ((fi - (1 : Int32)) + (6 : Int32)))] : List Value).getD ((1 : Int32)).toNatClampNeg (.int (0 : Int32)) = .int ((fi - (1 : Int32)) + (1 : Int32)) from (fun _ => rfl))) hZ (hw _ (List.mem_of_getElem? (i := 45) rfl)) (hw _ (List.mem_of_getElem? (i := 44) rfl)) (by decide) (by decide)) (g := (mkF m 108 #[.val (.int pp1), .val (.int pp2), .val (.int (7 : Int32)), .val (.int fi), .val (.int ((fi + (7 : Int32)) - (1 : Int32))), .val (.ref b157), .val (.ref bx_165)] [(.int fi), (.int (1 : Int32)), (.ref bx_165)])) rfl (by rw [hml]; rfl) (argsL := [(.ref bx_165), (.int (1 : Int32)), (.int fi)]) (rest := []) (lenOf pd__28__5b_III_29_Z rfl) rfl (by show 2 * 0 + _ ≤ _; exact Nat.le_of_eq rfl) (hb hby at_108) (fun _ _ => ⟨rfl, e170, (by decide : 4 + 0 ≤ _), (by decide : 18 + 0 ≤ _)⟩)
    dsimp only [Pt.U, Pt.locs, Pt.cells, Pt.slots] at X171 l171 y171 z171 st171 hQ171
    subst l171 y171 z171
    obtain ⟨rfl, N171q, e171⟩ := hQ171
    have N171 := Fr.app N170 N171q
    have hc111_7 : ¬ ((1 : Int32) = (0 : Int32)) := by decide
    obtain ⟨_, _, ⟨T172, L172, k172, n172⟩, -, X172, ⟨Lc172, hQ172, l172, y172, z172⟩, st172⟩ := Jvm.LawKit.callS X171 hx (y := (⟨"com/example/escapement/escapement/cli/PartitionSitesPinLaw", "at", "([III)Z"⟩ : MethodName)) hown (mvT hZ (hw _ (List.mem_of_getElem? (i := 42) rfl))) (mvT hZ (hw _ (List.mem_of_getElem? (i := 43) rfl))) (mvT hZ (hw _ (List.mem_of_getElem? (i := 44) rfl))) (mvT hZ (hw _ (List.mem_of_getElem? (i := 45) rfl))) (by decide) (backOf (W := 0) (rm7 l Z a0 hw [] bx_165 (2 : Int32) fi kx_165 (7 : Int32) [(.int ((fi - (1 : Int32)) + (0 : Int32))), (.int ((fi - (1 : Int32)) + (1 : Int32))), (.int ((fi - (1 : Int32)) + (2 : Int32))), (.int ((fi - (1 : Int32)) + (3 : Int32))), (.int ((fi - (1 : Int32)) + (4 : Int32))), (.int ((fi - (1 : Int32)) + (5 : Int32))), (.int ((fi - (1 : Int32)) + (6 : Int32)))] T165.heap n0 Z165 R165_0 (show ¬ (2 : Int32) < (0 : Int32) from (by decide)) (show (2 : Int32) < (7 : Int32) → ([(.int ((fi - (1 : Int32)) + (0 : Int32))), (.int ((fi - (1 : Int32)) + (1 : Int32))), (.int ((fi - (1 : Int32)) + (2 : Int32))), (.int ((fi - (1 : Int32)) + (3 : Int32))), (.int ((fi - (1 : Int32)) + (4 : Int32))), (.int ((fi - (1 : Int32)) + (5 : Int32))), (.int ((fi - (1 : Int32)) + (6 : Int32)))] : List Value).getD ((2 : Int32)).toNatClampNeg (.int (0 : Int32)) = .int ((fi - (1 : Int32)) + (2 : Int32)) from (fun _ => rfl))) hZ (hw _ (List.mem_of_getElem? (i := 45) rfl)) (hw _ (List.mem_of_getElem? (i := 44) rfl)) (by decide) (by decide)) (g := (mkF m 118 #[.val (.int pp1), .val (.int pp2), .val (.int (7 : Int32)), .val (.int fi), .val (.int ((fi + (7 : Int32)) - (1 : Int32))), .val (.ref b157), .val (.ref bx_165)] [(.int fi), (.int (2 : Int32)), (.ref bx_165)])) rfl (by rw [hml]; rfl) (argsL := [(.ref bx_165), (.int (2 : Int32)), (.int fi)]) (rest := []) (lenOf pd__28__5b_III_29_Z rfl) rfl (by show 2 * 0 + _ ≤ _; exact Nat.le_of_eq rfl) (hb hby at_118) (fun _ _ => ⟨rfl, e171, (by decide : 4 + 0 ≤ _), (by decide : 18 + 0 ≤ _)⟩)
    dsimp only [Pt.U, Pt.locs, Pt.cells, Pt.slots] at X172 l172 y172 z172 st172 hQ172
    subst l172 y172 z172
    obtain ⟨rfl, N172q, e172⟩ := hQ172
    have N172 := Fr.app N171 N172q
    have hc121_7 : ¬ ((1 : Int32) = (0 : Int32)) := by decide
    obtain ⟨_, _, ⟨T173, L173, k173, n173⟩, -, X173, ⟨Lc173, hQ173, l173, y173, z173⟩, st173⟩ := Jvm.LawKit.callS X172 hx (y := (⟨"com/example/escapement/escapement/cli/PartitionSitesPinLaw", "at", "([III)Z"⟩ : MethodName)) hown (mvT hZ (hw _ (List.mem_of_getElem? (i := 42) rfl))) (mvT hZ (hw _ (List.mem_of_getElem? (i := 43) rfl))) (mvT hZ (hw _ (List.mem_of_getElem? (i := 44) rfl))) (mvT hZ (hw _ (List.mem_of_getElem? (i := 45) rfl))) (by decide) (backOf (W := 0) (rm7 l Z a0 hw [] bx_165 (3 : Int32) fi kx_165 (7 : Int32) [(.int ((fi - (1 : Int32)) + (0 : Int32))), (.int ((fi - (1 : Int32)) + (1 : Int32))), (.int ((fi - (1 : Int32)) + (2 : Int32))), (.int ((fi - (1 : Int32)) + (3 : Int32))), (.int ((fi - (1 : Int32)) + (4 : Int32))), (.int ((fi - (1 : Int32)) + (5 : Int32))), (.int ((fi - (1 : Int32)) + (6 : Int32)))] T165.heap n0 Z165 R165_0 (show ¬ (3 : Int32) < (0 : Int32) from (by decide)) (show (3 : Int32) < (7 : Int32) → ([(.int ((fi - (1 : Int32)) + (0 : Int32))), (.int ((fi - (1 : Int32)) + (1 : Int32))), (.int ((fi - (1 : Int32)) + (2 : Int32))), (.int ((fi - (1 : Int32)) + (3 : Int32))), (.int ((fi - (1 : Int32)) + (4 : Int32))), (.int ((fi - (1 : Int32)) + (5 : Int32))), (.int ((fi - (1 : Int32)) + (6 : Int32)))] : List Value).getD ((3 : Int32)).toNatClampNeg (.int (0 : Int32)) = .int ((fi - (1 : Int32)) + (3 : Int32)) from (fun _ => rfl))) hZ (hw _ (List.mem_of_getElem? (i := 45) rfl)) (hw _ (List.mem_of_getElem? (i := 44) rfl)) (by decide) (by decide)) (g := (mkF m 128 #[.val (.int pp1), .val (.int pp2), .val (.int (7 : Int32)), .val (.int fi), .val (.int ((fi + (7 : Int32)) - (1 : Int32))), .val (.ref b157), .val (.ref bx_165)] [(.int fi), (.int (3 : Int32)), (.ref bx_165)])) rfl (by rw [hml]; rfl) (argsL := [(.ref bx_165), (.int (3 : Int32)), (.int fi)]) (rest := []) (lenOf pd__28__5b_III_29_Z rfl) rfl (by show 2 * 0 + _ ≤ _; exact Nat.le_of_eq rfl) (hb hby at_128) (fun _ _ => ⟨rfl, e172, (by decide : 4 + 0 ≤ _), (by decide : 18 + 0 ≤ _)⟩)
    dsimp only [Pt.U, Pt.locs, Pt.cells, Pt.slots] at X173 l173 y173 z173 st173 hQ173
    subst l173 y173 z173
    obtain ⟨rfl, N173q, e173⟩ := hQ173
    have N173 := Fr.app N172 N173q
    have hc131_7 : ¬ ((1 : Int32) = (0 : Int32)) := by decide
    obtain ⟨_, _, ⟨T174, L174, k174, n174⟩, -, X174, ⟨Lc174, hQ174, l174, y174, z174⟩, st174⟩ := Jvm.LawKit.callS X173 hx (y := (⟨"com/example/escapement/escapement/cli/PartitionSitesPinLaw", "at", "([III)Z"⟩ : MethodName)) hown (mvT hZ (hw _ (List.mem_of_getElem? (i := 42) rfl))) (mvT hZ (hw _ (List.mem_of_getElem? (i := 43) rfl))) (mvT hZ (hw _ (List.mem_of_getElem? (i := 44) rfl))) (mvT hZ (hw _ (List.mem_of_getElem? (i := 45) rfl))) (by decide) (backOf (W := 0) (rm7 l Z a0 hw [] bx_165 (4 : Int32) fi kx_165 (7 : Int32) [(.int ((fi - (1 : Int32)) + (0 : Int32))), (.int ((fi - (1 : Int32)) + (1 : Int32))), (.int ((fi - (1 : Int32)) + (2 : Int32))), (.int ((fi - (1 : Int32)) + (3 : Int32))), (.int ((fi - (1 : Int32)) + (4 : Int32))), (.int ((fi - (1 : Int32)) + (5 : Int32))), (.int ((fi - (1 : Int32)) + (6 : Int32)))] T165.heap n0 Z165 R165_0 (show ¬ (4 : Int32) < (0 : Int32) from (by decide)) (show (4 : Int32) < (7 : Int32) → ([(.int ((fi - (1 : Int32)) + (0 : Int32))), (.int ((fi - (1 : Int32)) + (1 : Int32))), (.int ((fi - (1 : Int32)) + (2 : Int32))), (.int ((fi - (1 : Int32)) + (3 : Int32))), (.int ((fi - (1 : Int32)) + (4 : Int32))), (.int ((fi - (1 : Int32)) + (5 : Int32))), (.int ((fi - (1 : Int32)) + (6 : Int32)))] : List Value).getD ((4 : Int32)).toNatClampNeg (.int (0 : Int32)) = .int ((fi - (1 : Int32)) + (4 : Int32)) from (fun _ => rfl))) hZ (hw _ (List.mem_of_getElem? (i := 45) rfl)) (hw _ (List.mem_of_getElem? (i := 44) rfl)) (by decide) (by decide)) (g := (mkF m 138 #[.val (.int pp1), .val (.int pp2), .val (.int (7 : Int32)), .val (.int fi), .val (.int ((fi + (7 : Int32)) - (1 : Int32))), .val (.ref b157), .val (.ref bx_165)] [(.int fi), (.int (4 : Int32)), (.ref bx_165)])) rfl (by rw [hml]; rfl) (argsL := [(.ref bx_165), (.int (4 : Int32)), (.int fi)]) (rest := []) (lenOf pd__28__5b_III_29_Z rfl) rfl (by show 2 * 0 + _ ≤ _; exact Nat.le_of_eq rfl) (hb hby at_138) (fun _ _ => ⟨rfl, e173, (by decide : 4 + 0 ≤ _), (by decide : 18 + 0 ≤ _)⟩)
    dsimp only [Pt.U, Pt.locs, Pt.cells, Pt.slots] at X174 l174 y174 z174 st174 hQ174
    subst l174 y174 z174
    obtain ⟨rfl, N174q, e174⟩ := hQ174
    have N174 := Fr.app N173 N174q
    have hc141_7 : ¬ ((1 : Int32) = (0 : Int32)) := by decide
    obtain ⟨_, _, ⟨T175, L175, k175, n175⟩, -, X175, ⟨Lc175, hQ175, l175, y175, z175⟩, st175⟩ := Jvm.LawKit.callS X174 hx (y := (⟨"com/example/escapement/escapement/cli/PartitionSitesPinLaw", "at", "([III)Z"⟩ : MethodName)) hown (mvT hZ (hw _ (List.mem_of_getElem? (i := 42) rfl))) (mvT hZ (hw _ (List.mem_of_getElem? (i := 43) rfl))) (mvT hZ (hw _ (List.mem_of_getElem? (i := 44) rfl))) (mvT hZ (hw _ (List.mem_of_getElem? (i := 45) rfl))) (by decide) (backOf (W := 0) (rm7 l Z a0 hw [] bx_165 (5 : Int32) fi kx_165 (7 : Int32) [(.int ((fi - (1 : Int32)) + (0 : Int32))), (.int ((fi - (1 : Int32)) + (1 : Int32))), (.int ((fi - (1 : Int32)) + (2 : Int32))), (.int ((fi - (1 : Int32)) + (3 : Int32))), (.int ((fi - (1 : Int32)) + (4 : Int32))), (.int ((fi - (1 : Int32)) + (5 : Int32))), (.int ((fi - (1 : Int32)) + (6 : Int32)))] T165.heap n0 Z165 R165_0 (show ¬ (5 : Int32) < (0 : Int32) from (by decide)) (show (5 : Int32) < (7 : Int32) → ([(.int ((fi - (1 : Int32)) + (0 : Int32))), (.int ((fi - (1 : Int32)) + (1 : Int32))), (.int ((fi - (1 : Int32)) + (2 : Int32))), (.int ((fi - (1 : Int32)) + (3 : Int32))), (.int ((fi - (1 : Int32)) + (4 : Int32))), (.int ((fi - (1 : Int32)) + (5 : Int32))), (.int ((fi - (1 : Int32)) + (6 : Int32)))] : List Value).getD ((5 : Int32)).toNatClampNeg (.int (0 : Int32)) = .int ((fi - (1 : Int32)) + (5 : Int32)) from (fun _ => rfl))) hZ (hw _ (List.mem_of_getElem? (i := 45) rfl)) (hw _ (List.mem_of_getElem? (i := 44) rfl)) (by decide) (by decide)) (g := (mkF m 148 #[.val (.int pp1), .val (.int pp2), .val (.int (7 : Int32)), .val (.int fi), .val (.int ((fi + (7 : Int32)) - (1 : Int32))), .val (.ref b157), .val (.ref bx_165)] [(.int fi), (.int (5 : Int32)), (.ref bx_165)])) rfl (by rw [hml]; rfl) (argsL := [(.ref bx_165), (.int (5 : Int32)), (.int fi)]) (rest := []) (lenOf pd__28__5b_III_29_Z rfl) rfl (by show 2 * 0 + _ ≤ _; exact Nat.le_of_eq rfl) (hb hby at_148) (fun _ _ => ⟨rfl, e174, (by decide : 4 + 0 ≤ _), (by decide : 18 + 0 ≤ _)⟩)
    dsimp only [Pt.U, Pt.locs, Pt.cells, Pt.slots] at X175 l175 y175 z175 st175 hQ175
    subst l175 y175 z175
    obtain ⟨rfl, N175q, e175⟩ := hQ175
    have N175 := Fr.app N174 N175q
    have hc151_7 : ¬ ((1 : Int32) = (0 : Int32)) := by decide
    obtain ⟨_, _, ⟨T176, L176, k176, n176⟩, -, X176, ⟨Lc176, hQ176, l176, y176, z176⟩, st176⟩ := Jvm.LawKit.callS X175 hx (y := (⟨"com/example/escapement/escapement/cli/PartitionSitesPinLaw", "at", "([III)Z"⟩ : MethodName)) hown (mvT hZ (hw _ (List.mem_of_getElem? (i := 42) rfl))) (mvT hZ (hw _ (List.mem_of_getElem? (i := 43) rfl))) (mvT hZ (hw _ (List.mem_of_getElem? (i := 44) rfl))) (mvT hZ (hw _ (List.mem_of_getElem? (i := 45) rfl))) (by decide) (backOf (W := 0) (rm7 l Z a0 hw [] bx_165 (6 : Int32) fi kx_165 (7 : Int32) [(.int ((fi - (1 : Int32)) + (0 : Int32))), (.int ((fi - (1 : Int32)) + (1 : Int32))), (.int ((fi - (1 : Int32)) + (2 : Int32))), (.int ((fi - (1 : Int32)) + (3 : Int32))), (.int ((fi - (1 : Int32)) + (4 : Int32))), (.int ((fi - (1 : Int32)) + (5 : Int32))), (.int ((fi - (1 : Int32)) + (6 : Int32)))] T165.heap n0 Z165 R165_0 (show ¬ (6 : Int32) < (0 : Int32) from (by decide)) (show (6 : Int32) < (7 : Int32) → ([(.int ((fi - (1 : Int32)) + (0 : Int32))), (.int ((fi - (1 : Int32)) + (1 : Int32))), (.int ((fi - (1 : Int32)) + (2 : Int32))), (.int ((fi - (1 : Int32)) + (3 : Int32))), (.int ((fi - (1 : Int32)) + (4 : Int32))), (.int ((fi - (1 : Int32)) + (5 : Int32))), (.int ((fi - (1 : Int32)) + (6 : Int32)))] : List Value).getD ((6 : Int32)).toNatClampNeg (.int (0 : Int32)) = .int ((fi - (1 : Int32)) + (6 : Int32)) from (fun _ => rfl))) hZ (hw _ (List.mem_of_getElem? (i := 45) rfl)) (hw _ (List.mem_of_getElem? (i := 44) rfl)) (by decide) (by decide)) (g := (mkF m 159 #[.val (.int pp1), .val (.int pp2), .val (.int (7 : Int32)), .val (.int fi), .val (.int ((fi + (7 : Int32)) - (1 : Int32))), .val (.ref b157), .val (.ref bx_165)] [(.int fi), (.int (6 : Int32)), (.ref bx_165)])) rfl (by rw [hml]; rfl) (argsL := [(.ref bx_165), (.int (6 : Int32)), (.int fi)]) (rest := []) (lenOf pd__28__5b_III_29_Z rfl) rfl (by show 2 * 0 + _ ≤ _; exact Nat.le_of_eq rfl) (hb hby at_159) (fun _ _ => ⟨rfl, e175, (by decide : 4 + 0 ≤ _), (by decide : 18 + 0 ≤ _)⟩)
    dsimp only [Pt.U, Pt.locs, Pt.cells, Pt.slots] at X176 l176 y176 z176 st176 hQ176
    subst l176 y176 z176
    obtain ⟨rfl, N176q, e176⟩ := hQ176
    have N176 := Fr.app N175 N176q
    have hc162_7 : ¬ ((1 : Int32) = (0 : Int32)) := by decide
    obtain ⟨_, _, ⟨T177, L177, k177, n177⟩, -, X177, ⟨Lc177, hQ177, l177, y177, z177⟩, st177⟩ := Jvm.LawKit.callS X176 hx (y := (⟨"com/example/escapement/escapement/cli/PartitionSitesPinLaw", "at", "([III)Z"⟩ : MethodName)) hown (mvT hZ (hw _ (List.mem_of_getElem? (i := 42) rfl))) (mvT hZ (hw _ (List.mem_of_getElem? (i := 43) rfl))) (mvT hZ (hw _ (List.mem_of_getElem? (i := 44) rfl))) (mvT hZ (hw _ (List.mem_of_getElem? (i := 45) rfl))) (by decide) (backOf (W := 0) (rm7 l Z a0 hw [] bx_165 (7 : Int32) fi kx_165 (7 : Int32) [(.int ((fi - (1 : Int32)) + (0 : Int32))), (.int ((fi - (1 : Int32)) + (1 : Int32))), (.int ((fi - (1 : Int32)) + (2 : Int32))), (.int ((fi - (1 : Int32)) + (3 : Int32))), (.int ((fi - (1 : Int32)) + (4 : Int32))), (.int ((fi - (1 : Int32)) + (5 : Int32))), (.int ((fi - (1 : Int32)) + (6 : Int32)))] T165.heap n0 Z165 R165_0 (show ¬ (7 : Int32) < (0 : Int32) from (by decide)) (show (7 : Int32) < (7 : Int32) → ([(.int ((fi - (1 : Int32)) + (0 : Int32))), (.int ((fi - (1 : Int32)) + (1 : Int32))), (.int ((fi - (1 : Int32)) + (2 : Int32))), (.int ((fi - (1 : Int32)) + (3 : Int32))), (.int ((fi - (1 : Int32)) + (4 : Int32))), (.int ((fi - (1 : Int32)) + (5 : Int32))), (.int ((fi - (1 : Int32)) + (6 : Int32)))] : List Value).getD ((7 : Int32)).toNatClampNeg (.int (0 : Int32)) = .int ((fi - (1 : Int32)) + (7 : Int32)) from (fun h => absurd h (by decide)))) hZ (hw _ (List.mem_of_getElem? (i := 45) rfl)) (hw _ (List.mem_of_getElem? (i := 44) rfl)) (by decide) (by decide)) (g := (mkF m 170 #[.val (.int pp1), .val (.int pp2), .val (.int (7 : Int32)), .val (.int fi), .val (.int ((fi + (7 : Int32)) - (1 : Int32))), .val (.ref b157), .val (.ref bx_165)] [(.int fi), (.int (7 : Int32)), (.ref bx_165)])) rfl (by rw [hml]; rfl) (argsL := [(.ref bx_165), (.int (7 : Int32)), (.int fi)]) (rest := []) (lenOf pd__28__5b_III_29_Z rfl) rfl (by show 2 * 0 + _ ≤ _; exact Nat.le_of_eq rfl) (hb hby at_170) (fun _ _ => ⟨rfl, e176, (by decide : 4 + 0 ≤ _), (by decide : 18 + 0 ≤ _)⟩)
    dsimp only [Pt.U, Pt.locs, Pt.cells, Pt.slots] at X177 l177 y177 z177 st177 hQ177
    subst l177 y177 z177
    obtain ⟨rfl, N177q, e177⟩ := hQ177
    have N177 := Fr.app N176 N177q
    have hc173_7 : ¬ ((1 : Int32) = (0 : Int32)) := by decide
    obtain ⟨fs, hr, hrun, hended, qe1, qe2, qe3, qe4⟩ := Stand.leaveW (s := s) (vm₁ := T159.vm) X177 hS159 (by rw [e177]; exact kz165) (v := some (.int (1 : Int32))) (fun h => by rw [Bd.returns] at h; cases h)
    refine ⟨_, _, pre158 _ ?_, hrun, hended, _, _, rfl, ?_, qe1, qe2, qe3, qe4.mono (by decide) (by decide)⟩
    · show Steps p.tables e below (T157.setTop (mkF m 38 #[.val (.int pp1), .val (.int pp2), .val (.int (7 : Int32)), .val (.int fi), .val (.int ((fi + (7 : Int32)) - (1 : Int32))), .unset, .unset] [(.ref b157), (.ref b157)])) _
      refine st159 _ ?_
      show Steps p.tables e below (T159.setTop (mkF m 40 #[.val (.int pp1), .val (.int pp2), .val (.int (7 : Int32)), .val (.int fi), .val (.int ((fi + (7 : Int32)) - (1 : Int32))), .unset, .unset] [(.ref a159), (.ref b157), (.ref b157)])) _
      refine XS.iloadN X159.here hx rfl (hb hby at_40) rfl ?_
      show Steps p.tables e below (T159.setTop (mkF m 41 #[.val (.int pp1), .val (.int pp2), .val (.int (7 : Int32)), .val (.int fi), .val (.int ((fi + (7 : Int32)) - (1 : Int32))), .unset, .unset] [(.int fi), (.ref a159), (.ref b157), (.ref b157)])) _
      refine XS.iload X159.here hx rfl (hb hby at_41) rfl ?_
      show Steps p.tables e below (T159.setTop (mkF m 43 #[.val (.int pp1), .val (.int pp2), .val (.int (7 : Int32)), .val (.int fi), .val (.int ((fi + (7 : Int32)) - (1 : Int32))), .unset, .unset] [(.int ((fi + (7 : Int32)) - (1 : Int32))), (.int fi), (.ref a159), (.ref b157), (.ref b157)])) _
      refine st164.trans ?_
      show Steps p.tables e below (T164.setTop (mkF m 46 #[.val (.int pp1), .val (.int pp2), .val (.int (7 : Int32)), .val (.int fi), .val (.int ((fi + (7 : Int32)) - (1 : Int32))), .unset, .unset] [(.ref b157)])) _
      refine XS.astore X164.here hx rfl (hb hby at_46) rfl rfl (l' := #[.val (.int pp1), .val (.int pp2), .val (.int (7 : Int32)), .val (.int fi), .val (.int ((fi + (7 : Int32)) - (1 : Int32))), .val (.ref b157), .unset]) rfl ?_
      show Steps p.tables e below (T164.setTop (mkF m 48 #[.val (.int pp1), .val (.int pp2), .val (.int (7 : Int32)), .val (.int fi), .val (.int ((fi + (7 : Int32)) - (1 : Int32))), .val (.ref b157), .unset] [])) _
      refine XS.aload X164.here hx rfl (hb hby at_48) rfl rfl ?_
      show Steps p.tables e below (T164.setTop (mkF m 50 #[.val (.int pp1), .val (.int pp2), .val (.int (7 : Int32)), .val (.int fi), .val (.int ((fi + (7 : Int32)) - (1 : Int32))), .val (.ref b157), .unset] [(.ref b157)])) _
      refine st165.trans ?_
      show Steps p.tables e below (T165.setTop (mkF m 53 #[.val (.int pp1), .val (.int pp2), .val (.int (7 : Int32)), .val (.int fi), .val (.int ((fi + (7 : Int32)) - (1 : Int32))), .val (.ref b157), .unset] [(.ref bx_165)])) _
      refine XS.astore X165.here hx rfl (hb hby at_53) rfl rfl (l' := #[.val (.int pp1), .val (.int pp2), .val (.int (7 : Int32)), .val (.int fi), .val (.int ((fi + (7 : Int32)) - (1 : Int32))), .val (.ref b157), .val (.ref bx_165)]) rfl ?_
      show Steps p.tables e below (T165.setTop (mkF m 55 #[.val (.int pp1), .val (.int pp2), .val (.int (7 : Int32)), .val (.int fi), .val (.int ((fi + (7 : Int32)) - (1 : Int32))), .val (.ref b157), .val (.ref bx_165)] [])) _
      refine XS.aload X165.here hx rfl (hb hby at_55) rfl rfl ?_
      show Steps p.tables e below (T165.setTop (mkF m 57 #[.val (.int pp1), .val (.int pp2), .val (.int (7 : Int32)), .val (.int fi), .val (.int ((fi + (7 : Int32)) - (1 : Int32))), .val (.ref b157), .val (.ref bx_165)] [(.ref bx_165)])) _
      refine XS.ifnullNo X165.here hx rfl (hb hby at_57) rfl ?_
      show Steps p.tables e below (T165.setTop (mkF m 60 #[.val (.int pp1), .val (.int pp2), .val (.int (7 : Int32)), .val (.int fi), .val (.int ((fi + (7 : Int32)) - (1 : Int32))), .val (.ref b157), .val (.ref bx_165)] [])) _
      refine XS.aload X165.here hx rfl (hb hby at_60) rfl rfl ?_
      show Steps p.tables e below (T165.setTop (mkF m 62 #[.val (.int pp1), .val (.int pp2), .val (.int (7 : Int32)), .val (.int fi), .val (.int ((fi + (7 : Int32)) - (1 : Int32))), .val (.ref b157), .val (.ref bx_165)] [(.ref bx_165)])) _
      refine X165.arraylength hx (Ar_167.1) (State.isArrayOf_alike hZ.alike Ar_167.2.1) (g := (mkF m 62 #[.val (.int pp1), .val (.int pp2), .val (.int (7 : Int32)), .val (.int fi), .val (.int ((fi + (7 : Int32)) - (1 : Int32))), .val (.ref b157), .val (.ref bx_165)] [(.ref bx_165)])) rfl rfl (hb hby at_62) _ ?_
      rw [len_of Sz_167 Nn_167]
      show Steps p.tables e below (T165.setTop (mkF m 63 #[.val (.int pp1), .val (.int pp2), .val (.int (7 : Int32)), .val (.int fi), .val (.int ((fi + (7 : Int32)) - (1 : Int32))), .val (.ref b157), .val (.ref bx_165)] [(.int (7 : Int32))])) _
      refine XS.iloadN X165.here hx rfl (hb hby at_63) rfl ?_
      show Steps p.tables e below (T165.setTop (mkF m 64 #[.val (.int pp1), .val (.int pp2), .val (.int (7 : Int32)), .val (.int fi), .val (.int ((fi + (7 : Int32)) - (1 : Int32))), .val (.ref b157), .val (.ref bx_165)] [(.int (7 : Int32)), (.int (7 : Int32))])) _
      refine XS.icmpYes X165.here hx rfl (pc0 := 64) (pc' := 69) rfl (hb hby at_64) rfl (teq hc64_7).1 (by decide) (by decide) ?_
      show Steps p.tables e below (T165.setTop (mkF m 69 #[.val (.int pp1), .val (.int pp2), .val (.int (7 : Int32)), .val (.int fi), .val (.int ((fi + (7 : Int32)) - (1 : Int32))), .val (.ref b157), .val (.ref bx_165)] [])) _
      refine XS.aload X165.here hx rfl (hb hby at_69) rfl rfl ?_
      show Steps p.tables e below (T165.setTop (mkF m 71 #[.val (.int pp1), .val (.int pp2), .val (.int (7 : Int32)), .val (.int fi), .val (.int ((fi + (7 : Int32)) - (1 : Int32))), .val (.ref b157), .val (.ref bx_165)] [(.ref bx_165)])) _
      refine XS.iconst X165.here hx rfl (hb hby at_71) ?_
      show Steps p.tables e below (T165.setTop (mkF m 72 #[.val (.int pp1), .val (.int pp2), .val (.int (7 : Int32)), .val (.int fi), .val (.int ((fi + (7 : Int32)) - (1 : Int32))), .val (.ref b157), .val (.ref bx_165)] [(.int (0 : Int32)), (.ref bx_165)])) _
      refine X165.iaload hx (j := (0 : Int32)) (v := (.int ((fi - (1 : Int32)) + (0 : Int32)))) (Ar_168.1) (State.isArrayOf_alike hZ.alike Ar_168.2.1) Ar_168.2.2 hin_168 hat_168 (g := (mkF m 72 #[.val (.int pp1), .val (.int pp2), .val (.int (7 : Int32)), .val (.int fi), .val (.int ((fi + (7 : Int32)) - (1 : Int32))), .val (.ref b157), .val (.ref bx_165)] [(.int (0 : Int32)), (.ref bx_165)])) rfl rfl (hb hby at_72) _ ?_
      show Steps p.tables e below (T165.setTop (mkF m 73 #[.val (.int pp1), .val (.int pp2), .val (.int (7 : Int32)), .val (.int fi), .val (.int ((fi + (7 : Int32)) - (1 : Int32))), .val (.ref b157), .val (.ref bx_165)] [(.int ((fi - (1 : Int32)) + (0 : Int32)))])) _
      refine XS.iloadN X165.here hx rfl (hb hby at_73) rfl ?_
      show Steps p.tables e below (T165.setTop (mkF m 74 #[.val (.int pp1), .val (.int pp2), .val (.int (7 : Int32)), .val (.int fi), .val (.int ((fi + (7 : Int32)) - (1 : Int32))), .val (.ref b157), .val (.ref bx_165)] [(.int fi), (.int ((fi - (1 : Int32)) + (0 : Int32)))])) _
      refine XS.iconst X165.here hx rfl (hb hby at_74) ?_
      show Steps p.tables e below (T165.setTop (mkF m 75 #[.val (.int pp1), .val (.int pp2), .val (.int (7 : Int32)), .val (.int fi), .val (.int ((fi + (7 : Int32)) - (1 : Int32))), .val (.ref b157), .val (.ref bx_165)] [(.int (1 : Int32)), (.int fi), (.int ((fi - (1 : Int32)) + (0 : Int32)))])) _
      refine XS.isub X165.here hx rfl (hb hby at_75) rfl ?_
      show Steps p.tables e below (T165.setTop (mkF m 76 #[.val (.int pp1), .val (.int pp2), .val (.int (7 : Int32)), .val (.int fi), .val (.int ((fi + (7 : Int32)) - (1 : Int32))), .val (.ref b157), .val (.ref bx_165)] [(.int (fi - (1 : Int32))), (.int ((fi - (1 : Int32)) + (0 : Int32)))])) _
      refine XS.icmpNo X165.here hx rfl (hb hby at_76) rfl (teq hc76_7).2 ?_
      show Steps p.tables e below (T165.setTop (mkF m 79 #[.val (.int pp1), .val (.int pp2), .val (.int (7 : Int32)), .val (.int fi), .val (.int ((fi + (7 : Int32)) - (1 : Int32))), .val (.ref b157), .val (.ref bx_165)] [])) _
      refine XS.aload X165.here hx rfl (hb hby at_79) rfl rfl ?_
      show Steps p.tables e below (T165.setTop (mkF m 81 #[.val (.int pp1), .val (.int pp2), .val (.int (7 : Int32)), .val (.int fi), .val (.int ((fi + (7 : Int32)) - (1 : Int32))), .val (.ref b157), .val (.ref bx_165)] [(.ref bx_165)])) _
      refine XS.iloadN X165.here hx rfl (hb hby at_81) rfl ?_
      show Steps p.tables e below (T165.setTop (mkF m 82 #[.val (.int pp1), .val (.int pp2), .val (.int (7 : Int32)), .val (.int fi), .val (.int ((fi + (7 : Int32)) - (1 : Int32))), .val (.ref b157), .val (.ref bx_165)] [(.int (7 : Int32)), (.ref bx_165)])) _
      refine XS.iconst X165.here hx rfl (hb hby at_82) ?_
      show Steps p.tables e below (T165.setTop (mkF m 83 #[.val (.int pp1), .val (.int pp2), .val (.int (7 : Int32)), .val (.int fi), .val (.int ((fi + (7 : Int32)) - (1 : Int32))), .val (.ref b157), .val (.ref bx_165)] [(.int (1 : Int32)), (.int (7 : Int32)), (.ref bx_165)])) _
      refine XS.isub X165.here hx rfl (hb hby at_83) rfl ?_
      show Steps p.tables e below (T165.setTop (mkF m 84 #[.val (.int pp1), .val (.int pp2), .val (.int (7 : Int32)), .val (.int fi), .val (.int ((fi + (7 : Int32)) - (1 : Int32))), .val (.ref b157), .val (.ref bx_165)] [(.int (6 : Int32)), (.ref bx_165)])) _
      refine X165.iaload hx (j := (6 : Int32)) (v := (.int ((fi - (1 : Int32)) + (6 : Int32)))) (Ar_169.1) (State.isArrayOf_alike hZ.alike Ar_169.2.1) Ar_169.2.2 hin_169 hat_169 (g := (mkF m 84 #[.val (.int pp1), .val (.int pp2), .val (.int (7 : Int32)), .val (.int fi), .val (.int ((fi + (7 : Int32)) - (1 : Int32))), .val (.ref b157), .val (.ref bx_165)] [(.int (6 : Int32)), (.ref bx_165)])) rfl rfl (hb hby at_84) _ ?_
      show Steps p.tables e below (T165.setTop (mkF m 85 #[.val (.int pp1), .val (.int pp2), .val (.int (7 : Int32)), .val (.int fi), .val (.int ((fi + (7 : Int32)) - (1 : Int32))), .val (.ref b157), .val (.ref bx_165)] [(.int ((fi - (1 : Int32)) + (6 : Int32)))])) _
      refine XS.iload X165.here hx rfl (hb hby at_85) rfl ?_
      show Steps p.tables e below (T165.setTop (mkF m 87 #[.val (.int pp1), .val (.int pp2), .val (.int (7 : Int32)), .val (.int fi), .val (.int ((fi + (7 : Int32)) - (1 : Int32))), .val (.ref b157), .val (.ref bx_165)] [(.int ((fi + (7 : Int32)) - (1 : Int32))), (.int ((fi - (1 : Int32)) + (6 : Int32)))])) _
      refine XS.iconst X165.here hx rfl (hb hby at_87) ?_
      show Steps p.tables e below (T165.setTop (mkF m 88 #[.val (.int pp1), .val (.int pp2), .val (.int (7 : Int32)), .val (.int fi), .val (.int ((fi + (7 : Int32)) - (1 : Int32))), .val (.ref b157), .val (.ref bx_165)] [(.int (1 : Int32)), (.int ((fi + (7 : Int32)) - (1 : Int32))), (.int ((fi - (1 : Int32)) + (6 : Int32)))])) _
      refine XS.isub X165.here hx rfl (hb hby at_88) rfl ?_
      show Steps p.tables e below (T165.setTop (mkF m 89 #[.val (.int pp1), .val (.int pp2), .val (.int (7 : Int32)), .val (.int fi), .val (.int ((fi + (7 : Int32)) - (1 : Int32))), .val (.ref b157), .val (.ref bx_165)] [(.int (((fi + (7 : Int32)) - (1 : Int32)) - (1 : Int32))), (.int ((fi - (1 : Int32)) + (6 : Int32)))])) _
      refine XS.icmpYes X165.here hx rfl (pc0 := 89) (pc' := 94) rfl (hb hby at_89) rfl (teq hc89_7).1 (by decide) (by decide) ?_
      show Steps p.tables e below (T165.setTop (mkF m 94 #[.val (.int pp1), .val (.int pp2), .val (.int (7 : Int32)), .val (.int fi), .val (.int ((fi + (7 : Int32)) - (1 : Int32))), .val (.ref b157), .val (.ref bx_165)] [])) _
      refine XS.aload X165.here hx rfl (hb hby at_94) rfl rfl ?_
      show Steps p.tables e below (T165.setTop (mkF m 96 #[.val (.int pp1), .val (.int pp2), .val (.int (7 : Int32)), .val (.int fi), .val (.int ((fi + (7 : Int32)) - (1 : Int32))), .val (.ref b157), .val (.ref bx_165)] [(.ref bx_165)])) _
      refine XS.iconst X165.here hx rfl (hb hby at_96) ?_
      show Steps p.tables e below (T165.setTop (mkF m 97 #[.val (.int pp1), .val (.int pp2), .val (.int (7 : Int32)), .val (.int fi), .val (.int ((fi + (7 : Int32)) - (1 : Int32))), .val (.ref b157), .val (.ref bx_165)] [(.int (0 : Int32)), (.ref bx_165)])) _
      refine XS.iloadN X165.here hx rfl (hb hby at_97) rfl ?_
      show Steps p.tables e below (T165.setTop (mkF m 98 #[.val (.int pp1), .val (.int pp2), .val (.int (7 : Int32)), .val (.int fi), .val (.int ((fi + (7 : Int32)) - (1 : Int32))), .val (.ref b157), .val (.ref bx_165)] [(.int fi), (.int (0 : Int32)), (.ref bx_165)])) _
      refine st170 _ ?_
      show Steps p.tables e below (T170.setTop (mkF m 101 #[.val (.int pp1), .val (.int pp2), .val (.int (7 : Int32)), .val (.int fi), .val (.int ((fi + (7 : Int32)) - (1 : Int32))), .val (.ref b157), .val (.ref bx_165)] [(.int (1 : Int32))])) _
      refine XS.ifNo X170.here hx rfl (hb hby at_101) rfl ((if0 _ _).trans (feq hc101_7).1) ?_
      show Steps p.tables e below (T170.setTop (mkF m 104 #[.val (.int pp1), .val (.int pp2), .val (.int (7 : Int32)), .val (.int fi), .val (.int ((fi + (7 : Int32)) - (1 : Int32))), .val (.ref b157), .val (.ref bx_165)] [])) _
      refine XS.aload X170.here hx rfl (hb hby at_104) rfl rfl ?_
      show Steps p.tables e below (T170.setTop (mkF m 106 #[.val (.int pp1), .val (.int pp2), .val (.int (7 : Int32)), .val (.int fi), .val (.int ((fi + (7 : Int32)) - (1 : Int32))), .val (.ref b157), .val (.ref bx_165)] [(.ref bx_165)])) _
      refine XS.iconst X170.here hx rfl (hb hby at_106) ?_
      show Steps p.tables e below (T170.setTop (mkF m 107 #[.val (.int pp1), .val (.int pp2), .val (.int (7 : Int32)), .val (.int fi), .val (.int ((fi + (7 : Int32)) - (1 : Int32))), .val (.ref b157), .val (.ref bx_165)] [(.int (1 : Int32)), (.ref bx_165)])) _
      refine XS.iloadN X170.here hx rfl (hb hby at_107) rfl ?_
      show Steps p.tables e below (T170.setTop (mkF m 108 #[.val (.int pp1), .val (.int pp2), .val (.int (7 : Int32)), .val (.int fi), .val (.int ((fi + (7 : Int32)) - (1 : Int32))), .val (.ref b157), .val (.ref bx_165)] [(.int fi), (.int (1 : Int32)), (.ref bx_165)])) _
      refine st171 _ ?_
      show Steps p.tables e below (T171.setTop (mkF m 111 #[.val (.int pp1), .val (.int pp2), .val (.int (7 : Int32)), .val (.int fi), .val (.int ((fi + (7 : Int32)) - (1 : Int32))), .val (.ref b157), .val (.ref bx_165)] [(.int (1 : Int32))])) _
      refine XS.ifNo X171.here hx rfl (hb hby at_111) rfl ((if0 _ _).trans (feq hc111_7).1) ?_
      show Steps p.tables e below (T171.setTop (mkF m 114 #[.val (.int pp1), .val (.int pp2), .val (.int (7 : Int32)), .val (.int fi), .val (.int ((fi + (7 : Int32)) - (1 : Int32))), .val (.ref b157), .val (.ref bx_165)] [])) _
      refine XS.aload X171.here hx rfl (hb hby at_114) rfl rfl ?_
      show Steps p.tables e below (T171.setTop (mkF m 116 #[.val (.int pp1), .val (.int pp2), .val (.int (7 : Int32)), .val (.int fi), .val (.int ((fi + (7 : Int32)) - (1 : Int32))), .val (.ref b157), .val (.ref bx_165)] [(.ref bx_165)])) _
      refine XS.iconst X171.here hx rfl (hb hby at_116) ?_
      show Steps p.tables e below (T171.setTop (mkF m 117 #[.val (.int pp1), .val (.int pp2), .val (.int (7 : Int32)), .val (.int fi), .val (.int ((fi + (7 : Int32)) - (1 : Int32))), .val (.ref b157), .val (.ref bx_165)] [(.int (2 : Int32)), (.ref bx_165)])) _
      refine XS.iloadN X171.here hx rfl (hb hby at_117) rfl ?_
      show Steps p.tables e below (T171.setTop (mkF m 118 #[.val (.int pp1), .val (.int pp2), .val (.int (7 : Int32)), .val (.int fi), .val (.int ((fi + (7 : Int32)) - (1 : Int32))), .val (.ref b157), .val (.ref bx_165)] [(.int fi), (.int (2 : Int32)), (.ref bx_165)])) _
      refine st172 _ ?_
      show Steps p.tables e below (T172.setTop (mkF m 121 #[.val (.int pp1), .val (.int pp2), .val (.int (7 : Int32)), .val (.int fi), .val (.int ((fi + (7 : Int32)) - (1 : Int32))), .val (.ref b157), .val (.ref bx_165)] [(.int (1 : Int32))])) _
      refine XS.ifNo X172.here hx rfl (hb hby at_121) rfl ((if0 _ _).trans (feq hc121_7).1) ?_
      show Steps p.tables e below (T172.setTop (mkF m 124 #[.val (.int pp1), .val (.int pp2), .val (.int (7 : Int32)), .val (.int fi), .val (.int ((fi + (7 : Int32)) - (1 : Int32))), .val (.ref b157), .val (.ref bx_165)] [])) _
      refine XS.aload X172.here hx rfl (hb hby at_124) rfl rfl ?_
      show Steps p.tables e below (T172.setTop (mkF m 126 #[.val (.int pp1), .val (.int pp2), .val (.int (7 : Int32)), .val (.int fi), .val (.int ((fi + (7 : Int32)) - (1 : Int32))), .val (.ref b157), .val (.ref bx_165)] [(.ref bx_165)])) _
      refine XS.iconst X172.here hx rfl (hb hby at_126) ?_
      show Steps p.tables e below (T172.setTop (mkF m 127 #[.val (.int pp1), .val (.int pp2), .val (.int (7 : Int32)), .val (.int fi), .val (.int ((fi + (7 : Int32)) - (1 : Int32))), .val (.ref b157), .val (.ref bx_165)] [(.int (3 : Int32)), (.ref bx_165)])) _
      refine XS.iloadN X172.here hx rfl (hb hby at_127) rfl ?_
      show Steps p.tables e below (T172.setTop (mkF m 128 #[.val (.int pp1), .val (.int pp2), .val (.int (7 : Int32)), .val (.int fi), .val (.int ((fi + (7 : Int32)) - (1 : Int32))), .val (.ref b157), .val (.ref bx_165)] [(.int fi), (.int (3 : Int32)), (.ref bx_165)])) _
      refine st173 _ ?_
      show Steps p.tables e below (T173.setTop (mkF m 131 #[.val (.int pp1), .val (.int pp2), .val (.int (7 : Int32)), .val (.int fi), .val (.int ((fi + (7 : Int32)) - (1 : Int32))), .val (.ref b157), .val (.ref bx_165)] [(.int (1 : Int32))])) _
      refine XS.ifNo X173.here hx rfl (hb hby at_131) rfl ((if0 _ _).trans (feq hc131_7).1) ?_
      show Steps p.tables e below (T173.setTop (mkF m 134 #[.val (.int pp1), .val (.int pp2), .val (.int (7 : Int32)), .val (.int fi), .val (.int ((fi + (7 : Int32)) - (1 : Int32))), .val (.ref b157), .val (.ref bx_165)] [])) _
      refine XS.aload X173.here hx rfl (hb hby at_134) rfl rfl ?_
      show Steps p.tables e below (T173.setTop (mkF m 136 #[.val (.int pp1), .val (.int pp2), .val (.int (7 : Int32)), .val (.int fi), .val (.int ((fi + (7 : Int32)) - (1 : Int32))), .val (.ref b157), .val (.ref bx_165)] [(.ref bx_165)])) _
      refine XS.iconst X173.here hx rfl (hb hby at_136) ?_
      show Steps p.tables e below (T173.setTop (mkF m 137 #[.val (.int pp1), .val (.int pp2), .val (.int (7 : Int32)), .val (.int fi), .val (.int ((fi + (7 : Int32)) - (1 : Int32))), .val (.ref b157), .val (.ref bx_165)] [(.int (4 : Int32)), (.ref bx_165)])) _
      refine XS.iloadN X173.here hx rfl (hb hby at_137) rfl ?_
      show Steps p.tables e below (T173.setTop (mkF m 138 #[.val (.int pp1), .val (.int pp2), .val (.int (7 : Int32)), .val (.int fi), .val (.int ((fi + (7 : Int32)) - (1 : Int32))), .val (.ref b157), .val (.ref bx_165)] [(.int fi), (.int (4 : Int32)), (.ref bx_165)])) _
      refine st174 _ ?_
      show Steps p.tables e below (T174.setTop (mkF m 141 #[.val (.int pp1), .val (.int pp2), .val (.int (7 : Int32)), .val (.int fi), .val (.int ((fi + (7 : Int32)) - (1 : Int32))), .val (.ref b157), .val (.ref bx_165)] [(.int (1 : Int32))])) _
      refine XS.ifNo X174.here hx rfl (hb hby at_141) rfl ((if0 _ _).trans (feq hc141_7).1) ?_
      show Steps p.tables e below (T174.setTop (mkF m 144 #[.val (.int pp1), .val (.int pp2), .val (.int (7 : Int32)), .val (.int fi), .val (.int ((fi + (7 : Int32)) - (1 : Int32))), .val (.ref b157), .val (.ref bx_165)] [])) _
      refine XS.aload X174.here hx rfl (hb hby at_144) rfl rfl ?_
      show Steps p.tables e below (T174.setTop (mkF m 146 #[.val (.int pp1), .val (.int pp2), .val (.int (7 : Int32)), .val (.int fi), .val (.int ((fi + (7 : Int32)) - (1 : Int32))), .val (.ref b157), .val (.ref bx_165)] [(.ref bx_165)])) _
      refine XS.iconst X174.here hx rfl (hb hby at_146) ?_
      show Steps p.tables e below (T174.setTop (mkF m 147 #[.val (.int pp1), .val (.int pp2), .val (.int (7 : Int32)), .val (.int fi), .val (.int ((fi + (7 : Int32)) - (1 : Int32))), .val (.ref b157), .val (.ref bx_165)] [(.int (5 : Int32)), (.ref bx_165)])) _
      refine XS.iloadN X174.here hx rfl (hb hby at_147) rfl ?_
      show Steps p.tables e below (T174.setTop (mkF m 148 #[.val (.int pp1), .val (.int pp2), .val (.int (7 : Int32)), .val (.int fi), .val (.int ((fi + (7 : Int32)) - (1 : Int32))), .val (.ref b157), .val (.ref bx_165)] [(.int fi), (.int (5 : Int32)), (.ref bx_165)])) _
      refine st175 _ ?_
      show Steps p.tables e below (T175.setTop (mkF m 151 #[.val (.int pp1), .val (.int pp2), .val (.int (7 : Int32)), .val (.int fi), .val (.int ((fi + (7 : Int32)) - (1 : Int32))), .val (.ref b157), .val (.ref bx_165)] [(.int (1 : Int32))])) _
      refine XS.ifNo X175.here hx rfl (hb hby at_151) rfl ((if0 _ _).trans (feq hc151_7).1) ?_
      show Steps p.tables e below (T175.setTop (mkF m 154 #[.val (.int pp1), .val (.int pp2), .val (.int (7 : Int32)), .val (.int fi), .val (.int ((fi + (7 : Int32)) - (1 : Int32))), .val (.ref b157), .val (.ref bx_165)] [])) _
      refine XS.aload X175.here hx rfl (hb hby at_154) rfl rfl ?_
      show Steps p.tables e below (T175.setTop (mkF m 156 #[.val (.int pp1), .val (.int pp2), .val (.int (7 : Int32)), .val (.int fi), .val (.int ((fi + (7 : Int32)) - (1 : Int32))), .val (.ref b157), .val (.ref bx_165)] [(.ref bx_165)])) _
      refine XS.bipush X175.here hx rfl (hb hby at_156) ?_
      show Steps p.tables e below (T175.setTop (mkF m 158 #[.val (.int pp1), .val (.int pp2), .val (.int (7 : Int32)), .val (.int fi), .val (.int ((fi + (7 : Int32)) - (1 : Int32))), .val (.ref b157), .val (.ref bx_165)] [(.int (6 : Int32)), (.ref bx_165)])) _
      refine XS.iloadN X175.here hx rfl (hb hby at_158) rfl ?_
      show Steps p.tables e below (T175.setTop (mkF m 159 #[.val (.int pp1), .val (.int pp2), .val (.int (7 : Int32)), .val (.int fi), .val (.int ((fi + (7 : Int32)) - (1 : Int32))), .val (.ref b157), .val (.ref bx_165)] [(.int fi), (.int (6 : Int32)), (.ref bx_165)])) _
      refine st176 _ ?_
      show Steps p.tables e below (T176.setTop (mkF m 162 #[.val (.int pp1), .val (.int pp2), .val (.int (7 : Int32)), .val (.int fi), .val (.int ((fi + (7 : Int32)) - (1 : Int32))), .val (.ref b157), .val (.ref bx_165)] [(.int (1 : Int32))])) _
      refine XS.ifNo X176.here hx rfl (hb hby at_162) rfl ((if0 _ _).trans (feq hc162_7).1) ?_
      show Steps p.tables e below (T176.setTop (mkF m 165 #[.val (.int pp1), .val (.int pp2), .val (.int (7 : Int32)), .val (.int fi), .val (.int ((fi + (7 : Int32)) - (1 : Int32))), .val (.ref b157), .val (.ref bx_165)] [])) _
      refine XS.aload X176.here hx rfl (hb hby at_165) rfl rfl ?_
      show Steps p.tables e below (T176.setTop (mkF m 167 #[.val (.int pp1), .val (.int pp2), .val (.int (7 : Int32)), .val (.int fi), .val (.int ((fi + (7 : Int32)) - (1 : Int32))), .val (.ref b157), .val (.ref bx_165)] [(.ref bx_165)])) _
      refine XS.bipush X176.here hx rfl (hb hby at_167) ?_
      show Steps p.tables e below (T176.setTop (mkF m 169 #[.val (.int pp1), .val (.int pp2), .val (.int (7 : Int32)), .val (.int fi), .val (.int ((fi + (7 : Int32)) - (1 : Int32))), .val (.ref b157), .val (.ref bx_165)] [(.int (7 : Int32)), (.ref bx_165)])) _
      refine XS.iloadN X176.here hx rfl (hb hby at_169) rfl ?_
      show Steps p.tables e below (T176.setTop (mkF m 170 #[.val (.int pp1), .val (.int pp2), .val (.int (7 : Int32)), .val (.int fi), .val (.int ((fi + (7 : Int32)) - (1 : Int32))), .val (.ref b157), .val (.ref bx_165)] [(.int fi), (.int (7 : Int32)), (.ref bx_165)])) _
      refine st177 _ ?_
      show Steps p.tables e below (T177.setTop (mkF m 173 #[.val (.int pp1), .val (.int pp2), .val (.int (7 : Int32)), .val (.int fi), .val (.int ((fi + (7 : Int32)) - (1 : Int32))), .val (.ref b157), .val (.ref bx_165)] [(.int (1 : Int32))])) _
      refine XS.ifNo X177.here hx rfl (hb hby at_173) rfl ((if0 _ _).trans (feq hc173_7).1) ?_
      show Steps p.tables e below (T177.setTop (mkF m 176 #[.val (.int pp1), .val (.int pp2), .val (.int (7 : Int32)), .val (.int fi), .val (.int ((fi + (7 : Int32)) - (1 : Int32))), .val (.ref b157), .val (.ref bx_165)] [])) _
      refine XS.iconst X177.here hx rfl (hb hby at_176) ?_
      show Steps p.tables e below (T177.setTop (mkF m 177 #[.val (.int pp1), .val (.int pp2), .val (.int (7 : Int32)), .val (.int fi), .val (.int ((fi + (7 : Int32)) - (1 : Int32))), .val (.ref b157), .val (.ref bx_165)] [(.int (1 : Int32))])) _
      refine XS.goto X177.here hx rfl (pc0 := 177) (pc' := 181) rfl (hb hby at_177) (by decide) (by decide) ?_
      show Steps p.tables e below (T177.setTop (mkF m 181 #[.val (.int pp1), .val (.int pp2), .val (.int (7 : Int32)), .val (.int fi), .val (.int ((fi + (7 : Int32)) - (1 : Int32))), .val (.ref b157), .val (.ref bx_165)] [(.int (1 : Int32))])) _
      exact retN X177 hx (t := .boolean) Bd.returns (by simp) (hb hby at_181) hr
    · show Q0 Z pp1 pp2 h0 n0 _ T177.heap _
      rw [e177]
      exact ⟨rfl, N177⟩
  · skip
    obtain ⟨_, _, ⟨T178, L178, k178, n178⟩, -, X178, ⟨Lc178, hQ178, l178, y178, z178⟩, st178⟩ := Jvm.LawKit.callS X0 hx (y := (⟨"java/lang/Math", "max", "(II)I"⟩ : MethodName)) hown (mvT hZ (hw _ (List.mem_of_getElem? (i := 1) rfl))) (mvT hZ (hw _ (List.mem_of_getElem? (i := 2) rfl))) (mvT hZ (hw _ (List.mem_of_getElem? (i := 3) rfl))) (mvT hZ (hw _ (List.mem_of_getElem? (i := 4) rfl))) (by decide) (backOf (W := 0) (rm1 l Z a0 hw [] (1 : Int32) (pp1 &&& (2147483647 : Int32)) h0 n0 Z0 ) hZ (hw _ (List.mem_of_getElem? (i := 4) rfl)) (hw _ (List.mem_of_getElem? (i := 3) rfl)) (by decide) (by decide)) (g := (mkF m 12 #[.val (.int pp1), .val (.int pp2), .val (.int (8 : Int32)), .unset, .unset, .unset, .unset] [(.int (pp1 &&& (2147483647 : Int32))), (.int (1 : Int32))])) rfl (by rw [hml]; rfl) (argsL := [(.int (1 : Int32)), (.int (pp1 &&& (2147483647 : Int32)))]) (rest := []) (lenOf pd__28_II_29_I rfl) rfl (by show 2 * 0 + _ ≤ _; exact Nat.le_of_eq rfl) (hb hby at_12) (fun _ _ => ⟨rfl, e0, (by decide : 0 + 0 ≤ _), (by decide : 0 + 0 ≤ _)⟩)
    dsimp only [Pt.U, Pt.locs, Pt.cells, Pt.slots] at X178 l178 y178 z178 st178 hQ178
    subst l178 y178 z178
    obtain ⟨rfl, N178q, e178⟩ := hQ178
    have N178 := Fr.app N0 N178q
    obtain ⟨_, _, ⟨T179, L179, k179, n179⟩, -, X179, ⟨Lc179, hQ179, l179, y179, z179⟩, st179⟩ := Jvm.LawKit.callS X178 hx (y := (⟨"java/lang/Math", "min", "(II)I"⟩ : MethodName)) hown (mvT hZ (hw _ (List.mem_of_getElem? (i := 5) rfl))) (mvT hZ (hw _ (List.mem_of_getElem? (i := 6) rfl))) (mvT hZ (hw _ (List.mem_of_getElem? (i := 3) rfl))) (mvT hZ (hw _ (List.mem_of_getElem? (i := 7) rfl))) (by decide) (backOf (W := 0) (rm2 l Z a0 hw [] (if (1 : Int32) < (pp1 &&& (2147483647 : Int32)) then (pp1 &&& (2147483647 : Int32)) else (1 : Int32)) (2147483640 : Int32) h0 n0 Z0 ) hZ (hw _ (List.mem_of_getElem? (i := 7) rfl)) (hw _ (List.mem_of_getElem? (i := 3) rfl)) (by decide) (by decide)) (g := (mkF m 23 #[.val (.int pp1), .val (.int pp2), .val (.int (8 : Int32)), .val (.int (if (1 : Int32) < (pp1 &&& (2147483647 : Int32)) then (pp1 &&& (2147483647 : Int32)) else (1 : Int32))), .unset, .unset, .unset] [(.int (2147483640 : Int32)), (.int (if (1 : Int32) < (pp1 &&& (2147483647 : Int32)) then (pp1 &&& (2147483647 : Int32)) else (1 : Int32)))])) rfl (by rw [hml]; rfl) (argsL := [(.int (if (1 : Int32) < (pp1 &&& (2147483647 : Int32)) then (pp1 &&& (2147483647 : Int32)) else (1 : Int32))), (.int (2147483640 : Int32))]) (rest := []) (lenOf pd__28_II_29_I rfl) rfl (by show 2 * 0 + _ ≤ _; exact Nat.le_of_eq rfl) (hb hby at_23) (fun _ _ => ⟨rfl, e178, (by decide : 0 + 0 ≤ _), (by decide : 0 + 0 ≤ _)⟩)
    dsimp only [Pt.U, Pt.locs, Pt.cells, Pt.slots] at X179 l179 y179 z179 st179 hQ179
    subst l179 y179 z179
    obtain ⟨rfl, N179q, e179⟩ := hQ179
    have N179 := Fr.app N178 N179q
    have pre180 : ∀ t, Steps p.tables e below (T179.setTop (mkF m 27 #[.val (.int pp1), .val (.int pp2), .val (.int (8 : Int32)), .val (.int (if (2147483640 : Int32) < (if (1 : Int32) < (pp1 &&& (2147483647 : Int32)) then (pp1 &&& (2147483647 : Int32)) else (1 : Int32)) then (2147483640 : Int32) else (if (1 : Int32) < (pp1 &&& (2147483647 : Int32)) then (pp1 &&& (2147483647 : Int32)) else (1 : Int32)))), .unset, .unset, .unset] [])) t → Steps p.tables e below (s₁.setTop (entryFrame m #[(.int pp1), (.int pp2)] maxLocals)) t := fun t kt => pre2 t (by
      show Steps p.tables e below (s₁.setTop (mkF m 7 #[.val (.int pp1), .val (.int pp2), .val (.int (8 : Int32)), .unset, .unset, .unset, .unset] [])) _
      refine XS.iconst X0.here hx rfl (hb hby at_7) ?_
      show Steps p.tables e below (s₁.setTop (mkF m 8 #[.val (.int pp1), .val (.int pp2), .val (.int (8 : Int32)), .unset, .unset, .unset, .unset] [(.int (1 : Int32))])) _
      refine XS.iloadN X0.here hx rfl (hb hby at_8) rfl ?_
      show Steps p.tables e below (s₁.setTop (mkF m 9 #[.val (.int pp1), .val (.int pp2), .val (.int (8 : Int32)), .unset, .unset, .unset, .unset] [(.int pp1), (.int (1 : Int32))])) _
      refine X0.ldcInt hx hown (mvT hZ (hw _ (List.mem_of_getElem? (i := 0) rfl))) (g := (mkF m 9 #[.val (.int pp1), .val (.int pp2), .val (.int (8 : Int32)), .unset, .unset, .unset, .unset] [(.int pp1), (.int (1 : Int32))])) rfl (hb hby at_9) _ ?_
      show Steps p.tables e below (s₁.setTop (mkF m 11 #[.val (.int pp1), .val (.int pp2), .val (.int (8 : Int32)), .unset, .unset, .unset, .unset] [(.int (2147483647 : Int32)), (.int pp1), (.int (1 : Int32))])) _
      refine XS.iand X0.here hx rfl (hb hby at_11) rfl ?_
      show Steps p.tables e below (s₁.setTop (mkF m 12 #[.val (.int pp1), .val (.int pp2), .val (.int (8 : Int32)), .unset, .unset, .unset, .unset] [(.int (pp1 &&& (2147483647 : Int32))), (.int (1 : Int32))])) _
      refine st178 _ ?_
      show Steps p.tables e below (T178.setTop (mkF m 15 #[.val (.int pp1), .val (.int pp2), .val (.int (8 : Int32)), .unset, .unset, .unset, .unset] [(.int (if (1 : Int32) < (pp1 &&& (2147483647 : Int32)) then (pp1 &&& (2147483647 : Int32)) else (1 : Int32)))])) _
      refine XS.istoreN X178.here hx rfl (hb hby at_15) rfl (l' := #[.val (.int pp1), .val (.int pp2), .val (.int (8 : Int32)), .val (.int (if (1 : Int32) < (pp1 &&& (2147483647 : Int32)) then (pp1 &&& (2147483647 : Int32)) else (1 : Int32))), .unset, .unset, .unset]) rfl ?_
      show Steps p.tables e below (T178.setTop (mkF m 16 #[.val (.int pp1), .val (.int pp2), .val (.int (8 : Int32)), .val (.int (if (1 : Int32) < (pp1 &&& (2147483647 : Int32)) then (pp1 &&& (2147483647 : Int32)) else (1 : Int32))), .unset, .unset, .unset] [])) _
      refine XS.iloadN X178.here hx rfl (hb hby at_16) rfl ?_
      show Steps p.tables e below (T178.setTop (mkF m 17 #[.val (.int pp1), .val (.int pp2), .val (.int (8 : Int32)), .val (.int (if (1 : Int32) < (pp1 &&& (2147483647 : Int32)) then (pp1 &&& (2147483647 : Int32)) else (1 : Int32))), .unset, .unset, .unset] [(.int (if (1 : Int32) < (pp1 &&& (2147483647 : Int32)) then (pp1 &&& (2147483647 : Int32)) else (1 : Int32)))])) _
      refine X178.ldcInt hx hown (mvT hZ (hw _ (List.mem_of_getElem? (i := 0) rfl))) (g := (mkF m 17 #[.val (.int pp1), .val (.int pp2), .val (.int (8 : Int32)), .val (.int (if (1 : Int32) < (pp1 &&& (2147483647 : Int32)) then (pp1 &&& (2147483647 : Int32)) else (1 : Int32))), .unset, .unset, .unset] [(.int (if (1 : Int32) < (pp1 &&& (2147483647 : Int32)) then (pp1 &&& (2147483647 : Int32)) else (1 : Int32)))])) rfl (hb hby at_17) _ ?_
      show Steps p.tables e below (T178.setTop (mkF m 19 #[.val (.int pp1), .val (.int pp2), .val (.int (8 : Int32)), .val (.int (if (1 : Int32) < (pp1 &&& (2147483647 : Int32)) then (pp1 &&& (2147483647 : Int32)) else (1 : Int32))), .unset, .unset, .unset] [(.int (2147483647 : Int32)), (.int (if (1 : Int32) < (pp1 &&& (2147483647 : Int32)) then (pp1 &&& (2147483647 : Int32)) else (1 : Int32)))])) _
      refine XS.iloadN X178.here hx rfl (hb hby at_19) rfl ?_
      show Steps p.tables e below (T178.setTop (mkF m 20 #[.val (.int pp1), .val (.int pp2), .val (.int (8 : Int32)), .val (.int (if (1 : Int32) < (pp1 &&& (2147483647 : Int32)) then (pp1 &&& (2147483647 : Int32)) else (1 : Int32))), .unset, .unset, .unset] [(.int (8 : Int32)), (.int (2147483647 : Int32)), (.int (if (1 : Int32) < (pp1 &&& (2147483647 : Int32)) then (pp1 &&& (2147483647 : Int32)) else (1 : Int32)))])) _
      refine XS.isub X178.here hx rfl (hb hby at_20) rfl ?_
      show Steps p.tables e below (T178.setTop (mkF m 21 #[.val (.int pp1), .val (.int pp2), .val (.int (8 : Int32)), .val (.int (if (1 : Int32) < (pp1 &&& (2147483647 : Int32)) then (pp1 &&& (2147483647 : Int32)) else (1 : Int32))), .unset, .unset, .unset] [(.int (2147483639 : Int32)), (.int (if (1 : Int32) < (pp1 &&& (2147483647 : Int32)) then (pp1 &&& (2147483647 : Int32)) else (1 : Int32)))])) _
      refine XS.iconst X178.here hx rfl (hb hby at_21) ?_
      show Steps p.tables e below (T178.setTop (mkF m 22 #[.val (.int pp1), .val (.int pp2), .val (.int (8 : Int32)), .val (.int (if (1 : Int32) < (pp1 &&& (2147483647 : Int32)) then (pp1 &&& (2147483647 : Int32)) else (1 : Int32))), .unset, .unset, .unset] [(.int (1 : Int32)), (.int (2147483639 : Int32)), (.int (if (1 : Int32) < (pp1 &&& (2147483647 : Int32)) then (pp1 &&& (2147483647 : Int32)) else (1 : Int32)))])) _
      refine XS.iadd X178.here hx rfl (hb hby at_22) rfl ?_
      show Steps p.tables e below (T178.setTop (mkF m 23 #[.val (.int pp1), .val (.int pp2), .val (.int (8 : Int32)), .val (.int (if (1 : Int32) < (pp1 &&& (2147483647 : Int32)) then (pp1 &&& (2147483647 : Int32)) else (1 : Int32))), .unset, .unset, .unset] [(.int (2147483640 : Int32)), (.int (if (1 : Int32) < (pp1 &&& (2147483647 : Int32)) then (pp1 &&& (2147483647 : Int32)) else (1 : Int32)))])) _
      refine st179 _ ?_
      show Steps p.tables e below (T179.setTop (mkF m 26 #[.val (.int pp1), .val (.int pp2), .val (.int (8 : Int32)), .val (.int (if (1 : Int32) < (pp1 &&& (2147483647 : Int32)) then (pp1 &&& (2147483647 : Int32)) else (1 : Int32))), .unset, .unset, .unset] [(.int (if (2147483640 : Int32) < (if (1 : Int32) < (pp1 &&& (2147483647 : Int32)) then (pp1 &&& (2147483647 : Int32)) else (1 : Int32)) then (2147483640 : Int32) else (if (1 : Int32) < (pp1 &&& (2147483647 : Int32)) then (pp1 &&& (2147483647 : Int32)) else (1 : Int32))))])) _
      refine XS.istoreN X179.here hx rfl (hb hby at_26) rfl (l' := #[.val (.int pp1), .val (.int pp2), .val (.int (8 : Int32)), .val (.int (if (2147483640 : Int32) < (if (1 : Int32) < (pp1 &&& (2147483647 : Int32)) then (pp1 &&& (2147483647 : Int32)) else (1 : Int32)) then (2147483640 : Int32) else (if (1 : Int32) < (pp1 &&& (2147483647 : Int32)) then (pp1 &&& (2147483647 : Int32)) else (1 : Int32)))), .unset, .unset, .unset]) rfl ?_
      exact kt)
    obtain ⟨fi, pre181⟩ : ∃ (fi : Int32), ∀ t, Steps p.tables e below (T179.setTop (mkF m 27 #[.val (.int pp1), .val (.int pp2), .val (.int (8 : Int32)), .val (.int fi), .unset, .unset, .unset] [])) t → Steps p.tables e below (s₁.setTop (entryFrame m #[(.int pp1), (.int pp2)] maxLocals)) t := ⟨(if (2147483640 : Int32) < (if (1 : Int32) < (pp1 &&& (2147483647 : Int32)) then (pp1 &&& (2147483647 : Int32)) else (1 : Int32)) then (2147483640 : Int32) else (if (1 : Int32) < (pp1 &&& (2147483647 : Int32)) then (pp1 &&& (2147483647 : Int32)) else (1 : Int32))), pre180⟩
    obtain ⟨T182, h182, X182, e182, E182, A182, D182, -, st182⟩ := newO X179 hx hZ hown (hw _ (List.mem_of_getElem? (i := 8) rfl)) (hw _ (List.mem_of_getElem? (i := 9) rfl)) (hw _ (List.mem_of_getElem? (i := 10) rfl)) e179 (g := (mkF m 34 #[.val (.int pp1), .val (.int pp2), .val (.int (8 : Int32)), .val (.int fi), .val (.int ((fi + (8 : Int32)) - (1 : Int32))), .unset, .unset] [])) rfl (hb hby at_34) (by decide) (by decide)
    obtain ⟨b182, g182⟩ : ∃ z, z = h0.size := ⟨_, rfl⟩
    rw [← g182] at A182 D182 st182
    have g_b182 : n0 ≤ b182 := Nat.le_trans Z0 (Nat.le_of_eq g182.symm)
    have Z182 : n0 ≤ h182.size := Nat.le_trans Z0 E182.1
    have kz182 := Nat.le_trans (Nat.le_refl _) E182.1
    have F182_name : Fld Z h182 b182 "com/example/escapement/escapement/cli/PartitionTable$Partition" "name" "Ljava/lang/String;" .null := D182 (Or.inr (hw _ (List.mem_of_getElem? (i := 31) rfl))) (ty := (.object "java/lang/String")) (by decide)
    have F182_first : Fld Z h182 b182 "com/example/escapement/escapement/cli/PartitionTable$Partition" "first" "I" (.int (0 : Int32)) := D182 (Or.inr (hw _ (List.mem_of_getElem? (i := 33) rfl))) (ty := .int) (by decide)
    have F182_last : Fld Z h182 b182 "com/example/escapement/escapement/cli/PartitionTable$Partition" "last" "I" (.int (0 : Int32)) := D182 (Or.inr (hw _ (List.mem_of_getElem? (i := 35) rfl))) (ty := .int) (by decide)
    have pre183 : ∀ t, Steps p.tables e below (T182.setTop (mkF m 38 #[.val (.int pp1), .val (.int pp2), .val (.int (8 : Int32)), .val (.int fi), .val (.int ((fi + (8 : Int32)) - (1 : Int32))), .unset, .unset] [(.ref b182), (.ref b182)])) t → Steps p.tables e below (s₁.setTop (entryFrame m #[(.int pp1), (.int pp2)] maxLocals)) t := fun t kt => pre181 t (by
      show Steps p.tables e below (T179.setTop (mkF m 27 #[.val (.int pp1), .val (.int pp2), .val (.int (8 : Int32)), .val (.int fi), .unset, .unset, .unset] [])) _
      refine XS.iloadN X179.here hx rfl (hb hby at_27) rfl ?_
      show Steps p.tables e below (T179.setTop (mkF m 28 #[.val (.int pp1), .val (.int pp2), .val (.int (8 : Int32)), .val (.int fi), .unset, .unset, .unset] [(.int fi)])) _
      refine XS.iloadN X179.here hx rfl (hb hby at_28) rfl ?_
      show Steps p.tables e below (T179.setTop (mkF m 29 #[.val (.int pp1), .val (.int pp2), .val (.int (8 : Int32)), .val (.int fi), .unset, .unset, .unset] [(.int (8 : Int32)), (.int fi)])) _
      refine XS.iadd X179.here hx rfl (hb hby at_29) rfl ?_
      show Steps p.tables e below (T179.setTop (mkF m 30 #[.val (.int pp1), .val (.int pp2), .val (.int (8 : Int32)), .val (.int fi), .unset, .unset, .unset] [(.int (fi + (8 : Int32)))])) _
      refine XS.iconst X179.here hx rfl (hb hby at_30) ?_
      show Steps p.tables e below (T179.setTop (mkF m 31 #[.val (.int pp1), .val (.int pp2), .val (.int (8 : Int32)), .val (.int fi), .unset, .unset, .unset] [(.int (1 : Int32)), (.int (fi + (8 : Int32)))])) _
      refine XS.isub X179.here hx rfl (hb hby at_31) rfl ?_
      show Steps p.tables e below (T179.setTop (mkF m 32 #[.val (.int pp1), .val (.int pp2), .val (.int (8 : Int32)), .val (.int fi), .unset, .unset, .unset] [(.int ((fi + (8 : Int32)) - (1 : Int32)))])) _
      refine XS.istore X179.here hx rfl (hb hby at_32) rfl (l' := #[.val (.int pp1), .val (.int pp2), .val (.int (8 : Int32)), .val (.int fi), .val (.int ((fi + (8 : Int32)) - (1 : Int32))), .unset, .unset]) rfl ?_
      show Steps p.tables e below (T179.setTop (mkF m 34 #[.val (.int pp1), .val (.int pp2), .val (.int (8 : Int32)), .val (.int fi), .val (.int ((fi + (8 : Int32)) - (1 : Int32))), .unset, .unset] [])) _
      refine st182 _ ?_
      show Steps p.tables e below (T182.setTop (mkF m 37 #[.val (.int pp1), .val (.int pp2), .val (.int (8 : Int32)), .val (.int fi), .val (.int ((fi + (8 : Int32)) - (1 : Int32))), .unset, .unset] [(.ref b182)])) _
      refine XS.dup X182.here hx rfl (hb hby at_37) rfl rfl ?_
      exact kt)
    obtain ⟨a184, T184, h184, kk184, X184, e184, E184, hS184, kz184, hZ, hown, st184⟩ := ldcS (s := s) (vm0 := s.vm) X182 hx hZ hown (hw _ (List.mem_of_getElem? (i := 11) rfl)) (fun d hd => hw d (own_str_in d hd)) e182 hS0 kz182 (g := (mkF m 38 #[.val (.int pp1), .val (.int pp2), .val (.int (8 : Int32)), .val (.int fi), .val (.int ((fi + (8 : Int32)) - (1 : Int32))), .unset, .unset] [(.ref b182), (.ref b182)])) rfl (hb hby at_38) (n := 4) (by decide) (by decide) (by decide) (by decide)
    have Z184 : n0 ≤ h184.size := Nat.le_trans Z182 E184.1
    have E_185 : Exa Z h184 b182 "com/example/escapement/escapement/cli/PartitionTable$Partition" := (A182.ext E184)
    have F_186 : Fld Z h184 b182 "com/example/escapement/escapement/cli/PartitionTable$Partition" "name" "Ljava/lang/String;" .null := (F182_name.ext E184)
    have F_187 : Fld Z h184 b182 "com/example/escapement/escapement/cli/PartitionTable$Partition" "first" "I" (.int (0 : Int32)) := (F182_first.ext E184)
    have F_188 : Fld Z h184 b182 "com/example/escapement/escapement/cli/PartitionTable$Partition" "last" "I" (.int (0 : Int32)) := (F182_last.ext E184)
    obtain ⟨_, _, ⟨T189, L189, k189, n189⟩, -, X189, ⟨Lc189, hQ189, l189, y189, z189⟩, st189⟩ := X184.specialBack hx (y := (⟨"com/example/escapement/escapement/cli/PartitionTable$Partition", "<init>", "(Ljava/lang/String;II)V"⟩ : MethodName)) rfl hown (mvT hZ (hw _ (List.mem_of_getElem? (i := 19) rfl))) (mvT hZ (hw _ (List.mem_of_getElem? (i := 20) rfl))) (mvT hZ (hw _ (List.mem_of_getElem? (i := 21) rfl))) (by decide) (backOf (W := 1) (rm3 l Z a0 hw [] b182 a184 fi ((fi + (8 : Int32)) - (1 : Int32)) .null (.int (0 : Int32)) (.int (0 : Int32)) h184 n0 Z184 E_185 g_b182 F_186 F_187 F_188) hZ (hw _ (List.mem_of_getElem? (i := 21) rfl)) (hw _ (List.mem_of_getElem? (i := 10) rfl)) (by decide) (by decide)) (g := (mkF m 43 #[.val (.int pp1), .val (.int pp2), .val (.int (8 : Int32)), .val (.int fi), .val (.int ((fi + (8 : Int32)) - (1 : Int32))), .unset, .unset] [(.int ((fi + (8 : Int32)) - (1 : Int32))), (.int fi), (.ref a184), (.ref b182), (.ref b182)])) rfl (by rw [hml]; rfl) (Steps.refl _) (a := b182) (argsL := [(.ref a184), (.int fi), (.int ((fi + (8 : Int32)) - (1 : Int32)))]) (rest := [(.ref b182)]) (lenOf pd__28_Ljava_2f_lang_2f_String_3b_II_29_V rfl) rfl (by show 2 * 0 + _ ≤ _; exact Nat.le_of_eq rfl) (hb hby at_43) (fun _ _ => ⟨rfl, e184, (by decide : 3 + 0 ≤ _), (by decide : 11 + 0 ≤ _)⟩)
    dsimp only [Pt.U, Pt.locs, Pt.cells, Pt.slots] at X189 l189 y189 z189 st189 hQ189
    subst l189 y189 z189
    obtain ⟨rfl, N189q, K189c, R189_0, R189_1, R189_2⟩ := hQ189
    have N189 := Fr.app N179 N189q
    have Z189 : n0 ≤ T189.heap.size := Nat.le_trans Z184 K189c.1
    have kz189 := Nat.le_trans kz184 K189c.1
    have E_191 : Exa Z T189.heap b182 "com/example/escapement/escapement/cli/PartitionTable$Partition" := (E_185.keep K189c)
    obtain ⟨cq190, kq190, q190a, q190b, q190c⟩ := isOf hZ rfl E_191
    obtain ⟨_, _, ⟨T190, L190, k190, n190⟩, -, X190, ⟨Lc190, hQ190, l190, y190, z190⟩, st190⟩ := X189.virtualBack hx (y := (⟨"com/example/escapement/escapement/cli/PartitionTable$Partition", "sites", "()[I"⟩ : MethodName)) (z := (⟨"com/example/escapement/escapement/cli/PartitionTable$Partition", "sites", "()[I"⟩ : MethodName)) hown (mvT hZ (hw _ (List.mem_of_getElem? (i := 36) rfl))) (mvT hZ (hw _ (List.mem_of_getElem? (i := 37) rfl))) (notFace_of_selects (args := #[]) (mvT hZ (hw _ (List.mem_of_getElem? (i := 39) rfl)))) (mvT hZ (hw _ (List.mem_of_getElem? (i := 39) rfl))) (mvT hZ (hw _ (List.mem_of_getElem? (i := 38) rfl))) (by decide) (backOf (W := 0) (rm6_8 l Z a0 hw [] b182 fi ((fi + (8 : Int32)) - (1 : Int32)) T189.heap n0 Z189 R189_1 R189_2 (show ((((fi + (8 : Int32)) - (1 : Int32)) - fi) + (1 : Int32)) = (8 : Int32) from own_len fi (8 : Int32))) hZ (hw _ (List.mem_of_getElem? (i := 40) rfl)) (hw _ (List.mem_of_getElem? (i := 10) rfl)) (by decide) (by decide)) q190a q190c (g := (mkF m 50 #[.val (.int pp1), .val (.int pp2), .val (.int (8 : Int32)), .val (.int fi), .val (.int ((fi + (8 : Int32)) - (1 : Int32))), .val (.ref b182), .unset] [(.ref b182)])) rfl (by rw [hml]; rfl) (Steps.refl _) (argsL := []) (rest := []) (lenOf pd__28__29__5b_I rfl) rfl (by show 2 * 0 + _ ≤ _; exact Nat.le_of_eq rfl) (hb hby at_50) (fun _ _ => ⟨rfl, rfl, (by decide : 3 + 1 ≤ _), (by decide : 11 + 8 ≤ _)⟩)
    dsimp only [Pt.U, Pt.locs, Pt.cells, Pt.slots] at X190 l190 y190 z190 st190 hQ190
    subst l190 y190 z190
    obtain ⟨bx_190, kx_190, rfl, N190q, K190c, g_bx_190, sb_bx_190, R190_0⟩ := hQ190
    have N190 := Fr.app N189 N190q
    have Z190 : n0 ≤ T190.heap.size := Nat.le_trans Z189 K190c.1
    have kz190 := Nat.le_trans kz189 K190c.1
    obtain ⟨cl_192, Ar_192, -, Sz_192, Nn_192, -, -⟩ := id R190_0
    have hc64_8 : (8 : Int32) = (8 : Int32) := by decide
    obtain ⟨cl_193, Ar_193, qq_193, Sz_193, Nn_193, Hh_193, Gg_193⟩ := id R190_0
    have hin_193 : ¬ ((0 : Int32) < 0 ∨ cl_193.slots.size ≤ ((0 : Int32)).toNatClampNeg) := inb_of Sz_193 ⟨by decide, by decide⟩
    have hat_193 : cl_193.slots[((0 : Int32)).toNatClampNeg]? = some (.int ((fi - (1 : Int32)) + (0 : Int32))) := Has.at Hh_193 hin_193 rfl
    have hc76_8 : ((fi - (1 : Int32)) + (0 : Int32)) = (fi - (1 : Int32)) := Int32.add_zero _
    obtain ⟨cl_194, Ar_194, qq_194, Sz_194, Nn_194, Hh_194, Gg_194⟩ := id R190_0
    have hin_194 : ¬ ((7 : Int32) < 0 ∨ cl_194.slots.size ≤ ((7 : Int32)).toNatClampNeg) := inb_of Sz_194 ⟨by decide, by decide⟩
    have hat_194 : cl_194.slots[((7 : Int32)).toNatClampNeg]? = some (.int ((fi - (1 : Int32)) + (7 : Int32))) := Has.at Hh_194 hin_194 rfl
    have hc89_8 : ((fi - (1 : Int32)) + (7 : Int32)) = (((fi + (8 : Int32)) - (1 : Int32)) - (1 : Int32)) := own_last fi (8 : Int32)
    obtain ⟨_, _, ⟨T195, L195, k195, n195⟩, -, X195, ⟨Lc195, hQ195, l195, y195, z195⟩, st195⟩ := Jvm.LawKit.callS X190 hx (y := (⟨"com/example/escapement/escapement/cli/PartitionSitesPinLaw", "at", "([III)Z"⟩ : MethodName)) hown (mvT hZ (hw _ (List.mem_of_getElem? (i := 42) rfl))) (mvT hZ (hw _ (List.mem_of_getElem? (i := 43) rfl))) (mvT hZ (hw _ (List.mem_of_getElem? (i := 44) rfl))) (mvT hZ (hw _ (List.mem_of_getElem? (i := 45) rfl))) (by decide) (backOf (W := 0) (rm7 l Z a0 hw [] bx_190 (0 : Int32) fi kx_190 (8 : Int32) [(.int ((fi - (1 : Int32)) + (0 : Int32))), (.int ((fi - (1 : Int32)) + (1 : Int32))), (.int ((fi - (1 : Int32)) + (2 : Int32))), (.int ((fi - (1 : Int32)) + (3 : Int32))), (.int ((fi - (1 : Int32)) + (4 : Int32))), (.int ((fi - (1 : Int32)) + (5 : Int32))), (.int ((fi - (1 : Int32)) + (6 : Int32))), (.int ((fi - (1 : Int32)) + (7 : Int32)))] T190.heap n0 Z190 R190_0 (show ¬ (0 : Int32) < (0 : Int32) from (by decide)) (show (0 : Int32) < (8 : Int32) → ([(.int ((fi - (1 : Int32)) + (0 : Int32))), (.int ((fi - (1 : Int32)) + (1 : Int32))), (.int ((fi - (1 : Int32)) + (2 : Int32))), (.int ((fi - (1 : Int32)) + (3 : Int32))), (.int ((fi - (1 : Int32)) + (4 : Int32))), (.int ((fi - (1 : Int32)) + (5 : Int32))), (.int ((fi - (1 : Int32)) + (6 : Int32))), (.int ((fi - (1 : Int32)) + (7 : Int32)))] : List Value).getD ((0 : Int32)).toNatClampNeg (.int (0 : Int32)) = .int ((fi - (1 : Int32)) + (0 : Int32)) from (fun _ => rfl))) hZ (hw _ (List.mem_of_getElem? (i := 45) rfl)) (hw _ (List.mem_of_getElem? (i := 44) rfl)) (by decide) (by decide)) (g := (mkF m 98 #[.val (.int pp1), .val (.int pp2), .val (.int (8 : Int32)), .val (.int fi), .val (.int ((fi + (8 : Int32)) - (1 : Int32))), .val (.ref b182), .val (.ref bx_190)] [(.int fi), (.int (0 : Int32)), (.ref bx_190)])) rfl (by rw [hml]; rfl) (argsL := [(.ref bx_190), (.int (0 : Int32)), (.int fi)]) (rest := []) (lenOf pd__28__5b_III_29_Z rfl) rfl (by show 2 * 0 + _ ≤ _; exact Nat.le_of_eq rfl) (hb hby at_98) (fun _ _ => ⟨rfl, rfl, (by decide : 4 + 0 ≤ _), (by decide : 19 + 0 ≤ _)⟩)
    dsimp only [Pt.U, Pt.locs, Pt.cells, Pt.slots] at X195 l195 y195 z195 st195 hQ195
    subst l195 y195 z195
    obtain ⟨rfl, N195q, e195⟩ := hQ195
    have N195 := Fr.app N190 N195q
    have hc101_8 : ¬ ((1 : Int32) = (0 : Int32)) := by decide
    obtain ⟨_, _, ⟨T196, L196, k196, n196⟩, -, X196, ⟨Lc196, hQ196, l196, y196, z196⟩, st196⟩ := Jvm.LawKit.callS X195 hx (y := (⟨"com/example/escapement/escapement/cli/PartitionSitesPinLaw", "at", "([III)Z"⟩ : MethodName)) hown (mvT hZ (hw _ (List.mem_of_getElem? (i := 42) rfl))) (mvT hZ (hw _ (List.mem_of_getElem? (i := 43) rfl))) (mvT hZ (hw _ (List.mem_of_getElem? (i := 44) rfl))) (mvT hZ (hw _ (List.mem_of_getElem? (i := 45) rfl))) (by decide) (backOf (W := 0) (rm7 l Z a0 hw [] bx_190 (1 : Int32) fi kx_190 (8 : Int32) [(.int ((fi - (1 : Int32)) + (0 : Int32))), (.int ((fi - (1 : Int32)) + (1 : Int32))), (.int ((fi - (1 : Int32)) + (2 : Int32))), (.int ((fi - (1 : Int32)) + (3 : Int32))), (.int ((fi - (1 : Int32)) + (4 : Int32))), (.int ((fi - (1 : Int32)) + (5 : Int32))), (.int ((fi - (1 : Int32)) + (6 : Int32))), (.int ((fi - (1 : Int32)) + (7 : Int32)))] T190.heap n0 Z190 R190_0 (show ¬ (1 : Int32) < (0 : Int32) from (by decide)) (show (1 : Int32) < (8 : Int32) → ([(.int ((fi - (1 : Int32)) + (0 : Int32))), (.int ((fi - (1 : Int32)) + (1 : Int32))), (.int ((fi - (1 : Int32)) + (2 : Int32))), (.int ((fi - (1 : Int32)) + (3 : Int32))), (.int ((fi - (1 : Int32)) + (4 : Int32))), (.int ((fi - (1 : Int32)) + (5 : Int32))), (.int ((fi - (1 : Int32)) + (6 : Int32))), (.int ((fi - (1 : Int32)) + (7 : Int32)))] : List Value).getD ((1 : Int32)).toNatClampNeg (.int (0 : Int32)) = .int ((fi - (1 : Int32)) + (1 : Int32)) from (fun _ => rfl))) hZ (hw _ (List.mem_of_getElem? (i := 45) rfl)) (hw _ (List.mem_of_getElem? (i := 44) rfl)) (by decide) (by decide)) (g := (mkF m 108 #[.val (.int pp1), .val (.int pp2), .val (.int (8 : Int32)), .val (.int fi), .val (.int ((fi + (8 : Int32)) - (1 : Int32))), .val (.ref b182), .val (.ref bx_190)] [(.int fi), (.int (1 : Int32)), (.ref bx_190)])) rfl (by rw [hml]; rfl) (argsL := [(.ref bx_190), (.int (1 : Int32)), (.int fi)]) (rest := []) (lenOf pd__28__5b_III_29_Z rfl) rfl (by show 2 * 0 + _ ≤ _; exact Nat.le_of_eq rfl) (hb hby at_108) (fun _ _ => ⟨rfl, e195, (by decide : 4 + 0 ≤ _), (by decide : 19 + 0 ≤ _)⟩)
    dsimp only [Pt.U, Pt.locs, Pt.cells, Pt.slots] at X196 l196 y196 z196 st196 hQ196
    subst l196 y196 z196
    obtain ⟨rfl, N196q, e196⟩ := hQ196
    have N196 := Fr.app N195 N196q
    have hc111_8 : ¬ ((1 : Int32) = (0 : Int32)) := by decide
    obtain ⟨_, _, ⟨T197, L197, k197, n197⟩, -, X197, ⟨Lc197, hQ197, l197, y197, z197⟩, st197⟩ := Jvm.LawKit.callS X196 hx (y := (⟨"com/example/escapement/escapement/cli/PartitionSitesPinLaw", "at", "([III)Z"⟩ : MethodName)) hown (mvT hZ (hw _ (List.mem_of_getElem? (i := 42) rfl))) (mvT hZ (hw _ (List.mem_of_getElem? (i := 43) rfl))) (mvT hZ (hw _ (List.mem_of_getElem? (i := 44) rfl))) (mvT hZ (hw _ (List.mem_of_getElem? (i := 45) rfl))) (by decide) (backOf (W := 0) (rm7 l Z a0 hw [] bx_190 (2 : Int32) fi kx_190 (8 : Int32) [(.int ((fi - (1 : Int32)) + (0 : Int32))), (.int ((fi - (1 : Int32)) + (1 : Int32))), (.int ((fi - (1 : Int32)) + (2 : Int32))), (.int ((fi - (1 : Int32)) + (3 : Int32))), (.int ((fi - (1 : Int32)) + (4 : Int32))), (.int ((fi - (1 : Int32)) + (5 : Int32))), (.int ((fi - (1 : Int32)) + (6 : Int32))), (.int ((fi - (1 : Int32)) + (7 : Int32)))] T190.heap n0 Z190 R190_0 (show ¬ (2 : Int32) < (0 : Int32) from (by decide)) (show (2 : Int32) < (8 : Int32) → ([(.int ((fi - (1 : Int32)) + (0 : Int32))), (.int ((fi - (1 : Int32)) + (1 : Int32))), (.int ((fi - (1 : Int32)) + (2 : Int32))), (.int ((fi - (1 : Int32)) + (3 : Int32))), (.int ((fi - (1 : Int32)) + (4 : Int32))), (.int ((fi - (1 : Int32)) + (5 : Int32))), (.int ((fi - (1 : Int32)) + (6 : Int32))), (.int ((fi - (1 : Int32)) + (7 : Int32)))] : List Value).getD ((2 : Int32)).toNatClampNeg (.int (0 : Int32)) = .int ((fi - (1 : Int32)) + (2 : Int32)) from (fun _ => rfl))) hZ (hw _ (List.mem_of_getElem? (i := 45) rfl)) (hw _ (List.mem_of_getElem? (i := 44) rfl)) (by decide) (by decide)) (g := (mkF m 118 #[.val (.int pp1), .val (.int pp2), .val (.int (8 : Int32)), .val (.int fi), .val (.int ((fi + (8 : Int32)) - (1 : Int32))), .val (.ref b182), .val (.ref bx_190)] [(.int fi), (.int (2 : Int32)), (.ref bx_190)])) rfl (by rw [hml]; rfl) (argsL := [(.ref bx_190), (.int (2 : Int32)), (.int fi)]) (rest := []) (lenOf pd__28__5b_III_29_Z rfl) rfl (by show 2 * 0 + _ ≤ _; exact Nat.le_of_eq rfl) (hb hby at_118) (fun _ _ => ⟨rfl, e196, (by decide : 4 + 0 ≤ _), (by decide : 19 + 0 ≤ _)⟩)
    dsimp only [Pt.U, Pt.locs, Pt.cells, Pt.slots] at X197 l197 y197 z197 st197 hQ197
    subst l197 y197 z197
    obtain ⟨rfl, N197q, e197⟩ := hQ197
    have N197 := Fr.app N196 N197q
    have hc121_8 : ¬ ((1 : Int32) = (0 : Int32)) := by decide
    obtain ⟨_, _, ⟨T198, L198, k198, n198⟩, -, X198, ⟨Lc198, hQ198, l198, y198, z198⟩, st198⟩ := Jvm.LawKit.callS X197 hx (y := (⟨"com/example/escapement/escapement/cli/PartitionSitesPinLaw", "at", "([III)Z"⟩ : MethodName)) hown (mvT hZ (hw _ (List.mem_of_getElem? (i := 42) rfl))) (mvT hZ (hw _ (List.mem_of_getElem? (i := 43) rfl))) (mvT hZ (hw _ (List.mem_of_getElem? (i := 44) rfl))) (mvT hZ (hw _ (List.mem_of_getElem? (i := 45) rfl))) (by decide) (backOf (W := 0) (rm7 l Z a0 hw [] bx_190 (3 : Int32) fi kx_190 (8 : Int32) [(.int ((fi - (1 : Int32)) + (0 : Int32))), (.int ((fi - (1 : Int32)) + (1 : Int32))), (.int ((fi - (1 : Int32)) + (2 : Int32))), (.int ((fi - (1 : Int32)) + (3 : Int32))), (.int ((fi - (1 : Int32)) + (4 : Int32))), (.int ((fi - (1 : Int32)) + (5 : Int32))), (.int ((fi - (1 : Int32)) + (6 : Int32))), (.int ((fi - (1 : Int32)) + (7 : Int32)))] T190.heap n0 Z190 R190_0 (show ¬ (3 : Int32) < (0 : Int32) from (by decide)) (show (3 : Int32) < (8 : Int32) → ([(.int ((fi - (1 : Int32)) + (0 : Int32))), (.int ((fi - (1 : Int32)) + (1 : Int32))), (.int ((fi - (1 : Int32)) + (2 : Int32))), (.int ((fi - (1 : Int32)) + (3 : Int32))), (.int ((fi - (1 : Int32)) + (4 : Int32))), (.int ((fi - (1 : Int32)) + (5 : Int32))), (.int ((fi - (1 : Int32)) + (6 : Int32))), (.int ((fi - (1 : Int32)) + (7 : Int32)))] : List Value).getD ((3 : Int32)).toNatClampNeg (.int (0 : Int32)) = .int ((fi - (1 : Int32)) + (3 : Int32)) from (fun _ => rfl))) hZ (hw _ (List.mem_of_getElem? (i := 45) rfl)) (hw _ (List.mem_of_getElem? (i := 44) rfl)) (by decide) (by decide)) (g := (mkF m 128 #[.val (.int pp1), .val (.int pp2), .val (.int (8 : Int32)), .val (.int fi), .val (.int ((fi + (8 : Int32)) - (1 : Int32))), .val (.ref b182), .val (.ref bx_190)] [(.int fi), (.int (3 : Int32)), (.ref bx_190)])) rfl (by rw [hml]; rfl) (argsL := [(.ref bx_190), (.int (3 : Int32)), (.int fi)]) (rest := []) (lenOf pd__28__5b_III_29_Z rfl) rfl (by show 2 * 0 + _ ≤ _; exact Nat.le_of_eq rfl) (hb hby at_128) (fun _ _ => ⟨rfl, e197, (by decide : 4 + 0 ≤ _), (by decide : 19 + 0 ≤ _)⟩)
    dsimp only [Pt.U, Pt.locs, Pt.cells, Pt.slots] at X198 l198 y198 z198 st198 hQ198
    subst l198 y198 z198
    obtain ⟨rfl, N198q, e198⟩ := hQ198
    have N198 := Fr.app N197 N198q
    have hc131_8 : ¬ ((1 : Int32) = (0 : Int32)) := by decide
    obtain ⟨_, _, ⟨T199, L199, k199, n199⟩, -, X199, ⟨Lc199, hQ199, l199, y199, z199⟩, st199⟩ := Jvm.LawKit.callS X198 hx (y := (⟨"com/example/escapement/escapement/cli/PartitionSitesPinLaw", "at", "([III)Z"⟩ : MethodName)) hown (mvT hZ (hw _ (List.mem_of_getElem? (i := 42) rfl))) (mvT hZ (hw _ (List.mem_of_getElem? (i := 43) rfl))) (mvT hZ (hw _ (List.mem_of_getElem? (i := 44) rfl))) (mvT hZ (hw _ (List.mem_of_getElem? (i := 45) rfl))) (by decide) (backOf (W := 0) (rm7 l Z a0 hw [] bx_190 (4 : Int32) fi kx_190 (8 : Int32) [(.int ((fi - (1 : Int32)) + (0 : Int32))), (.int ((fi - (1 : Int32)) + (1 : Int32))), (.int ((fi - (1 : Int32)) + (2 : Int32))), (.int ((fi - (1 : Int32)) + (3 : Int32))), (.int ((fi - (1 : Int32)) + (4 : Int32))), (.int ((fi - (1 : Int32)) + (5 : Int32))), (.int ((fi - (1 : Int32)) + (6 : Int32))), (.int ((fi - (1 : Int32)) + (7 : Int32)))] T190.heap n0 Z190 R190_0 (show ¬ (4 : Int32) < (0 : Int32) from (by decide)) (show (4 : Int32) < (8 : Int32) → ([(.int ((fi - (1 : Int32)) + (0 : Int32))), (.int ((fi - (1 : Int32)) + (1 : Int32))), (.int ((fi - (1 : Int32)) + (2 : Int32))), (.int ((fi - (1 : Int32)) + (3 : Int32))), (.int ((fi - (1 : Int32)) + (4 : Int32))), (.int ((fi - (1 : Int32)) + (5 : Int32))), (.int ((fi - (1 : Int32)) + (6 : Int32))), (.int ((fi - (1 : Int32)) + (7 : Int32)))] : List Value).getD ((4 : Int32)).toNatClampNeg (.int (0 : Int32)) = .int ((fi - (1 : Int32)) + (4 : Int32)) from (fun _ => rfl))) hZ (hw _ (List.mem_of_getElem? (i := 45) rfl)) (hw _ (List.mem_of_getElem? (i := 44) rfl)) (by decide) (by decide)) (g := (mkF m 138 #[.val (.int pp1), .val (.int pp2), .val (.int (8 : Int32)), .val (.int fi), .val (.int ((fi + (8 : Int32)) - (1 : Int32))), .val (.ref b182), .val (.ref bx_190)] [(.int fi), (.int (4 : Int32)), (.ref bx_190)])) rfl (by rw [hml]; rfl) (argsL := [(.ref bx_190), (.int (4 : Int32)), (.int fi)]) (rest := []) (lenOf pd__28__5b_III_29_Z rfl) rfl (by show 2 * 0 + _ ≤ _; exact Nat.le_of_eq rfl) (hb hby at_138) (fun _ _ => ⟨rfl, e198, (by decide : 4 + 0 ≤ _), (by decide : 19 + 0 ≤ _)⟩)
    dsimp only [Pt.U, Pt.locs, Pt.cells, Pt.slots] at X199 l199 y199 z199 st199 hQ199
    subst l199 y199 z199
    obtain ⟨rfl, N199q, e199⟩ := hQ199
    have N199 := Fr.app N198 N199q
    have hc141_8 : ¬ ((1 : Int32) = (0 : Int32)) := by decide
    obtain ⟨_, _, ⟨T200, L200, k200, n200⟩, -, X200, ⟨Lc200, hQ200, l200, y200, z200⟩, st200⟩ := Jvm.LawKit.callS X199 hx (y := (⟨"com/example/escapement/escapement/cli/PartitionSitesPinLaw", "at", "([III)Z"⟩ : MethodName)) hown (mvT hZ (hw _ (List.mem_of_getElem? (i := 42) rfl))) (mvT hZ (hw _ (List.mem_of_getElem? (i := 43) rfl))) (mvT hZ (hw _ (List.mem_of_getElem? (i := 44) rfl))) (mvT hZ (hw _ (List.mem_of_getElem? (i := 45) rfl))) (by decide) (backOf (W := 0) (rm7 l Z a0 hw [] bx_190 (5 : Int32) fi kx_190 (8 : Int32) [(.int ((fi - (1 : Int32)) + (0 : Int32))), (.int ((fi - (1 : Int32)) + (1 : Int32))), (.int ((fi - (1 : Int32)) + (2 : Int32))), (.int ((fi - (1 : Int32)) + (3 : Int32))), (.int ((fi - (1 : Int32)) + (4 : Int32))), (.int ((fi - (1 : Int32)) + (5 : Int32))), (.int ((fi - (1 : Int32)) + (6 : Int32))), (.int ((fi - (1 : Int32)) + (7 : Int32)))] T190.heap n0 Z190 R190_0 (show ¬ (5 : Int32) < (0 : Int32) from (by decide)) (show (5 : Int32) < (8 : Int32) → ([(.int ((fi - (1 : Int32)) + (0 : Int32))), (.int ((fi - (1 : Int32)) + (1 : Int32))), (.int ((fi - (1 : Int32)) + (2 : Int32))), (.int ((fi - (1 : Int32)) + (3 : Int32))), (.int ((fi - (1 : Int32)) + (4 : Int32))), (.int ((fi - (1 : Int32)) + (5 : Int32))), (.int ((fi - (1 : Int32)) + (6 : Int32))), (.int ((fi - (1 : Int32)) + (7 : Int32)))] : List Value).getD ((5 : Int32)).toNatClampNeg (.int (0 : Int32)) = .int ((fi - (1 : Int32)) + (5 : Int32)) from (fun _ => rfl))) hZ (hw _ (List.mem_of_getElem? (i := 45) rfl)) (hw _ (List.mem_of_getElem? (i := 44) rfl)) (by decide) (by decide)) (g := (mkF m 148 #[.val (.int pp1), .val (.int pp2), .val (.int (8 : Int32)), .val (.int fi), .val (.int ((fi + (8 : Int32)) - (1 : Int32))), .val (.ref b182), .val (.ref bx_190)] [(.int fi), (.int (5 : Int32)), (.ref bx_190)])) rfl (by rw [hml]; rfl) (argsL := [(.ref bx_190), (.int (5 : Int32)), (.int fi)]) (rest := []) (lenOf pd__28__5b_III_29_Z rfl) rfl (by show 2 * 0 + _ ≤ _; exact Nat.le_of_eq rfl) (hb hby at_148) (fun _ _ => ⟨rfl, e199, (by decide : 4 + 0 ≤ _), (by decide : 19 + 0 ≤ _)⟩)
    dsimp only [Pt.U, Pt.locs, Pt.cells, Pt.slots] at X200 l200 y200 z200 st200 hQ200
    subst l200 y200 z200
    obtain ⟨rfl, N200q, e200⟩ := hQ200
    have N200 := Fr.app N199 N200q
    have hc151_8 : ¬ ((1 : Int32) = (0 : Int32)) := by decide
    obtain ⟨_, _, ⟨T201, L201, k201, n201⟩, -, X201, ⟨Lc201, hQ201, l201, y201, z201⟩, st201⟩ := Jvm.LawKit.callS X200 hx (y := (⟨"com/example/escapement/escapement/cli/PartitionSitesPinLaw", "at", "([III)Z"⟩ : MethodName)) hown (mvT hZ (hw _ (List.mem_of_getElem? (i := 42) rfl))) (mvT hZ (hw _ (List.mem_of_getElem? (i := 43) rfl))) (mvT hZ (hw _ (List.mem_of_getElem? (i := 44) rfl))) (mvT hZ (hw _ (List.mem_of_getElem? (i := 45) rfl))) (by decide) (backOf (W := 0) (rm7 l Z a0 hw [] bx_190 (6 : Int32) fi kx_190 (8 : Int32) [(.int ((fi - (1 : Int32)) + (0 : Int32))), (.int ((fi - (1 : Int32)) + (1 : Int32))), (.int ((fi - (1 : Int32)) + (2 : Int32))), (.int ((fi - (1 : Int32)) + (3 : Int32))), (.int ((fi - (1 : Int32)) + (4 : Int32))), (.int ((fi - (1 : Int32)) + (5 : Int32))), (.int ((fi - (1 : Int32)) + (6 : Int32))), (.int ((fi - (1 : Int32)) + (7 : Int32)))] T190.heap n0 Z190 R190_0 (show ¬ (6 : Int32) < (0 : Int32) from (by decide)) (show (6 : Int32) < (8 : Int32) → ([(.int ((fi - (1 : Int32)) + (0 : Int32))), (.int ((fi - (1 : Int32)) + (1 : Int32))), (.int ((fi - (1 : Int32)) + (2 : Int32))), (.int ((fi - (1 : Int32)) + (3 : Int32))), (.int ((fi - (1 : Int32)) + (4 : Int32))), (.int ((fi - (1 : Int32)) + (5 : Int32))), (.int ((fi - (1 : Int32)) + (6 : Int32))), (.int ((fi - (1 : Int32)) + (7 : Int32)))] : List Value).getD ((6 : Int32)).toNatClampNeg (.int (0 : Int32)) = .int ((fi - (1 : Int32)) + (6 : Int32)) from (fun _ => rfl))) hZ (hw _ (List.mem_of_getElem? (i := 45) rfl)) (hw _ (List.mem_of_getElem? (i := 44) rfl)) (by decide) (by decide)) (g := (mkF m 159 #[.val (.int pp1), .val (.int pp2), .val (.int (8 : Int32)), .val (.int fi), .val (.int ((fi + (8 : Int32)) - (1 : Int32))), .val (.ref b182), .val (.ref bx_190)] [(.int fi), (.int (6 : Int32)), (.ref bx_190)])) rfl (by rw [hml]; rfl) (argsL := [(.ref bx_190), (.int (6 : Int32)), (.int fi)]) (rest := []) (lenOf pd__28__5b_III_29_Z rfl) rfl (by show 2 * 0 + _ ≤ _; exact Nat.le_of_eq rfl) (hb hby at_159) (fun _ _ => ⟨rfl, e200, (by decide : 4 + 0 ≤ _), (by decide : 19 + 0 ≤ _)⟩)
    dsimp only [Pt.U, Pt.locs, Pt.cells, Pt.slots] at X201 l201 y201 z201 st201 hQ201
    subst l201 y201 z201
    obtain ⟨rfl, N201q, e201⟩ := hQ201
    have N201 := Fr.app N200 N201q
    have hc162_8 : ¬ ((1 : Int32) = (0 : Int32)) := by decide
    obtain ⟨_, _, ⟨T202, L202, k202, n202⟩, -, X202, ⟨Lc202, hQ202, l202, y202, z202⟩, st202⟩ := Jvm.LawKit.callS X201 hx (y := (⟨"com/example/escapement/escapement/cli/PartitionSitesPinLaw", "at", "([III)Z"⟩ : MethodName)) hown (mvT hZ (hw _ (List.mem_of_getElem? (i := 42) rfl))) (mvT hZ (hw _ (List.mem_of_getElem? (i := 43) rfl))) (mvT hZ (hw _ (List.mem_of_getElem? (i := 44) rfl))) (mvT hZ (hw _ (List.mem_of_getElem? (i := 45) rfl))) (by decide) (backOf (W := 0) (rm7 l Z a0 hw [] bx_190 (7 : Int32) fi kx_190 (8 : Int32) [(.int ((fi - (1 : Int32)) + (0 : Int32))), (.int ((fi - (1 : Int32)) + (1 : Int32))), (.int ((fi - (1 : Int32)) + (2 : Int32))), (.int ((fi - (1 : Int32)) + (3 : Int32))), (.int ((fi - (1 : Int32)) + (4 : Int32))), (.int ((fi - (1 : Int32)) + (5 : Int32))), (.int ((fi - (1 : Int32)) + (6 : Int32))), (.int ((fi - (1 : Int32)) + (7 : Int32)))] T190.heap n0 Z190 R190_0 (show ¬ (7 : Int32) < (0 : Int32) from (by decide)) (show (7 : Int32) < (8 : Int32) → ([(.int ((fi - (1 : Int32)) + (0 : Int32))), (.int ((fi - (1 : Int32)) + (1 : Int32))), (.int ((fi - (1 : Int32)) + (2 : Int32))), (.int ((fi - (1 : Int32)) + (3 : Int32))), (.int ((fi - (1 : Int32)) + (4 : Int32))), (.int ((fi - (1 : Int32)) + (5 : Int32))), (.int ((fi - (1 : Int32)) + (6 : Int32))), (.int ((fi - (1 : Int32)) + (7 : Int32)))] : List Value).getD ((7 : Int32)).toNatClampNeg (.int (0 : Int32)) = .int ((fi - (1 : Int32)) + (7 : Int32)) from (fun _ => rfl))) hZ (hw _ (List.mem_of_getElem? (i := 45) rfl)) (hw _ (List.mem_of_getElem? (i := 44) rfl)) (by decide) (by decide)) (g := (mkF m 170 #[.val (.int pp1), .val (.int pp2), .val (.int (8 : Int32)), .val (.int fi), .val (.int ((fi + (8 : Int32)) - (1 : Int32))), .val (.ref b182), .val (.ref bx_190)] [(.int fi), (.int (7 : Int32)), (.ref bx_190)])) rfl (by rw [hml]; rfl) (argsL := [(.ref bx_190), (.int (7 : Int32)), (.int fi)]) (rest := []) (lenOf pd__28__5b_III_29_Z rfl) rfl (by show 2 * 0 + _ ≤ _; exact Nat.le_of_eq rfl) (hb hby at_170) (fun _ _ => ⟨rfl, e201, (by decide : 4 + 0 ≤ _), (by decide : 19 + 0 ≤ _)⟩)
    dsimp only [Pt.U, Pt.locs, Pt.cells, Pt.slots] at X202 l202 y202 z202 st202 hQ202
    subst l202 y202 z202
    obtain ⟨rfl, N202q, e202⟩ := hQ202
    have N202 := Fr.app N201 N202q
    have hc173_8 : ¬ ((1 : Int32) = (0 : Int32)) := by decide
    obtain ⟨fs, hr, hrun, hended, qe1, qe2, qe3, qe4⟩ := Stand.leaveW (s := s) (vm₁ := T184.vm) X202 hS184 (by rw [e202]; exact kz190) (v := some (.int (1 : Int32))) (fun h => by rw [Bd.returns] at h; cases h)
    refine ⟨_, _, pre183 _ ?_, hrun, hended, _, _, rfl, ?_, qe1, qe2, qe3, qe4.mono (by decide) (by decide)⟩
    · show Steps p.tables e below (T182.setTop (mkF m 38 #[.val (.int pp1), .val (.int pp2), .val (.int (8 : Int32)), .val (.int fi), .val (.int ((fi + (8 : Int32)) - (1 : Int32))), .unset, .unset] [(.ref b182), (.ref b182)])) _
      refine st184 _ ?_
      show Steps p.tables e below (T184.setTop (mkF m 40 #[.val (.int pp1), .val (.int pp2), .val (.int (8 : Int32)), .val (.int fi), .val (.int ((fi + (8 : Int32)) - (1 : Int32))), .unset, .unset] [(.ref a184), (.ref b182), (.ref b182)])) _
      refine XS.iloadN X184.here hx rfl (hb hby at_40) rfl ?_
      show Steps p.tables e below (T184.setTop (mkF m 41 #[.val (.int pp1), .val (.int pp2), .val (.int (8 : Int32)), .val (.int fi), .val (.int ((fi + (8 : Int32)) - (1 : Int32))), .unset, .unset] [(.int fi), (.ref a184), (.ref b182), (.ref b182)])) _
      refine XS.iload X184.here hx rfl (hb hby at_41) rfl ?_
      show Steps p.tables e below (T184.setTop (mkF m 43 #[.val (.int pp1), .val (.int pp2), .val (.int (8 : Int32)), .val (.int fi), .val (.int ((fi + (8 : Int32)) - (1 : Int32))), .unset, .unset] [(.int ((fi + (8 : Int32)) - (1 : Int32))), (.int fi), (.ref a184), (.ref b182), (.ref b182)])) _
      refine st189.trans ?_
      show Steps p.tables e below (T189.setTop (mkF m 46 #[.val (.int pp1), .val (.int pp2), .val (.int (8 : Int32)), .val (.int fi), .val (.int ((fi + (8 : Int32)) - (1 : Int32))), .unset, .unset] [(.ref b182)])) _
      refine XS.astore X189.here hx rfl (hb hby at_46) rfl rfl (l' := #[.val (.int pp1), .val (.int pp2), .val (.int (8 : Int32)), .val (.int fi), .val (.int ((fi + (8 : Int32)) - (1 : Int32))), .val (.ref b182), .unset]) rfl ?_
      show Steps p.tables e below (T189.setTop (mkF m 48 #[.val (.int pp1), .val (.int pp2), .val (.int (8 : Int32)), .val (.int fi), .val (.int ((fi + (8 : Int32)) - (1 : Int32))), .val (.ref b182), .unset] [])) _
      refine XS.aload X189.here hx rfl (hb hby at_48) rfl rfl ?_
      show Steps p.tables e below (T189.setTop (mkF m 50 #[.val (.int pp1), .val (.int pp2), .val (.int (8 : Int32)), .val (.int fi), .val (.int ((fi + (8 : Int32)) - (1 : Int32))), .val (.ref b182), .unset] [(.ref b182)])) _
      refine st190.trans ?_
      show Steps p.tables e below (T190.setTop (mkF m 53 #[.val (.int pp1), .val (.int pp2), .val (.int (8 : Int32)), .val (.int fi), .val (.int ((fi + (8 : Int32)) - (1 : Int32))), .val (.ref b182), .unset] [(.ref bx_190)])) _
      refine XS.astore X190.here hx rfl (hb hby at_53) rfl rfl (l' := #[.val (.int pp1), .val (.int pp2), .val (.int (8 : Int32)), .val (.int fi), .val (.int ((fi + (8 : Int32)) - (1 : Int32))), .val (.ref b182), .val (.ref bx_190)]) rfl ?_
      show Steps p.tables e below (T190.setTop (mkF m 55 #[.val (.int pp1), .val (.int pp2), .val (.int (8 : Int32)), .val (.int fi), .val (.int ((fi + (8 : Int32)) - (1 : Int32))), .val (.ref b182), .val (.ref bx_190)] [])) _
      refine XS.aload X190.here hx rfl (hb hby at_55) rfl rfl ?_
      show Steps p.tables e below (T190.setTop (mkF m 57 #[.val (.int pp1), .val (.int pp2), .val (.int (8 : Int32)), .val (.int fi), .val (.int ((fi + (8 : Int32)) - (1 : Int32))), .val (.ref b182), .val (.ref bx_190)] [(.ref bx_190)])) _
      refine XS.ifnullNo X190.here hx rfl (hb hby at_57) rfl ?_
      show Steps p.tables e below (T190.setTop (mkF m 60 #[.val (.int pp1), .val (.int pp2), .val (.int (8 : Int32)), .val (.int fi), .val (.int ((fi + (8 : Int32)) - (1 : Int32))), .val (.ref b182), .val (.ref bx_190)] [])) _
      refine XS.aload X190.here hx rfl (hb hby at_60) rfl rfl ?_
      show Steps p.tables e below (T190.setTop (mkF m 62 #[.val (.int pp1), .val (.int pp2), .val (.int (8 : Int32)), .val (.int fi), .val (.int ((fi + (8 : Int32)) - (1 : Int32))), .val (.ref b182), .val (.ref bx_190)] [(.ref bx_190)])) _
      refine X190.arraylength hx (Ar_192.1) (State.isArrayOf_alike hZ.alike Ar_192.2.1) (g := (mkF m 62 #[.val (.int pp1), .val (.int pp2), .val (.int (8 : Int32)), .val (.int fi), .val (.int ((fi + (8 : Int32)) - (1 : Int32))), .val (.ref b182), .val (.ref bx_190)] [(.ref bx_190)])) rfl rfl (hb hby at_62) _ ?_
      rw [len_of Sz_192 Nn_192]
      show Steps p.tables e below (T190.setTop (mkF m 63 #[.val (.int pp1), .val (.int pp2), .val (.int (8 : Int32)), .val (.int fi), .val (.int ((fi + (8 : Int32)) - (1 : Int32))), .val (.ref b182), .val (.ref bx_190)] [(.int (8 : Int32))])) _
      refine XS.iloadN X190.here hx rfl (hb hby at_63) rfl ?_
      show Steps p.tables e below (T190.setTop (mkF m 64 #[.val (.int pp1), .val (.int pp2), .val (.int (8 : Int32)), .val (.int fi), .val (.int ((fi + (8 : Int32)) - (1 : Int32))), .val (.ref b182), .val (.ref bx_190)] [(.int (8 : Int32)), (.int (8 : Int32))])) _
      refine XS.icmpYes X190.here hx rfl (pc0 := 64) (pc' := 69) rfl (hb hby at_64) rfl (teq hc64_8).1 (by decide) (by decide) ?_
      show Steps p.tables e below (T190.setTop (mkF m 69 #[.val (.int pp1), .val (.int pp2), .val (.int (8 : Int32)), .val (.int fi), .val (.int ((fi + (8 : Int32)) - (1 : Int32))), .val (.ref b182), .val (.ref bx_190)] [])) _
      refine XS.aload X190.here hx rfl (hb hby at_69) rfl rfl ?_
      show Steps p.tables e below (T190.setTop (mkF m 71 #[.val (.int pp1), .val (.int pp2), .val (.int (8 : Int32)), .val (.int fi), .val (.int ((fi + (8 : Int32)) - (1 : Int32))), .val (.ref b182), .val (.ref bx_190)] [(.ref bx_190)])) _
      refine XS.iconst X190.here hx rfl (hb hby at_71) ?_
      show Steps p.tables e below (T190.setTop (mkF m 72 #[.val (.int pp1), .val (.int pp2), .val (.int (8 : Int32)), .val (.int fi), .val (.int ((fi + (8 : Int32)) - (1 : Int32))), .val (.ref b182), .val (.ref bx_190)] [(.int (0 : Int32)), (.ref bx_190)])) _
      refine X190.iaload hx (j := (0 : Int32)) (v := (.int ((fi - (1 : Int32)) + (0 : Int32)))) (Ar_193.1) (State.isArrayOf_alike hZ.alike Ar_193.2.1) Ar_193.2.2 hin_193 hat_193 (g := (mkF m 72 #[.val (.int pp1), .val (.int pp2), .val (.int (8 : Int32)), .val (.int fi), .val (.int ((fi + (8 : Int32)) - (1 : Int32))), .val (.ref b182), .val (.ref bx_190)] [(.int (0 : Int32)), (.ref bx_190)])) rfl rfl (hb hby at_72) _ ?_
      show Steps p.tables e below (T190.setTop (mkF m 73 #[.val (.int pp1), .val (.int pp2), .val (.int (8 : Int32)), .val (.int fi), .val (.int ((fi + (8 : Int32)) - (1 : Int32))), .val (.ref b182), .val (.ref bx_190)] [(.int ((fi - (1 : Int32)) + (0 : Int32)))])) _
      refine XS.iloadN X190.here hx rfl (hb hby at_73) rfl ?_
      show Steps p.tables e below (T190.setTop (mkF m 74 #[.val (.int pp1), .val (.int pp2), .val (.int (8 : Int32)), .val (.int fi), .val (.int ((fi + (8 : Int32)) - (1 : Int32))), .val (.ref b182), .val (.ref bx_190)] [(.int fi), (.int ((fi - (1 : Int32)) + (0 : Int32)))])) _
      refine XS.iconst X190.here hx rfl (hb hby at_74) ?_
      show Steps p.tables e below (T190.setTop (mkF m 75 #[.val (.int pp1), .val (.int pp2), .val (.int (8 : Int32)), .val (.int fi), .val (.int ((fi + (8 : Int32)) - (1 : Int32))), .val (.ref b182), .val (.ref bx_190)] [(.int (1 : Int32)), (.int fi), (.int ((fi - (1 : Int32)) + (0 : Int32)))])) _
      refine XS.isub X190.here hx rfl (hb hby at_75) rfl ?_
      show Steps p.tables e below (T190.setTop (mkF m 76 #[.val (.int pp1), .val (.int pp2), .val (.int (8 : Int32)), .val (.int fi), .val (.int ((fi + (8 : Int32)) - (1 : Int32))), .val (.ref b182), .val (.ref bx_190)] [(.int (fi - (1 : Int32))), (.int ((fi - (1 : Int32)) + (0 : Int32)))])) _
      refine XS.icmpNo X190.here hx rfl (hb hby at_76) rfl (teq hc76_8).2 ?_
      show Steps p.tables e below (T190.setTop (mkF m 79 #[.val (.int pp1), .val (.int pp2), .val (.int (8 : Int32)), .val (.int fi), .val (.int ((fi + (8 : Int32)) - (1 : Int32))), .val (.ref b182), .val (.ref bx_190)] [])) _
      refine XS.aload X190.here hx rfl (hb hby at_79) rfl rfl ?_
      show Steps p.tables e below (T190.setTop (mkF m 81 #[.val (.int pp1), .val (.int pp2), .val (.int (8 : Int32)), .val (.int fi), .val (.int ((fi + (8 : Int32)) - (1 : Int32))), .val (.ref b182), .val (.ref bx_190)] [(.ref bx_190)])) _
      refine XS.iloadN X190.here hx rfl (hb hby at_81) rfl ?_
      show Steps p.tables e below (T190.setTop (mkF m 82 #[.val (.int pp1), .val (.int pp2), .val (.int (8 : Int32)), .val (.int fi), .val (.int ((fi + (8 : Int32)) - (1 : Int32))), .val (.ref b182), .val (.ref bx_190)] [(.int (8 : Int32)), (.ref bx_190)])) _
      refine XS.iconst X190.here hx rfl (hb hby at_82) ?_
      show Steps p.tables e below (T190.setTop (mkF m 83 #[.val (.int pp1), .val (.int pp2), .val (.int (8 : Int32)), .val (.int fi), .val (.int ((fi + (8 : Int32)) - (1 : Int32))), .val (.ref b182), .val (.ref bx_190)] [(.int (1 : Int32)), (.int (8 : Int32)), (.ref bx_190)])) _
      refine XS.isub X190.here hx rfl (hb hby at_83) rfl ?_
      show Steps p.tables e below (T190.setTop (mkF m 84 #[.val (.int pp1), .val (.int pp2), .val (.int (8 : Int32)), .val (.int fi), .val (.int ((fi + (8 : Int32)) - (1 : Int32))), .val (.ref b182), .val (.ref bx_190)] [(.int (7 : Int32)), (.ref bx_190)])) _
      refine X190.iaload hx (j := (7 : Int32)) (v := (.int ((fi - (1 : Int32)) + (7 : Int32)))) (Ar_194.1) (State.isArrayOf_alike hZ.alike Ar_194.2.1) Ar_194.2.2 hin_194 hat_194 (g := (mkF m 84 #[.val (.int pp1), .val (.int pp2), .val (.int (8 : Int32)), .val (.int fi), .val (.int ((fi + (8 : Int32)) - (1 : Int32))), .val (.ref b182), .val (.ref bx_190)] [(.int (7 : Int32)), (.ref bx_190)])) rfl rfl (hb hby at_84) _ ?_
      show Steps p.tables e below (T190.setTop (mkF m 85 #[.val (.int pp1), .val (.int pp2), .val (.int (8 : Int32)), .val (.int fi), .val (.int ((fi + (8 : Int32)) - (1 : Int32))), .val (.ref b182), .val (.ref bx_190)] [(.int ((fi - (1 : Int32)) + (7 : Int32)))])) _
      refine XS.iload X190.here hx rfl (hb hby at_85) rfl ?_
      show Steps p.tables e below (T190.setTop (mkF m 87 #[.val (.int pp1), .val (.int pp2), .val (.int (8 : Int32)), .val (.int fi), .val (.int ((fi + (8 : Int32)) - (1 : Int32))), .val (.ref b182), .val (.ref bx_190)] [(.int ((fi + (8 : Int32)) - (1 : Int32))), (.int ((fi - (1 : Int32)) + (7 : Int32)))])) _
      refine XS.iconst X190.here hx rfl (hb hby at_87) ?_
      show Steps p.tables e below (T190.setTop (mkF m 88 #[.val (.int pp1), .val (.int pp2), .val (.int (8 : Int32)), .val (.int fi), .val (.int ((fi + (8 : Int32)) - (1 : Int32))), .val (.ref b182), .val (.ref bx_190)] [(.int (1 : Int32)), (.int ((fi + (8 : Int32)) - (1 : Int32))), (.int ((fi - (1 : Int32)) + (7 : Int32)))])) _
      refine XS.isub X190.here hx rfl (hb hby at_88) rfl ?_
      show Steps p.tables e below (T190.setTop (mkF m 89 #[.val (.int pp1), .val (.int pp2), .val (.int (8 : Int32)), .val (.int fi), .val (.int ((fi + (8 : Int32)) - (1 : Int32))), .val (.ref b182), .val (.ref bx_190)] [(.int (((fi + (8 : Int32)) - (1 : Int32)) - (1 : Int32))), (.int ((fi - (1 : Int32)) + (7 : Int32)))])) _
      refine XS.icmpYes X190.here hx rfl (pc0 := 89) (pc' := 94) rfl (hb hby at_89) rfl (teq hc89_8).1 (by decide) (by decide) ?_
      show Steps p.tables e below (T190.setTop (mkF m 94 #[.val (.int pp1), .val (.int pp2), .val (.int (8 : Int32)), .val (.int fi), .val (.int ((fi + (8 : Int32)) - (1 : Int32))), .val (.ref b182), .val (.ref bx_190)] [])) _
      refine XS.aload X190.here hx rfl (hb hby at_94) rfl rfl ?_
      show Steps p.tables e below (T190.setTop (mkF m 96 #[.val (.int pp1), .val (.int pp2), .val (.int (8 : Int32)), .val (.int fi), .val (.int ((fi + (8 : Int32)) - (1 : Int32))), .val (.ref b182), .val (.ref bx_190)] [(.ref bx_190)])) _
      refine XS.iconst X190.here hx rfl (hb hby at_96) ?_
      show Steps p.tables e below (T190.setTop (mkF m 97 #[.val (.int pp1), .val (.int pp2), .val (.int (8 : Int32)), .val (.int fi), .val (.int ((fi + (8 : Int32)) - (1 : Int32))), .val (.ref b182), .val (.ref bx_190)] [(.int (0 : Int32)), (.ref bx_190)])) _
      refine XS.iloadN X190.here hx rfl (hb hby at_97) rfl ?_
      show Steps p.tables e below (T190.setTop (mkF m 98 #[.val (.int pp1), .val (.int pp2), .val (.int (8 : Int32)), .val (.int fi), .val (.int ((fi + (8 : Int32)) - (1 : Int32))), .val (.ref b182), .val (.ref bx_190)] [(.int fi), (.int (0 : Int32)), (.ref bx_190)])) _
      refine st195 _ ?_
      show Steps p.tables e below (T195.setTop (mkF m 101 #[.val (.int pp1), .val (.int pp2), .val (.int (8 : Int32)), .val (.int fi), .val (.int ((fi + (8 : Int32)) - (1 : Int32))), .val (.ref b182), .val (.ref bx_190)] [(.int (1 : Int32))])) _
      refine XS.ifNo X195.here hx rfl (hb hby at_101) rfl ((if0 _ _).trans (feq hc101_8).1) ?_
      show Steps p.tables e below (T195.setTop (mkF m 104 #[.val (.int pp1), .val (.int pp2), .val (.int (8 : Int32)), .val (.int fi), .val (.int ((fi + (8 : Int32)) - (1 : Int32))), .val (.ref b182), .val (.ref bx_190)] [])) _
      refine XS.aload X195.here hx rfl (hb hby at_104) rfl rfl ?_
      show Steps p.tables e below (T195.setTop (mkF m 106 #[.val (.int pp1), .val (.int pp2), .val (.int (8 : Int32)), .val (.int fi), .val (.int ((fi + (8 : Int32)) - (1 : Int32))), .val (.ref b182), .val (.ref bx_190)] [(.ref bx_190)])) _
      refine XS.iconst X195.here hx rfl (hb hby at_106) ?_
      show Steps p.tables e below (T195.setTop (mkF m 107 #[.val (.int pp1), .val (.int pp2), .val (.int (8 : Int32)), .val (.int fi), .val (.int ((fi + (8 : Int32)) - (1 : Int32))), .val (.ref b182), .val (.ref bx_190)] [(.int (1 : Int32)), (.ref bx_190)])) _
      refine XS.iloadN X195.here hx rfl (hb hby at_107) rfl ?_
      show Steps p.tables e below (T195.setTop (mkF m 108 #[.val (.int pp1), .val (.int pp2), .val (.int (8 : Int32)), .val (.int fi), .val (.int ((fi + (8 : Int32)) - (1 : Int32))), .val (.ref b182), .val (.ref bx_190)] [(.int fi), (.int (1 : Int32)), (.ref bx_190)])) _
      refine st196 _ ?_
      show Steps p.tables e below (T196.setTop (mkF m 111 #[.val (.int pp1), .val (.int pp2), .val (.int (8 : Int32)), .val (.int fi), .val (.int ((fi + (8 : Int32)) - (1 : Int32))), .val (.ref b182), .val (.ref bx_190)] [(.int (1 : Int32))])) _
      refine XS.ifNo X196.here hx rfl (hb hby at_111) rfl ((if0 _ _).trans (feq hc111_8).1) ?_
      show Steps p.tables e below (T196.setTop (mkF m 114 #[.val (.int pp1), .val (.int pp2), .val (.int (8 : Int32)), .val (.int fi), .val (.int ((fi + (8 : Int32)) - (1 : Int32))), .val (.ref b182), .val (.ref bx_190)] [])) _
      refine XS.aload X196.here hx rfl (hb hby at_114) rfl rfl ?_
      show Steps p.tables e below (T196.setTop (mkF m 116 #[.val (.int pp1), .val (.int pp2), .val (.int (8 : Int32)), .val (.int fi), .val (.int ((fi + (8 : Int32)) - (1 : Int32))), .val (.ref b182), .val (.ref bx_190)] [(.ref bx_190)])) _
      refine XS.iconst X196.here hx rfl (hb hby at_116) ?_
      show Steps p.tables e below (T196.setTop (mkF m 117 #[.val (.int pp1), .val (.int pp2), .val (.int (8 : Int32)), .val (.int fi), .val (.int ((fi + (8 : Int32)) - (1 : Int32))), .val (.ref b182), .val (.ref bx_190)] [(.int (2 : Int32)), (.ref bx_190)])) _
      refine XS.iloadN X196.here hx rfl (hb hby at_117) rfl ?_
      show Steps p.tables e below (T196.setTop (mkF m 118 #[.val (.int pp1), .val (.int pp2), .val (.int (8 : Int32)), .val (.int fi), .val (.int ((fi + (8 : Int32)) - (1 : Int32))), .val (.ref b182), .val (.ref bx_190)] [(.int fi), (.int (2 : Int32)), (.ref bx_190)])) _
      refine st197 _ ?_
      show Steps p.tables e below (T197.setTop (mkF m 121 #[.val (.int pp1), .val (.int pp2), .val (.int (8 : Int32)), .val (.int fi), .val (.int ((fi + (8 : Int32)) - (1 : Int32))), .val (.ref b182), .val (.ref bx_190)] [(.int (1 : Int32))])) _
      refine XS.ifNo X197.here hx rfl (hb hby at_121) rfl ((if0 _ _).trans (feq hc121_8).1) ?_
      show Steps p.tables e below (T197.setTop (mkF m 124 #[.val (.int pp1), .val (.int pp2), .val (.int (8 : Int32)), .val (.int fi), .val (.int ((fi + (8 : Int32)) - (1 : Int32))), .val (.ref b182), .val (.ref bx_190)] [])) _
      refine XS.aload X197.here hx rfl (hb hby at_124) rfl rfl ?_
      show Steps p.tables e below (T197.setTop (mkF m 126 #[.val (.int pp1), .val (.int pp2), .val (.int (8 : Int32)), .val (.int fi), .val (.int ((fi + (8 : Int32)) - (1 : Int32))), .val (.ref b182), .val (.ref bx_190)] [(.ref bx_190)])) _
      refine XS.iconst X197.here hx rfl (hb hby at_126) ?_
      show Steps p.tables e below (T197.setTop (mkF m 127 #[.val (.int pp1), .val (.int pp2), .val (.int (8 : Int32)), .val (.int fi), .val (.int ((fi + (8 : Int32)) - (1 : Int32))), .val (.ref b182), .val (.ref bx_190)] [(.int (3 : Int32)), (.ref bx_190)])) _
      refine XS.iloadN X197.here hx rfl (hb hby at_127) rfl ?_
      show Steps p.tables e below (T197.setTop (mkF m 128 #[.val (.int pp1), .val (.int pp2), .val (.int (8 : Int32)), .val (.int fi), .val (.int ((fi + (8 : Int32)) - (1 : Int32))), .val (.ref b182), .val (.ref bx_190)] [(.int fi), (.int (3 : Int32)), (.ref bx_190)])) _
      refine st198 _ ?_
      show Steps p.tables e below (T198.setTop (mkF m 131 #[.val (.int pp1), .val (.int pp2), .val (.int (8 : Int32)), .val (.int fi), .val (.int ((fi + (8 : Int32)) - (1 : Int32))), .val (.ref b182), .val (.ref bx_190)] [(.int (1 : Int32))])) _
      refine XS.ifNo X198.here hx rfl (hb hby at_131) rfl ((if0 _ _).trans (feq hc131_8).1) ?_
      show Steps p.tables e below (T198.setTop (mkF m 134 #[.val (.int pp1), .val (.int pp2), .val (.int (8 : Int32)), .val (.int fi), .val (.int ((fi + (8 : Int32)) - (1 : Int32))), .val (.ref b182), .val (.ref bx_190)] [])) _
      refine XS.aload X198.here hx rfl (hb hby at_134) rfl rfl ?_
      show Steps p.tables e below (T198.setTop (mkF m 136 #[.val (.int pp1), .val (.int pp2), .val (.int (8 : Int32)), .val (.int fi), .val (.int ((fi + (8 : Int32)) - (1 : Int32))), .val (.ref b182), .val (.ref bx_190)] [(.ref bx_190)])) _
      refine XS.iconst X198.here hx rfl (hb hby at_136) ?_
      show Steps p.tables e below (T198.setTop (mkF m 137 #[.val (.int pp1), .val (.int pp2), .val (.int (8 : Int32)), .val (.int fi), .val (.int ((fi + (8 : Int32)) - (1 : Int32))), .val (.ref b182), .val (.ref bx_190)] [(.int (4 : Int32)), (.ref bx_190)])) _
      refine XS.iloadN X198.here hx rfl (hb hby at_137) rfl ?_
      show Steps p.tables e below (T198.setTop (mkF m 138 #[.val (.int pp1), .val (.int pp2), .val (.int (8 : Int32)), .val (.int fi), .val (.int ((fi + (8 : Int32)) - (1 : Int32))), .val (.ref b182), .val (.ref bx_190)] [(.int fi), (.int (4 : Int32)), (.ref bx_190)])) _
      refine st199 _ ?_
      show Steps p.tables e below (T199.setTop (mkF m 141 #[.val (.int pp1), .val (.int pp2), .val (.int (8 : Int32)), .val (.int fi), .val (.int ((fi + (8 : Int32)) - (1 : Int32))), .val (.ref b182), .val (.ref bx_190)] [(.int (1 : Int32))])) _
      refine XS.ifNo X199.here hx rfl (hb hby at_141) rfl ((if0 _ _).trans (feq hc141_8).1) ?_
      show Steps p.tables e below (T199.setTop (mkF m 144 #[.val (.int pp1), .val (.int pp2), .val (.int (8 : Int32)), .val (.int fi), .val (.int ((fi + (8 : Int32)) - (1 : Int32))), .val (.ref b182), .val (.ref bx_190)] [])) _
      refine XS.aload X199.here hx rfl (hb hby at_144) rfl rfl ?_
      show Steps p.tables e below (T199.setTop (mkF m 146 #[.val (.int pp1), .val (.int pp2), .val (.int (8 : Int32)), .val (.int fi), .val (.int ((fi + (8 : Int32)) - (1 : Int32))), .val (.ref b182), .val (.ref bx_190)] [(.ref bx_190)])) _
      refine XS.iconst X199.here hx rfl (hb hby at_146) ?_
      show Steps p.tables e below (T199.setTop (mkF m 147 #[.val (.int pp1), .val (.int pp2), .val (.int (8 : Int32)), .val (.int fi), .val (.int ((fi + (8 : Int32)) - (1 : Int32))), .val (.ref b182), .val (.ref bx_190)] [(.int (5 : Int32)), (.ref bx_190)])) _
      refine XS.iloadN X199.here hx rfl (hb hby at_147) rfl ?_
      show Steps p.tables e below (T199.setTop (mkF m 148 #[.val (.int pp1), .val (.int pp2), .val (.int (8 : Int32)), .val (.int fi), .val (.int ((fi + (8 : Int32)) - (1 : Int32))), .val (.ref b182), .val (.ref bx_190)] [(.int fi), (.int (5 : Int32)), (.ref bx_190)])) _
      refine st200 _ ?_
      show Steps p.tables e below (T200.setTop (mkF m 151 #[.val (.int pp1), .val (.int pp2), .val (.int (8 : Int32)), .val (.int fi), .val (.int ((fi + (8 : Int32)) - (1 : Int32))), .val (.ref b182), .val (.ref bx_190)] [(.int (1 : Int32))])) _
      refine XS.ifNo X200.here hx rfl (hb hby at_151) rfl ((if0 _ _).trans (feq hc151_8).1) ?_
      show Steps p.tables e below (T200.setTop (mkF m 154 #[.val (.int pp1), .val (.int pp2), .val (.int (8 : Int32)), .val (.int fi), .val (.int ((fi + (8 : Int32)) - (1 : Int32))), .val (.ref b182), .val (.ref bx_190)] [])) _
      refine XS.aload X200.here hx rfl (hb hby at_154) rfl rfl ?_
      show Steps p.tables e below (T200.setTop (mkF m 156 #[.val (.int pp1), .val (.int pp2), .val (.int (8 : Int32)), .val (.int fi), .val (.int ((fi + (8 : Int32)) - (1 : Int32))), .val (.ref b182), .val (.ref bx_190)] [(.ref bx_190)])) _
      refine XS.bipush X200.here hx rfl (hb hby at_156) ?_
      show Steps p.tables e below (T200.setTop (mkF m 158 #[.val (.int pp1), .val (.int pp2), .val (.int (8 : Int32)), .val (.int fi), .val (.int ((fi + (8 : Int32)) - (1 : Int32))), .val (.ref b182), .val (.ref bx_190)] [(.int (6 : Int32)), (.ref bx_190)])) _
      refine XS.iloadN X200.here hx rfl (hb hby at_158) rfl ?_
      show Steps p.tables e below (T200.setTop (mkF m 159 #[.val (.int pp1), .val (.int pp2), .val (.int (8 : Int32)), .val (.int fi), .val (.int ((fi + (8 : Int32)) - (1 : Int32))), .val (.ref b182), .val (.ref bx_190)] [(.int fi), (.int (6 : Int32)), (.ref bx_190)])) _
      refine st201 _ ?_
      show Steps p.tables e below (T201.setTop (mkF m 162 #[.val (.int pp1), .val (.int pp2), .val (.int (8 : Int32)), .val (.int fi), .val (.int ((fi + (8 : Int32)) - (1 : Int32))), .val (.ref b182), .val (.ref bx_190)] [(.int (1 : Int32))])) _
      refine XS.ifNo X201.here hx rfl (hb hby at_162) rfl ((if0 _ _).trans (feq hc162_8).1) ?_
      show Steps p.tables e below (T201.setTop (mkF m 165 #[.val (.int pp1), .val (.int pp2), .val (.int (8 : Int32)), .val (.int fi), .val (.int ((fi + (8 : Int32)) - (1 : Int32))), .val (.ref b182), .val (.ref bx_190)] [])) _
      refine XS.aload X201.here hx rfl (hb hby at_165) rfl rfl ?_
      show Steps p.tables e below (T201.setTop (mkF m 167 #[.val (.int pp1), .val (.int pp2), .val (.int (8 : Int32)), .val (.int fi), .val (.int ((fi + (8 : Int32)) - (1 : Int32))), .val (.ref b182), .val (.ref bx_190)] [(.ref bx_190)])) _
      refine XS.bipush X201.here hx rfl (hb hby at_167) ?_
      show Steps p.tables e below (T201.setTop (mkF m 169 #[.val (.int pp1), .val (.int pp2), .val (.int (8 : Int32)), .val (.int fi), .val (.int ((fi + (8 : Int32)) - (1 : Int32))), .val (.ref b182), .val (.ref bx_190)] [(.int (7 : Int32)), (.ref bx_190)])) _
      refine XS.iloadN X201.here hx rfl (hb hby at_169) rfl ?_
      show Steps p.tables e below (T201.setTop (mkF m 170 #[.val (.int pp1), .val (.int pp2), .val (.int (8 : Int32)), .val (.int fi), .val (.int ((fi + (8 : Int32)) - (1 : Int32))), .val (.ref b182), .val (.ref bx_190)] [(.int fi), (.int (7 : Int32)), (.ref bx_190)])) _
      refine st202 _ ?_
      show Steps p.tables e below (T202.setTop (mkF m 173 #[.val (.int pp1), .val (.int pp2), .val (.int (8 : Int32)), .val (.int fi), .val (.int ((fi + (8 : Int32)) - (1 : Int32))), .val (.ref b182), .val (.ref bx_190)] [(.int (1 : Int32))])) _
      refine XS.ifNo X202.here hx rfl (hb hby at_173) rfl ((if0 _ _).trans (feq hc173_8).1) ?_
      show Steps p.tables e below (T202.setTop (mkF m 176 #[.val (.int pp1), .val (.int pp2), .val (.int (8 : Int32)), .val (.int fi), .val (.int ((fi + (8 : Int32)) - (1 : Int32))), .val (.ref b182), .val (.ref bx_190)] [])) _
      refine XS.iconst X202.here hx rfl (hb hby at_176) ?_
      show Steps p.tables e below (T202.setTop (mkF m 177 #[.val (.int pp1), .val (.int pp2), .val (.int (8 : Int32)), .val (.int fi), .val (.int ((fi + (8 : Int32)) - (1 : Int32))), .val (.ref b182), .val (.ref bx_190)] [(.int (1 : Int32))])) _
      refine XS.goto X202.here hx rfl (pc0 := 177) (pc' := 181) rfl (hb hby at_177) (by decide) (by decide) ?_
      show Steps p.tables e below (T202.setTop (mkF m 181 #[.val (.int pp1), .val (.int pp2), .val (.int (8 : Int32)), .val (.int fi), .val (.int ((fi + (8 : Int32)) - (1 : Int32))), .val (.ref b182), .val (.ref bx_190)] [(.int (1 : Int32))])) _
      exact retN X202 hx (t := .boolean) Bd.returns (by simp) (hb hby at_181) hr
    · show Q0 Z pp1 pp2 h0 n0 _ T202.heap _
      rw [e202]
      exact ⟨rfl, N202⟩
set_option maxRecDepth 65536 in
set_option maxHeartbeats 40000000 in
theorem comes_1 {Post : Tables → Env → Array Value → State → Outcome → State → Prop} (hpost : ∀ tb e args s v u, (limb_1_1.after args s (.returned v) u = true ∧ limb_1_2.after args s (.returned v) u = true ∧ True) → ReturnedEndW s (.returned v) u (Jvm.fieldLocs frame_1_writes args s ++ Jvm.arrayLocs frame_1_arrays args s ++ Jvm.staticLocs frame_1_statics s) 16 1152 → Post tb e args s (.returned v) u) :
    ArmFor flags0 classFile x code maxLocals ret World_1 tables_1 room_1 Calls_1 rest_1 Pre_1 Post := by
  intro l hfl _ _ p e ha hc hk s m args below hf hA hF happ hP
  obtain ⟨hcalls, hrest, hpre⟩ := hP
  obtain ⟨-, -, -, hnamed, -, -, -, hat⟩ := (Spec.applies_iff hf).mp happ
  obtain ⟨hg, hn⟩ := and_e (Cond.before_iff.mp (show (Jvm.Cond.and given_1 narrow_1).before args s = true from hpre))
  obtain ⟨g1, g2⟩ := and_e hg
  obtain ⟨g3, g4⟩ := and_e g2
  obtain ⟨w0, w1, rfl⟩ : ∃ w0 w1 : Value, args = #[w0, w1] := by
    have hs : args.size = 2 := by simpa [Cond.value, given_1] using g1
    obtain ⟨L⟩ := args
    match L, hs with
    | [w0, w1], _ => exact ⟨w0, w1, rfl⟩
  have hw := fun d (hd : d ∈ tables_1) => atoms_spec (ws := Jvm.Cond.code x code maxLocals ret :: tables_1) hat d (List.mem_cons_of_mem _ hd)
  have hfit : Fit s := fun {y c} hc i hi => by
    obtain ⟨ha, rfl⟩ := Array.getElem?_eq_some_iff.mp hc
    have q := List.all_eq_true.mp ((Array.all_eq_true_iff_forall_mem.mp hF) _ (Array.getElem_mem ha)) i (List.mem_range.mpr hi)
    simpa [Array.getElem?_eq_getElem hi] using q
  obtain ⟨i0, ei0⟩ := is_v g3
  obtain rfl : w0 = (.int i0) := Option.some.inj ei0
  obtain ⟨i1, ei1⟩ := is_v g4
  obtain rfl : w1 = (.int i1) := Option.some.inj ei1
  obtain ⟨n, o, h1, h2, h3, _, L, rfl, ⟨rfl, N⟩, hq⟩ := rm0 l s _ hw tables_1 i0 i1 s.heap s.heap.size (Nat.le_refl _)  p e ha hc hk s m _ below hf ((Spec.applies_iff_loose hf).mp happ).1 ⟨rfl, State.Warmed39.refl s, rfl⟩ trivial
  refine ⟨n, _, h1, h2, h3, hpost _ _ _ _ _ _ ⟨Cond.after_iff.mpr rfl, Cond.after_iff.mpr (eq_i res_at (Term.int_eval (1)) rfl), trivial⟩ ⟨hq.1, hq.2.1, hq.2.2.1, (hq.2.2.2.sift fun y hy => Or.inr (N y hy)).mono (by decide) (by decide)⟩⟩
theorem main_1_1 : Claimed_1_1 := comes_1 fun _ _ _ _ _ _ h hF => ⟨h.1, hF⟩
theorem main_1_2 : Claimed_1_2 := comes_1 fun _ _ _ _ _ _ h hF => ⟨h.2.1, hF⟩
end Jvm.Pilot.@@N@@
namespace Jvm.Pilot.@@N@@
open Jvm Jvm.ClassFile Sem Op Lib Jvm.Free Jvm.Stand Jvm.Pilot.@@N@@.Jvm.D
/-! MADE BY PROGRAM (witnessworld.py) out of the Statement's table words and the real class files: 16 classes; the members and pool entries that the words name. The judged class is class 1, her method 1. -/
namespace start1
open Jvm.ClassFile
def u (s : String) : CpInfo := .utf8 (stringToUtf16 s)
/-- a pool by its gaps: so many unusable entries, then the entry; so many at the end -/
def gap : Nat → List CpInfo → List CpInfo
  | 0, r => r
  | n + 1, r => .unusable :: gap n r
def poolList (es : List (Nat × CpInfo)) (last : Nat) : List CpInfo := es.foldr (fun e r => gap e.1 (e.2 :: r)) (gap last [])
def pool (es : List (Nat × CpInfo)) (last : Nat) : Array CpInfo := ⟨poolList es last⟩
def fileOf (pool : Array CpInfo) (this : Nat) (attrs : Array Attribute := #[]) (ms : Array MethodInfo := #[]) (fl : Nat := 33) (sup : Nat := 0) (ifs : Array Nat := #[]) (fds : Array FieldInfo := #[]) : ClassFile where
  minorVersion := 0
  majorVersion := 65
  constantPool := pool
  accessFlags := fl
  thisClass := this
  superClass := sup
  interfaces := ifs
  fields := fds
  methods := ms
  attributes := attrs
def plain (name : String) (sup : Option ClassId) : Class where
  name := name
  kind := .ordinary
  loader := none
  accessFlags := 33
  super := sup
  interfaces := #[]
  cf := none
  fields := #[]
  methods := #[]
  instanceTypes := #[]
  staticTypes := #[]
  resolved := #[]
  callSites := []
  init := .initialized
  statics := none
  mirror := none

def pool0 : Array CpInfo := pool [(5, u "<init>"), (0, u "()V"), (1, .class_ 10), (1, u "java/lang/Object")] 113

def k0c0 : Code := { maxStack := 0, maxLocals := 1, code := object_method_1_code, exceptionTable := #[], attributes := #[] }
def k0m0 : Method := { name := "<init>", desc := "()V", sig := { parameters := [], returnType := none }, accessFlags := 1, code := some k0c0 }
/-- java/lang/Object -/
def k0 : Class := { plain "java/lang/Object" none with
  accessFlags := 33
  interfaces := #[]
  cf := some (fileOf pool0 8 #[] #[{ accessFlags := 1, nameIndex := 5, descriptorIndex := 6, attributes := #[] }] 33 0 #[] #[])
  fields := #[]
  methods := #[k0m0]
  instanceTypes := #[]
  staticTypes := #[]
  resolved := Array.replicate 124 none
  statics := none }

def pool1 : Array CpInfo := pool [(2, .class_ 4), (1, u "java/lang/Object"), (0, u "<init>"), (0, u "()V"), (0, .integer 2147483647), (0, .methodref 9 10), (0, .class_ 11), (0, .nameAndType 12 13), (0, u "java/lang/Math"), (0, u "max"), (0, u "(II)I"), (2, .methodref 9 17), (0, .nameAndType 18 13), (0, u "min"), (0, .class_ 20), (0, u "com/example/escapement/escapement/cli/PartitionTable$Partition"), (0, .string 22), (0, u "p"), (0, .methodref 19 24), (0, .nameAndType 5 25), (0, u "(Ljava/lang/String;II)V"), (0, .methodref 19 27), (0, .nameAndType 28 29), (0, u "sites"), (0, u "()[I"), (0, .methodref 31 32), (0, .class_ 33), (0, .nameAndType 34 35), (0, u "com/example/escapement/escapement/cli/PartitionSitesPinLaw"), (0, u "at"), (0, u "([III)Z"), (2, u "law"), (0, u "(II)Z")] 9

def k1m0 : Method := { name := "<init>", desc := "()V", sig := { parameters := [], returnType := none }, accessFlags := 1, code := none }
def k1c1 : Code := { maxStack := 5, maxLocals := 7, code := code, exceptionTable := #[], attributes := #[] }
def k1m1 : Method := { name := "law", desc := "(II)Z", sig := { parameters := [.int, .int], returnType := some .boolean }, accessFlags := 9, code := some k1c1 }
def k1c2 : Code := { maxStack := 3, maxLocals := 3, code := method_3_code, exceptionTable := #[], attributes := #[] }
def k1m2 : Method := { name := "at", desc := "([III)Z", sig := { parameters := [(.array .int), .int, .int], returnType := some .boolean }, accessFlags := 10, code := some k1c2 }
/-- com/example/escapement/escapement/cli/PartitionSitesPinLaw -/
def k1 : Class := { plain "com/example/escapement/escapement/cli/PartitionSitesPinLaw" (some 0) with
  accessFlags := 49
  interfaces := #[]
  cf := some (fileOf pool1 31 #[] #[{ accessFlags := 1, nameIndex := 5, descriptorIndex := 6, attributes := #[] }, { accessFlags := 9, nameIndex := 38, descriptorIndex := 39, attributes := #[] }, { accessFlags := 10, nameIndex := 34, descriptorIndex := 35, attributes := #[] }] 49 2 #[] #[])
  fields := #[]
  methods := #[k1m0, k1m1, k1m2]
  instanceTypes := #[]
  staticTypes := #[]
  resolved := Array.replicate 49 none
  statics := none }

def pool2 : Array CpInfo := pool [(1, .class_ 2), (0, u "java/lang/Math"), (1, .class_ 6), (1, u "java/lang/Object"), (0, u "<init>"), (0, u "()V"), (89, .class_ 100), (1, u "java/lang/Math$RandomNumberGeneratorHolder"), (71, u "negativeZeroFloatBits"), (0, u "J"), (2, u "negativeZeroDoubleBits"), (21, u "max"), (2, u "min"), (43, u "$assertionsDisabled"), (0, u "Z"), (88, u "(II)I"), (2, u "twoToTheDoubleScaleDown"), (0, u "D"), (4, u "twoToTheDoubleScaleUp"), (9, u "E"), (3, u "PI"), (2, u "TAU"), (2, u "DEGREES_TO_RADIANS"), (0, u "RADIANS_TO_DEGREES")] 94

def k2m0 : Method := { name := "<init>", desc := "()V", sig := { parameters := [], returnType := none }, accessFlags := 2, code := none }
def k2c1 : Code := { maxStack := 2, maxLocals := 2, code := jdk_29_method_65_code, exceptionTable := #[], attributes := #[] }
def k2m1 : Method := { name := "max", desc := "(II)I", sig := { parameters := [.int, .int], returnType := some .int }, accessFlags := 9, code := some k2c1 }
def k2c2 : Code := { maxStack := 2, maxLocals := 2, code := jdk_29_method_69_code, exceptionTable := #[], attributes := #[] }
def k2m2 : Method := { name := "min", desc := "(II)I", sig := { parameters := [.int, .int], returnType := some .int }, accessFlags := 9, code := some k2c2 }
/-- java/lang/Math -/
def k2 : Class := { plain "java/lang/Math" (some 0) with
  accessFlags := 49
  interfaces := #[]
  cf := some (fileOf pool2 1 #[.nestMembers #[98]] #[{ accessFlags := 2, nameIndex := 7, descriptorIndex := 8, attributes := #[] }, { accessFlags := 9, nameIndex := 198, descriptorIndex := 335, attributes := #[] }, { accessFlags := 9, nameIndex := 201, descriptorIndex := 335, attributes := #[] }] 49 4 #[] #[{ accessFlags := 25, nameIndex := 354, descriptorIndex := 339, attributes := #[] }, { accessFlags := 25, nameIndex := 358, descriptorIndex := 339, attributes := #[] }, { accessFlags := 25, nameIndex := 361, descriptorIndex := 339, attributes := #[] }, { accessFlags := 26, nameIndex := 364, descriptorIndex := 339, attributes := #[] }, { accessFlags := 26, nameIndex := 365, descriptorIndex := 339, attributes := #[] }, { accessFlags := 26, nameIndex := 172, descriptorIndex := 173, attributes := #[] }, { accessFlags := 26, nameIndex := 176, descriptorIndex := 173, attributes := #[] }, { accessFlags := 8, nameIndex := 344, descriptorIndex := 339, attributes := #[] }, { accessFlags := 8, nameIndex := 338, descriptorIndex := 339, attributes := #[] }, { accessFlags := 4120, nameIndex := 245, descriptorIndex := 246, attributes := #[] }])
  fields := #[{ name := "E", type := .double, accessFlags := 25, slot := 0, constantValue := 0 }, { name := "PI", type := .double, accessFlags := 25, slot := 1, constantValue := 0 }, { name := "TAU", type := .double, accessFlags := 25, slot := 2, constantValue := 0 }, { name := "DEGREES_TO_RADIANS", type := .double, accessFlags := 26, slot := 3, constantValue := 0 }, { name := "RADIANS_TO_DEGREES", type := .double, accessFlags := 26, slot := 4, constantValue := 0 }, { name := "negativeZeroFloatBits", type := .long, accessFlags := 26, slot := 5, constantValue := 0 }, { name := "negativeZeroDoubleBits", type := .long, accessFlags := 26, slot := 6, constantValue := 0 }, { name := "twoToTheDoubleScaleUp", type := .double, accessFlags := 8, slot := 7, constantValue := 0 }, { name := "twoToTheDoubleScaleDown", type := .double, accessFlags := 8, slot := 8, constantValue := 0 }, { name := "$assertionsDisabled", type := .boolean, accessFlags := 4120, slot := 9, constantValue := 0 }]
  methods := #[k2m0, k2m1, k2m2]
  instanceTypes := #[]
  staticTypes := #[.double, .double, .double, .double, .double, .long, .long, .double, .double, .boolean]
  resolved := Array.replicate 460 none
  statics := none }

def pool3 : Array CpInfo := pool [(1, .methodref 2 3), (0, .class_ 4), (0, .nameAndType 5 6), (0, u "java/lang/Object"), (0, u "<init>"), (0, u "()V"), (0, .class_ 8), (0, u "java/lang/Record")] 13

def k3c0 : Code := { maxStack := 1, maxLocals := 1, code := jdk_30_method_1_code, exceptionTable := #[], attributes := #[] }
def k3m0 : Method := { name := "<init>", desc := "()V", sig := { parameters := [], returnType := none }, accessFlags := 4, code := some k3c0 }
/-- java/lang/Record -/
def k3 : Class := { plain "java/lang/Record" (some 0) with
  accessFlags := 1057
  interfaces := #[]
  cf := some (fileOf pool3 7 #[] #[{ accessFlags := 4, nameIndex := 5, descriptorIndex := 6, attributes := #[] }] 1057 2 #[] #[])
  fields := #[]
  methods := #[k3m0]
  instanceTypes := #[]
  staticTypes := #[]
  resolved := Array.replicate 22 none
  statics := none }

def pool4 : Array CpInfo := pool [(1, .methodref 2 3), (0, .class_ 4), (0, .nameAndType 5 6), (0, u "java/lang/Record"), (0, u "<init>"), (0, u "()V"), (0, .fieldref 8 9), (0, .class_ 10), (0, .nameAndType 11 12), (0, u "com/example/escapement/escapement/cli/PartitionTable$Partition"), (0, u "name"), (0, u "Ljava/lang/String;"), (0, .fieldref 8 14), (0, .nameAndType 15 16), (0, u "first"), (0, u "I"), (0, .fieldref 8 18), (0, .nameAndType 19 16), (0, u "last"), (12, u "(Ljava/lang/String;II)V"), (3, u "sites"), (0, u "()[I"), (9, .class_ 48), (0, u "com/example/escapement/escapement/cli/PartitionTable")] 21

def k4c0 : Code := { maxStack := 2, maxLocals := 4, code := prog_14_method_1_code, exceptionTable := #[], attributes := #[] }
def k4m0 : Method := { name := "<init>", desc := "(Ljava/lang/String;II)V", sig := { parameters := [(.object "java/lang/String"), .int, .int], returnType := none }, accessFlags := 0, code := some k4c0 }
def k4c1 : Code := { maxStack := 4, maxLocals := 3, code := prog_14_method_2_code, exceptionTable := #[], attributes := #[] }
def k4m1 : Method := { name := "sites", desc := "()[I", sig := { parameters := [], returnType := some (.array .int) }, accessFlags := 0, code := some k4c1 }
/-- com/example/escapement/escapement/cli/PartitionTable$Partition -/
def k4 : Class := { plain "com/example/escapement/escapement/cli/PartitionTable$Partition" (some 3) with
  accessFlags := 48
  interfaces := #[]
  cf := some (fileOf pool4 8 #[.nestHost 47] #[{ accessFlags := 0, nameIndex := 5, descriptorIndex := 32, attributes := #[] }, { accessFlags := 0, nameIndex := 36, descriptorIndex := 37, attributes := #[] }] 48 2 #[] #[{ accessFlags := 18, nameIndex := 11, descriptorIndex := 12, attributes := #[] }, { accessFlags := 18, nameIndex := 15, descriptorIndex := 16, attributes := #[] }, { accessFlags := 18, nameIndex := 19, descriptorIndex := 16, attributes := #[] }])
  fields := #[{ name := "name", type := (.object "java/lang/String"), accessFlags := 18, slot := 0, constantValue := 0 }, { name := "first", type := .int, accessFlags := 18, slot := 1, constantValue := 0 }, { name := "last", type := .int, accessFlags := 18, slot := 2, constantValue := 0 }]
  methods := #[k4m0, k4m1]
  instanceTypes := #[(.object "java/lang/String"), .int, .int]
  staticTypes := #[]
  resolved := Array.replicate 70 none
  statics := none }

def pool5 : Array CpInfo := pool [(1, .class_ 2), (0, u "java/io/Serializable"), (0, .class_ 4), (0, u "java/lang/Object")] 2

/-- java/io/Serializable -/
def k5 : Class := { plain "java/io/Serializable" (some 0) with
  accessFlags := 1537
  interfaces := #[]
  cf := some (fileOf pool5 1 #[] #[] 1537 3 #[] #[])
  fields := #[]
  methods := #[]
  instanceTypes := #[]
  staticTypes := #[]
  resolved := Array.replicate 7 none
  statics := none }

def pool6 : Array CpInfo := pool [(1, .class_ 2), (0, u "java/lang/Comparable"), (0, .class_ 4), (0, u "java/lang/Object")] 7

/-- java/lang/Comparable -/
def k6 : Class := { plain "java/lang/Comparable" (some 0) with
  accessFlags := 1537
  interfaces := #[]
  cf := some (fileOf pool6 1 #[] #[] 1537 3 #[] #[])
  fields := #[]
  methods := #[]
  instanceTypes := #[]
  staticTypes := #[]
  resolved := Array.replicate 12 none
  statics := none }

def pool7 : Array CpInfo := pool [(2, .class_ 4), (1, u "java/lang/CharSequence"), (42, .class_ 48), (0, u "java/lang/CharSequence$1CodePointIterator"), (10, .class_ 60), (0, u "java/lang/CharSequence$1CharIterator"), (5, .class_ 67), (0, u "java/lang/Object")] 63

/-- java/lang/CharSequence -/
def k7 : Class := { plain "java/lang/CharSequence" (some 0) with
  accessFlags := 1537
  interfaces := #[]
  cf := some (fileOf pool7 2 #[.nestMembers #[47, 59]] #[] 1537 66 #[] #[])
  fields := #[]
  methods := #[]
  instanceTypes := #[]
  staticTypes := #[]
  resolved := Array.replicate 131 none
  statics := none }

def pool8 : Array CpInfo := pool [(1, .class_ 2), (0, u "java/lang/constant/Constable"), (0, .class_ 4), (0, u "java/lang/Object")] 6

/-- java/lang/constant/Constable -/
def k8 : Class := { plain "java/lang/constant/Constable" (some 0) with
  accessFlags := 1537
  interfaces := #[]
  cf := some (fileOf pool8 1 #[] #[] 1537 3 #[] #[])
  fields := #[]
  methods := #[]
  instanceTypes := #[]
  staticTypes := #[]
  resolved := Array.replicate 11 none
  statics := none }

def pool9 : Array CpInfo := pool [(1, .class_ 2), (0, u "java/lang/constant/ConstantDesc"), (0, .class_ 4), (0, u "java/lang/Object")] 32

/-- java/lang/constant/ConstantDesc -/
def k9 : Class := { plain "java/lang/constant/ConstantDesc" (some 0) with
  accessFlags := 1537
  interfaces := #[]
  cf := some (fileOf pool9 1 #[] #[] 1537 3 #[] #[])
  fields := #[]
  methods := #[]
  instanceTypes := #[]
  staticTypes := #[]
  resolved := Array.replicate 37 none
  statics := none }

def pool10 : Array CpInfo := pool [(2, .class_ 4), (1, u "java/lang/Object"), (0, u "<init>"), (0, u "()V"), (3, .class_ 12), (1, u "java/lang/String"), (0, u "value"), (0, u "[B"), (2, u "coder"), (0, u "B"), (2, u "hash"), (0, u "I"), (2, u "hashIsZero"), (0, u "Z"), (13, u "COMPACT_STRINGS"), (534, .class_ 576), (0, u "java/lang/CharSequence"), (22, u "CASE_INSENSITIVE_ORDER"), (0, u "Ljava/util/Comparator;"), (500, u "serialPersistentFields"), (0, u "[Ljava/io/ObjectStreamField;"), (0, .class_ 1104), (0, u "java/lang/String$CaseInsensitiveComparator"), (1, .class_ 1107), (0, u "java/io/Serializable"), (0, .class_ 1109), (0, u "java/lang/Comparable"), (0, .class_ 1111), (0, u "java/lang/constant/Constable"), (0, .class_ 1113), (0, u "java/lang/constant/ConstantDesc"), (2, u "serialVersionUID"), (0, u "J"), (3, u "REPL"), (0, u "C"), (2, u "LATIN1"), (1, u "UTF16")] 323

def k10m0 : Method := { name := "<init>", desc := "()V", sig := { parameters := [], returnType := none }, accessFlags := 1, code := none }
/-- java/lang/String -/
def k10 : Class := { plain "java/lang/String" (some 0) with
  accessFlags := 49
  interfaces := #[5, 6, 7, 8, 9]
  cf := some (fileOf pool10 10 #[.nestMembers #[1103]] #[{ accessFlags := 1, nameIndex := 5, descriptorIndex := 6, attributes := #[] }] 49 2 #[1106, 1108, 575, 1110, 1112] #[{ accessFlags := 18, nameIndex := 13, descriptorIndex := 14, attributes := #[] }, { accessFlags := 18, nameIndex := 17, descriptorIndex := 18, attributes := #[] }, { accessFlags := 2, nameIndex := 21, descriptorIndex := 22, attributes := #[] }, { accessFlags := 2, nameIndex := 25, descriptorIndex := 26, attributes := #[] }, { accessFlags := 26, nameIndex := 1116, descriptorIndex := 1117, attributes := #[] }, { accessFlags := 24, nameIndex := 40, descriptorIndex := 26, attributes := #[] }, { accessFlags := 26, nameIndex := 1101, descriptorIndex := 1102, attributes := #[] }, { accessFlags := 26, nameIndex := 1121, descriptorIndex := 1122, attributes := #[] }, { accessFlags := 25, nameIndex := 599, descriptorIndex := 600, attributes := #[] }, { accessFlags := 24, nameIndex := 1125, descriptorIndex := 18, attributes := #[] }, { accessFlags := 24, nameIndex := 1127, descriptorIndex := 18, attributes := #[] }])
  fields := #[{ name := "value", type := (.array .byte), accessFlags := 18, slot := 0, constantValue := 0 }, { name := "coder", type := .byte, accessFlags := 18, slot := 1, constantValue := 0 }, { name := "hash", type := .int, accessFlags := 2, slot := 2, constantValue := 0 }, { name := "hashIsZero", type := .boolean, accessFlags := 2, slot := 3, constantValue := 0 }, { name := "serialVersionUID", type := .long, accessFlags := 26, slot := 0, constantValue := 0 }, { name := "COMPACT_STRINGS", type := .boolean, accessFlags := 24, slot := 1, constantValue := 0 }, { name := "serialPersistentFields", type := (.array (.object "java/io/ObjectStreamField")), accessFlags := 26, slot := 2, constantValue := 0 }, { name := "REPL", type := .char, accessFlags := 26, slot := 3, constantValue := 0 }, { name := "CASE_INSENSITIVE_ORDER", type := (.object "java/util/Comparator"), accessFlags := 25, slot := 4, constantValue := 0 }, { name := "LATIN1", type := .byte, accessFlags := 24, slot := 5, constantValue := 0 }, { name := "UTF16", type := .byte, accessFlags := 24, slot := 6, constantValue := 0 }]
  methods := #[k10m0]
  instanceTypes := #[(.array .byte), .byte, .int, .boolean]
  staticTypes := #[.long, .boolean, (.array (.object "java/io/ObjectStreamField")), .char, (.object "java/util/Comparator"), .byte, .byte]
  resolved := Array.replicate 1451 none
  statics := none }

def pool11 : Array CpInfo := pool [(1, u "java/lang/Cloneable"), (0, .class_ 1), (0, u "java/lang/Object"), (0, .class_ 3)] 3

/-- java/lang/Cloneable -/
def k11 : Class := { plain "java/lang/Cloneable" (some 0) with
  accessFlags := 1537
  interfaces := #[]
  cf := some (fileOf pool11 2 #[] #[] 1537 4 #[] #[])
  fields := #[]
  methods := #[]
  instanceTypes := #[]
  staticTypes := #[]
  resolved := Array.replicate 8 none
  statics := none }

/-- the primitive byte -/
def k12 : Class := { plain "byte" none with kind := .primitive 'B', accessFlags := 0x411 }
/-- [B -/
def k13 : Class := { plain "[B" (some 0) with kind := .array 12 .byte, interfaces := #[11, 5], accessFlags := 1041 }

/-- the primitive int -/
def k14 : Class := { plain "int" none with kind := .primitive 'I', accessFlags := 0x411 }
/-- [I -/
def k15 : Class := { plain "[I" (some 0) with kind := .array 14 .int, interfaces := #[11, 5], accessFlags := 1041 }

def heap : Heap := #[]
def classes : Array Class := #[k0, k1, k2, k3, k4, k5, k6, k7, k8, k9, k10, k11, k12, k13, k14, k15]
def interned : List (Array UInt16 × Addr) := []
def slotsUsed : Nat := 0
def theMethod : MethodId := ⟨1, 1⟩
def args0 : Array Value := #[.int 1, .int 2]
def aboutOver (below : List Frame) : State where
  vm := { classes := classes, interned := interned.toArray }
  heap := heap
  slotsUsed := slotsUsed
  threads := #[{ frames := .invoking theMethod args0 :: below }]
def below0 : List Frame := [.native { method := ⟨0, 0⟩, args := #[] }]
def about1 : State := aboutOver below0
def p0 : Program := .bare "" "" ""
def e0 : Env := launch0.env 0 0 0
theorem w_frames : about1.frames = Frame.invoking theMethod args0 :: below0 := rfl
set_option maxRecDepth 65536 in
theorem w_args : argsFit about1.vm theMethod args0 = true := by decide +kernel
set_option maxRecDepth 65536 in
theorem w_heap : heapFits about1 = true := by decide +kernel
set_option maxRecDepth 65536 in
theorem w_runnable : about1.curStatus? = some .runnable := by decide +kernel
set_option maxRecDepth 65536 in
theorem w_alone : about1.alone = true := by decide +kernel
set_option maxRecDepth 65536 in
theorem w_named : about1.methodNamed? x = some theMethod := by decide +kernel
set_option maxRecDepth 65536 in
theorem w_hears : about1.hears theMethod below0 = true := by decide +kernel
set_option maxRecDepth 65536 in
theorem w_ripe : about1.ripe theMethod args0 below0 = true := by decide +kernel
theorem w_running : about1.status = .running := rfl
set_option maxRecDepth 65536 in
theorem w_room : about1.hasRoom e0.platform room_1 = true :=
  launch0.hasRoom_least _ room_1 (by decide +kernel) (by decide +kernel) (by decide +kernel) (by decide +kernel) (by decide +kernel) (by decide +kernel)
theorem allAtoms_all (ts : List Jvm.Cond) (a : Array Jvm.Value) (st : Jvm.State) : (allAtoms ts).before a st = ts.all (fun c => c.before a st) := by
  induction ts with
  | nil => rfl
  | cons c t ih =>
    show (Jvm.Cond.and c (allAtoms t)).before a st = _
    rw [Jvm.Cond.before_and, ih, List.all_cons]
def words1 : List Jvm.Cond := Jvm.Cond.code x code maxLocals ret :: tables_1
/-- a 'code' word, met by the world's own term for the bytes: nothing is compared byte by byte -/
theorem code_word {y : MethodName} {bytes : ByteArray} {mx : Nat} {rt : Option FieldType} {a : Array Value} {s : State} {m : MethodId} {meth : Method} {c : Code} (h1 : s.methodNamed? y = some m) (h2 : s.vm.method? m = some meth) (h3 : meth.code = some c) (h4 : c.code = bytes)
    (h5 : (c.maxLocals == mx && c.exceptionTable.isEmpty && decide (c.maxStack ≤ mostOperands) && decide (meth.sig.returnType = rt) && !meth.locks && decide (parseMethodDescriptor y.desc = some meth.sig)) = true) : (Jvm.Cond.code y bytes mx rt).before a s = true := by
  simp only [Bool.and_eq_true, beq_iff_eq, Bool.not_eq_true', decide_eq_true_eq] at h5
  obtain ⟨⟨⟨⟨⟨g1, g2⟩, g3⟩, g4⟩, g5⟩, g6⟩ := h5
  simp [Cond.before, Cond.holds, Cond.value, h1, h2, h3, h4, g1, g2, g3, g4, g5, g6]
def isCode : Jvm.Cond → Bool
  | .code _ _ _ _ => true
  | _ => false
theorem all_split {L : List Jvm.Cond} {P : Jvm.Cond → Bool} (h1 : L.all (fun c => isCode c || P c) = true) (h2 : ∀ c ∈ L.filter isCode, P c = true) : L.all P = true := by
  refine List.all_eq_true.mpr fun c hc => ?_
  have h := List.all_eq_true.mp h1 c hc
  rcases Bool.eq_false_or_eq_true (isCode c) with hi | hi
  · exact h2 c (List.mem_filter.mpr ⟨hc, hi⟩)
  · simpa [hi] using h
set_option maxRecDepth 65536 in
theorem w_c0 : (Jvm.Cond.code x code maxLocals ret).before args0 about1 = true := code_word (m := ⟨1, 1⟩) (meth := k1m1) (c := k1c1) (by decide +kernel) rfl rfl rfl (by decide +kernel)
set_option maxRecDepth 65536 in
theorem w_c1 : (Jvm.Cond.code ({ cls := "java/lang/Math", name := "max", desc := "(II)I" } : Jvm.MethodName) jdk_29_method_65_code (2 : Nat) (Option.some Jvm.ClassFile.FieldType.int)).before args0 about1 = true := code_word (m := ⟨2, 1⟩) (meth := k2m1) (c := k2c1) (by decide +kernel) rfl rfl rfl (by decide +kernel)
set_option maxRecDepth 65536 in
theorem w_c2 : (Jvm.Cond.code ({ cls := "java/lang/Math", name := "min", desc := "(II)I" } : Jvm.MethodName) jdk_29_method_69_code (2 : Nat) (Option.some Jvm.ClassFile.FieldType.int)).before args0 about1 = true := code_word (m := ⟨2, 2⟩) (meth := k2m2) (c := k2c2) (by decide +kernel) rfl rfl rfl (by decide +kernel)
set_option maxRecDepth 65536 in
theorem w_c3 : (Jvm.Cond.code ({ cls := "com/example/escapement/escapement/cli/PartitionTable$Partition", name := "<init>", desc := "(Ljava/lang/String;II)V" } : Jvm.MethodName) prog_14_method_1_code (4 : Nat) (Option.none : Option Jvm.ClassFile.FieldType)).before args0 about1 = true := code_word (m := ⟨4, 0⟩) (meth := k4m0) (c := k4c0) (by decide +kernel) rfl rfl rfl (by decide +kernel)
set_option maxRecDepth 65536 in
theorem w_c4 : (Jvm.Cond.code ({ cls := "java/lang/Record", name := "<init>", desc := "()V" } : Jvm.MethodName) jdk_30_method_1_code (1 : Nat) (Option.none : Option Jvm.ClassFile.FieldType)).before args0 about1 = true := code_word (m := ⟨3, 0⟩) (meth := k3m0) (c := k3c0) (by decide +kernel) rfl rfl rfl (by decide +kernel)
set_option maxRecDepth 65536 in
theorem w_c5 : (Jvm.Cond.code ({ cls := "java/lang/Object", name := "<init>", desc := "()V" } : Jvm.MethodName) object_method_1_code (1 : Nat) (Option.none : Option Jvm.ClassFile.FieldType)).before args0 about1 = true := code_word (m := ⟨0, 0⟩) (meth := k0m0) (c := k0c0) (by decide +kernel) rfl rfl rfl (by decide +kernel)
set_option maxRecDepth 65536 in
theorem w_c6 : (Jvm.Cond.code ({ cls := "com/example/escapement/escapement/cli/PartitionTable$Partition", name := "sites", desc := "()[I" } : Jvm.MethodName) prog_14_method_2_code (3 : Nat) (Option.some (Jvm.ClassFile.FieldType.array Jvm.ClassFile.FieldType.int))).before args0 about1 = true := code_word (m := ⟨4, 1⟩) (meth := k4m1) (c := k4c1) (by decide +kernel) rfl rfl rfl (by decide +kernel)
set_option maxRecDepth 65536 in
theorem w_c7 : (Jvm.Cond.code ({ cls := "com/example/escapement/escapement/cli/PartitionSitesPinLaw", name := "at", desc := "([III)Z" } : Jvm.MethodName) method_3_code (3 : Nat) (Option.some Jvm.ClassFile.FieldType.boolean)).before args0 about1 = true := code_word (m := ⟨1, 2⟩) (meth := k1m2) (c := k1c2) (by decide +kernel) rfl rfl rfl (by decide +kernel)
def codes1 : List Jvm.Cond := [Jvm.Cond.code x code maxLocals ret, Jvm.Cond.code ({ cls := "java/lang/Math", name := "max", desc := "(II)I" } : Jvm.MethodName) jdk_29_method_65_code (2 : Nat) (Option.some Jvm.ClassFile.FieldType.int), Jvm.Cond.code ({ cls := "java/lang/Math", name := "min", desc := "(II)I" } : Jvm.MethodName) jdk_29_method_69_code (2 : Nat) (Option.some Jvm.ClassFile.FieldType.int), Jvm.Cond.code ({ cls := "com/example/escapement/escapement/cli/PartitionTable$Partition", name := "<init>", desc := "(Ljava/lang/String;II)V" } : Jvm.MethodName) prog_14_method_1_code (4 : Nat) (Option.none : Option Jvm.ClassFile.FieldType), Jvm.Cond.code ({ cls := "java/lang/Record", name := "<init>", desc := "()V" } : Jvm.MethodName) jdk_30_method_1_code (1 : Nat) (Option.none : Option Jvm.ClassFile.FieldType), Jvm.Cond.code ({ cls := "java/lang/Object", name := "<init>", desc := "()V" } : Jvm.MethodName) object_method_1_code (1 : Nat) (Option.none : Option Jvm.ClassFile.FieldType), Jvm.Cond.code ({ cls := "com/example/escapement/escapement/cli/PartitionTable$Partition", name := "sites", desc := "()[I" } : Jvm.MethodName) prog_14_method_2_code (3 : Nat) (Option.some (Jvm.ClassFile.FieldType.array Jvm.ClassFile.FieldType.int)), Jvm.Cond.code ({ cls := "com/example/escapement/escapement/cli/PartitionSitesPinLaw", name := "at", desc := "([III)Z" } : Jvm.MethodName) method_3_code (3 : Nat) (Option.some Jvm.ClassFile.FieldType.boolean)]
set_option maxRecDepth 65536 in
theorem codes_eq : words1.filter isCode = codes1 := rfl
theorem w_codes : ∀ c ∈ words1.filter isCode, c.before args0 about1 = true := by
  rw [codes_eq]
  intro c hc
  simp only [codes1, List.mem_cons, List.not_mem_nil, or_false] at hc
  rcases hc with rfl | rfl | rfl | rfl | rfl | rfl | rfl | rfl
  · exact w_c0
  · exact w_c1
  · exact w_c2
  · exact w_c3
  · exact w_c4
  · exact w_c5
  · exact w_c6
  · exact w_c7
set_option maxRecDepth 65536 in
theorem w_t1 : (words1.take 24).all (fun c => isCode c || c.before args0 about1) = true := by decide +kernel
set_option maxRecDepth 65536 in
theorem w_t2 : (words1.drop 24).all (fun c => isCode c || c.before args0 about1) = true := by decide +kernel
theorem w_tables : (allAtoms (Jvm.Cond.code x code maxLocals ret :: tables_1)).before args0 about1 = true := by
  rw [allAtoms_all]
  show words1.all (fun c => c.before args0 about1) = true
  refine all_split ?_ w_codes
  rw [← List.take_append_drop 24 words1, List.all_append, w_t1, w_t2]
  rfl
set_option maxRecDepth 65536 in
theorem w_case : (Jvm.Cond.and given_1 narrow_1).before args0 about1 = true := by decide +kernel
theorem w_applies : (headSpec (Jvm.Cond.code x code maxLocals ret :: tables_1) room_1).applies x e0.platform about1 = true :=
  (Spec.applies_iff w_frames).mpr ⟨w_running, w_runnable, w_alone, w_named, w_hears, w_ripe, w_room, w_tables⟩
theorem atStart : AtStart classFile x code maxLocals ret World_1 tables_1 room_1 Calls_1 rest_1 Pre_1 launch0 p0 e0 about1 theMethod args0 below0 :=
  ⟨lists_1, trivial, launch0.admits_env _ _ _, launch0.least_env, fairChoices_fair.cas, fairChoices_fair.clock, w_frames, w_args, w_heap, w_applies, trivial, trivial, w_case⟩
end start1
theorem witness_1 : WitnessClaimed_1 := ⟨start1.p0, start1.e0, start1.about1, start1.theMethod, start1.args0, start1.below0, start1.atStart⟩
end Jvm.Pilot.@@N@@
