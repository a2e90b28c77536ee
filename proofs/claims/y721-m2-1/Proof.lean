import JvmDerived
import JvmDerived.Pilot.@@N@@Statement
import JvmDerived.Pilot.@@N@@Code
set_option linter.unusedVariables false
set_option linter.unusedSimpArgs false
namespace Jvm.RoadKit
open Sem ClassFile Op Lib Jvm.Stand Jvm.Free Jvm.LawKit
section New
variable {p : Program} {l : Launch} {e : Env} {R : Room} {s : State} {m : MethodId} {args : Array Value} {below : List Frame} {meth : Method} {c : Code} {T : State} {locs : List Loc} {cells slots : Nat}
theorem retI (X : Stand p l e R s m args below meth c T locs cells slots) (hx : p.tables.exec = Jvm.exec) {pc : Nat} {Ls : Array Slot} {z : Int32} {rest : List Value} (hret : meth.sig.returnType = some .int) (hd : decode c.code pc = .ok (.ireturn, 1)) {fs : List Frame}
    (hl : ∀ (f : JFrame) (acts : List Action), f.method = m → f.locked = none → f.entered = [] → (doReturn e (T.setTop f) acts (some (.int z))).1 = T.setFrames fs) : Steps p.tables e below (T.setTop (mkF m pc Ls (.int z :: rest))) (T.setFrames fs) := by
  have hm' : T.vm.method? m = some meth := X.method'
  have hn : narrow .int (.int z) = .int z := rfl
  show Steps p.tables e below (T.setTop { method := m, pc := pc, locals := Ls, stack := _ :: rest, locked := none }) _
  jvm_step X.here [X.here.top, hx, hd, hm', hret, hn]
  first | (intro acts; rw [hl _ acts rfl rfl rfl]) | rw [hl _ _ rfl rfl rfl]
  exact Steps.refl _
end New
end Jvm.RoadKit
@@BLOCK:NumsL.lean.txt@@
namespace Jvm.Pilot.@@N@@
open Jvm Jvm.ClassFile Sem Op Lib Jvm.Free Jvm.Stand Jvm.LawKit Jvm.RoadKit Bundle Jvm.Pilot.@@N@@.Jvm.D
def own_gt (a b : Int64) : Int32 := if b < a then 1 else 0
theorem own_gt_no {a b : Int64} (h : ¬ b < a) : own_gt a b = 0 := if_neg h
theorem own_gt_yes {a b : Int64} (h : b < a) : ¬ own_gt a b = 0 := by rw [own_gt, if_pos h]; decide
theorem own_of_gt {a b : Int64} (h : ¬ own_gt a b = 0) : b < a := by
  by_cases q : b < a
  · exact q
  · exact absurd (own_gt_no q) h
theorem own_rem (x : Int64) : -400000000000000 < (x - (x / (400000000000000 : Int64)) * (400000000000000 : Int64)).toInt ∧ (x - (x / (400000000000000 : Int64)) * (400000000000000 : Int64)).toInt < 400000000000000 := by
  rw [Jvm.Kit.i64_rem]
  have e : (400000000000000 : Int64).toInt = 400000000000000 := by decide
  rw [e]
  exact ⟨Int.lt_tmod_of_pos _ (by decide), Int.tmod_lt_of_pos _ (by decide)⟩
theorem own_u {t : Int64} (g : Int64) (h : -400000000000000 < t.toInt ∧ t.toInt < 400000000000000) : ¬ (t + ((g &&& (9223372036854775807 : Int64)) - ((g &&& (9223372036854775807 : Int64)) / (400000000000000 : Int64)) * (400000000000000 : Int64))) < t := by
  have m := Jvm.Kit.i64_mask g 9223372036854775807 (k := 63) (by decide) (by decide)
  have q0 : 0 ≤ (g &&& (9223372036854775807 : Int64)).toInt := by rw [m]; omega
  have r := Jvm.Kit.i64_rem_nonneg (y := (400000000000000 : Int64)) q0
  have e : (400000000000000 : Int64).toInt = 400000000000000 := by decide
  rw [e] at r
  generalize (g &&& (9223372036854775807 : Int64)) - ((g &&& (9223372036854775807 : Int64)) / (400000000000000 : Int64)) * (400000000000000 : Int64) = z at r
  have b1 : 0 ≤ z.toInt := by rw [r]; omega
  have b2 : z.toInt < 400000000000000 := by rw [r]; omega
  rw [Int64.lt_iff_toInt_lt, Jvm.Kit.i64_add (by omega) (by omega)]
  omega
theorem own_succ {o : Int64} (h : -400000000000000 < o.toInt ∧ o.toInt < 400000000000000) : o < o + 1 := by
  have e : (1 : Int64).toInt = 1 := by decide
  rw [Int64.lt_iff_toInt_lt, Jvm.Kit.i64_add (by omega) (by omega)]
  omega
theorem own_tr {o t u : Int64} (h1 : o < t) (h2 : ¬ u < t) : o < u := by
  rw [Int64.lt_iff_toInt_lt] at *; omega
theorem pn_java_lang_Record : plainName "java/lang/Record" = true := by first | (simp [plainName, overriddenIn]; done) | decide +kernel
theorem d2_0 : decode jdk_30_method_1_code 0 = .ok (.aload_n 0, 1) := by decide +kernel
theorem d2_1 : decode jdk_30_method_1_code 1 = .ok (.invokespecial 1, 3) := by decide +kernel
theorem d2_4 : decode jdk_30_method_1_code 4 = .ok (.return_, 1) := by decide +kernel
theorem ef_2 (m : MethodId) (x0 : Addr) : entryFrame m #[(.ref x0)] 1 = mkF m 0 #[.val (.ref x0)] [] := by first | (simp [entryFrame, mkF, argsToLocals, Value.category]; done) | rfl
def Q2 (Z : State) (aa0 : Addr) (h0 : Heap) (n0 : Nat) (v : Option Value) (h : Heap) (L : List Loc) : Prop := v = none ∧ Fr n0 L ∧ h = h0
set_option maxRecDepth 65536 in
set_option maxHeartbeats 40000000 in
theorem rm2 (l : Launch) (Z : State) (a0 : Array Value) (hw : ∀ d ∈ tables_1, d.before a0 Z = true) (ws : List Jvm.Cond) (aa0 : Addr) (h0 : Heap) (n0 : Nat) (Z0 : n0 ≤ h0.size) :
    MetFree l (⟨"java/lang/Record", "<init>", "()V"⟩ : MethodName) (head1 (Jvm.Cond.code (⟨"java/lang/Record", "<init>", "()V"⟩ : MethodName) jdk_30_method_1_code 1 none :: ws) ({ frames := 1, cells := 0, slots := 0, locals := 12 } : Room)) (fun a U => a = #[(.ref aa0)] ∧ Z.Warmed39 U.vm ∧ U.heap = h0) (fun _ _ _ _ _ => True) (fun _ U o U' => ∃ v L, o = .returned v ∧ Q2 Z aa0 h0 n0 v U'.heap L ∧ FrameEnd U o U' L ({ frames := 1, cells := 0, slots := 0, locals := 12 } : Room).cells ({ frames := 1, cells := 0, slots := 0, locals := 12 } : Room).slots) := by
  refine MetFree.of_bodySF (plainFor_of_name pn_java_lang_Record) hisR ?_
  intro p e s m args below meth c s₁ Bd hml0 hP hK
  obtain ⟨rfl, hZ, hh⟩ := hP
  have hx := Bd.exec
  have hby := Bd.bytes
  have hml : c.maxLocals = 1 := hml0
  have hown : s.vm.findClass "java/lang/Record" = some m.cls := findClass_of_methodNamed Bd.named
  have hnm := (name_of_methodNamed Bd.named Bd.method).1
  have X0 : Stand p l e ({ frames := 1, cells := 0, slots := 0, locals := 12 } : Room) s m #[(.ref aa0)] below meth c s₁ [] 0 0 := Stand.of_body Bd
  have e0 : s₁.heap = h0 := by rw [← hh, Bd.state]; rfl
  have N0 := Fr.nil n0
  have pre0 : ∀ t, Steps p.tables e below (s₁.setTop (mkF m 0 #[.val (.ref aa0)] [])) t → Steps p.tables e below (s₁.setTop (entryFrame m #[(.ref aa0)] 1)) t := fun t k => castTop (ef_2 m aa0) k
  obtain ⟨T1, X1, e1, st1⟩ := initO X0 hx hZ hown (hw _ (List.mem_of_getElem? (i := 25) rfl)) (hw _ (List.mem_of_getElem? (i := 26) rfl)) (hw _ (List.mem_of_getElem? (i := 27) rfl)) e0 (g := (mkF m 1 #[.val (.ref aa0)] [(.ref aa0)])) rfl (by rw [hml]; rfl) rfl (hb hby d2_1) (by decide) (W := 0) (by show 2 * 0 + _ ≤ _; exact Nat.le_of_eq rfl) (by decide)
  obtain ⟨fs, hr, hrun, hended, hW, hsame⟩ := X1.leave (v := none) (fun _ => rfl)
  refine ⟨_, _, pre0 _ ?_, hrun, hended, _, _, rfl, ?_, ⟨_, rfl⟩, hW, hsame.mono (by decide) (by decide)⟩
  · show Steps p.tables e below (s₁.setTop (mkF m 0 #[.val (.ref aa0)] [])) _
    refine XS.aloadN X0.here hx rfl (hb hby d2_0) rfl rfl ?_
    show Steps p.tables e below (s₁.setTop (mkF m 1 #[.val (.ref aa0)] [(.ref aa0)])) _
    refine st1 _ ?_
    show Steps p.tables e below (T1.setTop (mkF m 4 #[.val (.ref aa0)] [])) _
    exact X1.returnOut hx Bd.returns (hb hby d2_4) hr
  · show Q2 Z aa0 h0 n0 _ T1.heap _
    rw [e1]
    exact ⟨rfl, N0, rfl⟩
theorem pd__28__29_V : parseMethodDescriptor "()V" = some ⟨[], none⟩ := by decide +kernel
theorem pn_com_example_corrente_corrente_LandmarkWindow : plainName "com/example/corrente/corrente/LandmarkWindow" = true := by first | (simp [plainName, overriddenIn]; done) | decide +kernel
theorem d1_0 : decode prog_4_method_1_code 0 = .ok (.aload_n 0, 1) := by decide +kernel
theorem d1_1 : decode prog_4_method_1_code 1 = .ok (.invokespecial 1, 3) := by decide +kernel
theorem d1_4 : decode prog_4_method_1_code 4 = .ok (.aload_n 0, 1) := by decide +kernel
theorem d1_5 : decode prog_4_method_1_code 5 = .ok (.aload_n 1, 1) := by decide +kernel
theorem d1_6 : decode prog_4_method_1_code 6 = .ok (.putfield 7, 3) := by decide +kernel
theorem d1_9 : decode prog_4_method_1_code 9 = .ok (.aload_n 0, 1) := by decide +kernel
theorem d1_10 : decode prog_4_method_1_code 10 = .ok (.aload_n 2, 1) := by decide +kernel
theorem d1_11 : decode prog_4_method_1_code 11 = .ok (.putfield 13, 3) := by decide +kernel
theorem d1_14 : decode prog_4_method_1_code 14 = .ok (.aload_n 0, 1) := by decide +kernel
theorem d1_15 : decode prog_4_method_1_code 15 = .ok (.lload_n 3, 1) := by decide +kernel
theorem d1_16 : decode prog_4_method_1_code 16 = .ok (.putfield 16, 3) := by decide +kernel
theorem d1_19 : decode prog_4_method_1_code 19 = .ok (.aload_n 0, 1) := by decide +kernel
theorem d1_20 : decode prog_4_method_1_code 20 = .ok (.aload 5, 2) := by decide +kernel
theorem d1_22 : decode prog_4_method_1_code 22 = .ok (.putfield 20, 3) := by decide +kernel
theorem d1_25 : decode prog_4_method_1_code 25 = .ok (.aload_n 0, 1) := by decide +kernel
theorem d1_26 : decode prog_4_method_1_code 26 = .ok (.aload 6, 2) := by decide +kernel
theorem d1_28 : decode prog_4_method_1_code 28 = .ok (.putfield 24, 3) := by decide +kernel
theorem d1_31 : decode prog_4_method_1_code 31 = .ok (.return_, 1) := by decide +kernel
theorem ef_1 (m : MethodId) (x0 : Addr) (x1 : Addr) (x2 : Addr) (x3 : Int64) (x4 : Addr) : entryFrame m #[(.ref x0), (.ref x1), (.ref x2), (.long x3), (.ref x4), .null] 7 = mkF m 0 #[.val (.ref x0), .val (.ref x1), .val (.ref x2), .val (.long x3), .second, .val (.ref x4), .val .null] [] := by first | (simp [entryFrame, mkF, argsToLocals, Value.category]; done) | rfl
def Q1 (Z : State) (aa0 : Addr) (aa1 : Addr) (aa2 : Addr) (qq3 : Int64) (aa4 : Addr) (u_name : Value) (u_stream : Value) (u_origin : Value) (u_report : Value) (u_ontology : Value) (h0 : Heap) (n0 : Nat) (v : Option Value) (h : Heap) (L : List Loc) : Prop := v = none ∧ Fr n0 L ∧ Keep h0 h [aa0] ∧ (Fld Z h aa0 "com/example/corrente/corrente/LandmarkWindow" "name" "Ljava/lang/String;" (.ref aa1)) ∧ (Fld Z h aa0 "com/example/corrente/corrente/LandmarkWindow" "stream" "Ljava/lang/String;" (.ref aa2)) ∧ (Fld Z h aa0 "com/example/corrente/corrente/LandmarkWindow" "origin" "J" (.long qq3)) ∧ (Fld Z h aa0 "com/example/corrente/corrente/LandmarkWindow" "report" "Lcom/example/corrente/corrente/ReportPolicy;" (.ref aa4)) ∧ (Fld Z h aa0 "com/example/corrente/corrente/LandmarkWindow" "ontology" "Ljava/lang/String;" .null)
set_option maxRecDepth 65536 in
set_option maxHeartbeats 40000000 in
theorem rm1 (l : Launch) (Z : State) (a0 : Array Value) (hw : ∀ d ∈ tables_1, d.before a0 Z = true) (ws : List Jvm.Cond) (aa0 : Addr) (aa1 : Addr) (aa2 : Addr) (qq3 : Int64) (aa4 : Addr) (u_name : Value) (u_stream : Value) (u_origin : Value) (u_report : Value) (u_ontology : Value) (h0 : Heap) (n0 : Nat) (Z0 : n0 ≤ h0.size) (E_aa0 : Exa Z h0 aa0 "com/example/corrente/corrente/LandmarkWindow") (g_aa0 : n0 ≤ aa0) (F_aa0_name : Fld Z h0 aa0 "com/example/corrente/corrente/LandmarkWindow" "name" "Ljava/lang/String;" u_name) (F_aa0_stream : Fld Z h0 aa0 "com/example/corrente/corrente/LandmarkWindow" "stream" "Ljava/lang/String;" u_stream) (F_aa0_origin : Fld Z h0 aa0 "com/example/corrente/corrente/LandmarkWindow" "origin" "J" u_origin) (F_aa0_report : Fld Z h0 aa0 "com/example/corrente/corrente/LandmarkWindow" "report" "Lcom/example/corrente/corrente/ReportPolicy;" u_report) (F_aa0_ontology : Fld Z h0 aa0 "com/example/corrente/corrente/LandmarkWindow" "ontology" "Ljava/lang/String;" u_ontology) :
    MetFree l (⟨"com/example/corrente/corrente/LandmarkWindow", "<init>", "(Ljava/lang/String;Ljava/lang/String;JLcom/example/corrente/corrente/ReportPolicy;Ljava/lang/String;)V"⟩ : MethodName) (head1 (Jvm.Cond.code (⟨"com/example/corrente/corrente/LandmarkWindow", "<init>", "(Ljava/lang/String;Ljava/lang/String;JLcom/example/corrente/corrente/ReportPolicy;Ljava/lang/String;)V"⟩ : MethodName) prog_4_method_1_code 7 none :: ws) ({ frames := 2, cells := 0, slots := 0, locals := 24 } : Room)) (fun a U => a = #[(.ref aa0), (.ref aa1), (.ref aa2), (.long qq3), (.ref aa4), .null] ∧ Z.Warmed39 U.vm ∧ U.heap = h0) (fun _ _ _ _ _ => True) (fun _ U o U' => ∃ v L, o = .returned v ∧ Q1 Z aa0 aa1 aa2 qq3 aa4 u_name u_stream u_origin u_report u_ontology h0 n0 v U'.heap L ∧ FrameEnd U o U' L ({ frames := 2, cells := 0, slots := 0, locals := 24 } : Room).cells ({ frames := 2, cells := 0, slots := 0, locals := 24 } : Room).slots) := by
  refine MetFree.of_bodySF (plainFor_of_name pn_com_example_corrente_corrente_LandmarkWindow) hisR ?_
  intro p e s m args below meth c s₁ Bd hml0 hP hK
  obtain ⟨rfl, hZ, hh⟩ := hP
  have hx := Bd.exec
  have hby := Bd.bytes
  have hml : c.maxLocals = 7 := hml0
  have hown : s.vm.findClass "com/example/corrente/corrente/LandmarkWindow" = some m.cls := findClass_of_methodNamed Bd.named
  have hnm := (name_of_methodNamed Bd.named Bd.method).1
  have X0 : Stand p l e ({ frames := 2, cells := 0, slots := 0, locals := 24 } : Room) s m #[(.ref aa0), (.ref aa1), (.ref aa2), (.long qq3), (.ref aa4), .null] below meth c s₁ [] 0 0 := Stand.of_body Bd
  have e0 : s₁.heap = h0 := by rw [← hh, Bd.state]; rfl
  have N0 := Fr.nil n0
  have pre0 : ∀ t, Steps p.tables e below (s₁.setTop (mkF m 0 #[.val (.ref aa0), .val (.ref aa1), .val (.ref aa2), .val (.long qq3), .second, .val (.ref aa4), .val .null] [])) t → Steps p.tables e below (s₁.setTop (entryFrame m #[(.ref aa0), (.ref aa1), (.ref aa2), (.long qq3), (.ref aa4), .null] 7)) t := fun t k => castTop (ef_1 m aa0 aa1 aa2 qq3 aa4) k
  obtain ⟨_, _, ⟨T1, L1, k1, n1⟩, -, X1, ⟨Lc1, hQ1, l1, y1, z1⟩, st1⟩ := X0.specialBack hx (y := (⟨"java/lang/Record", "<init>", "()V"⟩ : MethodName)) rfl hown (mvT hZ (hw _ (List.mem_of_getElem? (i := 20) rfl))) (mvT hZ (hw _ (List.mem_of_getElem? (i := 21) rfl))) (mvT hZ (hw _ (List.mem_of_getElem? (i := 24) rfl))) (by decide) (backOf (W := 0) (rm2 l Z a0 hw [] aa0 h0 n0 Z0 ) hZ (hw _ (List.mem_of_getElem? (i := 24) rfl)) (hw _ (List.mem_of_getElem? (i := 23) rfl)) (by decide) (by decide)) (g := (mkF m 1 #[.val (.ref aa0), .val (.ref aa1), .val (.ref aa2), .val (.long qq3), .second, .val (.ref aa4), .val .null] [(.ref aa0)])) rfl (by rw [hml]; rfl) (Steps.refl _) (a := aa0) (argsL := []) (rest := []) (lenOf pd__28__29_V rfl) rfl (by show 2 * 0 + _ ≤ _; exact Nat.le_of_eq rfl) (hb hby d1_1) (fun _ _ => ⟨rfl, e0, (by decide : 0 + 0 ≤ _), (by decide : 0 + 0 ≤ _)⟩)
  dsimp only [Pt.U, Pt.locs, Pt.cells, Pt.slots] at X1 l1 y1 z1 st1 hQ1
  subst l1 y1 z1
  obtain ⟨rfl, N1q, e1⟩ := hQ1
  have N1 := Fr.app N0 N1q
  obtain ⟨T2, h2, X2, e2, W2, st2⟩ := putF X1 hx hZ hown (host := "") (Or.inl (hw _ (List.mem_of_getElem? (i := 28) rfl))) Via.refl e1 F_aa0_name E_aa0 (Or.inr ⟨(hw _ (List.mem_of_getElem? (i := 29) rfl)), rfl, hnm⟩) (hw _ (List.mem_of_getElem? (i := 3) rfl)) (ty := (.object "java/lang/String")) (by decide) rfl rfl (g := (mkF m 6 #[.val (.ref aa0), .val (.ref aa1), .val (.ref aa2), .val (.long qq3), .second, .val (.ref aa4), .val .null] [(.ref aa1), (.ref aa0)])) rfl rfl (hb hby d1_6)
  have N2 := Fr.snoc X2 N1 g_aa0
  have Z2 : n0 ≤ h2.size := Nat.le_trans Z0 (Keep.of_wr W2).1
  have K2 : Keep h0 h2 [aa0] := (Keep.refl h0 [aa0]).wr W2 (Or.inl (List.mem_of_getElem? (i := 0) rfl))
  have F2 : Fld Z h2 aa0 "com/example/corrente/corrente/LandmarkWindow" "name" "Ljava/lang/String;" (.ref aa1) := F_aa0_name.same W2
  have E_3 : Exa Z h2 aa0 "com/example/corrente/corrente/LandmarkWindow" := (E_aa0.wr W2)
  have F_4 : Fld Z h2 aa0 "com/example/corrente/corrente/LandmarkWindow" "stream" "Ljava/lang/String;" u_stream := (F_aa0_stream.other W2 (Or.inr (slot_ne (Or.inr (hw _ (List.mem_of_getElem? (i := 31) rfl))) (Or.inr (hw _ (List.mem_of_getElem? (i := 29) rfl))) (by decide) (t := (.object "java/lang/String")) (t' := (.object "java/lang/String")) (by decide) (by decide))))
  obtain ⟨T5, h5, X5, e5, W5, st5⟩ := putF X2 hx hZ hown (host := "") (Or.inl (hw _ (List.mem_of_getElem? (i := 30) rfl))) Via.refl e2 F_4 E_3 (Or.inr ⟨(hw _ (List.mem_of_getElem? (i := 31) rfl)), rfl, hnm⟩) (hw _ (List.mem_of_getElem? (i := 3) rfl)) (ty := (.object "java/lang/String")) (by decide) rfl rfl (g := (mkF m 11 #[.val (.ref aa0), .val (.ref aa1), .val (.ref aa2), .val (.long qq3), .second, .val (.ref aa4), .val .null] [(.ref aa2), (.ref aa0)])) rfl rfl (hb hby d1_11)
  have N5 := Fr.snoc X5 N2 g_aa0
  have Z5 : n0 ≤ h5.size := Nat.le_trans Z2 (Keep.of_wr W5).1
  have K5 : Keep h0 h5 [aa0] := K2.wr W5 (Or.inl (List.mem_of_getElem? (i := 0) rfl))
  have F5 : Fld Z h5 aa0 "com/example/corrente/corrente/LandmarkWindow" "stream" "Ljava/lang/String;" (.ref aa2) := F_4.same W5
  have E_6 : Exa Z h5 aa0 "com/example/corrente/corrente/LandmarkWindow" := (E_3.wr W5)
  have F_7 : Fld Z h5 aa0 "com/example/corrente/corrente/LandmarkWindow" "origin" "J" u_origin := ((F_aa0_origin.other W2 (Or.inr (slot_ne (Or.inr (hw _ (List.mem_of_getElem? (i := 33) rfl))) (Or.inr (hw _ (List.mem_of_getElem? (i := 29) rfl))) (by decide) (t := .long) (t' := (.object "java/lang/String")) (by decide) (by decide)))).other W5 (Or.inr (slot_ne (Or.inr (hw _ (List.mem_of_getElem? (i := 33) rfl))) (Or.inr (hw _ (List.mem_of_getElem? (i := 31) rfl))) (by decide) (t := .long) (t' := (.object "java/lang/String")) (by decide) (by decide))))
  obtain ⟨T8, h8, X8, e8, W8, st8⟩ := putF X5 hx hZ hown (host := "") (Or.inl (hw _ (List.mem_of_getElem? (i := 32) rfl))) Via.refl e5 F_7 E_6 (Or.inr ⟨(hw _ (List.mem_of_getElem? (i := 33) rfl)), rfl, hnm⟩) (hw _ (List.mem_of_getElem? (i := 3) rfl)) (ty := .long) (by decide) rfl rfl (g := (mkF m 16 #[.val (.ref aa0), .val (.ref aa1), .val (.ref aa2), .val (.long qq3), .second, .val (.ref aa4), .val .null] [(.long qq3), (.ref aa0)])) rfl rfl (hb hby d1_16)
  have N8 := Fr.snoc X8 N5 g_aa0
  have Z8 : n0 ≤ h8.size := Nat.le_trans Z5 (Keep.of_wr W8).1
  have K8 : Keep h0 h8 [aa0] := K5.wr W8 (Or.inl (List.mem_of_getElem? (i := 0) rfl))
  have F8 : Fld Z h8 aa0 "com/example/corrente/corrente/LandmarkWindow" "origin" "J" (.long qq3) := F_7.same W8
  have E_9 : Exa Z h8 aa0 "com/example/corrente/corrente/LandmarkWindow" := (E_6.wr W8)
  have F_10 : Fld Z h8 aa0 "com/example/corrente/corrente/LandmarkWindow" "report" "Lcom/example/corrente/corrente/ReportPolicy;" u_report := (((F_aa0_report.other W2 (Or.inr (slot_ne (Or.inr (hw _ (List.mem_of_getElem? (i := 35) rfl))) (Or.inr (hw _ (List.mem_of_getElem? (i := 29) rfl))) (by decide) (t := (.object "com/example/corrente/corrente/ReportPolicy")) (t' := (.object "java/lang/String")) (by decide) (by decide)))).other W5 (Or.inr (slot_ne (Or.inr (hw _ (List.mem_of_getElem? (i := 35) rfl))) (Or.inr (hw _ (List.mem_of_getElem? (i := 31) rfl))) (by decide) (t := (.object "com/example/corrente/corrente/ReportPolicy")) (t' := (.object "java/lang/String")) (by decide) (by decide)))).other W8 (Or.inr (slot_ne (Or.inr (hw _ (List.mem_of_getElem? (i := 35) rfl))) (Or.inr (hw _ (List.mem_of_getElem? (i := 33) rfl))) (by decide) (t := (.object "com/example/corrente/corrente/ReportPolicy")) (t' := .long) (by decide) (by decide))))
  obtain ⟨T11, h11, X11, e11, W11, st11⟩ := putF X8 hx hZ hown (host := "") (Or.inl (hw _ (List.mem_of_getElem? (i := 34) rfl))) Via.refl e8 F_10 E_9 (Or.inr ⟨(hw _ (List.mem_of_getElem? (i := 35) rfl)), rfl, hnm⟩) (hw _ (List.mem_of_getElem? (i := 3) rfl)) (ty := (.object "com/example/corrente/corrente/ReportPolicy")) (by decide) rfl rfl (g := (mkF m 22 #[.val (.ref aa0), .val (.ref aa1), .val (.ref aa2), .val (.long qq3), .second, .val (.ref aa4), .val .null] [(.ref aa4), (.ref aa0)])) rfl rfl (hb hby d1_22)
  have N11 := Fr.snoc X11 N8 g_aa0
  have Z11 : n0 ≤ h11.size := Nat.le_trans Z8 (Keep.of_wr W11).1
  have K11 : Keep h0 h11 [aa0] := K8.wr W11 (Or.inl (List.mem_of_getElem? (i := 0) rfl))
  have F11 : Fld Z h11 aa0 "com/example/corrente/corrente/LandmarkWindow" "report" "Lcom/example/corrente/corrente/ReportPolicy;" (.ref aa4) := F_10.same W11
  have E_12 : Exa Z h11 aa0 "com/example/corrente/corrente/LandmarkWindow" := (E_9.wr W11)
  have F_13 : Fld Z h11 aa0 "com/example/corrente/corrente/LandmarkWindow" "ontology" "Ljava/lang/String;" u_ontology := ((((F_aa0_ontology.other W2 (Or.inr (slot_ne (Or.inr (hw _ (List.mem_of_getElem? (i := 37) rfl))) (Or.inr (hw _ (List.mem_of_getElem? (i := 29) rfl))) (by decide) (t := (.object "java/lang/String")) (t' := (.object "java/lang/String")) (by decide) (by decide)))).other W5 (Or.inr (slot_ne (Or.inr (hw _ (List.mem_of_getElem? (i := 37) rfl))) (Or.inr (hw _ (List.mem_of_getElem? (i := 31) rfl))) (by decide) (t := (.object "java/lang/String")) (t' := (.object "java/lang/String")) (by decide) (by decide)))).other W8 (Or.inr (slot_ne (Or.inr (hw _ (List.mem_of_getElem? (i := 37) rfl))) (Or.inr (hw _ (List.mem_of_getElem? (i := 33) rfl))) (by decide) (t := (.object "java/lang/String")) (t' := .long) (by decide) (by decide)))).other W11 (Or.inr (slot_ne (Or.inr (hw _ (List.mem_of_getElem? (i := 37) rfl))) (Or.inr (hw _ (List.mem_of_getElem? (i := 35) rfl))) (by decide) (t := (.object "java/lang/String")) (t' := (.object "com/example/corrente/corrente/ReportPolicy")) (by decide) (by decide))))
  obtain ⟨T14, h14, X14, e14, W14, st14⟩ := putF X11 hx hZ hown (host := "") (Or.inl (hw _ (List.mem_of_getElem? (i := 36) rfl))) Via.refl e11 F_13 E_12 (Or.inr ⟨(hw _ (List.mem_of_getElem? (i := 37) rfl)), rfl, hnm⟩) (hw _ (List.mem_of_getElem? (i := 3) rfl)) (ty := (.object "java/lang/String")) (by decide) rfl rfl (g := (mkF m 28 #[.val (.ref aa0), .val (.ref aa1), .val (.ref aa2), .val (.long qq3), .second, .val (.ref aa4), .val .null] [.null, (.ref aa0)])) rfl rfl (hb hby d1_28)
  have N14 := Fr.snoc X14 N11 g_aa0
  have Z14 : n0 ≤ h14.size := Nat.le_trans Z11 (Keep.of_wr W14).1
  have K14 : Keep h0 h14 [aa0] := K11.wr W14 (Or.inl (List.mem_of_getElem? (i := 0) rfl))
  have F14 : Fld Z h14 aa0 "com/example/corrente/corrente/LandmarkWindow" "ontology" "Ljava/lang/String;" .null := F_13.same W14
  have F_15 : Fld Z h14 aa0 "com/example/corrente/corrente/LandmarkWindow" "name" "Ljava/lang/String;" (.ref aa1) := ((((F2.other W5 (Or.inr (slot_ne (Or.inr (hw _ (List.mem_of_getElem? (i := 29) rfl))) (Or.inr (hw _ (List.mem_of_getElem? (i := 31) rfl))) (by decide) (t := (.object "java/lang/String")) (t' := (.object "java/lang/String")) (by decide) (by decide)))).other W8 (Or.inr (slot_ne (Or.inr (hw _ (List.mem_of_getElem? (i := 29) rfl))) (Or.inr (hw _ (List.mem_of_getElem? (i := 33) rfl))) (by decide) (t := (.object "java/lang/String")) (t' := .long) (by decide) (by decide)))).other W11 (Or.inr (slot_ne (Or.inr (hw _ (List.mem_of_getElem? (i := 29) rfl))) (Or.inr (hw _ (List.mem_of_getElem? (i := 35) rfl))) (by decide) (t := (.object "java/lang/String")) (t' := (.object "com/example/corrente/corrente/ReportPolicy")) (by decide) (by decide)))).other W14 (Or.inr (slot_ne (Or.inr (hw _ (List.mem_of_getElem? (i := 29) rfl))) (Or.inr (hw _ (List.mem_of_getElem? (i := 37) rfl))) (by decide) (t := (.object "java/lang/String")) (t' := (.object "java/lang/String")) (by decide) (by decide))))
  have F_16 : Fld Z h14 aa0 "com/example/corrente/corrente/LandmarkWindow" "stream" "Ljava/lang/String;" (.ref aa2) := (((F5.other W8 (Or.inr (slot_ne (Or.inr (hw _ (List.mem_of_getElem? (i := 31) rfl))) (Or.inr (hw _ (List.mem_of_getElem? (i := 33) rfl))) (by decide) (t := (.object "java/lang/String")) (t' := .long) (by decide) (by decide)))).other W11 (Or.inr (slot_ne (Or.inr (hw _ (List.mem_of_getElem? (i := 31) rfl))) (Or.inr (hw _ (List.mem_of_getElem? (i := 35) rfl))) (by decide) (t := (.object "java/lang/String")) (t' := (.object "com/example/corrente/corrente/ReportPolicy")) (by decide) (by decide)))).other W14 (Or.inr (slot_ne (Or.inr (hw _ (List.mem_of_getElem? (i := 31) rfl))) (Or.inr (hw _ (List.mem_of_getElem? (i := 37) rfl))) (by decide) (t := (.object "java/lang/String")) (t' := (.object "java/lang/String")) (by decide) (by decide))))
  have F_17 : Fld Z h14 aa0 "com/example/corrente/corrente/LandmarkWindow" "origin" "J" (.long qq3) := ((F8.other W11 (Or.inr (slot_ne (Or.inr (hw _ (List.mem_of_getElem? (i := 33) rfl))) (Or.inr (hw _ (List.mem_of_getElem? (i := 35) rfl))) (by decide) (t := .long) (t' := (.object "com/example/corrente/corrente/ReportPolicy")) (by decide) (by decide)))).other W14 (Or.inr (slot_ne (Or.inr (hw _ (List.mem_of_getElem? (i := 33) rfl))) (Or.inr (hw _ (List.mem_of_getElem? (i := 37) rfl))) (by decide) (t := .long) (t' := (.object "java/lang/String")) (by decide) (by decide))))
  have F_18 : Fld Z h14 aa0 "com/example/corrente/corrente/LandmarkWindow" "report" "Lcom/example/corrente/corrente/ReportPolicy;" (.ref aa4) := (F11.other W14 (Or.inr (slot_ne (Or.inr (hw _ (List.mem_of_getElem? (i := 35) rfl))) (Or.inr (hw _ (List.mem_of_getElem? (i := 37) rfl))) (by decide) (t := (.object "com/example/corrente/corrente/ReportPolicy")) (t' := (.object "java/lang/String")) (by decide) (by decide))))
  obtain ⟨fs, hr, hrun, hended, hW, hsame⟩ := X14.leave (v := none) (fun _ => rfl)
  refine ⟨_, _, pre0 _ ?_, hrun, hended, _, _, rfl, ?_, ⟨_, rfl⟩, hW, hsame.mono (by decide) (by decide)⟩
  · show Steps p.tables e below (s₁.setTop (mkF m 0 #[.val (.ref aa0), .val (.ref aa1), .val (.ref aa2), .val (.long qq3), .second, .val (.ref aa4), .val .null] [])) _
    refine XS.aloadN X0.here hx rfl (hb hby d1_0) rfl rfl ?_
    show Steps p.tables e below (s₁.setTop (mkF m 1 #[.val (.ref aa0), .val (.ref aa1), .val (.ref aa2), .val (.long qq3), .second, .val (.ref aa4), .val .null] [(.ref aa0)])) _
    refine st1.trans ?_
    show Steps p.tables e below (T1.setTop (mkF m 4 #[.val (.ref aa0), .val (.ref aa1), .val (.ref aa2), .val (.long qq3), .second, .val (.ref aa4), .val .null] [])) _
    refine XS.aloadN X1.here hx rfl (hb hby d1_4) rfl rfl ?_
    show Steps p.tables e below (T1.setTop (mkF m 5 #[.val (.ref aa0), .val (.ref aa1), .val (.ref aa2), .val (.long qq3), .second, .val (.ref aa4), .val .null] [(.ref aa0)])) _
    refine XS.aloadN X1.here hx rfl (hb hby d1_5) rfl rfl ?_
    show Steps p.tables e below (T1.setTop (mkF m 6 #[.val (.ref aa0), .val (.ref aa1), .val (.ref aa2), .val (.long qq3), .second, .val (.ref aa4), .val .null] [(.ref aa1), (.ref aa0)])) _
    refine st2 _ ?_
    show Steps p.tables e below (T2.setTop (mkF m 9 #[.val (.ref aa0), .val (.ref aa1), .val (.ref aa2), .val (.long qq3), .second, .val (.ref aa4), .val .null] [])) _
    refine XS.aloadN X2.here hx rfl (hb hby d1_9) rfl rfl ?_
    show Steps p.tables e below (T2.setTop (mkF m 10 #[.val (.ref aa0), .val (.ref aa1), .val (.ref aa2), .val (.long qq3), .second, .val (.ref aa4), .val .null] [(.ref aa0)])) _
    refine XS.aloadN X2.here hx rfl (hb hby d1_10) rfl rfl ?_
    show Steps p.tables e below (T2.setTop (mkF m 11 #[.val (.ref aa0), .val (.ref aa1), .val (.ref aa2), .val (.long qq3), .second, .val (.ref aa4), .val .null] [(.ref aa2), (.ref aa0)])) _
    refine st5 _ ?_
    show Steps p.tables e below (T5.setTop (mkF m 14 #[.val (.ref aa0), .val (.ref aa1), .val (.ref aa2), .val (.long qq3), .second, .val (.ref aa4), .val .null] [])) _
    refine XS.aloadN X5.here hx rfl (hb hby d1_14) rfl rfl ?_
    show Steps p.tables e below (T5.setTop (mkF m 15 #[.val (.ref aa0), .val (.ref aa1), .val (.ref aa2), .val (.long qq3), .second, .val (.ref aa4), .val .null] [(.ref aa0)])) _
    refine XS.lloadN X5.here hx rfl (hb hby d1_15) rfl ?_
    show Steps p.tables e below (T5.setTop (mkF m 16 #[.val (.ref aa0), .val (.ref aa1), .val (.ref aa2), .val (.long qq3), .second, .val (.ref aa4), .val .null] [(.long qq3), (.ref aa0)])) _
    refine st8 _ ?_
    show Steps p.tables e below (T8.setTop (mkF m 19 #[.val (.ref aa0), .val (.ref aa1), .val (.ref aa2), .val (.long qq3), .second, .val (.ref aa4), .val .null] [])) _
    refine XS.aloadN X8.here hx rfl (hb hby d1_19) rfl rfl ?_
    show Steps p.tables e below (T8.setTop (mkF m 20 #[.val (.ref aa0), .val (.ref aa1), .val (.ref aa2), .val (.long qq3), .second, .val (.ref aa4), .val .null] [(.ref aa0)])) _
    refine XS.aload X8.here hx rfl (hb hby d1_20) rfl rfl ?_
    show Steps p.tables e below (T8.setTop (mkF m 22 #[.val (.ref aa0), .val (.ref aa1), .val (.ref aa2), .val (.long qq3), .second, .val (.ref aa4), .val .null] [(.ref aa4), (.ref aa0)])) _
    refine st11 _ ?_
    show Steps p.tables e below (T11.setTop (mkF m 25 #[.val (.ref aa0), .val (.ref aa1), .val (.ref aa2), .val (.long qq3), .second, .val (.ref aa4), .val .null] [])) _
    refine XS.aloadN X11.here hx rfl (hb hby d1_25) rfl rfl ?_
    show Steps p.tables e below (T11.setTop (mkF m 26 #[.val (.ref aa0), .val (.ref aa1), .val (.ref aa2), .val (.long qq3), .second, .val (.ref aa4), .val .null] [(.ref aa0)])) _
    refine XS.aload X11.here hx rfl (hb hby d1_26) rfl rfl ?_
    show Steps p.tables e below (T11.setTop (mkF m 28 #[.val (.ref aa0), .val (.ref aa1), .val (.ref aa2), .val (.long qq3), .second, .val (.ref aa4), .val .null] [.null, (.ref aa0)])) _
    refine st14 _ ?_
    show Steps p.tables e below (T14.setTop (mkF m 31 #[.val (.ref aa0), .val (.ref aa1), .val (.ref aa2), .val (.long qq3), .second, .val (.ref aa4), .val .null] [])) _
    exact X14.returnOut hx Bd.returns (hb hby d1_31) hr
  · show Q1 Z aa0 aa1 aa2 qq3 aa4 u_name u_stream u_origin u_report u_ontology h0 n0 _ T14.heap _
    rw [e14]
    exact ⟨rfl, N14, K14, F_15, F_16, F_17, F_18, F14⟩
theorem d4_0 : decode prog_4_method_2_code 0 = .ok (.lload_n 1, 1) := by decide +kernel
theorem d4_1 : decode prog_4_method_2_code 1 = .ok (.aload_n 0, 1) := by decide +kernel
theorem d4_2 : decode prog_4_method_2_code 2 = .ok (.getfield 16, 3) := by decide +kernel
theorem d4_5 : decode prog_4_method_2_code 5 = .ok (.lcmp, 1) := by decide +kernel
theorem d4_6 : decode prog_4_method_2_code 6 = .ok (.ifCond .le 7, 3) := by decide +kernel
theorem d4_9 : decode prog_4_method_2_code 9 = .ok (.iconst 1, 1) := by decide +kernel
theorem d4_10 : decode prog_4_method_2_code 10 = .ok (.goto 4, 3) := by decide +kernel
theorem d4_13 : decode prog_4_method_2_code 13 = .ok (.iconst 0, 1) := by decide +kernel
theorem d4_14 : decode prog_4_method_2_code 14 = .ok (.ireturn, 1) := by decide +kernel
theorem ef_4 (m : MethodId) (x0 : Addr) (x1 : Int64) : entryFrame m #[(.ref x0), (.long x1)] 3 = mkF m 0 #[.val (.ref x0), .val (.long x1), .second] [] := by first | (simp [entryFrame, mkF, argsToLocals, Value.category]; done) | rfl
def Q4 (Z : State) (aa0 : Addr) (qq1 : Int64) (wo : Int64) (h0 : Heap) (n0 : Nat) (v : Option Value) (h : Heap) (L : List Loc) : Prop := v = some (.int (own_gt qq1 wo)) ∧ Fr n0 L ∧ h = h0
set_option maxRecDepth 65536 in
set_option maxHeartbeats 40000000 in
theorem rm4 (l : Launch) (Z : State) (a0 : Array Value) (hw : ∀ d ∈ tables_1, d.before a0 Z = true) (ws : List Jvm.Cond) (aa0 : Addr) (qq1 : Int64) (wo : Int64) (h0 : Heap) (n0 : Nat) (Z0 : n0 ≤ h0.size) (F_aa0_origin : Fld Z h0 aa0 "com/example/corrente/corrente/LandmarkWindow" "origin" "J" (.long wo)) :
    MetFree l (⟨"com/example/corrente/corrente/LandmarkWindow", "holds", "(J)Z"⟩ : MethodName) (head1 (Jvm.Cond.code (⟨"com/example/corrente/corrente/LandmarkWindow", "holds", "(J)Z"⟩ : MethodName) prog_4_method_2_code 3 (some .boolean) :: ws) ({ frames := 0, cells := 0, slots := 0, locals := 0 } : Room)) (fun a U => a = #[(.ref aa0), (.long qq1)] ∧ Z.Warmed39 U.vm ∧ U.heap = h0) (fun _ _ _ _ _ => True) (fun _ U o U' => ∃ v L, o = .returned v ∧ Q4 Z aa0 qq1 wo h0 n0 v U'.heap L ∧ FrameEnd U o U' L ({ frames := 0, cells := 0, slots := 0, locals := 0 } : Room).cells ({ frames := 0, cells := 0, slots := 0, locals := 0 } : Room).slots) := by
  refine MetFree.of_bodySF (plainFor_of_name pn_com_example_corrente_corrente_LandmarkWindow) hisR ?_
  intro p e s m args below meth c s₁ Bd hml0 hP hK
  obtain ⟨rfl, hZ, hh⟩ := hP
  have hx := Bd.exec
  have hby := Bd.bytes
  have hml : c.maxLocals = 3 := hml0
  have hown : s.vm.findClass "com/example/corrente/corrente/LandmarkWindow" = some m.cls := findClass_of_methodNamed Bd.named
  have hnm := (name_of_methodNamed Bd.named Bd.method).1
  have X0 : Stand p l e ({ frames := 0, cells := 0, slots := 0, locals := 0 } : Room) s m #[(.ref aa0), (.long qq1)] below meth c s₁ [] 0 0 := Stand.of_body Bd
  have e0 : s₁.heap = h0 := by rw [← hh, Bd.state]; rfl
  have N0 := Fr.nil n0
  have pre0 : ∀ t, Steps p.tables e below (s₁.setTop (mkF m 0 #[.val (.ref aa0), .val (.long qq1), .second] [])) t → Steps p.tables e below (s₁.setTop (entryFrame m #[(.ref aa0), (.long qq1)] 3)) t := fun t k => castTop (ef_4 m aa0 qq1) k
  obtain ⟨T1, X1, e1, st1⟩ := getF X0 hx hZ hown (host := "") (Or.inl (hw _ (List.mem_of_getElem? (i := 32) rfl))) Via.refl e0 F_aa0_origin (g := (mkF m 2 #[.val (.ref aa0), .val (.long qq1), .second] [(.ref aa0), (.long qq1)])) rfl rfl (hb hby d4_2)
  have pre2 : ∀ t, Steps p.tables e below (T1.setTop (mkF m 6 #[.val (.ref aa0), .val (.long qq1), .second] [(.int (lcmpW qq1 wo))])) t → Steps p.tables e below (s₁.setTop (entryFrame m #[(.ref aa0), (.long qq1)] 3)) t := fun t kt => pre0 t (by
    show Steps p.tables e below (s₁.setTop (mkF m 0 #[.val (.ref aa0), .val (.long qq1), .second] [])) _
    refine XS.lloadN X0.here hx rfl (hb hby d4_0) rfl ?_
    show Steps p.tables e below (s₁.setTop (mkF m 1 #[.val (.ref aa0), .val (.long qq1), .second] [(.long qq1)])) _
    refine XS.aloadN X0.here hx rfl (hb hby d4_1) rfl rfl ?_
    show Steps p.tables e below (s₁.setTop (mkF m 2 #[.val (.ref aa0), .val (.long qq1), .second] [(.ref aa0), (.long qq1)])) _
    refine st1 _ ?_
    show Steps p.tables e below (T1.setTop (mkF m 5 #[.val (.ref aa0), .val (.long qq1), .second] [(.long wo), (.long qq1)])) _
    refine XS.lcmp X1.here hx rfl (hb hby d4_5) rfl ?_
    exact kt)
  by_cases hc6 : wo < qq1
  · skip
    obtain ⟨fs, hr, hrun, hended, hW, hsame⟩ := X1.leave (v := some (.int (1 : Int32))) (fun h => by rw [Bd.returns] at h; cases h)
    refine ⟨_, _, pre2 _ ?_, hrun, hended, _, _, rfl, ?_, ⟨_, rfl⟩, hW, hsame.mono (by decide) (by decide)⟩
    · show Steps p.tables e below (T1.setTop (mkF m 6 #[.val (.ref aa0), .val (.long qq1), .second] [(.int (lcmpW qq1 wo))])) _
      refine XS.ifNo X1.here hx rfl (hb hby d4_6) rfl ((if0 _ _).trans (tlt ((lw_gt _ _).mpr hc6)).2.2.2) ?_
      show Steps p.tables e below (T1.setTop (mkF m 9 #[.val (.ref aa0), .val (.long qq1), .second] [])) _
      refine XS.iconst X1.here hx rfl (hb hby d4_9) ?_
      show Steps p.tables e below (T1.setTop (mkF m 10 #[.val (.ref aa0), .val (.long qq1), .second] [(.int (1 : Int32))])) _
      refine XS.goto X1.here hx rfl (pc0 := 10) (pc' := 14) rfl (hb hby d4_10) (by decide) (by decide) ?_
      show Steps p.tables e below (T1.setTop (mkF m 14 #[.val (.ref aa0), .val (.long qq1), .second] [(.int (1 : Int32))])) _
      exact retN X1 hx (t := .boolean) Bd.returns (by simp) (hb hby d4_14) hr
    · show Q4 Z aa0 qq1 wo h0 n0 _ T1.heap _
      rw [e1]
      exact ⟨(by unfold own_gt; first | rw [if_pos hc6] | rw [if_neg hc6]), N0, rfl⟩
  · skip
    obtain ⟨fs, hr, hrun, hended, hW, hsame⟩ := X1.leave (v := some (.int (0 : Int32))) (fun h => by rw [Bd.returns] at h; cases h)
    refine ⟨_, _, pre2 _ ?_, hrun, hended, _, _, rfl, ?_, ⟨_, rfl⟩, hW, hsame.mono (by decide) (by decide)⟩
    · show Steps p.tables e below (T1.setTop (mkF m 6 #[.val (.ref aa0), .val (.long qq1), .second] [(.int (lcmpW qq1 wo))])) _
      refine XS.ifYes X1.here hx rfl (pc0 := 6) (pc' := 13) rfl (hb hby d4_6) rfl ((if0 _ _).trans (flt (mt (lw_gt _ _).mp hc6)).2.2.2) (by decide) (by decide) ?_
      show Steps p.tables e below (T1.setTop (mkF m 13 #[.val (.ref aa0), .val (.long qq1), .second] [])) _
      refine XS.iconst X1.here hx rfl (hb hby d4_13) ?_
      show Steps p.tables e below (T1.setTop (mkF m 14 #[.val (.ref aa0), .val (.long qq1), .second] [(.int (0 : Int32))])) _
      exact retN X1 hx (t := .boolean) Bd.returns (by simp) (hb hby d4_14) hr
    · show Q4 Z aa0 qq1 wo h0 n0 _ T1.heap _
      rw [e1]
      exact ⟨(by unfold own_gt; first | rw [if_pos hc6] | rw [if_neg hc6]), N0, rfl⟩
theorem own_str_in : ∀ w ∈ Bundle.stringAtoms, w ∈ tables_1 := by decide +kernel
theorem pd__28_Ljava_2f_lang_2f_String_3b_Ljava_2f_lang_2f_String_3b_JLcom_2f_example_2f_corrente_2f_corrente_2f_ReportPolicy_3b_Ljava_2f_lang_2f_String_3b__29_V : parseMethodDescriptor "(Ljava/lang/String;Ljava/lang/String;JLcom/example/corrente/corrente/ReportPolicy;Ljava/lang/String;)V" = some ⟨[(.object "java/lang/String"), (.object "java/lang/String"), .long, (.object "com/example/corrente/corrente/ReportPolicy"), (.object "java/lang/String")], none⟩ := by decide +kernel
theorem pd__28_J_29_Z : parseMethodDescriptor "(J)Z" = some ⟨[.long], some .boolean⟩ := by decide +kernel
theorem pn_com_example_corrente_corrente_LandmarkWindowHoldsPinLaw : plainName "com/example/corrente/corrente/LandmarkWindowHoldsPinLaw" = true := by first | (simp [plainName, overriddenIn]; done) | decide +kernel
theorem ef_0 (m : MethodId) (x0 : Int64) (x1 : Int64) (x2 : Int64) : entryFrame m #[(.long x0), (.long x1), (.long x2)] maxLocals = mkF m 0 #[.val (.long x0), .second, .val (.long x1), .second, .val (.long x2), .second, .unset, .unset, .unset, .unset, .unset, .unset, .unset, .unset, .unset, .unset, .unset, .unset, .unset, .unset, .unset] [] := by first | (simp [entryFrame, mkF, argsToLocals, Value.category, maxLocals]; done) | rfl
def Q0 (Z : State) (qq1 : Int64) (qq2 : Int64) (qq3 : Int64) (dd : Addr) (h0 : Heap) (n0 : Nat) (v : Option Value) (h : Heap) (L : List Loc) : Prop := v = some (.int 1) ∧ Fr n0 L
set_option maxRecDepth 65536 in
set_option maxHeartbeats 40000000 in
theorem rm0 (l : Launch) (Z : State) (a0 : Array Value) (hw : ∀ d ∈ tables_1, d.before a0 Z = true) (ws : List Jvm.Cond) (qq1 : Int64) (qq2 : Int64) (qq3 : Int64) (dd : Addr) (h0 : Heap) (n0 : Nat) (Z0 : n0 ≤ h0.size) (O0 : Old Z n0 h0) (S_DEFAULT : Sta Z Z.heap "com/example/corrente/corrente/ReportPolicy" "DEFAULT" "Lcom/example/corrente/corrente/ReportPolicy;" (.ref dd)) :
    MetFree l x (head1 (Jvm.Cond.code x code maxLocals ret :: ws) room_1) (fun a U => a = #[(.long qq1), (.long qq2), (.long qq3)] ∧ Z.Warmed39 U.vm ∧ U.heap = h0) (fun _ _ _ _ _ => True) (fun _ U o U' => ∃ v L, o = .returned v ∧ Q0 Z qq1 qq2 qq3 dd h0 n0 v U'.heap L ∧ ReturnedEndW U o U' L room_1.cells room_1.slots) := by
  refine MetFree.of_bodySF (plainFor_of_name pn_com_example_corrente_corrente_LandmarkWindowHoldsPinLaw) hisR ?_
  intro p e s m args below meth c s₁ Bd hml0 hP hK
  obtain ⟨rfl, hZ, hh⟩ := hP
  have hx := Bd.exec
  have hby := Bd.bytes
  have hml : c.maxLocals = 21 := hml0
  have hown : s.vm.findClass "com/example/corrente/corrente/LandmarkWindowHoldsPinLaw" = some m.cls := findClass_of_methodNamed Bd.named
  have hnm := (name_of_methodNamed Bd.named Bd.method).1
  have X0 : Stand p l e room_1 s m #[(.long qq1), (.long qq2), (.long qq3)] below meth c s₁ [] 0 0 := Stand.of_body Bd
  have e0 : s₁.heap = h0 := by rw [← hh, Bd.state]; rfl
  have N0 := Fr.nil n0
  have pre0 : ∀ t, Steps p.tables e below (s₁.setTop (mkF m 0 #[.val (.long qq1), .second, .val (.long qq2), .second, .val (.long qq3), .second, .unset, .unset, .unset, .unset, .unset, .unset, .unset, .unset, .unset, .unset, .unset, .unset, .unset, .unset, .unset] [])) t → Steps p.tables e below (s₁.setTop (entryFrame m #[(.long qq1), (.long qq2), (.long qq3)] maxLocals)) t := fun t k => castTop (ef_0 m qq1 qq2 qq3) k
  have hS0 : s.Since s.vm h0.size := (State.WarmedH.refl s).since _
  have hc4 : (400000000000000 : Int64) ≠ (0 : Int64) := (by decide)
  have hc11 : (400000000000000 : Int64) ≠ (0 : Int64) := (by decide)
  have hc25 : (400000000000000 : Int64) ≠ (0 : Int64) := (by decide)
  have pre1 : ∀ t, Steps p.tables e below (s₁.setTop (mkF m 29 #[.val (.long qq1), .second, .val (.long qq2), .second, .val (.long qq3), .second, .val (.long (qq1 - (qq1 / (400000000000000 : Int64)) * (400000000000000 : Int64))), .second, .val (.long (qq2 - (qq2 / (400000000000000 : Int64)) * (400000000000000 : Int64))), .second, .val (.long ((qq2 - (qq2 / (400000000000000 : Int64)) * (400000000000000 : Int64)) + ((qq3 &&& (9223372036854775807 : Int64)) - ((qq3 &&& (9223372036854775807 : Int64)) / (400000000000000 : Int64)) * (400000000000000 : Int64)))), .second, .unset, .unset, .unset, .unset, .unset, .unset, .unset, .unset, .unset] [])) t → Steps p.tables e below (s₁.setTop (entryFrame m #[(.long qq1), (.long qq2), (.long qq3)] maxLocals)) t := fun t kt => pre0 t (by
    show Steps p.tables e below (s₁.setTop (mkF m 0 #[.val (.long qq1), .second, .val (.long qq2), .second, .val (.long qq3), .second, .unset, .unset, .unset, .unset, .unset, .unset, .unset, .unset, .unset, .unset, .unset, .unset, .unset, .unset, .unset] [])) _
    refine XS.lloadN X0.here hx rfl (hb hby at_0) rfl ?_
    show Steps p.tables e below (s₁.setTop (mkF m 1 #[.val (.long qq1), .second, .val (.long qq2), .second, .val (.long qq3), .second, .unset, .unset, .unset, .unset, .unset, .unset, .unset, .unset, .unset, .unset, .unset, .unset, .unset, .unset, .unset] [(.long qq1)])) _
    refine X0.ldc2Long hx hown (mvT hZ (hw _ (List.mem_of_getElem? (i := 0) rfl))) (g := (mkF m 1 #[.val (.long qq1), .second, .val (.long qq2), .second, .val (.long qq3), .second, .unset, .unset, .unset, .unset, .unset, .unset, .unset, .unset, .unset, .unset, .unset, .unset, .unset, .unset, .unset] [(.long qq1)])) rfl (hb hby at_1) _ ?_
    show Steps p.tables e below (s₁.setTop (mkF m 4 #[.val (.long qq1), .second, .val (.long qq2), .second, .val (.long qq3), .second, .unset, .unset, .unset, .unset, .unset, .unset, .unset, .unset, .unset, .unset, .unset, .unset, .unset, .unset, .unset] [(.long (400000000000000 : Int64)), (.long qq1)])) _
    refine XS.lrem X0.here hx rfl (hb hby at_4) rfl hc4 ?_
    show Steps p.tables e below (s₁.setTop (mkF m 5 #[.val (.long qq1), .second, .val (.long qq2), .second, .val (.long qq3), .second, .unset, .unset, .unset, .unset, .unset, .unset, .unset, .unset, .unset, .unset, .unset, .unset, .unset, .unset, .unset] [(.long (qq1 - (qq1 / (400000000000000 : Int64)) * (400000000000000 : Int64)))])) _
    refine XS.lstore X0.here hx rfl (hb hby at_5) rfl (l' := #[.val (.long qq1), .second, .val (.long qq2), .second, .val (.long qq3), .second, .val (.long (qq1 - (qq1 / (400000000000000 : Int64)) * (400000000000000 : Int64))), .second, .unset, .unset, .unset, .unset, .unset, .unset, .unset, .unset, .unset, .unset, .unset, .unset, .unset]) rfl ?_
    show Steps p.tables e below (s₁.setTop (mkF m 7 #[.val (.long qq1), .second, .val (.long qq2), .second, .val (.long qq3), .second, .val (.long (qq1 - (qq1 / (400000000000000 : Int64)) * (400000000000000 : Int64))), .second, .unset, .unset, .unset, .unset, .unset, .unset, .unset, .unset, .unset, .unset, .unset, .unset, .unset] [])) _
    refine XS.lloadN X0.here hx rfl (hb hby at_7) rfl ?_
    show Steps p.tables e below (s₁.setTop (mkF m 8 #[.val (.long qq1), .second, .val (.long qq2), .second, .val (.long qq3), .second, .val (.long (qq1 - (qq1 / (400000000000000 : Int64)) * (400000000000000 : Int64))), .second, .unset, .unset, .unset, .unset, .unset, .unset, .unset, .unset, .unset, .unset, .unset, .unset, .unset] [(.long qq2)])) _
    refine X0.ldc2Long hx hown (mvT hZ (hw _ (List.mem_of_getElem? (i := 0) rfl))) (g := (mkF m 8 #[.val (.long qq1), .second, .val (.long qq2), .second, .val (.long qq3), .second, .val (.long (qq1 - (qq1 / (400000000000000 : Int64)) * (400000000000000 : Int64))), .second, .unset, .unset, .unset, .unset, .unset, .unset, .unset, .unset, .unset, .unset, .unset, .unset, .unset] [(.long qq2)])) rfl (hb hby at_8) _ ?_
    show Steps p.tables e below (s₁.setTop (mkF m 11 #[.val (.long qq1), .second, .val (.long qq2), .second, .val (.long qq3), .second, .val (.long (qq1 - (qq1 / (400000000000000 : Int64)) * (400000000000000 : Int64))), .second, .unset, .unset, .unset, .unset, .unset, .unset, .unset, .unset, .unset, .unset, .unset, .unset, .unset] [(.long (400000000000000 : Int64)), (.long qq2)])) _
    refine XS.lrem X0.here hx rfl (hb hby at_11) rfl hc11 ?_
    show Steps p.tables e below (s₁.setTop (mkF m 12 #[.val (.long qq1), .second, .val (.long qq2), .second, .val (.long qq3), .second, .val (.long (qq1 - (qq1 / (400000000000000 : Int64)) * (400000000000000 : Int64))), .second, .unset, .unset, .unset, .unset, .unset, .unset, .unset, .unset, .unset, .unset, .unset, .unset, .unset] [(.long (qq2 - (qq2 / (400000000000000 : Int64)) * (400000000000000 : Int64)))])) _
    refine XS.lstore X0.here hx rfl (hb hby at_12) rfl (l' := #[.val (.long qq1), .second, .val (.long qq2), .second, .val (.long qq3), .second, .val (.long (qq1 - (qq1 / (400000000000000 : Int64)) * (400000000000000 : Int64))), .second, .val (.long (qq2 - (qq2 / (400000000000000 : Int64)) * (400000000000000 : Int64))), .second, .unset, .unset, .unset, .unset, .unset, .unset, .unset, .unset, .unset, .unset, .unset]) rfl ?_
    show Steps p.tables e below (s₁.setTop (mkF m 14 #[.val (.long qq1), .second, .val (.long qq2), .second, .val (.long qq3), .second, .val (.long (qq1 - (qq1 / (400000000000000 : Int64)) * (400000000000000 : Int64))), .second, .val (.long (qq2 - (qq2 / (400000000000000 : Int64)) * (400000000000000 : Int64))), .second, .unset, .unset, .unset, .unset, .unset, .unset, .unset, .unset, .unset, .unset, .unset] [])) _
    refine XS.lload X0.here hx rfl (hb hby at_14) rfl ?_
    show Steps p.tables e below (s₁.setTop (mkF m 16 #[.val (.long qq1), .second, .val (.long qq2), .second, .val (.long qq3), .second, .val (.long (qq1 - (qq1 / (400000000000000 : Int64)) * (400000000000000 : Int64))), .second, .val (.long (qq2 - (qq2 / (400000000000000 : Int64)) * (400000000000000 : Int64))), .second, .unset, .unset, .unset, .unset, .unset, .unset, .unset, .unset, .unset, .unset, .unset] [(.long (qq2 - (qq2 / (400000000000000 : Int64)) * (400000000000000 : Int64)))])) _
    refine XS.lload X0.here hx rfl (hb hby at_16) rfl ?_
    show Steps p.tables e below (s₁.setTop (mkF m 18 #[.val (.long qq1), .second, .val (.long qq2), .second, .val (.long qq3), .second, .val (.long (qq1 - (qq1 / (400000000000000 : Int64)) * (400000000000000 : Int64))), .second, .val (.long (qq2 - (qq2 / (400000000000000 : Int64)) * (400000000000000 : Int64))), .second, .unset, .unset, .unset, .unset, .unset, .unset, .unset, .unset, .unset, .unset, .unset] [(.long qq3), (.long (qq2 - (qq2 / (400000000000000 : Int64)) * (400000000000000 : Int64)))])) _
    refine X0.ldc2Long hx hown (mvT hZ (hw _ (List.mem_of_getElem? (i := 1) rfl))) (g := (mkF m 18 #[.val (.long qq1), .second, .val (.long qq2), .second, .val (.long qq3), .second, .val (.long (qq1 - (qq1 / (400000000000000 : Int64)) * (400000000000000 : Int64))), .second, .val (.long (qq2 - (qq2 / (400000000000000 : Int64)) * (400000000000000 : Int64))), .second, .unset, .unset, .unset, .unset, .unset, .unset, .unset, .unset, .unset, .unset, .unset] [(.long qq3), (.long (qq2 - (qq2 / (400000000000000 : Int64)) * (400000000000000 : Int64)))])) rfl (hb hby at_18) _ ?_
    show Steps p.tables e below (s₁.setTop (mkF m 21 #[.val (.long qq1), .second, .val (.long qq2), .second, .val (.long qq3), .second, .val (.long (qq1 - (qq1 / (400000000000000 : Int64)) * (400000000000000 : Int64))), .second, .val (.long (qq2 - (qq2 / (400000000000000 : Int64)) * (400000000000000 : Int64))), .second, .unset, .unset, .unset, .unset, .unset, .unset, .unset, .unset, .unset, .unset, .unset] [(.long (9223372036854775807 : Int64)), (.long qq3), (.long (qq2 - (qq2 / (400000000000000 : Int64)) * (400000000000000 : Int64)))])) _
    refine XS.land X0.here hx rfl (hb hby at_21) rfl ?_
    show Steps p.tables e below (s₁.setTop (mkF m 22 #[.val (.long qq1), .second, .val (.long qq2), .second, .val (.long qq3), .second, .val (.long (qq1 - (qq1 / (400000000000000 : Int64)) * (400000000000000 : Int64))), .second, .val (.long (qq2 - (qq2 / (400000000000000 : Int64)) * (400000000000000 : Int64))), .second, .unset, .unset, .unset, .unset, .unset, .unset, .unset, .unset, .unset, .unset, .unset] [(.long (qq3 &&& (9223372036854775807 : Int64))), (.long (qq2 - (qq2 / (400000000000000 : Int64)) * (400000000000000 : Int64)))])) _
    refine X0.ldc2Long hx hown (mvT hZ (hw _ (List.mem_of_getElem? (i := 0) rfl))) (g := (mkF m 22 #[.val (.long qq1), .second, .val (.long qq2), .second, .val (.long qq3), .second, .val (.long (qq1 - (qq1 / (400000000000000 : Int64)) * (400000000000000 : Int64))), .second, .val (.long (qq2 - (qq2 / (400000000000000 : Int64)) * (400000000000000 : Int64))), .second, .unset, .unset, .unset, .unset, .unset, .unset, .unset, .unset, .unset, .unset, .unset] [(.long (qq3 &&& (9223372036854775807 : Int64))), (.long (qq2 - (qq2 / (400000000000000 : Int64)) * (400000000000000 : Int64)))])) rfl (hb hby at_22) _ ?_
    show Steps p.tables e below (s₁.setTop (mkF m 25 #[.val (.long qq1), .second, .val (.long qq2), .second, .val (.long qq3), .second, .val (.long (qq1 - (qq1 / (400000000000000 : Int64)) * (400000000000000 : Int64))), .second, .val (.long (qq2 - (qq2 / (400000000000000 : Int64)) * (400000000000000 : Int64))), .second, .unset, .unset, .unset, .unset, .unset, .unset, .unset, .unset, .unset, .unset, .unset] [(.long (400000000000000 : Int64)), (.long (qq3 &&& (9223372036854775807 : Int64))), (.long (qq2 - (qq2 / (400000000000000 : Int64)) * (400000000000000 : Int64)))])) _
    refine XS.lrem X0.here hx rfl (hb hby at_25) rfl hc25 ?_
    show Steps p.tables e below (s₁.setTop (mkF m 26 #[.val (.long qq1), .second, .val (.long qq2), .second, .val (.long qq3), .second, .val (.long (qq1 - (qq1 / (400000000000000 : Int64)) * (400000000000000 : Int64))), .second, .val (.long (qq2 - (qq2 / (400000000000000 : Int64)) * (400000000000000 : Int64))), .second, .unset, .unset, .unset, .unset, .unset, .unset, .unset, .unset, .unset, .unset, .unset] [(.long ((qq3 &&& (9223372036854775807 : Int64)) - ((qq3 &&& (9223372036854775807 : Int64)) / (400000000000000 : Int64)) * (400000000000000 : Int64))), (.long (qq2 - (qq2 / (400000000000000 : Int64)) * (400000000000000 : Int64)))])) _
    refine XS.ladd X0.here hx rfl (hb hby at_26) rfl ?_
    show Steps p.tables e below (s₁.setTop (mkF m 27 #[.val (.long qq1), .second, .val (.long qq2), .second, .val (.long qq3), .second, .val (.long (qq1 - (qq1 / (400000000000000 : Int64)) * (400000000000000 : Int64))), .second, .val (.long (qq2 - (qq2 / (400000000000000 : Int64)) * (400000000000000 : Int64))), .second, .unset, .unset, .unset, .unset, .unset, .unset, .unset, .unset, .unset, .unset, .unset] [(.long ((qq2 - (qq2 / (400000000000000 : Int64)) * (400000000000000 : Int64)) + ((qq3 &&& (9223372036854775807 : Int64)) - ((qq3 &&& (9223372036854775807 : Int64)) / (400000000000000 : Int64)) * (400000000000000 : Int64))))])) _
    refine XS.lstore X0.here hx rfl (hb hby at_27) rfl (l' := #[.val (.long qq1), .second, .val (.long qq2), .second, .val (.long qq3), .second, .val (.long (qq1 - (qq1 / (400000000000000 : Int64)) * (400000000000000 : Int64))), .second, .val (.long (qq2 - (qq2 / (400000000000000 : Int64)) * (400000000000000 : Int64))), .second, .val (.long ((qq2 - (qq2 / (400000000000000 : Int64)) * (400000000000000 : Int64)) + ((qq3 &&& (9223372036854775807 : Int64)) - ((qq3 &&& (9223372036854775807 : Int64)) / (400000000000000 : Int64)) * (400000000000000 : Int64)))), .second, .unset, .unset, .unset, .unset, .unset, .unset, .unset, .unset, .unset]) rfl ?_
    exact kt)
  obtain ⟨oo, tt, uu, h_oo, h_tt, h_uu, pre2⟩ : ∃ (oo : Int64) (tt : Int64) (uu : Int64), (-400000000000000 < oo.toInt ∧ oo.toInt < 400000000000000) ∧ (-400000000000000 < tt.toInt ∧ tt.toInt < 400000000000000) ∧ (¬ uu < tt) ∧ ∀ t, Steps p.tables e below (s₁.setTop (mkF m 29 #[.val (.long qq1), .second, .val (.long qq2), .second, .val (.long qq3), .second, .val (.long oo), .second, .val (.long tt), .second, .val (.long uu), .second, .unset, .unset, .unset, .unset, .unset, .unset, .unset, .unset, .unset] [])) t → Steps p.tables e below (s₁.setTop (entryFrame m #[(.long qq1), (.long qq2), (.long qq3)] maxLocals)) t := ⟨(qq1 - (qq1 / (400000000000000 : Int64)) * (400000000000000 : Int64)), (qq2 - (qq2 / (400000000000000 : Int64)) * (400000000000000 : Int64)), ((qq2 - (qq2 / (400000000000000 : Int64)) * (400000000000000 : Int64)) + ((qq3 &&& (9223372036854775807 : Int64)) - ((qq3 &&& (9223372036854775807 : Int64)) / (400000000000000 : Int64)) * (400000000000000 : Int64))), own_rem _, own_rem _, own_u _ (own_rem _), pre1⟩
  obtain ⟨T3, h3, X3, e3, E3, A3, D3, -, st3⟩ := newO X0 hx hZ hown (hw _ (List.mem_of_getElem? (i := 2) rfl)) (hw _ (List.mem_of_getElem? (i := 3) rfl)) (hw _ (List.mem_of_getElem? (i := 4) rfl)) e0 (g := (mkF m 29 #[.val (.long qq1), .second, .val (.long qq2), .second, .val (.long qq3), .second, .val (.long oo), .second, .val (.long tt), .second, .val (.long uu), .second, .unset, .unset, .unset, .unset, .unset, .unset, .unset, .unset, .unset] [])) rfl (hb hby at_29) (by decide) (by decide)
  obtain ⟨b3, g3⟩ : ∃ z, z = h0.size := ⟨_, rfl⟩
  rw [← g3] at A3 D3 st3
  have g_b3 : n0 ≤ b3 := Nat.le_trans Z0 (Nat.le_of_eq g3.symm)
  have Z3 : n0 ≤ h3.size := Nat.le_trans Z0 E3.1
  have kz3 := Nat.le_trans (Nat.le_refl _) E3.1
  have F3_name : Fld Z h3 b3 "com/example/corrente/corrente/LandmarkWindow" "name" "Ljava/lang/String;" .null := D3 (Or.inr (hw _ (List.mem_of_getElem? (i := 29) rfl))) (ty := (.object "java/lang/String")) (by decide)
  have F3_stream : Fld Z h3 b3 "com/example/corrente/corrente/LandmarkWindow" "stream" "Ljava/lang/String;" .null := D3 (Or.inr (hw _ (List.mem_of_getElem? (i := 31) rfl))) (ty := (.object "java/lang/String")) (by decide)
  have F3_origin : Fld Z h3 b3 "com/example/corrente/corrente/LandmarkWindow" "origin" "J" (.long (0 : Int64)) := D3 (Or.inr (hw _ (List.mem_of_getElem? (i := 33) rfl))) (ty := .long) (by decide)
  have F3_report : Fld Z h3 b3 "com/example/corrente/corrente/LandmarkWindow" "report" "Lcom/example/corrente/corrente/ReportPolicy;" .null := D3 (Or.inr (hw _ (List.mem_of_getElem? (i := 35) rfl))) (ty := (.object "com/example/corrente/corrente/ReportPolicy")) (by decide)
  have F3_ontology : Fld Z h3 b3 "com/example/corrente/corrente/LandmarkWindow" "ontology" "Ljava/lang/String;" .null := D3 (Or.inr (hw _ (List.mem_of_getElem? (i := 37) rfl))) (ty := (.object "java/lang/String")) (by decide)
  have pre4 : ∀ t, Steps p.tables e below (T3.setTop (mkF m 33 #[.val (.long qq1), .second, .val (.long qq2), .second, .val (.long qq3), .second, .val (.long oo), .second, .val (.long tt), .second, .val (.long uu), .second, .unset, .unset, .unset, .unset, .unset, .unset, .unset, .unset, .unset] [(.ref b3), (.ref b3)])) t → Steps p.tables e below (s₁.setTop (entryFrame m #[(.long qq1), (.long qq2), (.long qq3)] maxLocals)) t := fun t kt => pre2 t (by
    show Steps p.tables e below (s₁.setTop (mkF m 29 #[.val (.long qq1), .second, .val (.long qq2), .second, .val (.long qq3), .second, .val (.long oo), .second, .val (.long tt), .second, .val (.long uu), .second, .unset, .unset, .unset, .unset, .unset, .unset, .unset, .unset, .unset] [])) _
    refine st3 _ ?_
    show Steps p.tables e below (T3.setTop (mkF m 32 #[.val (.long qq1), .second, .val (.long qq2), .second, .val (.long qq3), .second, .val (.long oo), .second, .val (.long tt), .second, .val (.long uu), .second, .unset, .unset, .unset, .unset, .unset, .unset, .unset, .unset, .unset] [(.ref b3)])) _
    refine XS.dup X3.here hx rfl (hb hby at_32) rfl rfl ?_
    exact kt)
  obtain ⟨a5, T5, h5, kk5, X5, e5, E5, hS5, kz5, hZ, hown, st5⟩ := ldcS (s := s) (vm0 := s.vm) X3 hx hZ hown (hw _ (List.mem_of_getElem? (i := 5) rfl)) (fun d hd => hw d (own_str_in d hd)) e3 hS0 kz3 (g := (mkF m 33 #[.val (.long qq1), .second, .val (.long qq2), .second, .val (.long qq3), .second, .val (.long oo), .second, .val (.long tt), .second, .val (.long uu), .second, .unset, .unset, .unset, .unset, .unset, .unset, .unset, .unset, .unset] [(.ref b3), (.ref b3)])) rfl (hb hby at_33) (n := 4) (by decide) (by decide) (by decide) (by decide)
  have Z5 : n0 ≤ h5.size := Nat.le_trans Z3 E5.1
  have pre6 : ∀ t, Steps p.tables e below (T5.setTop (mkF m 35 #[.val (.long qq1), .second, .val (.long qq2), .second, .val (.long qq3), .second, .val (.long oo), .second, .val (.long tt), .second, .val (.long uu), .second, .unset, .unset, .unset, .unset, .unset, .unset, .unset, .unset, .unset] [(.ref a5), (.ref b3), (.ref b3)])) t → Steps p.tables e below (s₁.setTop (entryFrame m #[(.long qq1), (.long qq2), (.long qq3)] maxLocals)) t := fun t kt => pre4 t (by
    show Steps p.tables e below (T3.setTop (mkF m 33 #[.val (.long qq1), .second, .val (.long qq2), .second, .val (.long qq3), .second, .val (.long oo), .second, .val (.long tt), .second, .val (.long uu), .second, .unset, .unset, .unset, .unset, .unset, .unset, .unset, .unset, .unset] [(.ref b3), (.ref b3)])) _
    refine st5 _ ?_
    exact kt)
  obtain ⟨a7, T7, h7, kk7, X7, e7, E7, hS7, kz7, hZ, hown, st7⟩ := ldcS (s := s) (vm0 := T5.vm) X5 hx hZ hown (hw _ (List.mem_of_getElem? (i := 13) rfl)) (fun d hd => hw d (own_str_in d hd)) e5 hS5 kz5 (g := (mkF m 35 #[.val (.long qq1), .second, .val (.long qq2), .second, .val (.long qq3), .second, .val (.long oo), .second, .val (.long tt), .second, .val (.long uu), .second, .unset, .unset, .unset, .unset, .unset, .unset, .unset, .unset, .unset] [(.ref a5), (.ref b3), (.ref b3)])) rfl (hb hby at_35) (n := 4) (by decide) (by decide) (by decide) (by decide)
  have Z7 : n0 ≤ h7.size := Nat.le_trans Z5 E7.1
  have O_8 : Old Z n0 h7 := (((O0.ext E3).ext E5).ext E7)
  obtain ⟨T9, X9, e9, st9⟩ := getS2 X7 hx hZ hown (host := "") (Or.inl (hw _ (List.mem_of_getElem? (i := 14) rfl))) Via.refl e7 (S_DEFAULT.ext O_8.2) (g := (mkF m 39 #[.val (.long qq1), .second, .val (.long qq2), .second, .val (.long qq3), .second, .val (.long oo), .second, .val (.long tt), .second, .val (.long uu), .second, .unset, .unset, .unset, .unset, .unset, .unset, .unset, .unset, .unset] [(.long oo), (.ref a7), (.ref a5), (.ref b3), (.ref b3)])) rfl (hb hby at_39)
  have E_10 : Exa Z h7 b3 "com/example/corrente/corrente/LandmarkWindow" := ((A3.ext E5).ext E7)
  have F_11 : Fld Z h7 b3 "com/example/corrente/corrente/LandmarkWindow" "name" "Ljava/lang/String;" .null := ((F3_name.ext E5).ext E7)
  have F_12 : Fld Z h7 b3 "com/example/corrente/corrente/LandmarkWindow" "stream" "Ljava/lang/String;" .null := ((F3_stream.ext E5).ext E7)
  have F_13 : Fld Z h7 b3 "com/example/corrente/corrente/LandmarkWindow" "origin" "J" (.long (0 : Int64)) := ((F3_origin.ext E5).ext E7)
  have F_14 : Fld Z h7 b3 "com/example/corrente/corrente/LandmarkWindow" "report" "Lcom/example/corrente/corrente/ReportPolicy;" .null := ((F3_report.ext E5).ext E7)
  have F_15 : Fld Z h7 b3 "com/example/corrente/corrente/LandmarkWindow" "ontology" "Ljava/lang/String;" .null := ((F3_ontology.ext E5).ext E7)
  obtain ⟨_, _, ⟨T16, L16, k16, n16⟩, -, X16, ⟨Lc16, hQ16, l16, y16, z16⟩, st16⟩ := X9.specialBack hx (y := (⟨"com/example/corrente/corrente/LandmarkWindow", "<init>", "(Ljava/lang/String;Ljava/lang/String;JLcom/example/corrente/corrente/ReportPolicy;Ljava/lang/String;)V"⟩ : MethodName)) rfl hown (mvT hZ (hw _ (List.mem_of_getElem? (i := 17) rfl))) (mvT hZ (hw _ (List.mem_of_getElem? (i := 18) rfl))) (mvT hZ (hw _ (List.mem_of_getElem? (i := 19) rfl))) (by decide) (backOf (W := 1) (rm1 l Z a0 hw [] b3 a5 a7 oo dd .null .null (.long (0 : Int64)) .null .null h7 n0 Z7 E_10 g_b3 F_11 F_12 F_13 F_14 F_15) hZ (hw _ (List.mem_of_getElem? (i := 19) rfl)) (hw _ (List.mem_of_getElem? (i := 4) rfl)) (by decide) (by decide)) (g := (mkF m 43 #[.val (.long qq1), .second, .val (.long qq2), .second, .val (.long qq3), .second, .val (.long oo), .second, .val (.long tt), .second, .val (.long uu), .second, .unset, .unset, .unset, .unset, .unset, .unset, .unset, .unset, .unset] [.null, (.ref dd), (.long oo), (.ref a7), (.ref a5), (.ref b3), (.ref b3)])) rfl (by rw [hml]; rfl) (Steps.refl _) (a := b3) (argsL := [(.ref a5), (.ref a7), (.long oo), (.ref dd), .null]) (rest := [(.ref b3)]) (lenOf pd__28_Ljava_2f_lang_2f_String_3b_Ljava_2f_lang_2f_String_3b_JLcom_2f_example_2f_corrente_2f_corrente_2f_ReportPolicy_3b_Ljava_2f_lang_2f_String_3b__29_V rfl) rfl (by show 2 * 0 + _ ≤ _; exact Nat.le_of_eq rfl) (hb hby at_43) (fun _ _ => ⟨rfl, e9, (by decide : 5 + 0 ≤ _), (by decide : 21 + 0 ≤ _)⟩)
  dsimp only [Pt.U, Pt.locs, Pt.cells, Pt.slots] at X16 l16 y16 z16 st16 hQ16
  subst l16 y16 z16
  obtain ⟨rfl, N16q, K16c, R16_0, R16_1, R16_2, R16_3, R16_4⟩ := hQ16
  have N16 := Fr.app N0 N16q
  have Z16 : n0 ≤ T16.heap.size := Nat.le_trans Z7 K16c.1
  have kz16 := Nat.le_trans kz7 K16c.1
  have E_18 : Exa Z T16.heap b3 "com/example/corrente/corrente/LandmarkWindow" := (E_10.keep K16c)
  obtain ⟨cq17, kq17, q17a, q17b, q17c⟩ := isOf hZ rfl E_18
  obtain ⟨_, _, ⟨T17, L17, k17, n17⟩, -, X17, ⟨Lc17, hQ17, l17, y17, z17⟩, st17⟩ := X16.virtualBack hx (y := (⟨"com/example/corrente/corrente/LandmarkWindow", "holds", "(J)Z"⟩ : MethodName)) (z := (⟨"com/example/corrente/corrente/LandmarkWindow", "holds", "(J)Z"⟩ : MethodName)) hown (mvT hZ (hw _ (List.mem_of_getElem? (i := 38) rfl))) (mvT hZ (hw _ (List.mem_of_getElem? (i := 39) rfl))) (notFace_of_selects (args := #[]) (mvT hZ (hw _ (List.mem_of_getElem? (i := 41) rfl)))) (mvT hZ (hw _ (List.mem_of_getElem? (i := 41) rfl))) (mvT hZ (hw _ (List.mem_of_getElem? (i := 40) rfl))) (by decide) (backOf (W := 0) (rm4 l Z a0 hw [] b3 oo oo T16.heap n0 Z16 R16_2) hZ (hw _ (List.mem_of_getElem? (i := 42) rfl)) (hw _ (List.mem_of_getElem? (i := 4) rfl)) (by decide) (by decide)) q17a q17c (g := (mkF m 52 #[.val (.long qq1), .second, .val (.long qq2), .second, .val (.long qq3), .second, .val (.long oo), .second, .val (.long tt), .second, .val (.long uu), .second, .val (.ref b3), .unset, .unset, .unset, .unset, .unset, .unset, .unset, .unset] [(.long oo), (.ref b3)])) rfl (by rw [hml]; rfl) (Steps.refl _) (argsL := [(.long oo)]) (rest := []) (lenOf pd__28_J_29_Z rfl) rfl (by show 2 * 0 + _ ≤ _; exact Nat.le_of_eq rfl) (hb hby at_52) (fun _ _ => ⟨rfl, rfl, (by decide : 5 + 0 ≤ _), (by decide : 21 + 0 ≤ _)⟩)
  dsimp only [Pt.U, Pt.locs, Pt.cells, Pt.slots] at X17 l17 y17 z17 st17 hQ17
  subst l17 y17 z17
  obtain ⟨rfl, N17q, e17⟩ := hQ17
  have N17 := Fr.app N16 N17q
  obtain ⟨cq19, kq19, q19a, q19b, q19c⟩ := isOf hZ e17 E_18
  obtain ⟨_, _, ⟨T19, L19, k19, n19⟩, -, X19, ⟨Lc19, hQ19, l19, y19, z19⟩, st19⟩ := X17.virtualBack hx (y := (⟨"com/example/corrente/corrente/LandmarkWindow", "holds", "(J)Z"⟩ : MethodName)) (z := (⟨"com/example/corrente/corrente/LandmarkWindow", "holds", "(J)Z"⟩ : MethodName)) hown (mvT hZ (hw _ (List.mem_of_getElem? (i := 38) rfl))) (mvT hZ (hw _ (List.mem_of_getElem? (i := 39) rfl))) (notFace_of_selects (args := #[]) (mvT hZ (hw _ (List.mem_of_getElem? (i := 41) rfl)))) (mvT hZ (hw _ (List.mem_of_getElem? (i := 41) rfl))) (mvT hZ (hw _ (List.mem_of_getElem? (i := 40) rfl))) (by decide) (backOf (W := 0) (rm4 l Z a0 hw [] b3 (oo + (1 : Int64)) oo T16.heap n0 Z16 R16_2) hZ (hw _ (List.mem_of_getElem? (i := 42) rfl)) (hw _ (List.mem_of_getElem? (i := 4) rfl)) (by decide) (by decide)) q19a q19c (g := (mkF m 63 #[.val (.long qq1), .second, .val (.long qq2), .second, .val (.long qq3), .second, .val (.long oo), .second, .val (.long tt), .second, .val (.long uu), .second, .val (.ref b3), .val (.int (own_gt oo oo)), .unset, .unset, .unset, .unset, .unset, .unset, .unset] [(.long (oo + (1 : Int64))), (.ref b3)])) rfl (by rw [hml]; rfl) (Steps.refl _) (argsL := [(.long (oo + (1 : Int64)))]) (rest := []) (lenOf pd__28_J_29_Z rfl) rfl (by show 2 * 0 + _ ≤ _; exact Nat.le_of_eq rfl) (hb hby at_63) (fun _ _ => ⟨rfl, e17, (by decide : 5 + 0 ≤ _), (by decide : 21 + 0 ≤ _)⟩)
  dsimp only [Pt.U, Pt.locs, Pt.cells, Pt.slots] at X19 l19 y19 z19 st19 hQ19
  subst l19 y19 z19
  obtain ⟨rfl, N19q, e19⟩ := hQ19
  have N19 := Fr.app N17 N19q
  obtain ⟨cq20, kq20, q20a, q20b, q20c⟩ := isOf hZ e19 E_18
  obtain ⟨_, _, ⟨T20, L20, k20, n20⟩, -, X20, ⟨Lc20, hQ20, l20, y20, z20⟩, st20⟩ := X19.virtualBack hx (y := (⟨"com/example/corrente/corrente/LandmarkWindow", "holds", "(J)Z"⟩ : MethodName)) (z := (⟨"com/example/corrente/corrente/LandmarkWindow", "holds", "(J)Z"⟩ : MethodName)) hown (mvT hZ (hw _ (List.mem_of_getElem? (i := 38) rfl))) (mvT hZ (hw _ (List.mem_of_getElem? (i := 39) rfl))) (notFace_of_selects (args := #[]) (mvT hZ (hw _ (List.mem_of_getElem? (i := 41) rfl)))) (mvT hZ (hw _ (List.mem_of_getElem? (i := 41) rfl))) (mvT hZ (hw _ (List.mem_of_getElem? (i := 40) rfl))) (by decide) (backOf (W := 0) (rm4 l Z a0 hw [] b3 tt oo T16.heap n0 Z16 R16_2) hZ (hw _ (List.mem_of_getElem? (i := 42) rfl)) (hw _ (List.mem_of_getElem? (i := 4) rfl)) (by decide) (by decide)) q20a q20c (g := (mkF m 72 #[.val (.long qq1), .second, .val (.long qq2), .second, .val (.long qq3), .second, .val (.long oo), .second, .val (.long tt), .second, .val (.long uu), .second, .val (.ref b3), .val (.int (own_gt oo oo)), .val (.int (own_gt (oo + (1 : Int64)) oo)), .unset, .unset, .unset, .unset, .unset, .unset] [(.long tt), (.ref b3)])) rfl (by rw [hml]; rfl) (Steps.refl _) (argsL := [(.long tt)]) (rest := []) (lenOf pd__28_J_29_Z rfl) rfl (by show 2 * 0 + _ ≤ _; exact Nat.le_of_eq rfl) (hb hby at_72) (fun _ _ => ⟨rfl, e19, (by decide : 5 + 0 ≤ _), (by decide : 21 + 0 ≤ _)⟩)
  dsimp only [Pt.U, Pt.locs, Pt.cells, Pt.slots] at X20 l20 y20 z20 st20 hQ20
  subst l20 y20 z20
  obtain ⟨rfl, N20q, e20⟩ := hQ20
  have N20 := Fr.app N19 N20q
  obtain ⟨cq21, kq21, q21a, q21b, q21c⟩ := isOf hZ e20 E_18
  obtain ⟨_, _, ⟨T21, L21, k21, n21⟩, -, X21, ⟨Lc21, hQ21, l21, y21, z21⟩, st21⟩ := X20.virtualBack hx (y := (⟨"com/example/corrente/corrente/LandmarkWindow", "holds", "(J)Z"⟩ : MethodName)) (z := (⟨"com/example/corrente/corrente/LandmarkWindow", "holds", "(J)Z"⟩ : MethodName)) hown (mvT hZ (hw _ (List.mem_of_getElem? (i := 38) rfl))) (mvT hZ (hw _ (List.mem_of_getElem? (i := 39) rfl))) (notFace_of_selects (args := #[]) (mvT hZ (hw _ (List.mem_of_getElem? (i := 41) rfl)))) (mvT hZ (hw _ (List.mem_of_getElem? (i := 41) rfl))) (mvT hZ (hw _ (List.mem_of_getElem? (i := 40) rfl))) (by decide) (backOf (W := 0) (rm4 l Z a0 hw [] b3 uu oo T16.heap n0 Z16 R16_2) hZ (hw _ (List.mem_of_getElem? (i := 42) rfl)) (hw _ (List.mem_of_getElem? (i := 4) rfl)) (by decide) (by decide)) q21a q21c (g := (mkF m 81 #[.val (.long qq1), .second, .val (.long qq2), .second, .val (.long qq3), .second, .val (.long oo), .second, .val (.long tt), .second, .val (.long uu), .second, .val (.ref b3), .val (.int (own_gt oo oo)), .val (.int (own_gt (oo + (1 : Int64)) oo)), .val (.int (own_gt tt oo)), .unset, .unset, .unset, .unset, .unset] [(.long uu), (.ref b3)])) rfl (by rw [hml]; rfl) (Steps.refl _) (argsL := [(.long uu)]) (rest := []) (lenOf pd__28_J_29_Z rfl) rfl (by show 2 * 0 + _ ≤ _; exact Nat.le_of_eq rfl) (hb hby at_81) (fun _ _ => ⟨rfl, e20, (by decide : 5 + 0 ≤ _), (by decide : 21 + 0 ≤ _)⟩)
  dsimp only [Pt.U, Pt.locs, Pt.cells, Pt.slots] at X21 l21 y21 z21 st21 hQ21
  subst l21 y21 z21
  obtain ⟨rfl, N21q, e21⟩ := hQ21
  have N21 := Fr.app N20 N21q
  have hc88 : (own_gt oo oo) = (0 : Int32) := own_gt_no Int64.lt_irrefl
  have hc93 : ¬ ((own_gt (oo + (1 : Int64)) oo) = (0 : Int32)) := own_gt_yes (own_succ h_oo)
  have pre22 : ∀ t, Steps p.tables e below (T21.setTop (mkF m 103 #[.val (.long qq1), .second, .val (.long qq2), .second, .val (.long qq3), .second, .val (.long oo), .second, .val (.long tt), .second, .val (.long uu), .second, .val (.ref b3), .val (.int (own_gt oo oo)), .val (.int (own_gt (oo + (1 : Int64)) oo)), .val (.int (own_gt tt oo)), .val (.int (own_gt uu oo)), .val (.int (1 : Int32)), .unset, .unset, .unset] [])) t → Steps p.tables e below (s₁.setTop (entryFrame m #[(.long qq1), (.long qq2), (.long qq3)] maxLocals)) t := fun t kt => pre6 t (by
    show Steps p.tables e below (T5.setTop (mkF m 35 #[.val (.long qq1), .second, .val (.long qq2), .second, .val (.long qq3), .second, .val (.long oo), .second, .val (.long tt), .second, .val (.long uu), .second, .unset, .unset, .unset, .unset, .unset, .unset, .unset, .unset, .unset] [(.ref a5), (.ref b3), (.ref b3)])) _
    refine st7 _ ?_
    show Steps p.tables e below (T7.setTop (mkF m 37 #[.val (.long qq1), .second, .val (.long qq2), .second, .val (.long qq3), .second, .val (.long oo), .second, .val (.long tt), .second, .val (.long uu), .second, .unset, .unset, .unset, .unset, .unset, .unset, .unset, .unset, .unset] [(.ref a7), (.ref a5), (.ref b3), (.ref b3)])) _
    refine XS.lload X7.here hx rfl (hb hby at_37) rfl ?_
    show Steps p.tables e below (T7.setTop (mkF m 39 #[.val (.long qq1), .second, .val (.long qq2), .second, .val (.long qq3), .second, .val (.long oo), .second, .val (.long tt), .second, .val (.long uu), .second, .unset, .unset, .unset, .unset, .unset, .unset, .unset, .unset, .unset] [(.long oo), (.ref a7), (.ref a5), (.ref b3), (.ref b3)])) _
    refine st9 _ ?_
    show Steps p.tables e below (T9.setTop (mkF m 42 #[.val (.long qq1), .second, .val (.long qq2), .second, .val (.long qq3), .second, .val (.long oo), .second, .val (.long tt), .second, .val (.long uu), .second, .unset, .unset, .unset, .unset, .unset, .unset, .unset, .unset, .unset] [(.ref dd), (.long oo), (.ref a7), (.ref a5), (.ref b3), (.ref b3)])) _
    refine XS.aconstNull X9.here hx rfl (hb hby at_42) ?_
    show Steps p.tables e below (T9.setTop (mkF m 43 #[.val (.long qq1), .second, .val (.long qq2), .second, .val (.long qq3), .second, .val (.long oo), .second, .val (.long tt), .second, .val (.long uu), .second, .unset, .unset, .unset, .unset, .unset, .unset, .unset, .unset, .unset] [.null, (.ref dd), (.long oo), (.ref a7), (.ref a5), (.ref b3), (.ref b3)])) _
    refine st16.trans ?_
    show Steps p.tables e below (T16.setTop (mkF m 46 #[.val (.long qq1), .second, .val (.long qq2), .second, .val (.long qq3), .second, .val (.long oo), .second, .val (.long tt), .second, .val (.long uu), .second, .unset, .unset, .unset, .unset, .unset, .unset, .unset, .unset, .unset] [(.ref b3)])) _
    refine XS.astore X16.here hx rfl (hb hby at_46) rfl rfl (l' := #[.val (.long qq1), .second, .val (.long qq2), .second, .val (.long qq3), .second, .val (.long oo), .second, .val (.long tt), .second, .val (.long uu), .second, .val (.ref b3), .unset, .unset, .unset, .unset, .unset, .unset, .unset, .unset]) rfl ?_
    show Steps p.tables e below (T16.setTop (mkF m 48 #[.val (.long qq1), .second, .val (.long qq2), .second, .val (.long qq3), .second, .val (.long oo), .second, .val (.long tt), .second, .val (.long uu), .second, .val (.ref b3), .unset, .unset, .unset, .unset, .unset, .unset, .unset, .unset] [])) _
    refine XS.aload X16.here hx rfl (hb hby at_48) rfl rfl ?_
    show Steps p.tables e below (T16.setTop (mkF m 50 #[.val (.long qq1), .second, .val (.long qq2), .second, .val (.long qq3), .second, .val (.long oo), .second, .val (.long tt), .second, .val (.long uu), .second, .val (.ref b3), .unset, .unset, .unset, .unset, .unset, .unset, .unset, .unset] [(.ref b3)])) _
    refine XS.lload X16.here hx rfl (hb hby at_50) rfl ?_
    show Steps p.tables e below (T16.setTop (mkF m 52 #[.val (.long qq1), .second, .val (.long qq2), .second, .val (.long qq3), .second, .val (.long oo), .second, .val (.long tt), .second, .val (.long uu), .second, .val (.ref b3), .unset, .unset, .unset, .unset, .unset, .unset, .unset, .unset] [(.long oo), (.ref b3)])) _
    refine st17.trans ?_
    show Steps p.tables e below (T17.setTop (mkF m 55 #[.val (.long qq1), .second, .val (.long qq2), .second, .val (.long qq3), .second, .val (.long oo), .second, .val (.long tt), .second, .val (.long uu), .second, .val (.ref b3), .unset, .unset, .unset, .unset, .unset, .unset, .unset, .unset] [(.int (own_gt oo oo))])) _
    refine XS.istore X17.here hx rfl (hb hby at_55) rfl (l' := #[.val (.long qq1), .second, .val (.long qq2), .second, .val (.long qq3), .second, .val (.long oo), .second, .val (.long tt), .second, .val (.long uu), .second, .val (.ref b3), .val (.int (own_gt oo oo)), .unset, .unset, .unset, .unset, .unset, .unset, .unset]) rfl ?_
    show Steps p.tables e below (T17.setTop (mkF m 57 #[.val (.long qq1), .second, .val (.long qq2), .second, .val (.long qq3), .second, .val (.long oo), .second, .val (.long tt), .second, .val (.long uu), .second, .val (.ref b3), .val (.int (own_gt oo oo)), .unset, .unset, .unset, .unset, .unset, .unset, .unset] [])) _
    refine XS.aload X17.here hx rfl (hb hby at_57) rfl rfl ?_
    show Steps p.tables e below (T17.setTop (mkF m 59 #[.val (.long qq1), .second, .val (.long qq2), .second, .val (.long qq3), .second, .val (.long oo), .second, .val (.long tt), .second, .val (.long uu), .second, .val (.ref b3), .val (.int (own_gt oo oo)), .unset, .unset, .unset, .unset, .unset, .unset, .unset] [(.ref b3)])) _
    refine XS.lload X17.here hx rfl (hb hby at_59) rfl ?_
    show Steps p.tables e below (T17.setTop (mkF m 61 #[.val (.long qq1), .second, .val (.long qq2), .second, .val (.long qq3), .second, .val (.long oo), .second, .val (.long tt), .second, .val (.long uu), .second, .val (.ref b3), .val (.int (own_gt oo oo)), .unset, .unset, .unset, .unset, .unset, .unset, .unset] [(.long oo), (.ref b3)])) _
    refine XS.lconst X17.here hx rfl (hb hby at_61) ?_
    show Steps p.tables e below (T17.setTop (mkF m 62 #[.val (.long qq1), .second, .val (.long qq2), .second, .val (.long qq3), .second, .val (.long oo), .second, .val (.long tt), .second, .val (.long uu), .second, .val (.ref b3), .val (.int (own_gt oo oo)), .unset, .unset, .unset, .unset, .unset, .unset, .unset] [(.long (1 : Int64)), (.long oo), (.ref b3)])) _
    refine XS.ladd X17.here hx rfl (hb hby at_62) rfl ?_
    show Steps p.tables e below (T17.setTop (mkF m 63 #[.val (.long qq1), .second, .val (.long qq2), .second, .val (.long qq3), .second, .val (.long oo), .second, .val (.long tt), .second, .val (.long uu), .second, .val (.ref b3), .val (.int (own_gt oo oo)), .unset, .unset, .unset, .unset, .unset, .unset, .unset] [(.long (oo + (1 : Int64))), (.ref b3)])) _
    refine st19.trans ?_
    show Steps p.tables e below (T19.setTop (mkF m 66 #[.val (.long qq1), .second, .val (.long qq2), .second, .val (.long qq3), .second, .val (.long oo), .second, .val (.long tt), .second, .val (.long uu), .second, .val (.ref b3), .val (.int (own_gt oo oo)), .unset, .unset, .unset, .unset, .unset, .unset, .unset] [(.int (own_gt (oo + (1 : Int64)) oo))])) _
    refine XS.istore X19.here hx rfl (hb hby at_66) rfl (l' := #[.val (.long qq1), .second, .val (.long qq2), .second, .val (.long qq3), .second, .val (.long oo), .second, .val (.long tt), .second, .val (.long uu), .second, .val (.ref b3), .val (.int (own_gt oo oo)), .val (.int (own_gt (oo + (1 : Int64)) oo)), .unset, .unset, .unset, .unset, .unset, .unset]) rfl ?_
    show Steps p.tables e below (T19.setTop (mkF m 68 #[.val (.long qq1), .second, .val (.long qq2), .second, .val (.long qq3), .second, .val (.long oo), .second, .val (.long tt), .second, .val (.long uu), .second, .val (.ref b3), .val (.int (own_gt oo oo)), .val (.int (own_gt (oo + (1 : Int64)) oo)), .unset, .unset, .unset, .unset, .unset, .unset] [])) _
    refine XS.aload X19.here hx rfl (hb hby at_68) rfl rfl ?_
    show Steps p.tables e below (T19.setTop (mkF m 70 #[.val (.long qq1), .second, .val (.long qq2), .second, .val (.long qq3), .second, .val (.long oo), .second, .val (.long tt), .second, .val (.long uu), .second, .val (.ref b3), .val (.int (own_gt oo oo)), .val (.int (own_gt (oo + (1 : Int64)) oo)), .unset, .unset, .unset, .unset, .unset, .unset] [(.ref b3)])) _
    refine XS.lload X19.here hx rfl (hb hby at_70) rfl ?_
    show Steps p.tables e below (T19.setTop (mkF m 72 #[.val (.long qq1), .second, .val (.long qq2), .second, .val (.long qq3), .second, .val (.long oo), .second, .val (.long tt), .second, .val (.long uu), .second, .val (.ref b3), .val (.int (own_gt oo oo)), .val (.int (own_gt (oo + (1 : Int64)) oo)), .unset, .unset, .unset, .unset, .unset, .unset] [(.long tt), (.ref b3)])) _
    refine st20.trans ?_
    show Steps p.tables e below (T20.setTop (mkF m 75 #[.val (.long qq1), .second, .val (.long qq2), .second, .val (.long qq3), .second, .val (.long oo), .second, .val (.long tt), .second, .val (.long uu), .second, .val (.ref b3), .val (.int (own_gt oo oo)), .val (.int (own_gt (oo + (1 : Int64)) oo)), .unset, .unset, .unset, .unset, .unset, .unset] [(.int (own_gt tt oo))])) _
    refine XS.istore X20.here hx rfl (hb hby at_75) rfl (l' := #[.val (.long qq1), .second, .val (.long qq2), .second, .val (.long qq3), .second, .val (.long oo), .second, .val (.long tt), .second, .val (.long uu), .second, .val (.ref b3), .val (.int (own_gt oo oo)), .val (.int (own_gt (oo + (1 : Int64)) oo)), .val (.int (own_gt tt oo)), .unset, .unset, .unset, .unset, .unset]) rfl ?_
    show Steps p.tables e below (T20.setTop (mkF m 77 #[.val (.long qq1), .second, .val (.long qq2), .second, .val (.long qq3), .second, .val (.long oo), .second, .val (.long tt), .second, .val (.long uu), .second, .val (.ref b3), .val (.int (own_gt oo oo)), .val (.int (own_gt (oo + (1 : Int64)) oo)), .val (.int (own_gt tt oo)), .unset, .unset, .unset, .unset, .unset] [])) _
    refine XS.aload X20.here hx rfl (hb hby at_77) rfl rfl ?_
    show Steps p.tables e below (T20.setTop (mkF m 79 #[.val (.long qq1), .second, .val (.long qq2), .second, .val (.long qq3), .second, .val (.long oo), .second, .val (.long tt), .second, .val (.long uu), .second, .val (.ref b3), .val (.int (own_gt oo oo)), .val (.int (own_gt (oo + (1 : Int64)) oo)), .val (.int (own_gt tt oo)), .unset, .unset, .unset, .unset, .unset] [(.ref b3)])) _
    refine XS.lload X20.here hx rfl (hb hby at_79) rfl ?_
    show Steps p.tables e below (T20.setTop (mkF m 81 #[.val (.long qq1), .second, .val (.long qq2), .second, .val (.long qq3), .second, .val (.long oo), .second, .val (.long tt), .second, .val (.long uu), .second, .val (.ref b3), .val (.int (own_gt oo oo)), .val (.int (own_gt (oo + (1 : Int64)) oo)), .val (.int (own_gt tt oo)), .unset, .unset, .unset, .unset, .unset] [(.long uu), (.ref b3)])) _
    refine st21.trans ?_
    show Steps p.tables e below (T21.setTop (mkF m 84 #[.val (.long qq1), .second, .val (.long qq2), .second, .val (.long qq3), .second, .val (.long oo), .second, .val (.long tt), .second, .val (.long uu), .second, .val (.ref b3), .val (.int (own_gt oo oo)), .val (.int (own_gt (oo + (1 : Int64)) oo)), .val (.int (own_gt tt oo)), .unset, .unset, .unset, .unset, .unset] [(.int (own_gt uu oo))])) _
    refine XS.istore X21.here hx rfl (hb hby at_84) rfl (l' := #[.val (.long qq1), .second, .val (.long qq2), .second, .val (.long qq3), .second, .val (.long oo), .second, .val (.long tt), .second, .val (.long uu), .second, .val (.ref b3), .val (.int (own_gt oo oo)), .val (.int (own_gt (oo + (1 : Int64)) oo)), .val (.int (own_gt tt oo)), .val (.int (own_gt uu oo)), .unset, .unset, .unset, .unset]) rfl ?_
    show Steps p.tables e below (T21.setTop (mkF m 86 #[.val (.long qq1), .second, .val (.long qq2), .second, .val (.long qq3), .second, .val (.long oo), .second, .val (.long tt), .second, .val (.long uu), .second, .val (.ref b3), .val (.int (own_gt oo oo)), .val (.int (own_gt (oo + (1 : Int64)) oo)), .val (.int (own_gt tt oo)), .val (.int (own_gt uu oo)), .unset, .unset, .unset, .unset] [])) _
    refine XS.iload X21.here hx rfl (hb hby at_86) rfl ?_
    show Steps p.tables e below (T21.setTop (mkF m 88 #[.val (.long qq1), .second, .val (.long qq2), .second, .val (.long qq3), .second, .val (.long oo), .second, .val (.long tt), .second, .val (.long uu), .second, .val (.ref b3), .val (.int (own_gt oo oo)), .val (.int (own_gt (oo + (1 : Int64)) oo)), .val (.int (own_gt tt oo)), .val (.int (own_gt uu oo)), .unset, .unset, .unset, .unset] [(.int (own_gt oo oo))])) _
    refine XS.ifNo X21.here hx rfl (hb hby at_88) rfl ((if0 _ _).trans (teq hc88).2) ?_
    show Steps p.tables e below (T21.setTop (mkF m 91 #[.val (.long qq1), .second, .val (.long qq2), .second, .val (.long qq3), .second, .val (.long oo), .second, .val (.long tt), .second, .val (.long uu), .second, .val (.ref b3), .val (.int (own_gt oo oo)), .val (.int (own_gt (oo + (1 : Int64)) oo)), .val (.int (own_gt tt oo)), .val (.int (own_gt uu oo)), .unset, .unset, .unset, .unset] [])) _
    refine XS.iload X21.here hx rfl (hb hby at_91) rfl ?_
    show Steps p.tables e below (T21.setTop (mkF m 93 #[.val (.long qq1), .second, .val (.long qq2), .second, .val (.long qq3), .second, .val (.long oo), .second, .val (.long tt), .second, .val (.long uu), .second, .val (.ref b3), .val (.int (own_gt oo oo)), .val (.int (own_gt (oo + (1 : Int64)) oo)), .val (.int (own_gt tt oo)), .val (.int (own_gt uu oo)), .unset, .unset, .unset, .unset] [(.int (own_gt (oo + (1 : Int64)) oo))])) _
    refine XS.ifNo X21.here hx rfl (hb hby at_93) rfl ((if0 _ _).trans (feq hc93).1) ?_
    show Steps p.tables e below (T21.setTop (mkF m 96 #[.val (.long qq1), .second, .val (.long qq2), .second, .val (.long qq3), .second, .val (.long oo), .second, .val (.long tt), .second, .val (.long uu), .second, .val (.ref b3), .val (.int (own_gt oo oo)), .val (.int (own_gt (oo + (1 : Int64)) oo)), .val (.int (own_gt tt oo)), .val (.int (own_gt uu oo)), .unset, .unset, .unset, .unset] [])) _
    refine XS.iconst X21.here hx rfl (hb hby at_96) ?_
    show Steps p.tables e below (T21.setTop (mkF m 97 #[.val (.long qq1), .second, .val (.long qq2), .second, .val (.long qq3), .second, .val (.long oo), .second, .val (.long tt), .second, .val (.long uu), .second, .val (.ref b3), .val (.int (own_gt oo oo)), .val (.int (own_gt (oo + (1 : Int64)) oo)), .val (.int (own_gt tt oo)), .val (.int (own_gt uu oo)), .unset, .unset, .unset, .unset] [(.int (1 : Int32))])) _
    refine XS.goto X21.here hx rfl (pc0 := 97) (pc' := 101) rfl (hb hby at_97) (by decide) (by decide) ?_
    show Steps p.tables e below (T21.setTop (mkF m 101 #[.val (.long qq1), .second, .val (.long qq2), .second, .val (.long qq3), .second, .val (.long oo), .second, .val (.long tt), .second, .val (.long uu), .second, .val (.ref b3), .val (.int (own_gt oo oo)), .val (.int (own_gt (oo + (1 : Int64)) oo)), .val (.int (own_gt tt oo)), .val (.int (own_gt uu oo)), .unset, .unset, .unset, .unset] [(.int (1 : Int32))])) _
    refine XS.istore X21.here hx rfl (hb hby at_101) rfl (l' := #[.val (.long qq1), .second, .val (.long qq2), .second, .val (.long qq3), .second, .val (.long oo), .second, .val (.long tt), .second, .val (.long uu), .second, .val (.ref b3), .val (.int (own_gt oo oo)), .val (.int (own_gt (oo + (1 : Int64)) oo)), .val (.int (own_gt tt oo)), .val (.int (own_gt uu oo)), .val (.int (1 : Int32)), .unset, .unset, .unset]) rfl ?_
    exact kt)
  obtain ⟨T23, L23, X23, e23, N23, pre23⟩ : ∃ (T' : State) (L' : List Loc), Stand p l e room_1 (s.setVm T7.vm) m #[(.long qq1), (.long qq2), (.long qq3)] below meth c T' L' 5 21 ∧ T'.heap = T16.heap ∧ Fr n0 L' ∧ ∀ t, Steps p.tables e below (T'.setTop (mkF m 118 #[.val (.long qq1), .second, .val (.long qq2), .second, .val (.long qq3), .second, .val (.long oo), .second, .val (.long tt), .second, .val (.long uu), .second, .val (.ref b3), .val (.int (own_gt oo oo)), .val (.int (own_gt (oo + (1 : Int64)) oo)), .val (.int (own_gt tt oo)), .val (.int (own_gt uu oo)), .val (.int (1 : Int32)), .unset, .unset, .unset] [(.int (1 : Int32))])) t → Steps p.tables e below (s₁.setTop (entryFrame m #[(.long qq1), (.long qq2), (.long qq3)] maxLocals)) t := by
    have pre24 : ∀ t, Steps p.tables e below (T21.setTop (mkF m 105 #[.val (.long qq1), .second, .val (.long qq2), .second, .val (.long qq3), .second, .val (.long oo), .second, .val (.long tt), .second, .val (.long uu), .second, .val (.ref b3), .val (.int (own_gt oo oo)), .val (.int (own_gt (oo + (1 : Int64)) oo)), .val (.int (own_gt tt oo)), .val (.int (own_gt uu oo)), .val (.int (1 : Int32)), .unset, .unset, .unset] [(.int (own_gt tt oo))])) t → Steps p.tables e below (s₁.setTop (entryFrame m #[(.long qq1), (.long qq2), (.long qq3)] maxLocals)) t := fun t kt => pre22 t (by
      show Steps p.tables e below (T21.setTop (mkF m 103 #[.val (.long qq1), .second, .val (.long qq2), .second, .val (.long qq3), .second, .val (.long oo), .second, .val (.long tt), .second, .val (.long uu), .second, .val (.ref b3), .val (.int (own_gt oo oo)), .val (.int (own_gt (oo + (1 : Int64)) oo)), .val (.int (own_gt tt oo)), .val (.int (own_gt uu oo)), .val (.int (1 : Int32)), .unset, .unset, .unset] [])) _
      refine XS.iload X21.here hx rfl (hb hby at_103) rfl ?_
      exact kt)
    by_cases hc105 : (own_gt tt oo) = (0 : Int32)
    · skip
      exact ⟨_, _, X21, e21, N21, fun t kt => pre24 t (by
          show Steps p.tables e below (T21.setTop (mkF m 105 #[.val (.long qq1), .second, .val (.long qq2), .second, .val (.long qq3), .second, .val (.long oo), .second, .val (.long tt), .second, .val (.long uu), .second, .val (.ref b3), .val (.int (own_gt oo oo)), .val (.int (own_gt (oo + (1 : Int64)) oo)), .val (.int (own_gt tt oo)), .val (.int (own_gt uu oo)), .val (.int (1 : Int32)), .unset, .unset, .unset] [(.int (own_gt tt oo))])) _
          refine XS.ifYes X21.here hx rfl (pc0 := 105) (pc' := 113) rfl (hb hby at_105) rfl ((if0 _ _).trans (teq hc105).1) (by decide) (by decide) ?_
          show Steps p.tables e below (T21.setTop (mkF m 113 #[.val (.long qq1), .second, .val (.long qq2), .second, .val (.long qq3), .second, .val (.long oo), .second, .val (.long tt), .second, .val (.long uu), .second, .val (.ref b3), .val (.int (own_gt oo oo)), .val (.int (own_gt (oo + (1 : Int64)) oo)), .val (.int (own_gt tt oo)), .val (.int (own_gt uu oo)), .val (.int (1 : Int32)), .unset, .unset, .unset] [])) _
          refine XS.iconst X21.here hx rfl (hb hby at_113) ?_
          show Steps p.tables e below (T21.setTop (mkF m 114 #[.val (.long qq1), .second, .val (.long qq2), .second, .val (.long qq3), .second, .val (.long oo), .second, .val (.long tt), .second, .val (.long uu), .second, .val (.ref b3), .val (.int (own_gt oo oo)), .val (.int (own_gt (oo + (1 : Int64)) oo)), .val (.int (own_gt tt oo)), .val (.int (own_gt uu oo)), .val (.int (1 : Int32)), .unset, .unset, .unset] [(.int (1 : Int32))])) _
          refine XS.goto X21.here hx rfl (pc0 := 114) (pc' := 118) rfl (hb hby at_114) (by decide) (by decide) ?_
          exact kt)⟩
    · skip
      have hc110 : ¬ ((own_gt uu oo) = (0 : Int32)) := own_gt_yes (own_tr (own_of_gt hc105) h_uu)
      exact ⟨_, _, X21, e21, N21, fun t kt => pre24 t (by
          show Steps p.tables e below (T21.setTop (mkF m 105 #[.val (.long qq1), .second, .val (.long qq2), .second, .val (.long qq3), .second, .val (.long oo), .second, .val (.long tt), .second, .val (.long uu), .second, .val (.ref b3), .val (.int (own_gt oo oo)), .val (.int (own_gt (oo + (1 : Int64)) oo)), .val (.int (own_gt tt oo)), .val (.int (own_gt uu oo)), .val (.int (1 : Int32)), .unset, .unset, .unset] [(.int (own_gt tt oo))])) _
          refine XS.ifNo X21.here hx rfl (hb hby at_105) rfl ((if0 _ _).trans (feq hc105).1) ?_
          show Steps p.tables e below (T21.setTop (mkF m 108 #[.val (.long qq1), .second, .val (.long qq2), .second, .val (.long qq3), .second, .val (.long oo), .second, .val (.long tt), .second, .val (.long uu), .second, .val (.ref b3), .val (.int (own_gt oo oo)), .val (.int (own_gt (oo + (1 : Int64)) oo)), .val (.int (own_gt tt oo)), .val (.int (own_gt uu oo)), .val (.int (1 : Int32)), .unset, .unset, .unset] [])) _
          refine XS.iload X21.here hx rfl (hb hby at_108) rfl ?_
          show Steps p.tables e below (T21.setTop (mkF m 110 #[.val (.long qq1), .second, .val (.long qq2), .second, .val (.long qq3), .second, .val (.long oo), .second, .val (.long tt), .second, .val (.long uu), .second, .val (.ref b3), .val (.int (own_gt oo oo)), .val (.int (own_gt (oo + (1 : Int64)) oo)), .val (.int (own_gt tt oo)), .val (.int (own_gt uu oo)), .val (.int (1 : Int32)), .unset, .unset, .unset] [(.int (own_gt uu oo))])) _
          refine XS.ifNo X21.here hx rfl (hb hby at_110) rfl ((if0 _ _).trans (feq hc110).1) ?_
          show Steps p.tables e below (T21.setTop (mkF m 113 #[.val (.long qq1), .second, .val (.long qq2), .second, .val (.long qq3), .second, .val (.long oo), .second, .val (.long tt), .second, .val (.long uu), .second, .val (.ref b3), .val (.int (own_gt oo oo)), .val (.int (own_gt (oo + (1 : Int64)) oo)), .val (.int (own_gt tt oo)), .val (.int (own_gt uu oo)), .val (.int (1 : Int32)), .unset, .unset, .unset] [])) _
          refine XS.iconst X21.here hx rfl (hb hby at_113) ?_
          show Steps p.tables e below (T21.setTop (mkF m 114 #[.val (.long qq1), .second, .val (.long qq2), .second, .val (.long qq3), .second, .val (.long oo), .second, .val (.long tt), .second, .val (.long uu), .second, .val (.ref b3), .val (.int (own_gt oo oo)), .val (.int (own_gt (oo + (1 : Int64)) oo)), .val (.int (own_gt tt oo)), .val (.int (own_gt uu oo)), .val (.int (1 : Int32)), .unset, .unset, .unset] [(.int (1 : Int32))])) _
          refine XS.goto X21.here hx rfl (pc0 := 114) (pc' := 118) rfl (hb hby at_114) (by decide) (by decide) ?_
          exact kt)⟩
  have pre25 : ∀ t, Steps p.tables e below (T23.setTop (mkF m 120 #[.val (.long qq1), .second, .val (.long qq2), .second, .val (.long qq3), .second, .val (.long oo), .second, .val (.long tt), .second, .val (.long uu), .second, .val (.ref b3), .val (.int (own_gt oo oo)), .val (.int (own_gt (oo + (1 : Int64)) oo)), .val (.int (own_gt tt oo)), .val (.int (own_gt uu oo)), .val (.int (1 : Int32)), .val (.int (1 : Int32)), .unset, .unset] [])) t → Steps p.tables e below (s₁.setTop (entryFrame m #[(.long qq1), (.long qq2), (.long qq3)] maxLocals)) t := fun t kt => pre23 t (by
    show Steps p.tables e below (T23.setTop (mkF m 118 #[.val (.long qq1), .second, .val (.long qq2), .second, .val (.long qq3), .second, .val (.long oo), .second, .val (.long tt), .second, .val (.long uu), .second, .val (.ref b3), .val (.int (own_gt oo oo)), .val (.int (own_gt (oo + (1 : Int64)) oo)), .val (.int (own_gt tt oo)), .val (.int (own_gt uu oo)), .val (.int (1 : Int32)), .unset, .unset, .unset] [(.int (1 : Int32))])) _
    refine XS.istore X23.here hx rfl (hb hby at_118) rfl (l' := #[.val (.long qq1), .second, .val (.long qq2), .second, .val (.long qq3), .second, .val (.long oo), .second, .val (.long tt), .second, .val (.long uu), .second, .val (.ref b3), .val (.int (own_gt oo oo)), .val (.int (own_gt (oo + (1 : Int64)) oo)), .val (.int (own_gt tt oo)), .val (.int (own_gt uu oo)), .val (.int (1 : Int32)), .val (.int (1 : Int32)), .unset, .unset]) rfl ?_
    exact kt)
  obtain ⟨T26, L26, X26, e26, N26, pre26⟩ : ∃ (T' : State) (L' : List Loc), Stand p l e room_1 (s.setVm T7.vm) m #[(.long qq1), (.long qq2), (.long qq3)] below meth c T' L' 5 21 ∧ T'.heap = T16.heap ∧ Fr n0 L' ∧ ∀ t, Steps p.tables e below (T'.setTop (mkF m 138 #[.val (.long qq1), .second, .val (.long qq2), .second, .val (.long qq3), .second, .val (.long oo), .second, .val (.long tt), .second, .val (.long uu), .second, .val (.ref b3), .val (.int (own_gt oo oo)), .val (.int (own_gt (oo + (1 : Int64)) oo)), .val (.int (own_gt tt oo)), .val (.int (own_gt uu oo)), .val (.int (1 : Int32)), .val (.int (1 : Int32)), .unset, .unset] [(.int (1 : Int32))])) t → Steps p.tables e below (s₁.setTop (entryFrame m #[(.long qq1), (.long qq2), (.long qq3)] maxLocals)) t := by
    have pre27 : ∀ t, Steps p.tables e below (T23.setTop (mkF m 125 #[.val (.long qq1), .second, .val (.long qq2), .second, .val (.long qq3), .second, .val (.long oo), .second, .val (.long tt), .second, .val (.long uu), .second, .val (.ref b3), .val (.int (own_gt oo oo)), .val (.int (own_gt (oo + (1 : Int64)) oo)), .val (.int (own_gt tt oo)), .val (.int (own_gt uu oo)), .val (.int (1 : Int32)), .val (.int (1 : Int32)), .unset, .unset] [(.int (lcmpW tt oo))])) t → Steps p.tables e below (s₁.setTop (entryFrame m #[(.long qq1), (.long qq2), (.long qq3)] maxLocals)) t := fun t kt => pre25 t (by
      show Steps p.tables e below (T23.setTop (mkF m 120 #[.val (.long qq1), .second, .val (.long qq2), .second, .val (.long qq3), .second, .val (.long oo), .second, .val (.long tt), .second, .val (.long uu), .second, .val (.ref b3), .val (.int (own_gt oo oo)), .val (.int (own_gt (oo + (1 : Int64)) oo)), .val (.int (own_gt tt oo)), .val (.int (own_gt uu oo)), .val (.int (1 : Int32)), .val (.int (1 : Int32)), .unset, .unset] [])) _
      refine XS.lload X23.here hx rfl (hb hby at_120) rfl ?_
      show Steps p.tables e below (T23.setTop (mkF m 122 #[.val (.long qq1), .second, .val (.long qq2), .second, .val (.long qq3), .second, .val (.long oo), .second, .val (.long tt), .second, .val (.long uu), .second, .val (.ref b3), .val (.int (own_gt oo oo)), .val (.int (own_gt (oo + (1 : Int64)) oo)), .val (.int (own_gt tt oo)), .val (.int (own_gt uu oo)), .val (.int (1 : Int32)), .val (.int (1 : Int32)), .unset, .unset] [(.long tt)])) _
      refine XS.lload X23.here hx rfl (hb hby at_122) rfl ?_
      show Steps p.tables e below (T23.setTop (mkF m 124 #[.val (.long qq1), .second, .val (.long qq2), .second, .val (.long qq3), .second, .val (.long oo), .second, .val (.long tt), .second, .val (.long uu), .second, .val (.ref b3), .val (.int (own_gt oo oo)), .val (.int (own_gt (oo + (1 : Int64)) oo)), .val (.int (own_gt tt oo)), .val (.int (own_gt uu oo)), .val (.int (1 : Int32)), .val (.int (1 : Int32)), .unset, .unset] [(.long oo), (.long tt)])) _
      refine XS.lcmp X23.here hx rfl (hb hby at_124) rfl ?_
      exact kt)
    by_cases hc125 : oo < tt
    · skip
      exact ⟨_, _, X23, e23, N23, fun t kt => pre27 t (by
          show Steps p.tables e below (T23.setTop (mkF m 125 #[.val (.long qq1), .second, .val (.long qq2), .second, .val (.long qq3), .second, .val (.long oo), .second, .val (.long tt), .second, .val (.long uu), .second, .val (.ref b3), .val (.int (own_gt oo oo)), .val (.int (own_gt (oo + (1 : Int64)) oo)), .val (.int (own_gt tt oo)), .val (.int (own_gt uu oo)), .val (.int (1 : Int32)), .val (.int (1 : Int32)), .unset, .unset] [(.int (lcmpW tt oo))])) _
          refine XS.ifYes X23.here hx rfl (pc0 := 125) (pc' := 133) rfl (hb hby at_125) rfl ((if0 _ _).trans (tlt ((lw_gt _ _).mpr hc125)).2.2.1) (by decide) (by decide) ?_
          show Steps p.tables e below (T23.setTop (mkF m 133 #[.val (.long qq1), .second, .val (.long qq2), .second, .val (.long qq3), .second, .val (.long oo), .second, .val (.long tt), .second, .val (.long uu), .second, .val (.ref b3), .val (.int (own_gt oo oo)), .val (.int (own_gt (oo + (1 : Int64)) oo)), .val (.int (own_gt tt oo)), .val (.int (own_gt uu oo)), .val (.int (1 : Int32)), .val (.int (1 : Int32)), .unset, .unset] [])) _
          refine XS.iconst X23.here hx rfl (hb hby at_133) ?_
          show Steps p.tables e below (T23.setTop (mkF m 134 #[.val (.long qq1), .second, .val (.long qq2), .second, .val (.long qq3), .second, .val (.long oo), .second, .val (.long tt), .second, .val (.long uu), .second, .val (.ref b3), .val (.int (own_gt oo oo)), .val (.int (own_gt (oo + (1 : Int64)) oo)), .val (.int (own_gt tt oo)), .val (.int (own_gt uu oo)), .val (.int (1 : Int32)), .val (.int (1 : Int32)), .unset, .unset] [(.int (1 : Int32))])) _
          refine XS.goto X23.here hx rfl (pc0 := 134) (pc' := 138) rfl (hb hby at_134) (by decide) (by decide) ?_
          exact kt)⟩
    · skip
      have hc130 : (own_gt tt oo) = (0 : Int32) := own_gt_no hc125
      exact ⟨_, _, X23, e23, N23, fun t kt => pre27 t (by
          show Steps p.tables e below (T23.setTop (mkF m 125 #[.val (.long qq1), .second, .val (.long qq2), .second, .val (.long qq3), .second, .val (.long oo), .second, .val (.long tt), .second, .val (.long uu), .second, .val (.ref b3), .val (.int (own_gt oo oo)), .val (.int (own_gt (oo + (1 : Int64)) oo)), .val (.int (own_gt tt oo)), .val (.int (own_gt uu oo)), .val (.int (1 : Int32)), .val (.int (1 : Int32)), .unset, .unset] [(.int (lcmpW tt oo))])) _
          refine XS.ifNo X23.here hx rfl (hb hby at_125) rfl ((if0 _ _).trans (flt (mt (lw_gt _ _).mp hc125)).2.2.1) ?_
          show Steps p.tables e below (T23.setTop (mkF m 128 #[.val (.long qq1), .second, .val (.long qq2), .second, .val (.long qq3), .second, .val (.long oo), .second, .val (.long tt), .second, .val (.long uu), .second, .val (.ref b3), .val (.int (own_gt oo oo)), .val (.int (own_gt (oo + (1 : Int64)) oo)), .val (.int (own_gt tt oo)), .val (.int (own_gt uu oo)), .val (.int (1 : Int32)), .val (.int (1 : Int32)), .unset, .unset] [])) _
          refine XS.iload X23.here hx rfl (hb hby at_128) rfl ?_
          show Steps p.tables e below (T23.setTop (mkF m 130 #[.val (.long qq1), .second, .val (.long qq2), .second, .val (.long qq3), .second, .val (.long oo), .second, .val (.long tt), .second, .val (.long uu), .second, .val (.ref b3), .val (.int (own_gt oo oo)), .val (.int (own_gt (oo + (1 : Int64)) oo)), .val (.int (own_gt tt oo)), .val (.int (own_gt uu oo)), .val (.int (1 : Int32)), .val (.int (1 : Int32)), .unset, .unset] [(.int (own_gt tt oo))])) _
          refine XS.ifNo X23.here hx rfl (hb hby at_130) rfl ((if0 _ _).trans (teq hc130).2) ?_
          show Steps p.tables e below (T23.setTop (mkF m 133 #[.val (.long qq1), .second, .val (.long qq2), .second, .val (.long qq3), .second, .val (.long oo), .second, .val (.long tt), .second, .val (.long uu), .second, .val (.ref b3), .val (.int (own_gt oo oo)), .val (.int (own_gt (oo + (1 : Int64)) oo)), .val (.int (own_gt tt oo)), .val (.int (own_gt uu oo)), .val (.int (1 : Int32)), .val (.int (1 : Int32)), .unset, .unset] [])) _
          refine XS.iconst X23.here hx rfl (hb hby at_133) ?_
          show Steps p.tables e below (T23.setTop (mkF m 134 #[.val (.long qq1), .second, .val (.long qq2), .second, .val (.long qq3), .second, .val (.long oo), .second, .val (.long tt), .second, .val (.long uu), .second, .val (.ref b3), .val (.int (own_gt oo oo)), .val (.int (own_gt (oo + (1 : Int64)) oo)), .val (.int (own_gt tt oo)), .val (.int (own_gt uu oo)), .val (.int (1 : Int32)), .val (.int (1 : Int32)), .unset, .unset] [(.int (1 : Int32))])) _
          refine XS.goto X23.here hx rfl (pc0 := 134) (pc' := 138) rfl (hb hby at_134) (by decide) (by decide) ?_
          exact kt)⟩
  have pre28 : ∀ t, Steps p.tables e below (T26.setTop (mkF m 140 #[.val (.long qq1), .second, .val (.long qq2), .second, .val (.long qq3), .second, .val (.long oo), .second, .val (.long tt), .second, .val (.long uu), .second, .val (.ref b3), .val (.int (own_gt oo oo)), .val (.int (own_gt (oo + (1 : Int64)) oo)), .val (.int (own_gt tt oo)), .val (.int (own_gt uu oo)), .val (.int (1 : Int32)), .val (.int (1 : Int32)), .val (.int (1 : Int32)), .unset] [])) t → Steps p.tables e below (s₁.setTop (entryFrame m #[(.long qq1), (.long qq2), (.long qq3)] maxLocals)) t := fun t kt => pre26 t (by
    show Steps p.tables e below (T26.setTop (mkF m 138 #[.val (.long qq1), .second, .val (.long qq2), .second, .val (.long qq3), .second, .val (.long oo), .second, .val (.long tt), .second, .val (.long uu), .second, .val (.ref b3), .val (.int (own_gt oo oo)), .val (.int (own_gt (oo + (1 : Int64)) oo)), .val (.int (own_gt tt oo)), .val (.int (own_gt uu oo)), .val (.int (1 : Int32)), .val (.int (1 : Int32)), .unset, .unset] [(.int (1 : Int32))])) _
    refine XS.istore X26.here hx rfl (hb hby at_138) rfl (l' := #[.val (.long qq1), .second, .val (.long qq2), .second, .val (.long qq3), .second, .val (.long oo), .second, .val (.long tt), .second, .val (.long uu), .second, .val (.ref b3), .val (.int (own_gt oo oo)), .val (.int (own_gt (oo + (1 : Int64)) oo)), .val (.int (own_gt tt oo)), .val (.int (own_gt uu oo)), .val (.int (1 : Int32)), .val (.int (1 : Int32)), .val (.int (1 : Int32)), .unset]) rfl ?_
    exact kt)
  obtain ⟨T29, L29, X29, e29, N29, pre29⟩ : ∃ (T' : State) (L' : List Loc), Stand p l e room_1 (s.setVm T7.vm) m #[(.long qq1), (.long qq2), (.long qq3)] below meth c T' L' 5 21 ∧ T'.heap = T16.heap ∧ Fr n0 L' ∧ ∀ t, Steps p.tables e below (T'.setTop (mkF m 158 #[.val (.long qq1), .second, .val (.long qq2), .second, .val (.long qq3), .second, .val (.long oo), .second, .val (.long tt), .second, .val (.long uu), .second, .val (.ref b3), .val (.int (own_gt oo oo)), .val (.int (own_gt (oo + (1 : Int64)) oo)), .val (.int (own_gt tt oo)), .val (.int (own_gt uu oo)), .val (.int (1 : Int32)), .val (.int (1 : Int32)), .val (.int (1 : Int32)), .unset] [(.int (1 : Int32))])) t → Steps p.tables e below (s₁.setTop (entryFrame m #[(.long qq1), (.long qq2), (.long qq3)] maxLocals)) t := by
    have pre30 : ∀ t, Steps p.tables e below (T26.setTop (mkF m 145 #[.val (.long qq1), .second, .val (.long qq2), .second, .val (.long qq3), .second, .val (.long oo), .second, .val (.long tt), .second, .val (.long uu), .second, .val (.ref b3), .val (.int (own_gt oo oo)), .val (.int (own_gt (oo + (1 : Int64)) oo)), .val (.int (own_gt tt oo)), .val (.int (own_gt uu oo)), .val (.int (1 : Int32)), .val (.int (1 : Int32)), .val (.int (1 : Int32)), .unset] [(.int (lcmpW tt oo))])) t → Steps p.tables e below (s₁.setTop (entryFrame m #[(.long qq1), (.long qq2), (.long qq3)] maxLocals)) t := fun t kt => pre28 t (by
      show Steps p.tables e below (T26.setTop (mkF m 140 #[.val (.long qq1), .second, .val (.long qq2), .second, .val (.long qq3), .second, .val (.long oo), .second, .val (.long tt), .second, .val (.long uu), .second, .val (.ref b3), .val (.int (own_gt oo oo)), .val (.int (own_gt (oo + (1 : Int64)) oo)), .val (.int (own_gt tt oo)), .val (.int (own_gt uu oo)), .val (.int (1 : Int32)), .val (.int (1 : Int32)), .val (.int (1 : Int32)), .unset] [])) _
      refine XS.lload X26.here hx rfl (hb hby at_140) rfl ?_
      show Steps p.tables e below (T26.setTop (mkF m 142 #[.val (.long qq1), .second, .val (.long qq2), .second, .val (.long qq3), .second, .val (.long oo), .second, .val (.long tt), .second, .val (.long uu), .second, .val (.ref b3), .val (.int (own_gt oo oo)), .val (.int (own_gt (oo + (1 : Int64)) oo)), .val (.int (own_gt tt oo)), .val (.int (own_gt uu oo)), .val (.int (1 : Int32)), .val (.int (1 : Int32)), .val (.int (1 : Int32)), .unset] [(.long tt)])) _
      refine XS.lload X26.here hx rfl (hb hby at_142) rfl ?_
      show Steps p.tables e below (T26.setTop (mkF m 144 #[.val (.long qq1), .second, .val (.long qq2), .second, .val (.long qq3), .second, .val (.long oo), .second, .val (.long tt), .second, .val (.long uu), .second, .val (.ref b3), .val (.int (own_gt oo oo)), .val (.int (own_gt (oo + (1 : Int64)) oo)), .val (.int (own_gt tt oo)), .val (.int (own_gt uu oo)), .val (.int (1 : Int32)), .val (.int (1 : Int32)), .val (.int (1 : Int32)), .unset] [(.long oo), (.long tt)])) _
      refine XS.lcmp X26.here hx rfl (hb hby at_144) rfl ?_
      exact kt)
    by_cases hc145 : oo < tt
    · skip
      have hc150 : ¬ ((own_gt tt oo) = (0 : Int32)) := own_gt_yes hc145
      exact ⟨_, _, X26, e26, N26, fun t kt => pre30 t (by
          show Steps p.tables e below (T26.setTop (mkF m 145 #[.val (.long qq1), .second, .val (.long qq2), .second, .val (.long qq3), .second, .val (.long oo), .second, .val (.long tt), .second, .val (.long uu), .second, .val (.ref b3), .val (.int (own_gt oo oo)), .val (.int (own_gt (oo + (1 : Int64)) oo)), .val (.int (own_gt tt oo)), .val (.int (own_gt uu oo)), .val (.int (1 : Int32)), .val (.int (1 : Int32)), .val (.int (1 : Int32)), .unset] [(.int (lcmpW tt oo))])) _
          refine XS.ifNo X26.here hx rfl (hb hby at_145) rfl ((if0 _ _).trans (tlt ((lw_gt _ _).mpr hc145)).2.2.2) ?_
          show Steps p.tables e below (T26.setTop (mkF m 148 #[.val (.long qq1), .second, .val (.long qq2), .second, .val (.long qq3), .second, .val (.long oo), .second, .val (.long tt), .second, .val (.long uu), .second, .val (.ref b3), .val (.int (own_gt oo oo)), .val (.int (own_gt (oo + (1 : Int64)) oo)), .val (.int (own_gt tt oo)), .val (.int (own_gt uu oo)), .val (.int (1 : Int32)), .val (.int (1 : Int32)), .val (.int (1 : Int32)), .unset] [])) _
          refine XS.iload X26.here hx rfl (hb hby at_148) rfl ?_
          show Steps p.tables e below (T26.setTop (mkF m 150 #[.val (.long qq1), .second, .val (.long qq2), .second, .val (.long qq3), .second, .val (.long oo), .second, .val (.long tt), .second, .val (.long uu), .second, .val (.ref b3), .val (.int (own_gt oo oo)), .val (.int (own_gt (oo + (1 : Int64)) oo)), .val (.int (own_gt tt oo)), .val (.int (own_gt uu oo)), .val (.int (1 : Int32)), .val (.int (1 : Int32)), .val (.int (1 : Int32)), .unset] [(.int (own_gt tt oo))])) _
          refine XS.ifNo X26.here hx rfl (hb hby at_150) rfl ((if0 _ _).trans (feq hc150).1) ?_
          show Steps p.tables e below (T26.setTop (mkF m 153 #[.val (.long qq1), .second, .val (.long qq2), .second, .val (.long qq3), .second, .val (.long oo), .second, .val (.long tt), .second, .val (.long uu), .second, .val (.ref b3), .val (.int (own_gt oo oo)), .val (.int (own_gt (oo + (1 : Int64)) oo)), .val (.int (own_gt tt oo)), .val (.int (own_gt uu oo)), .val (.int (1 : Int32)), .val (.int (1 : Int32)), .val (.int (1 : Int32)), .unset] [])) _
          refine XS.iconst X26.here hx rfl (hb hby at_153) ?_
          show Steps p.tables e below (T26.setTop (mkF m 154 #[.val (.long qq1), .second, .val (.long qq2), .second, .val (.long qq3), .second, .val (.long oo), .second, .val (.long tt), .second, .val (.long uu), .second, .val (.ref b3), .val (.int (own_gt oo oo)), .val (.int (own_gt (oo + (1 : Int64)) oo)), .val (.int (own_gt tt oo)), .val (.int (own_gt uu oo)), .val (.int (1 : Int32)), .val (.int (1 : Int32)), .val (.int (1 : Int32)), .unset] [(.int (1 : Int32))])) _
          refine XS.goto X26.here hx rfl (pc0 := 154) (pc' := 158) rfl (hb hby at_154) (by decide) (by decide) ?_
          exact kt)⟩
    · skip
      exact ⟨_, _, X26, e26, N26, fun t kt => pre30 t (by
          show Steps p.tables e below (T26.setTop (mkF m 145 #[.val (.long qq1), .second, .val (.long qq2), .second, .val (.long qq3), .second, .val (.long oo), .second, .val (.long tt), .second, .val (.long uu), .second, .val (.ref b3), .val (.int (own_gt oo oo)), .val (.int (own_gt (oo + (1 : Int64)) oo)), .val (.int (own_gt tt oo)), .val (.int (own_gt uu oo)), .val (.int (1 : Int32)), .val (.int (1 : Int32)), .val (.int (1 : Int32)), .unset] [(.int (lcmpW tt oo))])) _
          refine XS.ifYes X26.here hx rfl (pc0 := 145) (pc' := 153) rfl (hb hby at_145) rfl ((if0 _ _).trans (flt (mt (lw_gt _ _).mp hc145)).2.2.2) (by decide) (by decide) ?_
          show Steps p.tables e below (T26.setTop (mkF m 153 #[.val (.long qq1), .second, .val (.long qq2), .second, .val (.long qq3), .second, .val (.long oo), .second, .val (.long tt), .second, .val (.long uu), .second, .val (.ref b3), .val (.int (own_gt oo oo)), .val (.int (own_gt (oo + (1 : Int64)) oo)), .val (.int (own_gt tt oo)), .val (.int (own_gt uu oo)), .val (.int (1 : Int32)), .val (.int (1 : Int32)), .val (.int (1 : Int32)), .unset] [])) _
          refine XS.iconst X26.here hx rfl (hb hby at_153) ?_
          show Steps p.tables e below (T26.setTop (mkF m 154 #[.val (.long qq1), .second, .val (.long qq2), .second, .val (.long qq3), .second, .val (.long oo), .second, .val (.long tt), .second, .val (.long uu), .second, .val (.ref b3), .val (.int (own_gt oo oo)), .val (.int (own_gt (oo + (1 : Int64)) oo)), .val (.int (own_gt tt oo)), .val (.int (own_gt uu oo)), .val (.int (1 : Int32)), .val (.int (1 : Int32)), .val (.int (1 : Int32)), .unset] [(.int (1 : Int32))])) _
          refine XS.goto X26.here hx rfl (pc0 := 154) (pc' := 158) rfl (hb hby at_154) (by decide) (by decide) ?_
          exact kt)⟩
  have hc162 : ¬ ((1 : Int32) = (0 : Int32)) := by decide
  have hc167 : ¬ ((1 : Int32) = (0 : Int32)) := by decide
  have hc172 : ¬ ((1 : Int32) = (0 : Int32)) := by decide
  have hc177 : ¬ ((1 : Int32) = (0 : Int32)) := by decide
  obtain ⟨fs, hr, hrun, hended, qe1, qe2, qe3, qe4⟩ := Stand.leaveW (s := s) (vm₁ := T7.vm) X29 hS7 (by rw [e29]; exact kz16) (v := some (.int (1 : Int32))) (fun h => by rw [Bd.returns] at h; cases h)
  refine ⟨_, _, pre29 _ ?_, hrun, hended, _, _, rfl, ?_, qe1, qe2, qe3, qe4.mono (by decide) (by decide)⟩
  · show Steps p.tables e below (T29.setTop (mkF m 158 #[.val (.long qq1), .second, .val (.long qq2), .second, .val (.long qq3), .second, .val (.long oo), .second, .val (.long tt), .second, .val (.long uu), .second, .val (.ref b3), .val (.int (own_gt oo oo)), .val (.int (own_gt (oo + (1 : Int64)) oo)), .val (.int (own_gt tt oo)), .val (.int (own_gt uu oo)), .val (.int (1 : Int32)), .val (.int (1 : Int32)), .val (.int (1 : Int32)), .unset] [(.int (1 : Int32))])) _
    refine XS.istore X29.here hx rfl (hb hby at_158) rfl (l' := #[.val (.long qq1), .second, .val (.long qq2), .second, .val (.long qq3), .second, .val (.long oo), .second, .val (.long tt), .second, .val (.long uu), .second, .val (.ref b3), .val (.int (own_gt oo oo)), .val (.int (own_gt (oo + (1 : Int64)) oo)), .val (.int (own_gt tt oo)), .val (.int (own_gt uu oo)), .val (.int (1 : Int32)), .val (.int (1 : Int32)), .val (.int (1 : Int32)), .val (.int (1 : Int32))]) rfl ?_
    show Steps p.tables e below (T29.setTop (mkF m 160 #[.val (.long qq1), .second, .val (.long qq2), .second, .val (.long qq3), .second, .val (.long oo), .second, .val (.long tt), .second, .val (.long uu), .second, .val (.ref b3), .val (.int (own_gt oo oo)), .val (.int (own_gt (oo + (1 : Int64)) oo)), .val (.int (own_gt tt oo)), .val (.int (own_gt uu oo)), .val (.int (1 : Int32)), .val (.int (1 : Int32)), .val (.int (1 : Int32)), .val (.int (1 : Int32))] [])) _
    refine XS.iload X29.here hx rfl (hb hby at_160) rfl ?_
    show Steps p.tables e below (T29.setTop (mkF m 162 #[.val (.long qq1), .second, .val (.long qq2), .second, .val (.long qq3), .second, .val (.long oo), .second, .val (.long tt), .second, .val (.long uu), .second, .val (.ref b3), .val (.int (own_gt oo oo)), .val (.int (own_gt (oo + (1 : Int64)) oo)), .val (.int (own_gt tt oo)), .val (.int (own_gt uu oo)), .val (.int (1 : Int32)), .val (.int (1 : Int32)), .val (.int (1 : Int32)), .val (.int (1 : Int32))] [(.int (1 : Int32))])) _
    refine XS.ifNo X29.here hx rfl (hb hby at_162) rfl ((if0 _ _).trans (feq hc162).1) ?_
    show Steps p.tables e below (T29.setTop (mkF m 165 #[.val (.long qq1), .second, .val (.long qq2), .second, .val (.long qq3), .second, .val (.long oo), .second, .val (.long tt), .second, .val (.long uu), .second, .val (.ref b3), .val (.int (own_gt oo oo)), .val (.int (own_gt (oo + (1 : Int64)) oo)), .val (.int (own_gt tt oo)), .val (.int (own_gt uu oo)), .val (.int (1 : Int32)), .val (.int (1 : Int32)), .val (.int (1 : Int32)), .val (.int (1 : Int32))] [])) _
    refine XS.iload X29.here hx rfl (hb hby at_165) rfl ?_
    show Steps p.tables e below (T29.setTop (mkF m 167 #[.val (.long qq1), .second, .val (.long qq2), .second, .val (.long qq3), .second, .val (.long oo), .second, .val (.long tt), .second, .val (.long uu), .second, .val (.ref b3), .val (.int (own_gt oo oo)), .val (.int (own_gt (oo + (1 : Int64)) oo)), .val (.int (own_gt tt oo)), .val (.int (own_gt uu oo)), .val (.int (1 : Int32)), .val (.int (1 : Int32)), .val (.int (1 : Int32)), .val (.int (1 : Int32))] [(.int (1 : Int32))])) _
    refine XS.ifNo X29.here hx rfl (hb hby at_167) rfl ((if0 _ _).trans (feq hc167).1) ?_
    show Steps p.tables e below (T29.setTop (mkF m 170 #[.val (.long qq1), .second, .val (.long qq2), .second, .val (.long qq3), .second, .val (.long oo), .second, .val (.long tt), .second, .val (.long uu), .second, .val (.ref b3), .val (.int (own_gt oo oo)), .val (.int (own_gt (oo + (1 : Int64)) oo)), .val (.int (own_gt tt oo)), .val (.int (own_gt uu oo)), .val (.int (1 : Int32)), .val (.int (1 : Int32)), .val (.int (1 : Int32)), .val (.int (1 : Int32))] [])) _
    refine XS.iload X29.here hx rfl (hb hby at_170) rfl ?_
    show Steps p.tables e below (T29.setTop (mkF m 172 #[.val (.long qq1), .second, .val (.long qq2), .second, .val (.long qq3), .second, .val (.long oo), .second, .val (.long tt), .second, .val (.long uu), .second, .val (.ref b3), .val (.int (own_gt oo oo)), .val (.int (own_gt (oo + (1 : Int64)) oo)), .val (.int (own_gt tt oo)), .val (.int (own_gt uu oo)), .val (.int (1 : Int32)), .val (.int (1 : Int32)), .val (.int (1 : Int32)), .val (.int (1 : Int32))] [(.int (1 : Int32))])) _
    refine XS.ifNo X29.here hx rfl (hb hby at_172) rfl ((if0 _ _).trans (feq hc172).1) ?_
    show Steps p.tables e below (T29.setTop (mkF m 175 #[.val (.long qq1), .second, .val (.long qq2), .second, .val (.long qq3), .second, .val (.long oo), .second, .val (.long tt), .second, .val (.long uu), .second, .val (.ref b3), .val (.int (own_gt oo oo)), .val (.int (own_gt (oo + (1 : Int64)) oo)), .val (.int (own_gt tt oo)), .val (.int (own_gt uu oo)), .val (.int (1 : Int32)), .val (.int (1 : Int32)), .val (.int (1 : Int32)), .val (.int (1 : Int32))] [])) _
    refine XS.iload X29.here hx rfl (hb hby at_175) rfl ?_
    show Steps p.tables e below (T29.setTop (mkF m 177 #[.val (.long qq1), .second, .val (.long qq2), .second, .val (.long qq3), .second, .val (.long oo), .second, .val (.long tt), .second, .val (.long uu), .second, .val (.ref b3), .val (.int (own_gt oo oo)), .val (.int (own_gt (oo + (1 : Int64)) oo)), .val (.int (own_gt tt oo)), .val (.int (own_gt uu oo)), .val (.int (1 : Int32)), .val (.int (1 : Int32)), .val (.int (1 : Int32)), .val (.int (1 : Int32))] [(.int (1 : Int32))])) _
    refine XS.ifNo X29.here hx rfl (hb hby at_177) rfl ((if0 _ _).trans (feq hc177).1) ?_
    show Steps p.tables e below (T29.setTop (mkF m 180 #[.val (.long qq1), .second, .val (.long qq2), .second, .val (.long qq3), .second, .val (.long oo), .second, .val (.long tt), .second, .val (.long uu), .second, .val (.ref b3), .val (.int (own_gt oo oo)), .val (.int (own_gt (oo + (1 : Int64)) oo)), .val (.int (own_gt tt oo)), .val (.int (own_gt uu oo)), .val (.int (1 : Int32)), .val (.int (1 : Int32)), .val (.int (1 : Int32)), .val (.int (1 : Int32))] [])) _
    refine XS.iconst X29.here hx rfl (hb hby at_180) ?_
    show Steps p.tables e below (T29.setTop (mkF m 181 #[.val (.long qq1), .second, .val (.long qq2), .second, .val (.long qq3), .second, .val (.long oo), .second, .val (.long tt), .second, .val (.long uu), .second, .val (.ref b3), .val (.int (own_gt oo oo)), .val (.int (own_gt (oo + (1 : Int64)) oo)), .val (.int (own_gt tt oo)), .val (.int (own_gt uu oo)), .val (.int (1 : Int32)), .val (.int (1 : Int32)), .val (.int (1 : Int32)), .val (.int (1 : Int32))] [(.int (1 : Int32))])) _
    refine XS.goto X29.here hx rfl (pc0 := 181) (pc' := 185) rfl (hb hby at_181) (by decide) (by decide) ?_
    show Steps p.tables e below (T29.setTop (mkF m 185 #[.val (.long qq1), .second, .val (.long qq2), .second, .val (.long qq3), .second, .val (.long oo), .second, .val (.long tt), .second, .val (.long uu), .second, .val (.ref b3), .val (.int (own_gt oo oo)), .val (.int (own_gt (oo + (1 : Int64)) oo)), .val (.int (own_gt tt oo)), .val (.int (own_gt uu oo)), .val (.int (1 : Int32)), .val (.int (1 : Int32)), .val (.int (1 : Int32)), .val (.int (1 : Int32))] [(.int (1 : Int32))])) _
    exact retN X29 hx (t := .boolean) Bd.returns (by simp) (hb hby at_185) hr
  · show Q0 Z qq1 qq2 qq3 dd h0 n0 _ T29.heap _
    rw [e29]
    exact ⟨rfl, N29⟩
set_option maxRecDepth 65536 in
set_option maxHeartbeats 40000000 in
theorem comes_1 {Post : Tables → Env → Array Value → State → Outcome → State → Prop} (hpost : ∀ tb e args s v u, (limb_1_1.after args s (.returned v) u = true ∧ limb_1_2.after args s (.returned v) u = true ∧ True) → ReturnedEndW s (.returned v) u (Jvm.fieldLocs frame_1_writes args s ++ Jvm.arrayLocs frame_1_arrays args s ++ Jvm.staticLocs frame_1_statics s) 16 2176 → Post tb e args s (.returned v) u) :
    ArmFor flags0 classFile x code maxLocals ret World_1 tables_1 room_1 Calls_1 rest_1 Pre_1 Post := by
  intro l hfl _ _ p e ha hc hk s m args below hf hA hF happ hP
  obtain ⟨hcalls, hrest, hpre⟩ := hP
  obtain ⟨-, -, -, hnamed, -, -, -, hat⟩ := (Spec.applies_iff hf).mp happ
  obtain ⟨hg, hn⟩ := and_e (Cond.before_iff.mp (show (Jvm.Cond.and given_1 narrow_1).before args s = true from hpre))
  obtain ⟨g1, g2⟩ := and_e hg
  obtain ⟨g3, g4⟩ := and_e g2
  obtain ⟨g5, g6⟩ := and_e g4
  obtain ⟨w0, w1, w2, rfl⟩ : ∃ w0 w1 w2 : Value, args = #[w0, w1, w2] := by
    have hs : args.size = 3 := by simpa [Cond.value, given_1] using g1
    obtain ⟨L⟩ := args
    match L, hs with
    | [w0, w1, w2], _ => exact ⟨w0, w1, w2, rfl⟩
  have hw := fun d (hd : d ∈ tables_1) => atoms_spec (ws := Jvm.Cond.code x code maxLocals ret :: tables_1) hat d (List.mem_cons_of_mem _ hd)
  have hfit : Fit s := fun {y c} hc i hi => by
    obtain ⟨ha, rfl⟩ := Array.getElem?_eq_some_iff.mp hc
    have q := List.all_eq_true.mp ((Array.all_eq_true_iff_forall_mem.mp hF) _ (Array.getElem_mem ha)) i (List.mem_range.mpr hi)
    simpa [Array.getElem?_eq_getElem hi] using q
  obtain ⟨i0, ei0⟩ := isL_v g3
  obtain rfl : w0 = (.long i0) := Option.some.inj ei0
  obtain ⟨i1, ei1⟩ := isL_v g5
  obtain rfl : w1 = (.long i1) := Option.some.inj ei1
  obtain ⟨i2, ei2⟩ := isL_v g6
  obtain rfl : w2 = (.long i2) := Option.some.inj ei2
  obtain ⟨xd, evd⟩ := exa_v hn
  have staD := Sta.start evd (Or.inr ⟨(hw _ (List.mem_of_getElem? (i := 15) rfl)), (hw _ (List.mem_of_getElem? (i := 16) rfl))⟩)
  obtain ⟨n, o, h1, h2, h3, _, L, rfl, ⟨rfl, N⟩, hq⟩ := rm0 l s _ hw tables_1 i0 i1 i2 xd s.heap s.heap.size (Nat.le_refl _) (Old.start s) staD p e ha hc hk s m _ below hf ((Spec.applies_iff_loose hf).mp happ).1 ⟨rfl, State.Warmed39.refl s, rfl⟩ trivial
  refine ⟨n, _, h1, h2, h3, hpost _ _ _ _ _ _ ⟨Cond.after_iff.mpr rfl, Cond.after_iff.mpr (eq_i res_at (Term.int_eval (1)) rfl), trivial⟩ ⟨hq.1, hq.2.1, hq.2.2.1, (hq.2.2.2.sift fun y hy => Or.inr (N y hy)).mono (by decide) (by decide)⟩⟩
theorem main_1_1 : Claimed_1_1 := comes_1 fun _ _ _ _ _ _ h hF => ⟨h.1, hF⟩
theorem main_1_2 : Claimed_1_2 := comes_1 fun _ _ _ _ _ _ h hF => ⟨h.2.1, hF⟩
end Jvm.Pilot.@@N@@
namespace Jvm.Pilot.@@N@@
open Jvm Jvm.ClassFile Sem Op Lib Jvm.Free Jvm.Stand Jvm.Pilot.@@N@@.Jvm.D
/-! MADE BY PROGRAM (witnessworld.py) out of the Statement's table words and the real class files: 17 classes; the members and pool entries that the words name. The judged class is class 1, her method 1. -/
namespace start1
open Jvm.ClassFile
def u (s : String) : CpInfo := .utf8 (stringToUtf16 s)
/-- a pool by its gaps: so many unusable entries, then the entry; so many at the end -/
def gap : Nat → List CpInfo → List CpInfo
  | 0, r => r
  | n + 1, r => .unusable :: gap n r
def poolList (es : List (Nat × CpInfo)) (last : Nat) : List CpInfo := es.foldr (fun e r => gap e.1 (e.2 :: r)) (gap last [])
def pool (es : List (Nat × CpInfo)) (last : Nat) : Array CpInfo := ⟨poolList es last⟩
def fileOf (pool : Array CpInfo) (this : Nat) (attrs : Array Attribute := #[]) (ms : Array MethodInfo := #[]) (fl : Nat := 33) (sup : Nat := 0) (ifs : Array Nat := #[]) (fds : Array FieldInfo := #[]) : ClassFile where
  minorVersion := 0
  majorVersion := 65
  constantPool := pool
  accessFlags := fl
  thisClass := this
  superClass := sup
  interfaces := ifs
  fields := fds
  methods := ms
  attributes := attrs
def plain (name : String) (sup : Option ClassId) : Class where
  name := name
  kind := .ordinary
  loader := none
  accessFlags := 33
  super := sup
  interfaces := #[]
  cf := none
  fields := #[]
  methods := #[]
  instanceTypes := #[]
  staticTypes := #[]
  resolved := #[]
  callSites := []
  init := .initialized
  statics := none
  mirror := none

def pool0 : Array CpInfo := pool [(5, u "<init>"), (0, u "()V"), (1, .class_ 10), (1, u "java/lang/Object")] 113

def k0c0 : Code := { maxStack := 0, maxLocals := 1, code := object_method_1_code, exceptionTable := #[], attributes := #[] }
def k0m0 : Method := { name := "<init>", desc := "()V", sig := { parameters := [], returnType := none }, accessFlags := 1, code := some k0c0 }
/-- java/lang/Object -/
def k0 : Class := { plain "java/lang/Object" none with
  accessFlags := 33
  interfaces := #[]
  cf := some (fileOf pool0 8 #[] #[{ accessFlags := 1, nameIndex := 5, descriptorIndex := 6, attributes := #[] }] 33 0 #[] #[])
  fields := #[]
  methods := #[k0m0]
  instanceTypes := #[]
  staticTypes := #[]
  resolved := Array.replicate 124 none
  statics := none }

def pool1 : Array CpInfo := pool [(2, .class_ 4), (1, u "java/lang/Object"), (0, u "<init>"), (0, u "()V"), (0, .class_ 8), (0, u "com/example/corrente/corrente/LandmarkWindowHoldsPinLaw"), (0, .long 400000000000000), (3, .long 9223372036854775807), (1, .class_ 16), (0, u "com/example/corrente/corrente/LandmarkWindow"), (0, .string 18), (0, u "n"), (0, .string 20), (0, u "s"), (0, .fieldref 22 23), (0, .class_ 24), (0, .nameAndType 25 26), (0, u "com/example/corrente/corrente/ReportPolicy"), (0, u "DEFAULT"), (0, u "Lcom/example/corrente/corrente/ReportPolicy;"), (0, .methodref 15 28), (0, .nameAndType 5 29), (0, u "(Ljava/lang/String;Ljava/lang/String;JLcom/example/corrente/corrente/ReportPolicy;Ljava/lang/String;)V"), (0, .methodref 15 31), (0, .nameAndType 32 33), (0, u "holds"), (0, u "(J)Z"), (0, u "M"), (0, u "J"), (3, u "law"), (0, u "(JJJ)Z")] 3

def k1m0 : Method := { name := "<init>", desc := "()V", sig := { parameters := [], returnType := none }, accessFlags := 1, code := none }
def k1c1 : Code := { maxStack := 8, maxLocals := 21, code := code, exceptionTable := #[], attributes := #[] }
def k1m1 : Method := { name := "law", desc := "(JJJ)Z", sig := { parameters := [.long, .long, .long], returnType := some .boolean }, accessFlags := 9, code := some k1c1 }
/-- com/example/corrente/corrente/LandmarkWindowHoldsPinLaw -/
def k1 : Class := { plain "com/example/corrente/corrente/LandmarkWindowHoldsPinLaw" (some 0) with
  accessFlags := 49
  interfaces := #[]
  cf := some (fileOf pool1 7 #[] #[{ accessFlags := 1, nameIndex := 5, descriptorIndex := 6, attributes := #[] }, { accessFlags := 9, nameIndex := 39, descriptorIndex := 40, attributes := #[] }] 49 2 #[] #[{ accessFlags := 26, nameIndex := 34, descriptorIndex := 35, attributes := #[] }])
  fields := #[{ name := "M", type := .long, accessFlags := 26, slot := 0, constantValue := 0 }]
  methods := #[k1m0, k1m1]
  instanceTypes := #[]
  staticTypes := #[.long]
  resolved := Array.replicate 44 none
  statics := none }

def pool2 : Array CpInfo := pool [(1, .methodref 2 3), (0, .class_ 4), (0, .nameAndType 5 6), (0, u "java/lang/Object"), (0, u "<init>"), (0, u "()V"), (0, .class_ 8), (0, u "java/lang/Record")] 13

def k2c0 : Code := { maxStack := 1, maxLocals := 1, code := jdk_30_method_1_code, exceptionTable := #[], attributes := #[] }
def k2m0 : Method := { name := "<init>", desc := "()V", sig := { parameters := [], returnType := none }, accessFlags := 4, code := some k2c0 }
/-- java/lang/Record -/
def k2 : Class := { plain "java/lang/Record" (some 0) with
  accessFlags := 1057
  interfaces := #[]
  cf := some (fileOf pool2 7 #[] #[{ accessFlags := 4, nameIndex := 5, descriptorIndex := 6, attributes := #[] }] 1057 2 #[] #[])
  fields := #[]
  methods := #[k2m0]
  instanceTypes := #[]
  staticTypes := #[]
  resolved := Array.replicate 22 none
  statics := none }

def pool3 : Array CpInfo := pool [(1, .class_ 2), (0, u "com/example/corrente/corrente/Window"), (0, .class_ 4), (0, u "java/lang/Object")] 17

/-- com/example/corrente/corrente/Window -/
def k3 : Class := { plain "com/example/corrente/corrente/Window" (some 0) with
  accessFlags := 1536
  interfaces := #[]
  cf := some (fileOf pool3 1 #[] #[] 1536 3 #[] #[])
  fields := #[]
  methods := #[]
  instanceTypes := #[]
  staticTypes := #[]
  resolved := Array.replicate 22 none
  statics := none }

def pool4 : Array CpInfo := pool [(1, .methodref 2 3), (0, .class_ 4), (0, .nameAndType 5 6), (0, u "java/lang/Record"), (0, u "<init>"), (0, u "()V"), (0, .fieldref 8 9), (0, .class_ 10), (0, .nameAndType 11 12), (0, u "com/example/corrente/corrente/LandmarkWindow"), (0, u "name"), (0, u "Ljava/lang/String;"), (0, .fieldref 8 14), (0, .nameAndType 15 12), (0, u "stream"), (0, .fieldref 8 17), (0, .nameAndType 18 19), (0, u "origin"), (0, u "J"), (0, .fieldref 8 21), (0, .nameAndType 22 23), (0, u "report"), (0, u "Lcom/example/corrente/corrente/ReportPolicy;"), (0, .fieldref 8 25), (0, .nameAndType 26 12), (0, u "ontology"), (12, .class_ 40), (0, u "com/example/corrente/corrente/Window"), (0, u "(Ljava/lang/String;Ljava/lang/String;JLcom/example/corrente/corrente/ReportPolicy;Ljava/lang/String;)V"), (3, u "holds"), (0, u "(J)Z")] 30

def k4c0 : Code := { maxStack := 3, maxLocals := 7, code := prog_4_method_1_code, exceptionTable := #[], attributes := #[] }
def k4m0 : Method := { name := "<init>", desc := "(Ljava/lang/String;Ljava/lang/String;JLcom/example/corrente/corrente/ReportPolicy;Ljava/lang/String;)V", sig := { parameters := [(.object "java/lang/String"), (.object "java/lang/String"), .long, (.object "com/example/corrente/corrente/ReportPolicy"), (.object "java/lang/String")], returnType := none }, accessFlags := 0, code := some k4c0 }
def k4c1 : Code := { maxStack := 4, maxLocals := 3, code := prog_4_method_2_code, exceptionTable := #[], attributes := #[] }
def k4m1 : Method := { name := "holds", desc := "(J)Z", sig := { parameters := [.long], returnType := some .boolean }, accessFlags := 1, code := some k4c1 }
/-- com/example/corrente/corrente/LandmarkWindow -/
def k4 : Class := { plain "com/example/corrente/corrente/LandmarkWindow" (some 2) with
  accessFlags := 48
  interfaces := #[3]
  cf := some (fileOf pool4 8 #[] #[{ accessFlags := 0, nameIndex := 5, descriptorIndex := 41, attributes := #[] }, { accessFlags := 1, nameIndex := 45, descriptorIndex := 46, attributes := #[] }] 48 2 #[39] #[{ accessFlags := 18, nameIndex := 11, descriptorIndex := 12, attributes := #[] }, { accessFlags := 18, nameIndex := 15, descriptorIndex := 12, attributes := #[] }, { accessFlags := 18, nameIndex := 18, descriptorIndex := 19, attributes := #[] }, { accessFlags := 18, nameIndex := 22, descriptorIndex := 23, attributes := #[] }, { accessFlags := 18, nameIndex := 26, descriptorIndex := 12, attributes := #[] }])
  fields := #[{ name := "name", type := (.object "java/lang/String"), accessFlags := 18, slot := 0, constantValue := 0 }, { name := "stream", type := (.object "java/lang/String"), accessFlags := 18, slot := 1, constantValue := 0 }, { name := "origin", type := .long, accessFlags := 18, slot := 2, constantValue := 0 }, { name := "report", type := (.object "com/example/corrente/corrente/ReportPolicy"), accessFlags := 18, slot := 3, constantValue := 0 }, { name := "ontology", type := (.object "java/lang/String"), accessFlags := 18, slot := 4, constantValue := 0 }]
  methods := #[k4m0, k4m1]
  instanceTypes := #[(.object "java/lang/String"), (.object "java/lang/String"), .long, (.object "com/example/corrente/corrente/ReportPolicy"), (.object "java/lang/String")]
  staticTypes := #[]
  resolved := Array.replicate 77 none
  statics := none }

def pool5 : Array CpInfo := pool [(1, .class_ 2), (0, u "java/io/Serializable"), (0, .class_ 4), (0, u "java/lang/Object")] 2

/-- java/io/Serializable -/
def k5 : Class := { plain "java/io/Serializable" (some 0) with
  accessFlags := 1537
  interfaces := #[]
  cf := some (fileOf pool5 1 #[] #[] 1537 3 #[] #[])
  fields := #[]
  methods := #[]
  instanceTypes := #[]
  staticTypes := #[]
  resolved := Array.replicate 7 none
  statics := none }

def pool6 : Array CpInfo := pool [(1, .class_ 2), (0, u "java/lang/Comparable"), (0, .class_ 4), (0, u "java/lang/Object")] 7

/-- java/lang/Comparable -/
def k6 : Class := { plain "java/lang/Comparable" (some 0) with
  accessFlags := 1537
  interfaces := #[]
  cf := some (fileOf pool6 1 #[] #[] 1537 3 #[] #[])
  fields := #[]
  methods := #[]
  instanceTypes := #[]
  staticTypes := #[]
  resolved := Array.replicate 12 none
  statics := none }

def pool7 : Array CpInfo := pool [(2, .class_ 4), (1, u "java/lang/CharSequence"), (42, .class_ 48), (0, u "java/lang/CharSequence$1CodePointIterator"), (10, .class_ 60), (0, u "java/lang/CharSequence$1CharIterator"), (5, .class_ 67), (0, u "java/lang/Object")] 63

/-- java/lang/CharSequence -/
def k7 : Class := { plain "java/lang/CharSequence" (some 0) with
  accessFlags := 1537
  interfaces := #[]
  cf := some (fileOf pool7 2 #[.nestMembers #[47, 59]] #[] 1537 66 #[] #[])
  fields := #[]
  methods := #[]
  instanceTypes := #[]
  staticTypes := #[]
  resolved := Array.replicate 131 none
  statics := none }

def pool8 : Array CpInfo := pool [(1, .class_ 2), (0, u "java/lang/constant/Constable"), (0, .class_ 4), (0, u "java/lang/Object")] 6

/-- java/lang/constant/Constable -/
def k8 : Class := { plain "java/lang/constant/Constable" (some 0) with
  accessFlags := 1537
  interfaces := #[]
  cf := some (fileOf pool8 1 #[] #[] 1537 3 #[] #[])
  fields := #[]
  methods := #[]
  instanceTypes := #[]
  staticTypes := #[]
  resolved := Array.replicate 11 none
  statics := none }

def pool9 : Array CpInfo := pool [(1, .class_ 2), (0, u "java/lang/constant/ConstantDesc"), (0, .class_ 4), (0, u "java/lang/Object")] 32

/-- java/lang/constant/ConstantDesc -/
def k9 : Class := { plain "java/lang/constant/ConstantDesc" (some 0) with
  accessFlags := 1537
  interfaces := #[]
  cf := some (fileOf pool9 1 #[] #[] 1537 3 #[] #[])
  fields := #[]
  methods := #[]
  instanceTypes := #[]
  staticTypes := #[]
  resolved := Array.replicate 37 none
  statics := none }

def pool10 : Array CpInfo := pool [(2, .class_ 4), (1, u "java/lang/Object"), (0, u "<init>"), (0, u "()V"), (3, .class_ 12), (1, u "java/lang/String"), (0, u "value"), (0, u "[B"), (2, u "coder"), (0, u "B"), (2, u "hash"), (0, u "I"), (2, u "hashIsZero"), (0, u "Z"), (13, u "COMPACT_STRINGS"), (534, .class_ 576), (0, u "java/lang/CharSequence"), (22, u "CASE_INSENSITIVE_ORDER"), (0, u "Ljava/util/Comparator;"), (500, u "serialPersistentFields"), (0, u "[Ljava/io/ObjectStreamField;"), (0, .class_ 1104), (0, u "java/lang/String$CaseInsensitiveComparator"), (1, .class_ 1107), (0, u "java/io/Serializable"), (0, .class_ 1109), (0, u "java/lang/Comparable"), (0, .class_ 1111), (0, u "java/lang/constant/Constable"), (0, .class_ 1113), (0, u "java/lang/constant/ConstantDesc"), (2, u "serialVersionUID"), (0, u "J"), (3, u "REPL"), (0, u "C"), (2, u "LATIN1"), (1, u "UTF16")] 323

def k10m0 : Method := { name := "<init>", desc := "()V", sig := { parameters := [], returnType := none }, accessFlags := 1, code := none }
/-- java/lang/String -/
def k10 : Class := { plain "java/lang/String" (some 0) with
  accessFlags := 49
  interfaces := #[5, 6, 7, 8, 9]
  cf := some (fileOf pool10 10 #[.nestMembers #[1103]] #[{ accessFlags := 1, nameIndex := 5, descriptorIndex := 6, attributes := #[] }] 49 2 #[1106, 1108, 575, 1110, 1112] #[{ accessFlags := 18, nameIndex := 13, descriptorIndex := 14, attributes := #[] }, { accessFlags := 18, nameIndex := 17, descriptorIndex := 18, attributes := #[] }, { accessFlags := 2, nameIndex := 21, descriptorIndex := 22, attributes := #[] }, { accessFlags := 2, nameIndex := 25, descriptorIndex := 26, attributes := #[] }, { accessFlags := 26, nameIndex := 1116, descriptorIndex := 1117, attributes := #[] }, { accessFlags := 24, nameIndex := 40, descriptorIndex := 26, attributes := #[] }, { accessFlags := 26, nameIndex := 1101, descriptorIndex := 1102, attributes := #[] }, { accessFlags := 26, nameIndex := 1121, descriptorIndex := 1122, attributes := #[] }, { accessFlags := 25, nameIndex := 599, descriptorIndex := 600, attributes := #[] }, { accessFlags := 24, nameIndex := 1125, descriptorIndex := 18, attributes := #[] }, { accessFlags := 24, nameIndex := 1127, descriptorIndex := 18, attributes := #[] }])
  fields := #[{ name := "value", type := (.array .byte), accessFlags := 18, slot := 0, constantValue := 0 }, { name := "coder", type := .byte, accessFlags := 18, slot := 1, constantValue := 0 }, { name := "hash", type := .int, accessFlags := 2, slot := 2, constantValue := 0 }, { name := "hashIsZero", type := .boolean, accessFlags := 2, slot := 3, constantValue := 0 }, { name := "serialVersionUID", type := .long, accessFlags := 26, slot := 0, constantValue := 0 }, { name := "COMPACT_STRINGS", type := .boolean, accessFlags := 24, slot := 1, constantValue := 0 }, { name := "serialPersistentFields", type := (.array (.object "java/io/ObjectStreamField")), accessFlags := 26, slot := 2, constantValue := 0 }, { name := "REPL", type := .char, accessFlags := 26, slot := 3, constantValue := 0 }, { name := "CASE_INSENSITIVE_ORDER", type := (.object "java/util/Comparator"), accessFlags := 25, slot := 4, constantValue := 0 }, { name := "LATIN1", type := .byte, accessFlags := 24, slot := 5, constantValue := 0 }, { name := "UTF16", type := .byte, accessFlags := 24, slot := 6, constantValue := 0 }]
  methods := #[k10m0]
  instanceTypes := #[(.array .byte), .byte, .int, .boolean]
  staticTypes := #[.long, .boolean, (.array (.object "java/io/ObjectStreamField")), .char, (.object "java/util/Comparator"), .byte, .byte]
  resolved := Array.replicate 1451 none
  statics := none }

def pool11 : Array CpInfo := pool [(2, .class_ 4), (1, u "java/lang/Record"), (3, .class_ 10), (1, u "com/example/corrente/corrente/ReportPolicy$Kind"), (1, u "Lcom/example/corrente/corrente/ReportPolicy$Kind;"), (20, .class_ 35), (1, u "com/example/corrente/corrente/ReportPolicy"), (0, u "kind"), (2, u "period"), (0, u "J"), (2, u "nonEmpty"), (0, u "Z"), (20, u "DEFAULT"), (0, u "Lcom/example/corrente/corrente/ReportPolicy;")] 43

/-- com/example/corrente/corrente/ReportPolicy -/
def k11 : Class := { plain "com/example/corrente/corrente/ReportPolicy" (some 2) with
  accessFlags := 48
  interfaces := #[]
  cf := some (fileOf pool11 33 #[.nestMembers #[8]] #[] 48 2 #[] #[{ accessFlags := 18, nameIndex := 36, descriptorIndex := 12, attributes := #[] }, { accessFlags := 18, nameIndex := 39, descriptorIndex := 40, attributes := #[] }, { accessFlags := 18, nameIndex := 43, descriptorIndex := 44, attributes := #[] }, { accessFlags := 24, nameIndex := 65, descriptorIndex := 66, attributes := #[] }])
  fields := #[{ name := "kind", type := (.object "com/example/corrente/corrente/ReportPolicy$Kind"), accessFlags := 18, slot := 0, constantValue := 0 }, { name := "period", type := .long, accessFlags := 18, slot := 1, constantValue := 0 }, { name := "nonEmpty", type := .boolean, accessFlags := 18, slot := 2, constantValue := 0 }, { name := "DEFAULT", type := (.object "com/example/corrente/corrente/ReportPolicy"), accessFlags := 24, slot := 0, constantValue := 0 }]
  methods := #[]
  instanceTypes := #[(.object "com/example/corrente/corrente/ReportPolicy$Kind"), .long, .boolean]
  staticTypes := #[(.object "com/example/corrente/corrente/ReportPolicy")]
  resolved := Array.replicate 110 none
  statics := some 0 }

def pool12 : Array CpInfo := pool [(1, u "java/lang/Cloneable"), (0, .class_ 1), (0, u "java/lang/Object"), (0, .class_ 3)] 3

/-- java/lang/Cloneable -/
def k12 : Class := { plain "java/lang/Cloneable" (some 0) with
  accessFlags := 1537
  interfaces := #[]
  cf := some (fileOf pool12 2 #[] #[] 1537 4 #[] #[])
  fields := #[]
  methods := #[]
  instanceTypes := #[]
  staticTypes := #[]
  resolved := Array.replicate 8 none
  statics := none }

/-- the primitive byte -/
def k13 : Class := { plain "byte" none with kind := .primitive 'B', accessFlags := 0x411 }
/-- [B -/
def k14 : Class := { plain "[B" (some 0) with kind := .array 13 .byte, interfaces := #[12, 5], accessFlags := 1041 }

/-- the primitive int -/
def k15 : Class := { plain "int" none with kind := .primitive 'I', accessFlags := 0x411 }
/-- [I -/
def k16 : Class := { plain "[I" (some 0) with kind := .array 15 .int, interfaces := #[12, 5], accessFlags := 1041 }

def heap : Heap := #[{ cls := 11, slots := #[.ref 1], vm := .statics 11 },
  { cls := 11, slots := #[.null, .long 0, .int 0], vm := .none }]
def classes : Array Class := #[k0, k1, k2, k3, k4, k5, k6, k7, k8, k9, k10, k11, k12, k13, k14, k15, k16]
def interned : List (Array UInt16 × Addr) := []
def slotsUsed : Nat := 4
def theMethod : MethodId := ⟨1, 1⟩
def args0 : Array Value := #[.long 5, .long 1, .long 2]
def aboutOver (below : List Frame) : State where
  vm := { classes := classes, interned := interned.toArray }
  heap := heap
  slotsUsed := slotsUsed
  threads := #[{ frames := .invoking theMethod args0 :: below }]
def below0 : List Frame := [.native { method := ⟨0, 0⟩, args := #[] }]
def about1 : State := aboutOver below0
def p0 : Program := .bare "" "" ""
def e0 : Env := launch0.env 0 0 0
theorem w_frames : about1.frames = Frame.invoking theMethod args0 :: below0 := rfl
set_option maxRecDepth 65536 in
theorem w_args : argsFit about1.vm theMethod args0 = true := by decide +kernel
set_option maxRecDepth 65536 in
theorem w_heap : heapFits about1 = true := by decide +kernel
set_option maxRecDepth 65536 in
theorem w_runnable : about1.curStatus? = some .runnable := by decide +kernel
set_option maxRecDepth 65536 in
theorem w_alone : about1.alone = true := by decide +kernel
set_option maxRecDepth 65536 in
theorem w_named : about1.methodNamed? x = some theMethod := by decide +kernel
set_option maxRecDepth 65536 in
theorem w_hears : about1.hears theMethod below0 = true := by decide +kernel
set_option maxRecDepth 65536 in
theorem w_ripe : about1.ripe theMethod args0 below0 = true := by decide +kernel
theorem w_running : about1.status = .running := rfl
set_option maxRecDepth 65536 in
theorem w_room : about1.hasRoom e0.platform room_1 = true :=
  launch0.hasRoom_least _ room_1 (by decide +kernel) (by decide +kernel) (by decide +kernel) (by decide +kernel) (by decide +kernel) (by decide +kernel)
theorem allAtoms_all (ts : List Jvm.Cond) (a : Array Jvm.Value) (st : Jvm.State) : (allAtoms ts).before a st = ts.all (fun c => c.before a st) := by
  induction ts with
  | nil => rfl
  | cons c t ih =>
    show (Jvm.Cond.and c (allAtoms t)).before a st = _
    rw [Jvm.Cond.before_and, ih, List.all_cons]
def words1 : List Jvm.Cond := Jvm.Cond.code x code maxLocals ret :: tables_1
/-- a 'code' word, met by the world's own term for the bytes: nothing is compared byte by byte -/
theorem code_word {y : MethodName} {bytes : ByteArray} {mx : Nat} {rt : Option FieldType} {a : Array Value} {s : State} {m : MethodId} {meth : Method} {c : Code} (h1 : s.methodNamed? y = some m) (h2 : s.vm.method? m = some meth) (h3 : meth.code = some c) (h4 : c.code = bytes)
    (h5 : (c.maxLocals == mx && c.exceptionTable.isEmpty && decide (c.maxStack ≤ mostOperands) && decide (meth.sig.returnType = rt) && !meth.locks && decide (parseMethodDescriptor y.desc = some meth.sig)) = true) : (Jvm.Cond.code y bytes mx rt).before a s = true := by
  simp only [Bool.and_eq_true, beq_iff_eq, Bool.not_eq_true', decide_eq_true_eq] at h5
  obtain ⟨⟨⟨⟨⟨g1, g2⟩, g3⟩, g4⟩, g5⟩, g6⟩ := h5
  simp [Cond.before, Cond.holds, Cond.value, h1, h2, h3, h4, g1, g2, g3, g4, g5, g6]
def isCode : Jvm.Cond → Bool
  | .code _ _ _ _ => true
  | _ => false
theorem all_split {L : List Jvm.Cond} {P : Jvm.Cond → Bool} (h1 : L.all (fun c => isCode c || P c) = true) (h2 : ∀ c ∈ L.filter isCode, P c = true) : L.all P = true := by
  refine List.all_eq_true.mpr fun c hc => ?_
  have h := List.all_eq_true.mp h1 c hc
  rcases Bool.eq_false_or_eq_true (isCode c) with hi | hi
  · exact h2 c (List.mem_filter.mpr ⟨hc, hi⟩)
  · simpa [hi] using h
set_option maxRecDepth 65536 in
theorem w_c0 : (Jvm.Cond.code x code maxLocals ret).before args0 about1 = true := code_word (m := ⟨1, 1⟩) (meth := k1m1) (c := k1c1) (by decide +kernel) rfl rfl rfl (by decide +kernel)
set_option maxRecDepth 65536 in
theorem w_c1 : (Jvm.Cond.code ({ cls := "com/example/corrente/corrente/LandmarkWindow", name := "<init>", desc := "(Ljava/lang/String;Ljava/lang/String;JLcom/example/corrente/corrente/ReportPolicy;Ljava/lang/String;)V" } : Jvm.MethodName) prog_4_method_1_code (7 : Nat) (Option.none : Option Jvm.ClassFile.FieldType)).before args0 about1 = true := code_word (m := ⟨4, 0⟩) (meth := k4m0) (c := k4c0) (by decide +kernel) rfl rfl rfl (by decide +kernel)
set_option maxRecDepth 65536 in
theorem w_c2 : (Jvm.Cond.code ({ cls := "java/lang/Record", name := "<init>", desc := "()V" } : Jvm.MethodName) jdk_30_method_1_code (1 : Nat) (Option.none : Option Jvm.ClassFile.FieldType)).before args0 about1 = true := code_word (m := ⟨2, 0⟩) (meth := k2m0) (c := k2c0) (by decide +kernel) rfl rfl rfl (by decide +kernel)
set_option maxRecDepth 65536 in
theorem w_c3 : (Jvm.Cond.code ({ cls := "java/lang/Object", name := "<init>", desc := "()V" } : Jvm.MethodName) object_method_1_code (1 : Nat) (Option.none : Option Jvm.ClassFile.FieldType)).before args0 about1 = true := code_word (m := ⟨0, 0⟩) (meth := k0m0) (c := k0c0) (by decide +kernel) rfl rfl rfl (by decide +kernel)
set_option maxRecDepth 65536 in
theorem w_c4 : (Jvm.Cond.code ({ cls := "com/example/corrente/corrente/LandmarkWindow", name := "holds", desc := "(J)Z" } : Jvm.MethodName) prog_4_method_2_code (3 : Nat) (Option.some Jvm.ClassFile.FieldType.boolean)).before args0 about1 = true := code_word (m := ⟨4, 1⟩) (meth := k4m1) (c := k4c1) (by decide +kernel) rfl rfl rfl (by decide +kernel)
def codes1 : List Jvm.Cond := [Jvm.Cond.code x code maxLocals ret, Jvm.Cond.code ({ cls := "com/example/corrente/corrente/LandmarkWindow", name := "<init>", desc := "(Ljava/lang/String;Ljava/lang/String;JLcom/example/corrente/corrente/ReportPolicy;Ljava/lang/String;)V" } : Jvm.MethodName) prog_4_method_1_code (7 : Nat) (Option.none : Option Jvm.ClassFile.FieldType), Jvm.Cond.code ({ cls := "java/lang/Record", name := "<init>", desc := "()V" } : Jvm.MethodName) jdk_30_method_1_code (1 : Nat) (Option.none : Option Jvm.ClassFile.FieldType), Jvm.Cond.code ({ cls := "java/lang/Object", name := "<init>", desc := "()V" } : Jvm.MethodName) object_method_1_code (1 : Nat) (Option.none : Option Jvm.ClassFile.FieldType), Jvm.Cond.code ({ cls := "com/example/corrente/corrente/LandmarkWindow", name := "holds", desc := "(J)Z" } : Jvm.MethodName) prog_4_method_2_code (3 : Nat) (Option.some Jvm.ClassFile.FieldType.boolean)]
set_option maxRecDepth 65536 in
theorem codes_eq : words1.filter isCode = codes1 := rfl
theorem w_codes : ∀ c ∈ words1.filter isCode, c.before args0 about1 = true := by
  rw [codes_eq]
  intro c hc
  simp only [codes1, List.mem_cons, List.not_mem_nil, or_false] at hc
  rcases hc with rfl | rfl | rfl | rfl | rfl
  · exact w_c0
  · exact w_c1
  · exact w_c2
  · exact w_c3
  · exact w_c4
set_option maxRecDepth 65536 in
theorem w_t1 : (words1.take 24).all (fun c => isCode c || c.before args0 about1) = true := by decide +kernel
set_option maxRecDepth 65536 in
theorem w_t2 : (words1.drop 24).all (fun c => isCode c || c.before args0 about1) = true := by decide +kernel
theorem w_tables : (allAtoms (Jvm.Cond.code x code maxLocals ret :: tables_1)).before args0 about1 = true := by
  rw [allAtoms_all]
  show words1.all (fun c => c.before args0 about1) = true
  refine all_split ?_ w_codes
  rw [← List.take_append_drop 24 words1, List.all_append, w_t1, w_t2]
  rfl
set_option maxRecDepth 65536 in
theorem w_case : (Jvm.Cond.and given_1 narrow_1).before args0 about1 = true := by decide +kernel
theorem w_applies : (headSpec (Jvm.Cond.code x code maxLocals ret :: tables_1) room_1).applies x e0.platform about1 = true :=
  (Spec.applies_iff w_frames).mpr ⟨w_running, w_runnable, w_alone, w_named, w_hears, w_ripe, w_room, w_tables⟩
theorem atStart : AtStart classFile x code maxLocals ret World_1 tables_1 room_1 Calls_1 rest_1 Pre_1 launch0 p0 e0 about1 theMethod args0 below0 :=
  ⟨lists_1, trivial, launch0.admits_env _ _ _, launch0.least_env, fairChoices_fair.cas, fairChoices_fair.clock, w_frames, w_args, w_heap, w_applies, trivial, trivial, w_case⟩
end start1
theorem witness_1 : WitnessClaimed_1 := ⟨start1.p0, start1.e0, start1.about1, start1.theMethod, start1.args0, start1.below0, start1.atStart⟩
end Jvm.Pilot.@@N@@
