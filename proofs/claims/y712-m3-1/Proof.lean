import JvmDerived
import JvmDerived.Pilot.@@N@@Statement
import JvmDerived.Pilot.@@N@@Code
set_option linter.unusedVariables false
set_option linter.unusedSimpArgs false
namespace Jvm.RoadKit
open Sem ClassFile Op Lib Jvm.Stand Jvm.Free Jvm.LawKit
section New
variable {p : Program} {l : Launch} {e : Env} {R : Room} {s : State} {m : MethodId} {args : Array Value} {below : List Frame} {meth : Method} {c : Code} {T : State} {locs : List Loc} {cells slots : Nat}
theorem retI (X : Stand p l e R s m args below meth c T locs cells slots) (hx : p.tables.exec = Jvm.exec) {pc : Nat} {Ls : Array Slot} {z : Int32} {rest : List Value} (hret : meth.sig.returnType = some .int) (hd : decode c.code pc = .ok (.ireturn, 1)) {fs : List Frame}
    (hl : ∀ (f : JFrame) (acts : List Action), f.method = m → f.locked = none → f.entered = [] → (doReturn e (T.setTop f) acts (some (.int z))).1 = T.setFrames fs) : Steps p.tables e below (T.setTop (mkF m pc Ls (.int z :: rest))) (T.setFrames fs) := by
  have hm' : T.vm.method? m = some meth := X.method'
  have hn : narrow .int (.int z) = .int z := rfl
  show Steps p.tables e below (T.setTop { method := m, pc := pc, locals := Ls, stack := _ :: rest, locked := none }) _
  jvm_step X.here [X.here.top, hx, hd, hm', hret, hn]
  first | (intro acts; rw [hl _ acts rfl rfl rfl]) | rw [hl _ _ rfl rfl rfl]
  exact Steps.refl _
end New
end Jvm.RoadKit
@@BLOCK:NumsL.lean.txt@@
namespace Jvm.Pilot.@@N@@
open Jvm Jvm.ClassFile Sem Op Lib Jvm.Free Jvm.Stand Jvm.LawKit Jvm.RoadKit Bundle Jvm.Pilot.@@N@@.Jvm.D
theorem own_feq {args : Array Value} {s : State} {t : Term} {C f d : String} {x : Addr} {n : Int32} (ht : t.eval args s none [] s = some (.ref x)) (h : (Jvm.Cond.eq (Jvm.Term.field t C f d) (Jvm.Term.int n)).value args s none s [] = some true) : s.fieldOf? x C f d = some (.int n) := by
  obtain ⟨v, w, h1, h2, k1, k2⟩ := cmp_v (Or.inl h)
  have h1' := h1
  rw [fld_at ht] at h1'
  have hw : w = .int n := by simpa [Term.eval] using h2.symm
  subst hw
  obtain ⟨z, rfl⟩ := k2
  simp only [Cond.value, h1, h2] at h
  have : z = n := by simpa using h
  rw [h1', this]
theorem own_k6 (x : Int32) : (x &&& (2147483647 : Int32)) % (6 : Int32) = (0 : Int32) ∨ (x &&& (2147483647 : Int32)) % (6 : Int32) = (1 : Int32) ∨ (x &&& (2147483647 : Int32)) % (6 : Int32) = (2 : Int32) ∨ (x &&& (2147483647 : Int32)) % (6 : Int32) = (3 : Int32) ∨ (x &&& (2147483647 : Int32)) % (6 : Int32) = (4 : Int32) ∨ (x &&& (2147483647 : Int32)) % (6 : Int32) = (5 : Int32) := by
  have m := Jvm.Kit.i32_mask x 2147483647 (k := 31) (by decide) (by decide)
  have q0 : 0 ≤ (x &&& (2147483647 : Int32)).toInt := by rw [m]; omega
  have r := Jvm.Kit.i32_rem_nonneg (y := (6 : Int32)) q0
  have e : (6 : Int32).toInt = 6 := by decide
  rw [e] at r
  have e0 : (0 : Int32).toInt = 0 := by decide
  have e1 : (1 : Int32).toInt = 1 := by decide
  have e2 : (2 : Int32).toInt = 2 := by decide
  have e3 : (3 : Int32).toInt = 3 := by decide
  have e4 : (4 : Int32).toInt = 4 := by decide
  have e5 : (5 : Int32).toInt = 5 := by decide
  generalize (x &&& (2147483647 : Int32)) % (6 : Int32) = z at r
  have b : z.toInt = 0 ∨ z.toInt = 1 ∨ z.toInt = 2 ∨ z.toInt = 3 ∨ z.toInt = 4 ∨ z.toInt = 5 := by rw [r]; omega
  simp only [← Int32.toInt_inj, e0, e1, e2, e3, e4, e5]
  exact b
theorem pn_java_lang_Enum : plainName "java/lang/Enum" = true := by first | (simp [plainName, overriddenIn]; done) | decide +kernel
theorem d3_0 : decode jdk_37_method_2_code 0 = .ok (.aload_n 0, 1) := by decide +kernel
theorem d3_1 : decode jdk_37_method_2_code 1 = .ok (.getfield 7, 3) := by decide +kernel
theorem d3_4 : decode jdk_37_method_2_code 4 = .ok (.ireturn, 1) := by decide +kernel
theorem ef_3 (m : MethodId) (x0 : Addr) : entryFrame m #[(.ref x0)] 1 = mkF m 0 #[.val (.ref x0)] [] := by first | (simp [entryFrame, mkF, argsToLocals, Value.category]; done) | rfl
def Q3 (Z : State) (aa0 : Addr) (vv : Int32) (h0 : Heap) (n0 : Nat) (v : Option Value) (h : Heap) (L : List Loc) : Prop := v = some (.int vv) ∧ Fr n0 L ∧ h = h0
set_option maxRecDepth 65536 in
set_option maxHeartbeats 40000000 in
theorem rm3 (l : Launch) (Z : State) (a0 : Array Value) (hw : ∀ d ∈ tables_1, d.before a0 Z = true) (ws : List Jvm.Cond) (aa0 : Addr) (vv : Int32) (h0 : Heap) (n0 : Nat) (Z0 : n0 ≤ h0.size) (F_aa0_ordinal : Fld Z h0 aa0 "java/lang/Enum" "ordinal" "I" (.int vv)) :
    MetFree l (⟨"java/lang/Enum", "ordinal", "()I"⟩ : MethodName) (head1 (Jvm.Cond.code (⟨"java/lang/Enum", "ordinal", "()I"⟩ : MethodName) jdk_37_method_2_code 1 (some .int) :: ws) ({ frames := 0, cells := 0, slots := 0, locals := 0 } : Room)) (fun a U => a = #[(.ref aa0)] ∧ Z.Warmed39 U.vm ∧ U.heap = h0) (fun _ _ _ _ _ => True) (fun _ U o U' => ∃ v L, o = .returned v ∧ Q3 Z aa0 vv h0 n0 v U'.heap L ∧ FrameEnd U o U' L ({ frames := 0, cells := 0, slots := 0, locals := 0 } : Room).cells ({ frames := 0, cells := 0, slots := 0, locals := 0 } : Room).slots) := by
  refine MetFree.of_bodySF (plainFor_of_name pn_java_lang_Enum) hisR ?_
  intro p e s m args below meth c s₁ Bd hml0 hP hK
  obtain ⟨rfl, hZ, hh⟩ := hP
  have hx := Bd.exec
  have hby := Bd.bytes
  have hml : c.maxLocals = 1 := hml0
  have hown : s.vm.findClass "java/lang/Enum" = some m.cls := findClass_of_methodNamed Bd.named
  have hnm := (name_of_methodNamed Bd.named Bd.method).1
  have X0 : Stand p l e ({ frames := 0, cells := 0, slots := 0, locals := 0 } : Room) s m #[(.ref aa0)] below meth c s₁ [] 0 0 := Stand.of_body Bd
  have e0 : s₁.heap = h0 := by rw [← hh, Bd.state]; rfl
  have N0 := Fr.nil n0
  have pre0 : ∀ t, Steps p.tables e below (s₁.setTop (mkF m 0 #[.val (.ref aa0)] [])) t → Steps p.tables e below (s₁.setTop (entryFrame m #[(.ref aa0)] 1)) t := fun t k => castTop (ef_3 m aa0) k
  obtain ⟨T1, X1, e1, st1⟩ := getF X0 hx hZ hown (host := "") (Or.inl (hw _ (List.mem_of_getElem? (i := 20) rfl))) Via.refl e0 F_aa0_ordinal (g := (mkF m 1 #[.val (.ref aa0)] [(.ref aa0)])) rfl rfl (hb hby d3_1)
  obtain ⟨fs, hr, hrun, hended, hW, hsame⟩ := X1.leave (v := some (.int vv)) (fun h => by rw [Bd.returns] at h; cases h)
  refine ⟨_, _, pre0 _ ?_, hrun, hended, _, _, rfl, ?_, ⟨_, rfl⟩, hW, hsame.mono (by decide) (by decide)⟩
  · show Steps p.tables e below (s₁.setTop (mkF m 0 #[.val (.ref aa0)] [])) _
    refine XS.aloadN X0.here hx rfl (hb hby d3_0) rfl rfl ?_
    show Steps p.tables e below (s₁.setTop (mkF m 1 #[.val (.ref aa0)] [(.ref aa0)])) _
    refine st1 _ ?_
    show Steps p.tables e below (T1.setTop (mkF m 4 #[.val (.ref aa0)] [(.int vv)])) _
    exact retI X1 hx Bd.returns (hb hby d3_4) hr
  · show Q3 Z aa0 vv h0 n0 _ T1.heap _
    rw [e1]
    exact ⟨rfl, N0, rfl⟩
theorem pd__28__29_I : parseMethodDescriptor "()I" = some ⟨[], some .int⟩ := by decide +kernel
theorem pn_com_example_guarded_stream_guardedstream_query_ComparisonOperator : plainName "com/example/guarded_stream/guardedstream/query/ComparisonOperator" = true := by first | (simp [plainName, overriddenIn]; done) | decide +kernel
theorem d4_0 : decode prog_18_method_5_code 0 = .ok (.aload_n 0, 1) := by decide +kernel
theorem d4_1 : decode prog_18_method_5_code 1 = .ok (.invokevirtual 55, 3) := by decide +kernel
theorem d4_4 : decode prog_18_method_5_code 4 = .ok (.tableswitch 100 0 5 #[40, 50, 60, 70, 80, 90], 40) := by decide +kernel
theorem d4_44 : decode prog_18_method_5_code 44 = .ok (.iload_n 1, 1) := by decide +kernel
theorem d4_45 : decode prog_18_method_5_code 45 = .ok (.ifCond .ne 7, 3) := by decide +kernel
theorem d4_48 : decode prog_18_method_5_code 48 = .ok (.iconst 1, 1) := by decide +kernel
theorem d4_49 : decode prog_18_method_5_code 49 = .ok (.goto 4, 3) := by decide +kernel
theorem d4_52 : decode prog_18_method_5_code 52 = .ok (.iconst 0, 1) := by decide +kernel
theorem d4_53 : decode prog_18_method_5_code 53 = .ok (.ireturn, 1) := by decide +kernel
theorem ef_4_0 (m : MethodId) (x0 : Addr) (x1 : Int32) : entryFrame m #[(.ref x0), (.int x1)] 2 = mkF m 0 #[.val (.ref x0), .val (.int x1)] [] := by first | (simp [entryFrame, mkF, argsToLocals, Value.category]; done) | rfl
def Q4_0 (Z : State) (aa0 : Addr) (pp1 : Int32) (h0 : Heap) (n0 : Nat) (v : Option Value) (h : Heap) (L : List Loc) : Prop := v = some (.int (if pp1 = (0 : Int32) then (1 : Int32) else (0 : Int32))) ∧ Fr n0 L ∧ h = h0
set_option maxRecDepth 65536 in
set_option maxHeartbeats 40000000 in
theorem rm4_0 (l : Launch) (Z : State) (a0 : Array Value) (hw : ∀ d ∈ tables_1, d.before a0 Z = true) (ws : List Jvm.Cond) (aa0 : Addr) (pp1 : Int32) (h0 : Heap) (n0 : Nat) (Z0 : n0 ≤ h0.size) (E_aa0 : Exa Z h0 aa0 "com/example/guarded_stream/guardedstream/query/ComparisonOperator") (F_aa0_ordinal : Fld Z h0 aa0 "java/lang/Enum" "ordinal" "I" (.int (0 : Int32))) :
    MetFree l (⟨"com/example/guarded_stream/guardedstream/query/ComparisonOperator", "holds", "(I)Z"⟩ : MethodName) (head1 (Jvm.Cond.code (⟨"com/example/guarded_stream/guardedstream/query/ComparisonOperator", "holds", "(I)Z"⟩ : MethodName) prog_18_method_5_code 2 (some .boolean) :: ws) ({ frames := 1, cells := 0, slots := 0, locals := 12 } : Room)) (fun a U => a = #[(.ref aa0), (.int pp1)] ∧ Z.Warmed39 U.vm ∧ U.heap = h0) (fun _ _ _ _ _ => True) (fun _ U o U' => ∃ v L, o = .returned v ∧ Q4_0 Z aa0 pp1 h0 n0 v U'.heap L ∧ FrameEnd U o U' L ({ frames := 1, cells := 0, slots := 0, locals := 12 } : Room).cells ({ frames := 1, cells := 0, slots := 0, locals := 12 } : Room).slots) := by
  refine MetFree.of_bodySF (plainFor_of_name pn_com_example_guarded_stream_guardedstream_query_ComparisonOperator) hisR ?_
  intro p e s m args below meth c s₁ Bd hml0 hP hK
  obtain ⟨rfl, hZ, hh⟩ := hP
  have hx := Bd.exec
  have hby := Bd.bytes
  have hml : c.maxLocals = 2 := hml0
  have hown : s.vm.findClass "com/example/guarded_stream/guardedstream/query/ComparisonOperator" = some m.cls := findClass_of_methodNamed Bd.named
  have hnm := (name_of_methodNamed Bd.named Bd.method).1
  have X0 : Stand p l e ({ frames := 1, cells := 0, slots := 0, locals := 12 } : Room) s m #[(.ref aa0), (.int pp1)] below meth c s₁ [] 0 0 := Stand.of_body Bd
  have e0 : s₁.heap = h0 := by rw [← hh, Bd.state]; rfl
  have N0 := Fr.nil n0
  have pre0 : ∀ t, Steps p.tables e below (s₁.setTop (mkF m 0 #[.val (.ref aa0), .val (.int pp1)] [])) t → Steps p.tables e below (s₁.setTop (entryFrame m #[(.ref aa0), (.int pp1)] 2)) t := fun t k => castTop (ef_4_0 m aa0 pp1) k
  obtain ⟨cq1, kq1, q1a, q1b, q1c⟩ := isOf hZ e0 E_aa0
  obtain ⟨_, _, ⟨T1, L1, k1, n1⟩, -, X1, ⟨Lc1, hQ1, l1, y1, z1⟩, st1⟩ := X0.virtualBackUp hx (x := (⟨"com/example/guarded_stream/guardedstream/query/ComparisonOperator", "ordinal", "()I"⟩ : MethodName)) (y := (⟨"java/lang/Enum", "ordinal", "()I"⟩ : MethodName)) (owner := "java/lang/Enum") hown (mvT hZ (hw _ (List.mem_of_getElem? (i := 13) rfl))) (mvT hZ (hw _ (List.mem_of_getElem? (i := 14) rfl))) (mvT hZ (hw _ (List.mem_of_getElem? (i := 15) rfl))) (by decide) (mvT hZ (hw _ (List.mem_of_getElem? (i := 17) rfl))) (mvT hZ (hw _ (List.mem_of_getElem? (i := 16) rfl))) (backOf (W := 0) (rm3 l Z a0 hw [] aa0 (0 : Int32) h0 n0 Z0 F_aa0_ordinal) hZ (hw _ (List.mem_of_getElem? (i := 19) rfl)) (hw _ (List.mem_of_getElem? (i := 18) rfl)) (by decide) (by decide)) q1a q1c (g := (mkF m 1 #[.val (.ref aa0), .val (.int pp1)] [(.ref aa0)])) rfl (by rw [hml]; rfl) (Steps.refl _) (argsL := []) (rest := []) (lenOf pd__28__29_I rfl) rfl (by show 2 * 0 + _ ≤ _; exact Nat.le_of_eq rfl) (hb hby d4_1) (fun _ _ => ⟨rfl, e0, (by decide : 0 + 0 ≤ _), (by decide : 0 + 0 ≤ _)⟩)
  dsimp only [Pt.U, Pt.locs, Pt.cells, Pt.slots] at X1 l1 y1 z1 st1 hQ1
  subst l1 y1 z1
  obtain ⟨rfl, N1q, e1⟩ := hQ1
  have N1 := Fr.app N0 N1q
  have pre2 : ∀ t, Steps p.tables e below (T1.setTop (mkF m 45 #[.val (.ref aa0), .val (.int pp1)] [(.int pp1)])) t → Steps p.tables e below (s₁.setTop (entryFrame m #[(.ref aa0), (.int pp1)] 2)) t := fun t kt => pre0 t (by
    show Steps p.tables e below (s₁.setTop (mkF m 0 #[.val (.ref aa0), .val (.int pp1)] [])) _
    refine XS.aloadN X0.here hx rfl (hb hby d4_0) rfl rfl ?_
    show Steps p.tables e below (s₁.setTop (mkF m 1 #[.val (.ref aa0), .val (.int pp1)] [(.ref aa0)])) _
    refine st1.trans ?_
    show Steps p.tables e below (T1.setTop (mkF m 4 #[.val (.ref aa0), .val (.int pp1)] [(.int (0 : Int32))])) _
    refine XS.tswIn X1.here hx rfl (pc0 := 4) (pc' := 44) rfl (hb hby d4_4) rfl (by decide) (o := 40) rfl (by decide) (by decide) ?_
    show Steps p.tables e below (T1.setTop (mkF m 44 #[.val (.ref aa0), .val (.int pp1)] [])) _
    refine XS.iloadN X1.here hx rfl (hb hby d4_44) rfl ?_
    exact kt)
  by_cases hc45 : pp1 = (0 : Int32)
  · skip
    obtain ⟨fs, hr, hrun, hended, hW, hsame⟩ := X1.leave (v := some (.int (1 : Int32))) (fun h => by rw [Bd.returns] at h; cases h)
    refine ⟨_, _, pre2 _ ?_, hrun, hended, _, _, rfl, ?_, ⟨_, rfl⟩, hW, hsame.mono (by decide) (by decide)⟩
    · show Steps p.tables e below (T1.setTop (mkF m 45 #[.val (.ref aa0), .val (.int pp1)] [(.int pp1)])) _
      refine XS.ifNo X1.here hx rfl (hb hby d4_45) rfl ((if0 _ _).trans (teq hc45).2) ?_
      show Steps p.tables e below (T1.setTop (mkF m 48 #[.val (.ref aa0), .val (.int pp1)] [])) _
      refine XS.iconst X1.here hx rfl (hb hby d4_48) ?_
      show Steps p.tables e below (T1.setTop (mkF m 49 #[.val (.ref aa0), .val (.int pp1)] [(.int (1 : Int32))])) _
      refine XS.goto X1.here hx rfl (pc0 := 49) (pc' := 53) rfl (hb hby d4_49) (by decide) (by decide) ?_
      show Steps p.tables e below (T1.setTop (mkF m 53 #[.val (.ref aa0), .val (.int pp1)] [(.int (1 : Int32))])) _
      exact retN X1 hx (t := .boolean) Bd.returns (by simp) (hb hby d4_53) hr
    · show Q4_0 Z aa0 pp1 h0 n0 _ T1.heap _
      rw [e1]
      exact ⟨(by first | rw [if_pos hc45] | rw [if_neg hc45]), N1, rfl⟩
  · skip
    obtain ⟨fs, hr, hrun, hended, hW, hsame⟩ := X1.leave (v := some (.int (0 : Int32))) (fun h => by rw [Bd.returns] at h; cases h)
    refine ⟨_, _, pre2 _ ?_, hrun, hended, _, _, rfl, ?_, ⟨_, rfl⟩, hW, hsame.mono (by decide) (by decide)⟩
    · show Steps p.tables e below (T1.setTop (mkF m 45 #[.val (.ref aa0), .val (.int pp1)] [(.int pp1)])) _
      refine XS.ifYes X1.here hx rfl (pc0 := 45) (pc' := 52) rfl (hb hby d4_45) rfl ((if0 _ _).trans (feq hc45).2) (by decide) (by decide) ?_
      show Steps p.tables e below (T1.setTop (mkF m 52 #[.val (.ref aa0), .val (.int pp1)] [])) _
      refine XS.iconst X1.here hx rfl (hb hby d4_52) ?_
      show Steps p.tables e below (T1.setTop (mkF m 53 #[.val (.ref aa0), .val (.int pp1)] [(.int (0 : Int32))])) _
      exact retN X1 hx (t := .boolean) Bd.returns (by simp) (hb hby d4_53) hr
    · show Q4_0 Z aa0 pp1 h0 n0 _ T1.heap _
      rw [e1]
      exact ⟨(by first | rw [if_pos hc45] | rw [if_neg hc45]), N1, rfl⟩
theorem d4_54 : decode prog_18_method_5_code 54 = .ok (.iload_n 1, 1) := by decide +kernel
theorem d4_55 : decode prog_18_method_5_code 55 = .ok (.ifCond .eq 7, 3) := by decide +kernel
theorem d4_58 : decode prog_18_method_5_code 58 = .ok (.iconst 1, 1) := by decide +kernel
theorem d4_59 : decode prog_18_method_5_code 59 = .ok (.goto 4, 3) := by decide +kernel
theorem d4_62 : decode prog_18_method_5_code 62 = .ok (.iconst 0, 1) := by decide +kernel
theorem d4_63 : decode prog_18_method_5_code 63 = .ok (.ireturn, 1) := by decide +kernel
theorem ef_4_1 (m : MethodId) (x0 : Addr) (x1 : Int32) : entryFrame m #[(.ref x0), (.int x1)] 2 = mkF m 0 #[.val (.ref x0), .val (.int x1)] [] := by first | (simp [entryFrame, mkF, argsToLocals, Value.category]; done) | rfl
def Q4_1 (Z : State) (aa0 : Addr) (pp1 : Int32) (h0 : Heap) (n0 : Nat) (v : Option Value) (h : Heap) (L : List Loc) : Prop := v = some (.int (if pp1 = (0 : Int32) then (0 : Int32) else (1 : Int32))) ∧ Fr n0 L ∧ h = h0
set_option maxRecDepth 65536 in
set_option maxHeartbeats 40000000 in
theorem rm4_1 (l : Launch) (Z : State) (a0 : Array Value) (hw : ∀ d ∈ tables_1, d.before a0 Z = true) (ws : List Jvm.Cond) (aa0 : Addr) (pp1 : Int32) (h0 : Heap) (n0 : Nat) (Z0 : n0 ≤ h0.size) (E_aa0 : Exa Z h0 aa0 "com/example/guarded_stream/guardedstream/query/ComparisonOperator") (F_aa0_ordinal : Fld Z h0 aa0 "java/lang/Enum" "ordinal" "I" (.int (1 : Int32))) :
    MetFree l (⟨"com/example/guarded_stream/guardedstream/query/ComparisonOperator", "holds", "(I)Z"⟩ : MethodName) (head1 (Jvm.Cond.code (⟨"com/example/guarded_stream/guardedstream/query/ComparisonOperator", "holds", "(I)Z"⟩ : MethodName) prog_18_method_5_code 2 (some .boolean) :: ws) ({ frames := 1, cells := 0, slots := 0, locals := 12 } : Room)) (fun a U => a = #[(.ref aa0), (.int pp1)] ∧ Z.Warmed39 U.vm ∧ U.heap = h0) (fun _ _ _ _ _ => True) (fun _ U o U' => ∃ v L, o = .returned v ∧ Q4_1 Z aa0 pp1 h0 n0 v U'.heap L ∧ FrameEnd U o U' L ({ frames := 1, cells := 0, slots := 0, locals := 12 } : Room).cells ({ frames := 1, cells := 0, slots := 0, locals := 12 } : Room).slots) := by
  refine MetFree.of_bodySF (plainFor_of_name pn_com_example_guarded_stream_guardedstream_query_ComparisonOperator) hisR ?_
  intro p e s m args below meth c s₁ Bd hml0 hP hK
  obtain ⟨rfl, hZ, hh⟩ := hP
  have hx := Bd.exec
  have hby := Bd.bytes
  have hml : c.maxLocals = 2 := hml0
  have hown : s.vm.findClass "com/example/guarded_stream/guardedstream/query/ComparisonOperator" = some m.cls := findClass_of_methodNamed Bd.named
  have hnm := (name_of_methodNamed Bd.named Bd.method).1
  have X0 : Stand p l e ({ frames := 1, cells := 0, slots := 0, locals := 12 } : Room) s m #[(.ref aa0), (.int pp1)] below meth c s₁ [] 0 0 := Stand.of_body Bd
  have e0 : s₁.heap = h0 := by rw [← hh, Bd.state]; rfl
  have N0 := Fr.nil n0
  have pre0 : ∀ t, Steps p.tables e below (s₁.setTop (mkF m 0 #[.val (.ref aa0), .val (.int pp1)] [])) t → Steps p.tables e below (s₁.setTop (entryFrame m #[(.ref aa0), (.int pp1)] 2)) t := fun t k => castTop (ef_4_1 m aa0 pp1) k
  obtain ⟨cq1, kq1, q1a, q1b, q1c⟩ := isOf hZ e0 E_aa0
  obtain ⟨_, _, ⟨T1, L1, k1, n1⟩, -, X1, ⟨Lc1, hQ1, l1, y1, z1⟩, st1⟩ := X0.virtualBackUp hx (x := (⟨"com/example/guarded_stream/guardedstream/query/ComparisonOperator", "ordinal", "()I"⟩ : MethodName)) (y := (⟨"java/lang/Enum", "ordinal", "()I"⟩ : MethodName)) (owner := "java/lang/Enum") hown (mvT hZ (hw _ (List.mem_of_getElem? (i := 13) rfl))) (mvT hZ (hw _ (List.mem_of_getElem? (i := 14) rfl))) (mvT hZ (hw _ (List.mem_of_getElem? (i := 15) rfl))) (by decide) (mvT hZ (hw _ (List.mem_of_getElem? (i := 17) rfl))) (mvT hZ (hw _ (List.mem_of_getElem? (i := 16) rfl))) (backOf (W := 0) (rm3 l Z a0 hw [] aa0 (1 : Int32) h0 n0 Z0 F_aa0_ordinal) hZ (hw _ (List.mem_of_getElem? (i := 19) rfl)) (hw _ (List.mem_of_getElem? (i := 18) rfl)) (by decide) (by decide)) q1a q1c (g := (mkF m 1 #[.val (.ref aa0), .val (.int pp1)] [(.ref aa0)])) rfl (by rw [hml]; rfl) (Steps.refl _) (argsL := []) (rest := []) (lenOf pd__28__29_I rfl) rfl (by show 2 * 0 + _ ≤ _; exact Nat.le_of_eq rfl) (hb hby d4_1) (fun _ _ => ⟨rfl, e0, (by decide : 0 + 0 ≤ _), (by decide : 0 + 0 ≤ _)⟩)
  dsimp only [Pt.U, Pt.locs, Pt.cells, Pt.slots] at X1 l1 y1 z1 st1 hQ1
  subst l1 y1 z1
  obtain ⟨rfl, N1q, e1⟩ := hQ1
  have N1 := Fr.app N0 N1q
  have pre2 : ∀ t, Steps p.tables e below (T1.setTop (mkF m 55 #[.val (.ref aa0), .val (.int pp1)] [(.int pp1)])) t → Steps p.tables e below (s₁.setTop (entryFrame m #[(.ref aa0), (.int pp1)] 2)) t := fun t kt => pre0 t (by
    show Steps p.tables e below (s₁.setTop (mkF m 0 #[.val (.ref aa0), .val (.int pp1)] [])) _
    refine XS.aloadN X0.here hx rfl (hb hby d4_0) rfl rfl ?_
    show Steps p.tables e below (s₁.setTop (mkF m 1 #[.val (.ref aa0), .val (.int pp1)] [(.ref aa0)])) _
    refine st1.trans ?_
    show Steps p.tables e below (T1.setTop (mkF m 4 #[.val (.ref aa0), .val (.int pp1)] [(.int (1 : Int32))])) _
    refine XS.tswIn X1.here hx rfl (pc0 := 4) (pc' := 54) rfl (hb hby d4_4) rfl (by decide) (o := 50) rfl (by decide) (by decide) ?_
    show Steps p.tables e below (T1.setTop (mkF m 54 #[.val (.ref aa0), .val (.int pp1)] [])) _
    refine XS.iloadN X1.here hx rfl (hb hby d4_54) rfl ?_
    exact kt)
  by_cases hc55 : pp1 = (0 : Int32)
  · skip
    obtain ⟨fs, hr, hrun, hended, hW, hsame⟩ := X1.leave (v := some (.int (0 : Int32))) (fun h => by rw [Bd.returns] at h; cases h)
    refine ⟨_, _, pre2 _ ?_, hrun, hended, _, _, rfl, ?_, ⟨_, rfl⟩, hW, hsame.mono (by decide) (by decide)⟩
    · show Steps p.tables e below (T1.setTop (mkF m 55 #[.val (.ref aa0), .val (.int pp1)] [(.int pp1)])) _
      refine XS.ifYes X1.here hx rfl (pc0 := 55) (pc' := 62) rfl (hb hby d4_55) rfl ((if0 _ _).trans (teq hc55).1) (by decide) (by decide) ?_
      show Steps p.tables e below (T1.setTop (mkF m 62 #[.val (.ref aa0), .val (.int pp1)] [])) _
      refine XS.iconst X1.here hx rfl (hb hby d4_62) ?_
      show Steps p.tables e below (T1.setTop (mkF m 63 #[.val (.ref aa0), .val (.int pp1)] [(.int (0 : Int32))])) _
      exact retN X1 hx (t := .boolean) Bd.returns (by simp) (hb hby d4_63) hr
    · show Q4_1 Z aa0 pp1 h0 n0 _ T1.heap _
      rw [e1]
      exact ⟨(by first | rw [if_pos hc55] | rw [if_neg hc55]), N1, rfl⟩
  · skip
    obtain ⟨fs, hr, hrun, hended, hW, hsame⟩ := X1.leave (v := some (.int (1 : Int32))) (fun h => by rw [Bd.returns] at h; cases h)
    refine ⟨_, _, pre2 _ ?_, hrun, hended, _, _, rfl, ?_, ⟨_, rfl⟩, hW, hsame.mono (by decide) (by decide)⟩
    · show Steps p.tables e below (T1.setTop (mkF m 55 #[.val (.ref aa0), .val (.int pp1)] [(.int pp1)])) _
      refine XS.ifNo X1.here hx rfl (hb hby d4_55) rfl ((if0 _ _).trans (feq hc55).1) ?_
      show Steps p.tables e below (T1.setTop (mkF m 58 #[.val (.ref aa0), .val (.int pp1)] [])) _
      refine XS.iconst X1.here hx rfl (hb hby d4_58) ?_
      show Steps p.tables e below (T1.setTop (mkF m 59 #[.val (.ref aa0), .val (.int pp1)] [(.int (1 : Int32))])) _
      refine XS.goto X1.here hx rfl (pc0 := 59) (pc' := 63) rfl (hb hby d4_59) (by decide) (by decide) ?_
      show Steps p.tables e below (T1.setTop (mkF m 63 #[.val (.ref aa0), .val (.int pp1)] [(.int (1 : Int32))])) _
      exact retN X1 hx (t := .boolean) Bd.returns (by simp) (hb hby d4_63) hr
    · show Q4_1 Z aa0 pp1 h0 n0 _ T1.heap _
      rw [e1]
      exact ⟨(by first | rw [if_pos hc55] | rw [if_neg hc55]), N1, rfl⟩
theorem d4_64 : decode prog_18_method_5_code 64 = .ok (.iload_n 1, 1) := by decide +kernel
theorem d4_65 : decode prog_18_method_5_code 65 = .ok (.ifCond .ge 7, 3) := by decide +kernel
theorem d4_68 : decode prog_18_method_5_code 68 = .ok (.iconst 1, 1) := by decide +kernel
theorem d4_69 : decode prog_18_method_5_code 69 = .ok (.goto 4, 3) := by decide +kernel
theorem d4_72 : decode prog_18_method_5_code 72 = .ok (.iconst 0, 1) := by decide +kernel
theorem d4_73 : decode prog_18_method_5_code 73 = .ok (.ireturn, 1) := by decide +kernel
theorem ef_4_2 (m : MethodId) (x0 : Addr) (x1 : Int32) : entryFrame m #[(.ref x0), (.int x1)] 2 = mkF m 0 #[.val (.ref x0), .val (.int x1)] [] := by first | (simp [entryFrame, mkF, argsToLocals, Value.category]; done) | rfl
def Q4_2 (Z : State) (aa0 : Addr) (pp1 : Int32) (h0 : Heap) (n0 : Nat) (v : Option Value) (h : Heap) (L : List Loc) : Prop := v = some (.int (if pp1 < (0 : Int32) then (1 : Int32) else (0 : Int32))) ∧ Fr n0 L ∧ h = h0
set_option maxRecDepth 65536 in
set_option maxHeartbeats 40000000 in
theorem rm4_2 (l : Launch) (Z : State) (a0 : Array Value) (hw : ∀ d ∈ tables_1, d.before a0 Z = true) (ws : List Jvm.Cond) (aa0 : Addr) (pp1 : Int32) (h0 : Heap) (n0 : Nat) (Z0 : n0 ≤ h0.size) (E_aa0 : Exa Z h0 aa0 "com/example/guarded_stream/guardedstream/query/ComparisonOperator") (F_aa0_ordinal : Fld Z h0 aa0 "java/lang/Enum" "ordinal" "I" (.int (2 : Int32))) :
    MetFree l (⟨"com/example/guarded_stream/guardedstream/query/ComparisonOperator", "holds", "(I)Z"⟩ : MethodName) (head1 (Jvm.Cond.code (⟨"com/example/guarded_stream/guardedstream/query/ComparisonOperator", "holds", "(I)Z"⟩ : MethodName) prog_18_method_5_code 2 (some .boolean) :: ws) ({ frames := 1, cells := 0, slots := 0, locals := 12 } : Room)) (fun a U => a = #[(.ref aa0), (.int pp1)] ∧ Z.Warmed39 U.vm ∧ U.heap = h0) (fun _ _ _ _ _ => True) (fun _ U o U' => ∃ v L, o = .returned v ∧ Q4_2 Z aa0 pp1 h0 n0 v U'.heap L ∧ FrameEnd U o U' L ({ frames := 1, cells := 0, slots := 0, locals := 12 } : Room).cells ({ frames := 1, cells := 0, slots := 0, locals := 12 } : Room).slots) := by
  refine MetFree.of_bodySF (plainFor_of_name pn_com_example_guarded_stream_guardedstream_query_ComparisonOperator) hisR ?_
  intro p e s m args below meth c s₁ Bd hml0 hP hK
  obtain ⟨rfl, hZ, hh⟩ := hP
  have hx := Bd.exec
  have hby := Bd.bytes
  have hml : c.maxLocals = 2 := hml0
  have hown : s.vm.findClass "com/example/guarded_stream/guardedstream/query/ComparisonOperator" = some m.cls := findClass_of_methodNamed Bd.named
  have hnm := (name_of_methodNamed Bd.named Bd.method).1
  have X0 : Stand p l e ({ frames := 1, cells := 0, slots := 0, locals := 12 } : Room) s m #[(.ref aa0), (.int pp1)] below meth c s₁ [] 0 0 := Stand.of_body Bd
  have e0 : s₁.heap = h0 := by rw [← hh, Bd.state]; rfl
  have N0 := Fr.nil n0
  have pre0 : ∀ t, Steps p.tables e below (s₁.setTop (mkF m 0 #[.val (.ref aa0), .val (.int pp1)] [])) t → Steps p.tables e below (s₁.setTop (entryFrame m #[(.ref aa0), (.int pp1)] 2)) t := fun t k => castTop (ef_4_2 m aa0 pp1) k
  obtain ⟨cq1, kq1, q1a, q1b, q1c⟩ := isOf hZ e0 E_aa0
  obtain ⟨_, _, ⟨T1, L1, k1, n1⟩, -, X1, ⟨Lc1, hQ1, l1, y1, z1⟩, st1⟩ := X0.virtualBackUp hx (x := (⟨"com/example/guarded_stream/guardedstream/query/ComparisonOperator", "ordinal", "()I"⟩ : MethodName)) (y := (⟨"java/lang/Enum", "ordinal", "()I"⟩ : MethodName)) (owner := "java/lang/Enum") hown (mvT hZ (hw _ (List.mem_of_getElem? (i := 13) rfl))) (mvT hZ (hw _ (List.mem_of_getElem? (i := 14) rfl))) (mvT hZ (hw _ (List.mem_of_getElem? (i := 15) rfl))) (by decide) (mvT hZ (hw _ (List.mem_of_getElem? (i := 17) rfl))) (mvT hZ (hw _ (List.mem_of_getElem? (i := 16) rfl))) (backOf (W := 0) (rm3 l Z a0 hw [] aa0 (2 : Int32) h0 n0 Z0 F_aa0_ordinal) hZ (hw _ (List.mem_of_getElem? (i := 19) rfl)) (hw _ (List.mem_of_getElem? (i := 18) rfl)) (by decide) (by decide)) q1a q1c (g := (mkF m 1 #[.val (.ref aa0), .val (.int pp1)] [(.ref aa0)])) rfl (by rw [hml]; rfl) (Steps.refl _) (argsL := []) (rest := []) (lenOf pd__28__29_I rfl) rfl (by show 2 * 0 + _ ≤ _; exact Nat.le_of_eq rfl) (hb hby d4_1) (fun _ _ => ⟨rfl, e0, (by decide : 0 + 0 ≤ _), (by decide : 0 + 0 ≤ _)⟩)
  dsimp only [Pt.U, Pt.locs, Pt.cells, Pt.slots] at X1 l1 y1 z1 st1 hQ1
  subst l1 y1 z1
  obtain ⟨rfl, N1q, e1⟩ := hQ1
  have N1 := Fr.app N0 N1q
  have pre2 : ∀ t, Steps p.tables e below (T1.setTop (mkF m 65 #[.val (.ref aa0), .val (.int pp1)] [(.int pp1)])) t → Steps p.tables e below (s₁.setTop (entryFrame m #[(.ref aa0), (.int pp1)] 2)) t := fun t kt => pre0 t (by
    show Steps p.tables e below (s₁.setTop (mkF m 0 #[.val (.ref aa0), .val (.int pp1)] [])) _
    refine XS.aloadN X0.here hx rfl (hb hby d4_0) rfl rfl ?_
    show Steps p.tables e below (s₁.setTop (mkF m 1 #[.val (.ref aa0), .val (.int pp1)] [(.ref aa0)])) _
    refine st1.trans ?_
    show Steps p.tables e below (T1.setTop (mkF m 4 #[.val (.ref aa0), .val (.int pp1)] [(.int (2 : Int32))])) _
    refine XS.tswIn X1.here hx rfl (pc0 := 4) (pc' := 64) rfl (hb hby d4_4) rfl (by decide) (o := 60) rfl (by decide) (by decide) ?_
    show Steps p.tables e below (T1.setTop (mkF m 64 #[.val (.ref aa0), .val (.int pp1)] [])) _
    refine XS.iloadN X1.here hx rfl (hb hby d4_64) rfl ?_
    exact kt)
  by_cases hc65 : pp1 < (0 : Int32)
  · skip
    obtain ⟨fs, hr, hrun, hended, hW, hsame⟩ := X1.leave (v := some (.int (1 : Int32))) (fun h => by rw [Bd.returns] at h; cases h)
    refine ⟨_, _, pre2 _ ?_, hrun, hended, _, _, rfl, ?_, ⟨_, rfl⟩, hW, hsame.mono (by decide) (by decide)⟩
    · show Steps p.tables e below (T1.setTop (mkF m 65 #[.val (.ref aa0), .val (.int pp1)] [(.int pp1)])) _
      refine XS.ifNo X1.here hx rfl (hb hby d4_65) rfl ((if0 _ _).trans (tlt hc65).2.1) ?_
      show Steps p.tables e below (T1.setTop (mkF m 68 #[.val (.ref aa0), .val (.int pp1)] [])) _
      refine XS.iconst X1.here hx rfl (hb hby d4_68) ?_
      show Steps p.tables e below (T1.setTop (mkF m 69 #[.val (.ref aa0), .val (.int pp1)] [(.int (1 : Int32))])) _
      refine XS.goto X1.here hx rfl (pc0 := 69) (pc' := 73) rfl (hb hby d4_69) (by decide) (by decide) ?_
      show Steps p.tables e below (T1.setTop (mkF m 73 #[.val (.ref aa0), .val (.int pp1)] [(.int (1 : Int32))])) _
      exact retN X1 hx (t := .boolean) Bd.returns (by simp) (hb hby d4_73) hr
    · show Q4_2 Z aa0 pp1 h0 n0 _ T1.heap _
      rw [e1]
      exact ⟨(by first | rw [if_pos hc65] | rw [if_neg hc65]), N1, rfl⟩
  · skip
    obtain ⟨fs, hr, hrun, hended, hW, hsame⟩ := X1.leave (v := some (.int (0 : Int32))) (fun h => by rw [Bd.returns] at h; cases h)
    refine ⟨_, _, pre2 _ ?_, hrun, hended, _, _, rfl, ?_, ⟨_, rfl⟩, hW, hsame.mono (by decide) (by decide)⟩
    · show Steps p.tables e below (T1.setTop (mkF m 65 #[.val (.ref aa0), .val (.int pp1)] [(.int pp1)])) _
      refine XS.ifYes X1.here hx rfl (pc0 := 65) (pc' := 72) rfl (hb hby d4_65) rfl ((if0 _ _).trans (flt hc65).2.1) (by decide) (by decide) ?_
      show Steps p.tables e below (T1.setTop (mkF m 72 #[.val (.ref aa0), .val (.int pp1)] [])) _
      refine XS.iconst X1.here hx rfl (hb hby d4_72) ?_
      show Steps p.tables e below (T1.setTop (mkF m 73 #[.val (.ref aa0), .val (.int pp1)] [(.int (0 : Int32))])) _
      exact retN X1 hx (t := .boolean) Bd.returns (by simp) (hb hby d4_73) hr
    · show Q4_2 Z aa0 pp1 h0 n0 _ T1.heap _
      rw [e1]
      exact ⟨(by first | rw [if_pos hc65] | rw [if_neg hc65]), N1, rfl⟩
theorem d4_74 : decode prog_18_method_5_code 74 = .ok (.iload_n 1, 1) := by decide +kernel
theorem d4_75 : decode prog_18_method_5_code 75 = .ok (.ifCond .gt 7, 3) := by decide +kernel
theorem d4_78 : decode prog_18_method_5_code 78 = .ok (.iconst 1, 1) := by decide +kernel
theorem d4_79 : decode prog_18_method_5_code 79 = .ok (.goto 4, 3) := by decide +kernel
theorem d4_82 : decode prog_18_method_5_code 82 = .ok (.iconst 0, 1) := by decide +kernel
theorem d4_83 : decode prog_18_method_5_code 83 = .ok (.ireturn, 1) := by decide +kernel
theorem ef_4_3 (m : MethodId) (x0 : Addr) (x1 : Int32) : entryFrame m #[(.ref x0), (.int x1)] 2 = mkF m 0 #[.val (.ref x0), .val (.int x1)] [] := by first | (simp [entryFrame, mkF, argsToLocals, Value.category]; done) | rfl
def Q4_3 (Z : State) (aa0 : Addr) (pp1 : Int32) (h0 : Heap) (n0 : Nat) (v : Option Value) (h : Heap) (L : List Loc) : Prop := v = some (.int (if (0 : Int32) < pp1 then (0 : Int32) else (1 : Int32))) ∧ Fr n0 L ∧ h = h0
set_option maxRecDepth 65536 in
set_option maxHeartbeats 40000000 in
theorem rm4_3 (l : Launch) (Z : State) (a0 : Array Value) (hw : ∀ d ∈ tables_1, d.before a0 Z = true) (ws : List Jvm.Cond) (aa0 : Addr) (pp1 : Int32) (h0 : Heap) (n0 : Nat) (Z0 : n0 ≤ h0.size) (E_aa0 : Exa Z h0 aa0 "com/example/guarded_stream/guardedstream/query/ComparisonOperator") (F_aa0_ordinal : Fld Z h0 aa0 "java/lang/Enum" "ordinal" "I" (.int (3 : Int32))) :
    MetFree l (⟨"com/example/guarded_stream/guardedstream/query/ComparisonOperator", "holds", "(I)Z"⟩ : MethodName) (head1 (Jvm.Cond.code (⟨"com/example/guarded_stream/guardedstream/query/ComparisonOperator", "holds", "(I)Z"⟩ : MethodName) prog_18_method_5_code 2 (some .boolean) :: ws) ({ frames := 1, cells := 0, slots := 0, locals := 12 } : Room)) (fun a U => a = #[(.ref aa0), (.int pp1)] ∧ Z.Warmed39 U.vm ∧ U.heap = h0) (fun _ _ _ _ _ => True) (fun _ U o U' => ∃ v L, o = .returned v ∧ Q4_3 Z aa0 pp1 h0 n0 v U'.heap L ∧ FrameEnd U o U' L ({ frames := 1, cells := 0, slots := 0, locals := 12 } : Room).cells ({ frames := 1, cells := 0, slots := 0, locals := 12 } : Room).slots) := by
  refine MetFree.of_bodySF (plainFor_of_name pn_com_example_guarded_stream_guardedstream_query_ComparisonOperator) hisR ?_
  intro p e s m args below meth c s₁ Bd hml0 hP hK
  obtain ⟨rfl, hZ, hh⟩ := hP
  have hx := Bd.exec
  have hby := Bd.bytes
  have hml : c.maxLocals = 2 := hml0
  have hown : s.vm.findClass "com/example/guarded_stream/guardedstream/query/ComparisonOperator" = some m.cls := findClass_of_methodNamed Bd.named
  have hnm := (name_of_methodNamed Bd.named Bd.method).1
  have X0 : Stand p l e ({ frames := 1, cells := 0, slots := 0, locals := 12 } : Room) s m #[(.ref aa0), (.int pp1)] below meth c s₁ [] 0 0 := Stand.of_body Bd
  have e0 : s₁.heap = h0 := by rw [← hh, Bd.state]; rfl
  have N0 := Fr.nil n0
  have pre0 : ∀ t, Steps p.tables e below (s₁.setTop (mkF m 0 #[.val (.ref aa0), .val (.int pp1)] [])) t → Steps p.tables e below (s₁.setTop (entryFrame m #[(.ref aa0), (.int pp1)] 2)) t := fun t k => castTop (ef_4_3 m aa0 pp1) k
  obtain ⟨cq1, kq1, q1a, q1b, q1c⟩ := isOf hZ e0 E_aa0
  obtain ⟨_, _, ⟨T1, L1, k1, n1⟩, -, X1, ⟨Lc1, hQ1, l1, y1, z1⟩, st1⟩ := X0.virtualBackUp hx (x := (⟨"com/example/guarded_stream/guardedstream/query/ComparisonOperator", "ordinal", "()I"⟩ : MethodName)) (y := (⟨"java/lang/Enum", "ordinal", "()I"⟩ : MethodName)) (owner := "java/lang/Enum") hown (mvT hZ (hw _ (List.mem_of_getElem? (i := 13) rfl))) (mvT hZ (hw _ (List.mem_of_getElem? (i := 14) rfl))) (mvT hZ (hw _ (List.mem_of_getElem? (i := 15) rfl))) (by decide) (mvT hZ (hw _ (List.mem_of_getElem? (i := 17) rfl))) (mvT hZ (hw _ (List.mem_of_getElem? (i := 16) rfl))) (backOf (W := 0) (rm3 l Z a0 hw [] aa0 (3 : Int32) h0 n0 Z0 F_aa0_ordinal) hZ (hw _ (List.mem_of_getElem? (i := 19) rfl)) (hw _ (List.mem_of_getElem? (i := 18) rfl)) (by decide) (by decide)) q1a q1c (g := (mkF m 1 #[.val (.ref aa0), .val (.int pp1)] [(.ref aa0)])) rfl (by rw [hml]; rfl) (Steps.refl _) (argsL := []) (rest := []) (lenOf pd__28__29_I rfl) rfl (by show 2 * 0 + _ ≤ _; exact Nat.le_of_eq rfl) (hb hby d4_1) (fun _ _ => ⟨rfl, e0, (by decide : 0 + 0 ≤ _), (by decide : 0 + 0 ≤ _)⟩)
  dsimp only [Pt.U, Pt.locs, Pt.cells, Pt.slots] at X1 l1 y1 z1 st1 hQ1
  subst l1 y1 z1
  obtain ⟨rfl, N1q, e1⟩ := hQ1
  have N1 := Fr.app N0 N1q
  have pre2 : ∀ t, Steps p.tables e below (T1.setTop (mkF m 75 #[.val (.ref aa0), .val (.int pp1)] [(.int pp1)])) t → Steps p.tables e below (s₁.setTop (entryFrame m #[(.ref aa0), (.int pp1)] 2)) t := fun t kt => pre0 t (by
    show Steps p.tables e below (s₁.setTop (mkF m 0 #[.val (.ref aa0), .val (.int pp1)] [])) _
    refine XS.aloadN X0.here hx rfl (hb hby d4_0) rfl rfl ?_
    show Steps p.tables e below (s₁.setTop (mkF m 1 #[.val (.ref aa0), .val (.int pp1)] [(.ref aa0)])) _
    refine st1.trans ?_
    show Steps p.tables e below (T1.setTop (mkF m 4 #[.val (.ref aa0), .val (.int pp1)] [(.int (3 : Int32))])) _
    refine XS.tswIn X1.here hx rfl (pc0 := 4) (pc' := 74) rfl (hb hby d4_4) rfl (by decide) (o := 70) rfl (by decide) (by decide) ?_
    show Steps p.tables e below (T1.setTop (mkF m 74 #[.val (.ref aa0), .val (.int pp1)] [])) _
    refine XS.iloadN X1.here hx rfl (hb hby d4_74) rfl ?_
    exact kt)
  by_cases hc75 : (0 : Int32) < pp1
  · skip
    obtain ⟨fs, hr, hrun, hended, hW, hsame⟩ := X1.leave (v := some (.int (0 : Int32))) (fun h => by rw [Bd.returns] at h; cases h)
    refine ⟨_, _, pre2 _ ?_, hrun, hended, _, _, rfl, ?_, ⟨_, rfl⟩, hW, hsame.mono (by decide) (by decide)⟩
    · show Steps p.tables e below (T1.setTop (mkF m 75 #[.val (.ref aa0), .val (.int pp1)] [(.int pp1)])) _
      refine XS.ifYes X1.here hx rfl (pc0 := 75) (pc' := 82) rfl (hb hby d4_75) rfl ((if0 _ _).trans (tlt hc75).2.2.1) (by decide) (by decide) ?_
      show Steps p.tables e below (T1.setTop (mkF m 82 #[.val (.ref aa0), .val (.int pp1)] [])) _
      refine XS.iconst X1.here hx rfl (hb hby d4_82) ?_
      show Steps p.tables e below (T1.setTop (mkF m 83 #[.val (.ref aa0), .val (.int pp1)] [(.int (0 : Int32))])) _
      exact retN X1 hx (t := .boolean) Bd.returns (by simp) (hb hby d4_83) hr
    · show Q4_3 Z aa0 pp1 h0 n0 _ T1.heap _
      rw [e1]
      exact ⟨(by first | rw [if_pos hc75] | rw [if_neg hc75]), N1, rfl⟩
  · skip
    obtain ⟨fs, hr, hrun, hended, hW, hsame⟩ := X1.leave (v := some (.int (1 : Int32))) (fun h => by rw [Bd.returns] at h; cases h)
    refine ⟨_, _, pre2 _ ?_, hrun, hended, _, _, rfl, ?_, ⟨_, rfl⟩, hW, hsame.mono (by decide) (by decide)⟩
    · show Steps p.tables e below (T1.setTop (mkF m 75 #[.val (.ref aa0), .val (.int pp1)] [(.int pp1)])) _
      refine XS.ifNo X1.here hx rfl (hb hby d4_75) rfl ((if0 _ _).trans (flt hc75).2.2.1) ?_
      show Steps p.tables e below (T1.setTop (mkF m 78 #[.val (.ref aa0), .val (.int pp1)] [])) _
      refine XS.iconst X1.here hx rfl (hb hby d4_78) ?_
      show Steps p.tables e below (T1.setTop (mkF m 79 #[.val (.ref aa0), .val (.int pp1)] [(.int (1 : Int32))])) _
      refine XS.goto X1.here hx rfl (pc0 := 79) (pc' := 83) rfl (hb hby d4_79) (by decide) (by decide) ?_
      show Steps p.tables e below (T1.setTop (mkF m 83 #[.val (.ref aa0), .val (.int pp1)] [(.int (1 : Int32))])) _
      exact retN X1 hx (t := .boolean) Bd.returns (by simp) (hb hby d4_83) hr
    · show Q4_3 Z aa0 pp1 h0 n0 _ T1.heap _
      rw [e1]
      exact ⟨(by first | rw [if_pos hc75] | rw [if_neg hc75]), N1, rfl⟩
theorem d4_84 : decode prog_18_method_5_code 84 = .ok (.iload_n 1, 1) := by decide +kernel
theorem d4_85 : decode prog_18_method_5_code 85 = .ok (.ifCond .le 7, 3) := by decide +kernel
theorem d4_88 : decode prog_18_method_5_code 88 = .ok (.iconst 1, 1) := by decide +kernel
theorem d4_89 : decode prog_18_method_5_code 89 = .ok (.goto 4, 3) := by decide +kernel
theorem d4_92 : decode prog_18_method_5_code 92 = .ok (.iconst 0, 1) := by decide +kernel
theorem d4_93 : decode prog_18_method_5_code 93 = .ok (.ireturn, 1) := by decide +kernel
theorem ef_4_4 (m : MethodId) (x0 : Addr) (x1 : Int32) : entryFrame m #[(.ref x0), (.int x1)] 2 = mkF m 0 #[.val (.ref x0), .val (.int x1)] [] := by first | (simp [entryFrame, mkF, argsToLocals, Value.category]; done) | rfl
def Q4_4 (Z : State) (aa0 : Addr) (pp1 : Int32) (h0 : Heap) (n0 : Nat) (v : Option Value) (h : Heap) (L : List Loc) : Prop := v = some (.int (if (0 : Int32) < pp1 then (1 : Int32) else (0 : Int32))) ∧ Fr n0 L ∧ h = h0
set_option maxRecDepth 65536 in
set_option maxHeartbeats 40000000 in
theorem rm4_4 (l : Launch) (Z : State) (a0 : Array Value) (hw : ∀ d ∈ tables_1, d.before a0 Z = true) (ws : List Jvm.Cond) (aa0 : Addr) (pp1 : Int32) (h0 : Heap) (n0 : Nat) (Z0 : n0 ≤ h0.size) (E_aa0 : Exa Z h0 aa0 "com/example/guarded_stream/guardedstream/query/ComparisonOperator") (F_aa0_ordinal : Fld Z h0 aa0 "java/lang/Enum" "ordinal" "I" (.int (4 : Int32))) :
    MetFree l (⟨"com/example/guarded_stream/guardedstream/query/ComparisonOperator", "holds", "(I)Z"⟩ : MethodName) (head1 (Jvm.Cond.code (⟨"com/example/guarded_stream/guardedstream/query/ComparisonOperator", "holds", "(I)Z"⟩ : MethodName) prog_18_method_5_code 2 (some .boolean) :: ws) ({ frames := 1, cells := 0, slots := 0, locals := 12 } : Room)) (fun a U => a = #[(.ref aa0), (.int pp1)] ∧ Z.Warmed39 U.vm ∧ U.heap = h0) (fun _ _ _ _ _ => True) (fun _ U o U' => ∃ v L, o = .returned v ∧ Q4_4 Z aa0 pp1 h0 n0 v U'.heap L ∧ FrameEnd U o U' L ({ frames := 1, cells := 0, slots := 0, locals := 12 } : Room).cells ({ frames := 1, cells := 0, slots := 0, locals := 12 } : Room).slots) := by
  refine MetFree.of_bodySF (plainFor_of_name pn_com_example_guarded_stream_guardedstream_query_ComparisonOperator) hisR ?_
  intro p e s m args below meth c s₁ Bd hml0 hP hK
  obtain ⟨rfl, hZ, hh⟩ := hP
  have hx := Bd.exec
  have hby := Bd.bytes
  have hml : c.maxLocals = 2 := hml0
  have hown : s.vm.findClass "com/example/guarded_stream/guardedstream/query/ComparisonOperator" = some m.cls := findClass_of_methodNamed Bd.named
  have hnm := (name_of_methodNamed Bd.named Bd.method).1
  have X0 : Stand p l e ({ frames := 1, cells := 0, slots := 0, locals := 12 } : Room) s m #[(.ref aa0), (.int pp1)] below meth c s₁ [] 0 0 := Stand.of_body Bd
  have e0 : s₁.heap = h0 := by rw [← hh, Bd.state]; rfl
  have N0 := Fr.nil n0
  have pre0 : ∀ t, Steps p.tables e below (s₁.setTop (mkF m 0 #[.val (.ref aa0), .val (.int pp1)] [])) t → Steps p.tables e below (s₁.setTop (entryFrame m #[(.ref aa0), (.int pp1)] 2)) t := fun t k => castTop (ef_4_4 m aa0 pp1) k
  obtain ⟨cq1, kq1, q1a, q1b, q1c⟩ := isOf hZ e0 E_aa0
  obtain ⟨_, _, ⟨T1, L1, k1, n1⟩, -, X1, ⟨Lc1, hQ1, l1, y1, z1⟩, st1⟩ := X0.virtualBackUp hx (x := (⟨"com/example/guarded_stream/guardedstream/query/ComparisonOperator", "ordinal", "()I"⟩ : MethodName)) (y := (⟨"java/lang/Enum", "ordinal", "()I"⟩ : MethodName)) (owner := "java/lang/Enum") hown (mvT hZ (hw _ (List.mem_of_getElem? (i := 13) rfl))) (mvT hZ (hw _ (List.mem_of_getElem? (i := 14) rfl))) (mvT hZ (hw _ (List.mem_of_getElem? (i := 15) rfl))) (by decide) (mvT hZ (hw _ (List.mem_of_getElem? (i := 17) rfl))) (mvT hZ (hw _ (List.mem_of_getElem? (i := 16) rfl))) (backOf (W := 0) (rm3 l Z a0 hw [] aa0 (4 : Int32) h0 n0 Z0 F_aa0_ordinal) hZ (hw _ (List.mem_of_getElem? (i := 19) rfl)) (hw _ (List.mem_of_getElem? (i := 18) rfl)) (by decide) (by decide)) q1a q1c (g := (mkF m 1 #[.val (.ref aa0), .val (.int pp1)] [(.ref aa0)])) rfl (by rw [hml]; rfl) (Steps.refl _) (argsL := []) (rest := []) (lenOf pd__28__29_I rfl) rfl (by show 2 * 0 + _ ≤ _; exact Nat.le_of_eq rfl) (hb hby d4_1) (fun _ _ => ⟨rfl, e0, (by decide : 0 + 0 ≤ _), (by decide : 0 + 0 ≤ _)⟩)
  dsimp only [Pt.U, Pt.locs, Pt.cells, Pt.slots] at X1 l1 y1 z1 st1 hQ1
  subst l1 y1 z1
  obtain ⟨rfl, N1q, e1⟩ := hQ1
  have N1 := Fr.app N0 N1q
  have pre2 : ∀ t, Steps p.tables e below (T1.setTop (mkF m 85 #[.val (.ref aa0), .val (.int pp1)] [(.int pp1)])) t → Steps p.tables e below (s₁.setTop (entryFrame m #[(.ref aa0), (.int pp1)] 2)) t := fun t kt => pre0 t (by
    show Steps p.tables e below (s₁.setTop (mkF m 0 #[.val (.ref aa0), .val (.int pp1)] [])) _
    refine XS.aloadN X0.here hx rfl (hb hby d4_0) rfl rfl ?_
    show Steps p.tables e below (s₁.setTop (mkF m 1 #[.val (.ref aa0), .val (.int pp1)] [(.ref aa0)])) _
    refine st1.trans ?_
    show Steps p.tables e below (T1.setTop (mkF m 4 #[.val (.ref aa0), .val (.int pp1)] [(.int (4 : Int32))])) _
    refine XS.tswIn X1.here hx rfl (pc0 := 4) (pc' := 84) rfl (hb hby d4_4) rfl (by decide) (o := 80) rfl (by decide) (by decide) ?_
    show Steps p.tables e below (T1.setTop (mkF m 84 #[.val (.ref aa0), .val (.int pp1)] [])) _
    refine XS.iloadN X1.here hx rfl (hb hby d4_84) rfl ?_
    exact kt)
  by_cases hc85 : (0 : Int32) < pp1
  · skip
    obtain ⟨fs, hr, hrun, hended, hW, hsame⟩ := X1.leave (v := some (.int (1 : Int32))) (fun h => by rw [Bd.returns] at h; cases h)
    refine ⟨_, _, pre2 _ ?_, hrun, hended, _, _, rfl, ?_, ⟨_, rfl⟩, hW, hsame.mono (by decide) (by decide)⟩
    · show Steps p.tables e below (T1.setTop (mkF m 85 #[.val (.ref aa0), .val (.int pp1)] [(.int pp1)])) _
      refine XS.ifNo X1.here hx rfl (hb hby d4_85) rfl ((if0 _ _).trans (tlt hc85).2.2.2) ?_
      show Steps p.tables e below (T1.setTop (mkF m 88 #[.val (.ref aa0), .val (.int pp1)] [])) _
      refine XS.iconst X1.here hx rfl (hb hby d4_88) ?_
      show Steps p.tables e below (T1.setTop (mkF m 89 #[.val (.ref aa0), .val (.int pp1)] [(.int (1 : Int32))])) _
      refine XS.goto X1.here hx rfl (pc0 := 89) (pc' := 93) rfl (hb hby d4_89) (by decide) (by decide) ?_
      show Steps p.tables e below (T1.setTop (mkF m 93 #[.val (.ref aa0), .val (.int pp1)] [(.int (1 : Int32))])) _
      exact retN X1 hx (t := .boolean) Bd.returns (by simp) (hb hby d4_93) hr
    · show Q4_4 Z aa0 pp1 h0 n0 _ T1.heap _
      rw [e1]
      exact ⟨(by first | rw [if_pos hc85] | rw [if_neg hc85]), N1, rfl⟩
  · skip
    obtain ⟨fs, hr, hrun, hended, hW, hsame⟩ := X1.leave (v := some (.int (0 : Int32))) (fun h => by rw [Bd.returns] at h; cases h)
    refine ⟨_, _, pre2 _ ?_, hrun, hended, _, _, rfl, ?_, ⟨_, rfl⟩, hW, hsame.mono (by decide) (by decide)⟩
    · show Steps p.tables e below (T1.setTop (mkF m 85 #[.val (.ref aa0), .val (.int pp1)] [(.int pp1)])) _
      refine XS.ifYes X1.here hx rfl (pc0 := 85) (pc' := 92) rfl (hb hby d4_85) rfl ((if0 _ _).trans (flt hc85).2.2.2) (by decide) (by decide) ?_
      show Steps p.tables e below (T1.setTop (mkF m 92 #[.val (.ref aa0), .val (.int pp1)] [])) _
      refine XS.iconst X1.here hx rfl (hb hby d4_92) ?_
      show Steps p.tables e below (T1.setTop (mkF m 93 #[.val (.ref aa0), .val (.int pp1)] [(.int (0 : Int32))])) _
      exact retN X1 hx (t := .boolean) Bd.returns (by simp) (hb hby d4_93) hr
    · show Q4_4 Z aa0 pp1 h0 n0 _ T1.heap _
      rw [e1]
      exact ⟨(by first | rw [if_pos hc85] | rw [if_neg hc85]), N1, rfl⟩
theorem d4_94 : decode prog_18_method_5_code 94 = .ok (.iload_n 1, 1) := by decide +kernel
theorem d4_95 : decode prog_18_method_5_code 95 = .ok (.ifCond .lt 7, 3) := by decide +kernel
theorem d4_98 : decode prog_18_method_5_code 98 = .ok (.iconst 1, 1) := by decide +kernel
theorem d4_99 : decode prog_18_method_5_code 99 = .ok (.goto 4, 3) := by decide +kernel
theorem d4_102 : decode prog_18_method_5_code 102 = .ok (.iconst 0, 1) := by decide +kernel
theorem d4_103 : decode prog_18_method_5_code 103 = .ok (.ireturn, 1) := by decide +kernel
theorem ef_4_5 (m : MethodId) (x0 : Addr) (x1 : Int32) : entryFrame m #[(.ref x0), (.int x1)] 2 = mkF m 0 #[.val (.ref x0), .val (.int x1)] [] := by first | (simp [entryFrame, mkF, argsToLocals, Value.category]; done) | rfl
def Q4_5 (Z : State) (aa0 : Addr) (pp1 : Int32) (h0 : Heap) (n0 : Nat) (v : Option Value) (h : Heap) (L : List Loc) : Prop := v = some (.int (if pp1 < (0 : Int32) then (0 : Int32) else (1 : Int32))) ∧ Fr n0 L ∧ h = h0
set_option maxRecDepth 65536 in
set_option maxHeartbeats 40000000 in
theorem rm4_5 (l : Launch) (Z : State) (a0 : Array Value) (hw : ∀ d ∈ tables_1, d.before a0 Z = true) (ws : List Jvm.Cond) (aa0 : Addr) (pp1 : Int32) (h0 : Heap) (n0 : Nat) (Z0 : n0 ≤ h0.size) (E_aa0 : Exa Z h0 aa0 "com/example/guarded_stream/guardedstream/query/ComparisonOperator") (F_aa0_ordinal : Fld Z h0 aa0 "java/lang/Enum" "ordinal" "I" (.int (5 : Int32))) :
    MetFree l (⟨"com/example/guarded_stream/guardedstream/query/ComparisonOperator", "holds", "(I)Z"⟩ : MethodName) (head1 (Jvm.Cond.code (⟨"com/example/guarded_stream/guardedstream/query/ComparisonOperator", "holds", "(I)Z"⟩ : MethodName) prog_18_method_5_code 2 (some .boolean) :: ws) ({ frames := 1, cells := 0, slots := 0, locals := 12 } : Room)) (fun a U => a = #[(.ref aa0), (.int pp1)] ∧ Z.Warmed39 U.vm ∧ U.heap = h0) (fun _ _ _ _ _ => True) (fun _ U o U' => ∃ v L, o = .returned v ∧ Q4_5 Z aa0 pp1 h0 n0 v U'.heap L ∧ FrameEnd U o U' L ({ frames := 1, cells := 0, slots := 0, locals := 12 } : Room).cells ({ frames := 1, cells := 0, slots := 0, locals := 12 } : Room).slots) := by
  refine MetFree.of_bodySF (plainFor_of_name pn_com_example_guarded_stream_guardedstream_query_ComparisonOperator) hisR ?_
  intro p e s m args below meth c s₁ Bd hml0 hP hK
  obtain ⟨rfl, hZ, hh⟩ := hP
  have hx := Bd.exec
  have hby := Bd.bytes
  have hml : c.maxLocals = 2 := hml0
  have hown : s.vm.findClass "com/example/guarded_stream/guardedstream/query/ComparisonOperator" = some m.cls := findClass_of_methodNamed Bd.named
  have hnm := (name_of_methodNamed Bd.named Bd.method).1
  have X0 : Stand p l e ({ frames := 1, cells := 0, slots := 0, locals := 12 } : Room) s m #[(.ref aa0), (.int pp1)] below meth c s₁ [] 0 0 := Stand.of_body Bd
  have e0 : s₁.heap = h0 := by rw [← hh, Bd.state]; rfl
  have N0 := Fr.nil n0
  have pre0 : ∀ t, Steps p.tables e below (s₁.setTop (mkF m 0 #[.val (.ref aa0), .val (.int pp1)] [])) t → Steps p.tables e below (s₁.setTop (entryFrame m #[(.ref aa0), (.int pp1)] 2)) t := fun t k => castTop (ef_4_5 m aa0 pp1) k
  obtain ⟨cq1, kq1, q1a, q1b, q1c⟩ := isOf hZ e0 E_aa0
  obtain ⟨_, _, ⟨T1, L1, k1, n1⟩, -, X1, ⟨Lc1, hQ1, l1, y1, z1⟩, st1⟩ := X0.virtualBackUp hx (x := (⟨"com/example/guarded_stream/guardedstream/query/ComparisonOperator", "ordinal", "()I"⟩ : MethodName)) (y := (⟨"java/lang/Enum", "ordinal", "()I"⟩ : MethodName)) (owner := "java/lang/Enum") hown (mvT hZ (hw _ (List.mem_of_getElem? (i := 13) rfl))) (mvT hZ (hw _ (List.mem_of_getElem? (i := 14) rfl))) (mvT hZ (hw _ (List.mem_of_getElem? (i := 15) rfl))) (by decide) (mvT hZ (hw _ (List.mem_of_getElem? (i := 17) rfl))) (mvT hZ (hw _ (List.mem_of_getElem? (i := 16) rfl))) (backOf (W := 0) (rm3 l Z a0 hw [] aa0 (5 : Int32) h0 n0 Z0 F_aa0_ordinal) hZ (hw _ (List.mem_of_getElem? (i := 19) rfl)) (hw _ (List.mem_of_getElem? (i := 18) rfl)) (by decide) (by decide)) q1a q1c (g := (mkF m 1 #[.val (.ref aa0), .val (.int pp1)] [(.ref aa0)])) rfl (by rw [hml]; rfl) (Steps.refl _) (argsL := []) (rest := []) (lenOf pd__28__29_I rfl) rfl (by show 2 * 0 + _ ≤ _; exact Nat.le_of_eq rfl) (hb hby d4_1) (fun _ _ => ⟨rfl, e0, (by decide : 0 + 0 ≤ _), (by decide : 0 + 0 ≤ _)⟩)
  dsimp only [Pt.U, Pt.locs, Pt.cells, Pt.slots] at X1 l1 y1 z1 st1 hQ1
  subst l1 y1 z1
  obtain ⟨rfl, N1q, e1⟩ := hQ1
  have N1 := Fr.app N0 N1q
  have pre2 : ∀ t, Steps p.tables e below (T1.setTop (mkF m 95 #[.val (.ref aa0), .val (.int pp1)] [(.int pp1)])) t → Steps p.tables e below (s₁.setTop (entryFrame m #[(.ref aa0), (.int pp1)] 2)) t := fun t kt => pre0 t (by
    show Steps p.tables e below (s₁.setTop (mkF m 0 #[.val (.ref aa0), .val (.int pp1)] [])) _
    refine XS.aloadN X0.here hx rfl (hb hby d4_0) rfl rfl ?_
    show Steps p.tables e below (s₁.setTop (mkF m 1 #[.val (.ref aa0), .val (.int pp1)] [(.ref aa0)])) _
    refine st1.trans ?_
    show Steps p.tables e below (T1.setTop (mkF m 4 #[.val (.ref aa0), .val (.int pp1)] [(.int (5 : Int32))])) _
    refine XS.tswIn X1.here hx rfl (pc0 := 4) (pc' := 94) rfl (hb hby d4_4) rfl (by decide) (o := 90) rfl (by decide) (by decide) ?_
    show Steps p.tables e below (T1.setTop (mkF m 94 #[.val (.ref aa0), .val (.int pp1)] [])) _
    refine XS.iloadN X1.here hx rfl (hb hby d4_94) rfl ?_
    exact kt)
  by_cases hc95 : pp1 < (0 : Int32)
  · skip
    obtain ⟨fs, hr, hrun, hended, hW, hsame⟩ := X1.leave (v := some (.int (0 : Int32))) (fun h => by rw [Bd.returns] at h; cases h)
    refine ⟨_, _, pre2 _ ?_, hrun, hended, _, _, rfl, ?_, ⟨_, rfl⟩, hW, hsame.mono (by decide) (by decide)⟩
    · show Steps p.tables e below (T1.setTop (mkF m 95 #[.val (.ref aa0), .val (.int pp1)] [(.int pp1)])) _
      refine XS.ifYes X1.here hx rfl (pc0 := 95) (pc' := 102) rfl (hb hby d4_95) rfl ((if0 _ _).trans (tlt hc95).1) (by decide) (by decide) ?_
      show Steps p.tables e below (T1.setTop (mkF m 102 #[.val (.ref aa0), .val (.int pp1)] [])) _
      refine XS.iconst X1.here hx rfl (hb hby d4_102) ?_
      show Steps p.tables e below (T1.setTop (mkF m 103 #[.val (.ref aa0), .val (.int pp1)] [(.int (0 : Int32))])) _
      exact retN X1 hx (t := .boolean) Bd.returns (by simp) (hb hby d4_103) hr
    · show Q4_5 Z aa0 pp1 h0 n0 _ T1.heap _
      rw [e1]
      exact ⟨(by first | rw [if_pos hc95] | rw [if_neg hc95]), N1, rfl⟩
  · skip
    obtain ⟨fs, hr, hrun, hended, hW, hsame⟩ := X1.leave (v := some (.int (1 : Int32))) (fun h => by rw [Bd.returns] at h; cases h)
    refine ⟨_, _, pre2 _ ?_, hrun, hended, _, _, rfl, ?_, ⟨_, rfl⟩, hW, hsame.mono (by decide) (by decide)⟩
    · show Steps p.tables e below (T1.setTop (mkF m 95 #[.val (.ref aa0), .val (.int pp1)] [(.int pp1)])) _
      refine XS.ifNo X1.here hx rfl (hb hby d4_95) rfl ((if0 _ _).trans (flt hc95).1) ?_
      show Steps p.tables e below (T1.setTop (mkF m 98 #[.val (.ref aa0), .val (.int pp1)] [])) _
      refine XS.iconst X1.here hx rfl (hb hby d4_98) ?_
      show Steps p.tables e below (T1.setTop (mkF m 99 #[.val (.ref aa0), .val (.int pp1)] [(.int (1 : Int32))])) _
      refine XS.goto X1.here hx rfl (pc0 := 99) (pc' := 103) rfl (hb hby d4_99) (by decide) (by decide) ?_
      show Steps p.tables e below (T1.setTop (mkF m 103 #[.val (.ref aa0), .val (.int pp1)] [(.int (1 : Int32))])) _
      exact retN X1 hx (t := .boolean) Bd.returns (by simp) (hb hby d4_103) hr
    · show Q4_5 Z aa0 pp1 h0 n0 _ T1.heap _
      rw [e1]
      exact ⟨(by first | rw [if_pos hc95] | rw [if_neg hc95]), N1, rfl⟩
theorem pn_com_example_guarded_stream_guardedstream_query_ComparisonOperatorNegatedPinLaw : plainName "com/example/guarded_stream/guardedstream/query/ComparisonOperatorNegatedPinLaw" = true := by first | (simp [plainName, overriddenIn]; done) | decide +kernel
theorem d1_0 : decode method_3_code 0 = .ok (.iload_n 0, 1) := by decide +kernel
theorem d1_1 : decode method_3_code 1 = .ok (.ifCond .ne 7, 3) := by decide +kernel
theorem d1_4 : decode method_3_code 4 = .ok (.getstatic 24, 3) := by decide +kernel
theorem d1_7 : decode method_3_code 7 = .ok (.areturn, 1) := by decide +kernel
theorem ef_1_0 (m : MethodId)  : entryFrame m #[(.int (0 : Int32))] 1 = mkF m 0 #[.val (.int (0 : Int32))] [] := by first | (simp [entryFrame, mkF, argsToLocals, Value.category]; done) | rfl
def Q1_0 (Z : State) (ob0 : Addr) (ob1 : Addr) (ob2 : Addr) (ob3 : Addr) (ob4 : Addr) (ob5 : Addr) (h0 : Heap) (n0 : Nat) (v : Option Value) (h : Heap) (L : List Loc) : Prop := v = some (.ref ob0) ∧ Fr n0 L ∧ h = h0
set_option maxRecDepth 65536 in
set_option maxHeartbeats 40000000 in
theorem rm1_0 (l : Launch) (Z : State) (a0 : Array Value) (hw : ∀ d ∈ tables_1, d.before a0 Z = true) (ws : List Jvm.Cond) (ob0 : Addr) (ob1 : Addr) (ob2 : Addr) (ob3 : Addr) (ob4 : Addr) (ob5 : Addr) (h0 : Heap) (n0 : Nat) (Z0 : n0 ≤ h0.size) (O0 : Old Z n0 h0) (S_EQUAL : Sta Z Z.heap "com/example/guarded_stream/guardedstream/query/ComparisonOperator" "EQUAL" "Lcom/example/guarded_stream/guardedstream/query/ComparisonOperator;" (.ref ob0)) (S_NOT_EQUAL : Sta Z Z.heap "com/example/guarded_stream/guardedstream/query/ComparisonOperator" "NOT_EQUAL" "Lcom/example/guarded_stream/guardedstream/query/ComparisonOperator;" (.ref ob1)) (S_LESS : Sta Z Z.heap "com/example/guarded_stream/guardedstream/query/ComparisonOperator" "LESS" "Lcom/example/guarded_stream/guardedstream/query/ComparisonOperator;" (.ref ob2)) (S_LESS_OR_EQUAL : Sta Z Z.heap "com/example/guarded_stream/guardedstream/query/ComparisonOperator" "LESS_OR_EQUAL" "Lcom/example/guarded_stream/guardedstream/query/ComparisonOperator;" (.ref ob3)) (S_GREATER : Sta Z Z.heap "com/example/guarded_stream/guardedstream/query/ComparisonOperator" "GREATER" "Lcom/example/guarded_stream/guardedstream/query/ComparisonOperator;" (.ref ob4)) (S_GREATER_OR_EQUAL : Sta Z Z.heap "com/example/guarded_stream/guardedstream/query/ComparisonOperator" "GREATER_OR_EQUAL" "Lcom/example/guarded_stream/guardedstream/query/ComparisonOperator;" (.ref ob5)) :
    MetFree l (⟨"com/example/guarded_stream/guardedstream/query/ComparisonOperatorNegatedPinLaw", "pick", "(I)Lcom/example/guarded_stream/guardedstream/query/ComparisonOperator;"⟩ : MethodName) (head1 (Jvm.Cond.code (⟨"com/example/guarded_stream/guardedstream/query/ComparisonOperatorNegatedPinLaw", "pick", "(I)Lcom/example/guarded_stream/guardedstream/query/ComparisonOperator;"⟩ : MethodName) method_3_code 1 (some (.object "com/example/guarded_stream/guardedstream/query/ComparisonOperator")) :: ws) ({ frames := 0, cells := 0, slots := 0, locals := 0 } : Room)) (fun a U => a = #[(.int (0 : Int32))] ∧ Z.Warmed39 U.vm ∧ U.heap = h0) (fun _ _ _ _ _ => True) (fun _ U o U' => ∃ v L, o = .returned v ∧ Q1_0 Z ob0 ob1 ob2 ob3 ob4 ob5 h0 n0 v U'.heap L ∧ FrameEnd U o U' L ({ frames := 0, cells := 0, slots := 0, locals := 0 } : Room).cells ({ frames := 0, cells := 0, slots := 0, locals := 0 } : Room).slots) := by
  refine MetFree.of_bodySF (plainFor_of_name pn_com_example_guarded_stream_guardedstream_query_ComparisonOperatorNegatedPinLaw) hisR ?_
  intro p e s m args below meth c s₁ Bd hml0 hP hK
  obtain ⟨rfl, hZ, hh⟩ := hP
  have hx := Bd.exec
  have hby := Bd.bytes
  have hml : c.maxLocals = 1 := hml0
  have hown : s.vm.findClass "com/example/guarded_stream/guardedstream/query/ComparisonOperatorNegatedPinLaw" = some m.cls := findClass_of_methodNamed Bd.named
  have hnm := (name_of_methodNamed Bd.named Bd.method).1
  have X0 : Stand p l e ({ frames := 0, cells := 0, slots := 0, locals := 0 } : Room) s m #[(.int (0 : Int32))] below meth c s₁ [] 0 0 := Stand.of_body Bd
  have e0 : s₁.heap = h0 := by rw [← hh, Bd.state]; rfl
  have N0 := Fr.nil n0
  have pre0 : ∀ t, Steps p.tables e below (s₁.setTop (mkF m 0 #[.val (.int (0 : Int32))] [])) t → Steps p.tables e below (s₁.setTop (entryFrame m #[(.int (0 : Int32))] 1)) t := fun t k => castTop (ef_1_0 m ) k
  have hc1 : (0 : Int32) = (0 : Int32) := by decide
  obtain ⟨T1, X1, e1, st1⟩ := getS2 X0 hx hZ hown (host := "") (Or.inl (hw _ (List.mem_of_getElem? (i := 5) rfl))) Via.refl e0 (S_EQUAL.ext O0.2) (g := (mkF m 4 #[.val (.int (0 : Int32))] [])) rfl (hb hby d1_4)
  obtain ⟨fs, hr, hrun, hended, hW, hsame⟩ := X1.leave (v := some (.ref ob0)) (fun h => by rw [Bd.returns] at h; cases h)
  refine ⟨_, _, pre0 _ ?_, hrun, hended, _, _, rfl, ?_, ⟨_, rfl⟩, hW, hsame.mono (by decide) (by decide)⟩
  · show Steps p.tables e below (s₁.setTop (mkF m 0 #[.val (.int (0 : Int32))] [])) _
    refine XS.iloadN X0.here hx rfl (hb hby d1_0) rfl ?_
    show Steps p.tables e below (s₁.setTop (mkF m 1 #[.val (.int (0 : Int32))] [(.int (0 : Int32))])) _
    refine XS.ifNo X0.here hx rfl (hb hby d1_1) rfl ((if0 _ _).trans (teq hc1).2) ?_
    show Steps p.tables e below (s₁.setTop (mkF m 4 #[.val (.int (0 : Int32))] [])) _
    refine st1 _ ?_
    show Steps p.tables e below (T1.setTop (mkF m 7 #[.val (.int (0 : Int32))] [(.ref ob0)])) _
    jvm_step X1.here [X1.here.top, hx, (hb hby d1_7), X1.method', Bd.returns, Value.isRef, FieldType.isReference]
    first | (intro acts; rw [hr _ acts rfl rfl rfl]) | rw [hr _ _ rfl rfl rfl]
    exact Steps.refl _
  · show Q1_0 Z ob0 ob1 ob2 ob3 ob4 ob5 h0 n0 _ T1.heap _
    rw [e1]
    exact ⟨rfl, N0, rfl⟩
theorem d1_8 : decode method_3_code 8 = .ok (.iload_n 0, 1) := by decide +kernel
theorem d1_9 : decode method_3_code 9 = .ok (.iconst 1, 1) := by decide +kernel
theorem d1_10 : decode method_3_code 10 = .ok (.if_icmp .ne 7, 3) := by decide +kernel
theorem d1_13 : decode method_3_code 13 = .ok (.getstatic 28, 3) := by decide +kernel
theorem d1_16 : decode method_3_code 16 = .ok (.areturn, 1) := by decide +kernel
theorem ef_1_1 (m : MethodId)  : entryFrame m #[(.int (1 : Int32))] 1 = mkF m 0 #[.val (.int (1 : Int32))] [] := by first | (simp [entryFrame, mkF, argsToLocals, Value.category]; done) | rfl
def Q1_1 (Z : State) (ob0 : Addr) (ob1 : Addr) (ob2 : Addr) (ob3 : Addr) (ob4 : Addr) (ob5 : Addr) (h0 : Heap) (n0 : Nat) (v : Option Value) (h : Heap) (L : List Loc) : Prop := v = some (.ref ob1) ∧ Fr n0 L ∧ h = h0
set_option maxRecDepth 65536 in
set_option maxHeartbeats 40000000 in
theorem rm1_1 (l : Launch) (Z : State) (a0 : Array Value) (hw : ∀ d ∈ tables_1, d.before a0 Z = true) (ws : List Jvm.Cond) (ob0 : Addr) (ob1 : Addr) (ob2 : Addr) (ob3 : Addr) (ob4 : Addr) (ob5 : Addr) (h0 : Heap) (n0 : Nat) (Z0 : n0 ≤ h0.size) (O0 : Old Z n0 h0) (S_EQUAL : Sta Z Z.heap "com/example/guarded_stream/guardedstream/query/ComparisonOperator" "EQUAL" "Lcom/example/guarded_stream/guardedstream/query/ComparisonOperator;" (.ref ob0)) (S_NOT_EQUAL : Sta Z Z.heap "com/example/guarded_stream/guardedstream/query/ComparisonOperator" "NOT_EQUAL" "Lcom/example/guarded_stream/guardedstream/query/ComparisonOperator;" (.ref ob1)) (S_LESS : Sta Z Z.heap "com/example/guarded_stream/guardedstream/query/ComparisonOperator" "LESS" "Lcom/example/guarded_stream/guardedstream/query/ComparisonOperator;" (.ref ob2)) (S_LESS_OR_EQUAL : Sta Z Z.heap "com/example/guarded_stream/guardedstream/query/ComparisonOperator" "LESS_OR_EQUAL" "Lcom/example/guarded_stream/guardedstream/query/ComparisonOperator;" (.ref ob3)) (S_GREATER : Sta Z Z.heap "com/example/guarded_stream/guardedstream/query/ComparisonOperator" "GREATER" "Lcom/example/guarded_stream/guardedstream/query/ComparisonOperator;" (.ref ob4)) (S_GREATER_OR_EQUAL : Sta Z Z.heap "com/example/guarded_stream/guardedstream/query/ComparisonOperator" "GREATER_OR_EQUAL" "Lcom/example/guarded_stream/guardedstream/query/ComparisonOperator;" (.ref ob5)) :
    MetFree l (⟨"com/example/guarded_stream/guardedstream/query/ComparisonOperatorNegatedPinLaw", "pick", "(I)Lcom/example/guarded_stream/guardedstream/query/ComparisonOperator;"⟩ : MethodName) (head1 (Jvm.Cond.code (⟨"com/example/guarded_stream/guardedstream/query/ComparisonOperatorNegatedPinLaw", "pick", "(I)Lcom/example/guarded_stream/guardedstream/query/ComparisonOperator;"⟩ : MethodName) method_3_code 1 (some (.object "com/example/guarded_stream/guardedstream/query/ComparisonOperator")) :: ws) ({ frames := 0, cells := 0, slots := 0, locals := 0 } : Room)) (fun a U => a = #[(.int (1 : Int32))] ∧ Z.Warmed39 U.vm ∧ U.heap = h0) (fun _ _ _ _ _ => True) (fun _ U o U' => ∃ v L, o = .returned v ∧ Q1_1 Z ob0 ob1 ob2 ob3 ob4 ob5 h0 n0 v U'.heap L ∧ FrameEnd U o U' L ({ frames := 0, cells := 0, slots := 0, locals := 0 } : Room).cells ({ frames := 0, cells := 0, slots := 0, locals := 0 } : Room).slots) := by
  refine MetFree.of_bodySF (plainFor_of_name pn_com_example_guarded_stream_guardedstream_query_ComparisonOperatorNegatedPinLaw) hisR ?_
  intro p e s m args below meth c s₁ Bd hml0 hP hK
  obtain ⟨rfl, hZ, hh⟩ := hP
  have hx := Bd.exec
  have hby := Bd.bytes
  have hml : c.maxLocals = 1 := hml0
  have hown : s.vm.findClass "com/example/guarded_stream/guardedstream/query/ComparisonOperatorNegatedPinLaw" = some m.cls := findClass_of_methodNamed Bd.named
  have hnm := (name_of_methodNamed Bd.named Bd.method).1
  have X0 : Stand p l e ({ frames := 0, cells := 0, slots := 0, locals := 0 } : Room) s m #[(.int (1 : Int32))] below meth c s₁ [] 0 0 := Stand.of_body Bd
  have e0 : s₁.heap = h0 := by rw [← hh, Bd.state]; rfl
  have N0 := Fr.nil n0
  have pre0 : ∀ t, Steps p.tables e below (s₁.setTop (mkF m 0 #[.val (.int (1 : Int32))] [])) t → Steps p.tables e below (s₁.setTop (entryFrame m #[(.int (1 : Int32))] 1)) t := fun t k => castTop (ef_1_1 m ) k
  have hc1 : ¬ ((1 : Int32) = (0 : Int32)) := by decide
  have hc10 : (1 : Int32) = (1 : Int32) := by decide
  obtain ⟨T1, X1, e1, st1⟩ := getS2 X0 hx hZ hown (host := "") (Or.inl (hw _ (List.mem_of_getElem? (i := 37) rfl))) Via.refl e0 (S_NOT_EQUAL.ext O0.2) (g := (mkF m 13 #[.val (.int (1 : Int32))] [])) rfl (hb hby d1_13)
  obtain ⟨fs, hr, hrun, hended, hW, hsame⟩ := X1.leave (v := some (.ref ob1)) (fun h => by rw [Bd.returns] at h; cases h)
  refine ⟨_, _, pre0 _ ?_, hrun, hended, _, _, rfl, ?_, ⟨_, rfl⟩, hW, hsame.mono (by decide) (by decide)⟩
  · show Steps p.tables e below (s₁.setTop (mkF m 0 #[.val (.int (1 : Int32))] [])) _
    refine XS.iloadN X0.here hx rfl (hb hby d1_0) rfl ?_
    show Steps p.tables e below (s₁.setTop (mkF m 1 #[.val (.int (1 : Int32))] [(.int (1 : Int32))])) _
    refine XS.ifYes X0.here hx rfl (pc0 := 1) (pc' := 8) rfl (hb hby d1_1) rfl ((if0 _ _).trans (feq hc1).2) (by decide) (by decide) ?_
    show Steps p.tables e below (s₁.setTop (mkF m 8 #[.val (.int (1 : Int32))] [])) _
    refine XS.iloadN X0.here hx rfl (hb hby d1_8) rfl ?_
    show Steps p.tables e below (s₁.setTop (mkF m 9 #[.val (.int (1 : Int32))] [(.int (1 : Int32))])) _
    refine XS.iconst X0.here hx rfl (hb hby d1_9) ?_
    show Steps p.tables e below (s₁.setTop (mkF m 10 #[.val (.int (1 : Int32))] [(.int (1 : Int32)), (.int (1 : Int32))])) _
    refine XS.icmpNo X0.here hx rfl (hb hby d1_10) rfl (teq hc10).2 ?_
    show Steps p.tables e below (s₁.setTop (mkF m 13 #[.val (.int (1 : Int32))] [])) _
    refine st1 _ ?_
    show Steps p.tables e below (T1.setTop (mkF m 16 #[.val (.int (1 : Int32))] [(.ref ob1)])) _
    jvm_step X1.here [X1.here.top, hx, (hb hby d1_16), X1.method', Bd.returns, Value.isRef, FieldType.isReference]
    first | (intro acts; rw [hr _ acts rfl rfl rfl]) | rw [hr _ _ rfl rfl rfl]
    exact Steps.refl _
  · show Q1_1 Z ob0 ob1 ob2 ob3 ob4 ob5 h0 n0 _ T1.heap _
    rw [e1]
    exact ⟨rfl, N0, rfl⟩
theorem d1_17 : decode method_3_code 17 = .ok (.iload_n 0, 1) := by decide +kernel
theorem d1_18 : decode method_3_code 18 = .ok (.iconst 2, 1) := by decide +kernel
theorem d1_19 : decode method_3_code 19 = .ok (.if_icmp .ne 7, 3) := by decide +kernel
theorem d1_22 : decode method_3_code 22 = .ok (.getstatic 31, 3) := by decide +kernel
theorem d1_25 : decode method_3_code 25 = .ok (.areturn, 1) := by decide +kernel
theorem ef_1_2 (m : MethodId)  : entryFrame m #[(.int (2 : Int32))] 1 = mkF m 0 #[.val (.int (2 : Int32))] [] := by first | (simp [entryFrame, mkF, argsToLocals, Value.category]; done) | rfl
def Q1_2 (Z : State) (ob0 : Addr) (ob1 : Addr) (ob2 : Addr) (ob3 : Addr) (ob4 : Addr) (ob5 : Addr) (h0 : Heap) (n0 : Nat) (v : Option Value) (h : Heap) (L : List Loc) : Prop := v = some (.ref ob2) ∧ Fr n0 L ∧ h = h0
set_option maxRecDepth 65536 in
set_option maxHeartbeats 40000000 in
theorem rm1_2 (l : Launch) (Z : State) (a0 : Array Value) (hw : ∀ d ∈ tables_1, d.before a0 Z = true) (ws : List Jvm.Cond) (ob0 : Addr) (ob1 : Addr) (ob2 : Addr) (ob3 : Addr) (ob4 : Addr) (ob5 : Addr) (h0 : Heap) (n0 : Nat) (Z0 : n0 ≤ h0.size) (O0 : Old Z n0 h0) (S_EQUAL : Sta Z Z.heap "com/example/guarded_stream/guardedstream/query/ComparisonOperator" "EQUAL" "Lcom/example/guarded_stream/guardedstream/query/ComparisonOperator;" (.ref ob0)) (S_NOT_EQUAL : Sta Z Z.heap "com/example/guarded_stream/guardedstream/query/ComparisonOperator" "NOT_EQUAL" "Lcom/example/guarded_stream/guardedstream/query/ComparisonOperator;" (.ref ob1)) (S_LESS : Sta Z Z.heap "com/example/guarded_stream/guardedstream/query/ComparisonOperator" "LESS" "Lcom/example/guarded_stream/guardedstream/query/ComparisonOperator;" (.ref ob2)) (S_LESS_OR_EQUAL : Sta Z Z.heap "com/example/guarded_stream/guardedstream/query/ComparisonOperator" "LESS_OR_EQUAL" "Lcom/example/guarded_stream/guardedstream/query/ComparisonOperator;" (.ref ob3)) (S_GREATER : Sta Z Z.heap "com/example/guarded_stream/guardedstream/query/ComparisonOperator" "GREATER" "Lcom/example/guarded_stream/guardedstream/query/ComparisonOperator;" (.ref ob4)) (S_GREATER_OR_EQUAL : Sta Z Z.heap "com/example/guarded_stream/guardedstream/query/ComparisonOperator" "GREATER_OR_EQUAL" "Lcom/example/guarded_stream/guardedstream/query/ComparisonOperator;" (.ref ob5)) :
    MetFree l (⟨"com/example/guarded_stream/guardedstream/query/ComparisonOperatorNegatedPinLaw", "pick", "(I)Lcom/example/guarded_stream/guardedstream/query/ComparisonOperator;"⟩ : MethodName) (head1 (Jvm.Cond.code (⟨"com/example/guarded_stream/guardedstream/query/ComparisonOperatorNegatedPinLaw", "pick", "(I)Lcom/example/guarded_stream/guardedstream/query/ComparisonOperator;"⟩ : MethodName) method_3_code 1 (some (.object "com/example/guarded_stream/guardedstream/query/ComparisonOperator")) :: ws) ({ frames := 0, cells := 0, slots := 0, locals := 0 } : Room)) (fun a U => a = #[(.int (2 : Int32))] ∧ Z.Warmed39 U.vm ∧ U.heap = h0) (fun _ _ _ _ _ => True) (fun _ U o U' => ∃ v L, o = .returned v ∧ Q1_2 Z ob0 ob1 ob2 ob3 ob4 ob5 h0 n0 v U'.heap L ∧ FrameEnd U o U' L ({ frames := 0, cells := 0, slots := 0, locals := 0 } : Room).cells ({ frames := 0, cells := 0, slots := 0, locals := 0 } : Room).slots) := by
  refine MetFree.of_bodySF (plainFor_of_name pn_com_example_guarded_stream_guardedstream_query_ComparisonOperatorNegatedPinLaw) hisR ?_
  intro p e s m args below meth c s₁ Bd hml0 hP hK
  obtain ⟨rfl, hZ, hh⟩ := hP
  have hx := Bd.exec
  have hby := Bd.bytes
  have hml : c.maxLocals = 1 := hml0
  have hown : s.vm.findClass "com/example/guarded_stream/guardedstream/query/ComparisonOperatorNegatedPinLaw" = some m.cls := findClass_of_methodNamed Bd.named
  have hnm := (name_of_methodNamed Bd.named Bd.method).1
  have X0 : Stand p l e ({ frames := 0, cells := 0, slots := 0, locals := 0 } : Room) s m #[(.int (2 : Int32))] below meth c s₁ [] 0 0 := Stand.of_body Bd
  have e0 : s₁.heap = h0 := by rw [← hh, Bd.state]; rfl
  have N0 := Fr.nil n0
  have pre0 : ∀ t, Steps p.tables e below (s₁.setTop (mkF m 0 #[.val (.int (2 : Int32))] [])) t → Steps p.tables e below (s₁.setTop (entryFrame m #[(.int (2 : Int32))] 1)) t := fun t k => castTop (ef_1_2 m ) k
  have hc1 : ¬ ((2 : Int32) = (0 : Int32)) := by decide
  have hc10 : ¬ ((2 : Int32) = (1 : Int32)) := by decide
  have hc19 : (2 : Int32) = (2 : Int32) := by decide
  obtain ⟨T1, X1, e1, st1⟩ := getS2 X0 hx hZ hown (host := "") (Or.inl (hw _ (List.mem_of_getElem? (i := 29) rfl))) Via.refl e0 (S_LESS.ext O0.2) (g := (mkF m 22 #[.val (.int (2 : Int32))] [])) rfl (hb hby d1_22)
  obtain ⟨fs, hr, hrun, hended, hW, hsame⟩ := X1.leave (v := some (.ref ob2)) (fun h => by rw [Bd.returns] at h; cases h)
  refine ⟨_, _, pre0 _ ?_, hrun, hended, _, _, rfl, ?_, ⟨_, rfl⟩, hW, hsame.mono (by decide) (by decide)⟩
  · show Steps p.tables e below (s₁.setTop (mkF m 0 #[.val (.int (2 : Int32))] [])) _
    refine XS.iloadN X0.here hx rfl (hb hby d1_0) rfl ?_
    show Steps p.tables e below (s₁.setTop (mkF m 1 #[.val (.int (2 : Int32))] [(.int (2 : Int32))])) _
    refine XS.ifYes X0.here hx rfl (pc0 := 1) (pc' := 8) rfl (hb hby d1_1) rfl ((if0 _ _).trans (feq hc1).2) (by decide) (by decide) ?_
    show Steps p.tables e below (s₁.setTop (mkF m 8 #[.val (.int (2 : Int32))] [])) _
    refine XS.iloadN X0.here hx rfl (hb hby d1_8) rfl ?_
    show Steps p.tables e below (s₁.setTop (mkF m 9 #[.val (.int (2 : Int32))] [(.int (2 : Int32))])) _
    refine XS.iconst X0.here hx rfl (hb hby d1_9) ?_
    show Steps p.tables e below (s₁.setTop (mkF m 10 #[.val (.int (2 : Int32))] [(.int (1 : Int32)), (.int (2 : Int32))])) _
    refine XS.icmpYes X0.here hx rfl (pc0 := 10) (pc' := 17) rfl (hb hby d1_10) rfl (feq hc10).2 (by decide) (by decide) ?_
    show Steps p.tables e below (s₁.setTop (mkF m 17 #[.val (.int (2 : Int32))] [])) _
    refine XS.iloadN X0.here hx rfl (hb hby d1_17) rfl ?_
    show Steps p.tables e below (s₁.setTop (mkF m 18 #[.val (.int (2 : Int32))] [(.int (2 : Int32))])) _
    refine XS.iconst X0.here hx rfl (hb hby d1_18) ?_
    show Steps p.tables e below (s₁.setTop (mkF m 19 #[.val (.int (2 : Int32))] [(.int (2 : Int32)), (.int (2 : Int32))])) _
    refine XS.icmpNo X0.here hx rfl (hb hby d1_19) rfl (teq hc19).2 ?_
    show Steps p.tables e below (s₁.setTop (mkF m 22 #[.val (.int (2 : Int32))] [])) _
    refine st1 _ ?_
    show Steps p.tables e below (T1.setTop (mkF m 25 #[.val (.int (2 : Int32))] [(.ref ob2)])) _
    jvm_step X1.here [X1.here.top, hx, (hb hby d1_25), X1.method', Bd.returns, Value.isRef, FieldType.isReference]
    first | (intro acts; rw [hr _ acts rfl rfl rfl]) | rw [hr _ _ rfl rfl rfl]
    exact Steps.refl _
  · show Q1_2 Z ob0 ob1 ob2 ob3 ob4 ob5 h0 n0 _ T1.heap _
    rw [e1]
    exact ⟨rfl, N0, rfl⟩
theorem d1_26 : decode method_3_code 26 = .ok (.iload_n 0, 1) := by decide +kernel
theorem d1_27 : decode method_3_code 27 = .ok (.iconst 3, 1) := by decide +kernel
theorem d1_28 : decode method_3_code 28 = .ok (.if_icmp .ne 7, 3) := by decide +kernel
theorem d1_31 : decode method_3_code 31 = .ok (.getstatic 34, 3) := by decide +kernel
theorem d1_34 : decode method_3_code 34 = .ok (.areturn, 1) := by decide +kernel
theorem ef_1_3 (m : MethodId)  : entryFrame m #[(.int (3 : Int32))] 1 = mkF m 0 #[.val (.int (3 : Int32))] [] := by first | (simp [entryFrame, mkF, argsToLocals, Value.category]; done) | rfl
def Q1_3 (Z : State) (ob0 : Addr) (ob1 : Addr) (ob2 : Addr) (ob3 : Addr) (ob4 : Addr) (ob5 : Addr) (h0 : Heap) (n0 : Nat) (v : Option Value) (h : Heap) (L : List Loc) : Prop := v = some (.ref ob3) ∧ Fr n0 L ∧ h = h0
set_option maxRecDepth 65536 in
set_option maxHeartbeats 40000000 in
theorem rm1_3 (l : Launch) (Z : State) (a0 : Array Value) (hw : ∀ d ∈ tables_1, d.before a0 Z = true) (ws : List Jvm.Cond) (ob0 : Addr) (ob1 : Addr) (ob2 : Addr) (ob3 : Addr) (ob4 : Addr) (ob5 : Addr) (h0 : Heap) (n0 : Nat) (Z0 : n0 ≤ h0.size) (O0 : Old Z n0 h0) (S_EQUAL : Sta Z Z.heap "com/example/guarded_stream/guardedstream/query/ComparisonOperator" "EQUAL" "Lcom/example/guarded_stream/guardedstream/query/ComparisonOperator;" (.ref ob0)) (S_NOT_EQUAL : Sta Z Z.heap "com/example/guarded_stream/guardedstream/query/ComparisonOperator" "NOT_EQUAL" "Lcom/example/guarded_stream/guardedstream/query/ComparisonOperator;" (.ref ob1)) (S_LESS : Sta Z Z.heap "com/example/guarded_stream/guardedstream/query/ComparisonOperator" "LESS" "Lcom/example/guarded_stream/guardedstream/query/ComparisonOperator;" (.ref ob2)) (S_LESS_OR_EQUAL : Sta Z Z.heap "com/example/guarded_stream/guardedstream/query/ComparisonOperator" "LESS_OR_EQUAL" "Lcom/example/guarded_stream/guardedstream/query/ComparisonOperator;" (.ref ob3)) (S_GREATER : Sta Z Z.heap "com/example/guarded_stream/guardedstream/query/ComparisonOperator" "GREATER" "Lcom/example/guarded_stream/guardedstream/query/ComparisonOperator;" (.ref ob4)) (S_GREATER_OR_EQUAL : Sta Z Z.heap "com/example/guarded_stream/guardedstream/query/ComparisonOperator" "GREATER_OR_EQUAL" "Lcom/example/guarded_stream/guardedstream/query/ComparisonOperator;" (.ref ob5)) :
    MetFree l (⟨"com/example/guarded_stream/guardedstream/query/ComparisonOperatorNegatedPinLaw", "pick", "(I)Lcom/example/guarded_stream/guardedstream/query/ComparisonOperator;"⟩ : MethodName) (head1 (Jvm.Cond.code (⟨"com/example/guarded_stream/guardedstream/query/ComparisonOperatorNegatedPinLaw", "pick", "(I)Lcom/example/guarded_stream/guardedstream/query/ComparisonOperator;"⟩ : MethodName) method_3_code 1 (some (.object "com/example/guarded_stream/guardedstream/query/ComparisonOperator")) :: ws) ({ frames := 0, cells := 0, slots := 0, locals := 0 } : Room)) (fun a U => a = #[(.int (3 : Int32))] ∧ Z.Warmed39 U.vm ∧ U.heap = h0) (fun _ _ _ _ _ => True) (fun _ U o U' => ∃ v L, o = .returned v ∧ Q1_3 Z ob0 ob1 ob2 ob3 ob4 ob5 h0 n0 v U'.heap L ∧ FrameEnd U o U' L ({ frames := 0, cells := 0, slots := 0, locals := 0 } : Room).cells ({ frames := 0, cells := 0, slots := 0, locals := 0 } : Room).slots) := by
  refine MetFree.of_bodySF (plainFor_of_name pn_com_example_guarded_stream_guardedstream_query_ComparisonOperatorNegatedPinLaw) hisR ?_
  intro p e s m args below meth c s₁ Bd hml0 hP hK
  obtain ⟨rfl, hZ, hh⟩ := hP
  have hx := Bd.exec
  have hby := Bd.bytes
  have hml : c.maxLocals = 1 := hml0
  have hown : s.vm.findClass "com/example/guarded_stream/guardedstream/query/ComparisonOperatorNegatedPinLaw" = some m.cls := findClass_of_methodNamed Bd.named
  have hnm := (name_of_methodNamed Bd.named Bd.method).1
  have X0 : Stand p l e ({ frames := 0, cells := 0, slots := 0, locals := 0 } : Room) s m #[(.int (3 : Int32))] below meth c s₁ [] 0 0 := Stand.of_body Bd
  have e0 : s₁.heap = h0 := by rw [← hh, Bd.state]; rfl
  have N0 := Fr.nil n0
  have pre0 : ∀ t, Steps p.tables e below (s₁.setTop (mkF m 0 #[.val (.int (3 : Int32))] [])) t → Steps p.tables e below (s₁.setTop (entryFrame m #[(.int (3 : Int32))] 1)) t := fun t k => castTop (ef_1_3 m ) k
  have hc1 : ¬ ((3 : Int32) = (0 : Int32)) := by decide
  have hc10 : ¬ ((3 : Int32) = (1 : Int32)) := by decide
  have hc19 : ¬ ((3 : Int32) = (2 : Int32)) := by decide
  have hc28 : (3 : Int32) = (3 : Int32) := by decide
  obtain ⟨T1, X1, e1, st1⟩ := getS2 X0 hx hZ hown (host := "") (Or.inl (hw _ (List.mem_of_getElem? (i := 41) rfl))) Via.refl e0 (S_LESS_OR_EQUAL.ext O0.2) (g := (mkF m 31 #[.val (.int (3 : Int32))] [])) rfl (hb hby d1_31)
  obtain ⟨fs, hr, hrun, hended, hW, hsame⟩ := X1.leave (v := some (.ref ob3)) (fun h => by rw [Bd.returns] at h; cases h)
  refine ⟨_, _, pre0 _ ?_, hrun, hended, _, _, rfl, ?_, ⟨_, rfl⟩, hW, hsame.mono (by decide) (by decide)⟩
  · show Steps p.tables e below (s₁.setTop (mkF m 0 #[.val (.int (3 : Int32))] [])) _
    refine XS.iloadN X0.here hx rfl (hb hby d1_0) rfl ?_
    show Steps p.tables e below (s₁.setTop (mkF m 1 #[.val (.int (3 : Int32))] [(.int (3 : Int32))])) _
    refine XS.ifYes X0.here hx rfl (pc0 := 1) (pc' := 8) rfl (hb hby d1_1) rfl ((if0 _ _).trans (feq hc1).2) (by decide) (by decide) ?_
    show Steps p.tables e below (s₁.setTop (mkF m 8 #[.val (.int (3 : Int32))] [])) _
    refine XS.iloadN X0.here hx rfl (hb hby d1_8) rfl ?_
    show Steps p.tables e below (s₁.setTop (mkF m 9 #[.val (.int (3 : Int32))] [(.int (3 : Int32))])) _
    refine XS.iconst X0.here hx rfl (hb hby d1_9) ?_
    show Steps p.tables e below (s₁.setTop (mkF m 10 #[.val (.int (3 : Int32))] [(.int (1 : Int32)), (.int (3 : Int32))])) _
    refine XS.icmpYes X0.here hx rfl (pc0 := 10) (pc' := 17) rfl (hb hby d1_10) rfl (feq hc10).2 (by decide) (by decide) ?_
    show Steps p.tables e below (s₁.setTop (mkF m 17 #[.val (.int (3 : Int32))] [])) _
    refine XS.iloadN X0.here hx rfl (hb hby d1_17) rfl ?_
    show Steps p.tables e below (s₁.setTop (mkF m 18 #[.val (.int (3 : Int32))] [(.int (3 : Int32))])) _
    refine XS.iconst X0.here hx rfl (hb hby d1_18) ?_
    show Steps p.tables e below (s₁.setTop (mkF m 19 #[.val (.int (3 : Int32))] [(.int (2 : Int32)), (.int (3 : Int32))])) _
    refine XS.icmpYes X0.here hx rfl (pc0 := 19) (pc' := 26) rfl (hb hby d1_19) rfl (feq hc19).2 (by decide) (by decide) ?_
    show Steps p.tables e below (s₁.setTop (mkF m 26 #[.val (.int (3 : Int32))] [])) _
    refine XS.iloadN X0.here hx rfl (hb hby d1_26) rfl ?_
    show Steps p.tables e below (s₁.setTop (mkF m 27 #[.val (.int (3 : Int32))] [(.int (3 : Int32))])) _
    refine XS.iconst X0.here hx rfl (hb hby d1_27) ?_
    show Steps p.tables e below (s₁.setTop (mkF m 28 #[.val (.int (3 : Int32))] [(.int (3 : Int32)), (.int (3 : Int32))])) _
    refine XS.icmpNo X0.here hx rfl (hb hby d1_28) rfl (teq hc28).2 ?_
    show Steps p.tables e below (s₁.setTop (mkF m 31 #[.val (.int (3 : Int32))] [])) _
    refine st1 _ ?_
    show Steps p.tables e below (T1.setTop (mkF m 34 #[.val (.int (3 : Int32))] [(.ref ob3)])) _
    jvm_step X1.here [X1.here.top, hx, (hb hby d1_34), X1.method', Bd.returns, Value.isRef, FieldType.isReference]
    first | (intro acts; rw [hr _ acts rfl rfl rfl]) | rw [hr _ _ rfl rfl rfl]
    exact Steps.refl _
  · show Q1_3 Z ob0 ob1 ob2 ob3 ob4 ob5 h0 n0 _ T1.heap _
    rw [e1]
    exact ⟨rfl, N0, rfl⟩
theorem d1_35 : decode method_3_code 35 = .ok (.iload_n 0, 1) := by decide +kernel
theorem d1_36 : decode method_3_code 36 = .ok (.iconst 4, 1) := by decide +kernel
theorem d1_37 : decode method_3_code 37 = .ok (.if_icmp .ne 7, 3) := by decide +kernel
theorem d1_40 : decode method_3_code 40 = .ok (.getstatic 37, 3) := by decide +kernel
theorem d1_43 : decode method_3_code 43 = .ok (.areturn, 1) := by decide +kernel
theorem ef_1_4 (m : MethodId)  : entryFrame m #[(.int (4 : Int32))] 1 = mkF m 0 #[.val (.int (4 : Int32))] [] := by first | (simp [entryFrame, mkF, argsToLocals, Value.category]; done) | rfl
def Q1_4 (Z : State) (ob0 : Addr) (ob1 : Addr) (ob2 : Addr) (ob3 : Addr) (ob4 : Addr) (ob5 : Addr) (h0 : Heap) (n0 : Nat) (v : Option Value) (h : Heap) (L : List Loc) : Prop := v = some (.ref ob4) ∧ Fr n0 L ∧ h = h0
set_option maxRecDepth 65536 in
set_option maxHeartbeats 40000000 in
theorem rm1_4 (l : Launch) (Z : State) (a0 : Array Value) (hw : ∀ d ∈ tables_1, d.before a0 Z = true) (ws : List Jvm.Cond) (ob0 : Addr) (ob1 : Addr) (ob2 : Addr) (ob3 : Addr) (ob4 : Addr) (ob5 : Addr) (h0 : Heap) (n0 : Nat) (Z0 : n0 ≤ h0.size) (O0 : Old Z n0 h0) (S_EQUAL : Sta Z Z.heap "com/example/guarded_stream/guardedstream/query/ComparisonOperator" "EQUAL" "Lcom/example/guarded_stream/guardedstream/query/ComparisonOperator;" (.ref ob0)) (S_NOT_EQUAL : Sta Z Z.heap "com/example/guarded_stream/guardedstream/query/ComparisonOperator" "NOT_EQUAL" "Lcom/example/guarded_stream/guardedstream/query/ComparisonOperator;" (.ref ob1)) (S_LESS : Sta Z Z.heap "com/example/guarded_stream/guardedstream/query/ComparisonOperator" "LESS" "Lcom/example/guarded_stream/guardedstream/query/ComparisonOperator;" (.ref ob2)) (S_LESS_OR_EQUAL : Sta Z Z.heap "com/example/guarded_stream/guardedstream/query/ComparisonOperator" "LESS_OR_EQUAL" "Lcom/example/guarded_stream/guardedstream/query/ComparisonOperator;" (.ref ob3)) (S_GREATER : Sta Z Z.heap "com/example/guarded_stream/guardedstream/query/ComparisonOperator" "GREATER" "Lcom/example/guarded_stream/guardedstream/query/ComparisonOperator;" (.ref ob4)) (S_GREATER_OR_EQUAL : Sta Z Z.heap "com/example/guarded_stream/guardedstream/query/ComparisonOperator" "GREATER_OR_EQUAL" "Lcom/example/guarded_stream/guardedstream/query/ComparisonOperator;" (.ref ob5)) :
    MetFree l (⟨"com/example/guarded_stream/guardedstream/query/ComparisonOperatorNegatedPinLaw", "pick", "(I)Lcom/example/guarded_stream/guardedstream/query/ComparisonOperator;"⟩ : MethodName) (head1 (Jvm.Cond.code (⟨"com/example/guarded_stream/guardedstream/query/ComparisonOperatorNegatedPinLaw", "pick", "(I)Lcom/example/guarded_stream/guardedstream/query/ComparisonOperator;"⟩ : MethodName) method_3_code 1 (some (.object "com/example/guarded_stream/guardedstream/query/ComparisonOperator")) :: ws) ({ frames := 0, cells := 0, slots := 0, locals := 0 } : Room)) (fun a U => a = #[(.int (4 : Int32))] ∧ Z.Warmed39 U.vm ∧ U.heap = h0) (fun _ _ _ _ _ => True) (fun _ U o U' => ∃ v L, o = .returned v ∧ Q1_4 Z ob0 ob1 ob2 ob3 ob4 ob5 h0 n0 v U'.heap L ∧ FrameEnd U o U' L ({ frames := 0, cells := 0, slots := 0, locals := 0 } : Room).cells ({ frames := 0, cells := 0, slots := 0, locals := 0 } : Room).slots) := by
  refine MetFree.of_bodySF (plainFor_of_name pn_com_example_guarded_stream_guardedstream_query_ComparisonOperatorNegatedPinLaw) hisR ?_
  intro p e s m args below meth c s₁ Bd hml0 hP hK
  obtain ⟨rfl, hZ, hh⟩ := hP
  have hx := Bd.exec
  have hby := Bd.bytes
  have hml : c.maxLocals = 1 := hml0
  have hown : s.vm.findClass "com/example/guarded_stream/guardedstream/query/ComparisonOperatorNegatedPinLaw" = some m.cls := findClass_of_methodNamed Bd.named
  have hnm := (name_of_methodNamed Bd.named Bd.method).1
  have X0 : Stand p l e ({ frames := 0, cells := 0, slots := 0, locals := 0 } : Room) s m #[(.int (4 : Int32))] below meth c s₁ [] 0 0 := Stand.of_body Bd
  have e0 : s₁.heap = h0 := by rw [← hh, Bd.state]; rfl
  have N0 := Fr.nil n0
  have pre0 : ∀ t, Steps p.tables e below (s₁.setTop (mkF m 0 #[.val (.int (4 : Int32))] [])) t → Steps p.tables e below (s₁.setTop (entryFrame m #[(.int (4 : Int32))] 1)) t := fun t k => castTop (ef_1_4 m ) k
  have hc1 : ¬ ((4 : Int32) = (0 : Int32)) := by decide
  have hc10 : ¬ ((4 : Int32) = (1 : Int32)) := by decide
  have hc19 : ¬ ((4 : Int32) = (2 : Int32)) := by decide
  have hc28 : ¬ ((4 : Int32) = (3 : Int32)) := by decide
  have hc37 : (4 : Int32) = (4 : Int32) := by decide
  obtain ⟨T1, X1, e1, st1⟩ := getS2 X0 hx hZ hown (host := "") (Or.inl (hw _ (List.mem_of_getElem? (i := 33) rfl))) Via.refl e0 (S_GREATER.ext O0.2) (g := (mkF m 40 #[.val (.int (4 : Int32))] [])) rfl (hb hby d1_40)
  obtain ⟨fs, hr, hrun, hended, hW, hsame⟩ := X1.leave (v := some (.ref ob4)) (fun h => by rw [Bd.returns] at h; cases h)
  refine ⟨_, _, pre0 _ ?_, hrun, hended, _, _, rfl, ?_, ⟨_, rfl⟩, hW, hsame.mono (by decide) (by decide)⟩
  · show Steps p.tables e below (s₁.setTop (mkF m 0 #[.val (.int (4 : Int32))] [])) _
    refine XS.iloadN X0.here hx rfl (hb hby d1_0) rfl ?_
    show Steps p.tables e below (s₁.setTop (mkF m 1 #[.val (.int (4 : Int32))] [(.int (4 : Int32))])) _
    refine XS.ifYes X0.here hx rfl (pc0 := 1) (pc' := 8) rfl (hb hby d1_1) rfl ((if0 _ _).trans (feq hc1).2) (by decide) (by decide) ?_
    show Steps p.tables e below (s₁.setTop (mkF m 8 #[.val (.int (4 : Int32))] [])) _
    refine XS.iloadN X0.here hx rfl (hb hby d1_8) rfl ?_
    show Steps p.tables e below (s₁.setTop (mkF m 9 #[.val (.int (4 : Int32))] [(.int (4 : Int32))])) _
    refine XS.iconst X0.here hx rfl (hb hby d1_9) ?_
    show Steps p.tables e below (s₁.setTop (mkF m 10 #[.val (.int (4 : Int32))] [(.int (1 : Int32)), (.int (4 : Int32))])) _
    refine XS.icmpYes X0.here hx rfl (pc0 := 10) (pc' := 17) rfl (hb hby d1_10) rfl (feq hc10).2 (by decide) (by decide) ?_
    show Steps p.tables e below (s₁.setTop (mkF m 17 #[.val (.int (4 : Int32))] [])) _
    refine XS.iloadN X0.here hx rfl (hb hby d1_17) rfl ?_
    show Steps p.tables e below (s₁.setTop (mkF m 18 #[.val (.int (4 : Int32))] [(.int (4 : Int32))])) _
    refine XS.iconst X0.here hx rfl (hb hby d1_18) ?_
    show Steps p.tables e below (s₁.setTop (mkF m 19 #[.val (.int (4 : Int32))] [(.int (2 : Int32)), (.int (4 : Int32))])) _
    refine XS.icmpYes X0.here hx rfl (pc0 := 19) (pc' := 26) rfl (hb hby d1_19) rfl (feq hc19).2 (by decide) (by decide) ?_
    show Steps p.tables e below (s₁.setTop (mkF m 26 #[.val (.int (4 : Int32))] [])) _
    refine XS.iloadN X0.here hx rfl (hb hby d1_26) rfl ?_
    show Steps p.tables e below (s₁.setTop (mkF m 27 #[.val (.int (4 : Int32))] [(.int (4 : Int32))])) _
    refine XS.iconst X0.here hx rfl (hb hby d1_27) ?_
    show Steps p.tables e below (s₁.setTop (mkF m 28 #[.val (.int (4 : Int32))] [(.int (3 : Int32)), (.int (4 : Int32))])) _
    refine XS.icmpYes X0.here hx rfl (pc0 := 28) (pc' := 35) rfl (hb hby d1_28) rfl (feq hc28).2 (by decide) (by decide) ?_
    show Steps p.tables e below (s₁.setTop (mkF m 35 #[.val (.int (4 : Int32))] [])) _
    refine XS.iloadN X0.here hx rfl (hb hby d1_35) rfl ?_
    show Steps p.tables e below (s₁.setTop (mkF m 36 #[.val (.int (4 : Int32))] [(.int (4 : Int32))])) _
    refine XS.iconst X0.here hx rfl (hb hby d1_36) ?_
    show Steps p.tables e below (s₁.setTop (mkF m 37 #[.val (.int (4 : Int32))] [(.int (4 : Int32)), (.int (4 : Int32))])) _
    refine XS.icmpNo X0.here hx rfl (hb hby d1_37) rfl (teq hc37).2 ?_
    show Steps p.tables e below (s₁.setTop (mkF m 40 #[.val (.int (4 : Int32))] [])) _
    refine st1 _ ?_
    show Steps p.tables e below (T1.setTop (mkF m 43 #[.val (.int (4 : Int32))] [(.ref ob4)])) _
    jvm_step X1.here [X1.here.top, hx, (hb hby d1_43), X1.method', Bd.returns, Value.isRef, FieldType.isReference]
    first | (intro acts; rw [hr _ acts rfl rfl rfl]) | rw [hr _ _ rfl rfl rfl]
    exact Steps.refl _
  · show Q1_4 Z ob0 ob1 ob2 ob3 ob4 ob5 h0 n0 _ T1.heap _
    rw [e1]
    exact ⟨rfl, N0, rfl⟩
theorem d1_44 : decode method_3_code 44 = .ok (.getstatic 40, 3) := by decide +kernel
theorem d1_47 : decode method_3_code 47 = .ok (.areturn, 1) := by decide +kernel
theorem ef_1_5 (m : MethodId)  : entryFrame m #[(.int (5 : Int32))] 1 = mkF m 0 #[.val (.int (5 : Int32))] [] := by first | (simp [entryFrame, mkF, argsToLocals, Value.category]; done) | rfl
def Q1_5 (Z : State) (ob0 : Addr) (ob1 : Addr) (ob2 : Addr) (ob3 : Addr) (ob4 : Addr) (ob5 : Addr) (h0 : Heap) (n0 : Nat) (v : Option Value) (h : Heap) (L : List Loc) : Prop := v = some (.ref ob5) ∧ Fr n0 L ∧ h = h0
set_option maxRecDepth 65536 in
set_option maxHeartbeats 40000000 in
theorem rm1_5 (l : Launch) (Z : State) (a0 : Array Value) (hw : ∀ d ∈ tables_1, d.before a0 Z = true) (ws : List Jvm.Cond) (ob0 : Addr) (ob1 : Addr) (ob2 : Addr) (ob3 : Addr) (ob4 : Addr) (ob5 : Addr) (h0 : Heap) (n0 : Nat) (Z0 : n0 ≤ h0.size) (O0 : Old Z n0 h0) (S_EQUAL : Sta Z Z.heap "com/example/guarded_stream/guardedstream/query/ComparisonOperator" "EQUAL" "Lcom/example/guarded_stream/guardedstream/query/ComparisonOperator;" (.ref ob0)) (S_NOT_EQUAL : Sta Z Z.heap "com/example/guarded_stream/guardedstream/query/ComparisonOperator" "NOT_EQUAL" "Lcom/example/guarded_stream/guardedstream/query/ComparisonOperator;" (.ref ob1)) (S_LESS : Sta Z Z.heap "com/example/guarded_stream/guardedstream/query/ComparisonOperator" "LESS" "Lcom/example/guarded_stream/guardedstream/query/ComparisonOperator;" (.ref ob2)) (S_LESS_OR_EQUAL : Sta Z Z.heap "com/example/guarded_stream/guardedstream/query/ComparisonOperator" "LESS_OR_EQUAL" "Lcom/example/guarded_stream/guardedstream/query/ComparisonOperator;" (.ref ob3)) (S_GREATER : Sta Z Z.heap "com/example/guarded_stream/guardedstream/query/ComparisonOperator" "GREATER" "Lcom/example/guarded_stream/guardedstream/query/ComparisonOperator;" (.ref ob4)) (S_GREATER_OR_EQUAL : Sta Z Z.heap "com/example/guarded_stream/guardedstream/query/ComparisonOperator" "GREATER_OR_EQUAL" "Lcom/example/guarded_stream/guardedstream/query/ComparisonOperator;" (.ref ob5)) :
    MetFree l (⟨"com/example/guarded_stream/guardedstream/query/ComparisonOperatorNegatedPinLaw", "pick", "(I)Lcom/example/guarded_stream/guardedstream/query/ComparisonOperator;"⟩ : MethodName) (head1 (Jvm.Cond.code (⟨"com/example/guarded_stream/guardedstream/query/ComparisonOperatorNegatedPinLaw", "pick", "(I)Lcom/example/guarded_stream/guardedstream/query/ComparisonOperator;"⟩ : MethodName) method_3_code 1 (some (.object "com/example/guarded_stream/guardedstream/query/ComparisonOperator")) :: ws) ({ frames := 0, cells := 0, slots := 0, locals := 0 } : Room)) (fun a U => a = #[(.int (5 : Int32))] ∧ Z.Warmed39 U.vm ∧ U.heap = h0) (fun _ _ _ _ _ => True) (fun _ U o U' => ∃ v L, o = .returned v ∧ Q1_5 Z ob0 ob1 ob2 ob3 ob4 ob5 h0 n0 v U'.heap L ∧ FrameEnd U o U' L ({ frames := 0, cells := 0, slots := 0, locals := 0 } : Room).cells ({ frames := 0, cells := 0, slots := 0, locals := 0 } : Room).slots) := by
  refine MetFree.of_bodySF (plainFor_of_name pn_com_example_guarded_stream_guardedstream_query_ComparisonOperatorNegatedPinLaw) hisR ?_
  intro p e s m args below meth c s₁ Bd hml0 hP hK
  obtain ⟨rfl, hZ, hh⟩ := hP
  have hx := Bd.exec
  have hby := Bd.bytes
  have hml : c.maxLocals = 1 := hml0
  have hown : s.vm.findClass "com/example/guarded_stream/guardedstream/query/ComparisonOperatorNegatedPinLaw" = some m.cls := findClass_of_methodNamed Bd.named
  have hnm := (name_of_methodNamed Bd.named Bd.method).1
  have X0 : Stand p l e ({ frames := 0, cells := 0, slots := 0, locals := 0 } : Room) s m #[(.int (5 : Int32))] below meth c s₁ [] 0 0 := Stand.of_body Bd
  have e0 : s₁.heap = h0 := by rw [← hh, Bd.state]; rfl
  have N0 := Fr.nil n0
  have pre0 : ∀ t, Steps p.tables e below (s₁.setTop (mkF m 0 #[.val (.int (5 : Int32))] [])) t → Steps p.tables e below (s₁.setTop (entryFrame m #[(.int (5 : Int32))] 1)) t := fun t k => castTop (ef_1_5 m ) k
  have hc1 : ¬ ((5 : Int32) = (0 : Int32)) := by decide
  have hc10 : ¬ ((5 : Int32) = (1 : Int32)) := by decide
  have hc19 : ¬ ((5 : Int32) = (2 : Int32)) := by decide
  have hc28 : ¬ ((5 : Int32) = (3 : Int32)) := by decide
  have hc37 : ¬ ((5 : Int32) = (4 : Int32)) := by decide
  obtain ⟨T1, X1, e1, st1⟩ := getS2 X0 hx hZ hown (host := "") (Or.inl (hw _ (List.mem_of_getElem? (i := 39) rfl))) Via.refl e0 (S_GREATER_OR_EQUAL.ext O0.2) (g := (mkF m 44 #[.val (.int (5 : Int32))] [])) rfl (hb hby d1_44)
  obtain ⟨fs, hr, hrun, hended, hW, hsame⟩ := X1.leave (v := some (.ref ob5)) (fun h => by rw [Bd.returns] at h; cases h)
  refine ⟨_, _, pre0 _ ?_, hrun, hended, _, _, rfl, ?_, ⟨_, rfl⟩, hW, hsame.mono (by decide) (by decide)⟩
  · show Steps p.tables e below (s₁.setTop (mkF m 0 #[.val (.int (5 : Int32))] [])) _
    refine XS.iloadN X0.here hx rfl (hb hby d1_0) rfl ?_
    show Steps p.tables e below (s₁.setTop (mkF m 1 #[.val (.int (5 : Int32))] [(.int (5 : Int32))])) _
    refine XS.ifYes X0.here hx rfl (pc0 := 1) (pc' := 8) rfl (hb hby d1_1) rfl ((if0 _ _).trans (feq hc1).2) (by decide) (by decide) ?_
    show Steps p.tables e below (s₁.setTop (mkF m 8 #[.val (.int (5 : Int32))] [])) _
    refine XS.iloadN X0.here hx rfl (hb hby d1_8) rfl ?_
    show Steps p.tables e below (s₁.setTop (mkF m 9 #[.val (.int (5 : Int32))] [(.int (5 : Int32))])) _
    refine XS.iconst X0.here hx rfl (hb hby d1_9) ?_
    show Steps p.tables e below (s₁.setTop (mkF m 10 #[.val (.int (5 : Int32))] [(.int (1 : Int32)), (.int (5 : Int32))])) _
    refine XS.icmpYes X0.here hx rfl (pc0 := 10) (pc' := 17) rfl (hb hby d1_10) rfl (feq hc10).2 (by decide) (by decide) ?_
    show Steps p.tables e below (s₁.setTop (mkF m 17 #[.val (.int (5 : Int32))] [])) _
    refine XS.iloadN X0.here hx rfl (hb hby d1_17) rfl ?_
    show Steps p.tables e below (s₁.setTop (mkF m 18 #[.val (.int (5 : Int32))] [(.int (5 : Int32))])) _
    refine XS.iconst X0.here hx rfl (hb hby d1_18) ?_
    show Steps p.tables e below (s₁.setTop (mkF m 19 #[.val (.int (5 : Int32))] [(.int (2 : Int32)), (.int (5 : Int32))])) _
    refine XS.icmpYes X0.here hx rfl (pc0 := 19) (pc' := 26) rfl (hb hby d1_19) rfl (feq hc19).2 (by decide) (by decide) ?_
    show Steps p.tables e below (s₁.setTop (mkF m 26 #[.val (.int (5 : Int32))] [])) _
    refine XS.iloadN X0.here hx rfl (hb hby d1_26) rfl ?_
    show Steps p.tables e below (s₁.setTop (mkF m 27 #[.val (.int (5 : Int32))] [(.int (5 : Int32))])) _
    refine XS.iconst X0.here hx rfl (hb hby d1_27) ?_
    show Steps p.tables e below (s₁.setTop (mkF m 28 #[.val (.int (5 : Int32))] [(.int (3 : Int32)), (.int (5 : Int32))])) _
    refine XS.icmpYes X0.here hx rfl (pc0 := 28) (pc' := 35) rfl (hb hby d1_28) rfl (feq hc28).2 (by decide) (by decide) ?_
    show Steps p.tables e below (s₁.setTop (mkF m 35 #[.val (.int (5 : Int32))] [])) _
    refine XS.iloadN X0.here hx rfl (hb hby d1_35) rfl ?_
    show Steps p.tables e below (s₁.setTop (mkF m 36 #[.val (.int (5 : Int32))] [(.int (5 : Int32))])) _
    refine XS.iconst X0.here hx rfl (hb hby d1_36) ?_
    show Steps p.tables e below (s₁.setTop (mkF m 37 #[.val (.int (5 : Int32))] [(.int (4 : Int32)), (.int (5 : Int32))])) _
    refine XS.icmpYes X0.here hx rfl (pc0 := 37) (pc' := 44) rfl (hb hby d1_37) rfl (feq hc37).2 (by decide) (by decide) ?_
    show Steps p.tables e below (s₁.setTop (mkF m 44 #[.val (.int (5 : Int32))] [])) _
    refine st1 _ ?_
    show Steps p.tables e below (T1.setTop (mkF m 47 #[.val (.int (5 : Int32))] [(.ref ob5)])) _
    jvm_step X1.here [X1.here.top, hx, (hb hby d1_47), X1.method', Bd.returns, Value.isRef, FieldType.isReference]
    first | (intro acts; rw [hr _ acts rfl rfl rfl]) | rw [hr _ _ rfl rfl rfl]
    exact Steps.refl _
  · show Q1_5 Z ob0 ob1 ob2 ob3 ob4 ob5 h0 n0 _ T1.heap _
    rw [e1]
    exact ⟨rfl, N0, rfl⟩
theorem d2_0 : decode prog_18_method_6_code 0 = .ok (.aload_n 0, 1) := by decide +kernel
theorem d2_1 : decode prog_18_method_6_code 1 = .ok (.invokevirtual 55, 3) := by decide +kernel
theorem d2_4 : decode prog_18_method_6_code 4 = .ok (.tableswitch 64 0 5 #[40, 44, 48, 52, 56, 60], 40) := by decide +kernel
theorem d2_44 : decode prog_18_method_6_code 44 = .ok (.getstatic 7, 3) := by decide +kernel
theorem d2_47 : decode prog_18_method_6_code 47 = .ok (.areturn, 1) := by decide +kernel
theorem ef_2_0 (m : MethodId) (x0 : Addr) : entryFrame m #[(.ref x0)] 1 = mkF m 0 #[.val (.ref x0)] [] := by first | (simp [entryFrame, mkF, argsToLocals, Value.category]; done) | rfl
def Q2_0 (Z : State) (aa0 : Addr) (ob0 : Addr) (ob1 : Addr) (ob2 : Addr) (ob3 : Addr) (ob4 : Addr) (ob5 : Addr) (h0 : Heap) (n0 : Nat) (v : Option Value) (h : Heap) (L : List Loc) : Prop := v = some (.ref ob1) ∧ Fr n0 L ∧ h = h0
set_option maxRecDepth 65536 in
set_option maxHeartbeats 40000000 in
theorem rm2_0 (l : Launch) (Z : State) (a0 : Array Value) (hw : ∀ d ∈ tables_1, d.before a0 Z = true) (ws : List Jvm.Cond) (aa0 : Addr) (ob0 : Addr) (ob1 : Addr) (ob2 : Addr) (ob3 : Addr) (ob4 : Addr) (ob5 : Addr) (h0 : Heap) (n0 : Nat) (Z0 : n0 ≤ h0.size) (E_aa0 : Exa Z h0 aa0 "com/example/guarded_stream/guardedstream/query/ComparisonOperator") (F_aa0_ordinal : Fld Z h0 aa0 "java/lang/Enum" "ordinal" "I" (.int (0 : Int32))) (O0 : Old Z n0 h0) (S_EQUAL : Sta Z Z.heap "com/example/guarded_stream/guardedstream/query/ComparisonOperator" "EQUAL" "Lcom/example/guarded_stream/guardedstream/query/ComparisonOperator;" (.ref ob0)) (S_NOT_EQUAL : Sta Z Z.heap "com/example/guarded_stream/guardedstream/query/ComparisonOperator" "NOT_EQUAL" "Lcom/example/guarded_stream/guardedstream/query/ComparisonOperator;" (.ref ob1)) (S_LESS : Sta Z Z.heap "com/example/guarded_stream/guardedstream/query/ComparisonOperator" "LESS" "Lcom/example/guarded_stream/guardedstream/query/ComparisonOperator;" (.ref ob2)) (S_LESS_OR_EQUAL : Sta Z Z.heap "com/example/guarded_stream/guardedstream/query/ComparisonOperator" "LESS_OR_EQUAL" "Lcom/example/guarded_stream/guardedstream/query/ComparisonOperator;" (.ref ob3)) (S_GREATER : Sta Z Z.heap "com/example/guarded_stream/guardedstream/query/ComparisonOperator" "GREATER" "Lcom/example/guarded_stream/guardedstream/query/ComparisonOperator;" (.ref ob4)) (S_GREATER_OR_EQUAL : Sta Z Z.heap "com/example/guarded_stream/guardedstream/query/ComparisonOperator" "GREATER_OR_EQUAL" "Lcom/example/guarded_stream/guardedstream/query/ComparisonOperator;" (.ref ob5)) :
    MetFree l (⟨"com/example/guarded_stream/guardedstream/query/ComparisonOperator", "negated", "()Lcom/example/guarded_stream/guardedstream/query/ComparisonOperator;"⟩ : MethodName) (head1 (Jvm.Cond.code (⟨"com/example/guarded_stream/guardedstream/query/ComparisonOperator", "negated", "()Lcom/example/guarded_stream/guardedstream/query/ComparisonOperator;"⟩ : MethodName) prog_18_method_6_code 1 (some (.object "com/example/guarded_stream/guardedstream/query/ComparisonOperator")) :: ws) ({ frames := 1, cells := 0, slots := 0, locals := 12 } : Room)) (fun a U => a = #[(.ref aa0)] ∧ Z.Warmed39 U.vm ∧ U.heap = h0) (fun _ _ _ _ _ => True) (fun _ U o U' => ∃ v L, o = .returned v ∧ Q2_0 Z aa0 ob0 ob1 ob2 ob3 ob4 ob5 h0 n0 v U'.heap L ∧ FrameEnd U o U' L ({ frames := 1, cells := 0, slots := 0, locals := 12 } : Room).cells ({ frames := 1, cells := 0, slots := 0, locals := 12 } : Room).slots) := by
  refine MetFree.of_bodySF (plainFor_of_name pn_com_example_guarded_stream_guardedstream_query_ComparisonOperator) hisR ?_
  intro p e s m args below meth c s₁ Bd hml0 hP hK
  obtain ⟨rfl, hZ, hh⟩ := hP
  have hx := Bd.exec
  have hby := Bd.bytes
  have hml : c.maxLocals = 1 := hml0
  have hown : s.vm.findClass "com/example/guarded_stream/guardedstream/query/ComparisonOperator" = some m.cls := findClass_of_methodNamed Bd.named
  have hnm := (name_of_methodNamed Bd.named Bd.method).1
  have X0 : Stand p l e ({ frames := 1, cells := 0, slots := 0, locals := 12 } : Room) s m #[(.ref aa0)] below meth c s₁ [] 0 0 := Stand.of_body Bd
  have e0 : s₁.heap = h0 := by rw [← hh, Bd.state]; rfl
  have N0 := Fr.nil n0
  have pre0 : ∀ t, Steps p.tables e below (s₁.setTop (mkF m 0 #[.val (.ref aa0)] [])) t → Steps p.tables e below (s₁.setTop (entryFrame m #[(.ref aa0)] 1)) t := fun t k => castTop (ef_2_0 m aa0) k
  obtain ⟨cq1, kq1, q1a, q1b, q1c⟩ := isOf hZ e0 E_aa0
  obtain ⟨_, _, ⟨T1, L1, k1, n1⟩, -, X1, ⟨Lc1, hQ1, l1, y1, z1⟩, st1⟩ := X0.virtualBackUp hx (x := (⟨"com/example/guarded_stream/guardedstream/query/ComparisonOperator", "ordinal", "()I"⟩ : MethodName)) (y := (⟨"java/lang/Enum", "ordinal", "()I"⟩ : MethodName)) (owner := "java/lang/Enum") hown (mvT hZ (hw _ (List.mem_of_getElem? (i := 13) rfl))) (mvT hZ (hw _ (List.mem_of_getElem? (i := 14) rfl))) (mvT hZ (hw _ (List.mem_of_getElem? (i := 15) rfl))) (by decide) (mvT hZ (hw _ (List.mem_of_getElem? (i := 17) rfl))) (mvT hZ (hw _ (List.mem_of_getElem? (i := 16) rfl))) (backOf (W := 0) (rm3 l Z a0 hw [] aa0 (0 : Int32) h0 n0 Z0 F_aa0_ordinal) hZ (hw _ (List.mem_of_getElem? (i := 19) rfl)) (hw _ (List.mem_of_getElem? (i := 18) rfl)) (by decide) (by decide)) q1a q1c (g := (mkF m 1 #[.val (.ref aa0)] [(.ref aa0)])) rfl (by rw [hml]; rfl) (Steps.refl _) (argsL := []) (rest := []) (lenOf pd__28__29_I rfl) rfl (by show 2 * 0 + _ ≤ _; exact Nat.le_of_eq rfl) (hb hby d2_1) (fun _ _ => ⟨rfl, e0, (by decide : 0 + 0 ≤ _), (by decide : 0 + 0 ≤ _)⟩)
  dsimp only [Pt.U, Pt.locs, Pt.cells, Pt.slots] at X1 l1 y1 z1 st1 hQ1
  subst l1 y1 z1
  obtain ⟨rfl, N1q, e1⟩ := hQ1
  have N1 := Fr.app N0 N1q
  obtain ⟨T2, X2, e2, st2⟩ := getS2 X1 hx hZ hown (host := "") (Or.inl (hw _ (List.mem_of_getElem? (i := 22) rfl))) Via.refl e1 (S_NOT_EQUAL.ext O0.2) (g := (mkF m 44 #[.val (.ref aa0)] [])) rfl (hb hby d2_44)
  obtain ⟨fs, hr, hrun, hended, hW, hsame⟩ := X2.leave (v := some (.ref ob1)) (fun h => by rw [Bd.returns] at h; cases h)
  refine ⟨_, _, pre0 _ ?_, hrun, hended, _, _, rfl, ?_, ⟨_, rfl⟩, hW, hsame.mono (by decide) (by decide)⟩
  · show Steps p.tables e below (s₁.setTop (mkF m 0 #[.val (.ref aa0)] [])) _
    refine XS.aloadN X0.here hx rfl (hb hby d2_0) rfl rfl ?_
    show Steps p.tables e below (s₁.setTop (mkF m 1 #[.val (.ref aa0)] [(.ref aa0)])) _
    refine st1.trans ?_
    show Steps p.tables e below (T1.setTop (mkF m 4 #[.val (.ref aa0)] [(.int (0 : Int32))])) _
    refine XS.tswIn X1.here hx rfl (pc0 := 4) (pc' := 44) rfl (hb hby d2_4) rfl (by decide) (o := 40) rfl (by decide) (by decide) ?_
    show Steps p.tables e below (T1.setTop (mkF m 44 #[.val (.ref aa0)] [])) _
    refine st2 _ ?_
    show Steps p.tables e below (T2.setTop (mkF m 47 #[.val (.ref aa0)] [(.ref ob1)])) _
    jvm_step X2.here [X2.here.top, hx, (hb hby d2_47), X2.method', Bd.returns, Value.isRef, FieldType.isReference]
    first | (intro acts; rw [hr _ acts rfl rfl rfl]) | rw [hr _ _ rfl rfl rfl]
    exact Steps.refl _
  · show Q2_0 Z aa0 ob0 ob1 ob2 ob3 ob4 ob5 h0 n0 _ T2.heap _
    rw [e2]
    exact ⟨rfl, N1, rfl⟩
theorem d2_48 : decode prog_18_method_6_code 48 = .ok (.getstatic 3, 3) := by decide +kernel
theorem d2_51 : decode prog_18_method_6_code 51 = .ok (.areturn, 1) := by decide +kernel
theorem ef_2_1 (m : MethodId) (x0 : Addr) : entryFrame m #[(.ref x0)] 1 = mkF m 0 #[.val (.ref x0)] [] := by first | (simp [entryFrame, mkF, argsToLocals, Value.category]; done) | rfl
def Q2_1 (Z : State) (aa0 : Addr) (ob0 : Addr) (ob1 : Addr) (ob2 : Addr) (ob3 : Addr) (ob4 : Addr) (ob5 : Addr) (h0 : Heap) (n0 : Nat) (v : Option Value) (h : Heap) (L : List Loc) : Prop := v = some (.ref ob0) ∧ Fr n0 L ∧ h = h0
set_option maxRecDepth 65536 in
set_option maxHeartbeats 40000000 in
theorem rm2_1 (l : Launch) (Z : State) (a0 : Array Value) (hw : ∀ d ∈ tables_1, d.before a0 Z = true) (ws : List Jvm.Cond) (aa0 : Addr) (ob0 : Addr) (ob1 : Addr) (ob2 : Addr) (ob3 : Addr) (ob4 : Addr) (ob5 : Addr) (h0 : Heap) (n0 : Nat) (Z0 : n0 ≤ h0.size) (E_aa0 : Exa Z h0 aa0 "com/example/guarded_stream/guardedstream/query/ComparisonOperator") (F_aa0_ordinal : Fld Z h0 aa0 "java/lang/Enum" "ordinal" "I" (.int (1 : Int32))) (O0 : Old Z n0 h0) (S_EQUAL : Sta Z Z.heap "com/example/guarded_stream/guardedstream/query/ComparisonOperator" "EQUAL" "Lcom/example/guarded_stream/guardedstream/query/ComparisonOperator;" (.ref ob0)) (S_NOT_EQUAL : Sta Z Z.heap "com/example/guarded_stream/guardedstream/query/ComparisonOperator" "NOT_EQUAL" "Lcom/example/guarded_stream/guardedstream/query/ComparisonOperator;" (.ref ob1)) (S_LESS : Sta Z Z.heap "com/example/guarded_stream/guardedstream/query/ComparisonOperator" "LESS" "Lcom/example/guarded_stream/guardedstream/query/ComparisonOperator;" (.ref ob2)) (S_LESS_OR_EQUAL : Sta Z Z.heap "com/example/guarded_stream/guardedstream/query/ComparisonOperator" "LESS_OR_EQUAL" "Lcom/example/guarded_stream/guardedstream/query/ComparisonOperator;" (.ref ob3)) (S_GREATER : Sta Z Z.heap "com/example/guarded_stream/guardedstream/query/ComparisonOperator" "GREATER" "Lcom/example/guarded_stream/guardedstream/query/ComparisonOperator;" (.ref ob4)) (S_GREATER_OR_EQUAL : Sta Z Z.heap "com/example/guarded_stream/guardedstream/query/ComparisonOperator" "GREATER_OR_EQUAL" "Lcom/example/guarded_stream/guardedstream/query/ComparisonOperator;" (.ref ob5)) :
    MetFree l (⟨"com/example/guarded_stream/guardedstream/query/ComparisonOperator", "negated", "()Lcom/example/guarded_stream/guardedstream/query/ComparisonOperator;"⟩ : MethodName) (head1 (Jvm.Cond.code (⟨"com/example/guarded_stream/guardedstream/query/ComparisonOperator", "negated", "()Lcom/example/guarded_stream/guardedstream/query/ComparisonOperator;"⟩ : MethodName) prog_18_method_6_code 1 (some (.object "com/example/guarded_stream/guardedstream/query/ComparisonOperator")) :: ws) ({ frames := 1, cells := 0, slots := 0, locals := 12 } : Room)) (fun a U => a = #[(.ref aa0)] ∧ Z.Warmed39 U.vm ∧ U.heap = h0) (fun _ _ _ _ _ => True) (fun _ U o U' => ∃ v L, o = .returned v ∧ Q2_1 Z aa0 ob0 ob1 ob2 ob3 ob4 ob5 h0 n0 v U'.heap L ∧ FrameEnd U o U' L ({ frames := 1, cells := 0, slots := 0, locals := 12 } : Room).cells ({ frames := 1, cells := 0, slots := 0, locals := 12 } : Room).slots) := by
  refine MetFree.of_bodySF (plainFor_of_name pn_com_example_guarded_stream_guardedstream_query_ComparisonOperator) hisR ?_
  intro p e s m args below meth c s₁ Bd hml0 hP hK
  obtain ⟨rfl, hZ, hh⟩ := hP
  have hx := Bd.exec
  have hby := Bd.bytes
  have hml : c.maxLocals = 1 := hml0
  have hown : s.vm.findClass "com/example/guarded_stream/guardedstream/query/ComparisonOperator" = some m.cls := findClass_of_methodNamed Bd.named
  have hnm := (name_of_methodNamed Bd.named Bd.method).1
  have X0 : Stand p l e ({ frames := 1, cells := 0, slots := 0, locals := 12 } : Room) s m #[(.ref aa0)] below meth c s₁ [] 0 0 := Stand.of_body Bd
  have e0 : s₁.heap = h0 := by rw [← hh, Bd.state]; rfl
  have N0 := Fr.nil n0
  have pre0 : ∀ t, Steps p.tables e below (s₁.setTop (mkF m 0 #[.val (.ref aa0)] [])) t → Steps p.tables e below (s₁.setTop (entryFrame m #[(.ref aa0)] 1)) t := fun t k => castTop (ef_2_1 m aa0) k
  obtain ⟨cq1, kq1, q1a, q1b, q1c⟩ := isOf hZ e0 E_aa0
  obtain ⟨_, _, ⟨T1, L1, k1, n1⟩, -, X1, ⟨Lc1, hQ1, l1, y1, z1⟩, st1⟩ := X0.virtualBackUp hx (x := (⟨"com/example/guarded_stream/guardedstream/query/ComparisonOperator", "ordinal", "()I"⟩ : MethodName)) (y := (⟨"java/lang/Enum", "ordinal", "()I"⟩ : MethodName)) (owner := "java/lang/Enum") hown (mvT hZ (hw _ (List.mem_of_getElem? (i := 13) rfl))) (mvT hZ (hw _ (List.mem_of_getElem? (i := 14) rfl))) (mvT hZ (hw _ (List.mem_of_getElem? (i := 15) rfl))) (by decide) (mvT hZ (hw _ (List.mem_of_getElem? (i := 17) rfl))) (mvT hZ (hw _ (List.mem_of_getElem? (i := 16) rfl))) (backOf (W := 0) (rm3 l Z a0 hw [] aa0 (1 : Int32) h0 n0 Z0 F_aa0_ordinal) hZ (hw _ (List.mem_of_getElem? (i := 19) rfl)) (hw _ (List.mem_of_getElem? (i := 18) rfl)) (by decide) (by decide)) q1a q1c (g := (mkF m 1 #[.val (.ref aa0)] [(.ref aa0)])) rfl (by rw [hml]; rfl) (Steps.refl _) (argsL := []) (rest := []) (lenOf pd__28__29_I rfl) rfl (by show 2 * 0 + _ ≤ _; exact Nat.le_of_eq rfl) (hb hby d2_1) (fun _ _ => ⟨rfl, e0, (by decide : 0 + 0 ≤ _), (by decide : 0 + 0 ≤ _)⟩)
  dsimp only [Pt.U, Pt.locs, Pt.cells, Pt.slots] at X1 l1 y1 z1 st1 hQ1
  subst l1 y1 z1
  obtain ⟨rfl, N1q, e1⟩ := hQ1
  have N1 := Fr.app N0 N1q
  obtain ⟨T2, X2, e2, st2⟩ := getS2 X1 hx hZ hown (host := "") (Or.inl (hw _ (List.mem_of_getElem? (i := 38) rfl))) Via.refl e1 (S_EQUAL.ext O0.2) (g := (mkF m 48 #[.val (.ref aa0)] [])) rfl (hb hby d2_48)
  obtain ⟨fs, hr, hrun, hended, hW, hsame⟩ := X2.leave (v := some (.ref ob0)) (fun h => by rw [Bd.returns] at h; cases h)
  refine ⟨_, _, pre0 _ ?_, hrun, hended, _, _, rfl, ?_, ⟨_, rfl⟩, hW, hsame.mono (by decide) (by decide)⟩
  · show Steps p.tables e below (s₁.setTop (mkF m 0 #[.val (.ref aa0)] [])) _
    refine XS.aloadN X0.here hx rfl (hb hby d2_0) rfl rfl ?_
    show Steps p.tables e below (s₁.setTop (mkF m 1 #[.val (.ref aa0)] [(.ref aa0)])) _
    refine st1.trans ?_
    show Steps p.tables e below (T1.setTop (mkF m 4 #[.val (.ref aa0)] [(.int (1 : Int32))])) _
    refine XS.tswIn X1.here hx rfl (pc0 := 4) (pc' := 48) rfl (hb hby d2_4) rfl (by decide) (o := 44) rfl (by decide) (by decide) ?_
    show Steps p.tables e below (T1.setTop (mkF m 48 #[.val (.ref aa0)] [])) _
    refine st2 _ ?_
    show Steps p.tables e below (T2.setTop (mkF m 51 #[.val (.ref aa0)] [(.ref ob0)])) _
    jvm_step X2.here [X2.here.top, hx, (hb hby d2_51), X2.method', Bd.returns, Value.isRef, FieldType.isReference]
    first | (intro acts; rw [hr _ acts rfl rfl rfl]) | rw [hr _ _ rfl rfl rfl]
    exact Steps.refl _
  · show Q2_1 Z aa0 ob0 ob1 ob2 ob3 ob4 ob5 h0 n0 _ T2.heap _
    rw [e2]
    exact ⟨rfl, N1, rfl⟩
theorem d2_52 : decode prog_18_method_6_code 52 = .ok (.getstatic 19, 3) := by decide +kernel
theorem d2_55 : decode prog_18_method_6_code 55 = .ok (.areturn, 1) := by decide +kernel
theorem ef_2_2 (m : MethodId) (x0 : Addr) : entryFrame m #[(.ref x0)] 1 = mkF m 0 #[.val (.ref x0)] [] := by first | (simp [entryFrame, mkF, argsToLocals, Value.category]; done) | rfl
def Q2_2 (Z : State) (aa0 : Addr) (ob0 : Addr) (ob1 : Addr) (ob2 : Addr) (ob3 : Addr) (ob4 : Addr) (ob5 : Addr) (h0 : Heap) (n0 : Nat) (v : Option Value) (h : Heap) (L : List Loc) : Prop := v = some (.ref ob5) ∧ Fr n0 L ∧ h = h0
set_option maxRecDepth 65536 in
set_option maxHeartbeats 40000000 in
theorem rm2_2 (l : Launch) (Z : State) (a0 : Array Value) (hw : ∀ d ∈ tables_1, d.before a0 Z = true) (ws : List Jvm.Cond) (aa0 : Addr) (ob0 : Addr) (ob1 : Addr) (ob2 : Addr) (ob3 : Addr) (ob4 : Addr) (ob5 : Addr) (h0 : Heap) (n0 : Nat) (Z0 : n0 ≤ h0.size) (E_aa0 : Exa Z h0 aa0 "com/example/guarded_stream/guardedstream/query/ComparisonOperator") (F_aa0_ordinal : Fld Z h0 aa0 "java/lang/Enum" "ordinal" "I" (.int (2 : Int32))) (O0 : Old Z n0 h0) (S_EQUAL : Sta Z Z.heap "com/example/guarded_stream/guardedstream/query/ComparisonOperator" "EQUAL" "Lcom/example/guarded_stream/guardedstream/query/ComparisonOperator;" (.ref ob0)) (S_NOT_EQUAL : Sta Z Z.heap "com/example/guarded_stream/guardedstream/query/ComparisonOperator" "NOT_EQUAL" "Lcom/example/guarded_stream/guardedstream/query/ComparisonOperator;" (.ref ob1)) (S_LESS : Sta Z Z.heap "com/example/guarded_stream/guardedstream/query/ComparisonOperator" "LESS" "Lcom/example/guarded_stream/guardedstream/query/ComparisonOperator;" (.ref ob2)) (S_LESS_OR_EQUAL : Sta Z Z.heap "com/example/guarded_stream/guardedstream/query/ComparisonOperator" "LESS_OR_EQUAL" "Lcom/example/guarded_stream/guardedstream/query/ComparisonOperator;" (.ref ob3)) (S_GREATER : Sta Z Z.heap "com/example/guarded_stream/guardedstream/query/ComparisonOperator" "GREATER" "Lcom/example/guarded_stream/guardedstream/query/ComparisonOperator;" (.ref ob4)) (S_GREATER_OR_EQUAL : Sta Z Z.heap "com/example/guarded_stream/guardedstream/query/ComparisonOperator" "GREATER_OR_EQUAL" "Lcom/example/guarded_stream/guardedstream/query/ComparisonOperator;" (.ref ob5)) :
    MetFree l (⟨"com/example/guarded_stream/guardedstream/query/ComparisonOperator", "negated", "()Lcom/example/guarded_stream/guardedstream/query/ComparisonOperator;"⟩ : MethodName) (head1 (Jvm.Cond.code (⟨"com/example/guarded_stream/guardedstream/query/ComparisonOperator", "negated", "()Lcom/example/guarded_stream/guardedstream/query/ComparisonOperator;"⟩ : MethodName) prog_18_method_6_code 1 (some (.object "com/example/guarded_stream/guardedstream/query/ComparisonOperator")) :: ws) ({ frames := 1, cells := 0, slots := 0, locals := 12 } : Room)) (fun a U => a = #[(.ref aa0)] ∧ Z.Warmed39 U.vm ∧ U.heap = h0) (fun _ _ _ _ _ => True) (fun _ U o U' => ∃ v L, o = .returned v ∧ Q2_2 Z aa0 ob0 ob1 ob2 ob3 ob4 ob5 h0 n0 v U'.heap L ∧ FrameEnd U o U' L ({ frames := 1, cells := 0, slots := 0, locals := 12 } : Room).cells ({ frames := 1, cells := 0, slots := 0, locals := 12 } : Room).slots) := by
  refine MetFree.of_bodySF (plainFor_of_name pn_com_example_guarded_stream_guardedstream_query_ComparisonOperator) hisR ?_
  intro p e s m args below meth c s₁ Bd hml0 hP hK
  obtain ⟨rfl, hZ, hh⟩ := hP
  have hx := Bd.exec
  have hby := Bd.bytes
  have hml : c.maxLocals = 1 := hml0
  have hown : s.vm.findClass "com/example/guarded_stream/guardedstream/query/ComparisonOperator" = some m.cls := findClass_of_methodNamed Bd.named
  have hnm := (name_of_methodNamed Bd.named Bd.method).1
  have X0 : Stand p l e ({ frames := 1, cells := 0, slots := 0, locals := 12 } : Room) s m #[(.ref aa0)] below meth c s₁ [] 0 0 := Stand.of_body Bd
  have e0 : s₁.heap = h0 := by rw [← hh, Bd.state]; rfl
  have N0 := Fr.nil n0
  have pre0 : ∀ t, Steps p.tables e below (s₁.setTop (mkF m 0 #[.val (.ref aa0)] [])) t → Steps p.tables e below (s₁.setTop (entryFrame m #[(.ref aa0)] 1)) t := fun t k => castTop (ef_2_2 m aa0) k
  obtain ⟨cq1, kq1, q1a, q1b, q1c⟩ := isOf hZ e0 E_aa0
  obtain ⟨_, _, ⟨T1, L1, k1, n1⟩, -, X1, ⟨Lc1, hQ1, l1, y1, z1⟩, st1⟩ := X0.virtualBackUp hx (x := (⟨"com/example/guarded_stream/guardedstream/query/ComparisonOperator", "ordinal", "()I"⟩ : MethodName)) (y := (⟨"java/lang/Enum", "ordinal", "()I"⟩ : MethodName)) (owner := "java/lang/Enum") hown (mvT hZ (hw _ (List.mem_of_getElem? (i := 13) rfl))) (mvT hZ (hw _ (List.mem_of_getElem? (i := 14) rfl))) (mvT hZ (hw _ (List.mem_of_getElem? (i := 15) rfl))) (by decide) (mvT hZ (hw _ (List.mem_of_getElem? (i := 17) rfl))) (mvT hZ (hw _ (List.mem_of_getElem? (i := 16) rfl))) (backOf (W := 0) (rm3 l Z a0 hw [] aa0 (2 : Int32) h0 n0 Z0 F_aa0_ordinal) hZ (hw _ (List.mem_of_getElem? (i := 19) rfl)) (hw _ (List.mem_of_getElem? (i := 18) rfl)) (by decide) (by decide)) q1a q1c (g := (mkF m 1 #[.val (.ref aa0)] [(.ref aa0)])) rfl (by rw [hml]; rfl) (Steps.refl _) (argsL := []) (rest := []) (lenOf pd__28__29_I rfl) rfl (by show 2 * 0 + _ ≤ _; exact Nat.le_of_eq rfl) (hb hby d2_1) (fun _ _ => ⟨rfl, e0, (by decide : 0 + 0 ≤ _), (by decide : 0 + 0 ≤ _)⟩)
  dsimp only [Pt.U, Pt.locs, Pt.cells, Pt.slots] at X1 l1 y1 z1 st1 hQ1
  subst l1 y1 z1
  obtain ⟨rfl, N1q, e1⟩ := hQ1
  have N1 := Fr.app N0 N1q
  obtain ⟨T2, X2, e2, st2⟩ := getS2 X1 hx hZ hown (host := "") (Or.inl (hw _ (List.mem_of_getElem? (i := 31) rfl))) Via.refl e1 (S_GREATER_OR_EQUAL.ext O0.2) (g := (mkF m 52 #[.val (.ref aa0)] [])) rfl (hb hby d2_52)
  obtain ⟨fs, hr, hrun, hended, hW, hsame⟩ := X2.leave (v := some (.ref ob5)) (fun h => by rw [Bd.returns] at h; cases h)
  refine ⟨_, _, pre0 _ ?_, hrun, hended, _, _, rfl, ?_, ⟨_, rfl⟩, hW, hsame.mono (by decide) (by decide)⟩
  · show Steps p.tables e below (s₁.setTop (mkF m 0 #[.val (.ref aa0)] [])) _
    refine XS.aloadN X0.here hx rfl (hb hby d2_0) rfl rfl ?_
    show Steps p.tables e below (s₁.setTop (mkF m 1 #[.val (.ref aa0)] [(.ref aa0)])) _
    refine st1.trans ?_
    show Steps p.tables e below (T1.setTop (mkF m 4 #[.val (.ref aa0)] [(.int (2 : Int32))])) _
    refine XS.tswIn X1.here hx rfl (pc0 := 4) (pc' := 52) rfl (hb hby d2_4) rfl (by decide) (o := 48) rfl (by decide) (by decide) ?_
    show Steps p.tables e below (T1.setTop (mkF m 52 #[.val (.ref aa0)] [])) _
    refine st2 _ ?_
    show Steps p.tables e below (T2.setTop (mkF m 55 #[.val (.ref aa0)] [(.ref ob5)])) _
    jvm_step X2.here [X2.here.top, hx, (hb hby d2_55), X2.method', Bd.returns, Value.isRef, FieldType.isReference]
    first | (intro acts; rw [hr _ acts rfl rfl rfl]) | rw [hr _ _ rfl rfl rfl]
    exact Steps.refl _
  · show Q2_2 Z aa0 ob0 ob1 ob2 ob3 ob4 ob5 h0 n0 _ T2.heap _
    rw [e2]
    exact ⟨rfl, N1, rfl⟩
theorem d2_56 : decode prog_18_method_6_code 56 = .ok (.getstatic 16, 3) := by decide +kernel
theorem d2_59 : decode prog_18_method_6_code 59 = .ok (.areturn, 1) := by decide +kernel
theorem ef_2_3 (m : MethodId) (x0 : Addr) : entryFrame m #[(.ref x0)] 1 = mkF m 0 #[.val (.ref x0)] [] := by first | (simp [entryFrame, mkF, argsToLocals, Value.category]; done) | rfl
def Q2_3 (Z : State) (aa0 : Addr) (ob0 : Addr) (ob1 : Addr) (ob2 : Addr) (ob3 : Addr) (ob4 : Addr) (ob5 : Addr) (h0 : Heap) (n0 : Nat) (v : Option Value) (h : Heap) (L : List Loc) : Prop := v = some (.ref ob4) ∧ Fr n0 L ∧ h = h0
set_option maxRecDepth 65536 in
set_option maxHeartbeats 40000000 in
theorem rm2_3 (l : Launch) (Z : State) (a0 : Array Value) (hw : ∀ d ∈ tables_1, d.before a0 Z = true) (ws : List Jvm.Cond) (aa0 : Addr) (ob0 : Addr) (ob1 : Addr) (ob2 : Addr) (ob3 : Addr) (ob4 : Addr) (ob5 : Addr) (h0 : Heap) (n0 : Nat) (Z0 : n0 ≤ h0.size) (E_aa0 : Exa Z h0 aa0 "com/example/guarded_stream/guardedstream/query/ComparisonOperator") (F_aa0_ordinal : Fld Z h0 aa0 "java/lang/Enum" "ordinal" "I" (.int (3 : Int32))) (O0 : Old Z n0 h0) (S_EQUAL : Sta Z Z.heap "com/example/guarded_stream/guardedstream/query/ComparisonOperator" "EQUAL" "Lcom/example/guarded_stream/guardedstream/query/ComparisonOperator;" (.ref ob0)) (S_NOT_EQUAL : Sta Z Z.heap "com/example/guarded_stream/guardedstream/query/ComparisonOperator" "NOT_EQUAL" "Lcom/example/guarded_stream/guardedstream/query/ComparisonOperator;" (.ref ob1)) (S_LESS : Sta Z Z.heap "com/example/guarded_stream/guardedstream/query/ComparisonOperator" "LESS" "Lcom/example/guarded_stream/guardedstream/query/ComparisonOperator;" (.ref ob2)) (S_LESS_OR_EQUAL : Sta Z Z.heap "com/example/guarded_stream/guardedstream/query/ComparisonOperator" "LESS_OR_EQUAL" "Lcom/example/guarded_stream/guardedstream/query/ComparisonOperator;" (.ref ob3)) (S_GREATER : Sta Z Z.heap "com/example/guarded_stream/guardedstream/query/ComparisonOperator" "GREATER" "Lcom/example/guarded_stream/guardedstream/query/ComparisonOperator;" (.ref ob4)) (S_GREATER_OR_EQUAL : Sta Z Z.heap "com/example/guarded_stream/guardedstream/query/ComparisonOperator" "GREATER_OR_EQUAL" "Lcom/example/guarded_stream/guardedstream/query/ComparisonOperator;" (.ref ob5)) :
    MetFree l (⟨"com/example/guarded_stream/guardedstream/query/ComparisonOperator", "negated", "()Lcom/example/guarded_stream/guardedstream/query/ComparisonOperator;"⟩ : MethodName) (head1 (Jvm.Cond.code (⟨"com/example/guarded_stream/guardedstream/query/ComparisonOperator", "negated", "()Lcom/example/guarded_stream/guardedstream/query/ComparisonOperator;"⟩ : MethodName) prog_18_method_6_code 1 (some (.object "com/example/guarded_stream/guardedstream/query/ComparisonOperator")) :: ws) ({ frames := 1, cells := 0, slots := 0, locals := 12 } : Room)) (fun a U => a = #[(.ref aa0)] ∧ Z.Warmed39 U.vm ∧ U.heap = h0) (fun _ _ _ _ _ => True) (fun _ U o U' => ∃ v L, o = .returned v ∧ Q2_3 Z aa0 ob0 ob1 ob2 ob3 ob4 ob5 h0 n0 v U'.heap L ∧ FrameEnd U o U' L ({ frames := 1, cells := 0, slots := 0, locals := 12 } : Room).cells ({ frames := 1, cells := 0, slots := 0, locals := 12 } : Room).slots) := by
  refine MetFree.of_bodySF (plainFor_of_name pn_com_example_guarded_stream_guardedstream_query_ComparisonOperator) hisR ?_
  intro p e s m args below meth c s₁ Bd hml0 hP hK
  obtain ⟨rfl, hZ, hh⟩ := hP
  have hx := Bd.exec
  have hby := Bd.bytes
  have hml : c.maxLocals = 1 := hml0
  have hown : s.vm.findClass "com/example/guarded_stream/guardedstream/query/ComparisonOperator" = some m.cls := findClass_of_methodNamed Bd.named
  have hnm := (name_of_methodNamed Bd.named Bd.method).1
  have X0 : Stand p l e ({ frames := 1, cells := 0, slots := 0, locals := 12 } : Room) s m #[(.ref aa0)] below meth c s₁ [] 0 0 := Stand.of_body Bd
  have e0 : s₁.heap = h0 := by rw [← hh, Bd.state]; rfl
  have N0 := Fr.nil n0
  have pre0 : ∀ t, Steps p.tables e below (s₁.setTop (mkF m 0 #[.val (.ref aa0)] [])) t → Steps p.tables e below (s₁.setTop (entryFrame m #[(.ref aa0)] 1)) t := fun t k => castTop (ef_2_3 m aa0) k
  obtain ⟨cq1, kq1, q1a, q1b, q1c⟩ := isOf hZ e0 E_aa0
  obtain ⟨_, _, ⟨T1, L1, k1, n1⟩, -, X1, ⟨Lc1, hQ1, l1, y1, z1⟩, st1⟩ := X0.virtualBackUp hx (x := (⟨"com/example/guarded_stream/guardedstream/query/ComparisonOperator", "ordinal", "()I"⟩ : MethodName)) (y := (⟨"java/lang/Enum", "ordinal", "()I"⟩ : MethodName)) (owner := "java/lang/Enum") hown (mvT hZ (hw _ (List.mem_of_getElem? (i := 13) rfl))) (mvT hZ (hw _ (List.mem_of_getElem? (i := 14) rfl))) (mvT hZ (hw _ (List.mem_of_getElem? (i := 15) rfl))) (by decide) (mvT hZ (hw _ (List.mem_of_getElem? (i := 17) rfl))) (mvT hZ (hw _ (List.mem_of_getElem? (i := 16) rfl))) (backOf (W := 0) (rm3 l Z a0 hw [] aa0 (3 : Int32) h0 n0 Z0 F_aa0_ordinal) hZ (hw _ (List.mem_of_getElem? (i := 19) rfl)) (hw _ (List.mem_of_getElem? (i := 18) rfl)) (by decide) (by decide)) q1a q1c (g := (mkF m 1 #[.val (.ref aa0)] [(.ref aa0)])) rfl (by rw [hml]; rfl) (Steps.refl _) (argsL := []) (rest := []) (lenOf pd__28__29_I rfl) rfl (by show 2 * 0 + _ ≤ _; exact Nat.le_of_eq rfl) (hb hby d2_1) (fun _ _ => ⟨rfl, e0, (by decide : 0 + 0 ≤ _), (by decide : 0 + 0 ≤ _)⟩)
  dsimp only [Pt.U, Pt.locs, Pt.cells, Pt.slots] at X1 l1 y1 z1 st1 hQ1
  subst l1 y1 z1
  obtain ⟨rfl, N1q, e1⟩ := hQ1
  have N1 := Fr.app N0 N1q
  obtain ⟨T2, X2, e2, st2⟩ := getS2 X1 hx hZ hown (host := "") (Or.inl (hw _ (List.mem_of_getElem? (i := 42) rfl))) Via.refl e1 (S_GREATER.ext O0.2) (g := (mkF m 56 #[.val (.ref aa0)] [])) rfl (hb hby d2_56)
  obtain ⟨fs, hr, hrun, hended, hW, hsame⟩ := X2.leave (v := some (.ref ob4)) (fun h => by rw [Bd.returns] at h; cases h)
  refine ⟨_, _, pre0 _ ?_, hrun, hended, _, _, rfl, ?_, ⟨_, rfl⟩, hW, hsame.mono (by decide) (by decide)⟩
  · show Steps p.tables e below (s₁.setTop (mkF m 0 #[.val (.ref aa0)] [])) _
    refine XS.aloadN X0.here hx rfl (hb hby d2_0) rfl rfl ?_
    show Steps p.tables e below (s₁.setTop (mkF m 1 #[.val (.ref aa0)] [(.ref aa0)])) _
    refine st1.trans ?_
    show Steps p.tables e below (T1.setTop (mkF m 4 #[.val (.ref aa0)] [(.int (3 : Int32))])) _
    refine XS.tswIn X1.here hx rfl (pc0 := 4) (pc' := 56) rfl (hb hby d2_4) rfl (by decide) (o := 52) rfl (by decide) (by decide) ?_
    show Steps p.tables e below (T1.setTop (mkF m 56 #[.val (.ref aa0)] [])) _
    refine st2 _ ?_
    show Steps p.tables e below (T2.setTop (mkF m 59 #[.val (.ref aa0)] [(.ref ob4)])) _
    jvm_step X2.here [X2.here.top, hx, (hb hby d2_59), X2.method', Bd.returns, Value.isRef, FieldType.isReference]
    first | (intro acts; rw [hr _ acts rfl rfl rfl]) | rw [hr _ _ rfl rfl rfl]
    exact Steps.refl _
  · show Q2_3 Z aa0 ob0 ob1 ob2 ob3 ob4 ob5 h0 n0 _ T2.heap _
    rw [e2]
    exact ⟨rfl, N1, rfl⟩
theorem d2_60 : decode prog_18_method_6_code 60 = .ok (.getstatic 13, 3) := by decide +kernel
theorem d2_63 : decode prog_18_method_6_code 63 = .ok (.areturn, 1) := by decide +kernel
theorem ef_2_4 (m : MethodId) (x0 : Addr) : entryFrame m #[(.ref x0)] 1 = mkF m 0 #[.val (.ref x0)] [] := by first | (simp [entryFrame, mkF, argsToLocals, Value.category]; done) | rfl
def Q2_4 (Z : State) (aa0 : Addr) (ob0 : Addr) (ob1 : Addr) (ob2 : Addr) (ob3 : Addr) (ob4 : Addr) (ob5 : Addr) (h0 : Heap) (n0 : Nat) (v : Option Value) (h : Heap) (L : List Loc) : Prop := v = some (.ref ob3) ∧ Fr n0 L ∧ h = h0
set_option maxRecDepth 65536 in
set_option maxHeartbeats 40000000 in
theorem rm2_4 (l : Launch) (Z : State) (a0 : Array Value) (hw : ∀ d ∈ tables_1, d.before a0 Z = true) (ws : List Jvm.Cond) (aa0 : Addr) (ob0 : Addr) (ob1 : Addr) (ob2 : Addr) (ob3 : Addr) (ob4 : Addr) (ob5 : Addr) (h0 : Heap) (n0 : Nat) (Z0 : n0 ≤ h0.size) (E_aa0 : Exa Z h0 aa0 "com/example/guarded_stream/guardedstream/query/ComparisonOperator") (F_aa0_ordinal : Fld Z h0 aa0 "java/lang/Enum" "ordinal" "I" (.int (4 : Int32))) (O0 : Old Z n0 h0) (S_EQUAL : Sta Z Z.heap "com/example/guarded_stream/guardedstream/query/ComparisonOperator" "EQUAL" "Lcom/example/guarded_stream/guardedstream/query/ComparisonOperator;" (.ref ob0)) (S_NOT_EQUAL : Sta Z Z.heap "com/example/guarded_stream/guardedstream/query/ComparisonOperator" "NOT_EQUAL" "Lcom/example/guarded_stream/guardedstream/query/ComparisonOperator;" (.ref ob1)) (S_LESS : Sta Z Z.heap "com/example/guarded_stream/guardedstream/query/ComparisonOperator" "LESS" "Lcom/example/guarded_stream/guardedstream/query/ComparisonOperator;" (.ref ob2)) (S_LESS_OR_EQUAL : Sta Z Z.heap "com/example/guarded_stream/guardedstream/query/ComparisonOperator" "LESS_OR_EQUAL" "Lcom/example/guarded_stream/guardedstream/query/ComparisonOperator;" (.ref ob3)) (S_GREATER : Sta Z Z.heap "com/example/guarded_stream/guardedstream/query/ComparisonOperator" "GREATER" "Lcom/example/guarded_stream/guardedstream/query/ComparisonOperator;" (.ref ob4)) (S_GREATER_OR_EQUAL : Sta Z Z.heap "com/example/guarded_stream/guardedstream/query/ComparisonOperator" "GREATER_OR_EQUAL" "Lcom/example/guarded_stream/guardedstream/query/ComparisonOperator;" (.ref ob5)) :
    MetFree l (⟨"com/example/guarded_stream/guardedstream/query/ComparisonOperator", "negated", "()Lcom/example/guarded_stream/guardedstream/query/ComparisonOperator;"⟩ : MethodName) (head1 (Jvm.Cond.code (⟨"com/example/guarded_stream/guardedstream/query/ComparisonOperator", "negated", "()Lcom/example/guarded_stream/guardedstream/query/ComparisonOperator;"⟩ : MethodName) prog_18_method_6_code 1 (some (.object "com/example/guarded_stream/guardedstream/query/ComparisonOperator")) :: ws) ({ frames := 1, cells := 0, slots := 0, locals := 12 } : Room)) (fun a U => a = #[(.ref aa0)] ∧ Z.Warmed39 U.vm ∧ U.heap = h0) (fun _ _ _ _ _ => True) (fun _ U o U' => ∃ v L, o = .returned v ∧ Q2_4 Z aa0 ob0 ob1 ob2 ob3 ob4 ob5 h0 n0 v U'.heap L ∧ FrameEnd U o U' L ({ frames := 1, cells := 0, slots := 0, locals := 12 } : Room).cells ({ frames := 1, cells := 0, slots := 0, locals := 12 } : Room).slots) := by
  refine MetFree.of_bodySF (plainFor_of_name pn_com_example_guarded_stream_guardedstream_query_ComparisonOperator) hisR ?_
  intro p e s m args below meth c s₁ Bd hml0 hP hK
  obtain ⟨rfl, hZ, hh⟩ := hP
  have hx := Bd.exec
  have hby := Bd.bytes
  have hml : c.maxLocals = 1 := hml0
  have hown : s.vm.findClass "com/example/guarded_stream/guardedstream/query/ComparisonOperator" = some m.cls := findClass_of_methodNamed Bd.named
  have hnm := (name_of_methodNamed Bd.named Bd.method).1
  have X0 : Stand p l e ({ frames := 1, cells := 0, slots := 0, locals := 12 } : Room) s m #[(.ref aa0)] below meth c s₁ [] 0 0 := Stand.of_body Bd
  have e0 : s₁.heap = h0 := by rw [← hh, Bd.state]; rfl
  have N0 := Fr.nil n0
  have pre0 : ∀ t, Steps p.tables e below (s₁.setTop (mkF m 0 #[.val (.ref aa0)] [])) t → Steps p.tables e below (s₁.setTop (entryFrame m #[(.ref aa0)] 1)) t := fun t k => castTop (ef_2_4 m aa0) k
  obtain ⟨cq1, kq1, q1a, q1b, q1c⟩ := isOf hZ e0 E_aa0
  obtain ⟨_, _, ⟨T1, L1, k1, n1⟩, -, X1, ⟨Lc1, hQ1, l1, y1, z1⟩, st1⟩ := X0.virtualBackUp hx (x := (⟨"com/example/guarded_stream/guardedstream/query/ComparisonOperator", "ordinal", "()I"⟩ : MethodName)) (y := (⟨"java/lang/Enum", "ordinal", "()I"⟩ : MethodName)) (owner := "java/lang/Enum") hown (mvT hZ (hw _ (List.mem_of_getElem? (i := 13) rfl))) (mvT hZ (hw _ (List.mem_of_getElem? (i := 14) rfl))) (mvT hZ (hw _ (List.mem_of_getElem? (i := 15) rfl))) (by decide) (mvT hZ (hw _ (List.mem_of_getElem? (i := 17) rfl))) (mvT hZ (hw _ (List.mem_of_getElem? (i := 16) rfl))) (backOf (W := 0) (rm3 l Z a0 hw [] aa0 (4 : Int32) h0 n0 Z0 F_aa0_ordinal) hZ (hw _ (List.mem_of_getElem? (i := 19) rfl)) (hw _ (List.mem_of_getElem? (i := 18) rfl)) (by decide) (by decide)) q1a q1c (g := (mkF m 1 #[.val (.ref aa0)] [(.ref aa0)])) rfl (by rw [hml]; rfl) (Steps.refl _) (argsL := []) (rest := []) (lenOf pd__28__29_I rfl) rfl (by show 2 * 0 + _ ≤ _; exact Nat.le_of_eq rfl) (hb hby d2_1) (fun _ _ => ⟨rfl, e0, (by decide : 0 + 0 ≤ _), (by decide : 0 + 0 ≤ _)⟩)
  dsimp only [Pt.U, Pt.locs, Pt.cells, Pt.slots] at X1 l1 y1 z1 st1 hQ1
  subst l1 y1 z1
  obtain ⟨rfl, N1q, e1⟩ := hQ1
  have N1 := Fr.app N0 N1q
  obtain ⟨T2, X2, e2, st2⟩ := getS2 X1 hx hZ hown (host := "") (Or.inl (hw _ (List.mem_of_getElem? (i := 35) rfl))) Via.refl e1 (S_LESS_OR_EQUAL.ext O0.2) (g := (mkF m 60 #[.val (.ref aa0)] [])) rfl (hb hby d2_60)
  obtain ⟨fs, hr, hrun, hended, hW, hsame⟩ := X2.leave (v := some (.ref ob3)) (fun h => by rw [Bd.returns] at h; cases h)
  refine ⟨_, _, pre0 _ ?_, hrun, hended, _, _, rfl, ?_, ⟨_, rfl⟩, hW, hsame.mono (by decide) (by decide)⟩
  · show Steps p.tables e below (s₁.setTop (mkF m 0 #[.val (.ref aa0)] [])) _
    refine XS.aloadN X0.here hx rfl (hb hby d2_0) rfl rfl ?_
    show Steps p.tables e below (s₁.setTop (mkF m 1 #[.val (.ref aa0)] [(.ref aa0)])) _
    refine st1.trans ?_
    show Steps p.tables e below (T1.setTop (mkF m 4 #[.val (.ref aa0)] [(.int (4 : Int32))])) _
    refine XS.tswIn X1.here hx rfl (pc0 := 4) (pc' := 60) rfl (hb hby d2_4) rfl (by decide) (o := 56) rfl (by decide) (by decide) ?_
    show Steps p.tables e below (T1.setTop (mkF m 60 #[.val (.ref aa0)] [])) _
    refine st2 _ ?_
    show Steps p.tables e below (T2.setTop (mkF m 63 #[.val (.ref aa0)] [(.ref ob3)])) _
    jvm_step X2.here [X2.here.top, hx, (hb hby d2_63), X2.method', Bd.returns, Value.isRef, FieldType.isReference]
    first | (intro acts; rw [hr _ acts rfl rfl rfl]) | rw [hr _ _ rfl rfl rfl]
    exact Steps.refl _
  · show Q2_4 Z aa0 ob0 ob1 ob2 ob3 ob4 ob5 h0 n0 _ T2.heap _
    rw [e2]
    exact ⟨rfl, N1, rfl⟩
theorem d2_64 : decode prog_18_method_6_code 64 = .ok (.getstatic 10, 3) := by decide +kernel
theorem d2_67 : decode prog_18_method_6_code 67 = .ok (.areturn, 1) := by decide +kernel
theorem ef_2_5 (m : MethodId) (x0 : Addr) : entryFrame m #[(.ref x0)] 1 = mkF m 0 #[.val (.ref x0)] [] := by first | (simp [entryFrame, mkF, argsToLocals, Value.category]; done) | rfl
def Q2_5 (Z : State) (aa0 : Addr) (ob0 : Addr) (ob1 : Addr) (ob2 : Addr) (ob3 : Addr) (ob4 : Addr) (ob5 : Addr) (h0 : Heap) (n0 : Nat) (v : Option Value) (h : Heap) (L : List Loc) : Prop := v = some (.ref ob2) ∧ Fr n0 L ∧ h = h0
set_option maxRecDepth 65536 in
set_option maxHeartbeats 40000000 in
theorem rm2_5 (l : Launch) (Z : State) (a0 : Array Value) (hw : ∀ d ∈ tables_1, d.before a0 Z = true) (ws : List Jvm.Cond) (aa0 : Addr) (ob0 : Addr) (ob1 : Addr) (ob2 : Addr) (ob3 : Addr) (ob4 : Addr) (ob5 : Addr) (h0 : Heap) (n0 : Nat) (Z0 : n0 ≤ h0.size) (E_aa0 : Exa Z h0 aa0 "com/example/guarded_stream/guardedstream/query/ComparisonOperator") (F_aa0_ordinal : Fld Z h0 aa0 "java/lang/Enum" "ordinal" "I" (.int (5 : Int32))) (O0 : Old Z n0 h0) (S_EQUAL : Sta Z Z.heap "com/example/guarded_stream/guardedstream/query/ComparisonOperator" "EQUAL" "Lcom/example/guarded_stream/guardedstream/query/ComparisonOperator;" (.ref ob0)) (S_NOT_EQUAL : Sta Z Z.heap "com/example/guarded_stream/guardedstream/query/ComparisonOperator" "NOT_EQUAL" "Lcom/example/guarded_stream/guardedstream/query/ComparisonOperator;" (.ref ob1)) (S_LESS : Sta Z Z.heap "com/example/guarded_stream/guardedstream/query/ComparisonOperator" "LESS" "Lcom/example/guarded_stream/guardedstream/query/ComparisonOperator;" (.ref ob2)) (S_LESS_OR_EQUAL : Sta Z Z.heap "com/example/guarded_stream/guardedstream/query/ComparisonOperator" "LESS_OR_EQUAL" "Lcom/example/guarded_stream/guardedstream/query/ComparisonOperator;" (.ref ob3)) (S_GREATER : Sta Z Z.heap "com/example/guarded_stream/guardedstream/query/ComparisonOperator" "GREATER" "Lcom/example/guarded_stream/guardedstream/query/ComparisonOperator;" (.ref ob4)) (S_GREATER_OR_EQUAL : Sta Z Z.heap "com/example/guarded_stream/guardedstream/query/ComparisonOperator" "GREATER_OR_EQUAL" "Lcom/example/guarded_stream/guardedstream/query/ComparisonOperator;" (.ref ob5)) :
    MetFree l (⟨"com/example/guarded_stream/guardedstream/query/ComparisonOperator", "negated", "()Lcom/example/guarded_stream/guardedstream/query/ComparisonOperator;"⟩ : MethodName) (head1 (Jvm.Cond.code (⟨"com/example/guarded_stream/guardedstream/query/ComparisonOperator", "negated", "()Lcom/example/guarded_stream/guardedstream/query/ComparisonOperator;"⟩ : MethodName) prog_18_method_6_code 1 (some (.object "com/example/guarded_stream/guardedstream/query/ComparisonOperator")) :: ws) ({ frames := 1, cells := 0, slots := 0, locals := 12 } : Room)) (fun a U => a = #[(.ref aa0)] ∧ Z.Warmed39 U.vm ∧ U.heap = h0) (fun _ _ _ _ _ => True) (fun _ U o U' => ∃ v L, o = .returned v ∧ Q2_5 Z aa0 ob0 ob1 ob2 ob3 ob4 ob5 h0 n0 v U'.heap L ∧ FrameEnd U o U' L ({ frames := 1, cells := 0, slots := 0, locals := 12 } : Room).cells ({ frames := 1, cells := 0, slots := 0, locals := 12 } : Room).slots) := by
  refine MetFree.of_bodySF (plainFor_of_name pn_com_example_guarded_stream_guardedstream_query_ComparisonOperator) hisR ?_
  intro p e s m args below meth c s₁ Bd hml0 hP hK
  obtain ⟨rfl, hZ, hh⟩ := hP
  have hx := Bd.exec
  have hby := Bd.bytes
  have hml : c.maxLocals = 1 := hml0
  have hown : s.vm.findClass "com/example/guarded_stream/guardedstream/query/ComparisonOperator" = some m.cls := findClass_of_methodNamed Bd.named
  have hnm := (name_of_methodNamed Bd.named Bd.method).1
  have X0 : Stand p l e ({ frames := 1, cells := 0, slots := 0, locals := 12 } : Room) s m #[(.ref aa0)] below meth c s₁ [] 0 0 := Stand.of_body Bd
  have e0 : s₁.heap = h0 := by rw [← hh, Bd.state]; rfl
  have N0 := Fr.nil n0
  have pre0 : ∀ t, Steps p.tables e below (s₁.setTop (mkF m 0 #[.val (.ref aa0)] [])) t → Steps p.tables e below (s₁.setTop (entryFrame m #[(.ref aa0)] 1)) t := fun t k => castTop (ef_2_5 m aa0) k
  obtain ⟨cq1, kq1, q1a, q1b, q1c⟩ := isOf hZ e0 E_aa0
  obtain ⟨_, _, ⟨T1, L1, k1, n1⟩, -, X1, ⟨Lc1, hQ1, l1, y1, z1⟩, st1⟩ := X0.virtualBackUp hx (x := (⟨"com/example/guarded_stream/guardedstream/query/ComparisonOperator", "ordinal", "()I"⟩ : MethodName)) (y := (⟨"java/lang/Enum", "ordinal", "()I"⟩ : MethodName)) (owner := "java/lang/Enum") hown (mvT hZ (hw _ (List.mem_of_getElem? (i := 13) rfl))) (mvT hZ (hw _ (List.mem_of_getElem? (i := 14) rfl))) (mvT hZ (hw _ (List.mem_of_getElem? (i := 15) rfl))) (by decide) (mvT hZ (hw _ (List.mem_of_getElem? (i := 17) rfl))) (mvT hZ (hw _ (List.mem_of_getElem? (i := 16) rfl))) (backOf (W := 0) (rm3 l Z a0 hw [] aa0 (5 : Int32) h0 n0 Z0 F_aa0_ordinal) hZ (hw _ (List.mem_of_getElem? (i := 19) rfl)) (hw _ (List.mem_of_getElem? (i := 18) rfl)) (by decide) (by decide)) q1a q1c (g := (mkF m 1 #[.val (.ref aa0)] [(.ref aa0)])) rfl (by rw [hml]; rfl) (Steps.refl _) (argsL := []) (rest := []) (lenOf pd__28__29_I rfl) rfl (by show 2 * 0 + _ ≤ _; exact Nat.le_of_eq rfl) (hb hby d2_1) (fun _ _ => ⟨rfl, e0, (by decide : 0 + 0 ≤ _), (by decide : 0 + 0 ≤ _)⟩)
  dsimp only [Pt.U, Pt.locs, Pt.cells, Pt.slots] at X1 l1 y1 z1 st1 hQ1
  subst l1 y1 z1
  obtain ⟨rfl, N1q, e1⟩ := hQ1
  have N1 := Fr.app N0 N1q
  obtain ⟨T2, X2, e2, st2⟩ := getS2 X1 hx hZ hown (host := "") (Or.inl (hw _ (List.mem_of_getElem? (i := 40) rfl))) Via.refl e1 (S_LESS.ext O0.2) (g := (mkF m 64 #[.val (.ref aa0)] [])) rfl (hb hby d2_64)
  obtain ⟨fs, hr, hrun, hended, hW, hsame⟩ := X2.leave (v := some (.ref ob2)) (fun h => by rw [Bd.returns] at h; cases h)
  refine ⟨_, _, pre0 _ ?_, hrun, hended, _, _, rfl, ?_, ⟨_, rfl⟩, hW, hsame.mono (by decide) (by decide)⟩
  · show Steps p.tables e below (s₁.setTop (mkF m 0 #[.val (.ref aa0)] [])) _
    refine XS.aloadN X0.here hx rfl (hb hby d2_0) rfl rfl ?_
    show Steps p.tables e below (s₁.setTop (mkF m 1 #[.val (.ref aa0)] [(.ref aa0)])) _
    refine st1.trans ?_
    show Steps p.tables e below (T1.setTop (mkF m 4 #[.val (.ref aa0)] [(.int (5 : Int32))])) _
    refine XS.tswIn X1.here hx rfl (pc0 := 4) (pc' := 64) rfl (hb hby d2_4) rfl (by decide) (o := 60) rfl (by decide) (by decide) ?_
    show Steps p.tables e below (T1.setTop (mkF m 64 #[.val (.ref aa0)] [])) _
    refine st2 _ ?_
    show Steps p.tables e below (T2.setTop (mkF m 67 #[.val (.ref aa0)] [(.ref ob2)])) _
    jvm_step X2.here [X2.here.top, hx, (hb hby d2_67), X2.method', Bd.returns, Value.isRef, FieldType.isReference]
    first | (intro acts; rw [hr _ acts rfl rfl rfl]) | rw [hr _ _ rfl rfl rfl]
    exact Steps.refl _
  · show Q2_5 Z aa0 ob0 ob1 ob2 ob3 ob4 ob5 h0 n0 _ T2.heap _
    rw [e2]
    exact ⟨rfl, N1, rfl⟩
theorem pd__28_I_29_Lcom_2f_example_2f_guarded_stream_2f_guardedstream_2f_query_2f_ComparisonOperator_3b_ : parseMethodDescriptor "(I)Lcom/example/guarded_stream/guardedstream/query/ComparisonOperator;" = some ⟨[.int], some (.object "com/example/guarded_stream/guardedstream/query/ComparisonOperator")⟩ := by decide +kernel
theorem pd__28__29_Lcom_2f_example_2f_guarded_stream_2f_guardedstream_2f_query_2f_ComparisonOperator_3b_ : parseMethodDescriptor "()Lcom/example/guarded_stream/guardedstream/query/ComparisonOperator;" = some ⟨[], some (.object "com/example/guarded_stream/guardedstream/query/ComparisonOperator")⟩ := by decide +kernel
theorem pd__28_I_29_Z : parseMethodDescriptor "(I)Z" = some ⟨[.int], some .boolean⟩ := by decide +kernel
theorem ef_0 (m : MethodId) (x0 : Int32) (x1 : Int32) : entryFrame m #[(.int x0), (.int x1)] maxLocals = mkF m 0 #[.val (.int x0), .val (.int x1), .unset, .unset, .unset] [] := by first | (simp [entryFrame, mkF, argsToLocals, Value.category, maxLocals]; done) | rfl
def Q0 (Z : State) (pp1 : Int32) (pp2 : Int32) (ob0 : Addr) (ob1 : Addr) (ob2 : Addr) (ob3 : Addr) (ob4 : Addr) (ob5 : Addr) (h0 : Heap) (n0 : Nat) (v : Option Value) (h : Heap) (L : List Loc) : Prop := v = some (.int 1) ∧ Fr n0 L
set_option maxRecDepth 65536 in
set_option maxHeartbeats 40000000 in
theorem rm0 (l : Launch) (Z : State) (a0 : Array Value) (hw : ∀ d ∈ tables_1, d.before a0 Z = true) (ws : List Jvm.Cond) (pp1 : Int32) (pp2 : Int32) (ob0 : Addr) (ob1 : Addr) (ob2 : Addr) (ob3 : Addr) (ob4 : Addr) (ob5 : Addr) (h0 : Heap) (n0 : Nat) (Z0 : n0 ≤ h0.size) (O0 : Old Z n0 h0) (S_EQUAL : Sta Z Z.heap "com/example/guarded_stream/guardedstream/query/ComparisonOperator" "EQUAL" "Lcom/example/guarded_stream/guardedstream/query/ComparisonOperator;" (.ref ob0)) (S_NOT_EQUAL : Sta Z Z.heap "com/example/guarded_stream/guardedstream/query/ComparisonOperator" "NOT_EQUAL" "Lcom/example/guarded_stream/guardedstream/query/ComparisonOperator;" (.ref ob1)) (S_LESS : Sta Z Z.heap "com/example/guarded_stream/guardedstream/query/ComparisonOperator" "LESS" "Lcom/example/guarded_stream/guardedstream/query/ComparisonOperator;" (.ref ob2)) (S_LESS_OR_EQUAL : Sta Z Z.heap "com/example/guarded_stream/guardedstream/query/ComparisonOperator" "LESS_OR_EQUAL" "Lcom/example/guarded_stream/guardedstream/query/ComparisonOperator;" (.ref ob3)) (S_GREATER : Sta Z Z.heap "com/example/guarded_stream/guardedstream/query/ComparisonOperator" "GREATER" "Lcom/example/guarded_stream/guardedstream/query/ComparisonOperator;" (.ref ob4)) (S_GREATER_OR_EQUAL : Sta Z Z.heap "com/example/guarded_stream/guardedstream/query/ComparisonOperator" "GREATER_OR_EQUAL" "Lcom/example/guarded_stream/guardedstream/query/ComparisonOperator;" (.ref ob5)) (E_ob0 : Exa Z h0 ob0 "com/example/guarded_stream/guardedstream/query/ComparisonOperator") (E_ob1 : Exa Z h0 ob1 "com/example/guarded_stream/guardedstream/query/ComparisonOperator") (E_ob2 : Exa Z h0 ob2 "com/example/guarded_stream/guardedstream/query/ComparisonOperator") (E_ob3 : Exa Z h0 ob3 "com/example/guarded_stream/guardedstream/query/ComparisonOperator") (E_ob4 : Exa Z h0 ob4 "com/example/guarded_stream/guardedstream/query/ComparisonOperator") (E_ob5 : Exa Z h0 ob5 "com/example/guarded_stream/guardedstream/query/ComparisonOperator") (F_ob0_ordinal : Fld Z h0 ob0 "java/lang/Enum" "ordinal" "I" (.int (0 : Int32))) (F_ob1_ordinal : Fld Z h0 ob1 "java/lang/Enum" "ordinal" "I" (.int (1 : Int32))) (F_ob2_ordinal : Fld Z h0 ob2 "java/lang/Enum" "ordinal" "I" (.int (2 : Int32))) (F_ob3_ordinal : Fld Z h0 ob3 "java/lang/Enum" "ordinal" "I" (.int (3 : Int32))) (F_ob4_ordinal : Fld Z h0 ob4 "java/lang/Enum" "ordinal" "I" (.int (4 : Int32))) (F_ob5_ordinal : Fld Z h0 ob5 "java/lang/Enum" "ordinal" "I" (.int (5 : Int32))) :
    MetFree l x (head1 (Jvm.Cond.code x code maxLocals ret :: ws) room_1) (fun a U => a = #[(.int pp1), (.int pp2)] ∧ Z.Warmed39 U.vm ∧ U.heap = h0) (fun _ _ _ _ _ => True) (fun _ U o U' => ∃ v L, o = .returned v ∧ Q0 Z pp1 pp2 ob0 ob1 ob2 ob3 ob4 ob5 h0 n0 v U'.heap L ∧ FrameEnd U o U' L room_1.cells room_1.slots) := by
  refine MetFree.of_bodySF (plainFor_of_name pn_com_example_guarded_stream_guardedstream_query_ComparisonOperatorNegatedPinLaw) hisR ?_
  intro p e s m args below meth c s₁ Bd hml0 hP hK
  obtain ⟨rfl, hZ, hh⟩ := hP
  have hx := Bd.exec
  have hby := Bd.bytes
  have hml : c.maxLocals = 5 := hml0
  have hown : s.vm.findClass "com/example/guarded_stream/guardedstream/query/ComparisonOperatorNegatedPinLaw" = some m.cls := findClass_of_methodNamed Bd.named
  have hnm := (name_of_methodNamed Bd.named Bd.method).1
  have X0 : Stand p l e room_1 s m #[(.int pp1), (.int pp2)] below meth c s₁ [] 0 0 := Stand.of_body Bd
  have e0 : s₁.heap = h0 := by rw [← hh, Bd.state]; rfl
  have N0 := Fr.nil n0
  have pre0 : ∀ t, Steps p.tables e below (s₁.setTop (mkF m 0 #[.val (.int pp1), .val (.int pp2), .unset, .unset, .unset] [])) t → Steps p.tables e below (s₁.setTop (entryFrame m #[(.int pp1), (.int pp2)] maxLocals)) t := fun t k => castTop (ef_0 m pp1 pp2) k
  have hc6 : (6 : Int32) ≠ (0 : Int32) := (by decide)
  have pre1 : ∀ t, Steps p.tables e below (s₁.setTop (mkF m 8 #[.val (.int pp1), .val (.int pp2), .val (.int ((pp1 &&& (2147483647 : Int32)) % (6 : Int32))), .unset, .unset] [])) t → Steps p.tables e below (s₁.setTop (entryFrame m #[(.int pp1), (.int pp2)] maxLocals)) t := fun t kt => pre0 t (by
    show Steps p.tables e below (s₁.setTop (mkF m 0 #[.val (.int pp1), .val (.int pp2), .unset, .unset, .unset] [])) _
    refine XS.iloadN X0.here hx rfl (hb hby at_0) rfl ?_
    show Steps p.tables e below (s₁.setTop (mkF m 1 #[.val (.int pp1), .val (.int pp2), .unset, .unset, .unset] [(.int pp1)])) _
    refine X0.ldcInt hx hown (mvT hZ (hw _ (List.mem_of_getElem? (i := 0) rfl))) (g := (mkF m 1 #[.val (.int pp1), .val (.int pp2), .unset, .unset, .unset] [(.int pp1)])) rfl (hb hby at_1) _ ?_
    show Steps p.tables e below (s₁.setTop (mkF m 3 #[.val (.int pp1), .val (.int pp2), .unset, .unset, .unset] [(.int (2147483647 : Int32)), (.int pp1)])) _
    refine XS.iand X0.here hx rfl (hb hby at_3) rfl ?_
    show Steps p.tables e below (s₁.setTop (mkF m 4 #[.val (.int pp1), .val (.int pp2), .unset, .unset, .unset] [(.int (pp1 &&& (2147483647 : Int32)))])) _
    refine XS.bipush X0.here hx rfl (hb hby at_4) ?_
    show Steps p.tables e below (s₁.setTop (mkF m 6 #[.val (.int pp1), .val (.int pp2), .unset, .unset, .unset] [(.int (6 : Int32)), (.int (pp1 &&& (2147483647 : Int32)))])) _
    refine iremM (g := (mkF m 6 #[.val (.int pp1), .val (.int pp2), .unset, .unset, .unset] [(.int (6 : Int32)), (.int (pp1 &&& (2147483647 : Int32)))])) X0 hx rfl (hb hby at_6) rfl hc6 ?_
    show Steps p.tables e below (s₁.setTop (mkF m 7 #[.val (.int pp1), .val (.int pp2), .unset, .unset, .unset] [(.int ((pp1 &&& (2147483647 : Int32)) % (6 : Int32)))])) _
    refine XS.istoreN X0.here hx rfl (hb hby at_7) rfl (l' := #[.val (.int pp1), .val (.int pp2), .val (.int ((pp1 &&& (2147483647 : Int32)) % (6 : Int32))), .unset, .unset]) rfl ?_
    exact kt)
  obtain ⟨kk, h_kk, pre2⟩ : ∃ (kk : Int32), (kk = (0 : Int32) ∨ kk = (1 : Int32) ∨ kk = (2 : Int32) ∨ kk = (3 : Int32) ∨ kk = (4 : Int32) ∨ kk = (5 : Int32)) ∧ ∀ t, Steps p.tables e below (s₁.setTop (mkF m 8 #[.val (.int pp1), .val (.int pp2), .val (.int kk), .unset, .unset] [])) t → Steps p.tables e below (s₁.setTop (entryFrame m #[(.int pp1), (.int pp2)] maxLocals)) t := ⟨((pp1 &&& (2147483647 : Int32)) % (6 : Int32)), own_k6 _, pre1⟩
  rcases h_kk with rfl | rfl | rfl | rfl | rfl | rfl
  · skip
    obtain ⟨_, _, ⟨T3, L3, k3, n3⟩, -, X3, ⟨Lc3, hQ3, l3, y3, z3⟩, st3⟩ := Jvm.LawKit.callS X0 hx (y := (⟨"com/example/guarded_stream/guardedstream/query/ComparisonOperatorNegatedPinLaw", "pick", "(I)Lcom/example/guarded_stream/guardedstream/query/ComparisonOperator;"⟩ : MethodName)) hown (mvT hZ (hw _ (List.mem_of_getElem? (i := 1) rfl))) (mvT hZ (hw _ (List.mem_of_getElem? (i := 2) rfl))) (mvT hZ (hw _ (List.mem_of_getElem? (i := 3) rfl))) (mvT hZ (hw _ (List.mem_of_getElem? (i := 4) rfl))) (by decide) (backOf (W := 0) (rm1_0 l Z a0 hw [] ob0 ob1 ob2 ob3 ob4 ob5 h0 n0 Z0 O0 S_EQUAL S_NOT_EQUAL S_LESS S_LESS_OR_EQUAL S_GREATER S_GREATER_OR_EQUAL) hZ (hw _ (List.mem_of_getElem? (i := 4) rfl)) (hw _ (List.mem_of_getElem? (i := 3) rfl)) (by decide) (by decide)) (g := (mkF m 9 #[.val (.int pp1), .val (.int pp2), .val (.int (0 : Int32)), .unset, .unset] [(.int (0 : Int32))])) rfl (by rw [hml]; rfl) (argsL := [(.int (0 : Int32))]) (rest := []) (lenOf pd__28_I_29_Lcom_2f_example_2f_guarded_stream_2f_guardedstream_2f_query_2f_ComparisonOperator_3b_ rfl) rfl (by show 2 * 0 + _ ≤ _; exact Nat.le_of_eq rfl) (hb hby at_9) (fun _ _ => ⟨rfl, e0, (by decide : 0 + 0 ≤ _), (by decide : 0 + 0 ≤ _)⟩)
    dsimp only [Pt.U, Pt.locs, Pt.cells, Pt.slots] at X3 l3 y3 z3 st3 hQ3
    subst l3 y3 z3
    obtain ⟨rfl, N3q, e3⟩ := hQ3
    have N3 := Fr.app N0 N3q
    obtain ⟨cq4, kq4, q4a, q4b, q4c⟩ := isOf hZ e3 E_ob0
    obtain ⟨_, _, ⟨T4, L4, k4, n4⟩, -, X4, ⟨Lc4, hQ4, l4, y4, z4⟩, st4⟩ := X3.virtualBack hx (y := (⟨"com/example/guarded_stream/guardedstream/query/ComparisonOperator", "negated", "()Lcom/example/guarded_stream/guardedstream/query/ComparisonOperator;"⟩ : MethodName)) (z := (⟨"com/example/guarded_stream/guardedstream/query/ComparisonOperator", "negated", "()Lcom/example/guarded_stream/guardedstream/query/ComparisonOperator;"⟩ : MethodName)) hown (mvT hZ (hw _ (List.mem_of_getElem? (i := 8) rfl))) (mvT hZ (hw _ (List.mem_of_getElem? (i := 9) rfl))) (notFace_of_selects (args := #[]) (mvT hZ (hw _ (List.mem_of_getElem? (i := 11) rfl)))) (mvT hZ (hw _ (List.mem_of_getElem? (i := 11) rfl))) (mvT hZ (hw _ (List.mem_of_getElem? (i := 10) rfl))) (by decide) (backOf (W := 0) (rm2_0 l Z a0 hw [] ob0 ob0 ob1 ob2 ob3 ob4 ob5 h0 n0 Z0 E_ob0 F_ob0_ordinal O0 S_EQUAL S_NOT_EQUAL S_LESS S_LESS_OR_EQUAL S_GREATER S_GREATER_OR_EQUAL) hZ (hw _ (List.mem_of_getElem? (i := 12) rfl)) (hw _ (List.mem_of_getElem? (i := 6) rfl)) (by decide) (by decide)) q4a q4c (g := (mkF m 14 #[.val (.int pp1), .val (.int pp2), .val (.int (0 : Int32)), .val (.ref ob0), .unset] [(.ref ob0)])) rfl (by rw [hml]; rfl) (Steps.refl _) (argsL := []) (rest := []) (lenOf pd__28__29_Lcom_2f_example_2f_guarded_stream_2f_guardedstream_2f_query_2f_ComparisonOperator_3b_ rfl) rfl (by show 2 * 0 + _ ≤ _; exact Nat.le_of_eq rfl) (hb hby at_14) (fun _ _ => ⟨rfl, e3, (by decide : 0 + 0 ≤ _), (by decide : 0 + 0 ≤ _)⟩)
    dsimp only [Pt.U, Pt.locs, Pt.cells, Pt.slots] at X4 l4 y4 z4 st4 hQ4
    subst l4 y4 z4
    obtain ⟨rfl, N4q, e4⟩ := hQ4
    have N4 := Fr.app N3 N4q
    obtain ⟨cq5, kq5, q5a, q5b, q5c⟩ := isOf hZ e4 E_ob1
    obtain ⟨_, _, ⟨T5, L5, k5, n5⟩, -, X5, ⟨Lc5, hQ5, l5, y5, z5⟩, st5⟩ := X4.virtualBack hx (y := (⟨"com/example/guarded_stream/guardedstream/query/ComparisonOperator", "holds", "(I)Z"⟩ : MethodName)) (z := (⟨"com/example/guarded_stream/guardedstream/query/ComparisonOperator", "holds", "(I)Z"⟩ : MethodName)) hown (mvT hZ (hw _ (List.mem_of_getElem? (i := 24) rfl))) (mvT hZ (hw _ (List.mem_of_getElem? (i := 25) rfl))) (notFace_of_selects (args := #[]) (mvT hZ (hw _ (List.mem_of_getElem? (i := 27) rfl)))) (mvT hZ (hw _ (List.mem_of_getElem? (i := 27) rfl))) (mvT hZ (hw _ (List.mem_of_getElem? (i := 26) rfl))) (by decide) (backOf (W := 0) (rm4_1 l Z a0 hw [] ob1 pp2 h0 n0 Z0 E_ob1 F_ob1_ordinal) hZ (hw _ (List.mem_of_getElem? (i := 28) rfl)) (hw _ (List.mem_of_getElem? (i := 6) rfl)) (by decide) (by decide)) q5a q5c (g := (mkF m 29 #[.val (.int pp1), .val (.int pp2), .val (.int (0 : Int32)), .val (.ref ob0), .val (.ref ob1)] [(.int pp2), (.ref ob1)])) rfl (by rw [hml]; rfl) (Steps.refl _) (argsL := [(.int pp2)]) (rest := []) (lenOf pd__28_I_29_Z rfl) rfl (by show 2 * 0 + _ ≤ _; exact Nat.le_of_eq rfl) (hb hby at_29) (fun _ _ => ⟨rfl, e4, (by decide : 0 + 0 ≤ _), (by decide : 0 + 0 ≤ _)⟩)
    dsimp only [Pt.U, Pt.locs, Pt.cells, Pt.slots] at X5 l5 y5 z5 st5 hQ5
    subst l5 y5 z5
    obtain ⟨rfl, N5q, e5⟩ := hQ5
    have N5 := Fr.app N4 N5q
    obtain ⟨cq6, kq6, q6a, q6b, q6c⟩ := isOf hZ e5 E_ob0
    obtain ⟨_, _, ⟨T6, L6, k6, n6⟩, -, X6, ⟨Lc6, hQ6, l6, y6, z6⟩, st6⟩ := X5.virtualBack hx (y := (⟨"com/example/guarded_stream/guardedstream/query/ComparisonOperator", "holds", "(I)Z"⟩ : MethodName)) (z := (⟨"com/example/guarded_stream/guardedstream/query/ComparisonOperator", "holds", "(I)Z"⟩ : MethodName)) hown (mvT hZ (hw _ (List.mem_of_getElem? (i := 24) rfl))) (mvT hZ (hw _ (List.mem_of_getElem? (i := 25) rfl))) (notFace_of_selects (args := #[]) (mvT hZ (hw _ (List.mem_of_getElem? (i := 27) rfl)))) (mvT hZ (hw _ (List.mem_of_getElem? (i := 27) rfl))) (mvT hZ (hw _ (List.mem_of_getElem? (i := 26) rfl))) (by decide) (backOf (W := 1) (rm4_0 l Z a0 hw [] ob0 pp2 h0 n0 Z0 E_ob0 F_ob0_ordinal) hZ (hw _ (List.mem_of_getElem? (i := 28) rfl)) (hw _ (List.mem_of_getElem? (i := 6) rfl)) (by decide) (by decide)) q6a q6c (g := (mkF m 34 #[.val (.int pp1), .val (.int pp2), .val (.int (0 : Int32)), .val (.ref ob0), .val (.ref ob1)] [(.int pp2), (.ref ob0), (.int (if pp2 = (0 : Int32) then (0 : Int32) else (1 : Int32)))])) rfl (by rw [hml]; rfl) (Steps.refl _) (argsL := [(.int pp2)]) (rest := [(.int (if pp2 = (0 : Int32) then (0 : Int32) else (1 : Int32)))]) (lenOf pd__28_I_29_Z rfl) rfl (by show 2 * 0 + _ ≤ _; exact Nat.le_of_eq rfl) (hb hby at_34) (fun _ _ => ⟨rfl, e5, (by decide : 0 + 0 ≤ _), (by decide : 0 + 0 ≤ _)⟩)
    dsimp only [Pt.U, Pt.locs, Pt.cells, Pt.slots] at X6 l6 y6 z6 st6 hQ6
    subst l6 y6 z6
    obtain ⟨rfl, N6q, e6⟩ := hQ6
    have N6 := Fr.app N5 N6q
    have hc37 : ¬ ((if pp2 = (0 : Int32) then (0 : Int32) else (1 : Int32)) = (if pp2 = (0 : Int32) then (1 : Int32) else (0 : Int32))) := (by split <;> decide)
    obtain ⟨fs, hr, hrun, hended, hW, hsame⟩ := X6.leave (v := some (.int (1 : Int32))) (fun h => by rw [Bd.returns] at h; cases h)
    refine ⟨_, _, pre2 _ ?_, hrun, hended, _, _, rfl, ?_, ⟨_, rfl⟩, hW, hsame.mono (by decide) (by decide)⟩
    · show Steps p.tables e below (s₁.setTop (mkF m 8 #[.val (.int pp1), .val (.int pp2), .val (.int (0 : Int32)), .unset, .unset] [])) _
      refine XS.iloadN X0.here hx rfl (hb hby at_8) rfl ?_
      show Steps p.tables e below (s₁.setTop (mkF m 9 #[.val (.int pp1), .val (.int pp2), .val (.int (0 : Int32)), .unset, .unset] [(.int (0 : Int32))])) _
      refine st3 _ ?_
      show Steps p.tables e below (T3.setTop (mkF m 12 #[.val (.int pp1), .val (.int pp2), .val (.int (0 : Int32)), .unset, .unset] [(.ref ob0)])) _
      refine XS.astoreN X3.here hx rfl (hb hby at_12) rfl rfl (l' := #[.val (.int pp1), .val (.int pp2), .val (.int (0 : Int32)), .val (.ref ob0), .unset]) rfl ?_
      show Steps p.tables e below (T3.setTop (mkF m 13 #[.val (.int pp1), .val (.int pp2), .val (.int (0 : Int32)), .val (.ref ob0), .unset] [])) _
      refine XS.aloadN X3.here hx rfl (hb hby at_13) rfl rfl ?_
      show Steps p.tables e below (T3.setTop (mkF m 14 #[.val (.int pp1), .val (.int pp2), .val (.int (0 : Int32)), .val (.ref ob0), .unset] [(.ref ob0)])) _
      refine st4.trans ?_
      show Steps p.tables e below (T4.setTop (mkF m 17 #[.val (.int pp1), .val (.int pp2), .val (.int (0 : Int32)), .val (.ref ob0), .unset] [(.ref ob1)])) _
      refine XS.astore X4.here hx rfl (hb hby at_17) rfl rfl (l' := #[.val (.int pp1), .val (.int pp2), .val (.int (0 : Int32)), .val (.ref ob0), .val (.ref ob1)]) rfl ?_
      show Steps p.tables e below (T4.setTop (mkF m 19 #[.val (.int pp1), .val (.int pp2), .val (.int (0 : Int32)), .val (.ref ob0), .val (.ref ob1)] [])) _
      refine XS.aload X4.here hx rfl (hb hby at_19) rfl rfl ?_
      show Steps p.tables e below (T4.setTop (mkF m 21 #[.val (.int pp1), .val (.int pp2), .val (.int (0 : Int32)), .val (.ref ob0), .val (.ref ob1)] [(.ref ob1)])) _
      refine XS.ifnonnullYes X4.here hx rfl (pc0 := 21) (pc' := 26) rfl (hb hby at_21) rfl (by decide) (by decide) ?_
      show Steps p.tables e below (T4.setTop (mkF m 26 #[.val (.int pp1), .val (.int pp2), .val (.int (0 : Int32)), .val (.ref ob0), .val (.ref ob1)] [])) _
      refine XS.aload X4.here hx rfl (hb hby at_26) rfl rfl ?_
      show Steps p.tables e below (T4.setTop (mkF m 28 #[.val (.int pp1), .val (.int pp2), .val (.int (0 : Int32)), .val (.ref ob0), .val (.ref ob1)] [(.ref ob1)])) _
      refine XS.iloadN X4.here hx rfl (hb hby at_28) rfl ?_
      show Steps p.tables e below (T4.setTop (mkF m 29 #[.val (.int pp1), .val (.int pp2), .val (.int (0 : Int32)), .val (.ref ob0), .val (.ref ob1)] [(.int pp2), (.ref ob1)])) _
      refine st5.trans ?_
      show Steps p.tables e below (T5.setTop (mkF m 32 #[.val (.int pp1), .val (.int pp2), .val (.int (0 : Int32)), .val (.ref ob0), .val (.ref ob1)] [(.int (if pp2 = (0 : Int32) then (0 : Int32) else (1 : Int32)))])) _
      refine XS.aloadN X5.here hx rfl (hb hby at_32) rfl rfl ?_
      show Steps p.tables e below (T5.setTop (mkF m 33 #[.val (.int pp1), .val (.int pp2), .val (.int (0 : Int32)), .val (.ref ob0), .val (.ref ob1)] [(.ref ob0), (.int (if pp2 = (0 : Int32) then (0 : Int32) else (1 : Int32)))])) _
      refine XS.iloadN X5.here hx rfl (hb hby at_33) rfl ?_
      show Steps p.tables e below (T5.setTop (mkF m 34 #[.val (.int pp1), .val (.int pp2), .val (.int (0 : Int32)), .val (.ref ob0), .val (.ref ob1)] [(.int pp2), (.ref ob0), (.int (if pp2 = (0 : Int32) then (0 : Int32) else (1 : Int32)))])) _
      refine st6.trans ?_
      show Steps p.tables e below (T6.setTop (mkF m 37 #[.val (.int pp1), .val (.int pp2), .val (.int (0 : Int32)), .val (.ref ob0), .val (.ref ob1)] [(.int (if pp2 = (0 : Int32) then (1 : Int32) else (0 : Int32))), (.int (if pp2 = (0 : Int32) then (0 : Int32) else (1 : Int32)))])) _
      refine XS.icmpNo X6.here hx rfl (hb hby at_37) rfl (feq hc37).1 ?_
      show Steps p.tables e below (T6.setTop (mkF m 40 #[.val (.int pp1), .val (.int pp2), .val (.int (0 : Int32)), .val (.ref ob0), .val (.ref ob1)] [])) _
      refine XS.iconst X6.here hx rfl (hb hby at_40) ?_
      show Steps p.tables e below (T6.setTop (mkF m 41 #[.val (.int pp1), .val (.int pp2), .val (.int (0 : Int32)), .val (.ref ob0), .val (.ref ob1)] [(.int (1 : Int32))])) _
      refine XS.goto X6.here hx rfl (pc0 := 41) (pc' := 45) rfl (hb hby at_41) (by decide) (by decide) ?_
      show Steps p.tables e below (T6.setTop (mkF m 45 #[.val (.int pp1), .val (.int pp2), .val (.int (0 : Int32)), .val (.ref ob0), .val (.ref ob1)] [(.int (1 : Int32))])) _
      exact retN X6 hx (t := .boolean) Bd.returns (by simp) (hb hby at_45) hr
    · show Q0 Z pp1 pp2 ob0 ob1 ob2 ob3 ob4 ob5 h0 n0 _ T6.heap _
      rw [e6]
      exact ⟨rfl, N6⟩
  · skip
    obtain ⟨_, _, ⟨T7, L7, k7, n7⟩, -, X7, ⟨Lc7, hQ7, l7, y7, z7⟩, st7⟩ := Jvm.LawKit.callS X0 hx (y := (⟨"com/example/guarded_stream/guardedstream/query/ComparisonOperatorNegatedPinLaw", "pick", "(I)Lcom/example/guarded_stream/guardedstream/query/ComparisonOperator;"⟩ : MethodName)) hown (mvT hZ (hw _ (List.mem_of_getElem? (i := 1) rfl))) (mvT hZ (hw _ (List.mem_of_getElem? (i := 2) rfl))) (mvT hZ (hw _ (List.mem_of_getElem? (i := 3) rfl))) (mvT hZ (hw _ (List.mem_of_getElem? (i := 4) rfl))) (by decide) (backOf (W := 0) (rm1_1 l Z a0 hw [] ob0 ob1 ob2 ob3 ob4 ob5 h0 n0 Z0 O0 S_EQUAL S_NOT_EQUAL S_LESS S_LESS_OR_EQUAL S_GREATER S_GREATER_OR_EQUAL) hZ (hw _ (List.mem_of_getElem? (i := 4) rfl)) (hw _ (List.mem_of_getElem? (i := 3) rfl)) (by decide) (by decide)) (g := (mkF m 9 #[.val (.int pp1), .val (.int pp2), .val (.int (1 : Int32)), .unset, .unset] [(.int (1 : Int32))])) rfl (by rw [hml]; rfl) (argsL := [(.int (1 : Int32))]) (rest := []) (lenOf pd__28_I_29_Lcom_2f_example_2f_guarded_stream_2f_guardedstream_2f_query_2f_ComparisonOperator_3b_ rfl) rfl (by show 2 * 0 + _ ≤ _; exact Nat.le_of_eq rfl) (hb hby at_9) (fun _ _ => ⟨rfl, e0, (by decide : 0 + 0 ≤ _), (by decide : 0 + 0 ≤ _)⟩)
    dsimp only [Pt.U, Pt.locs, Pt.cells, Pt.slots] at X7 l7 y7 z7 st7 hQ7
    subst l7 y7 z7
    obtain ⟨rfl, N7q, e7⟩ := hQ7
    have N7 := Fr.app N0 N7q
    obtain ⟨cq8, kq8, q8a, q8b, q8c⟩ := isOf hZ e7 E_ob1
    obtain ⟨_, _, ⟨T8, L8, k8, n8⟩, -, X8, ⟨Lc8, hQ8, l8, y8, z8⟩, st8⟩ := X7.virtualBack hx (y := (⟨"com/example/guarded_stream/guardedstream/query/ComparisonOperator", "negated", "()Lcom/example/guarded_stream/guardedstream/query/ComparisonOperator;"⟩ : MethodName)) (z := (⟨"com/example/guarded_stream/guardedstream/query/ComparisonOperator", "negated", "()Lcom/example/guarded_stream/guardedstream/query/ComparisonOperator;"⟩ : MethodName)) hown (mvT hZ (hw _ (List.mem_of_getElem? (i := 8) rfl))) (mvT hZ (hw _ (List.mem_of_getElem? (i := 9) rfl))) (notFace_of_selects (args := #[]) (mvT hZ (hw _ (List.mem_of_getElem? (i := 11) rfl)))) (mvT hZ (hw _ (List.mem_of_getElem? (i := 11) rfl))) (mvT hZ (hw _ (List.mem_of_getElem? (i := 10) rfl))) (by decide) (backOf (W := 0) (rm2_1 l Z a0 hw [] ob1 ob0 ob1 ob2 ob3 ob4 ob5 h0 n0 Z0 E_ob1 F_ob1_ordinal O0 S_EQUAL S_NOT_EQUAL S_LESS S_LESS_OR_EQUAL S_GREATER S_GREATER_OR_EQUAL) hZ (hw _ (List.mem_of_getElem? (i := 12) rfl)) (hw _ (List.mem_of_getElem? (i := 6) rfl)) (by decide) (by decide)) q8a q8c (g := (mkF m 14 #[.val (.int pp1), .val (.int pp2), .val (.int (1 : Int32)), .val (.ref ob1), .unset] [(.ref ob1)])) rfl (by rw [hml]; rfl) (Steps.refl _) (argsL := []) (rest := []) (lenOf pd__28__29_Lcom_2f_example_2f_guarded_stream_2f_guardedstream_2f_query_2f_ComparisonOperator_3b_ rfl) rfl (by show 2 * 0 + _ ≤ _; exact Nat.le_of_eq rfl) (hb hby at_14) (fun _ _ => ⟨rfl, e7, (by decide : 0 + 0 ≤ _), (by decide : 0 + 0 ≤ _)⟩)
    dsimp only [Pt.U, Pt.locs, Pt.cells, Pt.slots] at X8 l8 y8 z8 st8 hQ8
    subst l8 y8 z8
    obtain ⟨rfl, N8q, e8⟩ := hQ8
    have N8 := Fr.app N7 N8q
    obtain ⟨cq9, kq9, q9a, q9b, q9c⟩ := isOf hZ e8 E_ob0
    obtain ⟨_, _, ⟨T9, L9, k9, n9⟩, -, X9, ⟨Lc9, hQ9, l9, y9, z9⟩, st9⟩ := X8.virtualBack hx (y := (⟨"com/example/guarded_stream/guardedstream/query/ComparisonOperator", "holds", "(I)Z"⟩ : MethodName)) (z := (⟨"com/example/guarded_stream/guardedstream/query/ComparisonOperator", "holds", "(I)Z"⟩ : MethodName)) hown (mvT hZ (hw _ (List.mem_of_getElem? (i := 24) rfl))) (mvT hZ (hw _ (List.mem_of_getElem? (i := 25) rfl))) (notFace_of_selects (args := #[]) (mvT hZ (hw _ (List.mem_of_getElem? (i := 27) rfl)))) (mvT hZ (hw _ (List.mem_of_getElem? (i := 27) rfl))) (mvT hZ (hw _ (List.mem_of_getElem? (i := 26) rfl))) (by decide) (backOf (W := 0) (rm4_0 l Z a0 hw [] ob0 pp2 h0 n0 Z0 E_ob0 F_ob0_ordinal) hZ (hw _ (List.mem_of_getElem? (i := 28) rfl)) (hw _ (List.mem_of_getElem? (i := 6) rfl)) (by decide) (by decide)) q9a q9c (g := (mkF m 29 #[.val (.int pp1), .val (.int pp2), .val (.int (1 : Int32)), .val (.ref ob1), .val (.ref ob0)] [(.int pp2), (.ref ob0)])) rfl (by rw [hml]; rfl) (Steps.refl _) (argsL := [(.int pp2)]) (rest := []) (lenOf pd__28_I_29_Z rfl) rfl (by show 2 * 0 + _ ≤ _; exact Nat.le_of_eq rfl) (hb hby at_29) (fun _ _ => ⟨rfl, e8, (by decide : 0 + 0 ≤ _), (by decide : 0 + 0 ≤ _)⟩)
    dsimp only [Pt.U, Pt.locs, Pt.cells, Pt.slots] at X9 l9 y9 z9 st9 hQ9
    subst l9 y9 z9
    obtain ⟨rfl, N9q, e9⟩ := hQ9
    have N9 := Fr.app N8 N9q
    obtain ⟨cq10, kq10, q10a, q10b, q10c⟩ := isOf hZ e9 E_ob1
    obtain ⟨_, _, ⟨T10, L10, k10, n10⟩, -, X10, ⟨Lc10, hQ10, l10, y10, z10⟩, st10⟩ := X9.virtualBack hx (y := (⟨"com/example/guarded_stream/guardedstream/query/ComparisonOperator", "holds", "(I)Z"⟩ : MethodName)) (z := (⟨"com/example/guarded_stream/guardedstream/query/ComparisonOperator", "holds", "(I)Z"⟩ : MethodName)) hown (mvT hZ (hw _ (List.mem_of_getElem? (i := 24) rfl))) (mvT hZ (hw _ (List.mem_of_getElem? (i := 25) rfl))) (notFace_of_selects (args := #[]) (mvT hZ (hw _ (List.mem_of_getElem? (i := 27) rfl)))) (mvT hZ (hw _ (List.mem_of_getElem? (i := 27) rfl))) (mvT hZ (hw _ (List.mem_of_getElem? (i := 26) rfl))) (by decide) (backOf (W := 1) (rm4_1 l Z a0 hw [] ob1 pp2 h0 n0 Z0 E_ob1 F_ob1_ordinal) hZ (hw _ (List.mem_of_getElem? (i := 28) rfl)) (hw _ (List.mem_of_getElem? (i := 6) rfl)) (by decide) (by decide)) q10a q10c (g := (mkF m 34 #[.val (.int pp1), .val (.int pp2), .val (.int (1 : Int32)), .val (.ref ob1), .val (.ref ob0)] [(.int pp2), (.ref ob1), (.int (if pp2 = (0 : Int32) then (1 : Int32) else (0 : Int32)))])) rfl (by rw [hml]; rfl) (Steps.refl _) (argsL := [(.int pp2)]) (rest := [(.int (if pp2 = (0 : Int32) then (1 : Int32) else (0 : Int32)))]) (lenOf pd__28_I_29_Z rfl) rfl (by show 2 * 0 + _ ≤ _; exact Nat.le_of_eq rfl) (hb hby at_34) (fun _ _ => ⟨rfl, e9, (by decide : 0 + 0 ≤ _), (by decide : 0 + 0 ≤ _)⟩)
    dsimp only [Pt.U, Pt.locs, Pt.cells, Pt.slots] at X10 l10 y10 z10 st10 hQ10
    subst l10 y10 z10
    obtain ⟨rfl, N10q, e10⟩ := hQ10
    have N10 := Fr.app N9 N10q
    have hc37_2 : ¬ ((if pp2 = (0 : Int32) then (1 : Int32) else (0 : Int32)) = (if pp2 = (0 : Int32) then (0 : Int32) else (1 : Int32))) := (by split <;> decide)
    obtain ⟨fs, hr, hrun, hended, hW, hsame⟩ := X10.leave (v := some (.int (1 : Int32))) (fun h => by rw [Bd.returns] at h; cases h)
    refine ⟨_, _, pre2 _ ?_, hrun, hended, _, _, rfl, ?_, ⟨_, rfl⟩, hW, hsame.mono (by decide) (by decide)⟩
    · show Steps p.tables e below (s₁.setTop (mkF m 8 #[.val (.int pp1), .val (.int pp2), .val (.int (1 : Int32)), .unset, .unset] [])) _
      refine XS.iloadN X0.here hx rfl (hb hby at_8) rfl ?_
      show Steps p.tables e below (s₁.setTop (mkF m 9 #[.val (.int pp1), .val (.int pp2), .val (.int (1 : Int32)), .unset, .unset] [(.int (1 : Int32))])) _
      refine st7 _ ?_
      show Steps p.tables e below (T7.setTop (mkF m 12 #[.val (.int pp1), .val (.int pp2), .val (.int (1 : Int32)), .unset, .unset] [(.ref ob1)])) _
      refine XS.astoreN X7.here hx rfl (hb hby at_12) rfl rfl (l' := #[.val (.int pp1), .val (.int pp2), .val (.int (1 : Int32)), .val (.ref ob1), .unset]) rfl ?_
      show Steps p.tables e below (T7.setTop (mkF m 13 #[.val (.int pp1), .val (.int pp2), .val (.int (1 : Int32)), .val (.ref ob1), .unset] [])) _
      refine XS.aloadN X7.here hx rfl (hb hby at_13) rfl rfl ?_
      show Steps p.tables e below (T7.setTop (mkF m 14 #[.val (.int pp1), .val (.int pp2), .val (.int (1 : Int32)), .val (.ref ob1), .unset] [(.ref ob1)])) _
      refine st8.trans ?_
      show Steps p.tables e below (T8.setTop (mkF m 17 #[.val (.int pp1), .val (.int pp2), .val (.int (1 : Int32)), .val (.ref ob1), .unset] [(.ref ob0)])) _
      refine XS.astore X8.here hx rfl (hb hby at_17) rfl rfl (l' := #[.val (.int pp1), .val (.int pp2), .val (.int (1 : Int32)), .val (.ref ob1), .val (.ref ob0)]) rfl ?_
      show Steps p.tables e below (T8.setTop (mkF m 19 #[.val (.int pp1), .val (.int pp2), .val (.int (1 : Int32)), .val (.ref ob1), .val (.ref ob0)] [])) _
      refine XS.aload X8.here hx rfl (hb hby at_19) rfl rfl ?_
      show Steps p.tables e below (T8.setTop (mkF m 21 #[.val (.int pp1), .val (.int pp2), .val (.int (1 : Int32)), .val (.ref ob1), .val (.ref ob0)] [(.ref ob0)])) _
      refine XS.ifnonnullYes X8.here hx rfl (pc0 := 21) (pc' := 26) rfl (hb hby at_21) rfl (by decide) (by decide) ?_
      show Steps p.tables e below (T8.setTop (mkF m 26 #[.val (.int pp1), .val (.int pp2), .val (.int (1 : Int32)), .val (.ref ob1), .val (.ref ob0)] [])) _
      refine XS.aload X8.here hx rfl (hb hby at_26) rfl rfl ?_
      show Steps p.tables e below (T8.setTop (mkF m 28 #[.val (.int pp1), .val (.int pp2), .val (.int (1 : Int32)), .val (.ref ob1), .val (.ref ob0)] [(.ref ob0)])) _
      refine XS.iloadN X8.here hx rfl (hb hby at_28) rfl ?_
      show Steps p.tables e below (T8.setTop (mkF m 29 #[.val (.int pp1), .val (.int pp2), .val (.int (1 : Int32)), .val (.ref ob1), .val (.ref ob0)] [(.int pp2), (.ref ob0)])) _
      refine st9.trans ?_
      show Steps p.tables e below (T9.setTop (mkF m 32 #[.val (.int pp1), .val (.int pp2), .val (.int (1 : Int32)), .val (.ref ob1), .val (.ref ob0)] [(.int (if pp2 = (0 : Int32) then (1 : Int32) else (0 : Int32)))])) _
      refine XS.aloadN X9.here hx rfl (hb hby at_32) rfl rfl ?_
      show Steps p.tables e below (T9.setTop (mkF m 33 #[.val (.int pp1), .val (.int pp2), .val (.int (1 : Int32)), .val (.ref ob1), .val (.ref ob0)] [(.ref ob1), (.int (if pp2 = (0 : Int32) then (1 : Int32) else (0 : Int32)))])) _
      refine XS.iloadN X9.here hx rfl (hb hby at_33) rfl ?_
      show Steps p.tables e below (T9.setTop (mkF m 34 #[.val (.int pp1), .val (.int pp2), .val (.int (1 : Int32)), .val (.ref ob1), .val (.ref ob0)] [(.int pp2), (.ref ob1), (.int (if pp2 = (0 : Int32) then (1 : Int32) else (0 : Int32)))])) _
      refine st10.trans ?_
      show Steps p.tables e below (T10.setTop (mkF m 37 #[.val (.int pp1), .val (.int pp2), .val (.int (1 : Int32)), .val (.ref ob1), .val (.ref ob0)] [(.int (if pp2 = (0 : Int32) then (0 : Int32) else (1 : Int32))), (.int (if pp2 = (0 : Int32) then (1 : Int32) else (0 : Int32)))])) _
      refine XS.icmpNo X10.here hx rfl (hb hby at_37) rfl (feq hc37_2).1 ?_
      show Steps p.tables e below (T10.setTop (mkF m 40 #[.val (.int pp1), .val (.int pp2), .val (.int (1 : Int32)), .val (.ref ob1), .val (.ref ob0)] [])) _
      refine XS.iconst X10.here hx rfl (hb hby at_40) ?_
      show Steps p.tables e below (T10.setTop (mkF m 41 #[.val (.int pp1), .val (.int pp2), .val (.int (1 : Int32)), .val (.ref ob1), .val (.ref ob0)] [(.int (1 : Int32))])) _
      refine XS.goto X10.here hx rfl (pc0 := 41) (pc' := 45) rfl (hb hby at_41) (by decide) (by decide) ?_
      show Steps p.tables e below (T10.setTop (mkF m 45 #[.val (.int pp1), .val (.int pp2), .val (.int (1 : Int32)), .val (.ref ob1), .val (.ref ob0)] [(.int (1 : Int32))])) _
      exact retN X10 hx (t := .boolean) Bd.returns (by simp) (hb hby at_45) hr
    · show Q0 Z pp1 pp2 ob0 ob1 ob2 ob3 ob4 ob5 h0 n0 _ T10.heap _
      rw [e10]
      exact ⟨rfl, N10⟩
  · skip
    obtain ⟨_, _, ⟨T11, L11, k11, n11⟩, -, X11, ⟨Lc11, hQ11, l11, y11, z11⟩, st11⟩ := Jvm.LawKit.callS X0 hx (y := (⟨"com/example/guarded_stream/guardedstream/query/ComparisonOperatorNegatedPinLaw", "pick", "(I)Lcom/example/guarded_stream/guardedstream/query/ComparisonOperator;"⟩ : MethodName)) hown (mvT hZ (hw _ (List.mem_of_getElem? (i := 1) rfl))) (mvT hZ (hw _ (List.mem_of_getElem? (i := 2) rfl))) (mvT hZ (hw _ (List.mem_of_getElem? (i := 3) rfl))) (mvT hZ (hw _ (List.mem_of_getElem? (i := 4) rfl))) (by decide) (backOf (W := 0) (rm1_2 l Z a0 hw [] ob0 ob1 ob2 ob3 ob4 ob5 h0 n0 Z0 O0 S_EQUAL S_NOT_EQUAL S_LESS S_LESS_OR_EQUAL S_GREATER S_GREATER_OR_EQUAL) hZ (hw _ (List.mem_of_getElem? (i := 4) rfl)) (hw _ (List.mem_of_getElem? (i := 3) rfl)) (by decide) (by decide)) (g := (mkF m 9 #[.val (.int pp1), .val (.int pp2), .val (.int (2 : Int32)), .unset, .unset] [(.int (2 : Int32))])) rfl (by rw [hml]; rfl) (argsL := [(.int (2 : Int32))]) (rest := []) (lenOf pd__28_I_29_Lcom_2f_example_2f_guarded_stream_2f_guardedstream_2f_query_2f_ComparisonOperator_3b_ rfl) rfl (by show 2 * 0 + _ ≤ _; exact Nat.le_of_eq rfl) (hb hby at_9) (fun _ _ => ⟨rfl, e0, (by decide : 0 + 0 ≤ _), (by decide : 0 + 0 ≤ _)⟩)
    dsimp only [Pt.U, Pt.locs, Pt.cells, Pt.slots] at X11 l11 y11 z11 st11 hQ11
    subst l11 y11 z11
    obtain ⟨rfl, N11q, e11⟩ := hQ11
    have N11 := Fr.app N0 N11q
    obtain ⟨cq12, kq12, q12a, q12b, q12c⟩ := isOf hZ e11 E_ob2
    obtain ⟨_, _, ⟨T12, L12, k12, n12⟩, -, X12, ⟨Lc12, hQ12, l12, y12, z12⟩, st12⟩ := X11.virtualBack hx (y := (⟨"com/example/guarded_stream/guardedstream/query/ComparisonOperator", "negated", "()Lcom/example/guarded_stream/guardedstream/query/ComparisonOperator;"⟩ : MethodName)) (z := (⟨"com/example/guarded_stream/guardedstream/query/ComparisonOperator", "negated", "()Lcom/example/guarded_stream/guardedstream/query/ComparisonOperator;"⟩ : MethodName)) hown (mvT hZ (hw _ (List.mem_of_getElem? (i := 8) rfl))) (mvT hZ (hw _ (List.mem_of_getElem? (i := 9) rfl))) (notFace_of_selects (args := #[]) (mvT hZ (hw _ (List.mem_of_getElem? (i := 11) rfl)))) (mvT hZ (hw _ (List.mem_of_getElem? (i := 11) rfl))) (mvT hZ (hw _ (List.mem_of_getElem? (i := 10) rfl))) (by decide) (backOf (W := 0) (rm2_2 l Z a0 hw [] ob2 ob0 ob1 ob2 ob3 ob4 ob5 h0 n0 Z0 E_ob2 F_ob2_ordinal O0 S_EQUAL S_NOT_EQUAL S_LESS S_LESS_OR_EQUAL S_GREATER S_GREATER_OR_EQUAL) hZ (hw _ (List.mem_of_getElem? (i := 12) rfl)) (hw _ (List.mem_of_getElem? (i := 6) rfl)) (by decide) (by decide)) q12a q12c (g := (mkF m 14 #[.val (.int pp1), .val (.int pp2), .val (.int (2 : Int32)), .val (.ref ob2), .unset] [(.ref ob2)])) rfl (by rw [hml]; rfl) (Steps.refl _) (argsL := []) (rest := []) (lenOf pd__28__29_Lcom_2f_example_2f_guarded_stream_2f_guardedstream_2f_query_2f_ComparisonOperator_3b_ rfl) rfl (by show 2 * 0 + _ ≤ _; exact Nat.le_of_eq rfl) (hb hby at_14) (fun _ _ => ⟨rfl, e11, (by decide : 0 + 0 ≤ _), (by decide : 0 + 0 ≤ _)⟩)
    dsimp only [Pt.U, Pt.locs, Pt.cells, Pt.slots] at X12 l12 y12 z12 st12 hQ12
    subst l12 y12 z12
    obtain ⟨rfl, N12q, e12⟩ := hQ12
    have N12 := Fr.app N11 N12q
    obtain ⟨cq13, kq13, q13a, q13b, q13c⟩ := isOf hZ e12 E_ob5
    obtain ⟨_, _, ⟨T13, L13, k13, n13⟩, -, X13, ⟨Lc13, hQ13, l13, y13, z13⟩, st13⟩ := X12.virtualBack hx (y := (⟨"com/example/guarded_stream/guardedstream/query/ComparisonOperator", "holds", "(I)Z"⟩ : MethodName)) (z := (⟨"com/example/guarded_stream/guardedstream/query/ComparisonOperator", "holds", "(I)Z"⟩ : MethodName)) hown (mvT hZ (hw _ (List.mem_of_getElem? (i := 24) rfl))) (mvT hZ (hw _ (List.mem_of_getElem? (i := 25) rfl))) (notFace_of_selects (args := #[]) (mvT hZ (hw _ (List.mem_of_getElem? (i := 27) rfl)))) (mvT hZ (hw _ (List.mem_of_getElem? (i := 27) rfl))) (mvT hZ (hw _ (List.mem_of_getElem? (i := 26) rfl))) (by decide) (backOf (W := 0) (rm4_5 l Z a0 hw [] ob5 pp2 h0 n0 Z0 E_ob5 F_ob5_ordinal) hZ (hw _ (List.mem_of_getElem? (i := 28) rfl)) (hw _ (List.mem_of_getElem? (i := 6) rfl)) (by decide) (by decide)) q13a q13c (g := (mkF m 29 #[.val (.int pp1), .val (.int pp2), .val (.int (2 : Int32)), .val (.ref ob2), .val (.ref ob5)] [(.int pp2), (.ref ob5)])) rfl (by rw [hml]; rfl) (Steps.refl _) (argsL := [(.int pp2)]) (rest := []) (lenOf pd__28_I_29_Z rfl) rfl (by show 2 * 0 + _ ≤ _; exact Nat.le_of_eq rfl) (hb hby at_29) (fun _ _ => ⟨rfl, e12, (by decide : 0 + 0 ≤ _), (by decide : 0 + 0 ≤ _)⟩)
    dsimp only [Pt.U, Pt.locs, Pt.cells, Pt.slots] at X13 l13 y13 z13 st13 hQ13
    subst l13 y13 z13
    obtain ⟨rfl, N13q, e13⟩ := hQ13
    have N13 := Fr.app N12 N13q
    obtain ⟨cq14, kq14, q14a, q14b, q14c⟩ := isOf hZ e13 E_ob2
    obtain ⟨_, _, ⟨T14, L14, k14, n14⟩, -, X14, ⟨Lc14, hQ14, l14, y14, z14⟩, st14⟩ := X13.virtualBack hx (y := (⟨"com/example/guarded_stream/guardedstream/query/ComparisonOperator", "holds", "(I)Z"⟩ : MethodName)) (z := (⟨"com/example/guarded_stream/guardedstream/query/ComparisonOperator", "holds", "(I)Z"⟩ : MethodName)) hown (mvT hZ (hw _ (List.mem_of_getElem? (i := 24) rfl))) (mvT hZ (hw _ (List.mem_of_getElem? (i := 25) rfl))) (notFace_of_selects (args := #[]) (mvT hZ (hw _ (List.mem_of_getElem? (i := 27) rfl)))) (mvT hZ (hw _ (List.mem_of_getElem? (i := 27) rfl))) (mvT hZ (hw _ (List.mem_of_getElem? (i := 26) rfl))) (by decide) (backOf (W := 1) (rm4_2 l Z a0 hw [] ob2 pp2 h0 n0 Z0 E_ob2 F_ob2_ordinal) hZ (hw _ (List.mem_of_getElem? (i := 28) rfl)) (hw _ (List.mem_of_getElem? (i := 6) rfl)) (by decide) (by decide)) q14a q14c (g := (mkF m 34 #[.val (.int pp1), .val (.int pp2), .val (.int (2 : Int32)), .val (.ref ob2), .val (.ref ob5)] [(.int pp2), (.ref ob2), (.int (if pp2 < (0 : Int32) then (0 : Int32) else (1 : Int32)))])) rfl (by rw [hml]; rfl) (Steps.refl _) (argsL := [(.int pp2)]) (rest := [(.int (if pp2 < (0 : Int32) then (0 : Int32) else (1 : Int32)))]) (lenOf pd__28_I_29_Z rfl) rfl (by show 2 * 0 + _ ≤ _; exact Nat.le_of_eq rfl) (hb hby at_34) (fun _ _ => ⟨rfl, e13, (by decide : 0 + 0 ≤ _), (by decide : 0 + 0 ≤ _)⟩)
    dsimp only [Pt.U, Pt.locs, Pt.cells, Pt.slots] at X14 l14 y14 z14 st14 hQ14
    subst l14 y14 z14
    obtain ⟨rfl, N14q, e14⟩ := hQ14
    have N14 := Fr.app N13 N14q
    have hc37_3 : ¬ ((if pp2 < (0 : Int32) then (0 : Int32) else (1 : Int32)) = (if pp2 < (0 : Int32) then (1 : Int32) else (0 : Int32))) := (by split <;> decide)
    obtain ⟨fs, hr, hrun, hended, hW, hsame⟩ := X14.leave (v := some (.int (1 : Int32))) (fun h => by rw [Bd.returns] at h; cases h)
    refine ⟨_, _, pre2 _ ?_, hrun, hended, _, _, rfl, ?_, ⟨_, rfl⟩, hW, hsame.mono (by decide) (by decide)⟩
    · show Steps p.tables e below (s₁.setTop (mkF m 8 #[.val (.int pp1), .val (.int pp2), .val (.int (2 : Int32)), .unset, .unset] [])) _
      refine XS.iloadN X0.here hx rfl (hb hby at_8) rfl ?_
      show Steps p.tables e below (s₁.setTop (mkF m 9 #[.val (.int pp1), .val (.int pp2), .val (.int (2 : Int32)), .unset, .unset] [(.int (2 : Int32))])) _
      refine st11 _ ?_
      show Steps p.tables e below (T11.setTop (mkF m 12 #[.val (.int pp1), .val (.int pp2), .val (.int (2 : Int32)), .unset, .unset] [(.ref ob2)])) _
      refine XS.astoreN X11.here hx rfl (hb hby at_12) rfl rfl (l' := #[.val (.int pp1), .val (.int pp2), .val (.int (2 : Int32)), .val (.ref ob2), .unset]) rfl ?_
      show Steps p.tables e below (T11.setTop (mkF m 13 #[.val (.int pp1), .val (.int pp2), .val (.int (2 : Int32)), .val (.ref ob2), .unset] [])) _
      refine XS.aloadN X11.here hx rfl (hb hby at_13) rfl rfl ?_
      show Steps p.tables e below (T11.setTop (mkF m 14 #[.val (.int pp1), .val (.int pp2), .val (.int (2 : Int32)), .val (.ref ob2), .unset] [(.ref ob2)])) _
      refine st12.trans ?_
      show Steps p.tables e below (T12.setTop (mkF m 17 #[.val (.int pp1), .val (.int pp2), .val (.int (2 : Int32)), .val (.ref ob2), .unset] [(.ref ob5)])) _
      refine XS.astore X12.here hx rfl (hb hby at_17) rfl rfl (l' := #[.val (.int pp1), .val (.int pp2), .val (.int (2 : Int32)), .val (.ref ob2), .val (.ref ob5)]) rfl ?_
      show Steps p.tables e below (T12.setTop (mkF m 19 #[.val (.int pp1), .val (.int pp2), .val (.int (2 : Int32)), .val (.ref ob2), .val (.ref ob5)] [])) _
      refine XS.aload X12.here hx rfl (hb hby at_19) rfl rfl ?_
      show Steps p.tables e below (T12.setTop (mkF m 21 #[.val (.int pp1), .val (.int pp2), .val (.int (2 : Int32)), .val (.ref ob2), .val (.ref ob5)] [(.ref ob5)])) _
      refine XS.ifnonnullYes X12.here hx rfl (pc0 := 21) (pc' := 26) rfl (hb hby at_21) rfl (by decide) (by decide) ?_
      show Steps p.tables e below (T12.setTop (mkF m 26 #[.val (.int pp1), .val (.int pp2), .val (.int (2 : Int32)), .val (.ref ob2), .val (.ref ob5)] [])) _
      refine XS.aload X12.here hx rfl (hb hby at_26) rfl rfl ?_
      show Steps p.tables e below (T12.setTop (mkF m 28 #[.val (.int pp1), .val (.int pp2), .val (.int (2 : Int32)), .val (.ref ob2), .val (.ref ob5)] [(.ref ob5)])) _
      refine XS.iloadN X12.here hx rfl (hb hby at_28) rfl ?_
      show Steps p.tables e below (T12.setTop (mkF m 29 #[.val (.int pp1), .val (.int pp2), .val (.int (2 : Int32)), .val (.ref ob2), .val (.ref ob5)] [(.int pp2), (.ref ob5)])) _
      refine st13.trans ?_
      show Steps p.tables e below (T13.setTop (mkF m 32 #[.val (.int pp1), .val (.int pp2), .val (.int (2 : Int32)), .val (.ref ob2), .val (.ref ob5)] [(.int (if pp2 < (0 : Int32) then (0 : Int32) else (1 : Int32)))])) _
      refine XS.aloadN X13.here hx rfl (hb hby at_32) rfl rfl ?_
      show Steps p.tables e below (T13.setTop (mkF m 33 #[.val (.int pp1), .val (.int pp2), .val (.int (2 : Int32)), .val (.ref ob2), .val (.ref ob5)] [(.ref ob2), (.int (if pp2 < (0 : Int32) then (0 : Int32) else (1 : Int32)))])) _
      refine XS.iloadN X13.here hx rfl (hb hby at_33) rfl ?_
      show Steps p.tables e below (T13.setTop (mkF m 34 #[.val (.int pp1), .val (.int pp2), .val (.int (2 : Int32)), .val (.ref ob2), .val (.ref ob5)] [(.int pp2), (.ref ob2), (.int (if pp2 < (0 : Int32) then (0 : Int32) else (1 : Int32)))])) _
      refine st14.trans ?_
      show Steps p.tables e below (T14.setTop (mkF m 37 #[.val (.int pp1), .val (.int pp2), .val (.int (2 : Int32)), .val (.ref ob2), .val (.ref ob5)] [(.int (if pp2 < (0 : Int32) then (1 : Int32) else (0 : Int32))), (.int (if pp2 < (0 : Int32) then (0 : Int32) else (1 : Int32)))])) _
      refine XS.icmpNo X14.here hx rfl (hb hby at_37) rfl (feq hc37_3).1 ?_
      show Steps p.tables e below (T14.setTop (mkF m 40 #[.val (.int pp1), .val (.int pp2), .val (.int (2 : Int32)), .val (.ref ob2), .val (.ref ob5)] [])) _
      refine XS.iconst X14.here hx rfl (hb hby at_40) ?_
      show Steps p.tables e below (T14.setTop (mkF m 41 #[.val (.int pp1), .val (.int pp2), .val (.int (2 : Int32)), .val (.ref ob2), .val (.ref ob5)] [(.int (1 : Int32))])) _
      refine XS.goto X14.here hx rfl (pc0 := 41) (pc' := 45) rfl (hb hby at_41) (by decide) (by decide) ?_
      show Steps p.tables e below (T14.setTop (mkF m 45 #[.val (.int pp1), .val (.int pp2), .val (.int (2 : Int32)), .val (.ref ob2), .val (.ref ob5)] [(.int (1 : Int32))])) _
      exact retN X14 hx (t := .boolean) Bd.returns (by simp) (hb hby at_45) hr
    · show Q0 Z pp1 pp2 ob0 ob1 ob2 ob3 ob4 ob5 h0 n0 _ T14.heap _
      rw [e14]
      exact ⟨rfl, N14⟩
  · skip
    obtain ⟨_, _, ⟨T15, L15, k15, n15⟩, -, X15, ⟨Lc15, hQ15, l15, y15, z15⟩, st15⟩ := Jvm.LawKit.callS X0 hx (y := (⟨"com/example/guarded_stream/guardedstream/query/ComparisonOperatorNegatedPinLaw", "pick", "(I)Lcom/example/guarded_stream/guardedstream/query/ComparisonOperator;"⟩ : MethodName)) hown (mvT hZ (hw _ (List.mem_of_getElem? (i := 1) rfl))) (mvT hZ (hw _ (List.mem_of_getElem? (i := 2) rfl))) (mvT hZ (hw _ (List.mem_of_getElem? (i := 3) rfl))) (mvT hZ (hw _ (List.mem_of_getElem? (i := 4) rfl))) (by decide) (backOf (W := 0) (rm1_3 l Z a0 hw [] ob0 ob1 ob2 ob3 ob4 ob5 h0 n0 Z0 O0 S_EQUAL S_NOT_EQUAL S_LESS S_LESS_OR_EQUAL S_GREATER S_GREATER_OR_EQUAL) hZ (hw _ (List.mem_of_getElem? (i := 4) rfl)) (hw _ (List.mem_of_getElem? (i := 3) rfl)) (by decide) (by decide)) (g := (mkF m 9 #[.val (.int pp1), .val (.int pp2), .val (.int (3 : Int32)), .unset, .unset] [(.int (3 : Int32))])) rfl (by rw [hml]; rfl) (argsL := [(.int (3 : Int32))]) (rest := []) (lenOf pd__28_I_29_Lcom_2f_example_2f_guarded_stream_2f_guardedstream_2f_query_2f_ComparisonOperator_3b_ rfl) rfl (by show 2 * 0 + _ ≤ _; exact Nat.le_of_eq rfl) (hb hby at_9) (fun _ _ => ⟨rfl, e0, (by decide : 0 + 0 ≤ _), (by decide : 0 + 0 ≤ _)⟩)
    dsimp only [Pt.U, Pt.locs, Pt.cells, Pt.slots] at X15 l15 y15 z15 st15 hQ15
    subst l15 y15 z15
    obtain ⟨rfl, N15q, e15⟩ := hQ15
    have N15 := Fr.app N0 N15q
    obtain ⟨cq16, kq16, q16a, q16b, q16c⟩ := isOf hZ e15 E_ob3
    obtain ⟨_, _, ⟨T16, L16, k16, n16⟩, -, X16, ⟨Lc16, hQ16, l16, y16, z16⟩, st16⟩ := X15.virtualBack hx (y := (⟨"com/example/guarded_stream/guardedstream/query/ComparisonOperator", "negated", "()Lcom/example/guarded_stream/guardedstream/query/ComparisonOperator;"⟩ : MethodName)) (z := (⟨"com/example/guarded_stream/guardedstream/query/ComparisonOperator", "negated", "()Lcom/example/guarded_stream/guardedstream/query/ComparisonOperator;"⟩ : MethodName)) hown (mvT hZ (hw _ (List.mem_of_getElem? (i := 8) rfl))) (mvT hZ (hw _ (List.mem_of_getElem? (i := 9) rfl))) (notFace_of_selects (args := #[]) (mvT hZ (hw _ (List.mem_of_getElem? (i := 11) rfl)))) (mvT hZ (hw _ (List.mem_of_getElem? (i := 11) rfl))) (mvT hZ (hw _ (List.mem_of_getElem? (i := 10) rfl))) (by decide) (backOf (W := 0) (rm2_3 l Z a0 hw [] ob3 ob0 ob1 ob2 ob3 ob4 ob5 h0 n0 Z0 E_ob3 F_ob3_ordinal O0 S_EQUAL S_NOT_EQUAL S_LESS S_LESS_OR_EQUAL S_GREATER S_GREATER_OR_EQUAL) hZ (hw _ (List.mem_of_getElem? (i := 12) rfl)) (hw _ (List.mem_of_getElem? (i := 6) rfl)) (by decide) (by decide)) q16a q16c (g := (mkF m 14 #[.val (.int pp1), .val (.int pp2), .val (.int (3 : Int32)), .val (.ref ob3), .unset] [(.ref ob3)])) rfl (by rw [hml]; rfl) (Steps.refl _) (argsL := []) (rest := []) (lenOf pd__28__29_Lcom_2f_example_2f_guarded_stream_2f_guardedstream_2f_query_2f_ComparisonOperator_3b_ rfl) rfl (by show 2 * 0 + _ ≤ _; exact Nat.le_of_eq rfl) (hb hby at_14) (fun _ _ => ⟨rfl, e15, (by decide : 0 + 0 ≤ _), (by decide : 0 + 0 ≤ _)⟩)
    dsimp only [Pt.U, Pt.locs, Pt.cells, Pt.slots] at X16 l16 y16 z16 st16 hQ16
    subst l16 y16 z16
    obtain ⟨rfl, N16q, e16⟩ := hQ16
    have N16 := Fr.app N15 N16q
    obtain ⟨cq17, kq17, q17a, q17b, q17c⟩ := isOf hZ e16 E_ob4
    obtain ⟨_, _, ⟨T17, L17, k17, n17⟩, -, X17, ⟨Lc17, hQ17, l17, y17, z17⟩, st17⟩ := X16.virtualBack hx (y := (⟨"com/example/guarded_stream/guardedstream/query/ComparisonOperator", "holds", "(I)Z"⟩ : MethodName)) (z := (⟨"com/example/guarded_stream/guardedstream/query/ComparisonOperator", "holds", "(I)Z"⟩ : MethodName)) hown (mvT hZ (hw _ (List.mem_of_getElem? (i := 24) rfl))) (mvT hZ (hw _ (List.mem_of_getElem? (i := 25) rfl))) (notFace_of_selects (args := #[]) (mvT hZ (hw _ (List.mem_of_getElem? (i := 27) rfl)))) (mvT hZ (hw _ (List.mem_of_getElem? (i := 27) rfl))) (mvT hZ (hw _ (List.mem_of_getElem? (i := 26) rfl))) (by decide) (backOf (W := 0) (rm4_4 l Z a0 hw [] ob4 pp2 h0 n0 Z0 E_ob4 F_ob4_ordinal) hZ (hw _ (List.mem_of_getElem? (i := 28) rfl)) (hw _ (List.mem_of_getElem? (i := 6) rfl)) (by decide) (by decide)) q17a q17c (g := (mkF m 29 #[.val (.int pp1), .val (.int pp2), .val (.int (3 : Int32)), .val (.ref ob3), .val (.ref ob4)] [(.int pp2), (.ref ob4)])) rfl (by rw [hml]; rfl) (Steps.refl _) (argsL := [(.int pp2)]) (rest := []) (lenOf pd__28_I_29_Z rfl) rfl (by show 2 * 0 + _ ≤ _; exact Nat.le_of_eq rfl) (hb hby at_29) (fun _ _ => ⟨rfl, e16, (by decide : 0 + 0 ≤ _), (by decide : 0 + 0 ≤ _)⟩)
    dsimp only [Pt.U, Pt.locs, Pt.cells, Pt.slots] at X17 l17 y17 z17 st17 hQ17
    subst l17 y17 z17
    obtain ⟨rfl, N17q, e17⟩ := hQ17
    have N17 := Fr.app N16 N17q
    obtain ⟨cq18, kq18, q18a, q18b, q18c⟩ := isOf hZ e17 E_ob3
    obtain ⟨_, _, ⟨T18, L18, k18, n18⟩, -, X18, ⟨Lc18, hQ18, l18, y18, z18⟩, st18⟩ := X17.virtualBack hx (y := (⟨"com/example/guarded_stream/guardedstream/query/ComparisonOperator", "holds", "(I)Z"⟩ : MethodName)) (z := (⟨"com/example/guarded_stream/guardedstream/query/ComparisonOperator", "holds", "(I)Z"⟩ : MethodName)) hown (mvT hZ (hw _ (List.mem_of_getElem? (i := 24) rfl))) (mvT hZ (hw _ (List.mem_of_getElem? (i := 25) rfl))) (notFace_of_selects (args := #[]) (mvT hZ (hw _ (List.mem_of_getElem? (i := 27) rfl)))) (mvT hZ (hw _ (List.mem_of_getElem? (i := 27) rfl))) (mvT hZ (hw _ (List.mem_of_getElem? (i := 26) rfl))) (by decide) (backOf (W := 1) (rm4_3 l Z a0 hw [] ob3 pp2 h0 n0 Z0 E_ob3 F_ob3_ordinal) hZ (hw _ (List.mem_of_getElem? (i := 28) rfl)) (hw _ (List.mem_of_getElem? (i := 6) rfl)) (by decide) (by decide)) q18a q18c (g := (mkF m 34 #[.val (.int pp1), .val (.int pp2), .val (.int (3 : Int32)), .val (.ref ob3), .val (.ref ob4)] [(.int pp2), (.ref ob3), (.int (if (0 : Int32) < pp2 then (1 : Int32) else (0 : Int32)))])) rfl (by rw [hml]; rfl) (Steps.refl _) (argsL := [(.int pp2)]) (rest := [(.int (if (0 : Int32) < pp2 then (1 : Int32) else (0 : Int32)))]) (lenOf pd__28_I_29_Z rfl) rfl (by show 2 * 0 + _ ≤ _; exact Nat.le_of_eq rfl) (hb hby at_34) (fun _ _ => ⟨rfl, e17, (by decide : 0 + 0 ≤ _), (by decide : 0 + 0 ≤ _)⟩)
    dsimp only [Pt.U, Pt.locs, Pt.cells, Pt.slots] at X18 l18 y18 z18 st18 hQ18
    subst l18 y18 z18
    obtain ⟨rfl, N18q, e18⟩ := hQ18
    have N18 := Fr.app N17 N18q
    have hc37_4 : ¬ ((if (0 : Int32) < pp2 then (1 : Int32) else (0 : Int32)) = (if (0 : Int32) < pp2 then (0 : Int32) else (1 : Int32))) := (by split <;> decide)
    obtain ⟨fs, hr, hrun, hended, hW, hsame⟩ := X18.leave (v := some (.int (1 : Int32))) (fun h => by rw [Bd.returns] at h; cases h)
    refine ⟨_, _, pre2 _ ?_, hrun, hended, _, _, rfl, ?_, ⟨_, rfl⟩, hW, hsame.mono (by decide) (by decide)⟩
    · show Steps p.tables e below (s₁.setTop (mkF m 8 #[.val (.int pp1), .val (.int pp2), .val (.int (3 : Int32)), .unset, .unset] [])) _
      refine XS.iloadN X0.here hx rfl (hb hby at_8) rfl ?_
      show Steps p.tables e below (s₁.setTop (mkF m 9 #[.val (.int pp1), .val (.int pp2), .val (.int (3 : Int32)), .unset, .unset] [(.int (3 : Int32))])) _
      refine st15 _ ?_
      show Steps p.tables e below (T15.setTop (mkF m 12 #[.val (.int pp1), .val (.int pp2), .val (.int (3 : Int32)), .unset, .unset] [(.ref ob3)])) _
      refine XS.astoreN X15.here hx rfl (hb hby at_12) rfl rfl (l' := #[.val (.int pp1), .val (.int pp2), .val (.int (3 : Int32)), .val (.ref ob3), .unset]) rfl ?_
      show Steps p.tables e below (T15.setTop (mkF m 13 #[.val (.int pp1), .val (.int pp2), .val (.int (3 : Int32)), .val (.ref ob3), .unset] [])) _
      refine XS.aloadN X15.here hx rfl (hb hby at_13) rfl rfl ?_
      show Steps p.tables e below (T15.setTop (mkF m 14 #[.val (.int pp1), .val (.int pp2), .val (.int (3 : Int32)), .val (.ref ob3), .unset] [(.ref ob3)])) _
      refine st16.trans ?_
      show Steps p.tables e below (T16.setTop (mkF m 17 #[.val (.int pp1), .val (.int pp2), .val (.int (3 : Int32)), .val (.ref ob3), .unset] [(.ref ob4)])) _
      refine XS.astore X16.here hx rfl (hb hby at_17) rfl rfl (l' := #[.val (.int pp1), .val (.int pp2), .val (.int (3 : Int32)), .val (.ref ob3), .val (.ref ob4)]) rfl ?_
      show Steps p.tables e below (T16.setTop (mkF m 19 #[.val (.int pp1), .val (.int pp2), .val (.int (3 : Int32)), .val (.ref ob3), .val (.ref ob4)] [])) _
      refine XS.aload X16.here hx rfl (hb hby at_19) rfl rfl ?_
      show Steps p.tables e below (T16.setTop (mkF m 21 #[.val (.int pp1), .val (.int pp2), .val (.int (3 : Int32)), .val (.ref ob3), .val (.ref ob4)] [(.ref ob4)])) _
      refine XS.ifnonnullYes X16.here hx rfl (pc0 := 21) (pc' := 26) rfl (hb hby at_21) rfl (by decide) (by decide) ?_
      show Steps p.tables e below (T16.setTop (mkF m 26 #[.val (.int pp1), .val (.int pp2), .val (.int (3 : Int32)), .val (.ref ob3), .val (.ref ob4)] [])) _
      refine XS.aload X16.here hx rfl (hb hby at_26) rfl rfl ?_
      show Steps p.tables e below (T16.setTop (mkF m 28 #[.val (.int pp1), .val (.int pp2), .val (.int (3 : Int32)), .val (.ref ob3), .val (.ref ob4)] [(.ref ob4)])) _
      refine XS.iloadN X16.here hx rfl (hb hby at_28) rfl ?_
      show Steps p.tables e below (T16.setTop (mkF m 29 #[.val (.int pp1), .val (.int pp2), .val (.int (3 : Int32)), .val (.ref ob3), .val (.ref ob4)] [(.int pp2), (.ref ob4)])) _
      refine st17.trans ?_
      show Steps p.tables e below (T17.setTop (mkF m 32 #[.val (.int pp1), .val (.int pp2), .val (.int (3 : Int32)), .val (.ref ob3), .val (.ref ob4)] [(.int (if (0 : Int32) < pp2 then (1 : Int32) else (0 : Int32)))])) _
      refine XS.aloadN X17.here hx rfl (hb hby at_32) rfl rfl ?_
      show Steps p.tables e below (T17.setTop (mkF m 33 #[.val (.int pp1), .val (.int pp2), .val (.int (3 : Int32)), .val (.ref ob3), .val (.ref ob4)] [(.ref ob3), (.int (if (0 : Int32) < pp2 then (1 : Int32) else (0 : Int32)))])) _
      refine XS.iloadN X17.here hx rfl (hb hby at_33) rfl ?_
      show Steps p.tables e below (T17.setTop (mkF m 34 #[.val (.int pp1), .val (.int pp2), .val (.int (3 : Int32)), .val (.ref ob3), .val (.ref ob4)] [(.int pp2), (.ref ob3), (.int (if (0 : Int32) < pp2 then (1 : Int32) else (0 : Int32)))])) _
      refine st18.trans ?_
      show Steps p.tables e below (T18.setTop (mkF m 37 #[.val (.int pp1), .val (.int pp2), .val (.int (3 : Int32)), .val (.ref ob3), .val (.ref ob4)] [(.int (if (0 : Int32) < pp2 then (0 : Int32) else (1 : Int32))), (.int (if (0 : Int32) < pp2 then (1 : Int32) else (0 : Int32)))])) _
      refine XS.icmpNo X18.here hx rfl (hb hby at_37) rfl (feq hc37_4).1 ?_
      show Steps p.tables e below (T18.setTop (mkF m 40 #[.val (.int pp1), .val (.int pp2), .val (.int (3 : Int32)), .val (.ref ob3), .val (.ref ob4)] [])) _
      refine XS.iconst X18.here hx rfl (hb hby at_40) ?_
      show Steps p.tables e below (T18.setTop (mkF m 41 #[.val (.int pp1), .val (.int pp2), .val (.int (3 : Int32)), .val (.ref ob3), .val (.ref ob4)] [(.int (1 : Int32))])) _
      refine XS.goto X18.here hx rfl (pc0 := 41) (pc' := 45) rfl (hb hby at_41) (by decide) (by decide) ?_
      show Steps p.tables e below (T18.setTop (mkF m 45 #[.val (.int pp1), .val (.int pp2), .val (.int (3 : Int32)), .val (.ref ob3), .val (.ref ob4)] [(.int (1 : Int32))])) _
      exact retN X18 hx (t := .boolean) Bd.returns (by simp) (hb hby at_45) hr
    · show Q0 Z pp1 pp2 ob0 ob1 ob2 ob3 ob4 ob5 h0 n0 _ T18.heap _
      rw [e18]
      exact ⟨rfl, N18⟩
  · skip
    obtain ⟨_, _, ⟨T19, L19, k19, n19⟩, -, X19, ⟨Lc19, hQ19, l19, y19, z19⟩, st19⟩ := Jvm.LawKit.callS X0 hx (y := (⟨"com/example/guarded_stream/guardedstream/query/ComparisonOperatorNegatedPinLaw", "pick", "(I)Lcom/example/guarded_stream/guardedstream/query/ComparisonOperator;"⟩ : MethodName)) hown (mvT hZ (hw _ (List.mem_of_getElem? (i := 1) rfl))) (mvT hZ (hw _ (List.mem_of_getElem? (i := 2) rfl))) (mvT hZ (hw _ (List.mem_of_getElem? (i := 3) rfl))) (mvT hZ (hw _ (List.mem_of_getElem? (i := 4) rfl))) (by decide) (backOf (W := 0) (rm1_4 l Z a0 hw [] ob0 ob1 ob2 ob3 ob4 ob5 h0 n0 Z0 O0 S_EQUAL S_NOT_EQUAL S_LESS S_LESS_OR_EQUAL S_GREATER S_GREATER_OR_EQUAL) hZ (hw _ (List.mem_of_getElem? (i := 4) rfl)) (hw _ (List.mem_of_getElem? (i := 3) rfl)) (by decide) (by decide)) (g := (mkF m 9 #[.val (.int pp1), .val (.int pp2), .val (.int (4 : Int32)), .unset, .unset] [(.int (4 : Int32))])) rfl (by rw [hml]; rfl) (argsL := [(.int (4 : Int32))]) (rest := []) (lenOf pd__28_I_29_Lcom_2f_example_2f_guarded_stream_2f_guardedstream_2f_query_2f_ComparisonOperator_3b_ rfl) rfl (by show 2 * 0 + _ ≤ _; exact Nat.le_of_eq rfl) (hb hby at_9) (fun _ _ => ⟨rfl, e0, (by decide : 0 + 0 ≤ _), (by decide : 0 + 0 ≤ _)⟩)
    dsimp only [Pt.U, Pt.locs, Pt.cells, Pt.slots] at X19 l19 y19 z19 st19 hQ19
    subst l19 y19 z19
    obtain ⟨rfl, N19q, e19⟩ := hQ19
    have N19 := Fr.app N0 N19q
    obtain ⟨cq20, kq20, q20a, q20b, q20c⟩ := isOf hZ e19 E_ob4
    obtain ⟨_, _, ⟨T20, L20, k20, n20⟩, -, X20, ⟨Lc20, hQ20, l20, y20, z20⟩, st20⟩ := X19.virtualBack hx (y := (⟨"com/example/guarded_stream/guardedstream/query/ComparisonOperator", "negated", "()Lcom/example/guarded_stream/guardedstream/query/ComparisonOperator;"⟩ : MethodName)) (z := (⟨"com/example/guarded_stream/guardedstream/query/ComparisonOperator", "negated", "()Lcom/example/guarded_stream/guardedstream/query/ComparisonOperator;"⟩ : MethodName)) hown (mvT hZ (hw _ (List.mem_of_getElem? (i := 8) rfl))) (mvT hZ (hw _ (List.mem_of_getElem? (i := 9) rfl))) (notFace_of_selects (args := #[]) (mvT hZ (hw _ (List.mem_of_getElem? (i := 11) rfl)))) (mvT hZ (hw _ (List.mem_of_getElem? (i := 11) rfl))) (mvT hZ (hw _ (List.mem_of_getElem? (i := 10) rfl))) (by decide) (backOf (W := 0) (rm2_4 l Z a0 hw [] ob4 ob0 ob1 ob2 ob3 ob4 ob5 h0 n0 Z0 E_ob4 F_ob4_ordinal O0 S_EQUAL S_NOT_EQUAL S_LESS S_LESS_OR_EQUAL S_GREATER S_GREATER_OR_EQUAL) hZ (hw _ (List.mem_of_getElem? (i := 12) rfl)) (hw _ (List.mem_of_getElem? (i := 6) rfl)) (by decide) (by decide)) q20a q20c (g := (mkF m 14 #[.val (.int pp1), .val (.int pp2), .val (.int (4 : Int32)), .val (.ref ob4), .unset] [(.ref ob4)])) rfl (by rw [hml]; rfl) (Steps.refl _) (argsL := []) (rest := []) (lenOf pd__28__29_Lcom_2f_example_2f_guarded_stream_2f_guardedstream_2f_query_2f_ComparisonOperator_3b_ rfl) rfl (by show 2 * 0 + _ ≤ _; exact Nat.le_of_eq rfl) (hb hby at_14) (fun _ _ => ⟨rfl, e19, (by decide : 0 + 0 ≤ _), (by decide : 0 + 0 ≤ _)⟩)
    dsimp only [Pt.U, Pt.locs, Pt.cells, Pt.slots] at X20 l20 y20 z20 st20 hQ20
    subst l20 y20 z20
    obtain ⟨rfl, N20q, e20⟩ := hQ20
    have N20 := Fr.app N19 N20q
    obtain ⟨cq21, kq21, q21a, q21b, q21c⟩ := isOf hZ e20 E_ob3
    obtain ⟨_, _, ⟨T21, L21, k21, n21⟩, -, X21, ⟨Lc21, hQ21, l21, y21, z21⟩, st21⟩ := X20.virtualBack hx (y := (⟨"com/example/guarded_stream/guardedstream/query/ComparisonOperator", "holds", "(I)Z"⟩ : MethodName)) (z := (⟨"com/example/guarded_stream/guardedstream/query/ComparisonOperator", "holds", "(I)Z"⟩ : MethodName)) hown (mvT hZ (hw _ (List.mem_of_getElem? (i := 24) rfl))) (mvT hZ (hw _ (List.mem_of_getElem? (i := 25) rfl))) (notFace_of_selects (args := #[]) (mvT hZ (hw _ (List.mem_of_getElem? (i := 27) rfl)))) (mvT hZ (hw _ (List.mem_of_getElem? (i := 27) rfl))) (mvT hZ (hw _ (List.mem_of_getElem? (i := 26) rfl))) (by decide) (backOf (W := 0) (rm4_3 l Z a0 hw [] ob3 pp2 h0 n0 Z0 E_ob3 F_ob3_ordinal) hZ (hw _ (List.mem_of_getElem? (i := 28) rfl)) (hw _ (List.mem_of_getElem? (i := 6) rfl)) (by decide) (by decide)) q21a q21c (g := (mkF m 29 #[.val (.int pp1), .val (.int pp2), .val (.int (4 : Int32)), .val (.ref ob4), .val (.ref ob3)] [(.int pp2), (.ref ob3)])) rfl (by rw [hml]; rfl) (Steps.refl _) (argsL := [(.int pp2)]) (rest := []) (lenOf pd__28_I_29_Z rfl) rfl (by show 2 * 0 + _ ≤ _; exact Nat.le_of_eq rfl) (hb hby at_29) (fun _ _ => ⟨rfl, e20, (by decide : 0 + 0 ≤ _), (by decide : 0 + 0 ≤ _)⟩)
    dsimp only [Pt.U, Pt.locs, Pt.cells, Pt.slots] at X21 l21 y21 z21 st21 hQ21
    subst l21 y21 z21
    obtain ⟨rfl, N21q, e21⟩ := hQ21
    have N21 := Fr.app N20 N21q
    obtain ⟨cq22, kq22, q22a, q22b, q22c⟩ := isOf hZ e21 E_ob4
    obtain ⟨_, _, ⟨T22, L22, k22, n22⟩, -, X22, ⟨Lc22, hQ22, l22, y22, z22⟩, st22⟩ := X21.virtualBack hx (y := (⟨"com/example/guarded_stream/guardedstream/query/ComparisonOperator", "holds", "(I)Z"⟩ : MethodName)) (z := (⟨"com/example/guarded_stream/guardedstream/query/ComparisonOperator", "holds", "(I)Z"⟩ : MethodName)) hown (mvT hZ (hw _ (List.mem_of_getElem? (i := 24) rfl))) (mvT hZ (hw _ (List.mem_of_getElem? (i := 25) rfl))) (notFace_of_selects (args := #[]) (mvT hZ (hw _ (List.mem_of_getElem? (i := 27) rfl)))) (mvT hZ (hw _ (List.mem_of_getElem? (i := 27) rfl))) (mvT hZ (hw _ (List.mem_of_getElem? (i := 26) rfl))) (by decide) (backOf (W := 1) (rm4_4 l Z a0 hw [] ob4 pp2 h0 n0 Z0 E_ob4 F_ob4_ordinal) hZ (hw _ (List.mem_of_getElem? (i := 28) rfl)) (hw _ (List.mem_of_getElem? (i := 6) rfl)) (by decide) (by decide)) q22a q22c (g := (mkF m 34 #[.val (.int pp1), .val (.int pp2), .val (.int (4 : Int32)), .val (.ref ob4), .val (.ref ob3)] [(.int pp2), (.ref ob4), (.int (if (0 : Int32) < pp2 then (0 : Int32) else (1 : Int32)))])) rfl (by rw [hml]; rfl) (Steps.refl _) (argsL := [(.int pp2)]) (rest := [(.int (if (0 : Int32) < pp2 then (0 : Int32) else (1 : Int32)))]) (lenOf pd__28_I_29_Z rfl) rfl (by show 2 * 0 + _ ≤ _; exact Nat.le_of_eq rfl) (hb hby at_34) (fun _ _ => ⟨rfl, e21, (by decide : 0 + 0 ≤ _), (by decide : 0 + 0 ≤ _)⟩)
    dsimp only [Pt.U, Pt.locs, Pt.cells, Pt.slots] at X22 l22 y22 z22 st22 hQ22
    subst l22 y22 z22
    obtain ⟨rfl, N22q, e22⟩ := hQ22
    have N22 := Fr.app N21 N22q
    have hc37_5 : ¬ ((if (0 : Int32) < pp2 then (0 : Int32) else (1 : Int32)) = (if (0 : Int32) < pp2 then (1 : Int32) else (0 : Int32))) := (by split <;> decide)
    obtain ⟨fs, hr, hrun, hended, hW, hsame⟩ := X22.leave (v := some (.int (1 : Int32))) (fun h => by rw [Bd.returns] at h; cases h)
    refine ⟨_, _, pre2 _ ?_, hrun, hended, _, _, rfl, ?_, ⟨_, rfl⟩, hW, hsame.mono (by decide) (by decide)⟩
    · show Steps p.tables e below (s₁.setTop (mkF m 8 #[.val (.int pp1), .val (.int pp2), .val (.int (4 : Int32)), .unset, .unset] [])) _
      refine XS.iloadN X0.here hx rfl (hb hby at_8) rfl ?_
      show Steps p.tables e below (s₁.setTop (mkF m 9 #[.val (.int pp1), .val (.int pp2), .val (.int (4 : Int32)), .unset, .unset] [(.int (4 : Int32))])) _
      refine st19 _ ?_
      show Steps p.tables e below (T19.setTop (mkF m 12 #[.val (.int pp1), .val (.int pp2), .val (.int (4 : Int32)), .unset, .unset] [(.ref ob4)])) _
      refine XS.astoreN X19.here hx rfl (hb hby at_12) rfl rfl (l' := #[.val (.int pp1), .val (.int pp2), .val (.int (4 : Int32)), .val (.ref ob4), .unset]) rfl ?_
      show Steps p.tables e below (T19.setTop (mkF m 13 #[.val (.int pp1), .val (.int pp2), .val (.int (4 : Int32)), .val (.ref ob4), .unset] [])) _
      refine XS.aloadN X19.here hx rfl (hb hby at_13) rfl rfl ?_
      show Steps p.tables e below (T19.setTop (mkF m 14 #[.val (.int pp1), .val (.int pp2), .val (.int (4 : Int32)), .val (.ref ob4), .unset] [(.ref ob4)])) _
      refine st20.trans ?_
      show Steps p.tables e below (T20.setTop (mkF m 17 #[.val (.int pp1), .val (.int pp2), .val (.int (4 : Int32)), .val (.ref ob4), .unset] [(.ref ob3)])) _
      refine XS.astore X20.here hx rfl (hb hby at_17) rfl rfl (l' := #[.val (.int pp1), .val (.int pp2), .val (.int (4 : Int32)), .val (.ref ob4), .val (.ref ob3)]) rfl ?_
      show Steps p.tables e below (T20.setTop (mkF m 19 #[.val (.int pp1), .val (.int pp2), .val (.int (4 : Int32)), .val (.ref ob4), .val (.ref ob3)] [])) _
      refine XS.aload X20.here hx rfl (hb hby at_19) rfl rfl ?_
      show Steps p.tables e below (T20.setTop (mkF m 21 #[.val (.int pp1), .val (.int pp2), .val (.int (4 : Int32)), .val (.ref ob4), .val (.ref ob3)] [(.ref ob3)])) _
      refine XS.ifnonnullYes X20.here hx rfl (pc0 := 21) (pc' := 26) rfl (hb hby at_21) rfl (by decide) (by decide) ?_
      show Steps p.tables e below (T20.setTop (mkF m 26 #[.val (.int pp1), .val (.int pp2), .val (.int (4 : Int32)), .val (.ref ob4), .val (.ref ob3)] [])) _
      refine XS.aload X20.here hx rfl (hb hby at_26) rfl rfl ?_
      show Steps p.tables e below (T20.setTop (mkF m 28 #[.val (.int pp1), .val (.int pp2), .val (.int (4 : Int32)), .val (.ref ob4), .val (.ref ob3)] [(.ref ob3)])) _
      refine XS.iloadN X20.here hx rfl (hb hby at_28) rfl ?_
      show Steps p.tables e below (T20.setTop (mkF m 29 #[.val (.int pp1), .val (.int pp2), .val (.int (4 : Int32)), .val (.ref ob4), .val (.ref ob3)] [(.int pp2), (.ref ob3)])) _
      refine st21.trans ?_
      show Steps p.tables e below (T21.setTop (mkF m 32 #[.val (.int pp1), .val (.int pp2), .val (.int (4 : Int32)), .val (.ref ob4), .val (.ref ob3)] [(.int (if (0 : Int32) < pp2 then (0 : Int32) else (1 : Int32)))])) _
      refine XS.aloadN X21.here hx rfl (hb hby at_32) rfl rfl ?_
      show Steps p.tables e below (T21.setTop (mkF m 33 #[.val (.int pp1), .val (.int pp2), .val (.int (4 : Int32)), .val (.ref ob4), .val (.ref ob3)] [(.ref ob4), (.int (if (0 : Int32) < pp2 then (0 : Int32) else (1 : Int32)))])) _
      refine XS.iloadN X21.here hx rfl (hb hby at_33) rfl ?_
      show Steps p.tables e below (T21.setTop (mkF m 34 #[.val (.int pp1), .val (.int pp2), .val (.int (4 : Int32)), .val (.ref ob4), .val (.ref ob3)] [(.int pp2), (.ref ob4), (.int (if (0 : Int32) < pp2 then (0 : Int32) else (1 : Int32)))])) _
      refine st22.trans ?_
      show Steps p.tables e below (T22.setTop (mkF m 37 #[.val (.int pp1), .val (.int pp2), .val (.int (4 : Int32)), .val (.ref ob4), .val (.ref ob3)] [(.int (if (0 : Int32) < pp2 then (1 : Int32) else (0 : Int32))), (.int (if (0 : Int32) < pp2 then (0 : Int32) else (1 : Int32)))])) _
      refine XS.icmpNo X22.here hx rfl (hb hby at_37) rfl (feq hc37_5).1 ?_
      show Steps p.tables e below (T22.setTop (mkF m 40 #[.val (.int pp1), .val (.int pp2), .val (.int (4 : Int32)), .val (.ref ob4), .val (.ref ob3)] [])) _
      refine XS.iconst X22.here hx rfl (hb hby at_40) ?_
      show Steps p.tables e below (T22.setTop (mkF m 41 #[.val (.int pp1), .val (.int pp2), .val (.int (4 : Int32)), .val (.ref ob4), .val (.ref ob3)] [(.int (1 : Int32))])) _
      refine XS.goto X22.here hx rfl (pc0 := 41) (pc' := 45) rfl (hb hby at_41) (by decide) (by decide) ?_
      show Steps p.tables e below (T22.setTop (mkF m 45 #[.val (.int pp1), .val (.int pp2), .val (.int (4 : Int32)), .val (.ref ob4), .val (.ref ob3)] [(.int (1 : Int32))])) _
      exact retN X22 hx (t := .boolean) Bd.returns (by simp) (hb hby at_45) hr
    · show Q0 Z pp1 pp2 ob0 ob1 ob2 ob3 ob4 ob5 h0 n0 _ T22.heap _
      rw [e22]
      exact ⟨rfl, N22⟩
  · skip
    obtain ⟨_, _, ⟨T23, L23, k23, n23⟩, -, X23, ⟨Lc23, hQ23, l23, y23, z23⟩, st23⟩ := Jvm.LawKit.callS X0 hx (y := (⟨"com/example/guarded_stream/guardedstream/query/ComparisonOperatorNegatedPinLaw", "pick", "(I)Lcom/example/guarded_stream/guardedstream/query/ComparisonOperator;"⟩ : MethodName)) hown (mvT hZ (hw _ (List.mem_of_getElem? (i := 1) rfl))) (mvT hZ (hw _ (List.mem_of_getElem? (i := 2) rfl))) (mvT hZ (hw _ (List.mem_of_getElem? (i := 3) rfl))) (mvT hZ (hw _ (List.mem_of_getElem? (i := 4) rfl))) (by decide) (backOf (W := 0) (rm1_5 l Z a0 hw [] ob0 ob1 ob2 ob3 ob4 ob5 h0 n0 Z0 O0 S_EQUAL S_NOT_EQUAL S_LESS S_LESS_OR_EQUAL S_GREATER S_GREATER_OR_EQUAL) hZ (hw _ (List.mem_of_getElem? (i := 4) rfl)) (hw _ (List.mem_of_getElem? (i := 3) rfl)) (by decide) (by decide)) (g := (mkF m 9 #[.val (.int pp1), .val (.int pp2), .val (.int (5 : Int32)), .unset, .unset] [(.int (5 : Int32))])) rfl (by rw [hml]; rfl) (argsL := [(.int (5 : Int32))]) (rest := []) (lenOf pd__28_I_29_Lcom_2f_example_2f_guarded_stream_2f_guardedstream_2f_query_2f_ComparisonOperator_3b_ rfl) rfl (by show 2 * 0 + _ ≤ _; exact Nat.le_of_eq rfl) (hb hby at_9) (fun _ _ => ⟨rfl, e0, (by decide : 0 + 0 ≤ _), (by decide : 0 + 0 ≤ _)⟩)
    dsimp only [Pt.U, Pt.locs, Pt.cells, Pt.slots] at X23 l23 y23 z23 st23 hQ23
    subst l23 y23 z23
    obtain ⟨rfl, N23q, e23⟩ := hQ23
    have N23 := Fr.app N0 N23q
    obtain ⟨cq24, kq24, q24a, q24b, q24c⟩ := isOf hZ e23 E_ob5
    obtain ⟨_, _, ⟨T24, L24, k24, n24⟩, -, X24, ⟨Lc24, hQ24, l24, y24, z24⟩, st24⟩ := X23.virtualBack hx (y := (⟨"com/example/guarded_stream/guardedstream/query/ComparisonOperator", "negated", "()Lcom/example/guarded_stream/guardedstream/query/ComparisonOperator;"⟩ : MethodName)) (z := (⟨"com/example/guarded_stream/guardedstream/query/ComparisonOperator", "negated", "()Lcom/example/guarded_stream/guardedstream/query/ComparisonOperator;"⟩ : MethodName)) hown (mvT hZ (hw _ (List.mem_of_getElem? (i := 8) rfl))) (mvT hZ (hw _ (List.mem_of_getElem? (i := 9) rfl))) (notFace_of_selects (args := #[]) (mvT hZ (hw _ (List.mem_of_getElem? (i := 11) rfl)))) (mvT hZ (hw _ (List.mem_of_getElem? (i := 11) rfl))) (mvT hZ (hw _ (List.mem_of_getElem? (i := 10) rfl))) (by decide) (backOf (W := 0) (rm2_5 l Z a0 hw [] ob5 ob0 ob1 ob2 ob3 ob4 ob5 h0 n0 Z0 E_ob5 F_ob5_ordinal O0 S_EQUAL S_NOT_EQUAL S_LESS S_LESS_OR_EQUAL S_GREATER S_GREATER_OR_EQUAL) hZ (hw _ (List.mem_of_getElem? (i := 12) rfl)) (hw _ (List.mem_of_getElem? (i := 6) rfl)) (by decide) (by decide)) q24a q24c (g := (mkF m 14 #[.val (.int pp1), .val (.int pp2), .val (.int (5 : Int32)), .val (.ref ob5), .unset] [(.ref ob5)])) rfl (by rw [hml]; rfl) (Steps.refl _) (argsL := []) (rest := []) (lenOf pd__28__29_Lcom_2f_example_2f_guarded_stream_2f_guardedstream_2f_query_2f_ComparisonOperator_3b_ rfl) rfl (by show 2 * 0 + _ ≤ _; exact Nat.le_of_eq rfl) (hb hby at_14) (fun _ _ => ⟨rfl, e23, (by decide : 0 + 0 ≤ _), (by decide : 0 + 0 ≤ _)⟩)
    dsimp only [Pt.U, Pt.locs, Pt.cells, Pt.slots] at X24 l24 y24 z24 st24 hQ24
    subst l24 y24 z24
    obtain ⟨rfl, N24q, e24⟩ := hQ24
    have N24 := Fr.app N23 N24q
    obtain ⟨cq25, kq25, q25a, q25b, q25c⟩ := isOf hZ e24 E_ob2
    obtain ⟨_, _, ⟨T25, L25, k25, n25⟩, -, X25, ⟨Lc25, hQ25, l25, y25, z25⟩, st25⟩ := X24.virtualBack hx (y := (⟨"com/example/guarded_stream/guardedstream/query/ComparisonOperator", "holds", "(I)Z"⟩ : MethodName)) (z := (⟨"com/example/guarded_stream/guardedstream/query/ComparisonOperator", "holds", "(I)Z"⟩ : MethodName)) hown (mvT hZ (hw _ (List.mem_of_getElem? (i := 24) rfl))) (mvT hZ (hw _ (List.mem_of_getElem? (i := 25) rfl))) (notFace_of_selects (args := #[]) (mvT hZ (hw _ (List.mem_of_getElem? (i := 27) rfl)))) (mvT hZ (hw _ (List.mem_of_getElem? (i := 27) rfl))) (mvT hZ (hw _ (List.mem_of_getElem? (i := 26) rfl))) (by decide) (backOf (W := 0) (rm4_2 l Z a0 hw [] ob2 pp2 h0 n0 Z0 E_ob2 F_ob2_ordinal) hZ (hw _ (List.mem_of_getElem? (i := 28) rfl)) (hw _ (List.mem_of_getElem? (i := 6) rfl)) (by decide) (by decide)) q25a q25c (g := (mkF m 29 #[.val (.int pp1), .val (.int pp2), .val (.int (5 : Int32)), .val (.ref ob5), .val (.ref ob2)] [(.int pp2), (.ref ob2)])) rfl (by rw [hml]; rfl) (Steps.refl _) (argsL := [(.int pp2)]) (rest := []) (lenOf pd__28_I_29_Z rfl) rfl (by show 2 * 0 + _ ≤ _; exact Nat.le_of_eq rfl) (hb hby at_29) (fun _ _ => ⟨rfl, e24, (by decide : 0 + 0 ≤ _), (by decide : 0 + 0 ≤ _)⟩)
    dsimp only [Pt.U, Pt.locs, Pt.cells, Pt.slots] at X25 l25 y25 z25 st25 hQ25
    subst l25 y25 z25
    obtain ⟨rfl, N25q, e25⟩ := hQ25
    have N25 := Fr.app N24 N25q
    obtain ⟨cq26, kq26, q26a, q26b, q26c⟩ := isOf hZ e25 E_ob5
    obtain ⟨_, _, ⟨T26, L26, k26, n26⟩, -, X26, ⟨Lc26, hQ26, l26, y26, z26⟩, st26⟩ := X25.virtualBack hx (y := (⟨"com/example/guarded_stream/guardedstream/query/ComparisonOperator", "holds", "(I)Z"⟩ : MethodName)) (z := (⟨"com/example/guarded_stream/guardedstream/query/ComparisonOperator", "holds", "(I)Z"⟩ : MethodName)) hown (mvT hZ (hw _ (List.mem_of_getElem? (i := 24) rfl))) (mvT hZ (hw _ (List.mem_of_getElem? (i := 25) rfl))) (notFace_of_selects (args := #[]) (mvT hZ (hw _ (List.mem_of_getElem? (i := 27) rfl)))) (mvT hZ (hw _ (List.mem_of_getElem? (i := 27) rfl))) (mvT hZ (hw _ (List.mem_of_getElem? (i := 26) rfl))) (by decide) (backOf (W := 1) (rm4_5 l Z a0 hw [] ob5 pp2 h0 n0 Z0 E_ob5 F_ob5_ordinal) hZ (hw _ (List.mem_of_getElem? (i := 28) rfl)) (hw _ (List.mem_of_getElem? (i := 6) rfl)) (by decide) (by decide)) q26a q26c (g := (mkF m 34 #[.val (.int pp1), .val (.int pp2), .val (.int (5 : Int32)), .val (.ref ob5), .val (.ref ob2)] [(.int pp2), (.ref ob5), (.int (if pp2 < (0 : Int32) then (1 : Int32) else (0 : Int32)))])) rfl (by rw [hml]; rfl) (Steps.refl _) (argsL := [(.int pp2)]) (rest := [(.int (if pp2 < (0 : Int32) then (1 : Int32) else (0 : Int32)))]) (lenOf pd__28_I_29_Z rfl) rfl (by show 2 * 0 + _ ≤ _; exact Nat.le_of_eq rfl) (hb hby at_34) (fun _ _ => ⟨rfl, e25, (by decide : 0 + 0 ≤ _), (by decide : 0 + 0 ≤ _)⟩)
    dsimp only [Pt.U, Pt.locs, Pt.cells, Pt.slots] at X26 l26 y26 z26 st26 hQ26
    subst l26 y26 z26
    obtain ⟨rfl, N26q, e26⟩ := hQ26
    have N26 := Fr.app N25 N26q
    have hc37_6 : ¬ ((if pp2 < (0 : Int32) then (1 : Int32) else (0 : Int32)) = (if pp2 < (0 : Int32) then (0 : Int32) else (1 : Int32))) := (by split <;> decide)
    obtain ⟨fs, hr, hrun, hended, hW, hsame⟩ := X26.leave (v := some (.int (1 : Int32))) (fun h => by rw [Bd.returns] at h; cases h)
    refine ⟨_, _, pre2 _ ?_, hrun, hended, _, _, rfl, ?_, ⟨_, rfl⟩, hW, hsame.mono (by decide) (by decide)⟩
    · show Steps p.tables e below (s₁.setTop (mkF m 8 #[.val (.int pp1), .val (.int pp2), .val (.int (5 : Int32)), .unset, .unset] [])) _
      refine XS.iloadN X0.here hx rfl (hb hby at_8) rfl ?_
      show Steps p.tables e below (s₁.setTop (mkF m 9 #[.val (.int pp1), .val (.int pp2), .val (.int (5 : Int32)), .unset, .unset] [(.int (5 : Int32))])) _
      refine st23 _ ?_
      show Steps p.tables e below (T23.setTop (mkF m 12 #[.val (.int pp1), .val (.int pp2), .val (.int (5 : Int32)), .unset, .unset] [(.ref ob5)])) _
      refine XS.astoreN X23.here hx rfl (hb hby at_12) rfl rfl (l' := #[.val (.int pp1), .val (.int pp2), .val (.int (5 : Int32)), .val (.ref ob5), .unset]) rfl ?_
      show Steps p.tables e below (T23.setTop (mkF m 13 #[.val (.int pp1), .val (.int pp2), .val (.int (5 : Int32)), .val (.ref ob5), .unset] [])) _
      refine XS.aloadN X23.here hx rfl (hb hby at_13) rfl rfl ?_
      show Steps p.tables e below (T23.setTop (mkF m 14 #[.val (.int pp1), .val (.int pp2), .val (.int (5 : Int32)), .val (.ref ob5), .unset] [(.ref ob5)])) _
      refine st24.trans ?_
      show Steps p.tables e below (T24.setTop (mkF m 17 #[.val (.int pp1), .val (.int pp2), .val (.int (5 : Int32)), .val (.ref ob5), .unset] [(.ref ob2)])) _
      refine XS.astore X24.here hx rfl (hb hby at_17) rfl rfl (l' := #[.val (.int pp1), .val (.int pp2), .val (.int (5 : Int32)), .val (.ref ob5), .val (.ref ob2)]) rfl ?_
      show Steps p.tables e below (T24.setTop (mkF m 19 #[.val (.int pp1), .val (.int pp2), .val (.int (5 : Int32)), .val (.ref ob5), .val (.ref ob2)] [])) _
      refine XS.aload X24.here hx rfl (hb hby at_19) rfl rfl ?_
      show Steps p.tables e below (T24.setTop (mkF m 21 #[.val (.int pp1), .val (.int pp2), .val (.int (5 : Int32)), .val (.ref ob5), .val (.ref ob2)] [(.ref ob2)])) _
      refine XS.ifnonnullYes X24.here hx rfl (pc0 := 21) (pc' := 26) rfl (hb hby at_21) rfl (by decide) (by decide) ?_
      show Steps p.tables e below (T24.setTop (mkF m 26 #[.val (.int pp1), .val (.int pp2), .val (.int (5 : Int32)), .val (.ref ob5), .val (.ref ob2)] [])) _
      refine XS.aload X24.here hx rfl (hb hby at_26) rfl rfl ?_
      show Steps p.tables e below (T24.setTop (mkF m 28 #[.val (.int pp1), .val (.int pp2), .val (.int (5 : Int32)), .val (.ref ob5), .val (.ref ob2)] [(.ref ob2)])) _
      refine XS.iloadN X24.here hx rfl (hb hby at_28) rfl ?_
      show Steps p.tables e below (T24.setTop (mkF m 29 #[.val (.int pp1), .val (.int pp2), .val (.int (5 : Int32)), .val (.ref ob5), .val (.ref ob2)] [(.int pp2), (.ref ob2)])) _
      refine st25.trans ?_
      show Steps p.tables e below (T25.setTop (mkF m 32 #[.val (.int pp1), .val (.int pp2), .val (.int (5 : Int32)), .val (.ref ob5), .val (.ref ob2)] [(.int (if pp2 < (0 : Int32) then (1 : Int32) else (0 : Int32)))])) _
      refine XS.aloadN X25.here hx rfl (hb hby at_32) rfl rfl ?_
      show Steps p.tables e below (T25.setTop (mkF m 33 #[.val (.int pp1), .val (.int pp2), .val (.int (5 : Int32)), .val (.ref ob5), .val (.ref ob2)] [(.ref ob5), (.int (if pp2 < (0 : Int32) then (1 : Int32) else (0 : Int32)))])) _
      refine XS.iloadN X25.here hx rfl (hb hby at_33) rfl ?_
      show Steps p.tables e below (T25.setTop (mkF m 34 #[.val (.int pp1), .val (.int pp2), .val (.int (5 : Int32)), .val (.ref ob5), .val (.ref ob2)] [(.int pp2), (.ref ob5), (.int (if pp2 < (0 : Int32) then (1 : Int32) else (0 : Int32)))])) _
      refine st26.trans ?_
      show Steps p.tables e below (T26.setTop (mkF m 37 #[.val (.int pp1), .val (.int pp2), .val (.int (5 : Int32)), .val (.ref ob5), .val (.ref ob2)] [(.int (if pp2 < (0 : Int32) then (0 : Int32) else (1 : Int32))), (.int (if pp2 < (0 : Int32) then (1 : Int32) else (0 : Int32)))])) _
      refine XS.icmpNo X26.here hx rfl (hb hby at_37) rfl (feq hc37_6).1 ?_
      show Steps p.tables e below (T26.setTop (mkF m 40 #[.val (.int pp1), .val (.int pp2), .val (.int (5 : Int32)), .val (.ref ob5), .val (.ref ob2)] [])) _
      refine XS.iconst X26.here hx rfl (hb hby at_40) ?_
      show Steps p.tables e below (T26.setTop (mkF m 41 #[.val (.int pp1), .val (.int pp2), .val (.int (5 : Int32)), .val (.ref ob5), .val (.ref ob2)] [(.int (1 : Int32))])) _
      refine XS.goto X26.here hx rfl (pc0 := 41) (pc' := 45) rfl (hb hby at_41) (by decide) (by decide) ?_
      show Steps p.tables e below (T26.setTop (mkF m 45 #[.val (.int pp1), .val (.int pp2), .val (.int (5 : Int32)), .val (.ref ob5), .val (.ref ob2)] [(.int (1 : Int32))])) _
      exact retN X26 hx (t := .boolean) Bd.returns (by simp) (hb hby at_45) hr
    · show Q0 Z pp1 pp2 ob0 ob1 ob2 ob3 ob4 ob5 h0 n0 _ T26.heap _
      rw [e26]
      exact ⟨rfl, N26⟩
set_option maxRecDepth 65536 in
set_option maxHeartbeats 40000000 in
theorem comes_1 {Post : Tables → Env → Array Value → State → Outcome → State → Prop} (hpost : ∀ tb e args s v u, (limb_1_1.after args s (.returned v) u = true ∧ limb_1_2.after args s (.returned v) u = true ∧ True) → FrameEnd s (.returned v) u (Jvm.fieldLocs frame_1_writes args s ++ Jvm.arrayLocs frame_1_arrays args s ++ Jvm.staticLocs frame_1_statics s) 0 0 → Post tb e args s (.returned v) u) :
    ArmFor flags0 classFile x code maxLocals ret World_1 tables_1 room_1 Calls_1 rest_1 Pre_1 Post := by
  intro l hfl _ _ p e ha hc hk s m args below hf hA hF happ hP
  obtain ⟨hcalls, hrest, hpre⟩ := hP
  obtain ⟨-, -, -, hnamed, -, -, -, hat⟩ := (Spec.applies_iff hf).mp happ
  obtain ⟨hg, hn⟩ := and_e (Cond.before_iff.mp (show (Jvm.Cond.and given_1 narrow_1).before args s = true from hpre))
  obtain ⟨g1, g2⟩ := and_e hg
  obtain ⟨g3, g4⟩ := and_e g2
  obtain ⟨w0, w1, rfl⟩ : ∃ w0 w1 : Value, args = #[w0, w1] := by
    have hs : args.size = 2 := by simpa [Cond.value, given_1] using g1
    obtain ⟨L⟩ := args
    match L, hs with
    | [w0, w1], _ => exact ⟨w0, w1, rfl⟩
  have hw := fun d (hd : d ∈ tables_1) => atoms_spec (ws := Jvm.Cond.code x code maxLocals ret :: tables_1) hat d (List.mem_cons_of_mem _ hd)
  have hfit : Fit s := fun {y c} hc i hi => by
    obtain ⟨ha, rfl⟩ := Array.getElem?_eq_some_iff.mp hc
    have q := List.all_eq_true.mp ((Array.all_eq_true_iff_forall_mem.mp hF) _ (Array.getElem_mem ha)) i (List.mem_range.mpr hi)
    simpa [Array.getElem?_eq_getElem hi] using q
  obtain ⟨i0, ei0⟩ := is_v g3
  obtain rfl : w0 = (.int i0) := Option.some.inj ei0
  obtain ⟨i1, ei1⟩ := is_v g4
  obtain rfl : w1 = (.int i1) := Option.some.inj ei1
  obtain ⟨na1, nb1⟩ := and_e hn
  obtain ⟨na2, nb2⟩ := and_e nb1
  obtain ⟨na3, nb3⟩ := and_e nb2
  obtain ⟨na4, nb4⟩ := and_e nb3
  obtain ⟨na5, nb5⟩ := and_e nb4
  obtain ⟨na6, nb6⟩ := and_e nb5
  obtain ⟨na7, nb7⟩ := and_e nb6
  obtain ⟨na8, nb8⟩ := and_e nb7
  obtain ⟨na9, nb9⟩ := and_e nb8
  obtain ⟨na10, nb10⟩ := and_e nb9
  obtain ⟨na11, nb11⟩ := and_e nb10
  obtain ⟨x_EQUAL, ev_EQUAL⟩ := exa_v na1
  have sta_EQUAL := Sta.start ev_EQUAL (Or.inr ⟨(hw _ (List.mem_of_getElem? (i := 6) rfl)), (hw _ (List.mem_of_getElem? (i := 7) rfl))⟩)
  have exa_EQUAL := Exa.start ev_EQUAL na1
  have fld_EQUAL_ordinal := Fld.start (own_feq ev_EQUAL na2)
  obtain ⟨x_NOT_EQUAL, ev_NOT_EQUAL⟩ := exa_v na3
  have sta_NOT_EQUAL := Sta.start ev_NOT_EQUAL (Or.inr ⟨(hw _ (List.mem_of_getElem? (i := 6) rfl)), (hw _ (List.mem_of_getElem? (i := 23) rfl))⟩)
  have exa_NOT_EQUAL := Exa.start ev_NOT_EQUAL na3
  have fld_NOT_EQUAL_ordinal := Fld.start (own_feq ev_NOT_EQUAL na4)
  obtain ⟨x_LESS, ev_LESS⟩ := exa_v na5
  have sta_LESS := Sta.start ev_LESS (Or.inr ⟨(hw _ (List.mem_of_getElem? (i := 6) rfl)), (hw _ (List.mem_of_getElem? (i := 30) rfl))⟩)
  have exa_LESS := Exa.start ev_LESS na5
  have fld_LESS_ordinal := Fld.start (own_feq ev_LESS na6)
  obtain ⟨x_LESS_OR_EQUAL, ev_LESS_OR_EQUAL⟩ := exa_v na11
  have sta_LESS_OR_EQUAL := Sta.start ev_LESS_OR_EQUAL (Or.inr ⟨(hw _ (List.mem_of_getElem? (i := 6) rfl)), (hw _ (List.mem_of_getElem? (i := 36) rfl))⟩)
  have exa_LESS_OR_EQUAL := Exa.start ev_LESS_OR_EQUAL na11
  have fld_LESS_OR_EQUAL_ordinal := Fld.start (own_feq ev_LESS_OR_EQUAL nb11)
  obtain ⟨x_GREATER, ev_GREATER⟩ := exa_v na9
  have sta_GREATER := Sta.start ev_GREATER (Or.inr ⟨(hw _ (List.mem_of_getElem? (i := 6) rfl)), (hw _ (List.mem_of_getElem? (i := 34) rfl))⟩)
  have exa_GREATER := Exa.start ev_GREATER na9
  have fld_GREATER_ordinal := Fld.start (own_feq ev_GREATER na10)
  obtain ⟨x_GREATER_OR_EQUAL, ev_GREATER_OR_EQUAL⟩ := exa_v na7
  have sta_GREATER_OR_EQUAL := Sta.start ev_GREATER_OR_EQUAL (Or.inr ⟨(hw _ (List.mem_of_getElem? (i := 6) rfl)), (hw _ (List.mem_of_getElem? (i := 32) rfl))⟩)
  have exa_GREATER_OR_EQUAL := Exa.start ev_GREATER_OR_EQUAL na7
  have fld_GREATER_OR_EQUAL_ordinal := Fld.start (own_feq ev_GREATER_OR_EQUAL na8)
  obtain ⟨n, o, h1, h2, h3, _, L, rfl, ⟨rfl, N⟩, hq⟩ := rm0 l s _ hw tables_1 i0 i1 x_EQUAL x_NOT_EQUAL x_LESS x_LESS_OR_EQUAL x_GREATER x_GREATER_OR_EQUAL s.heap s.heap.size (Nat.le_refl _) (Old.start s) sta_EQUAL sta_NOT_EQUAL sta_LESS sta_LESS_OR_EQUAL sta_GREATER sta_GREATER_OR_EQUAL exa_EQUAL exa_NOT_EQUAL exa_LESS exa_LESS_OR_EQUAL exa_GREATER exa_GREATER_OR_EQUAL fld_EQUAL_ordinal fld_NOT_EQUAL_ordinal fld_LESS_ordinal fld_LESS_OR_EQUAL_ordinal fld_GREATER_ordinal fld_GREATER_OR_EQUAL_ordinal p e ha hc hk s m _ below hf ((Spec.applies_iff_loose hf).mp happ).1 ⟨rfl, State.Warmed39.refl s, rfl⟩ trivial
  refine ⟨n, _, h1, h2, h3, hpost _ _ _ _ _ _ ⟨Cond.after_iff.mpr rfl, Cond.after_iff.mpr (eq_i res_at (Term.int_eval (1)) rfl), trivial⟩ ⟨hq.1, hq.2.1, (hq.2.2.sift fun y hy => Or.inr (N y hy)).mono (by decide) (by decide)⟩⟩
theorem main_1_1 : Claimed_1_1 := comes_1 fun _ _ _ _ _ _ h hF => ⟨h.1, hF⟩
theorem main_1_2 : Claimed_1_2 := comes_1 fun _ _ _ _ _ _ h hF => ⟨h.2.1, hF⟩
end Jvm.Pilot.@@N@@
namespace Jvm.Pilot.@@N@@
open Jvm Jvm.ClassFile Sem Op Lib Jvm.Free Jvm.Stand Jvm.Pilot.@@N@@.Jvm.D
/-! MADE BY PROGRAM (witnessworld.py) out of the Statement's table words and the real class files: 12 classes; the members and pool entries that the words name. The judged class is class 1, her method 1. -/
namespace start1
open Jvm.ClassFile
def u (s : String) : CpInfo := .utf8 (stringToUtf16 s)
/-- a pool by its gaps: so many unusable entries, then the entry; so many at the end -/
def gap : Nat → List CpInfo → List CpInfo
  | 0, r => r
  | n + 1, r => .unusable :: gap n r
def poolList (es : List (Nat × CpInfo)) (last : Nat) : List CpInfo := es.foldr (fun e r => gap e.1 (e.2 :: r)) (gap last [])
def pool (es : List (Nat × CpInfo)) (last : Nat) : Array CpInfo := ⟨poolList es last⟩
def fileOf (pool : Array CpInfo) (this : Nat) (attrs : Array Attribute := #[]) (ms : Array MethodInfo := #[]) (fl : Nat := 33) (sup : Nat := 0) (ifs : Array Nat := #[]) (fds : Array FieldInfo := #[]) : ClassFile where
  minorVersion := 0
  majorVersion := 65
  constantPool := pool
  accessFlags := fl
  thisClass := this
  superClass := sup
  interfaces := ifs
  fields := fds
  methods := ms
  attributes := attrs
def plain (name : String) (sup : Option ClassId) : Class where
  name := name
  kind := .ordinary
  loader := none
  accessFlags := 33
  super := sup
  interfaces := #[]
  cf := none
  fields := #[]
  methods := #[]
  instanceTypes := #[]
  staticTypes := #[]
  resolved := #[]
  callSites := []
  init := .initialized
  statics := none
  mirror := none

def pool0 : Array CpInfo := pool [(5, u "<init>"), (0, u "()V"), (1, .class_ 10), (1, u "java/lang/Object")] 113

def k0m0 : Method := { name := "<init>", desc := "()V", sig := { parameters := [], returnType := none }, accessFlags := 1, code := none }
/-- java/lang/Object -/
def k0 : Class := { plain "java/lang/Object" none with
  accessFlags := 33
  interfaces := #[]
  cf := some (fileOf pool0 8 #[] #[{ accessFlags := 1, nameIndex := 5, descriptorIndex := 6, attributes := #[] }] 33 0 #[] #[])
  fields := #[]
  methods := #[k0m0]
  instanceTypes := #[]
  staticTypes := #[]
  resolved := Array.replicate 124 none
  statics := none }

def pool1 : Array CpInfo := pool [(2, .class_ 4), (1, u "java/lang/Object"), (0, u "<init>"), (0, u "()V"), (0, .integer 2147483647), (0, .methodref 9 10), (0, .class_ 11), (0, .nameAndType 12 13), (0, u "com/example/guarded_stream/guardedstream/query/ComparisonOperatorNegatedPinLaw"), (0, u "pick"), (0, u "(I)Lcom/example/guarded_stream/guardedstream/query/ComparisonOperator;"), (0, .methodref 15 16), (0, .class_ 17), (0, .nameAndType 18 19), (0, u "com/example/guarded_stream/guardedstream/query/ComparisonOperator"), (0, u "negated"), (0, u "()Lcom/example/guarded_stream/guardedstream/query/ComparisonOperator;"), (0, .methodref 15 21), (0, .nameAndType 22 23), (0, u "holds"), (0, u "(I)Z"), (0, .fieldref 15 25), (0, .nameAndType 26 27), (0, u "EQUAL"), (0, u "Lcom/example/guarded_stream/guardedstream/query/ComparisonOperator;"), (0, .fieldref 15 29), (0, .nameAndType 30 27), (0, u "NOT_EQUAL"), (0, .fieldref 15 32), (0, .nameAndType 33 27), (0, u "LESS"), (0, .fieldref 15 35), (0, .nameAndType 36 27), (0, u "LESS_OR_EQUAL"), (0, .fieldref 15 38), (0, .nameAndType 39 27), (0, u "GREATER"), (0, .fieldref 15 41), (0, .nameAndType 42 27), (0, u "GREATER_OR_EQUAL"), (2, u "law"), (0, u "(II)Z")] 3

def k1m0 : Method := { name := "<init>", desc := "()V", sig := { parameters := [], returnType := none }, accessFlags := 2, code := none }
def k1c1 : Code := { maxStack := 3, maxLocals := 5, code := code, exceptionTable := #[], attributes := #[] }
def k1m1 : Method := { name := "law", desc := "(II)Z", sig := { parameters := [.int, .int], returnType := some .boolean }, accessFlags := 9, code := some k1c1 }
def k1c2 : Code := { maxStack := 2, maxLocals := 1, code := method_3_code, exceptionTable := #[], attributes := #[] }
def k1m2 : Method := { name := "pick", desc := "(I)Lcom/example/guarded_stream/guardedstream/query/ComparisonOperator;", sig := { parameters := [.int], returnType := some (.object "com/example/guarded_stream/guardedstream/query/ComparisonOperator") }, accessFlags := 10, code := some k1c2 }
/-- com/example/guarded_stream/guardedstream/query/ComparisonOperatorNegatedPinLaw -/
def k1 : Class := { plain "com/example/guarded_stream/guardedstream/query/ComparisonOperatorNegatedPinLaw" (some 0) with
  accessFlags := 49
  interfaces := #[]
  cf := some (fileOf pool1 9 #[] #[{ accessFlags := 2, nameIndex := 5, descriptorIndex := 6, attributes := #[] }, { accessFlags := 9, nameIndex := 45, descriptorIndex := 46, attributes := #[] }, { accessFlags := 10, nameIndex := 12, descriptorIndex := 13, attributes := #[] }] 49 2 #[] #[])
  fields := #[]
  methods := #[k1m0, k1m1, k1m2]
  instanceTypes := #[]
  staticTypes := #[]
  resolved := Array.replicate 50 none
  statics := none }

def pool2 : Array CpInfo := pool [(1, .class_ 2), (0, u "java/lang/constant/Constable"), (0, .class_ 4), (0, u "java/lang/Object")] 6

/-- java/lang/constant/Constable -/
def k2 : Class := { plain "java/lang/constant/Constable" (some 0) with
  accessFlags := 1537
  interfaces := #[]
  cf := some (fileOf pool2 1 #[] #[] 1537 3 #[] #[])
  fields := #[]
  methods := #[]
  instanceTypes := #[]
  staticTypes := #[]
  resolved := Array.replicate 11 none
  statics := none }

def pool3 : Array CpInfo := pool [(1, .class_ 2), (0, u "java/lang/Comparable"), (0, .class_ 4), (0, u "java/lang/Object")] 7

/-- java/lang/Comparable -/
def k3 : Class := { plain "java/lang/Comparable" (some 0) with
  accessFlags := 1537
  interfaces := #[]
  cf := some (fileOf pool3 1 #[] #[] 1537 3 #[] #[])
  fields := #[]
  methods := #[]
  instanceTypes := #[]
  staticTypes := #[]
  resolved := Array.replicate 12 none
  statics := none }

def pool4 : Array CpInfo := pool [(1, .class_ 2), (0, u "java/io/Serializable"), (0, .class_ 4), (0, u "java/lang/Object")] 2

/-- java/io/Serializable -/
def k4 : Class := { plain "java/io/Serializable" (some 0) with
  accessFlags := 1537
  interfaces := #[]
  cf := some (fileOf pool4 1 #[] #[] 1537 3 #[] #[])
  fields := #[]
  methods := #[]
  instanceTypes := #[]
  staticTypes := #[]
  resolved := Array.replicate 7 none
  statics := none }

def pool5 : Array CpInfo := pool [(2, .class_ 4), (1, u "java/lang/Enum"), (0, u "name"), (0, u "Ljava/lang/String;"), (0, .fieldref 2 8), (0, .nameAndType 9 10), (0, u "ordinal"), (0, u "I"), (1, .class_ 14), (1, u "java/lang/Object"), (4, u "hash"), (86, .class_ 108), (1, u "java/lang/Enum$EnumDesc"), (2, .class_ 112), (0, u "java/lang/constant/Constable"), (0, .class_ 114), (0, u "java/lang/Comparable"), (0, .class_ 116), (0, u "java/io/Serializable"), (9, u "()I")] 77

def k5c0 : Code := { maxStack := 1, maxLocals := 1, code := jdk_37_method_2_code, exceptionTable := #[], attributes := #[] }
def k5m0 : Method := { name := "ordinal", desc := "()I", sig := { parameters := [], returnType := some .int }, accessFlags := 17, code := some k5c0 }
/-- java/lang/Enum -/
def k5 : Class := { plain "java/lang/Enum" (some 0) with
  accessFlags := 1057
  interfaces := #[2, 3, 4]
  cf := some (fileOf pool5 2 #[.nestMembers #[106]] #[{ accessFlags := 17, nameIndex := 9, descriptorIndex := 126, attributes := #[] }] 1057 12 #[111, 113, 115] #[{ accessFlags := 18, nameIndex := 5, descriptorIndex := 6, attributes := #[] }, { accessFlags := 18, nameIndex := 9, descriptorIndex := 10, attributes := #[] }, { accessFlags := 2, nameIndex := 19, descriptorIndex := 10, attributes := #[] }])
  fields := #[{ name := "name", type := (.object "java/lang/String"), accessFlags := 18, slot := 0, constantValue := 0 }, { name := "ordinal", type := .int, accessFlags := 18, slot := 1, constantValue := 0 }, { name := "hash", type := .int, accessFlags := 2, slot := 2, constantValue := 0 }]
  methods := #[k5m0]
  instanceTypes := #[(.object "java/lang/String"), .int, .int]
  staticTypes := #[]
  resolved := Array.replicate 204 none
  statics := none }

def pool6 : Array CpInfo := pool [(1, .class_ 2), (0, u "com/example/guarded_stream/guardedstream/query/ComparisonOperator"), (0, .fieldref 1 4), (0, .nameAndType 5 6), (0, u "EQUAL"), (0, u "Lcom/example/guarded_stream/guardedstream/query/ComparisonOperator;"), (0, .fieldref 1 8), (0, .nameAndType 9 6), (0, u "NOT_EQUAL"), (0, .fieldref 1 11), (0, .nameAndType 12 6), (0, u "LESS"), (0, .fieldref 1 14), (0, .nameAndType 15 6), (0, u "LESS_OR_EQUAL"), (0, .fieldref 1 17), (0, .nameAndType 18 6), (0, u "GREATER"), (0, .fieldref 1 20), (0, .nameAndType 21 6), (0, u "GREATER_OR_EQUAL"), (2, u "$VALUES"), (0, u "[Lcom/example/guarded_stream/guardedstream/query/ComparisonOperator;"), (6, .class_ 34), (1, u "java/lang/Enum"), (8, u "symbol"), (0, u "Ljava/lang/String;"), (10, .methodref 1 56), (0, .nameAndType 57 58), (0, u "ordinal"), (0, u "()I"), (37, u "holds"), (0, u "(I)Z"), (0, u "negated"), (0, u "()Lcom/example/guarded_stream/guardedstream/query/ComparisonOperator;")] 7

def k6c0 : Code := { maxStack := 3, maxLocals := 2, code := prog_18_method_5_code, exceptionTable := #[], attributes := #[] }
def k6m0 : Method := { name := "holds", desc := "(I)Z", sig := { parameters := [.int], returnType := some .boolean }, accessFlags := 0, code := some k6c0 }
def k6c1 : Code := { maxStack := 3, maxLocals := 1, code := prog_18_method_6_code, exceptionTable := #[], attributes := #[] }
def k6m1 : Method := { name := "negated", desc := "()Lcom/example/guarded_stream/guardedstream/query/ComparisonOperator;", sig := { parameters := [], returnType := some (.object "com/example/guarded_stream/guardedstream/query/ComparisonOperator") }, accessFlags := 0, code := some k6c1 }
/-- com/example/guarded_stream/guardedstream/query/ComparisonOperator -/
def k6 : Class := { plain "com/example/guarded_stream/guardedstream/query/ComparisonOperator" (some 5) with
  accessFlags := 16432
  interfaces := #[]
  cf := some (fileOf pool6 1 #[] #[{ accessFlags := 0, nameIndex := 96, descriptorIndex := 97, attributes := #[] }, { accessFlags := 0, nameIndex := 98, descriptorIndex := 99, attributes := #[] }] 16432 32 #[] #[{ accessFlags := 16409, nameIndex := 5, descriptorIndex := 6, attributes := #[] }, { accessFlags := 16409, nameIndex := 9, descriptorIndex := 6, attributes := #[] }, { accessFlags := 16409, nameIndex := 12, descriptorIndex := 6, attributes := #[] }, { accessFlags := 16409, nameIndex := 15, descriptorIndex := 6, attributes := #[] }, { accessFlags := 16409, nameIndex := 18, descriptorIndex := 6, attributes := #[] }, { accessFlags := 16409, nameIndex := 21, descriptorIndex := 6, attributes := #[] }, { accessFlags := 18, nameIndex := 43, descriptorIndex := 44, attributes := #[] }, { accessFlags := 4122, nameIndex := 24, descriptorIndex := 25, attributes := #[] }])
  fields := #[{ name := "EQUAL", type := (.object "com/example/guarded_stream/guardedstream/query/ComparisonOperator"), accessFlags := 16409, slot := 0, constantValue := 0 }, { name := "NOT_EQUAL", type := (.object "com/example/guarded_stream/guardedstream/query/ComparisonOperator"), accessFlags := 16409, slot := 1, constantValue := 0 }, { name := "LESS", type := (.object "com/example/guarded_stream/guardedstream/query/ComparisonOperator"), accessFlags := 16409, slot := 2, constantValue := 0 }, { name := "LESS_OR_EQUAL", type := (.object "com/example/guarded_stream/guardedstream/query/ComparisonOperator"), accessFlags := 16409, slot := 3, constantValue := 0 }, { name := "GREATER", type := (.object "com/example/guarded_stream/guardedstream/query/ComparisonOperator"), accessFlags := 16409, slot := 4, constantValue := 0 }, { name := "GREATER_OR_EQUAL", type := (.object "com/example/guarded_stream/guardedstream/query/ComparisonOperator"), accessFlags := 16409, slot := 5, constantValue := 0 }, { name := "symbol", type := (.object "java/lang/String"), accessFlags := 18, slot := 3, constantValue := 0 }, { name := "$VALUES", type := (.array (.object "com/example/guarded_stream/guardedstream/query/ComparisonOperator")), accessFlags := 4122, slot := 6, constantValue := 0 }]
  methods := #[k6m0, k6m1]
  instanceTypes := #[(.object "java/lang/String"), .int, .int, (.object "java/lang/String")]
  staticTypes := #[(.object "com/example/guarded_stream/guardedstream/query/ComparisonOperator"), (.object "com/example/guarded_stream/guardedstream/query/ComparisonOperator"), (.object "com/example/guarded_stream/guardedstream/query/ComparisonOperator"), (.object "com/example/guarded_stream/guardedstream/query/ComparisonOperator"), (.object "com/example/guarded_stream/guardedstream/query/ComparisonOperator"), (.object "com/example/guarded_stream/guardedstream/query/ComparisonOperator"), (.array (.object "com/example/guarded_stream/guardedstream/query/ComparisonOperator"))]
  resolved := Array.replicate 107 none
  statics := some 0 }

def pool7 : Array CpInfo := pool [(1, u "java/lang/Cloneable"), (0, .class_ 1), (0, u "java/lang/Object"), (0, .class_ 3)] 3

/-- java/lang/Cloneable -/
def k7 : Class := { plain "java/lang/Cloneable" (some 0) with
  accessFlags := 1537
  interfaces := #[]
  cf := some (fileOf pool7 2 #[] #[] 1537 4 #[] #[])
  fields := #[]
  methods := #[]
  instanceTypes := #[]
  staticTypes := #[]
  resolved := Array.replicate 8 none
  statics := none }

/-- the primitive byte -/
def k8 : Class := { plain "byte" none with kind := .primitive 'B', accessFlags := 0x411 }
/-- [B -/
def k9 : Class := { plain "[B" (some 0) with kind := .array 8 .byte, interfaces := #[7, 4], accessFlags := 1041 }

/-- the primitive int -/
def k10 : Class := { plain "int" none with kind := .primitive 'I', accessFlags := 0x411 }
/-- [I -/
def k11 : Class := { plain "[I" (some 0) with kind := .array 10 .int, interfaces := #[7, 4], accessFlags := 1041 }

def heap : Heap := #[{ cls := 6, slots := #[.ref 1, .ref 2, .ref 3, .ref 4, .ref 5, .ref 6, .null], vm := .statics 6 },
  { cls := 6, slots := #[.null, .int 0, .int 0, .null], vm := .none },
  { cls := 6, slots := #[.null, .int 1, .int 0, .null], vm := .none },
  { cls := 6, slots := #[.null, .int 2, .int 0, .null], vm := .none },
  { cls := 6, slots := #[.null, .int 3, .int 0, .null], vm := .none },
  { cls := 6, slots := #[.null, .int 4, .int 0, .null], vm := .none },
  { cls := 6, slots := #[.null, .int 5, .int 0, .null], vm := .none }]
def classes : Array Class := #[k0, k1, k2, k3, k4, k5, k6, k7, k8, k9, k10, k11]
def interned : List (Array UInt16 × Addr) := []
def slotsUsed : Nat := 31
def theMethod : MethodId := ⟨1, 1⟩
def args0 : Array Value := #[.int 1, .int 2]
def aboutOver (below : List Frame) : State where
  vm := { classes := classes, interned := interned.toArray }
  heap := heap
  slotsUsed := slotsUsed
  threads := #[{ frames := .invoking theMethod args0 :: below }]
def below0 : List Frame := [.native { method := ⟨0, 0⟩, args := #[] }]
def about1 : State := aboutOver below0
def p0 : Program := .bare "" "" ""
def e0 : Env := launch0.env 0 0 0
theorem w_frames : about1.frames = Frame.invoking theMethod args0 :: below0 := rfl
set_option maxRecDepth 65536 in
theorem w_args : argsFit about1.vm theMethod args0 = true := by decide +kernel
set_option maxRecDepth 65536 in
theorem w_heap : heapFits about1 = true := by decide +kernel
set_option maxRecDepth 65536 in
theorem w_runnable : about1.curStatus? = some .runnable := by decide +kernel
set_option maxRecDepth 65536 in
theorem w_alone : about1.alone = true := by decide +kernel
set_option maxRecDepth 65536 in
theorem w_named : about1.methodNamed? x = some theMethod := by decide +kernel
set_option maxRecDepth 65536 in
theorem w_hears : about1.hears theMethod below0 = true := by decide +kernel
set_option maxRecDepth 65536 in
theorem w_ripe : about1.ripe theMethod args0 below0 = true := by decide +kernel
theorem w_running : about1.status = .running := rfl
set_option maxRecDepth 65536 in
theorem w_room : about1.hasRoom e0.platform room_1 = true :=
  launch0.hasRoom_least _ room_1 (by decide +kernel) (by decide +kernel) (by decide +kernel) (by decide +kernel) (by decide +kernel) (by decide +kernel)
theorem allAtoms_all (ts : List Jvm.Cond) (a : Array Jvm.Value) (st : Jvm.State) : (allAtoms ts).before a st = ts.all (fun c => c.before a st) := by
  induction ts with
  | nil => rfl
  | cons c t ih =>
    show (Jvm.Cond.and c (allAtoms t)).before a st = _
    rw [Jvm.Cond.before_and, ih, List.all_cons]
def words1 : List Jvm.Cond := Jvm.Cond.code x code maxLocals ret :: tables_1
/-- a 'code' word, met by the world's own term for the bytes: nothing is compared byte by byte -/
theorem code_word {y : MethodName} {bytes : ByteArray} {mx : Nat} {rt : Option FieldType} {a : Array Value} {s : State} {m : MethodId} {meth : Method} {c : Code} (h1 : s.methodNamed? y = some m) (h2 : s.vm.method? m = some meth) (h3 : meth.code = some c) (h4 : c.code = bytes)
    (h5 : (c.maxLocals == mx && c.exceptionTable.isEmpty && decide (c.maxStack ≤ mostOperands) && decide (meth.sig.returnType = rt) && !meth.locks && decide (parseMethodDescriptor y.desc = some meth.sig)) = true) : (Jvm.Cond.code y bytes mx rt).before a s = true := by
  simp only [Bool.and_eq_true, beq_iff_eq, Bool.not_eq_true', decide_eq_true_eq] at h5
  obtain ⟨⟨⟨⟨⟨g1, g2⟩, g3⟩, g4⟩, g5⟩, g6⟩ := h5
  simp [Cond.before, Cond.holds, Cond.value, h1, h2, h3, h4, g1, g2, g3, g4, g5, g6]
def isCode : Jvm.Cond → Bool
  | .code _ _ _ _ => true
  | _ => false
theorem all_split {L : List Jvm.Cond} {P : Jvm.Cond → Bool} (h1 : L.all (fun c => isCode c || P c) = true) (h2 : ∀ c ∈ L.filter isCode, P c = true) : L.all P = true := by
  refine List.all_eq_true.mpr fun c hc => ?_
  have h := List.all_eq_true.mp h1 c hc
  rcases Bool.eq_false_or_eq_true (isCode c) with hi | hi
  · exact h2 c (List.mem_filter.mpr ⟨hc, hi⟩)
  · simpa [hi] using h
set_option maxRecDepth 65536 in
theorem w_c0 : (Jvm.Cond.code x code maxLocals ret).before args0 about1 = true := code_word (m := ⟨1, 1⟩) (meth := k1m1) (c := k1c1) (by decide +kernel) rfl rfl rfl (by decide +kernel)
set_option maxRecDepth 65536 in
theorem w_c1 : (Jvm.Cond.code ({ cls := "com/example/guarded_stream/guardedstream/query/ComparisonOperatorNegatedPinLaw", name := "pick", desc := "(I)Lcom/example/guarded_stream/guardedstream/query/ComparisonOperator;" } : Jvm.MethodName) method_3_code (1 : Nat) (Option.some (Jvm.ClassFile.FieldType.object "com/example/guarded_stream/guardedstream/query/ComparisonOperator"))).before args0 about1 = true := code_word (m := ⟨1, 2⟩) (meth := k1m2) (c := k1c2) (by decide +kernel) rfl rfl rfl (by decide +kernel)
set_option maxRecDepth 65536 in
theorem w_c2 : (Jvm.Cond.code ({ cls := "com/example/guarded_stream/guardedstream/query/ComparisonOperator", name := "negated", desc := "()Lcom/example/guarded_stream/guardedstream/query/ComparisonOperator;" } : Jvm.MethodName) prog_18_method_6_code (1 : Nat) (Option.some (Jvm.ClassFile.FieldType.object "com/example/guarded_stream/guardedstream/query/ComparisonOperator"))).before args0 about1 = true := code_word (m := ⟨6, 1⟩) (meth := k6m1) (c := k6c1) (by decide +kernel) rfl rfl rfl (by decide +kernel)
set_option maxRecDepth 65536 in
theorem w_c3 : (Jvm.Cond.code ({ cls := "java/lang/Enum", name := "ordinal", desc := "()I" } : Jvm.MethodName) jdk_37_method_2_code (1 : Nat) (Option.some Jvm.ClassFile.FieldType.int)).before args0 about1 = true := code_word (m := ⟨5, 0⟩) (meth := k5m0) (c := k5c0) (by decide +kernel) rfl rfl rfl (by decide +kernel)
set_option maxRecDepth 65536 in
theorem w_c4 : (Jvm.Cond.code ({ cls := "com/example/guarded_stream/guardedstream/query/ComparisonOperator", name := "holds", desc := "(I)Z" } : Jvm.MethodName) prog_18_method_5_code (2 : Nat) (Option.some Jvm.ClassFile.FieldType.boolean)).before args0 about1 = true := code_word (m := ⟨6, 0⟩) (meth := k6m0) (c := k6c0) (by decide +kernel) rfl rfl rfl (by decide +kernel)
def codes1 : List Jvm.Cond := [Jvm.Cond.code x code maxLocals ret, Jvm.Cond.code ({ cls := "com/example/guarded_stream/guardedstream/query/ComparisonOperatorNegatedPinLaw", name := "pick", desc := "(I)Lcom/example/guarded_stream/guardedstream/query/ComparisonOperator;" } : Jvm.MethodName) method_3_code (1 : Nat) (Option.some (Jvm.ClassFile.FieldType.object "com/example/guarded_stream/guardedstream/query/ComparisonOperator")), Jvm.Cond.code ({ cls := "com/example/guarded_stream/guardedstream/query/ComparisonOperator", name := "negated", desc := "()Lcom/example/guarded_stream/guardedstream/query/ComparisonOperator;" } : Jvm.MethodName) prog_18_method_6_code (1 : Nat) (Option.some (Jvm.ClassFile.FieldType.object "com/example/guarded_stream/guardedstream/query/ComparisonOperator")), Jvm.Cond.code ({ cls := "java/lang/Enum", name := "ordinal", desc := "()I" } : Jvm.MethodName) jdk_37_method_2_code (1 : Nat) (Option.some Jvm.ClassFile.FieldType.int), Jvm.Cond.code ({ cls := "com/example/guarded_stream/guardedstream/query/ComparisonOperator", name := "holds", desc := "(I)Z" } : Jvm.MethodName) prog_18_method_5_code (2 : Nat) (Option.some Jvm.ClassFile.FieldType.boolean)]
set_option maxRecDepth 65536 in
theorem codes_eq : words1.filter isCode = codes1 := rfl
theorem w_codes : ∀ c ∈ words1.filter isCode, c.before args0 about1 = true := by
  rw [codes_eq]
  intro c hc
  simp only [codes1, List.mem_cons, List.not_mem_nil, or_false] at hc
  rcases hc with rfl | rfl | rfl | rfl | rfl
  · exact w_c0
  · exact w_c1
  · exact w_c2
  · exact w_c3
  · exact w_c4
set_option maxRecDepth 65536 in
theorem w_t1 : (words1.take 24).all (fun c => isCode c || c.before args0 about1) = true := by decide +kernel
set_option maxRecDepth 65536 in
theorem w_t2 : (words1.drop 24).all (fun c => isCode c || c.before args0 about1) = true := by decide +kernel
theorem w_tables : (allAtoms (Jvm.Cond.code x code maxLocals ret :: tables_1)).before args0 about1 = true := by
  rw [allAtoms_all]
  show words1.all (fun c => c.before args0 about1) = true
  refine all_split ?_ w_codes
  rw [← List.take_append_drop 24 words1, List.all_append, w_t1, w_t2]
  rfl
set_option maxRecDepth 65536 in
theorem w_case : (Jvm.Cond.and given_1 narrow_1).before args0 about1 = true := by decide +kernel
theorem w_applies : (headSpec (Jvm.Cond.code x code maxLocals ret :: tables_1) room_1).applies x e0.platform about1 = true :=
  (Spec.applies_iff w_frames).mpr ⟨w_running, w_runnable, w_alone, w_named, w_hears, w_ripe, w_room, w_tables⟩
theorem atStart : AtStart classFile x code maxLocals ret World_1 tables_1 room_1 Calls_1 rest_1 Pre_1 launch0 p0 e0 about1 theMethod args0 below0 :=
  ⟨lists_1, trivial, launch0.admits_env _ _ _, launch0.least_env, fairChoices_fair.cas, fairChoices_fair.clock, w_frames, w_args, w_heap, w_applies, trivial, trivial, w_case⟩
end start1
theorem witness_1 : WitnessClaimed_1 := ⟨start1.p0, start1.e0, start1.about1, start1.theMethod, start1.args0, start1.below0, start1.atStart⟩
end Jvm.Pilot.@@N@@
