import JvmDerived
import JvmDerived.Pilot.@@N@@Statement
import JvmDerived.Pilot.@@N@@Code
set_option linter.unusedVariables false
set_option linter.unusedSimpArgs false
namespace Jvm.RoadKit
open Sem ClassFile Op Lib Jvm.Stand Jvm.Free Jvm.LawKit
section New
variable {p : Program} {l : Launch} {e : Env} {R : Room} {s : State} {m : MethodId} {args : Array Value} {below : List Frame} {meth : Method} {c : Code} {T : State} {locs : List Loc} {cells slots : Nat}
theorem retI (X : Stand p l e R s m args below meth c T locs cells slots) (hx : p.tables.exec = Jvm.exec) {pc : Nat} {Ls : Array Slot} {z : Int32} {rest : List Value} (hret : meth.sig.returnType = some .int) (hd : decode c.code pc = .ok (.ireturn, 1)) {fs : List Frame}
    (hl : ∀ (f : JFrame) (acts : List Action), f.method = m → f.locked = none → f.entered = [] → (doReturn e (T.setTop f) acts (some (.int z))).1 = T.setFrames fs) : Steps p.tables e below (T.setTop (mkF m pc Ls (.int z :: rest))) (T.setFrames fs) := by
  have hm' : T.vm.method? m = some meth := X.method'
  have hn : narrow .int (.int z) = .int z := rfl
  show Steps p.tables e below (T.setTop { method := m, pc := pc, locals := Ls, stack := _ :: rest, locked := none }) _
  jvm_step X.here [X.here.top, hx, hd, hm', hret, hn]
  first | (intro acts; rw [hl _ acts rfl rfl rfl]) | rw [hl _ _ rfl rfl rfl]
  exact Steps.refl _
end New
end Jvm.RoadKit
@@BLOCK:NumsL.lean.txt@@
namespace Jvm.Pilot.@@N@@
open Jvm Jvm.ClassFile Sem Op Lib Jvm.Free Jvm.Stand Jvm.LawKit Jvm.RoadKit Bundle Jvm.Pilot.@@N@@.Jvm.D
theorem own_feq {args : Array Value} {s : State} {t : Term} {C f d : String} {x : Addr} {n : Int32} (ht : t.eval args s none [] s = some (.ref x)) (h : (Jvm.Cond.eq (Jvm.Term.field t C f d) (Jvm.Term.int n)).value args s none s [] = some true) : s.fieldOf? x C f d = some (.int n) := by
  obtain ⟨v, w, h1, h2, k1, k2⟩ := cmp_v (Or.inl h)
  have h1' := h1
  rw [fld_at ht] at h1'
  have hw : w = .int n := by simpa [Term.eval] using h2.symm
  subst hw
  obtain ⟨z, rfl⟩ := k2
  simp only [Cond.value, h1, h2] at h
  have : z = n := by simpa using h
  rw [h1', this]
theorem own_k6 (x : Int32) : (x &&& (2147483647 : Int32)) % (6 : Int32) = (0 : Int32) ∨ (x &&& (2147483647 : Int32)) % (6 : Int32) = (1 : Int32) ∨ (x &&& (2147483647 : Int32)) % (6 : Int32) = (2 : Int32) ∨ (x &&& (2147483647 : Int32)) % (6 : Int32) = (3 : Int32) ∨ (x &&& (2147483647 : Int32)) % (6 : Int32) = (4 : Int32) ∨ (x &&& (2147483647 : Int32)) % (6 : Int32) = (5 : Int32) := by
  have m := Jvm.Kit.i32_mask x 2147483647 (k := 31) (by decide) (by decide)
  have q0 : 0 ≤ (x &&& (2147483647 : Int32)).toInt := by rw [m]; omega
  have r := Jvm.Kit.i32_rem_nonneg (y := (6 : Int32)) q0
  have e : (6 : Int32).toInt = 6 := by decide
  rw [e] at r
  have e0 : (0 : Int32).toInt = 0 := by decide
  have e1 : (1 : Int32).toInt = 1 := by decide
  have e2 : (2 : Int32).toInt = 2 := by decide
  have e3 : (3 : Int32).toInt = 3 := by decide
  have e4 : (4 : Int32).toInt = 4 := by decide
  have e5 : (5 : Int32).toInt = 5 := by decide
  generalize (x &&& (2147483647 : Int32)) % (6 : Int32) = z at r
  have b : z.toInt = 0 ∨ z.toInt = 1 ∨ z.toInt = 2 ∨ z.toInt = 3 ∨ z.toInt = 4 ∨ z.toInt = 5 := by rw [r]; omega
  simp only [← Int32.toInt_inj, e0, e1, e2, e3, e4, e5]
  exact b
theorem own_tri (x : Int32) : (x < (0 : Int32) ∧ ¬ x = (0 : Int32) ∧ ¬ (0 : Int32) < x) ∨ (¬ x < (0 : Int32) ∧ x = (0 : Int32) ∧ ¬ (0 : Int32) < x) ∨ (¬ x < (0 : Int32) ∧ ¬ x = (0 : Int32) ∧ (0 : Int32) < x) := by
  have e : (0 : Int32).toInt = 0 := by decide
  simp only [Int32.lt_iff_toInt_lt, ← Int32.toInt_inj, e]
  omega
theorem pn_java_lang_Enum : plainName "java/lang/Enum" = true := by first | (simp [plainName, overriddenIn]; done) | decide +kernel
theorem d2_0 : decode jdk_37_method_2_code 0 = .ok (.aload_n 0, 1) := by decide +kernel
theorem d2_1 : decode jdk_37_method_2_code 1 = .ok (.getfield 7, 3) := by decide +kernel
theorem d2_4 : decode jdk_37_method_2_code 4 = .ok (.ireturn, 1) := by decide +kernel
theorem ef_2 (m : MethodId) (x0 : Addr) : entryFrame m #[(.ref x0)] 1 = mkF m 0 #[.val (.ref x0)] [] := by first | (simp [entryFrame, mkF, argsToLocals, Value.category]; done) | rfl
def Q2 (Z : State) (aa0 : Addr) (vv : Int32) (h0 : Heap) (n0 : Nat) (v : Option Value) (h : Heap) (L : List Loc) : Prop := v = some (.int vv) ∧ Fr n0 L ∧ h = h0
set_option maxRecDepth 65536 in
set_option maxHeartbeats 40000000 in
theorem rm2 (l : Launch) (Z : State) (a0 : Array Value) (hw : ∀ d ∈ tables_1, d.before a0 Z = true) (ws : List Jvm.Cond) (aa0 : Addr) (vv : Int32) (h0 : Heap) (n0 : Nat) (Z0 : n0 ≤ h0.size) (F_aa0_ordinal : Fld Z h0 aa0 "java/lang/Enum" "ordinal" "I" (.int vv)) :
    MetFree l (⟨"java/lang/Enum", "ordinal", "()I"⟩ : MethodName) (head1 (Jvm.Cond.code (⟨"java/lang/Enum", "ordinal", "()I"⟩ : MethodName) jdk_37_method_2_code 1 (some .int) :: ws) ({ frames := 0, cells := 0, slots := 0, locals := 0 } : Room)) (fun a U => a = #[(.ref aa0)] ∧ Z.Warmed39 U.vm ∧ U.heap = h0) (fun _ _ _ _ _ => True) (fun _ U o U' => ∃ v L, o = .returned v ∧ Q2 Z aa0 vv h0 n0 v U'.heap L ∧ FrameEnd U o U' L ({ frames := 0, cells := 0, slots := 0, locals := 0 } : Room).cells ({ frames := 0, cells := 0, slots := 0, locals := 0 } : Room).slots) := by
  refine MetFree.of_bodySF (plainFor_of_name pn_java_lang_Enum) hisR ?_
  intro p e s m args below meth c s₁ Bd hml0 hP hK
  obtain ⟨rfl, hZ, hh⟩ := hP
  have hx := Bd.exec
  have hby := Bd.bytes
  have hml : c.maxLocals = 1 := hml0
  have hown : s.vm.findClass "java/lang/Enum" = some m.cls := findClass_of_methodNamed Bd.named
  have hnm := (name_of_methodNamed Bd.named Bd.method).1
  have X0 : Stand p l e ({ frames := 0, cells := 0, slots := 0, locals := 0 } : Room) s m #[(.ref aa0)] below meth c s₁ [] 0 0 := Stand.of_body Bd
  have e0 : s₁.heap = h0 := by rw [← hh, Bd.state]; rfl
  have N0 := Fr.nil n0
  have pre0 : ∀ t, Steps p.tables e below (s₁.setTop (mkF m 0 #[.val (.ref aa0)] [])) t → Steps p.tables e below (s₁.setTop (entryFrame m #[(.ref aa0)] 1)) t := fun t k => castTop (ef_2 m aa0) k
  obtain ⟨T1, X1, e1, st1⟩ := getF X0 hx hZ hown (host := "") (Or.inl (hw _ (List.mem_of_getElem? (i := 16) rfl))) Via.refl e0 F_aa0_ordinal (g := (mkF m 1 #[.val (.ref aa0)] [(.ref aa0)])) rfl rfl (hb hby d2_1)
  obtain ⟨fs, hr, hrun, hended, hW, hsame⟩ := X1.leave (v := some (.int vv)) (fun h => by rw [Bd.returns] at h; cases h)
  refine ⟨_, _, pre0 _ ?_, hrun, hended, _, _, rfl, ?_, ⟨_, rfl⟩, hW, hsame.mono (by decide) (by decide)⟩
  · show Steps p.tables e below (s₁.setTop (mkF m 0 #[.val (.ref aa0)] [])) _
    refine XS.aloadN X0.here hx rfl (hb hby d2_0) rfl rfl ?_
    show Steps p.tables e below (s₁.setTop (mkF m 1 #[.val (.ref aa0)] [(.ref aa0)])) _
    refine st1 _ ?_
    show Steps p.tables e below (T1.setTop (mkF m 4 #[.val (.ref aa0)] [(.int vv)])) _
    exact retI X1 hx Bd.returns (hb hby d2_4) hr
  · show Q2 Z aa0 vv h0 n0 _ T1.heap _
    rw [e1]
    exact ⟨rfl, N0, rfl⟩
theorem pd__28__29_I : parseMethodDescriptor "()I" = some ⟨[], some .int⟩ := by decide +kernel
theorem pn_com_example_guarded_stream_guardedstream_query_ComparisonOperator : plainName "com/example/guarded_stream/guardedstream/query/ComparisonOperator" = true := by first | (simp [plainName, overriddenIn]; done) | decide +kernel
theorem d1_0 : decode prog_18_method_5_code 0 = .ok (.aload_n 0, 1) := by decide +kernel
theorem d1_1 : decode prog_18_method_5_code 1 = .ok (.invokevirtual 55, 3) := by decide +kernel
theorem d1_4 : decode prog_18_method_5_code 4 = .ok (.tableswitch 100 0 5 #[40, 50, 60, 70, 80, 90], 40) := by decide +kernel
theorem d1_44 : decode prog_18_method_5_code 44 = .ok (.iload_n 1, 1) := by decide +kernel
theorem d1_45 : decode prog_18_method_5_code 45 = .ok (.ifCond .ne 7, 3) := by decide +kernel
theorem d1_48 : decode prog_18_method_5_code 48 = .ok (.iconst 1, 1) := by decide +kernel
theorem d1_49 : decode prog_18_method_5_code 49 = .ok (.goto 4, 3) := by decide +kernel
theorem d1_52 : decode prog_18_method_5_code 52 = .ok (.iconst 0, 1) := by decide +kernel
theorem d1_53 : decode prog_18_method_5_code 53 = .ok (.ireturn, 1) := by decide +kernel
theorem ef_1_0 (m : MethodId) (x0 : Addr) (x1 : Int32) : entryFrame m #[(.ref x0), (.int x1)] 2 = mkF m 0 #[.val (.ref x0), .val (.int x1)] [] := by first | (simp [entryFrame, mkF, argsToLocals, Value.category]; done) | rfl
def Q1_0 (Z : State) (aa0 : Addr) (pp1 : Int32) (h0 : Heap) (n0 : Nat) (v : Option Value) (h : Heap) (L : List Loc) : Prop := v = some (.int (if pp1 = (0 : Int32) then (1 : Int32) else (0 : Int32))) ∧ Fr n0 L ∧ h = h0
set_option maxRecDepth 65536 in
set_option maxHeartbeats 40000000 in
theorem rm1_0 (l : Launch) (Z : State) (a0 : Array Value) (hw : ∀ d ∈ tables_1, d.before a0 Z = true) (ws : List Jvm.Cond) (aa0 : Addr) (pp1 : Int32) (h0 : Heap) (n0 : Nat) (Z0 : n0 ≤ h0.size) (E_aa0 : Exa Z h0 aa0 "com/example/guarded_stream/guardedstream/query/ComparisonOperator") (F_aa0_ordinal : Fld Z h0 aa0 "java/lang/Enum" "ordinal" "I" (.int (0 : Int32))) :
    MetFree l (⟨"com/example/guarded_stream/guardedstream/query/ComparisonOperator", "holds", "(I)Z"⟩ : MethodName) (head1 (Jvm.Cond.code (⟨"com/example/guarded_stream/guardedstream/query/ComparisonOperator", "holds", "(I)Z"⟩ : MethodName) prog_18_method_5_code 2 (some .boolean) :: ws) ({ frames := 1, cells := 0, slots := 0, locals := 12 } : Room)) (fun a U => a = #[(.ref aa0), (.int pp1)] ∧ Z.Warmed39 U.vm ∧ U.heap = h0) (fun _ _ _ _ _ => True) (fun _ U o U' => ∃ v L, o = .returned v ∧ Q1_0 Z aa0 pp1 h0 n0 v U'.heap L ∧ FrameEnd U o U' L ({ frames := 1, cells := 0, slots := 0, locals := 12 } : Room).cells ({ frames := 1, cells := 0, slots := 0, locals := 12 } : Room).slots) := by
  refine MetFree.of_bodySF (plainFor_of_name pn_com_example_guarded_stream_guardedstream_query_ComparisonOperator) hisR ?_
  intro p e s m args below meth c s₁ Bd hml0 hP hK
  obtain ⟨rfl, hZ, hh⟩ := hP
  have hx := Bd.exec
  have hby := Bd.bytes
  have hml : c.maxLocals = 2 := hml0
  have hown : s.vm.findClass "com/example/guarded_stream/guardedstream/query/ComparisonOperator" = some m.cls := findClass_of_methodNamed Bd.named
  have hnm := (name_of_methodNamed Bd.named Bd.method).1
  have X0 : Stand p l e ({ frames := 1, cells := 0, slots := 0, locals := 12 } : Room) s m #[(.ref aa0), (.int pp1)] below meth c s₁ [] 0 0 := Stand.of_body Bd
  have e0 : s₁.heap = h0 := by rw [← hh, Bd.state]; rfl
  have N0 := Fr.nil n0
  have pre0 : ∀ t, Steps p.tables e below (s₁.setTop (mkF m 0 #[.val (.ref aa0), .val (.int pp1)] [])) t → Steps p.tables e below (s₁.setTop (entryFrame m #[(.ref aa0), (.int pp1)] 2)) t := fun t k => castTop (ef_1_0 m aa0 pp1) k
  obtain ⟨cq1, kq1, q1a, q1b, q1c⟩ := isOf hZ e0 E_aa0
  obtain ⟨_, _, ⟨T1, L1, k1, n1⟩, -, X1, ⟨Lc1, hQ1, l1, y1, z1⟩, st1⟩ := X0.virtualBackUp hx (x := (⟨"com/example/guarded_stream/guardedstream/query/ComparisonOperator", "ordinal", "()I"⟩ : MethodName)) (y := (⟨"java/lang/Enum", "ordinal", "()I"⟩ : MethodName)) (owner := "java/lang/Enum") hown (mvT hZ (hw _ (List.mem_of_getElem? (i := 9) rfl))) (mvT hZ (hw _ (List.mem_of_getElem? (i := 10) rfl))) (mvT hZ (hw _ (List.mem_of_getElem? (i := 11) rfl))) (by decide) (mvT hZ (hw _ (List.mem_of_getElem? (i := 13) rfl))) (mvT hZ (hw _ (List.mem_of_getElem? (i := 12) rfl))) (backOf (W := 0) (rm2 l Z a0 hw [] aa0 (0 : Int32) h0 n0 Z0 F_aa0_ordinal) hZ (hw _ (List.mem_of_getElem? (i := 15) rfl)) (hw _ (List.mem_of_getElem? (i := 14) rfl)) (by decide) (by decide)) q1a q1c (g := (mkF m 1 #[.val (.ref aa0), .val (.int pp1)] [(.ref aa0)])) rfl (by rw [hml]; rfl) (Steps.refl _) (argsL := []) (rest := []) (lenOf pd__28__29_I rfl) rfl (by show 2 * 0 + _ ≤ _; exact Nat.le_of_eq rfl) (hb hby d1_1) (fun _ _ => ⟨rfl, e0, (by decide : 0 + 0 ≤ _), (by decide : 0 + 0 ≤ _)⟩)
  dsimp only [Pt.U, Pt.locs, Pt.cells, Pt.slots] at X1 l1 y1 z1 st1 hQ1
  subst l1 y1 z1
  obtain ⟨rfl, N1q, e1⟩ := hQ1
  have N1 := Fr.app N0 N1q
  have pre2 : ∀ t, Steps p.tables e below (T1.setTop (mkF m 45 #[.val (.ref aa0), .val (.int pp1)] [(.int pp1)])) t → Steps p.tables e below (s₁.setTop (entryFrame m #[(.ref aa0), (.int pp1)] 2)) t := fun t kt => pre0 t (by
    show Steps p.tables e below (s₁.setTop (mkF m 0 #[.val (.ref aa0), .val (.int pp1)] [])) _
    refine XS.aloadN X0.here hx rfl (hb hby d1_0) rfl rfl ?_
    show Steps p.tables e below (s₁.setTop (mkF m 1 #[.val (.ref aa0), .val (.int pp1)] [(.ref aa0)])) _
    refine st1.trans ?_
    show Steps p.tables e below (T1.setTop (mkF m 4 #[.val (.ref aa0), .val (.int pp1)] [(.int (0 : Int32))])) _
    refine XS.tswIn X1.here hx rfl (pc0 := 4) (pc' := 44) rfl (hb hby d1_4) rfl (by decide) (o := 40) rfl (by decide) (by decide) ?_
    show Steps p.tables e below (T1.setTop (mkF m 44 #[.val (.ref aa0), .val (.int pp1)] [])) _
    refine XS.iloadN X1.here hx rfl (hb hby d1_44) rfl ?_
    exact kt)
  by_cases hc45 : pp1 = (0 : Int32)
  · skip
    obtain ⟨fs, hr, hrun, hended, hW, hsame⟩ := X1.leave (v := some (.int (1 : Int32))) (fun h => by rw [Bd.returns] at h; cases h)
    refine ⟨_, _, pre2 _ ?_, hrun, hended, _, _, rfl, ?_, ⟨_, rfl⟩, hW, hsame.mono (by decide) (by decide)⟩
    · show Steps p.tables e below (T1.setTop (mkF m 45 #[.val (.ref aa0), .val (.int pp1)] [(.int pp1)])) _
      refine XS.ifNo X1.here hx rfl (hb hby d1_45) rfl ((if0 _ _).trans (teq hc45).2) ?_
      show Steps p.tables e below (T1.setTop (mkF m 48 #[.val (.ref aa0), .val (.int pp1)] [])) _
      refine XS.iconst X1.here hx rfl (hb hby d1_48) ?_
      show Steps p.tables e below (T1.setTop (mkF m 49 #[.val (.ref aa0), .val (.int pp1)] [(.int (1 : Int32))])) _
      refine XS.goto X1.here hx rfl (pc0 := 49) (pc' := 53) rfl (hb hby d1_49) (by decide) (by decide) ?_
      show Steps p.tables e below (T1.setTop (mkF m 53 #[.val (.ref aa0), .val (.int pp1)] [(.int (1 : Int32))])) _
      exact retN X1 hx (t := .boolean) Bd.returns (by simp) (hb hby d1_53) hr
    · show Q1_0 Z aa0 pp1 h0 n0 _ T1.heap _
      rw [e1]
      exact ⟨(by first | rw [if_pos hc45] | rw [if_neg hc45]), N1, rfl⟩
  · skip
    obtain ⟨fs, hr, hrun, hended, hW, hsame⟩ := X1.leave (v := some (.int (0 : Int32))) (fun h => by rw [Bd.returns] at h; cases h)
    refine ⟨_, _, pre2 _ ?_, hrun, hended, _, _, rfl, ?_, ⟨_, rfl⟩, hW, hsame.mono (by decide) (by decide)⟩
    · show Steps p.tables e below (T1.setTop (mkF m 45 #[.val (.ref aa0), .val (.int pp1)] [(.int pp1)])) _
      refine XS.ifYes X1.here hx rfl (pc0 := 45) (pc' := 52) rfl (hb hby d1_45) rfl ((if0 _ _).trans (feq hc45).2) (by decide) (by decide) ?_
      show Steps p.tables e below (T1.setTop (mkF m 52 #[.val (.ref aa0), .val (.int pp1)] [])) _
      refine XS.iconst X1.here hx rfl (hb hby d1_52) ?_
      show Steps p.tables e below (T1.setTop (mkF m 53 #[.val (.ref aa0), .val (.int pp1)] [(.int (0 : Int32))])) _
      exact retN X1 hx (t := .boolean) Bd.returns (by simp) (hb hby d1_53) hr
    · show Q1_0 Z aa0 pp1 h0 n0 _ T1.heap _
      rw [e1]
      exact ⟨(by first | rw [if_pos hc45] | rw [if_neg hc45]), N1, rfl⟩
theorem d1_54 : decode prog_18_method_5_code 54 = .ok (.iload_n 1, 1) := by decide +kernel
theorem d1_55 : decode prog_18_method_5_code 55 = .ok (.ifCond .eq 7, 3) := by decide +kernel
theorem d1_58 : decode prog_18_method_5_code 58 = .ok (.iconst 1, 1) := by decide +kernel
theorem d1_59 : decode prog_18_method_5_code 59 = .ok (.goto 4, 3) := by decide +kernel
theorem d1_62 : decode prog_18_method_5_code 62 = .ok (.iconst 0, 1) := by decide +kernel
theorem d1_63 : decode prog_18_method_5_code 63 = .ok (.ireturn, 1) := by decide +kernel
theorem ef_1_1 (m : MethodId) (x0 : Addr) (x1 : Int32) : entryFrame m #[(.ref x0), (.int x1)] 2 = mkF m 0 #[.val (.ref x0), .val (.int x1)] [] := by first | (simp [entryFrame, mkF, argsToLocals, Value.category]; done) | rfl
def Q1_1 (Z : State) (aa0 : Addr) (pp1 : Int32) (h0 : Heap) (n0 : Nat) (v : Option Value) (h : Heap) (L : List Loc) : Prop := v = some (.int (if pp1 = (0 : Int32) then (0 : Int32) else (1 : Int32))) ∧ Fr n0 L ∧ h = h0
set_option maxRecDepth 65536 in
set_option maxHeartbeats 40000000 in
theorem rm1_1 (l : Launch) (Z : State) (a0 : Array Value) (hw : ∀ d ∈ tables_1, d.before a0 Z = true) (ws : List Jvm.Cond) (aa0 : Addr) (pp1 : Int32) (h0 : Heap) (n0 : Nat) (Z0 : n0 ≤ h0.size) (E_aa0 : Exa Z h0 aa0 "com/example/guarded_stream/guardedstream/query/ComparisonOperator") (F_aa0_ordinal : Fld Z h0 aa0 "java/lang/Enum" "ordinal" "I" (.int (1 : Int32))) :
    MetFree l (⟨"com/example/guarded_stream/guardedstream/query/ComparisonOperator", "holds", "(I)Z"⟩ : MethodName) (head1 (Jvm.Cond.code (⟨"com/example/guarded_stream/guardedstream/query/ComparisonOperator", "holds", "(I)Z"⟩ : MethodName) prog_18_method_5_code 2 (some .boolean) :: ws) ({ frames := 1, cells := 0, slots := 0, locals := 12 } : Room)) (fun a U => a = #[(.ref aa0), (.int pp1)] ∧ Z.Warmed39 U.vm ∧ U.heap = h0) (fun _ _ _ _ _ => True) (fun _ U o U' => ∃ v L, o = .returned v ∧ Q1_1 Z aa0 pp1 h0 n0 v U'.heap L ∧ FrameEnd U o U' L ({ frames := 1, cells := 0, slots := 0, locals := 12 } : Room).cells ({ frames := 1, cells := 0, slots := 0, locals := 12 } : Room).slots) := by
  refine MetFree.of_bodySF (plainFor_of_name pn_com_example_guarded_stream_guardedstream_query_ComparisonOperator) hisR ?_
  intro p e s m args below meth c s₁ Bd hml0 hP hK
  obtain ⟨rfl, hZ, hh⟩ := hP
  have hx := Bd.exec
  have hby := Bd.bytes
  have hml : c.maxLocals = 2 := hml0
  have hown : s.vm.findClass "com/example/guarded_stream/guardedstream/query/ComparisonOperator" = some m.cls := findClass_of_methodNamed Bd.named
  have hnm := (name_of_methodNamed Bd.named Bd.method).1
  have X0 : Stand p l e ({ frames := 1, cells := 0, slots := 0, locals := 12 } : Room) s m #[(.ref aa0), (.int pp1)] below meth c s₁ [] 0 0 := Stand.of_body Bd
  have e0 : s₁.heap = h0 := by rw [← hh, Bd.state]; rfl
  have N0 := Fr.nil n0
  have pre0 : ∀ t, Steps p.tables e below (s₁.setTop (mkF m 0 #[.val (.ref aa0), .val (.int pp1)] [])) t → Steps p.tables e below (s₁.setTop (entryFrame m #[(.ref aa0), (.int pp1)] 2)) t := fun t k => castTop (ef_1_1 m aa0 pp1) k
  obtain ⟨cq1, kq1, q1a, q1b, q1c⟩ := isOf hZ e0 E_aa0
  obtain ⟨_, _, ⟨T1, L1, k1, n1⟩, -, X1, ⟨Lc1, hQ1, l1, y1, z1⟩, st1⟩ := X0.virtualBackUp hx (x := (⟨"com/example/guarded_stream/guardedstream/query/ComparisonOperator", "ordinal", "()I"⟩ : MethodName)) (y := (⟨"java/lang/Enum", "ordinal", "()I"⟩ : MethodName)) (owner := "java/lang/Enum") hown (mvT hZ (hw _ (List.mem_of_getElem? (i := 9) rfl))) (mvT hZ (hw _ (List.mem_of_getElem? (i := 10) rfl))) (mvT hZ (hw _ (List.mem_of_getElem? (i := 11) rfl))) (by decide) (mvT hZ (hw _ (List.mem_of_getElem? (i := 13) rfl))) (mvT hZ (hw _ (List.mem_of_getElem? (i := 12) rfl))) (backOf (W := 0) (rm2 l Z a0 hw [] aa0 (1 : Int32) h0 n0 Z0 F_aa0_ordinal) hZ (hw _ (List.mem_of_getElem? (i := 15) rfl)) (hw _ (List.mem_of_getElem? (i := 14) rfl)) (by decide) (by decide)) q1a q1c (g := (mkF m 1 #[.val (.ref aa0), .val (.int pp1)] [(.ref aa0)])) rfl (by rw [hml]; rfl) (Steps.refl _) (argsL := []) (rest := []) (lenOf pd__28__29_I rfl) rfl (by show 2 * 0 + _ ≤ _; exact Nat.le_of_eq rfl) (hb hby d1_1) (fun _ _ => ⟨rfl, e0, (by decide : 0 + 0 ≤ _), (by decide : 0 + 0 ≤ _)⟩)
  dsimp only [Pt.U, Pt.locs, Pt.cells, Pt.slots] at X1 l1 y1 z1 st1 hQ1
  subst l1 y1 z1
  obtain ⟨rfl, N1q, e1⟩ := hQ1
  have N1 := Fr.app N0 N1q
  have pre2 : ∀ t, Steps p.tables e below (T1.setTop (mkF m 55 #[.val (.ref aa0), .val (.int pp1)] [(.int pp1)])) t → Steps p.tables e below (s₁.setTop (entryFrame m #[(.ref aa0), (.int pp1)] 2)) t := fun t kt => pre0 t (by
    show Steps p.tables e below (s₁.setTop (mkF m 0 #[.val (.ref aa0), .val (.int pp1)] [])) _
    refine XS.aloadN X0.here hx rfl (hb hby d1_0) rfl rfl ?_
    show Steps p.tables e below (s₁.setTop (mkF m 1 #[.val (.ref aa0), .val (.int pp1)] [(.ref aa0)])) _
    refine st1.trans ?_
    show Steps p.tables e below (T1.setTop (mkF m 4 #[.val (.ref aa0), .val (.int pp1)] [(.int (1 : Int32))])) _
    refine XS.tswIn X1.here hx rfl (pc0 := 4) (pc' := 54) rfl (hb hby d1_4) rfl (by decide) (o := 50) rfl (by decide) (by decide) ?_
    show Steps p.tables e below (T1.setTop (mkF m 54 #[.val (.ref aa0), .val (.int pp1)] [])) _
    refine XS.iloadN X1.here hx rfl (hb hby d1_54) rfl ?_
    exact kt)
  by_cases hc55 : pp1 = (0 : Int32)
  · skip
    obtain ⟨fs, hr, hrun, hended, hW, hsame⟩ := X1.leave (v := some (.int (0 : Int32))) (fun h => by rw [Bd.returns] at h; cases h)
    refine ⟨_, _, pre2 _ ?_, hrun, hended, _, _, rfl, ?_, ⟨_, rfl⟩, hW, hsame.mono (by decide) (by decide)⟩
    · show Steps p.tables e below (T1.setTop (mkF m 55 #[.val (.ref aa0), .val (.int pp1)] [(.int pp1)])) _
      refine XS.ifYes X1.here hx rfl (pc0 := 55) (pc' := 62) rfl (hb hby d1_55) rfl ((if0 _ _).trans (teq hc55).1) (by decide) (by decide) ?_
      show Steps p.tables e below (T1.setTop (mkF m 62 #[.val (.ref aa0), .val (.int pp1)] [])) _
      refine XS.iconst X1.here hx rfl (hb hby d1_62) ?_
      show Steps p.tables e below (T1.setTop (mkF m 63 #[.val (.ref aa0), .val (.int pp1)] [(.int (0 : Int32))])) _
      exact retN X1 hx (t := .boolean) Bd.returns (by simp) (hb hby d1_63) hr
    · show Q1_1 Z aa0 pp1 h0 n0 _ T1.heap _
      rw [e1]
      exact ⟨(by first | rw [if_pos hc55] | rw [if_neg hc55]), N1, rfl⟩
  · skip
    obtain ⟨fs, hr, hrun, hended, hW, hsame⟩ := X1.leave (v := some (.int (1 : Int32))) (fun h => by rw [Bd.returns] at h; cases h)
    refine ⟨_, _, pre2 _ ?_, hrun, hended, _, _, rfl, ?_, ⟨_, rfl⟩, hW, hsame.mono (by decide) (by decide)⟩
    · show Steps p.tables e below (T1.setTop (mkF m 55 #[.val (.ref aa0), .val (.int pp1)] [(.int pp1)])) _
      refine XS.ifNo X1.here hx rfl (hb hby d1_55) rfl ((if0 _ _).trans (feq hc55).1) ?_
      show Steps p.tables e below (T1.setTop (mkF m 58 #[.val (.ref aa0), .val (.int pp1)] [])) _
      refine XS.iconst X1.here hx rfl (hb hby d1_58) ?_
      show Steps p.tables e below (T1.setTop (mkF m 59 #[.val (.ref aa0), .val (.int pp1)] [(.int (1 : Int32))])) _
      refine XS.goto X1.here hx rfl (pc0 := 59) (pc' := 63) rfl (hb hby d1_59) (by decide) (by decide) ?_
      show Steps p.tables e below (T1.setTop (mkF m 63 #[.val (.ref aa0), .val (.int pp1)] [(.int (1 : Int32))])) _
      exact retN X1 hx (t := .boolean) Bd.returns (by simp) (hb hby d1_63) hr
    · show Q1_1 Z aa0 pp1 h0 n0 _ T1.heap _
      rw [e1]
      exact ⟨(by first | rw [if_pos hc55] | rw [if_neg hc55]), N1, rfl⟩
theorem d1_64 : decode prog_18_method_5_code 64 = .ok (.iload_n 1, 1) := by decide +kernel
theorem d1_65 : decode prog_18_method_5_code 65 = .ok (.ifCond .ge 7, 3) := by decide +kernel
theorem d1_68 : decode prog_18_method_5_code 68 = .ok (.iconst 1, 1) := by decide +kernel
theorem d1_69 : decode prog_18_method_5_code 69 = .ok (.goto 4, 3) := by decide +kernel
theorem d1_72 : decode prog_18_method_5_code 72 = .ok (.iconst 0, 1) := by decide +kernel
theorem d1_73 : decode prog_18_method_5_code 73 = .ok (.ireturn, 1) := by decide +kernel
theorem ef_1_2 (m : MethodId) (x0 : Addr) (x1 : Int32) : entryFrame m #[(.ref x0), (.int x1)] 2 = mkF m 0 #[.val (.ref x0), .val (.int x1)] [] := by first | (simp [entryFrame, mkF, argsToLocals, Value.category]; done) | rfl
def Q1_2 (Z : State) (aa0 : Addr) (pp1 : Int32) (h0 : Heap) (n0 : Nat) (v : Option Value) (h : Heap) (L : List Loc) : Prop := v = some (.int (if pp1 < (0 : Int32) then (1 : Int32) else (0 : Int32))) ∧ Fr n0 L ∧ h = h0
set_option maxRecDepth 65536 in
set_option maxHeartbeats 40000000 in
theorem rm1_2 (l : Launch) (Z : State) (a0 : Array Value) (hw : ∀ d ∈ tables_1, d.before a0 Z = true) (ws : List Jvm.Cond) (aa0 : Addr) (pp1 : Int32) (h0 : Heap) (n0 : Nat) (Z0 : n0 ≤ h0.size) (E_aa0 : Exa Z h0 aa0 "com/example/guarded_stream/guardedstream/query/ComparisonOperator") (F_aa0_ordinal : Fld Z h0 aa0 "java/lang/Enum" "ordinal" "I" (.int (2 : Int32))) :
    MetFree l (⟨"com/example/guarded_stream/guardedstream/query/ComparisonOperator", "holds", "(I)Z"⟩ : MethodName) (head1 (Jvm.Cond.code (⟨"com/example/guarded_stream/guardedstream/query/ComparisonOperator", "holds", "(I)Z"⟩ : MethodName) prog_18_method_5_code 2 (some .boolean) :: ws) ({ frames := 1, cells := 0, slots := 0, locals := 12 } : Room)) (fun a U => a = #[(.ref aa0), (.int pp1)] ∧ Z.Warmed39 U.vm ∧ U.heap = h0) (fun _ _ _ _ _ => True) (fun _ U o U' => ∃ v L, o = .returned v ∧ Q1_2 Z aa0 pp1 h0 n0 v U'.heap L ∧ FrameEnd U o U' L ({ frames := 1, cells := 0, slots := 0, locals := 12 } : Room).cells ({ frames := 1, cells := 0, slots := 0, locals := 12 } : Room).slots) := by
  refine MetFree.of_bodySF (plainFor_of_name pn_com_example_guarded_stream_guardedstream_query_ComparisonOperator) hisR ?_
  intro p e s m args below meth c s₁ Bd hml0 hP hK
  obtain ⟨rfl, hZ, hh⟩ := hP
  have hx := Bd.exec
  have hby := Bd.bytes
  have hml : c.maxLocals = 2 := hml0
  have hown : s.vm.findClass "com/example/guarded_stream/guardedstream/query/ComparisonOperator" = some m.cls := findClass_of_methodNamed Bd.named
  have hnm := (name_of_methodNamed Bd.named Bd.method).1
  have X0 : Stand p l e ({ frames := 1, cells := 0, slots := 0, locals := 12 } : Room) s m #[(.ref aa0), (.int pp1)] below meth c s₁ [] 0 0 := Stand.of_body Bd
  have e0 : s₁.heap = h0 := by rw [← hh, Bd.state]; rfl
  have N0 := Fr.nil n0
  have pre0 : ∀ t, Steps p.tables e below (s₁.setTop (mkF m 0 #[.val (.ref aa0), .val (.int pp1)] [])) t → Steps p.tables e below (s₁.setTop (entryFrame m #[(.ref aa0), (.int pp1)] 2)) t := fun t k => castTop (ef_1_2 m aa0 pp1) k
  obtain ⟨cq1, kq1, q1a, q1b, q1c⟩ := isOf hZ e0 E_aa0
  obtain ⟨_, _, ⟨T1, L1, k1, n1⟩, -, X1, ⟨Lc1, hQ1, l1, y1, z1⟩, st1⟩ := X0.virtualBackUp hx (x := (⟨"com/example/guarded_stream/guardedstream/query/ComparisonOperator", "ordinal", "()I"⟩ : MethodName)) (y := (⟨"java/lang/Enum", "ordinal", "()I"⟩ : MethodName)) (owner := "java/lang/Enum") hown (mvT hZ (hw _ (List.mem_of_getElem? (i := 9) rfl))) (mvT hZ (hw _ (List.mem_of_getElem? (i := 10) rfl))) (mvT hZ (hw _ (List.mem_of_getElem? (i := 11) rfl))) (by decide) (mvT hZ (hw _ (List.mem_of_getElem? (i := 13) rfl))) (mvT hZ (hw _ (List.mem_of_getElem? (i := 12) rfl))) (backOf (W := 0) (rm2 l Z a0 hw [] aa0 (2 : Int32) h0 n0 Z0 F_aa0_ordinal) hZ (hw _ (List.mem_of_getElem? (i := 15) rfl)) (hw _ (List.mem_of_getElem? (i := 14) rfl)) (by decide) (by decide)) q1a q1c (g := (mkF m 1 #[.val (.ref aa0), .val (.int pp1)] [(.ref aa0)])) rfl (by rw [hml]; rfl) (Steps.refl _) (argsL := []) (rest := []) (lenOf pd__28__29_I rfl) rfl (by show 2 * 0 + _ ≤ _; exact Nat.le_of_eq rfl) (hb hby d1_1) (fun _ _ => ⟨rfl, e0, (by decide : 0 + 0 ≤ _), (by decide : 0 + 0 ≤ _)⟩)
  dsimp only [Pt.U, Pt.locs, Pt.cells, Pt.slots] at X1 l1 y1 z1 st1 hQ1
  subst l1 y1 z1
  obtain ⟨rfl, N1q, e1⟩ := hQ1
  have N1 := Fr.app N0 N1q
  have pre2 : ∀ t, Steps p.tables e below (T1.setTop (mkF m 65 #[.val (.ref aa0), .val (.int pp1)] [(.int pp1)])) t → Steps p.tables e below (s₁.setTop (entryFrame m #[(.ref aa0), (.int pp1)] 2)) t := fun t kt => pre0 t (by
    show Steps p.tables e below (s₁.setTop (mkF m 0 #[.val (.ref aa0), .val (.int pp1)] [])) _
    refine XS.aloadN X0.here hx rfl (hb hby d1_0) rfl rfl ?_
    show Steps p.tables e below (s₁.setTop (mkF m 1 #[.val (.ref aa0), .val (.int pp1)] [(.ref aa0)])) _
    refine st1.trans ?_
    show Steps p.tables e below (T1.setTop (mkF m 4 #[.val (.ref aa0), .val (.int pp1)] [(.int (2 : Int32))])) _
    refine XS.tswIn X1.here hx rfl (pc0 := 4) (pc' := 64) rfl (hb hby d1_4) rfl (by decide) (o := 60) rfl (by decide) (by decide) ?_
    show Steps p.tables e below (T1.setTop (mkF m 64 #[.val (.ref aa0), .val (.int pp1)] [])) _
    refine XS.iloadN X1.here hx rfl (hb hby d1_64) rfl ?_
    exact kt)
  by_cases hc65 : pp1 < (0 : Int32)
  · skip
    obtain ⟨fs, hr, hrun, hended, hW, hsame⟩ := X1.leave (v := some (.int (1 : Int32))) (fun h => by rw [Bd.returns] at h; cases h)
    refine ⟨_, _, pre2 _ ?_, hrun, hended, _, _, rfl, ?_, ⟨_, rfl⟩, hW, hsame.mono (by decide) (by decide)⟩
    · show Steps p.tables e below (T1.setTop (mkF m 65 #[.val (.ref aa0), .val (.int pp1)] [(.int pp1)])) _
      refine XS.ifNo X1.here hx rfl (hb hby d1_65) rfl ((if0 _ _).trans (tlt hc65).2.1) ?_
      show Steps p.tables e below (T1.setTop (mkF m 68 #[.val (.ref aa0), .val (.int pp1)] [])) _
      refine XS.iconst X1.here hx rfl (hb hby d1_68) ?_
      show Steps p.tables e below (T1.setTop (mkF m 69 #[.val (.ref aa0), .val (.int pp1)] [(.int (1 : Int32))])) _
      refine XS.goto X1.here hx rfl (pc0 := 69) (pc' := 73) rfl (hb hby d1_69) (by decide) (by decide) ?_
      show Steps p.tables e below (T1.setTop (mkF m 73 #[.val (.ref aa0), .val (.int pp1)] [(.int (1 : Int32))])) _
      exact retN X1 hx (t := .boolean) Bd.returns (by simp) (hb hby d1_73) hr
    · show Q1_2 Z aa0 pp1 h0 n0 _ T1.heap _
      rw [e1]
      exact ⟨(by first | rw [if_pos hc65] | rw [if_neg hc65]), N1, rfl⟩
  · skip
    obtain ⟨fs, hr, hrun, hended, hW, hsame⟩ := X1.leave (v := some (.int (0 : Int32))) (fun h => by rw [Bd.returns] at h; cases h)
    refine ⟨_, _, pre2 _ ?_, hrun, hended, _, _, rfl, ?_, ⟨_, rfl⟩, hW, hsame.mono (by decide) (by decide)⟩
    · show Steps p.tables e below (T1.setTop (mkF m 65 #[.val (.ref aa0), .val (.int pp1)] [(.int pp1)])) _
      refine XS.ifYes X1.here hx rfl (pc0 := 65) (pc' := 72) rfl (hb hby d1_65) rfl ((if0 _ _).trans (flt hc65).2.1) (by decide) (by decide) ?_
      show Steps p.tables e below (T1.setTop (mkF m 72 #[.val (.ref aa0), .val (.int pp1)] [])) _
      refine XS.iconst X1.here hx rfl (hb hby d1_72) ?_
      show Steps p.tables e below (T1.setTop (mkF m 73 #[.val (.ref aa0), .val (.int pp1)] [(.int (0 : Int32))])) _
      exact retN X1 hx (t := .boolean) Bd.returns (by simp) (hb hby d1_73) hr
    · show Q1_2 Z aa0 pp1 h0 n0 _ T1.heap _
      rw [e1]
      exact ⟨(by first | rw [if_pos hc65] | rw [if_neg hc65]), N1, rfl⟩
theorem d1_74 : decode prog_18_method_5_code 74 = .ok (.iload_n 1, 1) := by decide +kernel
theorem d1_75 : decode prog_18_method_5_code 75 = .ok (.ifCond .gt 7, 3) := by decide +kernel
theorem d1_78 : decode prog_18_method_5_code 78 = .ok (.iconst 1, 1) := by decide +kernel
theorem d1_79 : decode prog_18_method_5_code 79 = .ok (.goto 4, 3) := by decide +kernel
theorem d1_82 : decode prog_18_method_5_code 82 = .ok (.iconst 0, 1) := by decide +kernel
theorem d1_83 : decode prog_18_method_5_code 83 = .ok (.ireturn, 1) := by decide +kernel
theorem ef_1_3 (m : MethodId) (x0 : Addr) (x1 : Int32) : entryFrame m #[(.ref x0), (.int x1)] 2 = mkF m 0 #[.val (.ref x0), .val (.int x1)] [] := by first | (simp [entryFrame, mkF, argsToLocals, Value.category]; done) | rfl
def Q1_3 (Z : State) (aa0 : Addr) (pp1 : Int32) (h0 : Heap) (n0 : Nat) (v : Option Value) (h : Heap) (L : List Loc) : Prop := v = some (.int (if (0 : Int32) < pp1 then (0 : Int32) else (1 : Int32))) ∧ Fr n0 L ∧ h = h0
set_option maxRecDepth 65536 in
set_option maxHeartbeats 40000000 in
theorem rm1_3 (l : Launch) (Z : State) (a0 : Array Value) (hw : ∀ d ∈ tables_1, d.before a0 Z = true) (ws : List Jvm.Cond) (aa0 : Addr) (pp1 : Int32) (h0 : Heap) (n0 : Nat) (Z0 : n0 ≤ h0.size) (E_aa0 : Exa Z h0 aa0 "com/example/guarded_stream/guardedstream/query/ComparisonOperator") (F_aa0_ordinal : Fld Z h0 aa0 "java/lang/Enum" "ordinal" "I" (.int (3 : Int32))) :
    MetFree l (⟨"com/example/guarded_stream/guardedstream/query/ComparisonOperator", "holds", "(I)Z"⟩ : MethodName) (head1 (Jvm.Cond.code (⟨"com/example/guarded_stream/guardedstream/query/ComparisonOperator", "holds", "(I)Z"⟩ : MethodName) prog_18_method_5_code 2 (some .boolean) :: ws) ({ frames := 1, cells := 0, slots := 0, locals := 12 } : Room)) (fun a U => a = #[(.ref aa0), (.int pp1)] ∧ Z.Warmed39 U.vm ∧ U.heap = h0) (fun _ _ _ _ _ => True) (fun _ U o U' => ∃ v L, o = .returned v ∧ Q1_3 Z aa0 pp1 h0 n0 v U'.heap L ∧ FrameEnd U o U' L ({ frames := 1, cells := 0, slots := 0, locals := 12 } : Room).cells ({ frames := 1, cells := 0, slots := 0, locals := 12 } : Room).slots) := by
  refine MetFree.of_bodySF (plainFor_of_name pn_com_example_guarded_stream_guardedstream_query_ComparisonOperator) hisR ?_
  intro p e s m args below meth c s₁ Bd hml0 hP hK
  obtain ⟨rfl, hZ, hh⟩ := hP
  have hx := Bd.exec
  have hby := Bd.bytes
  have hml : c.maxLocals = 2 := hml0
  have hown : s.vm.findClass "com/example/guarded_stream/guardedstream/query/ComparisonOperator" = some m.cls := findClass_of_methodNamed Bd.named
  have hnm := (name_of_methodNamed Bd.named Bd.method).1
  have X0 : Stand p l e ({ frames := 1, cells := 0, slots := 0, locals := 12 } : Room) s m #[(.ref aa0), (.int pp1)] below meth c s₁ [] 0 0 := Stand.of_body Bd
  have e0 : s₁.heap = h0 := by rw [← hh, Bd.state]; rfl
  have N0 := Fr.nil n0
  have pre0 : ∀ t, Steps p.tables e below (s₁.setTop (mkF m 0 #[.val (.ref aa0), .val (.int pp1)] [])) t → Steps p.tables e below (s₁.setTop (entryFrame m #[(.ref aa0), (.int pp1)] 2)) t := fun t k => castTop (ef_1_3 m aa0 pp1) k
  obtain ⟨cq1, kq1, q1a, q1b, q1c⟩ := isOf hZ e0 E_aa0
  obtain ⟨_, _, ⟨T1, L1, k1, n1⟩, -, X1, ⟨Lc1, hQ1, l1, y1, z1⟩, st1⟩ := X0.virtualBackUp hx (x := (⟨"com/example/guarded_stream/guardedstream/query/ComparisonOperator", "ordinal", "()I"⟩ : MethodName)) (y := (⟨"java/lang/Enum", "ordinal", "()I"⟩ : MethodName)) (owner := "java/lang/Enum") hown (mvT hZ (hw _ (List.mem_of_getElem? (i := 9) rfl))) (mvT hZ (hw _ (List.mem_of_getElem? (i := 10) rfl))) (mvT hZ (hw _ (List.mem_of_getElem? (i := 11) rfl))) (by decide) (mvT hZ (hw _ (List.mem_of_getElem? (i := 13) rfl))) (mvT hZ (hw _ (List.mem_of_getElem? (i := 12) rfl))) (backOf (W := 0) (rm2 l Z a0 hw [] aa0 (3 : Int32) h0 n0 Z0 F_aa0_ordinal) hZ (hw _ (List.mem_of_getElem? (i := 15) rfl)) (hw _ (List.mem_of_getElem? (i := 14) rfl)) (by decide) (by decide)) q1a q1c (g := (mkF m 1 #[.val (.ref aa0), .val (.int pp1)] [(.ref aa0)])) rfl (by rw [hml]; rfl) (Steps.refl _) (argsL := []) (rest := []) (lenOf pd__28__29_I rfl) rfl (by show 2 * 0 + _ ≤ _; exact Nat.le_of_eq rfl) (hb hby d1_1) (fun _ _ => ⟨rfl, e0, (by decide : 0 + 0 ≤ _), (by decide : 0 + 0 ≤ _)⟩)
  dsimp only [Pt.U, Pt.locs, Pt.cells, Pt.slots] at X1 l1 y1 z1 st1 hQ1
  subst l1 y1 z1
  obtain ⟨rfl, N1q, e1⟩ := hQ1
  have N1 := Fr.app N0 N1q
  have pre2 : ∀ t, Steps p.tables e below (T1.setTop (mkF m 75 #[.val (.ref aa0), .val (.int pp1)] [(.int pp1)])) t → Steps p.tables e below (s₁.setTop (entryFrame m #[(.ref aa0), (.int pp1)] 2)) t := fun t kt => pre0 t (by
    show Steps p.tables e below (s₁.setTop (mkF m 0 #[.val (.ref aa0), .val (.int pp1)] [])) _
    refine XS.aloadN X0.here hx rfl (hb hby d1_0) rfl rfl ?_
    show Steps p.tables e below (s₁.setTop (mkF m 1 #[.val (.ref aa0), .val (.int pp1)] [(.ref aa0)])) _
    refine st1.trans ?_
    show Steps p.tables e below (T1.setTop (mkF m 4 #[.val (.ref aa0), .val (.int pp1)] [(.int (3 : Int32))])) _
    refine XS.tswIn X1.here hx rfl (pc0 := 4) (pc' := 74) rfl (hb hby d1_4) rfl (by decide) (o := 70) rfl (by decide) (by decide) ?_
    show Steps p.tables e below (T1.setTop (mkF m 74 #[.val (.ref aa0), .val (.int pp1)] [])) _
    refine XS.iloadN X1.here hx rfl (hb hby d1_74) rfl ?_
    exact kt)
  by_cases hc75 : (0 : Int32) < pp1
  · skip
    obtain ⟨fs, hr, hrun, hended, hW, hsame⟩ := X1.leave (v := some (.int (0 : Int32))) (fun h => by rw [Bd.returns] at h; cases h)
    refine ⟨_, _, pre2 _ ?_, hrun, hended, _, _, rfl, ?_, ⟨_, rfl⟩, hW, hsame.mono (by decide) (by decide)⟩
    · show Steps p.tables e below (T1.setTop (mkF m 75 #[.val (.ref aa0), .val (.int pp1)] [(.int pp1)])) _
      refine XS.ifYes X1.here hx rfl (pc0 := 75) (pc' := 82) rfl (hb hby d1_75) rfl ((if0 _ _).trans (tlt hc75).2.2.1) (by decide) (by decide) ?_
      show Steps p.tables e below (T1.setTop (mkF m 82 #[.val (.ref aa0), .val (.int pp1)] [])) _
      refine XS.iconst X1.here hx rfl (hb hby d1_82) ?_
      show Steps p.tables e below (T1.setTop (mkF m 83 #[.val (.ref aa0), .val (.int pp1)] [(.int (0 : Int32))])) _
      exact retN X1 hx (t := .boolean) Bd.returns (by simp) (hb hby d1_83) hr
    · show Q1_3 Z aa0 pp1 h0 n0 _ T1.heap _
      rw [e1]
      exact ⟨(by first | rw [if_pos hc75] | rw [if_neg hc75]), N1, rfl⟩
  · skip
    obtain ⟨fs, hr, hrun, hended, hW, hsame⟩ := X1.leave (v := some (.int (1 : Int32))) (fun h => by rw [Bd.returns] at h; cases h)
    refine ⟨_, _, pre2 _ ?_, hrun, hended, _, _, rfl, ?_, ⟨_, rfl⟩, hW, hsame.mono (by decide) (by decide)⟩
    · show Steps p.tables e below (T1.setTop (mkF m 75 #[.val (.ref aa0), .val (.int pp1)] [(.int pp1)])) _
      refine XS.ifNo X1.here hx rfl (hb hby d1_75) rfl ((if0 _ _).trans (flt hc75).2.2.1) ?_
      show Steps p.tables e below (T1.setTop (mkF m 78 #[.val (.ref aa0), .val (.int pp1)] [])) _
      refine XS.iconst X1.here hx rfl (hb hby d1_78) ?_
      show Steps p.tables e below (T1.setTop (mkF m 79 #[.val (.ref aa0), .val (.int pp1)] [(.int (1 : Int32))])) _
      refine XS.goto X1.here hx rfl (pc0 := 79) (pc' := 83) rfl (hb hby d1_79) (by decide) (by decide) ?_
      show Steps p.tables e below (T1.setTop (mkF m 83 #[.val (.ref aa0), .val (.int pp1)] [(.int (1 : Int32))])) _
      exact retN X1 hx (t := .boolean) Bd.returns (by simp) (hb hby d1_83) hr
    · show Q1_3 Z aa0 pp1 h0 n0 _ T1.heap _
      rw [e1]
      exact ⟨(by first | rw [if_pos hc75] | rw [if_neg hc75]), N1, rfl⟩
theorem d1_84 : decode prog_18_method_5_code 84 = .ok (.iload_n 1, 1) := by decide +kernel
theorem d1_85 : decode prog_18_method_5_code 85 = .ok (.ifCond .le 7, 3) := by decide +kernel
theorem d1_88 : decode prog_18_method_5_code 88 = .ok (.iconst 1, 1) := by decide +kernel
theorem d1_89 : decode prog_18_method_5_code 89 = .ok (.goto 4, 3) := by decide +kernel
theorem d1_92 : decode prog_18_method_5_code 92 = .ok (.iconst 0, 1) := by decide +kernel
theorem d1_93 : decode prog_18_method_5_code 93 = .ok (.ireturn, 1) := by decide +kernel
theorem ef_1_4 (m : MethodId) (x0 : Addr) (x1 : Int32) : entryFrame m #[(.ref x0), (.int x1)] 2 = mkF m 0 #[.val (.ref x0), .val (.int x1)] [] := by first | (simp [entryFrame, mkF, argsToLocals, Value.category]; done) | rfl
def Q1_4 (Z : State) (aa0 : Addr) (pp1 : Int32) (h0 : Heap) (n0 : Nat) (v : Option Value) (h : Heap) (L : List Loc) : Prop := v = some (.int (if (0 : Int32) < pp1 then (1 : Int32) else (0 : Int32))) ∧ Fr n0 L ∧ h = h0
set_option maxRecDepth 65536 in
set_option maxHeartbeats 40000000 in
theorem rm1_4 (l : Launch) (Z : State) (a0 : Array Value) (hw : ∀ d ∈ tables_1, d.before a0 Z = true) (ws : List Jvm.Cond) (aa0 : Addr) (pp1 : Int32) (h0 : Heap) (n0 : Nat) (Z0 : n0 ≤ h0.size) (E_aa0 : Exa Z h0 aa0 "com/example/guarded_stream/guardedstream/query/ComparisonOperator") (F_aa0_ordinal : Fld Z h0 aa0 "java/lang/Enum" "ordinal" "I" (.int (4 : Int32))) :
    MetFree l (⟨"com/example/guarded_stream/guardedstream/query/ComparisonOperator", "holds", "(I)Z"⟩ : MethodName) (head1 (Jvm.Cond.code (⟨"com/example/guarded_stream/guardedstream/query/ComparisonOperator", "holds", "(I)Z"⟩ : MethodName) prog_18_method_5_code 2 (some .boolean) :: ws) ({ frames := 1, cells := 0, slots := 0, locals := 12 } : Room)) (fun a U => a = #[(.ref aa0), (.int pp1)] ∧ Z.Warmed39 U.vm ∧ U.heap = h0) (fun _ _ _ _ _ => True) (fun _ U o U' => ∃ v L, o = .returned v ∧ Q1_4 Z aa0 pp1 h0 n0 v U'.heap L ∧ FrameEnd U o U' L ({ frames := 1, cells := 0, slots := 0, locals := 12 } : Room).cells ({ frames := 1, cells := 0, slots := 0, locals := 12 } : Room).slots) := by
  refine MetFree.of_bodySF (plainFor_of_name pn_com_example_guarded_stream_guardedstream_query_ComparisonOperator) hisR ?_
  intro p e s m args below meth c s₁ Bd hml0 hP hK
  obtain ⟨rfl, hZ, hh⟩ := hP
  have hx := Bd.exec
  have hby := Bd.bytes
  have hml : c.maxLocals = 2 := hml0
  have hown : s.vm.findClass "com/example/guarded_stream/guardedstream/query/ComparisonOperator" = some m.cls := findClass_of_methodNamed Bd.named
  have hnm := (name_of_methodNamed Bd.named Bd.method).1
  have X0 : Stand p l e ({ frames := 1, cells := 0, slots := 0, locals := 12 } : Room) s m #[(.ref aa0), (.int pp1)] below meth c s₁ [] 0 0 := Stand.of_body Bd
  have e0 : s₁.heap = h0 := by rw [← hh, Bd.state]; rfl
  have N0 := Fr.nil n0
  have pre0 : ∀ t, Steps p.tables e below (s₁.setTop (mkF m 0 #[.val (.ref aa0), .val (.int pp1)] [])) t → Steps p.tables e below (s₁.setTop (entryFrame m #[(.ref aa0), (.int pp1)] 2)) t := fun t k => castTop (ef_1_4 m aa0 pp1) k
  obtain ⟨cq1, kq1, q1a, q1b, q1c⟩ := isOf hZ e0 E_aa0
  obtain ⟨_, _, ⟨T1, L1, k1, n1⟩, -, X1, ⟨Lc1, hQ1, l1, y1, z1⟩, st1⟩ := X0.virtualBackUp hx (x := (⟨"com/example/guarded_stream/guardedstream/query/ComparisonOperator", "ordinal", "()I"⟩ : MethodName)) (y := (⟨"java/lang/Enum", "ordinal", "()I"⟩ : MethodName)) (owner := "java/lang/Enum") hown (mvT hZ (hw _ (List.mem_of_getElem? (i := 9) rfl))) (mvT hZ (hw _ (List.mem_of_getElem? (i := 10) rfl))) (mvT hZ (hw _ (List.mem_of_getElem? (i := 11) rfl))) (by decide) (mvT hZ (hw _ (List.mem_of_getElem? (i := 13) rfl))) (mvT hZ (hw _ (List.mem_of_getElem? (i := 12) rfl))) (backOf (W := 0) (rm2 l Z a0 hw [] aa0 (4 : Int32) h0 n0 Z0 F_aa0_ordinal) hZ (hw _ (List.mem_of_getElem? (i := 15) rfl)) (hw _ (List.mem_of_getElem? (i := 14) rfl)) (by decide) (by decide)) q1a q1c (g := (mkF m 1 #[.val (.ref aa0), .val (.int pp1)] [(.ref aa0)])) rfl (by rw [hml]; rfl) (Steps.refl _) (argsL := []) (rest := []) (lenOf pd__28__29_I rfl) rfl (by show 2 * 0 + _ ≤ _; exact Nat.le_of_eq rfl) (hb hby d1_1) (fun _ _ => ⟨rfl, e0, (by decide : 0 + 0 ≤ _), (by decide : 0 + 0 ≤ _)⟩)
  dsimp only [Pt.U, Pt.locs, Pt.cells, Pt.slots] at X1 l1 y1 z1 st1 hQ1
  subst l1 y1 z1
  obtain ⟨rfl, N1q, e1⟩ := hQ1
  have N1 := Fr.app N0 N1q
  have pre2 : ∀ t, Steps p.tables e below (T1.setTop (mkF m 85 #[.val (.ref aa0), .val (.int pp1)] [(.int pp1)])) t → Steps p.tables e below (s₁.setTop (entryFrame m #[(.ref aa0), (.int pp1)] 2)) t := fun t kt => pre0 t (by
    show Steps p.tables e below (s₁.setTop (mkF m 0 #[.val (.ref aa0), .val (.int pp1)] [])) _
    refine XS.aloadN X0.here hx rfl (hb hby d1_0) rfl rfl ?_
    show Steps p.tables e below (s₁.setTop (mkF m 1 #[.val (.ref aa0), .val (.int pp1)] [(.ref aa0)])) _
    refine st1.trans ?_
    show Steps p.tables e below (T1.setTop (mkF m 4 #[.val (.ref aa0), .val (.int pp1)] [(.int (4 : Int32))])) _
    refine XS.tswIn X1.here hx rfl (pc0 := 4) (pc' := 84) rfl (hb hby d1_4) rfl (by decide) (o := 80) rfl (by decide) (by decide) ?_
    show Steps p.tables e below (T1.setTop (mkF m 84 #[.val (.ref aa0), .val (.int pp1)] [])) _
    refine XS.iloadN X1.here hx rfl (hb hby d1_84) rfl ?_
    exact kt)
  by_cases hc85 : (0 : Int32) < pp1
  · skip
    obtain ⟨fs, hr, hrun, hended, hW, hsame⟩ := X1.leave (v := some (.int (1 : Int32))) (fun h => by rw [Bd.returns] at h; cases h)
    refine ⟨_, _, pre2 _ ?_, hrun, hended, _, _, rfl, ?_, ⟨_, rfl⟩, hW, hsame.mono (by decide) (by decide)⟩
    · show Steps p.tables e below (T1.setTop (mkF m 85 #[.val (.ref aa0), .val (.int pp1)] [(.int pp1)])) _
      refine XS.ifNo X1.here hx rfl (hb hby d1_85) rfl ((if0 _ _).trans (tlt hc85).2.2.2) ?_
      show Steps p.tables e below (T1.setTop (mkF m 88 #[.val (.ref aa0), .val (.int pp1)] [])) _
      refine XS.iconst X1.here hx rfl (hb hby d1_88) ?_
      show Steps p.tables e below (T1.setTop (mkF m 89 #[.val (.ref aa0), .val (.int pp1)] [(.int (1 : Int32))])) _
      refine XS.goto X1.here hx rfl (pc0 := 89) (pc' := 93) rfl (hb hby d1_89) (by decide) (by decide) ?_
      show Steps p.tables e below (T1.setTop (mkF m 93 #[.val (.ref aa0), .val (.int pp1)] [(.int (1 : Int32))])) _
      exact retN X1 hx (t := .boolean) Bd.returns (by simp) (hb hby d1_93) hr
    · show Q1_4 Z aa0 pp1 h0 n0 _ T1.heap _
      rw [e1]
      exact ⟨(by first | rw [if_pos hc85] | rw [if_neg hc85]), N1, rfl⟩
  · skip
    obtain ⟨fs, hr, hrun, hended, hW, hsame⟩ := X1.leave (v := some (.int (0 : Int32))) (fun h => by rw [Bd.returns] at h; cases h)
    refine ⟨_, _, pre2 _ ?_, hrun, hended, _, _, rfl, ?_, ⟨_, rfl⟩, hW, hsame.mono (by decide) (by decide)⟩
    · show Steps p.tables e below (T1.setTop (mkF m 85 #[.val (.ref aa0), .val (.int pp1)] [(.int pp1)])) _
      refine XS.ifYes X1.here hx rfl (pc0 := 85) (pc' := 92) rfl (hb hby d1_85) rfl ((if0 _ _).trans (flt hc85).2.2.2) (by decide) (by decide) ?_
      show Steps p.tables e below (T1.setTop (mkF m 92 #[.val (.ref aa0), .val (.int pp1)] [])) _
      refine XS.iconst X1.here hx rfl (hb hby d1_92) ?_
      show Steps p.tables e below (T1.setTop (mkF m 93 #[.val (.ref aa0), .val (.int pp1)] [(.int (0 : Int32))])) _
      exact retN X1 hx (t := .boolean) Bd.returns (by simp) (hb hby d1_93) hr
    · show Q1_4 Z aa0 pp1 h0 n0 _ T1.heap _
      rw [e1]
      exact ⟨(by first | rw [if_pos hc85] | rw [if_neg hc85]), N1, rfl⟩
theorem d1_94 : decode prog_18_method_5_code 94 = .ok (.iload_n 1, 1) := by decide +kernel
theorem d1_95 : decode prog_18_method_5_code 95 = .ok (.ifCond .lt 7, 3) := by decide +kernel
theorem d1_98 : decode prog_18_method_5_code 98 = .ok (.iconst 1, 1) := by decide +kernel
theorem d1_99 : decode prog_18_method_5_code 99 = .ok (.goto 4, 3) := by decide +kernel
theorem d1_102 : decode prog_18_method_5_code 102 = .ok (.iconst 0, 1) := by decide +kernel
theorem d1_103 : decode prog_18_method_5_code 103 = .ok (.ireturn, 1) := by decide +kernel
theorem ef_1_5 (m : MethodId) (x0 : Addr) (x1 : Int32) : entryFrame m #[(.ref x0), (.int x1)] 2 = mkF m 0 #[.val (.ref x0), .val (.int x1)] [] := by first | (simp [entryFrame, mkF, argsToLocals, Value.category]; done) | rfl
def Q1_5 (Z : State) (aa0 : Addr) (pp1 : Int32) (h0 : Heap) (n0 : Nat) (v : Option Value) (h : Heap) (L : List Loc) : Prop := v = some (.int (if pp1 < (0 : Int32) then (0 : Int32) else (1 : Int32))) ∧ Fr n0 L ∧ h = h0
set_option maxRecDepth 65536 in
set_option maxHeartbeats 40000000 in
theorem rm1_5 (l : Launch) (Z : State) (a0 : Array Value) (hw : ∀ d ∈ tables_1, d.before a0 Z = true) (ws : List Jvm.Cond) (aa0 : Addr) (pp1 : Int32) (h0 : Heap) (n0 : Nat) (Z0 : n0 ≤ h0.size) (E_aa0 : Exa Z h0 aa0 "com/example/guarded_stream/guardedstream/query/ComparisonOperator") (F_aa0_ordinal : Fld Z h0 aa0 "java/lang/Enum" "ordinal" "I" (.int (5 : Int32))) :
    MetFree l (⟨"com/example/guarded_stream/guardedstream/query/ComparisonOperator", "holds", "(I)Z"⟩ : MethodName) (head1 (Jvm.Cond.code (⟨"com/example/guarded_stream/guardedstream/query/ComparisonOperator", "holds", "(I)Z"⟩ : MethodName) prog_18_method_5_code 2 (some .boolean) :: ws) ({ frames := 1, cells := 0, slots := 0, locals := 12 } : Room)) (fun a U => a = #[(.ref aa0), (.int pp1)] ∧ Z.Warmed39 U.vm ∧ U.heap = h0) (fun _ _ _ _ _ => True) (fun _ U o U' => ∃ v L, o = .returned v ∧ Q1_5 Z aa0 pp1 h0 n0 v U'.heap L ∧ FrameEnd U o U' L ({ frames := 1, cells := 0, slots := 0, locals := 12 } : Room).cells ({ frames := 1, cells := 0, slots := 0, locals := 12 } : Room).slots) := by
  refine MetFree.of_bodySF (plainFor_of_name pn_com_example_guarded_stream_guardedstream_query_ComparisonOperator) hisR ?_
  intro p e s m args below meth c s₁ Bd hml0 hP hK
  obtain ⟨rfl, hZ, hh⟩ := hP
  have hx := Bd.exec
  have hby := Bd.bytes
  have hml : c.maxLocals = 2 := hml0
  have hown : s.vm.findClass "com/example/guarded_stream/guardedstream/query/ComparisonOperator" = some m.cls := findClass_of_methodNamed Bd.named
  have hnm := (name_of_methodNamed Bd.named Bd.method).1
  have X0 : Stand p l e ({ frames := 1, cells := 0, slots := 0, locals := 12 } : Room) s m #[(.ref aa0), (.int pp1)] below meth c s₁ [] 0 0 := Stand.of_body Bd
  have e0 : s₁.heap = h0 := by rw [← hh, Bd.state]; rfl
  have N0 := Fr.nil n0
  have pre0 : ∀ t, Steps p.tables e below (s₁.setTop (mkF m 0 #[.val (.ref aa0), .val (.int pp1)] [])) t → Steps p.tables e below (s₁.setTop (entryFrame m #[(.ref aa0), (.int pp1)] 2)) t := fun t k => castTop (ef_1_5 m aa0 pp1) k
  obtain ⟨cq1, kq1, q1a, q1b, q1c⟩ := isOf hZ e0 E_aa0
  obtain ⟨_, _, ⟨T1, L1, k1, n1⟩, -, X1, ⟨Lc1, hQ1, l1, y1, z1⟩, st1⟩ := X0.virtualBackUp hx (x := (⟨"com/example/guarded_stream/guardedstream/query/ComparisonOperator", "ordinal", "()I"⟩ : MethodName)) (y := (⟨"java/lang/Enum", "ordinal", "()I"⟩ : MethodName)) (owner := "java/lang/Enum") hown (mvT hZ (hw _ (List.mem_of_getElem? (i := 9) rfl))) (mvT hZ (hw _ (List.mem_of_getElem? (i := 10) rfl))) (mvT hZ (hw _ (List.mem_of_getElem? (i := 11) rfl))) (by decide) (mvT hZ (hw _ (List.mem_of_getElem? (i := 13) rfl))) (mvT hZ (hw _ (List.mem_of_getElem? (i := 12) rfl))) (backOf (W := 0) (rm2 l Z a0 hw [] aa0 (5 : Int32) h0 n0 Z0 F_aa0_ordinal) hZ (hw _ (List.mem_of_getElem? (i := 15) rfl)) (hw _ (List.mem_of_getElem? (i := 14) rfl)) (by decide) (by decide)) q1a q1c (g := (mkF m 1 #[.val (.ref aa0), .val (.int pp1)] [(.ref aa0)])) rfl (by rw [hml]; rfl) (Steps.refl _) (argsL := []) (rest := []) (lenOf pd__28__29_I rfl) rfl (by show 2 * 0 + _ ≤ _; exact Nat.le_of_eq rfl) (hb hby d1_1) (fun _ _ => ⟨rfl, e0, (by decide : 0 + 0 ≤ _), (by decide : 0 + 0 ≤ _)⟩)
  dsimp only [Pt.U, Pt.locs, Pt.cells, Pt.slots] at X1 l1 y1 z1 st1 hQ1
  subst l1 y1 z1
  obtain ⟨rfl, N1q, e1⟩ := hQ1
  have N1 := Fr.app N0 N1q
  have pre2 : ∀ t, Steps p.tables e below (T1.setTop (mkF m 95 #[.val (.ref aa0), .val (.int pp1)] [(.int pp1)])) t → Steps p.tables e below (s₁.setTop (entryFrame m #[(.ref aa0), (.int pp1)] 2)) t := fun t kt => pre0 t (by
    show Steps p.tables e below (s₁.setTop (mkF m 0 #[.val (.ref aa0), .val (.int pp1)] [])) _
    refine XS.aloadN X0.here hx rfl (hb hby d1_0) rfl rfl ?_
    show Steps p.tables e below (s₁.setTop (mkF m 1 #[.val (.ref aa0), .val (.int pp1)] [(.ref aa0)])) _
    refine st1.trans ?_
    show Steps p.tables e below (T1.setTop (mkF m 4 #[.val (.ref aa0), .val (.int pp1)] [(.int (5 : Int32))])) _
    refine XS.tswIn X1.here hx rfl (pc0 := 4) (pc' := 94) rfl (hb hby d1_4) rfl (by decide) (o := 90) rfl (by decide) (by decide) ?_
    show Steps p.tables e below (T1.setTop (mkF m 94 #[.val (.ref aa0), .val (.int pp1)] [])) _
    refine XS.iloadN X1.here hx rfl (hb hby d1_94) rfl ?_
    exact kt)
  by_cases hc95 : pp1 < (0 : Int32)
  · skip
    obtain ⟨fs, hr, hrun, hended, hW, hsame⟩ := X1.leave (v := some (.int (0 : Int32))) (fun h => by rw [Bd.returns] at h; cases h)
    refine ⟨_, _, pre2 _ ?_, hrun, hended, _, _, rfl, ?_, ⟨_, rfl⟩, hW, hsame.mono (by decide) (by decide)⟩
    · show Steps p.tables e below (T1.setTop (mkF m 95 #[.val (.ref aa0), .val (.int pp1)] [(.int pp1)])) _
      refine XS.ifYes X1.here hx rfl (pc0 := 95) (pc' := 102) rfl (hb hby d1_95) rfl ((if0 _ _).trans (tlt hc95).1) (by decide) (by decide) ?_
      show Steps p.tables e below (T1.setTop (mkF m 102 #[.val (.ref aa0), .val (.int pp1)] [])) _
      refine XS.iconst X1.here hx rfl (hb hby d1_102) ?_
      show Steps p.tables e below (T1.setTop (mkF m 103 #[.val (.ref aa0), .val (.int pp1)] [(.int (0 : Int32))])) _
      exact retN X1 hx (t := .boolean) Bd.returns (by simp) (hb hby d1_103) hr
    · show Q1_5 Z aa0 pp1 h0 n0 _ T1.heap _
      rw [e1]
      exact ⟨(by first | rw [if_pos hc95] | rw [if_neg hc95]), N1, rfl⟩
  · skip
    obtain ⟨fs, hr, hrun, hended, hW, hsame⟩ := X1.leave (v := some (.int (1 : Int32))) (fun h => by rw [Bd.returns] at h; cases h)
    refine ⟨_, _, pre2 _ ?_, hrun, hended, _, _, rfl, ?_, ⟨_, rfl⟩, hW, hsame.mono (by decide) (by decide)⟩
    · show Steps p.tables e below (T1.setTop (mkF m 95 #[.val (.ref aa0), .val (.int pp1)] [(.int pp1)])) _
      refine XS.ifNo X1.here hx rfl (hb hby d1_95) rfl ((if0 _ _).trans (flt hc95).1) ?_
      show Steps p.tables e below (T1.setTop (mkF m 98 #[.val (.ref aa0), .val (.int pp1)] [])) _
      refine XS.iconst X1.here hx rfl (hb hby d1_98) ?_
      show Steps p.tables e below (T1.setTop (mkF m 99 #[.val (.ref aa0), .val (.int pp1)] [(.int (1 : Int32))])) _
      refine XS.goto X1.here hx rfl (pc0 := 99) (pc' := 103) rfl (hb hby d1_99) (by decide) (by decide) ?_
      show Steps p.tables e below (T1.setTop (mkF m 103 #[.val (.ref aa0), .val (.int pp1)] [(.int (1 : Int32))])) _
      exact retN X1 hx (t := .boolean) Bd.returns (by simp) (hb hby d1_103) hr
    · show Q1_5 Z aa0 pp1 h0 n0 _ T1.heap _
      rw [e1]
      exact ⟨(by first | rw [if_pos hc95] | rw [if_neg hc95]), N1, rfl⟩
theorem pd__28_I_29_Z : parseMethodDescriptor "(I)Z" = some ⟨[.int], some .boolean⟩ := by decide +kernel
theorem pn_com_example_guarded_stream_guardedstream_query_ComparisonOperatorHoldsPinLaw : plainName "com/example/guarded_stream/guardedstream/query/ComparisonOperatorHoldsPinLaw" = true := by first | (simp [plainName, overriddenIn]; done) | decide +kernel
theorem ef_0 (m : MethodId) (x0 : Int32) (x1 : Int32) : entryFrame m #[(.int x0), (.int x1)] maxLocals = mkF m 0 #[.val (.int x0), .val (.int x1), .unset, .unset, .unset, .unset, .unset] [] := by first | (simp [entryFrame, mkF, argsToLocals, Value.category, maxLocals]; done) | rfl
def Q0 (Z : State) (pp1 : Int32) (pp2 : Int32) (ob0 : Addr) (ob1 : Addr) (ob2 : Addr) (ob3 : Addr) (ob4 : Addr) (ob5 : Addr) (h0 : Heap) (n0 : Nat) (v : Option Value) (h : Heap) (L : List Loc) : Prop := v = some (.int 1) ∧ Fr n0 L
set_option maxRecDepth 65536 in
set_option maxHeartbeats 40000000 in
theorem rm0 (l : Launch) (Z : State) (a0 : Array Value) (hw : ∀ d ∈ tables_1, d.before a0 Z = true) (ws : List Jvm.Cond) (pp1 : Int32) (pp2 : Int32) (ob0 : Addr) (ob1 : Addr) (ob2 : Addr) (ob3 : Addr) (ob4 : Addr) (ob5 : Addr) (h0 : Heap) (n0 : Nat) (Z0 : n0 ≤ h0.size) (O0 : Old Z n0 h0) (S_EQUAL : Sta Z Z.heap "com/example/guarded_stream/guardedstream/query/ComparisonOperator" "EQUAL" "Lcom/example/guarded_stream/guardedstream/query/ComparisonOperator;" (.ref ob0)) (S_NOT_EQUAL : Sta Z Z.heap "com/example/guarded_stream/guardedstream/query/ComparisonOperator" "NOT_EQUAL" "Lcom/example/guarded_stream/guardedstream/query/ComparisonOperator;" (.ref ob1)) (S_LESS : Sta Z Z.heap "com/example/guarded_stream/guardedstream/query/ComparisonOperator" "LESS" "Lcom/example/guarded_stream/guardedstream/query/ComparisonOperator;" (.ref ob2)) (S_LESS_OR_EQUAL : Sta Z Z.heap "com/example/guarded_stream/guardedstream/query/ComparisonOperator" "LESS_OR_EQUAL" "Lcom/example/guarded_stream/guardedstream/query/ComparisonOperator;" (.ref ob3)) (S_GREATER : Sta Z Z.heap "com/example/guarded_stream/guardedstream/query/ComparisonOperator" "GREATER" "Lcom/example/guarded_stream/guardedstream/query/ComparisonOperator;" (.ref ob4)) (S_GREATER_OR_EQUAL : Sta Z Z.heap "com/example/guarded_stream/guardedstream/query/ComparisonOperator" "GREATER_OR_EQUAL" "Lcom/example/guarded_stream/guardedstream/query/ComparisonOperator;" (.ref ob5)) (E_ob0 : Exa Z h0 ob0 "com/example/guarded_stream/guardedstream/query/ComparisonOperator") (E_ob1 : Exa Z h0 ob1 "com/example/guarded_stream/guardedstream/query/ComparisonOperator") (E_ob2 : Exa Z h0 ob2 "com/example/guarded_stream/guardedstream/query/ComparisonOperator") (E_ob3 : Exa Z h0 ob3 "com/example/guarded_stream/guardedstream/query/ComparisonOperator") (E_ob4 : Exa Z h0 ob4 "com/example/guarded_stream/guardedstream/query/ComparisonOperator") (E_ob5 : Exa Z h0 ob5 "com/example/guarded_stream/guardedstream/query/ComparisonOperator") (F_ob0_ordinal : Fld Z h0 ob0 "java/lang/Enum" "ordinal" "I" (.int (0 : Int32))) (F_ob1_ordinal : Fld Z h0 ob1 "java/lang/Enum" "ordinal" "I" (.int (1 : Int32))) (F_ob2_ordinal : Fld Z h0 ob2 "java/lang/Enum" "ordinal" "I" (.int (2 : Int32))) (F_ob3_ordinal : Fld Z h0 ob3 "java/lang/Enum" "ordinal" "I" (.int (3 : Int32))) (F_ob4_ordinal : Fld Z h0 ob4 "java/lang/Enum" "ordinal" "I" (.int (4 : Int32))) (F_ob5_ordinal : Fld Z h0 ob5 "java/lang/Enum" "ordinal" "I" (.int (5 : Int32))) :
    MetFree l x (head1 (Jvm.Cond.code x code maxLocals ret :: ws) room_1) (fun a U => a = #[(.int pp1), (.int pp2)] ∧ Z.Warmed39 U.vm ∧ U.heap = h0) (fun _ _ _ _ _ => True) (fun _ U o U' => ∃ v L, o = .returned v ∧ Q0 Z pp1 pp2 ob0 ob1 ob2 ob3 ob4 ob5 h0 n0 v U'.heap L ∧ FrameEnd U o U' L room_1.cells room_1.slots) := by
  refine MetFree.of_bodySF (plainFor_of_name pn_com_example_guarded_stream_guardedstream_query_ComparisonOperatorHoldsPinLaw) hisR ?_
  intro p e s m args below meth c s₁ Bd hml0 hP hK
  obtain ⟨rfl, hZ, hh⟩ := hP
  have hx := Bd.exec
  have hby := Bd.bytes
  have hml : c.maxLocals = 7 := hml0
  have hown : s.vm.findClass "com/example/guarded_stream/guardedstream/query/ComparisonOperatorHoldsPinLaw" = some m.cls := findClass_of_methodNamed Bd.named
  have hnm := (name_of_methodNamed Bd.named Bd.method).1
  have X0 : Stand p l e room_1 s m #[(.int pp1), (.int pp2)] below meth c s₁ [] 0 0 := Stand.of_body Bd
  have e0 : s₁.heap = h0 := by rw [← hh, Bd.state]; rfl
  have N0 := Fr.nil n0
  have pre0 : ∀ t, Steps p.tables e below (s₁.setTop (mkF m 0 #[.val (.int pp1), .val (.int pp2), .unset, .unset, .unset, .unset, .unset] [])) t → Steps p.tables e below (s₁.setTop (entryFrame m #[(.int pp1), (.int pp2)] maxLocals)) t := fun t k => castTop (ef_0 m pp1 pp2) k
  have hc6 : (6 : Int32) ≠ (0 : Int32) := (by decide)
  have pre1 : ∀ t, Steps p.tables e below (s₁.setTop (mkF m 8 #[.val (.int pp1), .val (.int pp2), .val (.int ((pp1 &&& (2147483647 : Int32)) % (6 : Int32))), .unset, .unset, .unset, .unset] [])) t → Steps p.tables e below (s₁.setTop (entryFrame m #[(.int pp1), (.int pp2)] maxLocals)) t := fun t kt => pre0 t (by
    show Steps p.tables e below (s₁.setTop (mkF m 0 #[.val (.int pp1), .val (.int pp2), .unset, .unset, .unset, .unset, .unset] [])) _
    refine XS.iloadN X0.here hx rfl (hb hby at_0) rfl ?_
    show Steps p.tables e below (s₁.setTop (mkF m 1 #[.val (.int pp1), .val (.int pp2), .unset, .unset, .unset, .unset, .unset] [(.int pp1)])) _
    refine X0.ldcInt hx hown (mvT hZ (hw _ (List.mem_of_getElem? (i := 0) rfl))) (g := (mkF m 1 #[.val (.int pp1), .val (.int pp2), .unset, .unset, .unset, .unset, .unset] [(.int pp1)])) rfl (hb hby at_1) _ ?_
    show Steps p.tables e below (s₁.setTop (mkF m 3 #[.val (.int pp1), .val (.int pp2), .unset, .unset, .unset, .unset, .unset] [(.int (2147483647 : Int32)), (.int pp1)])) _
    refine XS.iand X0.here hx rfl (hb hby at_3) rfl ?_
    show Steps p.tables e below (s₁.setTop (mkF m 4 #[.val (.int pp1), .val (.int pp2), .unset, .unset, .unset, .unset, .unset] [(.int (pp1 &&& (2147483647 : Int32)))])) _
    refine XS.bipush X0.here hx rfl (hb hby at_4) ?_
    show Steps p.tables e below (s₁.setTop (mkF m 6 #[.val (.int pp1), .val (.int pp2), .unset, .unset, .unset, .unset, .unset] [(.int (6 : Int32)), (.int (pp1 &&& (2147483647 : Int32)))])) _
    refine iremM (g := (mkF m 6 #[.val (.int pp1), .val (.int pp2), .unset, .unset, .unset, .unset, .unset] [(.int (6 : Int32)), (.int (pp1 &&& (2147483647 : Int32)))])) X0 hx rfl (hb hby at_6) rfl hc6 ?_
    show Steps p.tables e below (s₁.setTop (mkF m 7 #[.val (.int pp1), .val (.int pp2), .unset, .unset, .unset, .unset, .unset] [(.int ((pp1 &&& (2147483647 : Int32)) % (6 : Int32)))])) _
    refine XS.istoreN X0.here hx rfl (hb hby at_7) rfl (l' := #[.val (.int pp1), .val (.int pp2), .val (.int ((pp1 &&& (2147483647 : Int32)) % (6 : Int32))), .unset, .unset, .unset, .unset]) rfl ?_
    exact kt)
  obtain ⟨kk, h_kk, pre2⟩ : ∃ (kk : Int32), (kk = (0 : Int32) ∨ kk = (1 : Int32) ∨ kk = (2 : Int32) ∨ kk = (3 : Int32) ∨ kk = (4 : Int32) ∨ kk = (5 : Int32)) ∧ ∀ t, Steps p.tables e below (s₁.setTop (mkF m 8 #[.val (.int pp1), .val (.int pp2), .val (.int kk), .unset, .unset, .unset, .unset] [])) t → Steps p.tables e below (s₁.setTop (entryFrame m #[(.int pp1), (.int pp2)] maxLocals)) t := ⟨((pp1 &&& (2147483647 : Int32)) % (6 : Int32)), own_k6 _, pre1⟩
  rcases h_kk with rfl | rfl | rfl | rfl | rfl | rfl
  · skip
    have hc9 : (0 : Int32) = (0 : Int32) := by decide
    obtain ⟨T3, X3, e3, st3⟩ := getS2 X0 hx hZ hown (host := "") (Or.inl (hw _ (List.mem_of_getElem? (i := 1) rfl))) Via.refl e0 (S_EQUAL.ext O0.2) (g := (mkF m 12 #[.val (.int pp1), .val (.int pp2), .val (.int (0 : Int32)), .unset, .unset, .unset, .unset] [])) rfl (hb hby at_12)
    have pre4 : ∀ t, Steps p.tables e below (T3.setTop (mkF m 90 #[.val (.int pp1), .val (.int pp2), .val (.int (0 : Int32)), .val (.ref ob0), .val (.int (2 : Int32)), .unset, .unset] [])) t → Steps p.tables e below (s₁.setTop (entryFrame m #[(.int pp1), (.int pp2)] maxLocals)) t := fun t kt => pre2 t (by
      show Steps p.tables e below (s₁.setTop (mkF m 8 #[.val (.int pp1), .val (.int pp2), .val (.int (0 : Int32)), .unset, .unset, .unset, .unset] [])) _
      refine XS.iloadN X0.here hx rfl (hb hby at_8) rfl ?_
      show Steps p.tables e below (s₁.setTop (mkF m 9 #[.val (.int pp1), .val (.int pp2), .val (.int (0 : Int32)), .unset, .unset, .unset, .unset] [(.int (0 : Int32))])) _
      refine XS.ifNo X0.here hx rfl (hb hby at_9) rfl ((if0 _ _).trans (teq hc9).2) ?_
      show Steps p.tables e below (s₁.setTop (mkF m 12 #[.val (.int pp1), .val (.int pp2), .val (.int (0 : Int32)), .unset, .unset, .unset, .unset] [])) _
      refine st3 _ ?_
      show Steps p.tables e below (T3.setTop (mkF m 15 #[.val (.int pp1), .val (.int pp2), .val (.int (0 : Int32)), .unset, .unset, .unset, .unset] [(.ref ob0)])) _
      refine XS.astoreN X3.here hx rfl (hb hby at_15) rfl rfl (l' := #[.val (.int pp1), .val (.int pp2), .val (.int (0 : Int32)), .val (.ref ob0), .unset, .unset, .unset]) rfl ?_
      show Steps p.tables e below (T3.setTop (mkF m 16 #[.val (.int pp1), .val (.int pp2), .val (.int (0 : Int32)), .val (.ref ob0), .unset, .unset, .unset] [])) _
      refine XS.iconst X3.here hx rfl (hb hby at_16) ?_
      show Steps p.tables e below (T3.setTop (mkF m 17 #[.val (.int pp1), .val (.int pp2), .val (.int (0 : Int32)), .val (.ref ob0), .unset, .unset, .unset] [(.int (2 : Int32))])) _
      refine XS.istore X3.here hx rfl (hb hby at_17) rfl (l' := #[.val (.int pp1), .val (.int pp2), .val (.int (0 : Int32)), .val (.ref ob0), .val (.int (2 : Int32)), .unset, .unset]) rfl ?_
      show Steps p.tables e below (T3.setTop (mkF m 19 #[.val (.int pp1), .val (.int pp2), .val (.int (0 : Int32)), .val (.ref ob0), .val (.int (2 : Int32)), .unset, .unset] [])) _
      refine XS.goto X3.here hx rfl (pc0 := 19) (pc' := 90) rfl (hb hby at_19) (by decide) (by decide) ?_
      exact kt)
    rcases own_tri pp2 with ⟨hA, hB, hC⟩ | ⟨hA, hB, hC⟩ | ⟨hA, hB, hC⟩
    · skip
      have hc91 : pp2 < (0 : Int32) := hA
      have hc120 : (0 : Int32) = (0 : Int32) := by decide
      obtain ⟨cq5, kq5, q5a, q5b, q5c⟩ := isOf hZ e3 E_ob0
      obtain ⟨_, _, ⟨T5, L5, k5, n5⟩, -, X5, ⟨Lc5, hQ5, l5, y5, z5⟩, st5⟩ := X3.virtualBack hx (y := (⟨"com/example/guarded_stream/guardedstream/query/ComparisonOperator", "holds", "(I)Z"⟩ : MethodName)) (z := (⟨"com/example/guarded_stream/guardedstream/query/ComparisonOperator", "holds", "(I)Z"⟩ : MethodName)) hown (mvT hZ (hw _ (List.mem_of_getElem? (i := 4) rfl))) (mvT hZ (hw _ (List.mem_of_getElem? (i := 5) rfl))) (notFace_of_selects (args := #[]) (mvT hZ (hw _ (List.mem_of_getElem? (i := 7) rfl)))) (mvT hZ (hw _ (List.mem_of_getElem? (i := 7) rfl))) (mvT hZ (hw _ (List.mem_of_getElem? (i := 6) rfl))) (by decide) (backOf (W := 0) (rm1_0 l Z a0 hw [] ob0 pp2 h0 n0 Z0 E_ob0 F_ob0_ordinal) hZ (hw _ (List.mem_of_getElem? (i := 8) rfl)) (hw _ (List.mem_of_getElem? (i := 2) rfl)) (by decide) (by decide)) q5a q5c (g := (mkF m 132 #[.val (.int pp1), .val (.int pp2), .val (.int (0 : Int32)), .val (.ref ob0), .val (.int (2 : Int32)), .val (.int (0 : Int32)), .val (.int (0 : Int32))] [(.int pp2), (.ref ob0)])) rfl (by rw [hml]; rfl) (Steps.refl _) (argsL := [(.int pp2)]) (rest := []) (lenOf pd__28_I_29_Z rfl) rfl (by show 2 * 0 + _ ≤ _; exact Nat.le_of_eq rfl) (hb hby at_132) (fun _ _ => ⟨rfl, e3, (by decide : 0 + 0 ≤ _), (by decide : 0 + 0 ≤ _)⟩)
      dsimp only [Pt.U, Pt.locs, Pt.cells, Pt.slots] at X5 l5 y5 z5 st5 hQ5
      subst l5 y5 z5
      obtain ⟨rfl, N5q, e5⟩ := hQ5
      have N5 := Fr.app N0 N5q
      have hc137 : (if pp2 = (0 : Int32) then (1 : Int32) else (0 : Int32)) = (0 : Int32) := (by rw [if_neg hB])
      obtain ⟨fs, hr, hrun, hended, hW, hsame⟩ := X5.leave (v := some (.int (1 : Int32))) (fun h => by rw [Bd.returns] at h; cases h)
      refine ⟨_, _, pre4 _ ?_, hrun, hended, _, _, rfl, ?_, ⟨_, rfl⟩, hW, hsame.mono (by decide) (by decide)⟩
      · show Steps p.tables e below (T3.setTop (mkF m 90 #[.val (.int pp1), .val (.int pp2), .val (.int (0 : Int32)), .val (.ref ob0), .val (.int (2 : Int32)), .unset, .unset] [])) _
        refine XS.iloadN X3.here hx rfl (hb hby at_90) rfl ?_
        show Steps p.tables e below (T3.setTop (mkF m 91 #[.val (.int pp1), .val (.int pp2), .val (.int (0 : Int32)), .val (.ref ob0), .val (.int (2 : Int32)), .unset, .unset] [(.int pp2)])) _
        refine XS.ifNo X3.here hx rfl (hb hby at_91) rfl ((if0 _ _).trans (tlt hc91).2.1) ?_
        show Steps p.tables e below (T3.setTop (mkF m 94 #[.val (.int pp1), .val (.int pp2), .val (.int (0 : Int32)), .val (.ref ob0), .val (.int (2 : Int32)), .unset, .unset] [])) _
        refine XS.iconst X3.here hx rfl (hb hby at_94) ?_
        show Steps p.tables e below (T3.setTop (mkF m 95 #[.val (.int pp1), .val (.int pp2), .val (.int (0 : Int32)), .val (.ref ob0), .val (.int (2 : Int32)), .unset, .unset] [(.int (0 : Int32))])) _
        refine XS.istore X3.here hx rfl (hb hby at_95) rfl (l' := #[.val (.int pp1), .val (.int pp2), .val (.int (0 : Int32)), .val (.ref ob0), .val (.int (2 : Int32)), .val (.int (0 : Int32)), .unset]) rfl ?_
        show Steps p.tables e below (T3.setTop (mkF m 97 #[.val (.int pp1), .val (.int pp2), .val (.int (0 : Int32)), .val (.ref ob0), .val (.int (2 : Int32)), .val (.int (0 : Int32)), .unset] [])) _
        refine XS.goto X3.here hx rfl (pc0 := 97) (pc' := 113) rfl (hb hby at_97) (by decide) (by decide) ?_
        show Steps p.tables e below (T3.setTop (mkF m 113 #[.val (.int pp1), .val (.int pp2), .val (.int (0 : Int32)), .val (.ref ob0), .val (.int (2 : Int32)), .val (.int (0 : Int32)), .unset] [])) _
        refine XS.iload X3.here hx rfl (hb hby at_113) rfl ?_
        show Steps p.tables e below (T3.setTop (mkF m 115 #[.val (.int pp1), .val (.int pp2), .val (.int (0 : Int32)), .val (.ref ob0), .val (.int (2 : Int32)), .val (.int (0 : Int32)), .unset] [(.int (2 : Int32))])) _
        refine XS.iload X3.here hx rfl (hb hby at_115) rfl ?_
        show Steps p.tables e below (T3.setTop (mkF m 117 #[.val (.int pp1), .val (.int pp2), .val (.int (0 : Int32)), .val (.ref ob0), .val (.int (2 : Int32)), .val (.int (0 : Int32)), .unset] [(.int (0 : Int32)), (.int (2 : Int32))])) _
        refine XS.ishr X3.here hx rfl (hb hby at_117) rfl ?_
        show Steps p.tables e below (T3.setTop (mkF m 118 #[.val (.int pp1), .val (.int pp2), .val (.int (0 : Int32)), .val (.ref ob0), .val (.int (2 : Int32)), .val (.int (0 : Int32)), .unset] [(.int (2 : Int32))])) _
        refine XS.iconst X3.here hx rfl (hb hby at_118) ?_
        show Steps p.tables e below (T3.setTop (mkF m 119 #[.val (.int pp1), .val (.int pp2), .val (.int (0 : Int32)), .val (.ref ob0), .val (.int (2 : Int32)), .val (.int (0 : Int32)), .unset] [(.int (1 : Int32)), (.int (2 : Int32))])) _
        refine XS.iand X3.here hx rfl (hb hby at_119) rfl ?_
        show Steps p.tables e below (T3.setTop (mkF m 120 #[.val (.int pp1), .val (.int pp2), .val (.int (0 : Int32)), .val (.ref ob0), .val (.int (2 : Int32)), .val (.int (0 : Int32)), .unset] [(.int (0 : Int32))])) _
        refine XS.ifYes X3.here hx rfl (pc0 := 120) (pc' := 127) rfl (hb hby at_120) rfl ((if0 _ _).trans (teq hc120).1) (by decide) (by decide) ?_
        show Steps p.tables e below (T3.setTop (mkF m 127 #[.val (.int pp1), .val (.int pp2), .val (.int (0 : Int32)), .val (.ref ob0), .val (.int (2 : Int32)), .val (.int (0 : Int32)), .unset] [])) _
        refine XS.iconst X3.here hx rfl (hb hby at_127) ?_
        show Steps p.tables e below (T3.setTop (mkF m 128 #[.val (.int pp1), .val (.int pp2), .val (.int (0 : Int32)), .val (.ref ob0), .val (.int (2 : Int32)), .val (.int (0 : Int32)), .unset] [(.int (0 : Int32))])) _
        refine XS.istore X3.here hx rfl (hb hby at_128) rfl (l' := #[.val (.int pp1), .val (.int pp2), .val (.int (0 : Int32)), .val (.ref ob0), .val (.int (2 : Int32)), .val (.int (0 : Int32)), .val (.int (0 : Int32))]) rfl ?_
        show Steps p.tables e below (T3.setTop (mkF m 130 #[.val (.int pp1), .val (.int pp2), .val (.int (0 : Int32)), .val (.ref ob0), .val (.int (2 : Int32)), .val (.int (0 : Int32)), .val (.int (0 : Int32))] [])) _
        refine XS.aloadN X3.here hx rfl (hb hby at_130) rfl rfl ?_
        show Steps p.tables e below (T3.setTop (mkF m 131 #[.val (.int pp1), .val (.int pp2), .val (.int (0 : Int32)), .val (.ref ob0), .val (.int (2 : Int32)), .val (.int (0 : Int32)), .val (.int (0 : Int32))] [(.ref ob0)])) _
        refine XS.iloadN X3.here hx rfl (hb hby at_131) rfl ?_
        show Steps p.tables e below (T3.setTop (mkF m 132 #[.val (.int pp1), .val (.int pp2), .val (.int (0 : Int32)), .val (.ref ob0), .val (.int (2 : Int32)), .val (.int (0 : Int32)), .val (.int (0 : Int32))] [(.int pp2), (.ref ob0)])) _
        refine st5.trans ?_
        show Steps p.tables e below (T5.setTop (mkF m 135 #[.val (.int pp1), .val (.int pp2), .val (.int (0 : Int32)), .val (.ref ob0), .val (.int (2 : Int32)), .val (.int (0 : Int32)), .val (.int (0 : Int32))] [(.int (if pp2 = (0 : Int32) then (1 : Int32) else (0 : Int32)))])) _
        refine XS.iload X5.here hx rfl (hb hby at_135) rfl ?_
        show Steps p.tables e below (T5.setTop (mkF m 137 #[.val (.int pp1), .val (.int pp2), .val (.int (0 : Int32)), .val (.ref ob0), .val (.int (2 : Int32)), .val (.int (0 : Int32)), .val (.int (0 : Int32))] [(.int (0 : Int32)), (.int (if pp2 = (0 : Int32) then (1 : Int32) else (0 : Int32)))])) _
        refine XS.icmpNo X5.here hx rfl (hb hby at_137) rfl (teq hc137).2 ?_
        show Steps p.tables e below (T5.setTop (mkF m 140 #[.val (.int pp1), .val (.int pp2), .val (.int (0 : Int32)), .val (.ref ob0), .val (.int (2 : Int32)), .val (.int (0 : Int32)), .val (.int (0 : Int32))] [])) _
        refine XS.iconst X5.here hx rfl (hb hby at_140) ?_
        show Steps p.tables e below (T5.setTop (mkF m 141 #[.val (.int pp1), .val (.int pp2), .val (.int (0 : Int32)), .val (.ref ob0), .val (.int (2 : Int32)), .val (.int (0 : Int32)), .val (.int (0 : Int32))] [(.int (1 : Int32))])) _
        refine XS.goto X5.here hx rfl (pc0 := 141) (pc' := 145) rfl (hb hby at_141) (by decide) (by decide) ?_
        show Steps p.tables e below (T5.setTop (mkF m 145 #[.val (.int pp1), .val (.int pp2), .val (.int (0 : Int32)), .val (.ref ob0), .val (.int (2 : Int32)), .val (.int (0 : Int32)), .val (.int (0 : Int32))] [(.int (1 : Int32))])) _
        exact retN X5 hx (t := .boolean) Bd.returns (by simp) (hb hby at_145) hr
      · show Q0 Z pp1 pp2 ob0 ob1 ob2 ob3 ob4 ob5 h0 n0 _ T5.heap _
        rw [e5]
        exact ⟨rfl, N5⟩
    · skip
      have hc91_2 : ¬ (pp2 < (0 : Int32)) := hA
      have hc101 : pp2 = (0 : Int32) := hB
      have hc120_2 : ¬ ((1 : Int32) = (0 : Int32)) := by decide
      obtain ⟨cq6, kq6, q6a, q6b, q6c⟩ := isOf hZ e3 E_ob0
      obtain ⟨_, _, ⟨T6, L6, k6, n6⟩, -, X6, ⟨Lc6, hQ6, l6, y6, z6⟩, st6⟩ := X3.virtualBack hx (y := (⟨"com/example/guarded_stream/guardedstream/query/ComparisonOperator", "holds", "(I)Z"⟩ : MethodName)) (z := (⟨"com/example/guarded_stream/guardedstream/query/ComparisonOperator", "holds", "(I)Z"⟩ : MethodName)) hown (mvT hZ (hw _ (List.mem_of_getElem? (i := 4) rfl))) (mvT hZ (hw _ (List.mem_of_getElem? (i := 5) rfl))) (notFace_of_selects (args := #[]) (mvT hZ (hw _ (List.mem_of_getElem? (i := 7) rfl)))) (mvT hZ (hw _ (List.mem_of_getElem? (i := 7) rfl))) (mvT hZ (hw _ (List.mem_of_getElem? (i := 6) rfl))) (by decide) (backOf (W := 0) (rm1_0 l Z a0 hw [] ob0 pp2 h0 n0 Z0 E_ob0 F_ob0_ordinal) hZ (hw _ (List.mem_of_getElem? (i := 8) rfl)) (hw _ (List.mem_of_getElem? (i := 2) rfl)) (by decide) (by decide)) q6a q6c (g := (mkF m 132 #[.val (.int pp1), .val (.int pp2), .val (.int (0 : Int32)), .val (.ref ob0), .val (.int (2 : Int32)), .val (.int (1 : Int32)), .val (.int (1 : Int32))] [(.int pp2), (.ref ob0)])) rfl (by rw [hml]; rfl) (Steps.refl _) (argsL := [(.int pp2)]) (rest := []) (lenOf pd__28_I_29_Z rfl) rfl (by show 2 * 0 + _ ≤ _; exact Nat.le_of_eq rfl) (hb hby at_132) (fun _ _ => ⟨rfl, e3, (by decide : 0 + 0 ≤ _), (by decide : 0 + 0 ≤ _)⟩)
      dsimp only [Pt.U, Pt.locs, Pt.cells, Pt.slots] at X6 l6 y6 z6 st6 hQ6
      subst l6 y6 z6
      obtain ⟨rfl, N6q, e6⟩ := hQ6
      have N6 := Fr.app N0 N6q
      have hc137_2 : (if pp2 = (0 : Int32) then (1 : Int32) else (0 : Int32)) = (1 : Int32) := (by rw [if_pos hB])
      obtain ⟨fs, hr, hrun, hended, hW, hsame⟩ := X6.leave (v := some (.int (1 : Int32))) (fun h => by rw [Bd.returns] at h; cases h)
      refine ⟨_, _, pre4 _ ?_, hrun, hended, _, _, rfl, ?_, ⟨_, rfl⟩, hW, hsame.mono (by decide) (by decide)⟩
      · show Steps p.tables e below (T3.setTop (mkF m 90 #[.val (.int pp1), .val (.int pp2), .val (.int (0 : Int32)), .val (.ref ob0), .val (.int (2 : Int32)), .unset, .unset] [])) _
        refine XS.iloadN X3.here hx rfl (hb hby at_90) rfl ?_
        show Steps p.tables e below (T3.setTop (mkF m 91 #[.val (.int pp1), .val (.int pp2), .val (.int (0 : Int32)), .val (.ref ob0), .val (.int (2 : Int32)), .unset, .unset] [(.int pp2)])) _
        refine XS.ifYes X3.here hx rfl (pc0 := 91) (pc' := 100) rfl (hb hby at_91) rfl ((if0 _ _).trans (flt hc91_2).2.1) (by decide) (by decide) ?_
        show Steps p.tables e below (T3.setTop (mkF m 100 #[.val (.int pp1), .val (.int pp2), .val (.int (0 : Int32)), .val (.ref ob0), .val (.int (2 : Int32)), .unset, .unset] [])) _
        refine XS.iloadN X3.here hx rfl (hb hby at_100) rfl ?_
        show Steps p.tables e below (T3.setTop (mkF m 101 #[.val (.int pp1), .val (.int pp2), .val (.int (0 : Int32)), .val (.ref ob0), .val (.int (2 : Int32)), .unset, .unset] [(.int pp2)])) _
        refine XS.ifNo X3.here hx rfl (hb hby at_101) rfl ((if0 _ _).trans (teq hc101).2) ?_
        show Steps p.tables e below (T3.setTop (mkF m 104 #[.val (.int pp1), .val (.int pp2), .val (.int (0 : Int32)), .val (.ref ob0), .val (.int (2 : Int32)), .unset, .unset] [])) _
        refine XS.iconst X3.here hx rfl (hb hby at_104) ?_
        show Steps p.tables e below (T3.setTop (mkF m 105 #[.val (.int pp1), .val (.int pp2), .val (.int (0 : Int32)), .val (.ref ob0), .val (.int (2 : Int32)), .unset, .unset] [(.int (1 : Int32))])) _
        refine XS.istore X3.here hx rfl (hb hby at_105) rfl (l' := #[.val (.int pp1), .val (.int pp2), .val (.int (0 : Int32)), .val (.ref ob0), .val (.int (2 : Int32)), .val (.int (1 : Int32)), .unset]) rfl ?_
        show Steps p.tables e below (T3.setTop (mkF m 107 #[.val (.int pp1), .val (.int pp2), .val (.int (0 : Int32)), .val (.ref ob0), .val (.int (2 : Int32)), .val (.int (1 : Int32)), .unset] [])) _
        refine XS.goto X3.here hx rfl (pc0 := 107) (pc' := 113) rfl (hb hby at_107) (by decide) (by decide) ?_
        show Steps p.tables e below (T3.setTop (mkF m 113 #[.val (.int pp1), .val (.int pp2), .val (.int (0 : Int32)), .val (.ref ob0), .val (.int (2 : Int32)), .val (.int (1 : Int32)), .unset] [])) _
        refine XS.iload X3.here hx rfl (hb hby at_113) rfl ?_
        show Steps p.tables e below (T3.setTop (mkF m 115 #[.val (.int pp1), .val (.int pp2), .val (.int (0 : Int32)), .val (.ref ob0), .val (.int (2 : Int32)), .val (.int (1 : Int32)), .unset] [(.int (2 : Int32))])) _
        refine XS.iload X3.here hx rfl (hb hby at_115) rfl ?_
        show Steps p.tables e below (T3.setTop (mkF m 117 #[.val (.int pp1), .val (.int pp2), .val (.int (0 : Int32)), .val (.ref ob0), .val (.int (2 : Int32)), .val (.int (1 : Int32)), .unset] [(.int (1 : Int32)), (.int (2 : Int32))])) _
        refine XS.ishr X3.here hx rfl (hb hby at_117) rfl ?_
        show Steps p.tables e below (T3.setTop (mkF m 118 #[.val (.int pp1), .val (.int pp2), .val (.int (0 : Int32)), .val (.ref ob0), .val (.int (2 : Int32)), .val (.int (1 : Int32)), .unset] [(.int (1 : Int32))])) _
        refine XS.iconst X3.here hx rfl (hb hby at_118) ?_
        show Steps p.tables e below (T3.setTop (mkF m 119 #[.val (.int pp1), .val (.int pp2), .val (.int (0 : Int32)), .val (.ref ob0), .val (.int (2 : Int32)), .val (.int (1 : Int32)), .unset] [(.int (1 : Int32)), (.int (1 : Int32))])) _
        refine XS.iand X3.here hx rfl (hb hby at_119) rfl ?_
        show Steps p.tables e below (T3.setTop (mkF m 120 #[.val (.int pp1), .val (.int pp2), .val (.int (0 : Int32)), .val (.ref ob0), .val (.int (2 : Int32)), .val (.int (1 : Int32)), .unset] [(.int (1 : Int32))])) _
        refine XS.ifNo X3.here hx rfl (hb hby at_120) rfl ((if0 _ _).trans (feq hc120_2).1) ?_
        show Steps p.tables e below (T3.setTop (mkF m 123 #[.val (.int pp1), .val (.int pp2), .val (.int (0 : Int32)), .val (.ref ob0), .val (.int (2 : Int32)), .val (.int (1 : Int32)), .unset] [])) _
        refine XS.iconst X3.here hx rfl (hb hby at_123) ?_
        show Steps p.tables e below (T3.setTop (mkF m 124 #[.val (.int pp1), .val (.int pp2), .val (.int (0 : Int32)), .val (.ref ob0), .val (.int (2 : Int32)), .val (.int (1 : Int32)), .unset] [(.int (1 : Int32))])) _
        refine XS.goto X3.here hx rfl (pc0 := 124) (pc' := 128) rfl (hb hby at_124) (by decide) (by decide) ?_
        show Steps p.tables e below (T3.setTop (mkF m 128 #[.val (.int pp1), .val (.int pp2), .val (.int (0 : Int32)), .val (.ref ob0), .val (.int (2 : Int32)), .val (.int (1 : Int32)), .unset] [(.int (1 : Int32))])) _
        refine XS.istore X3.here hx rfl (hb hby at_128) rfl (l' := #[.val (.int pp1), .val (.int pp2), .val (.int (0 : Int32)), .val (.ref ob0), .val (.int (2 : Int32)), .val (.int (1 : Int32)), .val (.int (1 : Int32))]) rfl ?_
        show Steps p.tables e below (T3.setTop (mkF m 130 #[.val (.int pp1), .val (.int pp2), .val (.int (0 : Int32)), .val (.ref ob0), .val (.int (2 : Int32)), .val (.int (1 : Int32)), .val (.int (1 : Int32))] [])) _
        refine XS.aloadN X3.here hx rfl (hb hby at_130) rfl rfl ?_
        show Steps p.tables e below (T3.setTop (mkF m 131 #[.val (.int pp1), .val (.int pp2), .val (.int (0 : Int32)), .val (.ref ob0), .val (.int (2 : Int32)), .val (.int (1 : Int32)), .val (.int (1 : Int32))] [(.ref ob0)])) _
        refine XS.iloadN X3.here hx rfl (hb hby at_131) rfl ?_
        show Steps p.tables e below (T3.setTop (mkF m 132 #[.val (.int pp1), .val (.int pp2), .val (.int (0 : Int32)), .val (.ref ob0), .val (.int (2 : Int32)), .val (.int (1 : Int32)), .val (.int (1 : Int32))] [(.int pp2), (.ref ob0)])) _
        refine st6.trans ?_
        show Steps p.tables e below (T6.setTop (mkF m 135 #[.val (.int pp1), .val (.int pp2), .val (.int (0 : Int32)), .val (.ref ob0), .val (.int (2 : Int32)), .val (.int (1 : Int32)), .val (.int (1 : Int32))] [(.int (if pp2 = (0 : Int32) then (1 : Int32) else (0 : Int32)))])) _
        refine XS.iload X6.here hx rfl (hb hby at_135) rfl ?_
        show Steps p.tables e below (T6.setTop (mkF m 137 #[.val (.int pp1), .val (.int pp2), .val (.int (0 : Int32)), .val (.ref ob0), .val (.int (2 : Int32)), .val (.int (1 : Int32)), .val (.int (1 : Int32))] [(.int (1 : Int32)), (.int (if pp2 = (0 : Int32) then (1 : Int32) else (0 : Int32)))])) _
        refine XS.icmpNo X6.here hx rfl (hb hby at_137) rfl (teq hc137_2).2 ?_
        show Steps p.tables e below (T6.setTop (mkF m 140 #[.val (.int pp1), .val (.int pp2), .val (.int (0 : Int32)), .val (.ref ob0), .val (.int (2 : Int32)), .val (.int (1 : Int32)), .val (.int (1 : Int32))] [])) _
        refine XS.iconst X6.here hx rfl (hb hby at_140) ?_
        show Steps p.tables e below (T6.setTop (mkF m 141 #[.val (.int pp1), .val (.int pp2), .val (.int (0 : Int32)), .val (.ref ob0), .val (.int (2 : Int32)), .val (.int (1 : Int32)), .val (.int (1 : Int32))] [(.int (1 : Int32))])) _
        refine XS.goto X6.here hx rfl (pc0 := 141) (pc' := 145) rfl (hb hby at_141) (by decide) (by decide) ?_
        show Steps p.tables e below (T6.setTop (mkF m 145 #[.val (.int pp1), .val (.int pp2), .val (.int (0 : Int32)), .val (.ref ob0), .val (.int (2 : Int32)), .val (.int (1 : Int32)), .val (.int (1 : Int32))] [(.int (1 : Int32))])) _
        exact retN X6 hx (t := .boolean) Bd.returns (by simp) (hb hby at_145) hr
      · show Q0 Z pp1 pp2 ob0 ob1 ob2 ob3 ob4 ob5 h0 n0 _ T6.heap _
        rw [e6]
        exact ⟨rfl, N6⟩
    · skip
      have hc91_3 : ¬ (pp2 < (0 : Int32)) := hA
      have hc101_2 : ¬ (pp2 = (0 : Int32)) := hB
      have hc120_3 : (0 : Int32) = (0 : Int32) := by decide
      obtain ⟨cq7, kq7, q7a, q7b, q7c⟩ := isOf hZ e3 E_ob0
      obtain ⟨_, _, ⟨T7, L7, k7, n7⟩, -, X7, ⟨Lc7, hQ7, l7, y7, z7⟩, st7⟩ := X3.virtualBack hx (y := (⟨"com/example/guarded_stream/guardedstream/query/ComparisonOperator", "holds", "(I)Z"⟩ : MethodName)) (z := (⟨"com/example/guarded_stream/guardedstream/query/ComparisonOperator", "holds", "(I)Z"⟩ : MethodName)) hown (mvT hZ (hw _ (List.mem_of_getElem? (i := 4) rfl))) (mvT hZ (hw _ (List.mem_of_getElem? (i := 5) rfl))) (notFace_of_selects (args := #[]) (mvT hZ (hw _ (List.mem_of_getElem? (i := 7) rfl)))) (mvT hZ (hw _ (List.mem_of_getElem? (i := 7) rfl))) (mvT hZ (hw _ (List.mem_of_getElem? (i := 6) rfl))) (by decide) (backOf (W := 0) (rm1_0 l Z a0 hw [] ob0 pp2 h0 n0 Z0 E_ob0 F_ob0_ordinal) hZ (hw _ (List.mem_of_getElem? (i := 8) rfl)) (hw _ (List.mem_of_getElem? (i := 2) rfl)) (by decide) (by decide)) q7a q7c (g := (mkF m 132 #[.val (.int pp1), .val (.int pp2), .val (.int (0 : Int32)), .val (.ref ob0), .val (.int (2 : Int32)), .val (.int (2 : Int32)), .val (.int (0 : Int32))] [(.int pp2), (.ref ob0)])) rfl (by rw [hml]; rfl) (Steps.refl _) (argsL := [(.int pp2)]) (rest := []) (lenOf pd__28_I_29_Z rfl) rfl (by show 2 * 0 + _ ≤ _; exact Nat.le_of_eq rfl) (hb hby at_132) (fun _ _ => ⟨rfl, e3, (by decide : 0 + 0 ≤ _), (by decide : 0 + 0 ≤ _)⟩)
      dsimp only [Pt.U, Pt.locs, Pt.cells, Pt.slots] at X7 l7 y7 z7 st7 hQ7
      subst l7 y7 z7
      obtain ⟨rfl, N7q, e7⟩ := hQ7
      have N7 := Fr.app N0 N7q
      have hc137_3 : (if pp2 = (0 : Int32) then (1 : Int32) else (0 : Int32)) = (0 : Int32) := (by rw [if_neg hB])
      obtain ⟨fs, hr, hrun, hended, hW, hsame⟩ := X7.leave (v := some (.int (1 : Int32))) (fun h => by rw [Bd.returns] at h; cases h)
      refine ⟨_, _, pre4 _ ?_, hrun, hended, _, _, rfl, ?_, ⟨_, rfl⟩, hW, hsame.mono (by decide) (by decide)⟩
      · show Steps p.tables e below (T3.setTop (mkF m 90 #[.val (.int pp1), .val (.int pp2), .val (.int (0 : Int32)), .val (.ref ob0), .val (.int (2 : Int32)), .unset, .unset] [])) _
        refine XS.iloadN X3.here hx rfl (hb hby at_90) rfl ?_
        show Steps p.tables e below (T3.setTop (mkF m 91 #[.val (.int pp1), .val (.int pp2), .val (.int (0 : Int32)), .val (.ref ob0), .val (.int (2 : Int32)), .unset, .unset] [(.int pp2)])) _
        refine XS.ifYes X3.here hx rfl (pc0 := 91) (pc' := 100) rfl (hb hby at_91) rfl ((if0 _ _).trans (flt hc91_3).2.1) (by decide) (by decide) ?_
        show Steps p.tables e below (T3.setTop (mkF m 100 #[.val (.int pp1), .val (.int pp2), .val (.int (0 : Int32)), .val (.ref ob0), .val (.int (2 : Int32)), .unset, .unset] [])) _
        refine XS.iloadN X3.here hx rfl (hb hby at_100) rfl ?_
        show Steps p.tables e below (T3.setTop (mkF m 101 #[.val (.int pp1), .val (.int pp2), .val (.int (0 : Int32)), .val (.ref ob0), .val (.int (2 : Int32)), .unset, .unset] [(.int pp2)])) _
        refine XS.ifYes X3.here hx rfl (pc0 := 101) (pc' := 110) rfl (hb hby at_101) rfl ((if0 _ _).trans (feq hc101_2).2) (by decide) (by decide) ?_
        show Steps p.tables e below (T3.setTop (mkF m 110 #[.val (.int pp1), .val (.int pp2), .val (.int (0 : Int32)), .val (.ref ob0), .val (.int (2 : Int32)), .unset, .unset] [])) _
        refine XS.iconst X3.here hx rfl (hb hby at_110) ?_
        show Steps p.tables e below (T3.setTop (mkF m 111 #[.val (.int pp1), .val (.int pp2), .val (.int (0 : Int32)), .val (.ref ob0), .val (.int (2 : Int32)), .unset, .unset] [(.int (2 : Int32))])) _
        refine XS.istore X3.here hx rfl (hb hby at_111) rfl (l' := #[.val (.int pp1), .val (.int pp2), .val (.int (0 : Int32)), .val (.ref ob0), .val (.int (2 : Int32)), .val (.int (2 : Int32)), .unset]) rfl ?_
        show Steps p.tables e below (T3.setTop (mkF m 113 #[.val (.int pp1), .val (.int pp2), .val (.int (0 : Int32)), .val (.ref ob0), .val (.int (2 : Int32)), .val (.int (2 : Int32)), .unset] [])) _
        refine XS.iload X3.here hx rfl (hb hby at_113) rfl ?_
        show Steps p.tables e below (T3.setTop (mkF m 115 #[.val (.int pp1), .val (.int pp2), .val (.int (0 : Int32)), .val (.ref ob0), .val (.int (2 : Int32)), .val (.int (2 : Int32)), .unset] [(.int (2 : Int32))])) _
        refine XS.iload X3.here hx rfl (hb hby at_115) rfl ?_
        show Steps p.tables e below (T3.setTop (mkF m 117 #[.val (.int pp1), .val (.int pp2), .val (.int (0 : Int32)), .val (.ref ob0), .val (.int (2 : Int32)), .val (.int (2 : Int32)), .unset] [(.int (2 : Int32)), (.int (2 : Int32))])) _
        refine XS.ishr X3.here hx rfl (hb hby at_117) rfl ?_
        show Steps p.tables e below (T3.setTop (mkF m 118 #[.val (.int pp1), .val (.int pp2), .val (.int (0 : Int32)), .val (.ref ob0), .val (.int (2 : Int32)), .val (.int (2 : Int32)), .unset] [(.int (0 : Int32))])) _
        refine XS.iconst X3.here hx rfl (hb hby at_118) ?_
        show Steps p.tables e below (T3.setTop (mkF m 119 #[.val (.int pp1), .val (.int pp2), .val (.int (0 : Int32)), .val (.ref ob0), .val (.int (2 : Int32)), .val (.int (2 : Int32)), .unset] [(.int (1 : Int32)), (.int (0 : Int32))])) _
        refine XS.iand X3.here hx rfl (hb hby at_119) rfl ?_
        show Steps p.tables e below (T3.setTop (mkF m 120 #[.val (.int pp1), .val (.int pp2), .val (.int (0 : Int32)), .val (.ref ob0), .val (.int (2 : Int32)), .val (.int (2 : Int32)), .unset] [(.int (0 : Int32))])) _
        refine XS.ifYes X3.here hx rfl (pc0 := 120) (pc' := 127) rfl (hb hby at_120) rfl ((if0 _ _).trans (teq hc120_3).1) (by decide) (by decide) ?_
        show Steps p.tables e below (T3.setTop (mkF m 127 #[.val (.int pp1), .val (.int pp2), .val (.int (0 : Int32)), .val (.ref ob0), .val (.int (2 : Int32)), .val (.int (2 : Int32)), .unset] [])) _
        refine XS.iconst X3.here hx rfl (hb hby at_127) ?_
        show Steps p.tables e below (T3.setTop (mkF m 128 #[.val (.int pp1), .val (.int pp2), .val (.int (0 : Int32)), .val (.ref ob0), .val (.int (2 : Int32)), .val (.int (2 : Int32)), .unset] [(.int (0 : Int32))])) _
        refine XS.istore X3.here hx rfl (hb hby at_128) rfl (l' := #[.val (.int pp1), .val (.int pp2), .val (.int (0 : Int32)), .val (.ref ob0), .val (.int (2 : Int32)), .val (.int (2 : Int32)), .val (.int (0 : Int32))]) rfl ?_
        show Steps p.tables e below (T3.setTop (mkF m 130 #[.val (.int pp1), .val (.int pp2), .val (.int (0 : Int32)), .val (.ref ob0), .val (.int (2 : Int32)), .val (.int (2 : Int32)), .val (.int (0 : Int32))] [])) _
        refine XS.aloadN X3.here hx rfl (hb hby at_130) rfl rfl ?_
        show Steps p.tables e below (T3.setTop (mkF m 131 #[.val (.int pp1), .val (.int pp2), .val (.int (0 : Int32)), .val (.ref ob0), .val (.int (2 : Int32)), .val (.int (2 : Int32)), .val (.int (0 : Int32))] [(.ref ob0)])) _
        refine XS.iloadN X3.here hx rfl (hb hby at_131) rfl ?_
        show Steps p.tables e below (T3.setTop (mkF m 132 #[.val (.int pp1), .val (.int pp2), .val (.int (0 : Int32)), .val (.ref ob0), .val (.int (2 : Int32)), .val (.int (2 : Int32)), .val (.int (0 : Int32))] [(.int pp2), (.ref ob0)])) _
        refine st7.trans ?_
        show Steps p.tables e below (T7.setTop (mkF m 135 #[.val (.int pp1), .val (.int pp2), .val (.int (0 : Int32)), .val (.ref ob0), .val (.int (2 : Int32)), .val (.int (2 : Int32)), .val (.int (0 : Int32))] [(.int (if pp2 = (0 : Int32) then (1 : Int32) else (0 : Int32)))])) _
        refine XS.iload X7.here hx rfl (hb hby at_135) rfl ?_
        show Steps p.tables e below (T7.setTop (mkF m 137 #[.val (.int pp1), .val (.int pp2), .val (.int (0 : Int32)), .val (.ref ob0), .val (.int (2 : Int32)), .val (.int (2 : Int32)), .val (.int (0 : Int32))] [(.int (0 : Int32)), (.int (if pp2 = (0 : Int32) then (1 : Int32) else (0 : Int32)))])) _
        refine XS.icmpNo X7.here hx rfl (hb hby at_137) rfl (teq hc137_3).2 ?_
        show Steps p.tables e below (T7.setTop (mkF m 140 #[.val (.int pp1), .val (.int pp2), .val (.int (0 : Int32)), .val (.ref ob0), .val (.int (2 : Int32)), .val (.int (2 : Int32)), .val (.int (0 : Int32))] [])) _
        refine XS.iconst X7.here hx rfl (hb hby at_140) ?_
        show Steps p.tables e below (T7.setTop (mkF m 141 #[.val (.int pp1), .val (.int pp2), .val (.int (0 : Int32)), .val (.ref ob0), .val (.int (2 : Int32)), .val (.int (2 : Int32)), .val (.int (0 : Int32))] [(.int (1 : Int32))])) _
        refine XS.goto X7.here hx rfl (pc0 := 141) (pc' := 145) rfl (hb hby at_141) (by decide) (by decide) ?_
        show Steps p.tables e below (T7.setTop (mkF m 145 #[.val (.int pp1), .val (.int pp2), .val (.int (0 : Int32)), .val (.ref ob0), .val (.int (2 : Int32)), .val (.int (2 : Int32)), .val (.int (0 : Int32))] [(.int (1 : Int32))])) _
        exact retN X7 hx (t := .boolean) Bd.returns (by simp) (hb hby at_145) hr
      · show Q0 Z pp1 pp2 ob0 ob1 ob2 ob3 ob4 ob5 h0 n0 _ T7.heap _
        rw [e7]
        exact ⟨rfl, N7⟩
  · skip
    have hc9_2 : ¬ ((1 : Int32) = (0 : Int32)) := by decide
    have hc24 : (1 : Int32) = (1 : Int32) := by decide
    obtain ⟨T8, X8, e8, st8⟩ := getS2 X0 hx hZ hown (host := "") (Or.inl (hw _ (List.mem_of_getElem? (i := 22) rfl))) Via.refl e0 (S_NOT_EQUAL.ext O0.2) (g := (mkF m 27 #[.val (.int pp1), .val (.int pp2), .val (.int (1 : Int32)), .unset, .unset, .unset, .unset] [])) rfl (hb hby at_27)
    have pre9 : ∀ t, Steps p.tables e below (T8.setTop (mkF m 90 #[.val (.int pp1), .val (.int pp2), .val (.int (1 : Int32)), .val (.ref ob1), .val (.int (5 : Int32)), .unset, .unset] [])) t → Steps p.tables e below (s₁.setTop (entryFrame m #[(.int pp1), (.int pp2)] maxLocals)) t := fun t kt => pre2 t (by
      show Steps p.tables e below (s₁.setTop (mkF m 8 #[.val (.int pp1), .val (.int pp2), .val (.int (1 : Int32)), .unset, .unset, .unset, .unset] [])) _
      refine XS.iloadN X0.here hx rfl (hb hby at_8) rfl ?_
      show Steps p.tables e below (s₁.setTop (mkF m 9 #[.val (.int pp1), .val (.int pp2), .val (.int (1 : Int32)), .unset, .unset, .unset, .unset] [(.int (1 : Int32))])) _
      refine XS.ifYes X0.here hx rfl (pc0 := 9) (pc' := 22) rfl (hb hby at_9) rfl ((if0 _ _).trans (feq hc9_2).2) (by decide) (by decide) ?_
      show Steps p.tables e below (s₁.setTop (mkF m 22 #[.val (.int pp1), .val (.int pp2), .val (.int (1 : Int32)), .unset, .unset, .unset, .unset] [])) _
      refine XS.iloadN X0.here hx rfl (hb hby at_22) rfl ?_
      show Steps p.tables e below (s₁.setTop (mkF m 23 #[.val (.int pp1), .val (.int pp2), .val (.int (1 : Int32)), .unset, .unset, .unset, .unset] [(.int (1 : Int32))])) _
      refine XS.iconst X0.here hx rfl (hb hby at_23) ?_
      show Steps p.tables e below (s₁.setTop (mkF m 24 #[.val (.int pp1), .val (.int pp2), .val (.int (1 : Int32)), .unset, .unset, .unset, .unset] [(.int (1 : Int32)), (.int (1 : Int32))])) _
      refine XS.icmpNo X0.here hx rfl (hb hby at_24) rfl (teq hc24).2 ?_
      show Steps p.tables e below (s₁.setTop (mkF m 27 #[.val (.int pp1), .val (.int pp2), .val (.int (1 : Int32)), .unset, .unset, .unset, .unset] [])) _
      refine st8 _ ?_
      show Steps p.tables e below (T8.setTop (mkF m 30 #[.val (.int pp1), .val (.int pp2), .val (.int (1 : Int32)), .unset, .unset, .unset, .unset] [(.ref ob1)])) _
      refine XS.astoreN X8.here hx rfl (hb hby at_30) rfl rfl (l' := #[.val (.int pp1), .val (.int pp2), .val (.int (1 : Int32)), .val (.ref ob1), .unset, .unset, .unset]) rfl ?_
      show Steps p.tables e below (T8.setTop (mkF m 31 #[.val (.int pp1), .val (.int pp2), .val (.int (1 : Int32)), .val (.ref ob1), .unset, .unset, .unset] [])) _
      refine XS.iconst X8.here hx rfl (hb hby at_31) ?_
      show Steps p.tables e below (T8.setTop (mkF m 32 #[.val (.int pp1), .val (.int pp2), .val (.int (1 : Int32)), .val (.ref ob1), .unset, .unset, .unset] [(.int (5 : Int32))])) _
      refine XS.istore X8.here hx rfl (hb hby at_32) rfl (l' := #[.val (.int pp1), .val (.int pp2), .val (.int (1 : Int32)), .val (.ref ob1), .val (.int (5 : Int32)), .unset, .unset]) rfl ?_
      show Steps p.tables e below (T8.setTop (mkF m 34 #[.val (.int pp1), .val (.int pp2), .val (.int (1 : Int32)), .val (.ref ob1), .val (.int (5 : Int32)), .unset, .unset] [])) _
      refine XS.goto X8.here hx rfl (pc0 := 34) (pc' := 90) rfl (hb hby at_34) (by decide) (by decide) ?_
      exact kt)
    rcases own_tri pp2 with ⟨hA, hB, hC⟩ | ⟨hA, hB, hC⟩ | ⟨hA, hB, hC⟩
    · skip
      have hc91_4 : pp2 < (0 : Int32) := hA
      have hc120_4 : ¬ ((1 : Int32) = (0 : Int32)) := by decide
      obtain ⟨cq10, kq10, q10a, q10b, q10c⟩ := isOf hZ e8 E_ob1
      obtain ⟨_, _, ⟨T10, L10, k10, n10⟩, -, X10, ⟨Lc10, hQ10, l10, y10, z10⟩, st10⟩ := X8.virtualBack hx (y := (⟨"com/example/guarded_stream/guardedstream/query/ComparisonOperator", "holds", "(I)Z"⟩ : MethodName)) (z := (⟨"com/example/guarded_stream/guardedstream/query/ComparisonOperator", "holds", "(I)Z"⟩ : MethodName)) hown (mvT hZ (hw _ (List.mem_of_getElem? (i := 4) rfl))) (mvT hZ (hw _ (List.mem_of_getElem? (i := 5) rfl))) (notFace_of_selects (args := #[]) (mvT hZ (hw _ (List.mem_of_getElem? (i := 7) rfl)))) (mvT hZ (hw _ (List.mem_of_getElem? (i := 7) rfl))) (mvT hZ (hw _ (List.mem_of_getElem? (i := 6) rfl))) (by decide) (backOf (W := 0) (rm1_1 l Z a0 hw [] ob1 pp2 h0 n0 Z0 E_ob1 F_ob1_ordinal) hZ (hw _ (List.mem_of_getElem? (i := 8) rfl)) (hw _ (List.mem_of_getElem? (i := 2) rfl)) (by decide) (by decide)) q10a q10c (g := (mkF m 132 #[.val (.int pp1), .val (.int pp2), .val (.int (1 : Int32)), .val (.ref ob1), .val (.int (5 : Int32)), .val (.int (0 : Int32)), .val (.int (1 : Int32))] [(.int pp2), (.ref ob1)])) rfl (by rw [hml]; rfl) (Steps.refl _) (argsL := [(.int pp2)]) (rest := []) (lenOf pd__28_I_29_Z rfl) rfl (by show 2 * 0 + _ ≤ _; exact Nat.le_of_eq rfl) (hb hby at_132) (fun _ _ => ⟨rfl, e8, (by decide : 0 + 0 ≤ _), (by decide : 0 + 0 ≤ _)⟩)
      dsimp only [Pt.U, Pt.locs, Pt.cells, Pt.slots] at X10 l10 y10 z10 st10 hQ10
      subst l10 y10 z10
      obtain ⟨rfl, N10q, e10⟩ := hQ10
      have N10 := Fr.app N0 N10q
      have hc137_4 : (if pp2 = (0 : Int32) then (0 : Int32) else (1 : Int32)) = (1 : Int32) := (by rw [if_neg hB])
      obtain ⟨fs, hr, hrun, hended, hW, hsame⟩ := X10.leave (v := some (.int (1 : Int32))) (fun h => by rw [Bd.returns] at h; cases h)
      refine ⟨_, _, pre9 _ ?_, hrun, hended, _, _, rfl, ?_, ⟨_, rfl⟩, hW, hsame.mono (by decide) (by decide)⟩
      · show Steps p.tables e below (T8.setTop (mkF m 90 #[.val (.int pp1), .val (.int pp2), .val (.int (1 : Int32)), .val (.ref ob1), .val (.int (5 : Int32)), .unset, .unset] [])) _
        refine XS.iloadN X8.here hx rfl (hb hby at_90) rfl ?_
        show Steps p.tables e below (T8.setTop (mkF m 91 #[.val (.int pp1), .val (.int pp2), .val (.int (1 : Int32)), .val (.ref ob1), .val (.int (5 : Int32)), .unset, .unset] [(.int pp2)])) _
        refine XS.ifNo X8.here hx rfl (hb hby at_91) rfl ((if0 _ _).trans (tlt hc91_4).2.1) ?_
        show Steps p.tables e below (T8.setTop (mkF m 94 #[.val (.int pp1), .val (.int pp2), .val (.int (1 : Int32)), .val (.ref ob1), .val (.int (5 : Int32)), .unset, .unset] [])) _
        refine XS.iconst X8.here hx rfl (hb hby at_94) ?_
        show Steps p.tables e below (T8.setTop (mkF m 95 #[.val (.int pp1), .val (.int pp2), .val (.int (1 : Int32)), .val (.ref ob1), .val (.int (5 : Int32)), .unset, .unset] [(.int (0 : Int32))])) _
        refine XS.istore X8.here hx rfl (hb hby at_95) rfl (l' := #[.val (.int pp1), .val (.int pp2), .val (.int (1 : Int32)), .val (.ref ob1), .val (.int (5 : Int32)), .val (.int (0 : Int32)), .unset]) rfl ?_
        show Steps p.tables e below (T8.setTop (mkF m 97 #[.val (.int pp1), .val (.int pp2), .val (.int (1 : Int32)), .val (.ref ob1), .val (.int (5 : Int32)), .val (.int (0 : Int32)), .unset] [])) _
        refine XS.goto X8.here hx rfl (pc0 := 97) (pc' := 113) rfl (hb hby at_97) (by decide) (by decide) ?_
        show Steps p.tables e below (T8.setTop (mkF m 113 #[.val (.int pp1), .val (.int pp2), .val (.int (1 : Int32)), .val (.ref ob1), .val (.int (5 : Int32)), .val (.int (0 : Int32)), .unset] [])) _
        refine XS.iload X8.here hx rfl (hb hby at_113) rfl ?_
        show Steps p.tables e below (T8.setTop (mkF m 115 #[.val (.int pp1), .val (.int pp2), .val (.int (1 : Int32)), .val (.ref ob1), .val (.int (5 : Int32)), .val (.int (0 : Int32)), .unset] [(.int (5 : Int32))])) _
        refine XS.iload X8.here hx rfl (hb hby at_115) rfl ?_
        show Steps p.tables e below (T8.setTop (mkF m 117 #[.val (.int pp1), .val (.int pp2), .val (.int (1 : Int32)), .val (.ref ob1), .val (.int (5 : Int32)), .val (.int (0 : Int32)), .unset] [(.int (0 : Int32)), (.int (5 : Int32))])) _
        refine XS.ishr X8.here hx rfl (hb hby at_117) rfl ?_
        show Steps p.tables e below (T8.setTop (mkF m 118 #[.val (.int pp1), .val (.int pp2), .val (.int (1 : Int32)), .val (.ref ob1), .val (.int (5 : Int32)), .val (.int (0 : Int32)), .unset] [(.int (5 : Int32))])) _
        refine XS.iconst X8.here hx rfl (hb hby at_118) ?_
        show Steps p.tables e below (T8.setTop (mkF m 119 #[.val (.int pp1), .val (.int pp2), .val (.int (1 : Int32)), .val (.ref ob1), .val (.int (5 : Int32)), .val (.int (0 : Int32)), .unset] [(.int (1 : Int32)), (.int (5 : Int32))])) _
        refine XS.iand X8.here hx rfl (hb hby at_119) rfl ?_
        show Steps p.tables e below (T8.setTop (mkF m 120 #[.val (.int pp1), .val (.int pp2), .val (.int (1 : Int32)), .val (.ref ob1), .val (.int (5 : Int32)), .val (.int (0 : Int32)), .unset] [(.int (1 : Int32))])) _
        refine XS.ifNo X8.here hx rfl (hb hby at_120) rfl ((if0 _ _).trans (feq hc120_4).1) ?_
        show Steps p.tables e below (T8.setTop (mkF m 123 #[.val (.int pp1), .val (.int pp2), .val (.int (1 : Int32)), .val (.ref ob1), .val (.int (5 : Int32)), .val (.int (0 : Int32)), .unset] [])) _
        refine XS.iconst X8.here hx rfl (hb hby at_123) ?_
        show Steps p.tables e below (T8.setTop (mkF m 124 #[.val (.int pp1), .val (.int pp2), .val (.int (1 : Int32)), .val (.ref ob1), .val (.int (5 : Int32)), .val (.int (0 : Int32)), .unset] [(.int (1 : Int32))])) _
        refine XS.goto X8.here hx rfl (pc0 := 124) (pc' := 128) rfl (hb hby at_124) (by decide) (by decide) ?_
        show Steps p.tables e below (T8.setTop (mkF m 128 #[.val (.int pp1), .val (.int pp2), .val (.int (1 : Int32)), .val (.ref ob1), .val (.int (5 : Int32)), .val (.int (0 : Int32)), .unset] [(.int (1 : Int32))])) _
        refine XS.istore X8.here hx rfl (hb hby at_128) rfl (l' := #[.val (.int pp1), .val (.int pp2), .val (.int (1 : Int32)), .val (.ref ob1), .val (.int (5 : Int32)), .val (.int (0 : Int32)), .val (.int (1 : Int32))]) rfl ?_
        show Steps p.tables e below (T8.setTop (mkF m 130 #[.val (.int pp1), .val (.int pp2), .val (.int (1 : Int32)), .val (.ref ob1), .val (.int (5 : Int32)), .val (.int (0 : Int32)), .val (.int (1 : Int32))] [])) _
        refine XS.aloadN X8.here hx rfl (hb hby at_130) rfl rfl ?_
        show Steps p.tables e below (T8.setTop (mkF m 131 #[.val (.int pp1), .val (.int pp2), .val (.int (1 : Int32)), .val (.ref ob1), .val (.int (5 : Int32)), .val (.int (0 : Int32)), .val (.int (1 : Int32))] [(.ref ob1)])) _
        refine XS.iloadN X8.here hx rfl (hb hby at_131) rfl ?_
        show Steps p.tables e below (T8.setTop (mkF m 132 #[.val (.int pp1), .val (.int pp2), .val (.int (1 : Int32)), .val (.ref ob1), .val (.int (5 : Int32)), .val (.int (0 : Int32)), .val (.int (1 : Int32))] [(.int pp2), (.ref ob1)])) _
        refine st10.trans ?_
        show Steps p.tables e below (T10.setTop (mkF m 135 #[.val (.int pp1), .val (.int pp2), .val (.int (1 : Int32)), .val (.ref ob1), .val (.int (5 : Int32)), .val (.int (0 : Int32)), .val (.int (1 : Int32))] [(.int (if pp2 = (0 : Int32) then (0 : Int32) else (1 : Int32)))])) _
        refine XS.iload X10.here hx rfl (hb hby at_135) rfl ?_
        show Steps p.tables e below (T10.setTop (mkF m 137 #[.val (.int pp1), .val (.int pp2), .val (.int (1 : Int32)), .val (.ref ob1), .val (.int (5 : Int32)), .val (.int (0 : Int32)), .val (.int (1 : Int32))] [(.int (1 : Int32)), (.int (if pp2 = (0 : Int32) then (0 : Int32) else (1 : Int32)))])) _
        refine XS.icmpNo X10.here hx rfl (hb hby at_137) rfl (teq hc137_4).2 ?_
        show Steps p.tables e below (T10.setTop (mkF m 140 #[.val (.int pp1), .val (.int pp2), .val (.int (1 : Int32)), .val (.ref ob1), .val (.int (5 : Int32)), .val (.int (0 : Int32)), .val (.int (1 : Int32))] [])) _
        refine XS.iconst X10.here hx rfl (hb hby at_140) ?_
        show Steps p.tables e below (T10.setTop (mkF m 141 #[.val (.int pp1), .val (.int pp2), .val (.int (1 : Int32)), .val (.ref ob1), .val (.int (5 : Int32)), .val (.int (0 : Int32)), .val (.int (1 : Int32))] [(.int (1 : Int32))])) _
        refine XS.goto X10.here hx rfl (pc0 := 141) (pc' := 145) rfl (hb hby at_141) (by decide) (by decide) ?_
        show Steps p.tables e below (T10.setTop (mkF m 145 #[.val (.int pp1), .val (.int pp2), .val (.int (1 : Int32)), .val (.ref ob1), .val (.int (5 : Int32)), .val (.int (0 : Int32)), .val (.int (1 : Int32))] [(.int (1 : Int32))])) _
        exact retN X10 hx (t := .boolean) Bd.returns (by simp) (hb hby at_145) hr
      · show Q0 Z pp1 pp2 ob0 ob1 ob2 ob3 ob4 ob5 h0 n0 _ T10.heap _
        rw [e10]
        exact ⟨rfl, N10⟩
    · skip
      have hc91_5 : ¬ (pp2 < (0 : Int32)) := hA
      have hc101_3 : pp2 = (0 : Int32) := hB
      have hc120_5 : (0 : Int32) = (0 : Int32) := by decide
      obtain ⟨cq11, kq11, q11a, q11b, q11c⟩ := isOf hZ e8 E_ob1
      obtain ⟨_, _, ⟨T11, L11, k11, n11⟩, -, X11, ⟨Lc11, hQ11, l11, y11, z11⟩, st11⟩ := X8.virtualBack hx (y := (⟨"com/example/guarded_stream/guardedstream/query/ComparisonOperator", "holds", "(I)Z"⟩ : MethodName)) (z := (⟨"com/example/guarded_stream/guardedstream/query/ComparisonOperator", "holds", "(I)Z"⟩ : MethodName)) hown (mvT hZ (hw _ (List.mem_of_getElem? (i := 4) rfl))) (mvT hZ (hw _ (List.mem_of_getElem? (i := 5) rfl))) (notFace_of_selects (args := #[]) (mvT hZ (hw _ (List.mem_of_getElem? (i := 7) rfl)))) (mvT hZ (hw _ (List.mem_of_getElem? (i := 7) rfl))) (mvT hZ (hw _ (List.mem_of_getElem? (i := 6) rfl))) (by decide) (backOf (W := 0) (rm1_1 l Z a0 hw [] ob1 pp2 h0 n0 Z0 E_ob1 F_ob1_ordinal) hZ (hw _ (List.mem_of_getElem? (i := 8) rfl)) (hw _ (List.mem_of_getElem? (i := 2) rfl)) (by decide) (by decide)) q11a q11c (g := (mkF m 132 #[.val (.int pp1), .val (.int pp2), .val (.int (1 : Int32)), .val (.ref ob1), .val (.int (5 : Int32)), .val (.int (1 : Int32)), .val (.int (0 : Int32))] [(.int pp2), (.ref ob1)])) rfl (by rw [hml]; rfl) (Steps.refl _) (argsL := [(.int pp2)]) (rest := []) (lenOf pd__28_I_29_Z rfl) rfl (by show 2 * 0 + _ ≤ _; exact Nat.le_of_eq rfl) (hb hby at_132) (fun _ _ => ⟨rfl, e8, (by decide : 0 + 0 ≤ _), (by decide : 0 + 0 ≤ _)⟩)
      dsimp only [Pt.U, Pt.locs, Pt.cells, Pt.slots] at X11 l11 y11 z11 st11 hQ11
      subst l11 y11 z11
      obtain ⟨rfl, N11q, e11⟩ := hQ11
      have N11 := Fr.app N0 N11q
      have hc137_5 : (if pp2 = (0 : Int32) then (0 : Int32) else (1 : Int32)) = (0 : Int32) := (by rw [if_pos hB])
      obtain ⟨fs, hr, hrun, hended, hW, hsame⟩ := X11.leave (v := some (.int (1 : Int32))) (fun h => by rw [Bd.returns] at h; cases h)
      refine ⟨_, _, pre9 _ ?_, hrun, hended, _, _, rfl, ?_, ⟨_, rfl⟩, hW, hsame.mono (by decide) (by decide)⟩
      · show Steps p.tables e below (T8.setTop (mkF m 90 #[.val (.int pp1), .val (.int pp2), .val (.int (1 : Int32)), .val (.ref ob1), .val (.int (5 : Int32)), .unset, .unset] [])) _
        refine XS.iloadN X8.here hx rfl (hb hby at_90) rfl ?_
        show Steps p.tables e below (T8.setTop (mkF m 91 #[.val (.int pp1), .val (.int pp2), .val (.int (1 : Int32)), .val (.ref ob1), .val (.int (5 : Int32)), .unset, .unset] [(.int pp2)])) _
        refine XS.ifYes X8.here hx rfl (pc0 := 91) (pc' := 100) rfl (hb hby at_91) rfl ((if0 _ _).trans (flt hc91_5).2.1) (by decide) (by decide) ?_
        show Steps p.tables e below (T8.setTop (mkF m 100 #[.val (.int pp1), .val (.int pp2), .val (.int (1 : Int32)), .val (.ref ob1), .val (.int (5 : Int32)), .unset, .unset] [])) _
        refine XS.iloadN X8.here hx rfl (hb hby at_100) rfl ?_
        show Steps p.tables e below (T8.setTop (mkF m 101 #[.val (.int pp1), .val (.int pp2), .val (.int (1 : Int32)), .val (.ref ob1), .val (.int (5 : Int32)), .unset, .unset] [(.int pp2)])) _
        refine XS.ifNo X8.here hx rfl (hb hby at_101) rfl ((if0 _ _).trans (teq hc101_3).2) ?_
        show Steps p.tables e below (T8.setTop (mkF m 104 #[.val (.int pp1), .val (.int pp2), .val (.int (1 : Int32)), .val (.ref ob1), .val (.int (5 : Int32)), .unset, .unset] [])) _
        refine XS.iconst X8.here hx rfl (hb hby at_104) ?_
        show Steps p.tables e below (T8.setTop (mkF m 105 #[.val (.int pp1), .val (.int pp2), .val (.int (1 : Int32)), .val (.ref ob1), .val (.int (5 : Int32)), .unset, .unset] [(.int (1 : Int32))])) _
        refine XS.istore X8.here hx rfl (hb hby at_105) rfl (l' := #[.val (.int pp1), .val (.int pp2), .val (.int (1 : Int32)), .val (.ref ob1), .val (.int (5 : Int32)), .val (.int (1 : Int32)), .unset]) rfl ?_
        show Steps p.tables e below (T8.setTop (mkF m 107 #[.val (.int pp1), .val (.int pp2), .val (.int (1 : Int32)), .val (.ref ob1), .val (.int (5 : Int32)), .val (.int (1 : Int32)), .unset] [])) _
        refine XS.goto X8.here hx rfl (pc0 := 107) (pc' := 113) rfl (hb hby at_107) (by decide) (by decide) ?_
        show Steps p.tables e below (T8.setTop (mkF m 113 #[.val (.int pp1), .val (.int pp2), .val (.int (1 : Int32)), .val (.ref ob1), .val (.int (5 : Int32)), .val (.int (1 : Int32)), .unset] [])) _
        refine XS.iload X8.here hx rfl (hb hby at_113) rfl ?_
        show Steps p.tables e below (T8.setTop (mkF m 115 #[.val (.int pp1), .val (.int pp2), .val (.int (1 : Int32)), .val (.ref ob1), .val (.int (5 : Int32)), .val (.int (1 : Int32)), .unset] [(.int (5 : Int32))])) _
        refine XS.iload X8.here hx rfl (hb hby at_115) rfl ?_
        show Steps p.tables e below (T8.setTop (mkF m 117 #[.val (.int pp1), .val (.int pp2), .val (.int (1 : Int32)), .val (.ref ob1), .val (.int (5 : Int32)), .val (.int (1 : Int32)), .unset] [(.int (1 : Int32)), (.int (5 : Int32))])) _
        refine XS.ishr X8.here hx rfl (hb hby at_117) rfl ?_
        show Steps p.tables e below (T8.setTop (mkF m 118 #[.val (.int pp1), .val (.int pp2), .val (.int (1 : Int32)), .val (.ref ob1), .val (.int (5 : Int32)), .val (.int (1 : Int32)), .unset] [(.int (2 : Int32))])) _
        refine XS.iconst X8.here hx rfl (hb hby at_118) ?_
        show Steps p.tables e below (T8.setTop (mkF m 119 #[.val (.int pp1), .val (.int pp2), .val (.int (1 : Int32)), .val (.ref ob1), .val (.int (5 : Int32)), .val (.int (1 : Int32)), .unset] [(.int (1 : Int32)), (.int (2 : Int32))])) _
        refine XS.iand X8.here hx rfl (hb hby at_119) rfl ?_
        show Steps p.tables e below (T8.setTop (mkF m 120 #[.val (.int pp1), .val (.int pp2), .val (.int (1 : Int32)), .val (.ref ob1), .val (.int (5 : Int32)), .val (.int (1 : Int32)), .unset] [(.int (0 : Int32))])) _
        refine XS.ifYes X8.here hx rfl (pc0 := 120) (pc' := 127) rfl (hb hby at_120) rfl ((if0 _ _).trans (teq hc120_5).1) (by decide) (by decide) ?_
        show Steps p.tables e below (T8.setTop (mkF m 127 #[.val (.int pp1), .val (.int pp2), .val (.int (1 : Int32)), .val (.ref ob1), .val (.int (5 : Int32)), .val (.int (1 : Int32)), .unset] [])) _
        refine XS.iconst X8.here hx rfl (hb hby at_127) ?_
        show Steps p.tables e below (T8.setTop (mkF m 128 #[.val (.int pp1), .val (.int pp2), .val (.int (1 : Int32)), .val (.ref ob1), .val (.int (5 : Int32)), .val (.int (1 : Int32)), .unset] [(.int (0 : Int32))])) _
        refine XS.istore X8.here hx rfl (hb hby at_128) rfl (l' := #[.val (.int pp1), .val (.int pp2), .val (.int (1 : Int32)), .val (.ref ob1), .val (.int (5 : Int32)), .val (.int (1 : Int32)), .val (.int (0 : Int32))]) rfl ?_
        show Steps p.tables e below (T8.setTop (mkF m 130 #[.val (.int pp1), .val (.int pp2), .val (.int (1 : Int32)), .val (.ref ob1), .val (.int (5 : Int32)), .val (.int (1 : Int32)), .val (.int (0 : Int32))] [])) _
        refine XS.aloadN X8.here hx rfl (hb hby at_130) rfl rfl ?_
        show Steps p.tables e below (T8.setTop (mkF m 131 #[.val (.int pp1), .val (.int pp2), .val (.int (1 : Int32)), .val (.ref ob1), .val (.int (5 : Int32)), .val (.int (1 : Int32)), .val (.int (0 : Int32))] [(.ref ob1)])) _
        refine XS.iloadN X8.here hx rfl (hb hby at_131) rfl ?_
        show Steps p.tables e below (T8.setTop (mkF m 132 #[.val (.int pp1), .val (.int pp2), .val (.int (1 : Int32)), .val (.ref ob1), .val (.int (5 : Int32)), .val (.int (1 : Int32)), .val (.int (0 : Int32))] [(.int pp2), (.ref ob1)])) _
        refine st11.trans ?_
        show Steps p.tables e below (T11.setTop (mkF m 135 #[.val (.int pp1), .val (.int pp2), .val (.int (1 : Int32)), .val (.ref ob1), .val (.int (5 : Int32)), .val (.int (1 : Int32)), .val (.int (0 : Int32))] [(.int (if pp2 = (0 : Int32) then (0 : Int32) else (1 : Int32)))])) _
        refine XS.iload X11.here hx rfl (hb hby at_135) rfl ?_
        show Steps p.tables e below (T11.setTop (mkF m 137 #[.val (.int pp1), .val (.int pp2), .val (.int (1 : Int32)), .val (.ref ob1), .val (.int (5 : Int32)), .val (.int (1 : Int32)), .val (.int (0 : Int32))] [(.int (0 : Int32)), (.int (if pp2 = (0 : Int32) then (0 : Int32) else (1 : Int32)))])) _
        refine XS.icmpNo X11.here hx rfl (hb hby at_137) rfl (teq hc137_5).2 ?_
        show Steps p.tables e below (T11.setTop (mkF m 140 #[.val (.int pp1), .val (.int pp2), .val (.int (1 : Int32)), .val (.ref ob1), .val (.int (5 : Int32)), .val (.int (1 : Int32)), .val (.int (0 : Int32))] [])) _
        refine XS.iconst X11.here hx rfl (hb hby at_140) ?_
        show Steps p.tables e below (T11.setTop (mkF m 141 #[.val (.int pp1), .val (.int pp2), .val (.int (1 : Int32)), .val (.ref ob1), .val (.int (5 : Int32)), .val (.int (1 : Int32)), .val (.int (0 : Int32))] [(.int (1 : Int32))])) _
        refine XS.goto X11.here hx rfl (pc0 := 141) (pc' := 145) rfl (hb hby at_141) (by decide) (by decide) ?_
        show Steps p.tables e below (T11.setTop (mkF m 145 #[.val (.int pp1), .val (.int pp2), .val (.int (1 : Int32)), .val (.ref ob1), .val (.int (5 : Int32)), .val (.int (1 : Int32)), .val (.int (0 : Int32))] [(.int (1 : Int32))])) _
        exact retN X11 hx (t := .boolean) Bd.returns (by simp) (hb hby at_145) hr
      · show Q0 Z pp1 pp2 ob0 ob1 ob2 ob3 ob4 ob5 h0 n0 _ T11.heap _
        rw [e11]
        exact ⟨rfl, N11⟩
    · skip
      have hc91_6 : ¬ (pp2 < (0 : Int32)) := hA
      have hc101_4 : ¬ (pp2 = (0 : Int32)) := hB
      have hc120_6 : ¬ ((1 : Int32) = (0 : Int32)) := by decide
      obtain ⟨cq12, kq12, q12a, q12b, q12c⟩ := isOf hZ e8 E_ob1
      obtain ⟨_, _, ⟨T12, L12, k12, n12⟩, -, X12, ⟨Lc12, hQ12, l12, y12, z12⟩, st12⟩ := X8.virtualBack hx (y := (⟨"com/example/guarded_stream/guardedstream/query/ComparisonOperator", "holds", "(I)Z"⟩ : MethodName)) (z := (⟨"com/example/guarded_stream/guardedstream/query/ComparisonOperator", "holds", "(I)Z"⟩ : MethodName)) hown (mvT hZ (hw _ (List.mem_of_getElem? (i := 4) rfl))) (mvT hZ (hw _ (List.mem_of_getElem? (i := 5) rfl))) (notFace_of_selects (args := #[]) (mvT hZ (hw _ (List.mem_of_getElem? (i := 7) rfl)))) (mvT hZ (hw _ (List.mem_of_getElem? (i := 7) rfl))) (mvT hZ (hw _ (List.mem_of_getElem? (i := 6) rfl))) (by decide) (backOf (W := 0) (rm1_1 l Z a0 hw [] ob1 pp2 h0 n0 Z0 E_ob1 F_ob1_ordinal) hZ (hw _ (List.mem_of_getElem? (i := 8) rfl)) (hw _ (List.mem_of_getElem? (i := 2) rfl)) (by decide) (by decide)) q12a q12c (g := (mkF m 132 #[.val (.int pp1), .val (.int pp2), .val (.int (1 : Int32)), .val (.ref ob1), .val (.int (5 : Int32)), .val (.int (2 : Int32)), .val (.int (1 : Int32))] [(.int pp2), (.ref ob1)])) rfl (by rw [hml]; rfl) (Steps.refl _) (argsL := [(.int pp2)]) (rest := []) (lenOf pd__28_I_29_Z rfl) rfl (by show 2 * 0 + _ ≤ _; exact Nat.le_of_eq rfl) (hb hby at_132) (fun _ _ => ⟨rfl, e8, (by decide : 0 + 0 ≤ _), (by decide : 0 + 0 ≤ _)⟩)
      dsimp only [Pt.U, Pt.locs, Pt.cells, Pt.slots] at X12 l12 y12 z12 st12 hQ12
      subst l12 y12 z12
      obtain ⟨rfl, N12q, e12⟩ := hQ12
      have N12 := Fr.app N0 N12q
      have hc137_6 : (if pp2 = (0 : Int32) then (0 : Int32) else (1 : Int32)) = (1 : Int32) := (by rw [if_neg hB])
      obtain ⟨fs, hr, hrun, hended, hW, hsame⟩ := X12.leave (v := some (.int (1 : Int32))) (fun h => by rw [Bd.returns] at h; cases h)
      refine ⟨_, _, pre9 _ ?_, hrun, hended, _, _, rfl, ?_, ⟨_, rfl⟩, hW, hsame.mono (by decide) (by decide)⟩
      · show Steps p.tables e below (T8.setTop (mkF m 90 #[.val (.int pp1), .val (.int pp2), .val (.int (1 : Int32)), .val (.ref ob1), .val (.int (5 : Int32)), .unset, .unset] [])) _
        refine XS.iloadN X8.here hx rfl (hb hby at_90) rfl ?_
        show Steps p.tables e below (T8.setTop (mkF m 91 #[.val (.int pp1), .val (.int pp2), .val (.int (1 : Int32)), .val (.ref ob1), .val (.int (5 : Int32)), .unset, .unset] [(.int pp2)])) _
        refine XS.ifYes X8.here hx rfl (pc0 := 91) (pc' := 100) rfl (hb hby at_91) rfl ((if0 _ _).trans (flt hc91_6).2.1) (by decide) (by decide) ?_
        show Steps p.tables e below (T8.setTop (mkF m 100 #[.val (.int pp1), .val (.int pp2), .val (.int (1 : Int32)), .val (.ref ob1), .val (.int (5 : Int32)), .unset, .unset] [])) _
        refine XS.iloadN X8.here hx rfl (hb hby at_100) rfl ?_
        show Steps p.tables e below (T8.setTop (mkF m 101 #[.val (.int pp1), .val (.int pp2), .val (.int (1 : Int32)), .val (.ref ob1), .val (.int (5 : Int32)), .unset, .unset] [(.int pp2)])) _
        refine XS.ifYes X8.here hx rfl (pc0 := 101) (pc' := 110) rfl (hb hby at_101) rfl ((if0 _ _).trans (feq hc101_4).2) (by decide) (by decide) ?_
        show Steps p.tables e below (T8.setTop (mkF m 110 #[.val (.int pp1), .val (.int pp2), .val (.int (1 : Int32)), .val (.ref ob1), .val (.int (5 : Int32)), .unset, .unset] [])) _
        refine XS.iconst X8.here hx rfl (hb hby at_110) ?_
        show Steps p.tables e below (T8.setTop (mkF m 111 #[.val (.int pp1), .val (.int pp2), .val (.int (1 : Int32)), .val (.ref ob1), .val (.int (5 : Int32)), .unset, .unset] [(.int (2 : Int32))])) _
        refine XS.istore X8.here hx rfl (hb hby at_111) rfl (l' := #[.val (.int pp1), .val (.int pp2), .val (.int (1 : Int32)), .val (.ref ob1), .val (.int (5 : Int32)), .val (.int (2 : Int32)), .unset]) rfl ?_
        show Steps p.tables e below (T8.setTop (mkF m 113 #[.val (.int pp1), .val (.int pp2), .val (.int (1 : Int32)), .val (.ref ob1), .val (.int (5 : Int32)), .val (.int (2 : Int32)), .unset] [])) _
        refine XS.iload X8.here hx rfl (hb hby at_113) rfl ?_
        show Steps p.tables e below (T8.setTop (mkF m 115 #[.val (.int pp1), .val (.int pp2), .val (.int (1 : Int32)), .val (.ref ob1), .val (.int (5 : Int32)), .val (.int (2 : Int32)), .unset] [(.int (5 : Int32))])) _
        refine XS.iload X8.here hx rfl (hb hby at_115) rfl ?_
        show Steps p.tables e below (T8.setTop (mkF m 117 #[.val (.int pp1), .val (.int pp2), .val (.int (1 : Int32)), .val (.ref ob1), .val (.int (5 : Int32)), .val (.int (2 : Int32)), .unset] [(.int (2 : Int32)), (.int (5 : Int32))])) _
        refine XS.ishr X8.here hx rfl (hb hby at_117) rfl ?_
        show Steps p.tables e below (T8.setTop (mkF m 118 #[.val (.int pp1), .val (.int pp2), .val (.int (1 : Int32)), .val (.ref ob1), .val (.int (5 : Int32)), .val (.int (2 : Int32)), .unset] [(.int (1 : Int32))])) _
        refine XS.iconst X8.here hx rfl (hb hby at_118) ?_
        show Steps p.tables e below (T8.setTop (mkF m 119 #[.val (.int pp1), .val (.int pp2), .val (.int (1 : Int32)), .val (.ref ob1), .val (.int (5 : Int32)), .val (.int (2 : Int32)), .unset] [(.int (1 : Int32)), (.int (1 : Int32))])) _
        refine XS.iand X8.here hx rfl (hb hby at_119) rfl ?_
        show Steps p.tables e below (T8.setTop (mkF m 120 #[.val (.int pp1), .val (.int pp2), .val (.int (1 : Int32)), .val (.ref ob1), .val (.int (5 : Int32)), .val (.int (2 : Int32)), .unset] [(.int (1 : Int32))])) _
        refine XS.ifNo X8.here hx rfl (hb hby at_120) rfl ((if0 _ _).trans (feq hc120_6).1) ?_
        show Steps p.tables e below (T8.setTop (mkF m 123 #[.val (.int pp1), .val (.int pp2), .val (.int (1 : Int32)), .val (.ref ob1), .val (.int (5 : Int32)), .val (.int (2 : Int32)), .unset] [])) _
        refine XS.iconst X8.here hx rfl (hb hby at_123) ?_
        show Steps p.tables e below (T8.setTop (mkF m 124 #[.val (.int pp1), .val (.int pp2), .val (.int (1 : Int32)), .val (.ref ob1), .val (.int (5 : Int32)), .val (.int (2 : Int32)), .unset] [(.int (1 : Int32))])) _
        refine XS.goto X8.here hx rfl (pc0 := 124) (pc' := 128) rfl (hb hby at_124) (by decide) (by decide) ?_
        show Steps p.tables e below (T8.setTop (mkF m 128 #[.val (.int pp1), .val (.int pp2), .val (.int (1 : Int32)), .val (.ref ob1), .val (.int (5 : Int32)), .val (.int (2 : Int32)), .unset] [(.int (1 : Int32))])) _
        refine XS.istore X8.here hx rfl (hb hby at_128) rfl (l' := #[.val (.int pp1), .val (.int pp2), .val (.int (1 : Int32)), .val (.ref ob1), .val (.int (5 : Int32)), .val (.int (2 : Int32)), .val (.int (1 : Int32))]) rfl ?_
        show Steps p.tables e below (T8.setTop (mkF m 130 #[.val (.int pp1), .val (.int pp2), .val (.int (1 : Int32)), .val (.ref ob1), .val (.int (5 : Int32)), .val (.int (2 : Int32)), .val (.int (1 : Int32))] [])) _
        refine XS.aloadN X8.here hx rfl (hb hby at_130) rfl rfl ?_
        show Steps p.tables e below (T8.setTop (mkF m 131 #[.val (.int pp1), .val (.int pp2), .val (.int (1 : Int32)), .val (.ref ob1), .val (.int (5 : Int32)), .val (.int (2 : Int32)), .val (.int (1 : Int32))] [(.ref ob1)])) _
        refine XS.iloadN X8.here hx rfl (hb hby at_131) rfl ?_
        show Steps p.tables e below (T8.setTop (mkF m 132 #[.val (.int pp1), .val (.int pp2), .val (.int (1 : Int32)), .val (.ref ob1), .val (.int (5 : Int32)), .val (.int (2 : Int32)), .val (.int (1 : Int32))] [(.int pp2), (.ref ob1)])) _
        refine st12.trans ?_
        show Steps p.tables e below (T12.setTop (mkF m 135 #[.val (.int pp1), .val (.int pp2), .val (.int (1 : Int32)), .val (.ref ob1), .val (.int (5 : Int32)), .val (.int (2 : Int32)), .val (.int (1 : Int32))] [(.int (if pp2 = (0 : Int32) then (0 : Int32) else (1 : Int32)))])) _
        refine XS.iload X12.here hx rfl (hb hby at_135) rfl ?_
        show Steps p.tables e below (T12.setTop (mkF m 137 #[.val (.int pp1), .val (.int pp2), .val (.int (1 : Int32)), .val (.ref ob1), .val (.int (5 : Int32)), .val (.int (2 : Int32)), .val (.int (1 : Int32))] [(.int (1 : Int32)), (.int (if pp2 = (0 : Int32) then (0 : Int32) else (1 : Int32)))])) _
        refine XS.icmpNo X12.here hx rfl (hb hby at_137) rfl (teq hc137_6).2 ?_
        show Steps p.tables e below (T12.setTop (mkF m 140 #[.val (.int pp1), .val (.int pp2), .val (.int (1 : Int32)), .val (.ref ob1), .val (.int (5 : Int32)), .val (.int (2 : Int32)), .val (.int (1 : Int32))] [])) _
        refine XS.iconst X12.here hx rfl (hb hby at_140) ?_
        show Steps p.tables e below (T12.setTop (mkF m 141 #[.val (.int pp1), .val (.int pp2), .val (.int (1 : Int32)), .val (.ref ob1), .val (.int (5 : Int32)), .val (.int (2 : Int32)), .val (.int (1 : Int32))] [(.int (1 : Int32))])) _
        refine XS.goto X12.here hx rfl (pc0 := 141) (pc' := 145) rfl (hb hby at_141) (by decide) (by decide) ?_
        show Steps p.tables e below (T12.setTop (mkF m 145 #[.val (.int pp1), .val (.int pp2), .val (.int (1 : Int32)), .val (.ref ob1), .val (.int (5 : Int32)), .val (.int (2 : Int32)), .val (.int (1 : Int32))] [(.int (1 : Int32))])) _
        exact retN X12 hx (t := .boolean) Bd.returns (by simp) (hb hby at_145) hr
      · show Q0 Z pp1 pp2 ob0 ob1 ob2 ob3 ob4 ob5 h0 n0 _ T12.heap _
        rw [e12]
        exact ⟨rfl, N12⟩
  · skip
    have hc9_3 : ¬ ((2 : Int32) = (0 : Int32)) := by decide
    have hc24_2 : ¬ ((2 : Int32) = (1 : Int32)) := by decide
    have hc39 : (2 : Int32) = (2 : Int32) := by decide
    obtain ⟨T13, X13, e13, st13⟩ := getS2 X0 hx hZ hown (host := "") (Or.inl (hw _ (List.mem_of_getElem? (i := 18) rfl))) Via.refl e0 (S_LESS.ext O0.2) (g := (mkF m 42 #[.val (.int pp1), .val (.int pp2), .val (.int (2 : Int32)), .unset, .unset, .unset, .unset] [])) rfl (hb hby at_42)
    have pre14 : ∀ t, Steps p.tables e below (T13.setTop (mkF m 90 #[.val (.int pp1), .val (.int pp2), .val (.int (2 : Int32)), .val (.ref ob2), .val (.int (1 : Int32)), .unset, .unset] [])) t → Steps p.tables e below (s₁.setTop (entryFrame m #[(.int pp1), (.int pp2)] maxLocals)) t := fun t kt => pre2 t (by
      show Steps p.tables e below (s₁.setTop (mkF m 8 #[.val (.int pp1), .val (.int pp2), .val (.int (2 : Int32)), .unset, .unset, .unset, .unset] [])) _
      refine XS.iloadN X0.here hx rfl (hb hby at_8) rfl ?_
      show Steps p.tables e below (s₁.setTop (mkF m 9 #[.val (.int pp1), .val (.int pp2), .val (.int (2 : Int32)), .unset, .unset, .unset, .unset] [(.int (2 : Int32))])) _
      refine XS.ifYes X0.here hx rfl (pc0 := 9) (pc' := 22) rfl (hb hby at_9) rfl ((if0 _ _).trans (feq hc9_3).2) (by decide) (by decide) ?_
      show Steps p.tables e below (s₁.setTop (mkF m 22 #[.val (.int pp1), .val (.int pp2), .val (.int (2 : Int32)), .unset, .unset, .unset, .unset] [])) _
      refine XS.iloadN X0.here hx rfl (hb hby at_22) rfl ?_
      show Steps p.tables e below (s₁.setTop (mkF m 23 #[.val (.int pp1), .val (.int pp2), .val (.int (2 : Int32)), .unset, .unset, .unset, .unset] [(.int (2 : Int32))])) _
      refine XS.iconst X0.here hx rfl (hb hby at_23) ?_
      show Steps p.tables e below (s₁.setTop (mkF m 24 #[.val (.int pp1), .val (.int pp2), .val (.int (2 : Int32)), .unset, .unset, .unset, .unset] [(.int (1 : Int32)), (.int (2 : Int32))])) _
      refine XS.icmpYes X0.here hx rfl (pc0 := 24) (pc' := 37) rfl (hb hby at_24) rfl (feq hc24_2).2 (by decide) (by decide) ?_
      show Steps p.tables e below (s₁.setTop (mkF m 37 #[.val (.int pp1), .val (.int pp2), .val (.int (2 : Int32)), .unset, .unset, .unset, .unset] [])) _
      refine XS.iloadN X0.here hx rfl (hb hby at_37) rfl ?_
      show Steps p.tables e below (s₁.setTop (mkF m 38 #[.val (.int pp1), .val (.int pp2), .val (.int (2 : Int32)), .unset, .unset, .unset, .unset] [(.int (2 : Int32))])) _
      refine XS.iconst X0.here hx rfl (hb hby at_38) ?_
      show Steps p.tables e below (s₁.setTop (mkF m 39 #[.val (.int pp1), .val (.int pp2), .val (.int (2 : Int32)), .unset, .unset, .unset, .unset] [(.int (2 : Int32)), (.int (2 : Int32))])) _
      refine XS.icmpNo X0.here hx rfl (hb hby at_39) rfl (teq hc39).2 ?_
      show Steps p.tables e below (s₁.setTop (mkF m 42 #[.val (.int pp1), .val (.int pp2), .val (.int (2 : Int32)), .unset, .unset, .unset, .unset] [])) _
      refine st13 _ ?_
      show Steps p.tables e below (T13.setTop (mkF m 45 #[.val (.int pp1), .val (.int pp2), .val (.int (2 : Int32)), .unset, .unset, .unset, .unset] [(.ref ob2)])) _
      refine XS.astoreN X13.here hx rfl (hb hby at_45) rfl rfl (l' := #[.val (.int pp1), .val (.int pp2), .val (.int (2 : Int32)), .val (.ref ob2), .unset, .unset, .unset]) rfl ?_
      show Steps p.tables e below (T13.setTop (mkF m 46 #[.val (.int pp1), .val (.int pp2), .val (.int (2 : Int32)), .val (.ref ob2), .unset, .unset, .unset] [])) _
      refine XS.iconst X13.here hx rfl (hb hby at_46) ?_
      show Steps p.tables e below (T13.setTop (mkF m 47 #[.val (.int pp1), .val (.int pp2), .val (.int (2 : Int32)), .val (.ref ob2), .unset, .unset, .unset] [(.int (1 : Int32))])) _
      refine XS.istore X13.here hx rfl (hb hby at_47) rfl (l' := #[.val (.int pp1), .val (.int pp2), .val (.int (2 : Int32)), .val (.ref ob2), .val (.int (1 : Int32)), .unset, .unset]) rfl ?_
      show Steps p.tables e below (T13.setTop (mkF m 49 #[.val (.int pp1), .val (.int pp2), .val (.int (2 : Int32)), .val (.ref ob2), .val (.int (1 : Int32)), .unset, .unset] [])) _
      refine XS.goto X13.here hx rfl (pc0 := 49) (pc' := 90) rfl (hb hby at_49) (by decide) (by decide) ?_
      exact kt)
    rcases own_tri pp2 with ⟨hA, hB, hC⟩ | ⟨hA, hB, hC⟩ | ⟨hA, hB, hC⟩
    · skip
      have hc91_7 : pp2 < (0 : Int32) := hA
      have hc120_7 : ¬ ((1 : Int32) = (0 : Int32)) := by decide
      obtain ⟨cq15, kq15, q15a, q15b, q15c⟩ := isOf hZ e13 E_ob2
      obtain ⟨_, _, ⟨T15, L15, k15, n15⟩, -, X15, ⟨Lc15, hQ15, l15, y15, z15⟩, st15⟩ := X13.virtualBack hx (y := (⟨"com/example/guarded_stream/guardedstream/query/ComparisonOperator", "holds", "(I)Z"⟩ : MethodName)) (z := (⟨"com/example/guarded_stream/guardedstream/query/ComparisonOperator", "holds", "(I)Z"⟩ : MethodName)) hown (mvT hZ (hw _ (List.mem_of_getElem? (i := 4) rfl))) (mvT hZ (hw _ (List.mem_of_getElem? (i := 5) rfl))) (notFace_of_selects (args := #[]) (mvT hZ (hw _ (List.mem_of_getElem? (i := 7) rfl)))) (mvT hZ (hw _ (List.mem_of_getElem? (i := 7) rfl))) (mvT hZ (hw _ (List.mem_of_getElem? (i := 6) rfl))) (by decide) (backOf (W := 0) (rm1_2 l Z a0 hw [] ob2 pp2 h0 n0 Z0 E_ob2 F_ob2_ordinal) hZ (hw _ (List.mem_of_getElem? (i := 8) rfl)) (hw _ (List.mem_of_getElem? (i := 2) rfl)) (by decide) (by decide)) q15a q15c (g := (mkF m 132 #[.val (.int pp1), .val (.int pp2), .val (.int (2 : Int32)), .val (.ref ob2), .val (.int (1 : Int32)), .val (.int (0 : Int32)), .val (.int (1 : Int32))] [(.int pp2), (.ref ob2)])) rfl (by rw [hml]; rfl) (Steps.refl _) (argsL := [(.int pp2)]) (rest := []) (lenOf pd__28_I_29_Z rfl) rfl (by show 2 * 0 + _ ≤ _; exact Nat.le_of_eq rfl) (hb hby at_132) (fun _ _ => ⟨rfl, e13, (by decide : 0 + 0 ≤ _), (by decide : 0 + 0 ≤ _)⟩)
      dsimp only [Pt.U, Pt.locs, Pt.cells, Pt.slots] at X15 l15 y15 z15 st15 hQ15
      subst l15 y15 z15
      obtain ⟨rfl, N15q, e15⟩ := hQ15
      have N15 := Fr.app N0 N15q
      have hc137_7 : (if pp2 < (0 : Int32) then (1 : Int32) else (0 : Int32)) = (1 : Int32) := (by rw [if_pos hA])
      obtain ⟨fs, hr, hrun, hended, hW, hsame⟩ := X15.leave (v := some (.int (1 : Int32))) (fun h => by rw [Bd.returns] at h; cases h)
      refine ⟨_, _, pre14 _ ?_, hrun, hended, _, _, rfl, ?_, ⟨_, rfl⟩, hW, hsame.mono (by decide) (by decide)⟩
      · show Steps p.tables e below (T13.setTop (mkF m 90 #[.val (.int pp1), .val (.int pp2), .val (.int (2 : Int32)), .val (.ref ob2), .val (.int (1 : Int32)), .unset, .unset] [])) _
        refine XS.iloadN X13.here hx rfl (hb hby at_90) rfl ?_
        show Steps p.tables e below (T13.setTop (mkF m 91 #[.val (.int pp1), .val (.int pp2), .val (.int (2 : Int32)), .val (.ref ob2), .val (.int (1 : Int32)), .unset, .unset] [(.int pp2)])) _
        refine XS.ifNo X13.here hx rfl (hb hby at_91) rfl ((if0 _ _).trans (tlt hc91_7).2.1) ?_
        show Steps p.tables e below (T13.setTop (mkF m 94 #[.val (.int pp1), .val (.int pp2), .val (.int (2 : Int32)), .val (.ref ob2), .val (.int (1 : Int32)), .unset, .unset] [])) _
        refine XS.iconst X13.here hx rfl (hb hby at_94) ?_
        show Steps p.tables e below (T13.setTop (mkF m 95 #[.val (.int pp1), .val (.int pp2), .val (.int (2 : Int32)), .val (.ref ob2), .val (.int (1 : Int32)), .unset, .unset] [(.int (0 : Int32))])) _
        refine XS.istore X13.here hx rfl (hb hby at_95) rfl (l' := #[.val (.int pp1), .val (.int pp2), .val (.int (2 : Int32)), .val (.ref ob2), .val (.int (1 : Int32)), .val (.int (0 : Int32)), .unset]) rfl ?_
        show Steps p.tables e below (T13.setTop (mkF m 97 #[.val (.int pp1), .val (.int pp2), .val (.int (2 : Int32)), .val (.ref ob2), .val (.int (1 : Int32)), .val (.int (0 : Int32)), .unset] [])) _
        refine XS.goto X13.here hx rfl (pc0 := 97) (pc' := 113) rfl (hb hby at_97) (by decide) (by decide) ?_
        show Steps p.tables e below (T13.setTop (mkF m 113 #[.val (.int pp1), .val (.int pp2), .val (.int (2 : Int32)), .val (.ref ob2), .val (.int (1 : Int32)), .val (.int (0 : Int32)), .unset] [])) _
        refine XS.iload X13.here hx rfl (hb hby at_113) rfl ?_
        show Steps p.tables e below (T13.setTop (mkF m 115 #[.val (.int pp1), .val (.int pp2), .val (.int (2 : Int32)), .val (.ref ob2), .val (.int (1 : Int32)), .val (.int (0 : Int32)), .unset] [(.int (1 : Int32))])) _
        refine XS.iload X13.here hx rfl (hb hby at_115) rfl ?_
        show Steps p.tables e below (T13.setTop (mkF m 117 #[.val (.int pp1), .val (.int pp2), .val (.int (2 : Int32)), .val (.ref ob2), .val (.int (1 : Int32)), .val (.int (0 : Int32)), .unset] [(.int (0 : Int32)), (.int (1 : Int32))])) _
        refine XS.ishr X13.here hx rfl (hb hby at_117) rfl ?_
        show Steps p.tables e below (T13.setTop (mkF m 118 #[.val (.int pp1), .val (.int pp2), .val (.int (2 : Int32)), .val (.ref ob2), .val (.int (1 : Int32)), .val (.int (0 : Int32)), .unset] [(.int (1 : Int32))])) _
        refine XS.iconst X13.here hx rfl (hb hby at_118) ?_
        show Steps p.tables e below (T13.setTop (mkF m 119 #[.val (.int pp1), .val (.int pp2), .val (.int (2 : Int32)), .val (.ref ob2), .val (.int (1 : Int32)), .val (.int (0 : Int32)), .unset] [(.int (1 : Int32)), (.int (1 : Int32))])) _
        refine XS.iand X13.here hx rfl (hb hby at_119) rfl ?_
        show Steps p.tables e below (T13.setTop (mkF m 120 #[.val (.int pp1), .val (.int pp2), .val (.int (2 : Int32)), .val (.ref ob2), .val (.int (1 : Int32)), .val (.int (0 : Int32)), .unset] [(.int (1 : Int32))])) _
        refine XS.ifNo X13.here hx rfl (hb hby at_120) rfl ((if0 _ _).trans (feq hc120_7).1) ?_
        show Steps p.tables e below (T13.setTop (mkF m 123 #[.val (.int pp1), .val (.int pp2), .val (.int (2 : Int32)), .val (.ref ob2), .val (.int (1 : Int32)), .val (.int (0 : Int32)), .unset] [])) _
        refine XS.iconst X13.here hx rfl (hb hby at_123) ?_
        show Steps p.tables e below (T13.setTop (mkF m 124 #[.val (.int pp1), .val (.int pp2), .val (.int (2 : Int32)), .val (.ref ob2), .val (.int (1 : Int32)), .val (.int (0 : Int32)), .unset] [(.int (1 : Int32))])) _
        refine XS.goto X13.here hx rfl (pc0 := 124) (pc' := 128) rfl (hb hby at_124) (by decide) (by decide) ?_
        show Steps p.tables e below (T13.setTop (mkF m 128 #[.val (.int pp1), .val (.int pp2), .val (.int (2 : Int32)), .val (.ref ob2), .val (.int (1 : Int32)), .val (.int (0 : Int32)), .unset] [(.int (1 : Int32))])) _
        refine XS.istore X13.here hx rfl (hb hby at_128) rfl (l' := #[.val (.int pp1), .val (.int pp2), .val (.int (2 : Int32)), .val (.ref ob2), .val (.int (1 : Int32)), .val (.int (0 : Int32)), .val (.int (1 : Int32))]) rfl ?_
        show Steps p.tables e below (T13.setTop (mkF m 130 #[.val (.int pp1), .val (.int pp2), .val (.int (2 : Int32)), .val (.ref ob2), .val (.int (1 : Int32)), .val (.int (0 : Int32)), .val (.int (1 : Int32))] [])) _
        refine XS.aloadN X13.here hx rfl (hb hby at_130) rfl rfl ?_
        show Steps p.tables e below (T13.setTop (mkF m 131 #[.val (.int pp1), .val (.int pp2), .val (.int (2 : Int32)), .val (.ref ob2), .val (.int (1 : Int32)), .val (.int (0 : Int32)), .val (.int (1 : Int32))] [(.ref ob2)])) _
        refine XS.iloadN X13.here hx rfl (hb hby at_131) rfl ?_
        show Steps p.tables e below (T13.setTop (mkF m 132 #[.val (.int pp1), .val (.int pp2), .val (.int (2 : Int32)), .val (.ref ob2), .val (.int (1 : Int32)), .val (.int (0 : Int32)), .val (.int (1 : Int32))] [(.int pp2), (.ref ob2)])) _
        refine st15.trans ?_
        show Steps p.tables e below (T15.setTop (mkF m 135 #[.val (.int pp1), .val (.int pp2), .val (.int (2 : Int32)), .val (.ref ob2), .val (.int (1 : Int32)), .val (.int (0 : Int32)), .val (.int (1 : Int32))] [(.int (if pp2 < (0 : Int32) then (1 : Int32) else (0 : Int32)))])) _
        refine XS.iload X15.here hx rfl (hb hby at_135) rfl ?_
        show Steps p.tables e below (T15.setTop (mkF m 137 #[.val (.int pp1), .val (.int pp2), .val (.int (2 : Int32)), .val (.ref ob2), .val (.int (1 : Int32)), .val (.int (0 : Int32)), .val (.int (1 : Int32))] [(.int (1 : Int32)), (.int (if pp2 < (0 : Int32) then (1 : Int32) else (0 : Int32)))])) _
        refine XS.icmpNo X15.here hx rfl (hb hby at_137) rfl (teq hc137_7).2 ?_
        show Steps p.tables e below (T15.setTop (mkF m 140 #[.val (.int pp1), .val (.int pp2), .val (.int (2 : Int32)), .val (.ref ob2), .val (.int (1 : Int32)), .val (.int (0 : Int32)), .val (.int (1 : Int32))] [])) _
        refine XS.iconst X15.here hx rfl (hb hby at_140) ?_
        show Steps p.tables e below (T15.setTop (mkF m 141 #[.val (.int pp1), .val (.int pp2), .val (.int (2 : Int32)), .val (.ref ob2), .val (.int (1 : Int32)), .val (.int (0 : Int32)), .val (.int (1 : Int32))] [(.int (1 : Int32))])) _
        refine XS.goto X15.here hx rfl (pc0 := 141) (pc' := 145) rfl (hb hby at_141) (by decide) (by decide) ?_
        show Steps p.tables e below (T15.setTop (mkF m 145 #[.val (.int pp1), .val (.int pp2), .val (.int (2 : Int32)), .val (.ref ob2), .val (.int (1 : Int32)), .val (.int (0 : Int32)), .val (.int (1 : Int32))] [(.int (1 : Int32))])) _
        exact retN X15 hx (t := .boolean) Bd.returns (by simp) (hb hby at_145) hr
      · show Q0 Z pp1 pp2 ob0 ob1 ob2 ob3 ob4 ob5 h0 n0 _ T15.heap _
        rw [e15]
        exact ⟨rfl, N15⟩
    · skip
      have hc91_8 : ¬ (pp2 < (0 : Int32)) := hA
      have hc101_5 : pp2 = (0 : Int32) := hB
      have hc120_8 : (0 : Int32) = (0 : Int32) := by decide
      obtain ⟨cq16, kq16, q16a, q16b, q16c⟩ := isOf hZ e13 E_ob2
      obtain ⟨_, _, ⟨T16, L16, k16, n16⟩, -, X16, ⟨Lc16, hQ16, l16, y16, z16⟩, st16⟩ := X13.virtualBack hx (y := (⟨"com/example/guarded_stream/guardedstream/query/ComparisonOperator", "holds", "(I)Z"⟩ : MethodName)) (z := (⟨"com/example/guarded_stream/guardedstream/query/ComparisonOperator", "holds", "(I)Z"⟩ : MethodName)) hown (mvT hZ (hw _ (List.mem_of_getElem? (i := 4) rfl))) (mvT hZ (hw _ (List.mem_of_getElem? (i := 5) rfl))) (notFace_of_selects (args := #[]) (mvT hZ (hw _ (List.mem_of_getElem? (i := 7) rfl)))) (mvT hZ (hw _ (List.mem_of_getElem? (i := 7) rfl))) (mvT hZ (hw _ (List.mem_of_getElem? (i := 6) rfl))) (by decide) (backOf (W := 0) (rm1_2 l Z a0 hw [] ob2 pp2 h0 n0 Z0 E_ob2 F_ob2_ordinal) hZ (hw _ (List.mem_of_getElem? (i := 8) rfl)) (hw _ (List.mem_of_getElem? (i := 2) rfl)) (by decide) (by decide)) q16a q16c (g := (mkF m 132 #[.val (.int pp1), .val (.int pp2), .val (.int (2 : Int32)), .val (.ref ob2), .val (.int (1 : Int32)), .val (.int (1 : Int32)), .val (.int (0 : Int32))] [(.int pp2), (.ref ob2)])) rfl (by rw [hml]; rfl) (Steps.refl _) (argsL := [(.int pp2)]) (rest := []) (lenOf pd__28_I_29_Z rfl) rfl (by show 2 * 0 + _ ≤ _; exact Nat.le_of_eq rfl) (hb hby at_132) (fun _ _ => ⟨rfl, e13, (by decide : 0 + 0 ≤ _), (by decide : 0 + 0 ≤ _)⟩)
      dsimp only [Pt.U, Pt.locs, Pt.cells, Pt.slots] at X16 l16 y16 z16 st16 hQ16
      subst l16 y16 z16
      obtain ⟨rfl, N16q, e16⟩ := hQ16
      have N16 := Fr.app N0 N16q
      have hc137_8 : (if pp2 < (0 : Int32) then (1 : Int32) else (0 : Int32)) = (0 : Int32) := (by rw [if_neg hA])
      obtain ⟨fs, hr, hrun, hended, hW, hsame⟩ := X16.leave (v := some (.int (1 : Int32))) (fun h => by rw [Bd.returns] at h; cases h)
      refine ⟨_, _, pre14 _ ?_, hrun, hended, _, _, rfl, ?_, ⟨_, rfl⟩, hW, hsame.mono (by decide) (by decide)⟩
      · show Steps p.tables e below (T13.setTop (mkF m 90 #[.val (.int pp1), .val (.int pp2), .val (.int (2 : Int32)), .val (.ref ob2), .val (.int (1 : Int32)), .unset, .unset] [])) _
        refine XS.iloadN X13.here hx rfl (hb hby at_90) rfl ?_
        show Steps p.tables e below (T13.setTop (mkF m 91 #[.val (.int pp1), .val (.int pp2), .val (.int (2 : Int32)), .val (.ref ob2), .val (.int (1 : Int32)), .unset, .unset] [(.int pp2)])) _
        refine XS.ifYes X13.here hx rfl (pc0 := 91) (pc' := 100) rfl (hb hby at_91) rfl ((if0 _ _).trans (flt hc91_8).2.1) (by decide) (by decide) ?_
        show Steps p.tables e below (T13.setTop (mkF m 100 #[.val (.int pp1), .val (.int pp2), .val (.int (2 : Int32)), .val (.ref ob2), .val (.int (1 : Int32)), .unset, .unset] [])) _
        refine XS.iloadN X13.here hx rfl (hb hby at_100) rfl ?_
        show Steps p.tables e below (T13.setTop (mkF m 101 #[.val (.int pp1), .val (.int pp2), .val (.int (2 : Int32)), .val (.ref ob2), .val (.int (1 : Int32)), .unset, .unset] [(.int pp2)])) _
        refine XS.ifNo X13.here hx rfl (hb hby at_101) rfl ((if0 _ _).trans (teq hc101_5).2) ?_
        show Steps p.tables e below (T13.setTop (mkF m 104 #[.val (.int pp1), .val (.int pp2), .val (.int (2 : Int32)), .val (.ref ob2), .val (.int (1 : Int32)), .unset, .unset] [])) _
        refine XS.iconst X13.here hx rfl (hb hby at_104) ?_
        show Steps p.tables e below (T13.setTop (mkF m 105 #[.val (.int pp1), .val (.int pp2), .val (.int (2 : Int32)), .val (.ref ob2), .val (.int (1 : Int32)), .unset, .unset] [(.int (1 : Int32))])) _
        refine XS.istore X13.here hx rfl (hb hby at_105) rfl (l' := #[.val (.int pp1), .val (.int pp2), .val (.int (2 : Int32)), .val (.ref ob2), .val (.int (1 : Int32)), .val (.int (1 : Int32)), .unset]) rfl ?_
        show Steps p.tables e below (T13.setTop (mkF m 107 #[.val (.int pp1), .val (.int pp2), .val (.int (2 : Int32)), .val (.ref ob2), .val (.int (1 : Int32)), .val (.int (1 : Int32)), .unset] [])) _
        refine XS.goto X13.here hx rfl (pc0 := 107) (pc' := 113) rfl (hb hby at_107) (by decide) (by decide) ?_
        show Steps p.tables e below (T13.setTop (mkF m 113 #[.val (.int pp1), .val (.int pp2), .val (.int (2 : Int32)), .val (.ref ob2), .val (.int (1 : Int32)), .val (.int (1 : Int32)), .unset] [])) _
        refine XS.iload X13.here hx rfl (hb hby at_113) rfl ?_
        show Steps p.tables e below (T13.setTop (mkF m 115 #[.val (.int pp1), .val (.int pp2), .val (.int (2 : Int32)), .val (.ref ob2), .val (.int (1 : Int32)), .val (.int (1 : Int32)), .unset] [(.int (1 : Int32))])) _
        refine XS.iload X13.here hx rfl (hb hby at_115) rfl ?_
        show Steps p.tables e below (T13.setTop (mkF m 117 #[.val (.int pp1), .val (.int pp2), .val (.int (2 : Int32)), .val (.ref ob2), .val (.int (1 : Int32)), .val (.int (1 : Int32)), .unset] [(.int (1 : Int32)), (.int (1 : Int32))])) _
        refine XS.ishr X13.here hx rfl (hb hby at_117) rfl ?_
        show Steps p.tables e below (T13.setTop (mkF m 118 #[.val (.int pp1), .val (.int pp2), .val (.int (2 : Int32)), .val (.ref ob2), .val (.int (1 : Int32)), .val (.int (1 : Int32)), .unset] [(.int (0 : Int32))])) _
        refine XS.iconst X13.here hx rfl (hb hby at_118) ?_
        show Steps p.tables e below (T13.setTop (mkF m 119 #[.val (.int pp1), .val (.int pp2), .val (.int (2 : Int32)), .val (.ref ob2), .val (.int (1 : Int32)), .val (.int (1 : Int32)), .unset] [(.int (1 : Int32)), (.int (0 : Int32))])) _
        refine XS.iand X13.here hx rfl (hb hby at_119) rfl ?_
        show Steps p.tables e below (T13.setTop (mkF m 120 #[.val (.int pp1), .val (.int pp2), .val (.int (2 : Int32)), .val (.ref ob2), .val (.int (1 : Int32)), .val (.int (1 : Int32)), .unset] [(.int (0 : Int32))])) _
        refine XS.ifYes X13.here hx rfl (pc0 := 120) (pc' := 127) rfl (hb hby at_120) rfl ((if0 _ _).trans (teq hc120_8).1) (by decide) (by decide) ?_
        show Steps p.tables e below (T13.setTop (mkF m 127 #[.val (.int pp1), .val (.int pp2), .val (.int (2 : Int32)), .val (.ref ob2), .val (.int (1 : Int32)), .val (.int (1 : Int32)), .unset] [])) _
        refine XS.iconst X13.here hx rfl (hb hby at_127) ?_
        show Steps p.tables e below (T13.setTop (mkF m 128 #[.val (.int pp1), .val (.int pp2), .val (.int (2 : Int32)), .val (.ref ob2), .val (.int (1 : Int32)), .val (.int (1 : Int32)), .unset] [(.int (0 : Int32))])) _
        refine XS.istore X13.here hx rfl (hb hby at_128) rfl (l' := #[.val (.int pp1), .val (.int pp2), .val (.int (2 : Int32)), .val (.ref ob2), .val (.int (1 : Int32)), .val (.int (1 : Int32)), .val (.int (0 : Int32))]) rfl ?_
        show Steps p.tables e below (T13.setTop (mkF m 130 #[.val (.int pp1), .val (.int pp2), .val (.int (2 : Int32)), .val (.ref ob2), .val (.int (1 : Int32)), .val (.int (1 : Int32)), .val (.int (0 : Int32))] [])) _
        refine XS.aloadN X13.here hx rfl (hb hby at_130) rfl rfl ?_
        show Steps p.tables e below (T13.setTop (mkF m 131 #[.val (.int pp1), .val (.int pp2), .val (.int (2 : Int32)), .val (.ref ob2), .val (.int (1 : Int32)), .val (.int (1 : Int32)), .val (.int (0 : Int32))] [(.ref ob2)])) _
        refine XS.iloadN X13.here hx rfl (hb hby at_131) rfl ?_
        show Steps p.tables e below (T13.setTop (mkF m 132 #[.val (.int pp1), .val (.int pp2), .val (.int (2 : Int32)), .val (.ref ob2), .val (.int (1 : Int32)), .val (.int (1 : Int32)), .val (.int (0 : Int32))] [(.int pp2), (.ref ob2)])) _
        refine st16.trans ?_
        show Steps p.tables e below (T16.setTop (mkF m 135 #[.val (.int pp1), .val (.int pp2), .val (.int (2 : Int32)), .val (.ref ob2), .val (.int (1 : Int32)), .val (.int (1 : Int32)), .val (.int (0 : Int32))] [(.int (if pp2 < (0 : Int32) then (1 : Int32) else (0 : Int32)))])) _
        refine XS.iload X16.here hx rfl (hb hby at_135) rfl ?_
        show Steps p.tables e below (T16.setTop (mkF m 137 #[.val (.int pp1), .val (.int pp2), .val (.int (2 : Int32)), .val (.ref ob2), .val (.int (1 : Int32)), .val (.int (1 : Int32)), .val (.int (0 : Int32))] [(.int (0 : Int32)), (.int (if pp2 < (0 : Int32) then (1 : Int32) else (0 : Int32)))])) _
        refine XS.icmpNo X16.here hx rfl (hb hby at_137) rfl (teq hc137_8).2 ?_
        show Steps p.tables e below (T16.setTop (mkF m 140 #[.val (.int pp1), .val (.int pp2), .val (.int (2 : Int32)), .val (.ref ob2), .val (.int (1 : Int32)), .val (.int (1 : Int32)), .val (.int (0 : Int32))] [])) _
        refine XS.iconst X16.here hx rfl (hb hby at_140) ?_
        show Steps p.tables e below (T16.setTop (mkF m 141 #[.val (.int pp1), .val (.int pp2), .val (.int (2 : Int32)), .val (.ref ob2), .val (.int (1 : Int32)), .val (.int (1 : Int32)), .val (.int (0 : Int32))] [(.int (1 : Int32))])) _
        refine XS.goto X16.here hx rfl (pc0 := 141) (pc' := 145) rfl (hb hby at_141) (by decide) (by decide) ?_
        show Steps p.tables e below (T16.setTop (mkF m 145 #[.val (.int pp1), .val (.int pp2), .val (.int (2 : Int32)), .val (.ref ob2), .val (.int (1 : Int32)), .val (.int (1 : Int32)), .val (.int (0 : Int32))] [(.int (1 : Int32))])) _
        exact retN X16 hx (t := .boolean) Bd.returns (by simp) (hb hby at_145) hr
      · show Q0 Z pp1 pp2 ob0 ob1 ob2 ob3 ob4 ob5 h0 n0 _ T16.heap _
        rw [e16]
        exact ⟨rfl, N16⟩
    · skip
      have hc91_9 : ¬ (pp2 < (0 : Int32)) := hA
      have hc101_6 : ¬ (pp2 = (0 : Int32)) := hB
      have hc120_9 : (0 : Int32) = (0 : Int32) := by decide
      obtain ⟨cq17, kq17, q17a, q17b, q17c⟩ := isOf hZ e13 E_ob2
      obtain ⟨_, _, ⟨T17, L17, k17, n17⟩, -, X17, ⟨Lc17, hQ17, l17, y17, z17⟩, st17⟩ := X13.virtualBack hx (y := (⟨"com/example/guarded_stream/guardedstream/query/ComparisonOperator", "holds", "(I)Z"⟩ : MethodName)) (z := (⟨"com/example/guarded_stream/guardedstream/query/ComparisonOperator", "holds", "(I)Z"⟩ : MethodName)) hown (mvT hZ (hw _ (List.mem_of_getElem? (i := 4) rfl))) (mvT hZ (hw _ (List.mem_of_getElem? (i := 5) rfl))) (notFace_of_selects (args := #[]) (mvT hZ (hw _ (List.mem_of_getElem? (i := 7) rfl)))) (mvT hZ (hw _ (List.mem_of_getElem? (i := 7) rfl))) (mvT hZ (hw _ (List.mem_of_getElem? (i := 6) rfl))) (by decide) (backOf (W := 0) (rm1_2 l Z a0 hw [] ob2 pp2 h0 n0 Z0 E_ob2 F_ob2_ordinal) hZ (hw _ (List.mem_of_getElem? (i := 8) rfl)) (hw _ (List.mem_of_getElem? (i := 2) rfl)) (by decide) (by decide)) q17a q17c (g := (mkF m 132 #[.val (.int pp1), .val (.int pp2), .val (.int (2 : Int32)), .val (.ref ob2), .val (.int (1 : Int32)), .val (.int (2 : Int32)), .val (.int (0 : Int32))] [(.int pp2), (.ref ob2)])) rfl (by rw [hml]; rfl) (Steps.refl _) (argsL := [(.int pp2)]) (rest := []) (lenOf pd__28_I_29_Z rfl) rfl (by show 2 * 0 + _ ≤ _; exact Nat.le_of_eq rfl) (hb hby at_132) (fun _ _ => ⟨rfl, e13, (by decide : 0 + 0 ≤ _), (by decide : 0 + 0 ≤ _)⟩)
      dsimp only [Pt.U, Pt.locs, Pt.cells, Pt.slots] at X17 l17 y17 z17 st17 hQ17
      subst l17 y17 z17
      obtain ⟨rfl, N17q, e17⟩ := hQ17
      have N17 := Fr.app N0 N17q
      have hc137_9 : (if pp2 < (0 : Int32) then (1 : Int32) else (0 : Int32)) = (0 : Int32) := (by rw [if_neg hA])
      obtain ⟨fs, hr, hrun, hended, hW, hsame⟩ := X17.leave (v := some (.int (1 : Int32))) (fun h => by rw [Bd.returns] at h; cases h)
      refine ⟨_, _, pre14 _ ?_, hrun, hended, _, _, rfl, ?_, ⟨_, rfl⟩, hW, hsame.mono (by decide) (by decide)⟩
      · show Steps p.tables e below (T13.setTop (mkF m 90 #[.val (.int pp1), .val (.int pp2), .val (.int (2 : Int32)), .val (.ref ob2), .val (.int (1 : Int32)), .unset, .unset] [])) _
        refine XS.iloadN X13.here hx rfl (hb hby at_90) rfl ?_
        show Steps p.tables e below (T13.setTop (mkF m 91 #[.val (.int pp1), .val (.int pp2), .val (.int (2 : Int32)), .val (.ref ob2), .val (.int (1 : Int32)), .unset, .unset] [(.int pp2)])) _
        refine XS.ifYes X13.here hx rfl (pc0 := 91) (pc' := 100) rfl (hb hby at_91) rfl ((if0 _ _).trans (flt hc91_9).2.1) (by decide) (by decide) ?_
        show Steps p.tables e below (T13.setTop (mkF m 100 #[.val (.int pp1), .val (.int pp2), .val (.int (2 : Int32)), .val (.ref ob2), .val (.int (1 : Int32)), .unset, .unset] [])) _
        refine XS.iloadN X13.here hx rfl (hb hby at_100) rfl ?_
        show Steps p.tables e below (T13.setTop (mkF m 101 #[.val (.int pp1), .val (.int pp2), .val (.int (2 : Int32)), .val (.ref ob2), .val (.int (1 : Int32)), .unset, .unset] [(.int pp2)])) _
        refine XS.ifYes X13.here hx rfl (pc0 := 101) (pc' := 110) rfl (hb hby at_101) rfl ((if0 _ _).trans (feq hc101_6).2) (by decide) (by decide) ?_
        show Steps p.tables e below (T13.setTop (mkF m 110 #[.val (.int pp1), .val (.int pp2), .val (.int (2 : Int32)), .val (.ref ob2), .val (.int (1 : Int32)), .unset, .unset] [])) _
        refine XS.iconst X13.here hx rfl (hb hby at_110) ?_
        show Steps p.tables e below (T13.setTop (mkF m 111 #[.val (.int pp1), .val (.int pp2), .val (.int (2 : Int32)), .val (.ref ob2), .val (.int (1 : Int32)), .unset, .unset] [(.int (2 : Int32))])) _
        refine XS.istore X13.here hx rfl (hb hby at_111) rfl (l' := #[.val (.int pp1), .val (.int pp2), .val (.int (2 : Int32)), .val (.ref ob2), .val (.int (1 : Int32)), .val (.int (2 : Int32)), .unset]) rfl ?_
        show Steps p.tables e below (T13.setTop (mkF m 113 #[.val (.int pp1), .val (.int pp2), .val (.int (2 : Int32)), .val (.ref ob2), .val (.int (1 : Int32)), .val (.int (2 : Int32)), .unset] [])) _
        refine XS.iload X13.here hx rfl (hb hby at_113) rfl ?_
        show Steps p.tables e below (T13.setTop (mkF m 115 #[.val (.int pp1), .val (.int pp2), .val (.int (2 : Int32)), .val (.ref ob2), .val (.int (1 : Int32)), .val (.int (2 : Int32)), .unset] [(.int (1 : Int32))])) _
        refine XS.iload X13.here hx rfl (hb hby at_115) rfl ?_
        show Steps p.tables e below (T13.setTop (mkF m 117 #[.val (.int pp1), .val (.int pp2), .val (.int (2 : Int32)), .val (.ref ob2), .val (.int (1 : Int32)), .val (.int (2 : Int32)), .unset] [(.int (2 : Int32)), (.int (1 : Int32))])) _
        refine XS.ishr X13.here hx rfl (hb hby at_117) rfl ?_
        show Steps p.tables e below (T13.setTop (mkF m 118 #[.val (.int pp1), .val (.int pp2), .val (.int (2 : Int32)), .val (.ref ob2), .val (.int (1 : Int32)), .val (.int (2 : Int32)), .unset] [(.int (0 : Int32))])) _
        refine XS.iconst X13.here hx rfl (hb hby at_118) ?_
        show Steps p.tables e below (T13.setTop (mkF m 119 #[.val (.int pp1), .val (.int pp2), .val (.int (2 : Int32)), .val (.ref ob2), .val (.int (1 : Int32)), .val (.int (2 : Int32)), .unset] [(.int (1 : Int32)), (.int (0 : Int32))])) _
        refine XS.iand X13.here hx rfl (hb hby at_119) rfl ?_
        show Steps p.tables e below (T13.setTop (mkF m 120 #[.val (.int pp1), .val (.int pp2), .val (.int (2 : Int32)), .val (.ref ob2), .val (.int (1 : Int32)), .val (.int (2 : Int32)), .unset] [(.int (0 : Int32))])) _
        refine XS.ifYes X13.here hx rfl (pc0 := 120) (pc' := 127) rfl (hb hby at_120) rfl ((if0 _ _).trans (teq hc120_9).1) (by decide) (by decide) ?_
        show Steps p.tables e below (T13.setTop (mkF m 127 #[.val (.int pp1), .val (.int pp2), .val (.int (2 : Int32)), .val (.ref ob2), .val (.int (1 : Int32)), .val (.int (2 : Int32)), .unset] [])) _
        refine XS.iconst X13.here hx rfl (hb hby at_127) ?_
        show Steps p.tables e below (T13.setTop (mkF m 128 #[.val (.int pp1), .val (.int pp2), .val (.int (2 : Int32)), .val (.ref ob2), .val (.int (1 : Int32)), .val (.int (2 : Int32)), .unset] [(.int (0 : Int32))])) _
        refine XS.istore X13.here hx rfl (hb hby at_128) rfl (l' := #[.val (.int pp1), .val (.int pp2), .val (.int (2 : Int32)), .val (.ref ob2), .val (.int (1 : Int32)), .val (.int (2 : Int32)), .val (.int (0 : Int32))]) rfl ?_
        show Steps p.tables e below (T13.setTop (mkF m 130 #[.val (.int pp1), .val (.int pp2), .val (.int (2 : Int32)), .val (.ref ob2), .val (.int (1 : Int32)), .val (.int (2 : Int32)), .val (.int (0 : Int32))] [])) _
        refine XS.aloadN X13.here hx rfl (hb hby at_130) rfl rfl ?_
        show Steps p.tables e below (T13.setTop (mkF m 131 #[.val (.int pp1), .val (.int pp2), .val (.int (2 : Int32)), .val (.ref ob2), .val (.int (1 : Int32)), .val (.int (2 : Int32)), .val (.int (0 : Int32))] [(.ref ob2)])) _
        refine XS.iloadN X13.here hx rfl (hb hby at_131) rfl ?_
        show Steps p.tables e below (T13.setTop (mkF m 132 #[.val (.int pp1), .val (.int pp2), .val (.int (2 : Int32)), .val (.ref ob2), .val (.int (1 : Int32)), .val (.int (2 : Int32)), .val (.int (0 : Int32))] [(.int pp2), (.ref ob2)])) _
        refine st17.trans ?_
        show Steps p.tables e below (T17.setTop (mkF m 135 #[.val (.int pp1), .val (.int pp2), .val (.int (2 : Int32)), .val (.ref ob2), .val (.int (1 : Int32)), .val (.int (2 : Int32)), .val (.int (0 : Int32))] [(.int (if pp2 < (0 : Int32) then (1 : Int32) else (0 : Int32)))])) _
        refine XS.iload X17.here hx rfl (hb hby at_135) rfl ?_
        show Steps p.tables e below (T17.setTop (mkF m 137 #[.val (.int pp1), .val (.int pp2), .val (.int (2 : Int32)), .val (.ref ob2), .val (.int (1 : Int32)), .val (.int (2 : Int32)), .val (.int (0 : Int32))] [(.int (0 : Int32)), (.int (if pp2 < (0 : Int32) then (1 : Int32) else (0 : Int32)))])) _
        refine XS.icmpNo X17.here hx rfl (hb hby at_137) rfl (teq hc137_9).2 ?_
        show Steps p.tables e below (T17.setTop (mkF m 140 #[.val (.int pp1), .val (.int pp2), .val (.int (2 : Int32)), .val (.ref ob2), .val (.int (1 : Int32)), .val (.int (2 : Int32)), .val (.int (0 : Int32))] [])) _
        refine XS.iconst X17.here hx rfl (hb hby at_140) ?_
        show Steps p.tables e below (T17.setTop (mkF m 141 #[.val (.int pp1), .val (.int pp2), .val (.int (2 : Int32)), .val (.ref ob2), .val (.int (1 : Int32)), .val (.int (2 : Int32)), .val (.int (0 : Int32))] [(.int (1 : Int32))])) _
        refine XS.goto X17.here hx rfl (pc0 := 141) (pc' := 145) rfl (hb hby at_141) (by decide) (by decide) ?_
        show Steps p.tables e below (T17.setTop (mkF m 145 #[.val (.int pp1), .val (.int pp2), .val (.int (2 : Int32)), .val (.ref ob2), .val (.int (1 : Int32)), .val (.int (2 : Int32)), .val (.int (0 : Int32))] [(.int (1 : Int32))])) _
        exact retN X17 hx (t := .boolean) Bd.returns (by simp) (hb hby at_145) hr
      · show Q0 Z pp1 pp2 ob0 ob1 ob2 ob3 ob4 ob5 h0 n0 _ T17.heap _
        rw [e17]
        exact ⟨rfl, N17⟩
  · skip
    have hc9_4 : ¬ ((3 : Int32) = (0 : Int32)) := by decide
    have hc24_3 : ¬ ((3 : Int32) = (1 : Int32)) := by decide
    have hc39_2 : ¬ ((3 : Int32) = (2 : Int32)) := by decide
    have hc54 : (3 : Int32) = (3 : Int32) := by decide
    obtain ⟨T18, X18, e18, st18⟩ := getS2 X0 hx hZ hown (host := "") (Or.inl (hw _ (List.mem_of_getElem? (i := 26) rfl))) Via.refl e0 (S_LESS_OR_EQUAL.ext O0.2) (g := (mkF m 57 #[.val (.int pp1), .val (.int pp2), .val (.int (3 : Int32)), .unset, .unset, .unset, .unset] [])) rfl (hb hby at_57)
    have pre19 : ∀ t, Steps p.tables e below (T18.setTop (mkF m 90 #[.val (.int pp1), .val (.int pp2), .val (.int (3 : Int32)), .val (.ref ob3), .val (.int (3 : Int32)), .unset, .unset] [])) t → Steps p.tables e below (s₁.setTop (entryFrame m #[(.int pp1), (.int pp2)] maxLocals)) t := fun t kt => pre2 t (by
      show Steps p.tables e below (s₁.setTop (mkF m 8 #[.val (.int pp1), .val (.int pp2), .val (.int (3 : Int32)), .unset, .unset, .unset, .unset] [])) _
      refine XS.iloadN X0.here hx rfl (hb hby at_8) rfl ?_
      show Steps p.tables e below (s₁.setTop (mkF m 9 #[.val (.int pp1), .val (.int pp2), .val (.int (3 : Int32)), .unset, .unset, .unset, .unset] [(.int (3 : Int32))])) _
      refine XS.ifYes X0.here hx rfl (pc0 := 9) (pc' := 22) rfl (hb hby at_9) rfl ((if0 _ _).trans (feq hc9_4).2) (by decide) (by decide) ?_
      show Steps p.tables e below (s₁.setTop (mkF m 22 #[.val (.int pp1), .val (.int pp2), .val (.int (3 : Int32)), .unset, .unset, .unset, .unset] [])) _
      refine XS.iloadN X0.here hx rfl (hb hby at_22) rfl ?_
      show Steps p.tables e below (s₁.setTop (mkF m 23 #[.val (.int pp1), .val (.int pp2), .val (.int (3 : Int32)), .unset, .unset, .unset, .unset] [(.int (3 : Int32))])) _
      refine XS.iconst X0.here hx rfl (hb hby at_23) ?_
      show Steps p.tables e below (s₁.setTop (mkF m 24 #[.val (.int pp1), .val (.int pp2), .val (.int (3 : Int32)), .unset, .unset, .unset, .unset] [(.int (1 : Int32)), (.int (3 : Int32))])) _
      refine XS.icmpYes X0.here hx rfl (pc0 := 24) (pc' := 37) rfl (hb hby at_24) rfl (feq hc24_3).2 (by decide) (by decide) ?_
      show Steps p.tables e below (s₁.setTop (mkF m 37 #[.val (.int pp1), .val (.int pp2), .val (.int (3 : Int32)), .unset, .unset, .unset, .unset] [])) _
      refine XS.iloadN X0.here hx rfl (hb hby at_37) rfl ?_
      show Steps p.tables e below (s₁.setTop (mkF m 38 #[.val (.int pp1), .val (.int pp2), .val (.int (3 : Int32)), .unset, .unset, .unset, .unset] [(.int (3 : Int32))])) _
      refine XS.iconst X0.here hx rfl (hb hby at_38) ?_
      show Steps p.tables e below (s₁.setTop (mkF m 39 #[.val (.int pp1), .val (.int pp2), .val (.int (3 : Int32)), .unset, .unset, .unset, .unset] [(.int (2 : Int32)), (.int (3 : Int32))])) _
      refine XS.icmpYes X0.here hx rfl (pc0 := 39) (pc' := 52) rfl (hb hby at_39) rfl (feq hc39_2).2 (by decide) (by decide) ?_
      show Steps p.tables e below (s₁.setTop (mkF m 52 #[.val (.int pp1), .val (.int pp2), .val (.int (3 : Int32)), .unset, .unset, .unset, .unset] [])) _
      refine XS.iloadN X0.here hx rfl (hb hby at_52) rfl ?_
      show Steps p.tables e below (s₁.setTop (mkF m 53 #[.val (.int pp1), .val (.int pp2), .val (.int (3 : Int32)), .unset, .unset, .unset, .unset] [(.int (3 : Int32))])) _
      refine XS.iconst X0.here hx rfl (hb hby at_53) ?_
      show Steps p.tables e below (s₁.setTop (mkF m 54 #[.val (.int pp1), .val (.int pp2), .val (.int (3 : Int32)), .unset, .unset, .unset, .unset] [(.int (3 : Int32)), (.int (3 : Int32))])) _
      refine XS.icmpNo X0.here hx rfl (hb hby at_54) rfl (teq hc54).2 ?_
      show Steps p.tables e below (s₁.setTop (mkF m 57 #[.val (.int pp1), .val (.int pp2), .val (.int (3 : Int32)), .unset, .unset, .unset, .unset] [])) _
      refine st18 _ ?_
      show Steps p.tables e below (T18.setTop (mkF m 60 #[.val (.int pp1), .val (.int pp2), .val (.int (3 : Int32)), .unset, .unset, .unset, .unset] [(.ref ob3)])) _
      refine XS.astoreN X18.here hx rfl (hb hby at_60) rfl rfl (l' := #[.val (.int pp1), .val (.int pp2), .val (.int (3 : Int32)), .val (.ref ob3), .unset, .unset, .unset]) rfl ?_
      show Steps p.tables e below (T18.setTop (mkF m 61 #[.val (.int pp1), .val (.int pp2), .val (.int (3 : Int32)), .val (.ref ob3), .unset, .unset, .unset] [])) _
      refine XS.iconst X18.here hx rfl (hb hby at_61) ?_
      show Steps p.tables e below (T18.setTop (mkF m 62 #[.val (.int pp1), .val (.int pp2), .val (.int (3 : Int32)), .val (.ref ob3), .unset, .unset, .unset] [(.int (3 : Int32))])) _
      refine XS.istore X18.here hx rfl (hb hby at_62) rfl (l' := #[.val (.int pp1), .val (.int pp2), .val (.int (3 : Int32)), .val (.ref ob3), .val (.int (3 : Int32)), .unset, .unset]) rfl ?_
      show Steps p.tables e below (T18.setTop (mkF m 64 #[.val (.int pp1), .val (.int pp2), .val (.int (3 : Int32)), .val (.ref ob3), .val (.int (3 : Int32)), .unset, .unset] [])) _
      refine XS.goto X18.here hx rfl (pc0 := 64) (pc' := 90) rfl (hb hby at_64) (by decide) (by decide) ?_
      exact kt)
    rcases own_tri pp2 with ⟨hA, hB, hC⟩ | ⟨hA, hB, hC⟩ | ⟨hA, hB, hC⟩
    · skip
      have hc91_10 : pp2 < (0 : Int32) := hA
      have hc120_10 : ¬ ((1 : Int32) = (0 : Int32)) := by decide
      obtain ⟨cq20, kq20, q20a, q20b, q20c⟩ := isOf hZ e18 E_ob3
      obtain ⟨_, _, ⟨T20, L20, k20, n20⟩, -, X20, ⟨Lc20, hQ20, l20, y20, z20⟩, st20⟩ := X18.virtualBack hx (y := (⟨"com/example/guarded_stream/guardedstream/query/ComparisonOperator", "holds", "(I)Z"⟩ : MethodName)) (z := (⟨"com/example/guarded_stream/guardedstream/query/ComparisonOperator", "holds", "(I)Z"⟩ : MethodName)) hown (mvT hZ (hw _ (List.mem_of_getElem? (i := 4) rfl))) (mvT hZ (hw _ (List.mem_of_getElem? (i := 5) rfl))) (notFace_of_selects (args := #[]) (mvT hZ (hw _ (List.mem_of_getElem? (i := 7) rfl)))) (mvT hZ (hw _ (List.mem_of_getElem? (i := 7) rfl))) (mvT hZ (hw _ (List.mem_of_getElem? (i := 6) rfl))) (by decide) (backOf (W := 0) (rm1_3 l Z a0 hw [] ob3 pp2 h0 n0 Z0 E_ob3 F_ob3_ordinal) hZ (hw _ (List.mem_of_getElem? (i := 8) rfl)) (hw _ (List.mem_of_getElem? (i := 2) rfl)) (by decide) (by decide)) q20a q20c (g := (mkF m 132 #[.val (.int pp1), .val (.int pp2), .val (.int (3 : Int32)), .val (.ref ob3), .val (.int (3 : Int32)), .val (.int (0 : Int32)), .val (.int (1 : Int32))] [(.int pp2), (.ref ob3)])) rfl (by rw [hml]; rfl) (Steps.refl _) (argsL := [(.int pp2)]) (rest := []) (lenOf pd__28_I_29_Z rfl) rfl (by show 2 * 0 + _ ≤ _; exact Nat.le_of_eq rfl) (hb hby at_132) (fun _ _ => ⟨rfl, e18, (by decide : 0 + 0 ≤ _), (by decide : 0 + 0 ≤ _)⟩)
      dsimp only [Pt.U, Pt.locs, Pt.cells, Pt.slots] at X20 l20 y20 z20 st20 hQ20
      subst l20 y20 z20
      obtain ⟨rfl, N20q, e20⟩ := hQ20
      have N20 := Fr.app N0 N20q
      have hc137_10 : (if (0 : Int32) < pp2 then (0 : Int32) else (1 : Int32)) = (1 : Int32) := (by rw [if_neg hC])
      obtain ⟨fs, hr, hrun, hended, hW, hsame⟩ := X20.leave (v := some (.int (1 : Int32))) (fun h => by rw [Bd.returns] at h; cases h)
      refine ⟨_, _, pre19 _ ?_, hrun, hended, _, _, rfl, ?_, ⟨_, rfl⟩, hW, hsame.mono (by decide) (by decide)⟩
      · show Steps p.tables e below (T18.setTop (mkF m 90 #[.val (.int pp1), .val (.int pp2), .val (.int (3 : Int32)), .val (.ref ob3), .val (.int (3 : Int32)), .unset, .unset] [])) _
        refine XS.iloadN X18.here hx rfl (hb hby at_90) rfl ?_
        show Steps p.tables e below (T18.setTop (mkF m 91 #[.val (.int pp1), .val (.int pp2), .val (.int (3 : Int32)), .val (.ref ob3), .val (.int (3 : Int32)), .unset, .unset] [(.int pp2)])) _
        refine XS.ifNo X18.here hx rfl (hb hby at_91) rfl ((if0 _ _).trans (tlt hc91_10).2.1) ?_
        show Steps p.tables e below (T18.setTop (mkF m 94 #[.val (.int pp1), .val (.int pp2), .val (.int (3 : Int32)), .val (.ref ob3), .val (.int (3 : Int32)), .unset, .unset] [])) _
        refine XS.iconst X18.here hx rfl (hb hby at_94) ?_
        show Steps p.tables e below (T18.setTop (mkF m 95 #[.val (.int pp1), .val (.int pp2), .val (.int (3 : Int32)), .val (.ref ob3), .val (.int (3 : Int32)), .unset, .unset] [(.int (0 : Int32))])) _
        refine XS.istore X18.here hx rfl (hb hby at_95) rfl (l' := #[.val (.int pp1), .val (.int pp2), .val (.int (3 : Int32)), .val (.ref ob3), .val (.int (3 : Int32)), .val (.int (0 : Int32)), .unset]) rfl ?_
        show Steps p.tables e below (T18.setTop (mkF m 97 #[.val (.int pp1), .val (.int pp2), .val (.int (3 : Int32)), .val (.ref ob3), .val (.int (3 : Int32)), .val (.int (0 : Int32)), .unset] [])) _
        refine XS.goto X18.here hx rfl (pc0 := 97) (pc' := 113) rfl (hb hby at_97) (by decide) (by decide) ?_
        show Steps p.tables e below (T18.setTop (mkF m 113 #[.val (.int pp1), .val (.int pp2), .val (.int (3 : Int32)), .val (.ref ob3), .val (.int (3 : Int32)), .val (.int (0 : Int32)), .unset] [])) _
        refine XS.iload X18.here hx rfl (hb hby at_113) rfl ?_
        show Steps p.tables e below (T18.setTop (mkF m 115 #[.val (.int pp1), .val (.int pp2), .val (.int (3 : Int32)), .val (.ref ob3), .val (.int (3 : Int32)), .val (.int (0 : Int32)), .unset] [(.int (3 : Int32))])) _
        refine XS.iload X18.here hx rfl (hb hby at_115) rfl ?_
        show Steps p.tables e below (T18.setTop (mkF m 117 #[.val (.int pp1), .val (.int pp2), .val (.int (3 : Int32)), .val (.ref ob3), .val (.int (3 : Int32)), .val (.int (0 : Int32)), .unset] [(.int (0 : Int32)), (.int (3 : Int32))])) _
        refine XS.ishr X18.here hx rfl (hb hby at_117) rfl ?_
        show Steps p.tables e below (T18.setTop (mkF m 118 #[.val (.int pp1), .val (.int pp2), .val (.int (3 : Int32)), .val (.ref ob3), .val (.int (3 : Int32)), .val (.int (0 : Int32)), .unset] [(.int (3 : Int32))])) _
        refine XS.iconst X18.here hx rfl (hb hby at_118) ?_
        show Steps p.tables e below (T18.setTop (mkF m 119 #[.val (.int pp1), .val (.int pp2), .val (.int (3 : Int32)), .val (.ref ob3), .val (.int (3 : Int32)), .val (.int (0 : Int32)), .unset] [(.int (1 : Int32)), (.int (3 : Int32))])) _
        refine XS.iand X18.here hx rfl (hb hby at_119) rfl ?_
        show Steps p.tables e below (T18.setTop (mkF m 120 #[.val (.int pp1), .val (.int pp2), .val (.int (3 : Int32)), .val (.ref ob3), .val (.int (3 : Int32)), .val (.int (0 : Int32)), .unset] [(.int (1 : Int32))])) _
        refine XS.ifNo X18.here hx rfl (hb hby at_120) rfl ((if0 _ _).trans (feq hc120_10).1) ?_
        show Steps p.tables e below (T18.setTop (mkF m 123 #[.val (.int pp1), .val (.int pp2), .val (.int (3 : Int32)), .val (.ref ob3), .val (.int (3 : Int32)), .val (.int (0 : Int32)), .unset] [])) _
        refine XS.iconst X18.here hx rfl (hb hby at_123) ?_
        show Steps p.tables e below (T18.setTop (mkF m 124 #[.val (.int pp1), .val (.int pp2), .val (.int (3 : Int32)), .val (.ref ob3), .val (.int (3 : Int32)), .val (.int (0 : Int32)), .unset] [(.int (1 : Int32))])) _
        refine XS.goto X18.here hx rfl (pc0 := 124) (pc' := 128) rfl (hb hby at_124) (by decide) (by decide) ?_
        show Steps p.tables e below (T18.setTop (mkF m 128 #[.val (.int pp1), .val (.int pp2), .val (.int (3 : Int32)), .val (.ref ob3), .val (.int (3 : Int32)), .val (.int (0 : Int32)), .unset] [(.int (1 : Int32))])) _
        refine XS.istore X18.here hx rfl (hb hby at_128) rfl (l' := #[.val (.int pp1), .val (.int pp2), .val (.int (3 : Int32)), .val (.ref ob3), .val (.int (3 : Int32)), .val (.int (0 : Int32)), .val (.int (1 : Int32))]) rfl ?_
        show Steps p.tables e below (T18.setTop (mkF m 130 #[.val (.int pp1), .val (.int pp2), .val (.int (3 : Int32)), .val (.ref ob3), .val (.int (3 : Int32)), .val (.int (0 : Int32)), .val (.int (1 : Int32))] [])) _
        refine XS.aloadN X18.here hx rfl (hb hby at_130) rfl rfl ?_
        show Steps p.tables e below (T18.setTop (mkF m 131 #[.val (.int pp1), .val (.int pp2), .val (.int (3 : Int32)), .val (.ref ob3), .val (.int (3 : Int32)), .val (.int (0 : Int32)), .val (.int (1 : Int32))] [(.ref ob3)])) _
        refine XS.iloadN X18.here hx rfl (hb hby at_131) rfl ?_
        show Steps p.tables e below (T18.setTop (mkF m 132 #[.val (.int pp1), .val (.int pp2), .val (.int (3 : Int32)), .val (.ref ob3), .val (.int (3 : Int32)), .val (.int (0 : Int32)), .val (.int (1 : Int32))] [(.int pp2), (.ref ob3)])) _
        refine st20.trans ?_
        show Steps p.tables e below (T20.setTop (mkF m 135 #[.val (.int pp1), .val (.int pp2), .val (.int (3 : Int32)), .val (.ref ob3), .val (.int (3 : Int32)), .val (.int (0 : Int32)), .val (.int (1 : Int32))] [(.int (if (0 : Int32) < pp2 then (0 : Int32) else (1 : Int32)))])) _
        refine XS.iload X20.here hx rfl (hb hby at_135) rfl ?_
        show Steps p.tables e below (T20.setTop (mkF m 137 #[.val (.int pp1), .val (.int pp2), .val (.int (3 : Int32)), .val (.ref ob3), .val (.int (3 : Int32)), .val (.int (0 : Int32)), .val (.int (1 : Int32))] [(.int (1 : Int32)), (.int (if (0 : Int32) < pp2 then (0 : Int32) else (1 : Int32)))])) _
        refine XS.icmpNo X20.here hx rfl (hb hby at_137) rfl (teq hc137_10).2 ?_
        show Steps p.tables e below (T20.setTop (mkF m 140 #[.val (.int pp1), .val (.int pp2), .val (.int (3 : Int32)), .val (.ref ob3), .val (.int (3 : Int32)), .val (.int (0 : Int32)), .val (.int (1 : Int32))] [])) _
        refine XS.iconst X20.here hx rfl (hb hby at_140) ?_
        show Steps p.tables e below (T20.setTop (mkF m 141 #[.val (.int pp1), .val (.int pp2), .val (.int (3 : Int32)), .val (.ref ob3), .val (.int (3 : Int32)), .val (.int (0 : Int32)), .val (.int (1 : Int32))] [(.int (1 : Int32))])) _
        refine XS.goto X20.here hx rfl (pc0 := 141) (pc' := 145) rfl (hb hby at_141) (by decide) (by decide) ?_
        show Steps p.tables e below (T20.setTop (mkF m 145 #[.val (.int pp1), .val (.int pp2), .val (.int (3 : Int32)), .val (.ref ob3), .val (.int (3 : Int32)), .val (.int (0 : Int32)), .val (.int (1 : Int32))] [(.int (1 : Int32))])) _
        exact retN X20 hx (t := .boolean) Bd.returns (by simp) (hb hby at_145) hr
      · show Q0 Z pp1 pp2 ob0 ob1 ob2 ob3 ob4 ob5 h0 n0 _ T20.heap _
        rw [e20]
        exact ⟨rfl, N20⟩
    · skip
      have hc91_11 : ¬ (pp2 < (0 : Int32)) := hA
      have hc101_7 : pp2 = (0 : Int32) := hB
      have hc120_11 : ¬ ((1 : Int32) = (0 : Int32)) := by decide
      obtain ⟨cq21, kq21, q21a, q21b, q21c⟩ := isOf hZ e18 E_ob3
      obtain ⟨_, _, ⟨T21, L21, k21, n21⟩, -, X21, ⟨Lc21, hQ21, l21, y21, z21⟩, st21⟩ := X18.virtualBack hx (y := (⟨"com/example/guarded_stream/guardedstream/query/ComparisonOperator", "holds", "(I)Z"⟩ : MethodName)) (z := (⟨"com/example/guarded_stream/guardedstream/query/ComparisonOperator", "holds", "(I)Z"⟩ : MethodName)) hown (mvT hZ (hw _ (List.mem_of_getElem? (i := 4) rfl))) (mvT hZ (hw _ (List.mem_of_getElem? (i := 5) rfl))) (notFace_of_selects (args := #[]) (mvT hZ (hw _ (List.mem_of_getElem? (i := 7) rfl)))) (mvT hZ (hw _ (List.mem_of_getElem? (i := 7) rfl))) (mvT hZ (hw _ (List.mem_of_getElem? (i := 6) rfl))) (by decide) (backOf (W := 0) (rm1_3 l Z a0 hw [] ob3 pp2 h0 n0 Z0 E_ob3 F_ob3_ordinal) hZ (hw _ (List.mem_of_getElem? (i := 8) rfl)) (hw _ (List.mem_of_getElem? (i := 2) rfl)) (by decide) (by decide)) q21a q21c (g := (mkF m 132 #[.val (.int pp1), .val (.int pp2), .val (.int (3 : Int32)), .val (.ref ob3), .val (.int (3 : Int32)), .val (.int (1 : Int32)), .val (.int (1 : Int32))] [(.int pp2), (.ref ob3)])) rfl (by rw [hml]; rfl) (Steps.refl _) (argsL := [(.int pp2)]) (rest := []) (lenOf pd__28_I_29_Z rfl) rfl (by show 2 * 0 + _ ≤ _; exact Nat.le_of_eq rfl) (hb hby at_132) (fun _ _ => ⟨rfl, e18, (by decide : 0 + 0 ≤ _), (by decide : 0 + 0 ≤ _)⟩)
      dsimp only [Pt.U, Pt.locs, Pt.cells, Pt.slots] at X21 l21 y21 z21 st21 hQ21
      subst l21 y21 z21
      obtain ⟨rfl, N21q, e21⟩ := hQ21
      have N21 := Fr.app N0 N21q
      have hc137_11 : (if (0 : Int32) < pp2 then (0 : Int32) else (1 : Int32)) = (1 : Int32) := (by rw [if_neg hC])
      obtain ⟨fs, hr, hrun, hended, hW, hsame⟩ := X21.leave (v := some (.int (1 : Int32))) (fun h => by rw [Bd.returns] at h; cases h)
      refine ⟨_, _, pre19 _ ?_, hrun, hended, _, _, rfl, ?_, ⟨_, rfl⟩, hW, hsame.mono (by decide) (by decide)⟩
      · show Steps p.tables e below (T18.setTop (mkF m 90 #[.val (.int pp1), .val (.int pp2), .val (.int (3 : Int32)), .val (.ref ob3), .val (.int (3 : Int32)), .unset, .unset] [])) _
        refine XS.iloadN X18.here hx rfl (hb hby at_90) rfl ?_
        show Steps p.tables e below (T18.setTop (mkF m 91 #[.val (.int pp1), .val (.int pp2), .val (.int (3 : Int32)), .val (.ref ob3), .val (.int (3 : Int32)), .unset, .unset] [(.int pp2)])) _
        refine XS.ifYes X18.here hx rfl (pc0 := 91) (pc' := 100) rfl (hb hby at_91) rfl ((if0 _ _).trans (flt hc91_11).2.1) (by decide) (by decide) ?_
        show Steps p.tables e below (T18.setTop (mkF m 100 #[.val (.int pp1), .val (.int pp2), .val (.int (3 : Int32)), .val (.ref ob3), .val (.int (3 : Int32)), .unset, .unset] [])) _
        refine XS.iloadN X18.here hx rfl (hb hby at_100) rfl ?_
        show Steps p.tables e below (T18.setTop (mkF m 101 #[.val (.int pp1), .val (.int pp2), .val (.int (3 : Int32)), .val (.ref ob3), .val (.int (3 : Int32)), .unset, .unset] [(.int pp2)])) _
        refine XS.ifNo X18.here hx rfl (hb hby at_101) rfl ((if0 _ _).trans (teq hc101_7).2) ?_
        show Steps p.tables e below (T18.setTop (mkF m 104 #[.val (.int pp1), .val (.int pp2), .val (.int (3 : Int32)), .val (.ref ob3), .val (.int (3 : Int32)), .unset, .unset] [])) _
        refine XS.iconst X18.here hx rfl (hb hby at_104) ?_
        show Steps p.tables e below (T18.setTop (mkF m 105 #[.val (.int pp1), .val (.int pp2), .val (.int (3 : Int32)), .val (.ref ob3), .val (.int (3 : Int32)), .unset, .unset] [(.int (1 : Int32))])) _
        refine XS.istore X18.here hx rfl (hb hby at_105) rfl (l' := #[.val (.int pp1), .val (.int pp2), .val (.int (3 : Int32)), .val (.ref ob3), .val (.int (3 : Int32)), .val (.int (1 : Int32)), .unset]) rfl ?_
        show Steps p.tables e below (T18.setTop (mkF m 107 #[.val (.int pp1), .val (.int pp2), .val (.int (3 : Int32)), .val (.ref ob3), .val (.int (3 : Int32)), .val (.int (1 : Int32)), .unset] [])) _
        refine XS.goto X18.here hx rfl (pc0 := 107) (pc' := 113) rfl (hb hby at_107) (by decide) (by decide) ?_
        show Steps p.tables e below (T18.setTop (mkF m 113 #[.val (.int pp1), .val (.int pp2), .val (.int (3 : Int32)), .val (.ref ob3), .val (.int (3 : Int32)), .val (.int (1 : Int32)), .unset] [])) _
        refine XS.iload X18.here hx rfl (hb hby at_113) rfl ?_
        show Steps p.tables e below (T18.setTop (mkF m 115 #[.val (.int pp1), .val (.int pp2), .val (.int (3 : Int32)), .val (.ref ob3), .val (.int (3 : Int32)), .val (.int (1 : Int32)), .unset] [(.int (3 : Int32))])) _
        refine XS.iload X18.here hx rfl (hb hby at_115) rfl ?_
        show Steps p.tables e below (T18.setTop (mkF m 117 #[.val (.int pp1), .val (.int pp2), .val (.int (3 : Int32)), .val (.ref ob3), .val (.int (3 : Int32)), .val (.int (1 : Int32)), .unset] [(.int (1 : Int32)), (.int (3 : Int32))])) _
        refine XS.ishr X18.here hx rfl (hb hby at_117) rfl ?_
        show Steps p.tables e below (T18.setTop (mkF m 118 #[.val (.int pp1), .val (.int pp2), .val (.int (3 : Int32)), .val (.ref ob3), .val (.int (3 : Int32)), .val (.int (1 : Int32)), .unset] [(.int (1 : Int32))])) _
        refine XS.iconst X18.here hx rfl (hb hby at_118) ?_
        show Steps p.tables e below (T18.setTop (mkF m 119 #[.val (.int pp1), .val (.int pp2), .val (.int (3 : Int32)), .val (.ref ob3), .val (.int (3 : Int32)), .val (.int (1 : Int32)), .unset] [(.int (1 : Int32)), (.int (1 : Int32))])) _
        refine XS.iand X18.here hx rfl (hb hby at_119) rfl ?_
        show Steps p.tables e below (T18.setTop (mkF m 120 #[.val (.int pp1), .val (.int pp2), .val (.int (3 : Int32)), .val (.ref ob3), .val (.int (3 : Int32)), .val (.int (1 : Int32)), .unset] [(.int (1 : Int32))])) _
        refine XS.ifNo X18.here hx rfl (hb hby at_120) rfl ((if0 _ _).trans (feq hc120_11).1) ?_
        show Steps p.tables e below (T18.setTop (mkF m 123 #[.val (.int pp1), .val (.int pp2), .val (.int (3 : Int32)), .val (.ref ob3), .val (.int (3 : Int32)), .val (.int (1 : Int32)), .unset] [])) _
        refine XS.iconst X18.here hx rfl (hb hby at_123) ?_
        show Steps p.tables e below (T18.setTop (mkF m 124 #[.val (.int pp1), .val (.int pp2), .val (.int (3 : Int32)), .val (.ref ob3), .val (.int (3 : Int32)), .val (.int (1 : Int32)), .unset] [(.int (1 : Int32))])) _
        refine XS.goto X18.here hx rfl (pc0 := 124) (pc' := 128) rfl (hb hby at_124) (by decide) (by decide) ?_
        show Steps p.tables e below (T18.setTop (mkF m 128 #[.val (.int pp1), .val (.int pp2), .val (.int (3 : Int32)), .val (.ref ob3), .val (.int (3 : Int32)), .val (.int (1 : Int32)), .unset] [(.int (1 : Int32))])) _
        refine XS.istore X18.here hx rfl (hb hby at_128) rfl (l' := #[.val (.int pp1), .val (.int pp2), .val (.int (3 : Int32)), .val (.ref ob3), .val (.int (3 : Int32)), .val (.int (1 : Int32)), .val (.int (1 : Int32))]) rfl ?_
        show Steps p.tables e below (T18.setTop (mkF m 130 #[.val (.int pp1), .val (.int pp2), .val (.int (3 : Int32)), .val (.ref ob3), .val (.int (3 : Int32)), .val (.int (1 : Int32)), .val (.int (1 : Int32))] [])) _
        refine XS.aloadN X18.here hx rfl (hb hby at_130) rfl rfl ?_
        show Steps p.tables e below (T18.setTop (mkF m 131 #[.val (.int pp1), .val (.int pp2), .val (.int (3 : Int32)), .val (.ref ob3), .val (.int (3 : Int32)), .val (.int (1 : Int32)), .val (.int (1 : Int32))] [(.ref ob3)])) _
        refine XS.iloadN X18.here hx rfl (hb hby at_131) rfl ?_
        show Steps p.tables e below (T18.setTop (mkF m 132 #[.val (.int pp1), .val (.int pp2), .val (.int (3 : Int32)), .val (.ref ob3), .val (.int (3 : Int32)), .val (.int (1 : Int32)), .val (.int (1 : Int32))] [(.int pp2), (.ref ob3)])) _
        refine st21.trans ?_
        show Steps p.tables e below (T21.setTop (mkF m 135 #[.val (.int pp1), .val (.int pp2), .val (.int (3 : Int32)), .val (.ref ob3), .val (.int (3 : Int32)), .val (.int (1 : Int32)), .val (.int (1 : Int32))] [(.int (if (0 : Int32) < pp2 then (0 : Int32) else (1 : Int32)))])) _
        refine XS.iload X21.here hx rfl (hb hby at_135) rfl ?_
        show Steps p.tables e below (T21.setTop (mkF m 137 #[.val (.int pp1), .val (.int pp2), .val (.int (3 : Int32)), .val (.ref ob3), .val (.int (3 : Int32)), .val (.int (1 : Int32)), .val (.int (1 : Int32))] [(.int (1 : Int32)), (.int (if (0 : Int32) < pp2 then (0 : Int32) else (1 : Int32)))])) _
        refine XS.icmpNo X21.here hx rfl (hb hby at_137) rfl (teq hc137_11).2 ?_
        show Steps p.tables e below (T21.setTop (mkF m 140 #[.val (.int pp1), .val (.int pp2), .val (.int (3 : Int32)), .val (.ref ob3), .val (.int (3 : Int32)), .val (.int (1 : Int32)), .val (.int (1 : Int32))] [])) _
        refine XS.iconst X21.here hx rfl (hb hby at_140) ?_
        show Steps p.tables e below (T21.setTop (mkF m 141 #[.val (.int pp1), .val (.int pp2), .val (.int (3 : Int32)), .val (.ref ob3), .val (.int (3 : Int32)), .val (.int (1 : Int32)), .val (.int (1 : Int32))] [(.int (1 : Int32))])) _
        refine XS.goto X21.here hx rfl (pc0 := 141) (pc' := 145) rfl (hb hby at_141) (by decide) (by decide) ?_
        show Steps p.tables e below (T21.setTop (mkF m 145 #[.val (.int pp1), .val (.int pp2), .val (.int (3 : Int32)), .val (.ref ob3), .val (.int (3 : Int32)), .val (.int (1 : Int32)), .val (.int (1 : Int32))] [(.int (1 : Int32))])) _
        exact retN X21 hx (t := .boolean) Bd.returns (by simp) (hb hby at_145) hr
      · show Q0 Z pp1 pp2 ob0 ob1 ob2 ob3 ob4 ob5 h0 n0 _ T21.heap _
        rw [e21]
        exact ⟨rfl, N21⟩
    · skip
      have hc91_12 : ¬ (pp2 < (0 : Int32)) := hA
      have hc101_8 : ¬ (pp2 = (0 : Int32)) := hB
      have hc120_12 : (0 : Int32) = (0 : Int32) := by decide
      obtain ⟨cq22, kq22, q22a, q22b, q22c⟩ := isOf hZ e18 E_ob3
      obtain ⟨_, _, ⟨T22, L22, k22, n22⟩, -, X22, ⟨Lc22, hQ22, l22, y22, z22⟩, st22⟩ := X18.virtualBack hx (y := (⟨"com/example/guarded_stream/guardedstream/query/ComparisonOperator", "holds", "(I)Z"⟩ : MethodName)) (z := (⟨"com/example/guarded_stream/guardedstream/query/ComparisonOperator", "holds", "(I)Z"⟩ : MethodName)) hown (mvT hZ (hw _ (List.mem_of_getElem? (i := 4) rfl))) (mvT hZ (hw _ (List.mem_of_getElem? (i := 5) rfl))) (notFace_of_selects (args := #[]) (mvT hZ (hw _ (List.mem_of_getElem? (i := 7) rfl)))) (mvT hZ (hw _ (List.mem_of_getElem? (i := 7) rfl))) (mvT hZ (hw _ (List.mem_of_getElem? (i := 6) rfl))) (by decide) (backOf (W := 0) (rm1_3 l Z a0 hw [] ob3 pp2 h0 n0 Z0 E_ob3 F_ob3_ordinal) hZ (hw _ (List.mem_of_getElem? (i := 8) rfl)) (hw _ (List.mem_of_getElem? (i := 2) rfl)) (by decide) (by decide)) q22a q22c (g := (mkF m 132 #[.val (.int pp1), .val (.int pp2), .val (.int (3 : Int32)), .val (.ref ob3), .val (.int (3 : Int32)), .val (.int (2 : Int32)), .val (.int (0 : Int32))] [(.int pp2), (.ref ob3)])) rfl (by rw [hml]; rfl) (Steps.refl _) (argsL := [(.int pp2)]) (rest := []) (lenOf pd__28_I_29_Z rfl) rfl (by show 2 * 0 + _ ≤ _; exact Nat.le_of_eq rfl) (hb hby at_132) (fun _ _ => ⟨rfl, e18, (by decide : 0 + 0 ≤ _), (by decide : 0 + 0 ≤ _)⟩)
      dsimp only [Pt.U, Pt.locs, Pt.cells, Pt.slots] at X22 l22 y22 z22 st22 hQ22
      subst l22 y22 z22
      obtain ⟨rfl, N22q, e22⟩ := hQ22
      have N22 := Fr.app N0 N22q
      have hc137_12 : (if (0 : Int32) < pp2 then (0 : Int32) else (1 : Int32)) = (0 : Int32) := (by rw [if_pos hC])
      obtain ⟨fs, hr, hrun, hended, hW, hsame⟩ := X22.leave (v := some (.int (1 : Int32))) (fun h => by rw [Bd.returns] at h; cases h)
      refine ⟨_, _, pre19 _ ?_, hrun, hended, _, _, rfl, ?_, ⟨_, rfl⟩, hW, hsame.mono (by decide) (by decide)⟩
      · show Steps p.tables e below (T18.setTop (mkF m 90 #[.val (.int pp1), .val (.int pp2), .val (.int (3 : Int32)), .val (.ref ob3), .val (.int (3 : Int32)), .unset, .unset] [])) _
        refine XS.iloadN X18.here hx rfl (hb hby at_90) rfl ?_
        show Steps p.tables e below (T18.setTop (mkF m 91 #[.val (.int pp1), .val (.int pp2), .val (.int (3 : Int32)), .val (.ref ob3), .val (.int (3 : Int32)), .unset, .unset] [(.int pp2)])) _
        refine XS.ifYes X18.here hx rfl (pc0 := 91) (pc' := 100) rfl (hb hby at_91) rfl ((if0 _ _).trans (flt hc91_12).2.1) (by decide) (by decide) ?_
        show Steps p.tables e below (T18.setTop (mkF m 100 #[.val (.int pp1), .val (.int pp2), .val (.int (3 : Int32)), .val (.ref ob3), .val (.int (3 : Int32)), .unset, .unset] [])) _
        refine XS.iloadN X18.here hx rfl (hb hby at_100) rfl ?_
        show Steps p.tables e below (T18.setTop (mkF m 101 #[.val (.int pp1), .val (.int pp2), .val (.int (3 : Int32)), .val (.ref ob3), .val (.int (3 : Int32)), .unset, .unset] [(.int pp2)])) _
        refine XS.ifYes X18.here hx rfl (pc0 := 101) (pc' := 110) rfl (hb hby at_101) rfl ((if0 _ _).trans (feq hc101_8).2) (by decide) (by decide) ?_
        show Steps p.tables e below (T18.setTop (mkF m 110 #[.val (.int pp1), .val (.int pp2), .val (.int (3 : Int32)), .val (.ref ob3), .val (.int (3 : Int32)), .unset, .unset] [])) _
        refine XS.iconst X18.here hx rfl (hb hby at_110) ?_
        show Steps p.tables e below (T18.setTop (mkF m 111 #[.val (.int pp1), .val (.int pp2), .val (.int (3 : Int32)), .val (.ref ob3), .val (.int (3 : Int32)), .unset, .unset] [(.int (2 : Int32))])) _
        refine XS.istore X18.here hx rfl (hb hby at_111) rfl (l' := #[.val (.int pp1), .val (.int pp2), .val (.int (3 : Int32)), .val (.ref ob3), .val (.int (3 : Int32)), .val (.int (2 : Int32)), .unset]) rfl ?_
        show Steps p.tables e below (T18.setTop (mkF m 113 #[.val (.int pp1), .val (.int pp2), .val (.int (3 : Int32)), .val (.ref ob3), .val (.int (3 : Int32)), .val (.int (2 : Int32)), .unset] [])) _
        refine XS.iload X18.here hx rfl (hb hby at_113) rfl ?_
        show Steps p.tables e below (T18.setTop (mkF m 115 #[.val (.int pp1), .val (.int pp2), .val (.int (3 : Int32)), .val (.ref ob3), .val (.int (3 : Int32)), .val (.int (2 : Int32)), .unset] [(.int (3 : Int32))])) _
        refine XS.iload X18.here hx rfl (hb hby at_115) rfl ?_
        show Steps p.tables e below (T18.setTop (mkF m 117 #[.val (.int pp1), .val (.int pp2), .val (.int (3 : Int32)), .val (.ref ob3), .val (.int (3 : Int32)), .val (.int (2 : Int32)), .unset] [(.int (2 : Int32)), (.int (3 : Int32))])) _
        refine XS.ishr X18.here hx rfl (hb hby at_117) rfl ?_
        show Steps p.tables e below (T18.setTop (mkF m 118 #[.val (.int pp1), .val (.int pp2), .val (.int (3 : Int32)), .val (.ref ob3), .val (.int (3 : Int32)), .val (.int (2 : Int32)), .unset] [(.int (0 : Int32))])) _
        refine XS.iconst X18.here hx rfl (hb hby at_118) ?_
        show Steps p.tables e below (T18.setTop (mkF m 119 #[.val (.int pp1), .val (.int pp2), .val (.int (3 : Int32)), .val (.ref ob3), .val (.int (3 : Int32)), .val (.int (2 : Int32)), .unset] [(.int (1 : Int32)), (.int (0 : Int32))])) _
        refine XS.iand X18.here hx rfl (hb hby at_119) rfl ?_
        show Steps p.tables e below (T18.setTop (mkF m 120 #[.val (.int pp1), .val (.int pp2), .val (.int (3 : Int32)), .val (.ref ob3), .val (.int (3 : Int32)), .val (.int (2 : Int32)), .unset] [(.int (0 : Int32))])) _
        refine XS.ifYes X18.here hx rfl (pc0 := 120) (pc' := 127) rfl (hb hby at_120) rfl ((if0 _ _).trans (teq hc120_12).1) (by decide) (by decide) ?_
        show Steps p.tables e below (T18.setTop (mkF m 127 #[.val (.int pp1), .val (.int pp2), .val (.int (3 : Int32)), .val (.ref ob3), .val (.int (3 : Int32)), .val (.int (2 : Int32)), .unset] [])) _
        refine XS.iconst X18.here hx rfl (hb hby at_127) ?_
        show Steps p.tables e below (T18.setTop (mkF m 128 #[.val (.int pp1), .val (.int pp2), .val (.int (3 : Int32)), .val (.ref ob3), .val (.int (3 : Int32)), .val (.int (2 : Int32)), .unset] [(.int (0 : Int32))])) _
        refine XS.istore X18.here hx rfl (hb hby at_128) rfl (l' := #[.val (.int pp1), .val (.int pp2), .val (.int (3 : Int32)), .val (.ref ob3), .val (.int (3 : Int32)), .val (.int (2 : Int32)), .val (.int (0 : Int32))]) rfl ?_
        show Steps p.tables e below (T18.setTop (mkF m 130 #[.val (.int pp1), .val (.int pp2), .val (.int (3 : Int32)), .val (.ref ob3), .val (.int (3 : Int32)), .val (.int (2 : Int32)), .val (.int (0 : Int32))] [])) _
        refine XS.aloadN X18.here hx rfl (hb hby at_130) rfl rfl ?_
        show Steps p.tables e below (T18.setTop (mkF m 131 #[.val (.int pp1), .val (.int pp2), .val (.int (3 : Int32)), .val (.ref ob3), .val (.int (3 : Int32)), .val (.int (2 : Int32)), .val (.int (0 : Int32))] [(.ref ob3)])) _
        refine XS.iloadN X18.here hx rfl (hb hby at_131) rfl ?_
        show Steps p.tables e below (T18.setTop (mkF m 132 #[.val (.int pp1), .val (.int pp2), .val (.int (3 : Int32)), .val (.ref ob3), .val (.int (3 : Int32)), .val (.int (2 : Int32)), .val (.int (0 : Int32))] [(.int pp2), (.ref ob3)])) _
        refine st22.trans ?_
        show Steps p.tables e below (T22.setTop (mkF m 135 #[.val (.int pp1), .val (.int pp2), .val (.int (3 : Int32)), .val (.ref ob3), .val (.int (3 : Int32)), .val (.int (2 : Int32)), .val (.int (0 : Int32))] [(.int (if (0 : Int32) < pp2 then (0 : Int32) else (1 : Int32)))])) _
        refine XS.iload X22.here hx rfl (hb hby at_135) rfl ?_
        show Steps p.tables e below (T22.setTop (mkF m 137 #[.val (.int pp1), .val (.int pp2), .val (.int (3 : Int32)), .val (.ref ob3), .val (.int (3 : Int32)), .val (.int (2 : Int32)), .val (.int (0 : Int32))] [(.int (0 : Int32)), (.int (if (0 : Int32) < pp2 then (0 : Int32) else (1 : Int32)))])) _
        refine XS.icmpNo X22.here hx rfl (hb hby at_137) rfl (teq hc137_12).2 ?_
        show Steps p.tables e below (T22.setTop (mkF m 140 #[.val (.int pp1), .val (.int pp2), .val (.int (3 : Int32)), .val (.ref ob3), .val (.int (3 : Int32)), .val (.int (2 : Int32)), .val (.int (0 : Int32))] [])) _
        refine XS.iconst X22.here hx rfl (hb hby at_140) ?_
        show Steps p.tables e below (T22.setTop (mkF m 141 #[.val (.int pp1), .val (.int pp2), .val (.int (3 : Int32)), .val (.ref ob3), .val (.int (3 : Int32)), .val (.int (2 : Int32)), .val (.int (0 : Int32))] [(.int (1 : Int32))])) _
        refine XS.goto X22.here hx rfl (pc0 := 141) (pc' := 145) rfl (hb hby at_141) (by decide) (by decide) ?_
        show Steps p.tables e below (T22.setTop (mkF m 145 #[.val (.int pp1), .val (.int pp2), .val (.int (3 : Int32)), .val (.ref ob3), .val (.int (3 : Int32)), .val (.int (2 : Int32)), .val (.int (0 : Int32))] [(.int (1 : Int32))])) _
        exact retN X22 hx (t := .boolean) Bd.returns (by simp) (hb hby at_145) hr
      · show Q0 Z pp1 pp2 ob0 ob1 ob2 ob3 ob4 ob5 h0 n0 _ T22.heap _
        rw [e22]
        exact ⟨rfl, N22⟩
  · skip
    have hc9_5 : ¬ ((4 : Int32) = (0 : Int32)) := by decide
    have hc24_4 : ¬ ((4 : Int32) = (1 : Int32)) := by decide
    have hc39_3 : ¬ ((4 : Int32) = (2 : Int32)) := by decide
    have hc54_2 : ¬ ((4 : Int32) = (3 : Int32)) := by decide
    have hc69 : (4 : Int32) = (4 : Int32) := by decide
    obtain ⟨T23, X23, e23, st23⟩ := getS2 X0 hx hZ hown (host := "") (Or.inl (hw _ (List.mem_of_getElem? (i := 20) rfl))) Via.refl e0 (S_GREATER.ext O0.2) (g := (mkF m 72 #[.val (.int pp1), .val (.int pp2), .val (.int (4 : Int32)), .unset, .unset, .unset, .unset] [])) rfl (hb hby at_72)
    have pre24 : ∀ t, Steps p.tables e below (T23.setTop (mkF m 90 #[.val (.int pp1), .val (.int pp2), .val (.int (4 : Int32)), .val (.ref ob4), .val (.int (4 : Int32)), .unset, .unset] [])) t → Steps p.tables e below (s₁.setTop (entryFrame m #[(.int pp1), (.int pp2)] maxLocals)) t := fun t kt => pre2 t (by
      show Steps p.tables e below (s₁.setTop (mkF m 8 #[.val (.int pp1), .val (.int pp2), .val (.int (4 : Int32)), .unset, .unset, .unset, .unset] [])) _
      refine XS.iloadN X0.here hx rfl (hb hby at_8) rfl ?_
      show Steps p.tables e below (s₁.setTop (mkF m 9 #[.val (.int pp1), .val (.int pp2), .val (.int (4 : Int32)), .unset, .unset, .unset, .unset] [(.int (4 : Int32))])) _
      refine XS.ifYes X0.here hx rfl (pc0 := 9) (pc' := 22) rfl (hb hby at_9) rfl ((if0 _ _).trans (feq hc9_5).2) (by decide) (by decide) ?_
      show Steps p.tables e below (s₁.setTop (mkF m 22 #[.val (.int pp1), .val (.int pp2), .val (.int (4 : Int32)), .unset, .unset, .unset, .unset] [])) _
      refine XS.iloadN X0.here hx rfl (hb hby at_22) rfl ?_
      show Steps p.tables e below (s₁.setTop (mkF m 23 #[.val (.int pp1), .val (.int pp2), .val (.int (4 : Int32)), .unset, .unset, .unset, .unset] [(.int (4 : Int32))])) _
      refine XS.iconst X0.here hx rfl (hb hby at_23) ?_
      show Steps p.tables e below (s₁.setTop (mkF m 24 #[.val (.int pp1), .val (.int pp2), .val (.int (4 : Int32)), .unset, .unset, .unset, .unset] [(.int (1 : Int32)), (.int (4 : Int32))])) _
      refine XS.icmpYes X0.here hx rfl (pc0 := 24) (pc' := 37) rfl (hb hby at_24) rfl (feq hc24_4).2 (by decide) (by decide) ?_
      show Steps p.tables e below (s₁.setTop (mkF m 37 #[.val (.int pp1), .val (.int pp2), .val (.int (4 : Int32)), .unset, .unset, .unset, .unset] [])) _
      refine XS.iloadN X0.here hx rfl (hb hby at_37) rfl ?_
      show Steps p.tables e below (s₁.setTop (mkF m 38 #[.val (.int pp1), .val (.int pp2), .val (.int (4 : Int32)), .unset, .unset, .unset, .unset] [(.int (4 : Int32))])) _
      refine XS.iconst X0.here hx rfl (hb hby at_38) ?_
      show Steps p.tables e below (s₁.setTop (mkF m 39 #[.val (.int pp1), .val (.int pp2), .val (.int (4 : Int32)), .unset, .unset, .unset, .unset] [(.int (2 : Int32)), (.int (4 : Int32))])) _
      refine XS.icmpYes X0.here hx rfl (pc0 := 39) (pc' := 52) rfl (hb hby at_39) rfl (feq hc39_3).2 (by decide) (by decide) ?_
      show Steps p.tables e below (s₁.setTop (mkF m 52 #[.val (.int pp1), .val (.int pp2), .val (.int (4 : Int32)), .unset, .unset, .unset, .unset] [])) _
      refine XS.iloadN X0.here hx rfl (hb hby at_52) rfl ?_
      show Steps p.tables e below (s₁.setTop (mkF m 53 #[.val (.int pp1), .val (.int pp2), .val (.int (4 : Int32)), .unset, .unset, .unset, .unset] [(.int (4 : Int32))])) _
      refine XS.iconst X0.here hx rfl (hb hby at_53) ?_
      show Steps p.tables e below (s₁.setTop (mkF m 54 #[.val (.int pp1), .val (.int pp2), .val (.int (4 : Int32)), .unset, .unset, .unset, .unset] [(.int (3 : Int32)), (.int (4 : Int32))])) _
      refine XS.icmpYes X0.here hx rfl (pc0 := 54) (pc' := 67) rfl (hb hby at_54) rfl (feq hc54_2).2 (by decide) (by decide) ?_
      show Steps p.tables e below (s₁.setTop (mkF m 67 #[.val (.int pp1), .val (.int pp2), .val (.int (4 : Int32)), .unset, .unset, .unset, .unset] [])) _
      refine XS.iloadN X0.here hx rfl (hb hby at_67) rfl ?_
      show Steps p.tables e below (s₁.setTop (mkF m 68 #[.val (.int pp1), .val (.int pp2), .val (.int (4 : Int32)), .unset, .unset, .unset, .unset] [(.int (4 : Int32))])) _
      refine XS.iconst X0.here hx rfl (hb hby at_68) ?_
      show Steps p.tables e below (s₁.setTop (mkF m 69 #[.val (.int pp1), .val (.int pp2), .val (.int (4 : Int32)), .unset, .unset, .unset, .unset] [(.int (4 : Int32)), (.int (4 : Int32))])) _
      refine XS.icmpNo X0.here hx rfl (hb hby at_69) rfl (teq hc69).2 ?_
      show Steps p.tables e below (s₁.setTop (mkF m 72 #[.val (.int pp1), .val (.int pp2), .val (.int (4 : Int32)), .unset, .unset, .unset, .unset] [])) _
      refine st23 _ ?_
      show Steps p.tables e below (T23.setTop (mkF m 75 #[.val (.int pp1), .val (.int pp2), .val (.int (4 : Int32)), .unset, .unset, .unset, .unset] [(.ref ob4)])) _
      refine XS.astoreN X23.here hx rfl (hb hby at_75) rfl rfl (l' := #[.val (.int pp1), .val (.int pp2), .val (.int (4 : Int32)), .val (.ref ob4), .unset, .unset, .unset]) rfl ?_
      show Steps p.tables e below (T23.setTop (mkF m 76 #[.val (.int pp1), .val (.int pp2), .val (.int (4 : Int32)), .val (.ref ob4), .unset, .unset, .unset] [])) _
      refine XS.iconst X23.here hx rfl (hb hby at_76) ?_
      show Steps p.tables e below (T23.setTop (mkF m 77 #[.val (.int pp1), .val (.int pp2), .val (.int (4 : Int32)), .val (.ref ob4), .unset, .unset, .unset] [(.int (4 : Int32))])) _
      refine XS.istore X23.here hx rfl (hb hby at_77) rfl (l' := #[.val (.int pp1), .val (.int pp2), .val (.int (4 : Int32)), .val (.ref ob4), .val (.int (4 : Int32)), .unset, .unset]) rfl ?_
      show Steps p.tables e below (T23.setTop (mkF m 79 #[.val (.int pp1), .val (.int pp2), .val (.int (4 : Int32)), .val (.ref ob4), .val (.int (4 : Int32)), .unset, .unset] [])) _
      refine XS.goto X23.here hx rfl (pc0 := 79) (pc' := 90) rfl (hb hby at_79) (by decide) (by decide) ?_
      exact kt)
    rcases own_tri pp2 with ⟨hA, hB, hC⟩ | ⟨hA, hB, hC⟩ | ⟨hA, hB, hC⟩
    · skip
      have hc91_13 : pp2 < (0 : Int32) := hA
      have hc120_13 : (0 : Int32) = (0 : Int32) := by decide
      obtain ⟨cq25, kq25, q25a, q25b, q25c⟩ := isOf hZ e23 E_ob4
      obtain ⟨_, _, ⟨T25, L25, k25, n25⟩, -, X25, ⟨Lc25, hQ25, l25, y25, z25⟩, st25⟩ := X23.virtualBack hx (y := (⟨"com/example/guarded_stream/guardedstream/query/ComparisonOperator", "holds", "(I)Z"⟩ : MethodName)) (z := (⟨"com/example/guarded_stream/guardedstream/query/ComparisonOperator", "holds", "(I)Z"⟩ : MethodName)) hown (mvT hZ (hw _ (List.mem_of_getElem? (i := 4) rfl))) (mvT hZ (hw _ (List.mem_of_getElem? (i := 5) rfl))) (notFace_of_selects (args := #[]) (mvT hZ (hw _ (List.mem_of_getElem? (i := 7) rfl)))) (mvT hZ (hw _ (List.mem_of_getElem? (i := 7) rfl))) (mvT hZ (hw _ (List.mem_of_getElem? (i := 6) rfl))) (by decide) (backOf (W := 0) (rm1_4 l Z a0 hw [] ob4 pp2 h0 n0 Z0 E_ob4 F_ob4_ordinal) hZ (hw _ (List.mem_of_getElem? (i := 8) rfl)) (hw _ (List.mem_of_getElem? (i := 2) rfl)) (by decide) (by decide)) q25a q25c (g := (mkF m 132 #[.val (.int pp1), .val (.int pp2), .val (.int (4 : Int32)), .val (.ref ob4), .val (.int (4 : Int32)), .val (.int (0 : Int32)), .val (.int (0 : Int32))] [(.int pp2), (.ref ob4)])) rfl (by rw [hml]; rfl) (Steps.refl _) (argsL := [(.int pp2)]) (rest := []) (lenOf pd__28_I_29_Z rfl) rfl (by show 2 * 0 + _ ≤ _; exact Nat.le_of_eq rfl) (hb hby at_132) (fun _ _ => ⟨rfl, e23, (by decide : 0 + 0 ≤ _), (by decide : 0 + 0 ≤ _)⟩)
      dsimp only [Pt.U, Pt.locs, Pt.cells, Pt.slots] at X25 l25 y25 z25 st25 hQ25
      subst l25 y25 z25
      obtain ⟨rfl, N25q, e25⟩ := hQ25
      have N25 := Fr.app N0 N25q
      have hc137_13 : (if (0 : Int32) < pp2 then (1 : Int32) else (0 : Int32)) = (0 : Int32) := (by rw [if_neg hC])
      obtain ⟨fs, hr, hrun, hended, hW, hsame⟩ := X25.leave (v := some (.int (1 : Int32))) (fun h => by rw [Bd.returns] at h; cases h)
      refine ⟨_, _, pre24 _ ?_, hrun, hended, _, _, rfl, ?_, ⟨_, rfl⟩, hW, hsame.mono (by decide) (by decide)⟩
      · show Steps p.tables e below (T23.setTop (mkF m 90 #[.val (.int pp1), .val (.int pp2), .val (.int (4 : Int32)), .val (.ref ob4), .val (.int (4 : Int32)), .unset, .unset] [])) _
        refine XS.iloadN X23.here hx rfl (hb hby at_90) rfl ?_
        show Steps p.tables e below (T23.setTop (mkF m 91 #[.val (.int pp1), .val (.int pp2), .val (.int (4 : Int32)), .val (.ref ob4), .val (.int (4 : Int32)), .unset, .unset] [(.int pp2)])) _
        refine XS.ifNo X23.here hx rfl (hb hby at_91) rfl ((if0 _ _).trans (tlt hc91_13).2.1) ?_
        show Steps p.tables e below (T23.setTop (mkF m 94 #[.val (.int pp1), .val (.int pp2), .val (.int (4 : Int32)), .val (.ref ob4), .val (.int (4 : Int32)), .unset, .unset] [])) _
        refine XS.iconst X23.here hx rfl (hb hby at_94) ?_
        show Steps p.tables e below (T23.setTop (mkF m 95 #[.val (.int pp1), .val (.int pp2), .val (.int (4 : Int32)), .val (.ref ob4), .val (.int (4 : Int32)), .unset, .unset] [(.int (0 : Int32))])) _
        refine XS.istore X23.here hx rfl (hb hby at_95) rfl (l' := #[.val (.int pp1), .val (.int pp2), .val (.int (4 : Int32)), .val (.ref ob4), .val (.int (4 : Int32)), .val (.int (0 : Int32)), .unset]) rfl ?_
        show Steps p.tables e below (T23.setTop (mkF m 97 #[.val (.int pp1), .val (.int pp2), .val (.int (4 : Int32)), .val (.ref ob4), .val (.int (4 : Int32)), .val (.int (0 : Int32)), .unset] [])) _
        refine XS.goto X23.here hx rfl (pc0 := 97) (pc' := 113) rfl (hb hby at_97) (by decide) (by decide) ?_
        show Steps p.tables e below (T23.setTop (mkF m 113 #[.val (.int pp1), .val (.int pp2), .val (.int (4 : Int32)), .val (.ref ob4), .val (.int (4 : Int32)), .val (.int (0 : Int32)), .unset] [])) _
        refine XS.iload X23.here hx rfl (hb hby at_113) rfl ?_
        show Steps p.tables e below (T23.setTop (mkF m 115 #[.val (.int pp1), .val (.int pp2), .val (.int (4 : Int32)), .val (.ref ob4), .val (.int (4 : Int32)), .val (.int (0 : Int32)), .unset] [(.int (4 : Int32))])) _
        refine XS.iload X23.here hx rfl (hb hby at_115) rfl ?_
        show Steps p.tables e below (T23.setTop (mkF m 117 #[.val (.int pp1), .val (.int pp2), .val (.int (4 : Int32)), .val (.ref ob4), .val (.int (4 : Int32)), .val (.int (0 : Int32)), .unset] [(.int (0 : Int32)), (.int (4 : Int32))])) _
        refine XS.ishr X23.here hx rfl (hb hby at_117) rfl ?_
        show Steps p.tables e below (T23.setTop (mkF m 118 #[.val (.int pp1), .val (.int pp2), .val (.int (4 : Int32)), .val (.ref ob4), .val (.int (4 : Int32)), .val (.int (0 : Int32)), .unset] [(.int (4 : Int32))])) _
        refine XS.iconst X23.here hx rfl (hb hby at_118) ?_
        show Steps p.tables e below (T23.setTop (mkF m 119 #[.val (.int pp1), .val (.int pp2), .val (.int (4 : Int32)), .val (.ref ob4), .val (.int (4 : Int32)), .val (.int (0 : Int32)), .unset] [(.int (1 : Int32)), (.int (4 : Int32))])) _
        refine XS.iand X23.here hx rfl (hb hby at_119) rfl ?_
        show Steps p.tables e below (T23.setTop (mkF m 120 #[.val (.int pp1), .val (.int pp2), .val (.int (4 : Int32)), .val (.ref ob4), .val (.int (4 : Int32)), .val (.int (0 : Int32)), .unset] [(.int (0 : Int32))])) _
        refine XS.ifYes X23.here hx rfl (pc0 := 120) (pc' := 127) rfl (hb hby at_120) rfl ((if0 _ _).trans (teq hc120_13).1) (by decide) (by decide) ?_
        show Steps p.tables e below (T23.setTop (mkF m 127 #[.val (.int pp1), .val (.int pp2), .val (.int (4 : Int32)), .val (.ref ob4), .val (.int (4 : Int32)), .val (.int (0 : Int32)), .unset] [])) _
        refine XS.iconst X23.here hx rfl (hb hby at_127) ?_
        show Steps p.tables e below (T23.setTop (mkF m 128 #[.val (.int pp1), .val (.int pp2), .val (.int (4 : Int32)), .val (.ref ob4), .val (.int (4 : Int32)), .val (.int (0 : Int32)), .unset] [(.int (0 : Int32))])) _
        refine XS.istore X23.here hx rfl (hb hby at_128) rfl (l' := #[.val (.int pp1), .val (.int pp2), .val (.int (4 : Int32)), .val (.ref ob4), .val (.int (4 : Int32)), .val (.int (0 : Int32)), .val (.int (0 : Int32))]) rfl ?_
        show Steps p.tables e below (T23.setTop (mkF m 130 #[.val (.int pp1), .val (.int pp2), .val (.int (4 : Int32)), .val (.ref ob4), .val (.int (4 : Int32)), .val (.int (0 : Int32)), .val (.int (0 : Int32))] [])) _
        refine XS.aloadN X23.here hx rfl (hb hby at_130) rfl rfl ?_
        show Steps p.tables e below (T23.setTop (mkF m 131 #[.val (.int pp1), .val (.int pp2), .val (.int (4 : Int32)), .val (.ref ob4), .val (.int (4 : Int32)), .val (.int (0 : Int32)), .val (.int (0 : Int32))] [(.ref ob4)])) _
        refine XS.iloadN X23.here hx rfl (hb hby at_131) rfl ?_
        show Steps p.tables e below (T23.setTop (mkF m 132 #[.val (.int pp1), .val (.int pp2), .val (.int (4 : Int32)), .val (.ref ob4), .val (.int (4 : Int32)), .val (.int (0 : Int32)), .val (.int (0 : Int32))] [(.int pp2), (.ref ob4)])) _
        refine st25.trans ?_
        show Steps p.tables e below (T25.setTop (mkF m 135 #[.val (.int pp1), .val (.int pp2), .val (.int (4 : Int32)), .val (.ref ob4), .val (.int (4 : Int32)), .val (.int (0 : Int32)), .val (.int (0 : Int32))] [(.int (if (0 : Int32) < pp2 then (1 : Int32) else (0 : Int32)))])) _
        refine XS.iload X25.here hx rfl (hb hby at_135) rfl ?_
        show Steps p.tables e below (T25.setTop (mkF m 137 #[.val (.int pp1), .val (.int pp2), .val (.int (4 : Int32)), .val (.ref ob4), .val (.int (4 : Int32)), .val (.int (0 : Int32)), .val (.int (0 : Int32))] [(.int (0 : Int32)), (.int (if (0 : Int32) < pp2 then (1 : Int32) else (0 : Int32)))])) _
        refine XS.icmpNo X25.here hx rfl (hb hby at_137) rfl (teq hc137_13).2 ?_
        show Steps p.tables e below (T25.setTop (mkF m 140 #[.val (.int pp1), .val (.int pp2), .val (.int (4 : Int32)), .val (.ref ob4), .val (.int (4 : Int32)), .val (.int (0 : Int32)), .val (.int (0 : Int32))] [])) _
        refine XS.iconst X25.here hx rfl (hb hby at_140) ?_
        show Steps p.tables e below (T25.setTop (mkF m 141 #[.val (.int pp1), .val (.int pp2), .val (.int (4 : Int32)), .val (.ref ob4), .val (.int (4 : Int32)), .val (.int (0 : Int32)), .val (.int (0 : Int32))] [(.int (1 : Int32))])) _
        refine XS.goto X25.here hx rfl (pc0 := 141) (pc' := 145) rfl (hb hby at_141) (by decide) (by decide) ?_
        show Steps p.tables e below (T25.setTop (mkF m 145 #[.val (.int pp1), .val (.int pp2), .val (.int (4 : Int32)), .val (.ref ob4), .val (.int (4 : Int32)), .val (.int (0 : Int32)), .val (.int (0 : Int32))] [(.int (1 : Int32))])) _
        exact retN X25 hx (t := .boolean) Bd.returns (by simp) (hb hby at_145) hr
      · show Q0 Z pp1 pp2 ob0 ob1 ob2 ob3 ob4 ob5 h0 n0 _ T25.heap _
        rw [e25]
        exact ⟨rfl, N25⟩
    · skip
      have hc91_14 : ¬ (pp2 < (0 : Int32)) := hA
      have hc101_9 : pp2 = (0 : Int32) := hB
      have hc120_14 : (0 : Int32) = (0 : Int32) := by decide
      obtain ⟨cq26, kq26, q26a, q26b, q26c⟩ := isOf hZ e23 E_ob4
      obtain ⟨_, _, ⟨T26, L26, k26, n26⟩, -, X26, ⟨Lc26, hQ26, l26, y26, z26⟩, st26⟩ := X23.virtualBack hx (y := (⟨"com/example/guarded_stream/guardedstream/query/ComparisonOperator", "holds", "(I)Z"⟩ : MethodName)) (z := (⟨"com/example/guarded_stream/guardedstream/query/ComparisonOperator", "holds", "(I)Z"⟩ : MethodName)) hown (mvT hZ (hw _ (List.mem_of_getElem? (i := 4) rfl))) (mvT hZ (hw _ (List.mem_of_getElem? (i := 5) rfl))) (notFace_of_selects (args := #[]) (mvT hZ (hw _ (List.mem_of_getElem? (i := 7) rfl)))) (mvT hZ (hw _ (List.mem_of_getElem? (i := 7) rfl))) (mvT hZ (hw _ (List.mem_of_getElem? (i := 6) rfl))) (by decide) (backOf (W := 0) (rm1_4 l Z a0 hw [] ob4 pp2 h0 n0 Z0 E_ob4 F_ob4_ordinal) hZ (hw _ (List.mem_of_getElem? (i := 8) rfl)) (hw _ (List.mem_of_getElem? (i := 2) rfl)) (by decide) (by decide)) q26a q26c (g := (mkF m 132 #[.val (.int pp1), .val (.int pp2), .val (.int (4 : Int32)), .val (.ref ob4), .val (.int (4 : Int32)), .val (.int (1 : Int32)), .val (.int (0 : Int32))] [(.int pp2), (.ref ob4)])) rfl (by rw [hml]; rfl) (Steps.refl _) (argsL := [(.int pp2)]) (rest := []) (lenOf pd__28_I_29_Z rfl) rfl (by show 2 * 0 + _ ≤ _; exact Nat.le_of_eq rfl) (hb hby at_132) (fun _ _ => ⟨rfl, e23, (by decide : 0 + 0 ≤ _), (by decide : 0 + 0 ≤ _)⟩)
      dsimp only [Pt.U, Pt.locs, Pt.cells, Pt.slots] at X26 l26 y26 z26 st26 hQ26
      subst l26 y26 z26
      obtain ⟨rfl, N26q, e26⟩ := hQ26
      have N26 := Fr.app N0 N26q
      have hc137_14 : (if (0 : Int32) < pp2 then (1 : Int32) else (0 : Int32)) = (0 : Int32) := (by rw [if_neg hC])
      obtain ⟨fs, hr, hrun, hended, hW, hsame⟩ := X26.leave (v := some (.int (1 : Int32))) (fun h => by rw [Bd.returns] at h; cases h)
      refine ⟨_, _, pre24 _ ?_, hrun, hended, _, _, rfl, ?_, ⟨_, rfl⟩, hW, hsame.mono (by decide) (by decide)⟩
      · show Steps p.tables e below (T23.setTop (mkF m 90 #[.val (.int pp1), .val (.int pp2), .val (.int (4 : Int32)), .val (.ref ob4), .val (.int (4 : Int32)), .unset, .unset] [])) _
        refine XS.iloadN X23.here hx rfl (hb hby at_90) rfl ?_
        show Steps p.tables e below (T23.setTop (mkF m 91 #[.val (.int pp1), .val (.int pp2), .val (.int (4 : Int32)), .val (.ref ob4), .val (.int (4 : Int32)), .unset, .unset] [(.int pp2)])) _
        refine XS.ifYes X23.here hx rfl (pc0 := 91) (pc' := 100) rfl (hb hby at_91) rfl ((if0 _ _).trans (flt hc91_14).2.1) (by decide) (by decide) ?_
        show Steps p.tables e below (T23.setTop (mkF m 100 #[.val (.int pp1), .val (.int pp2), .val (.int (4 : Int32)), .val (.ref ob4), .val (.int (4 : Int32)), .unset, .unset] [])) _
        refine XS.iloadN X23.here hx rfl (hb hby at_100) rfl ?_
        show Steps p.tables e below (T23.setTop (mkF m 101 #[.val (.int pp1), .val (.int pp2), .val (.int (4 : Int32)), .val (.ref ob4), .val (.int (4 : Int32)), .unset, .unset] [(.int pp2)])) _
        refine XS.ifNo X23.here hx rfl (hb hby at_101) rfl ((if0 _ _).trans (teq hc101_9).2) ?_
        show Steps p.tables e below (T23.setTop (mkF m 104 #[.val (.int pp1), .val (.int pp2), .val (.int (4 : Int32)), .val (.ref ob4), .val (.int (4 : Int32)), .unset, .unset] [])) _
        refine XS.iconst X23.here hx rfl (hb hby at_104) ?_
        show Steps p.tables e below (T23.setTop (mkF m 105 #[.val (.int pp1), .val (.int pp2), .val (.int (4 : Int32)), .val (.ref ob4), .val (.int (4 : Int32)), .unset, .unset] [(.int (1 : Int32))])) _
        refine XS.istore X23.here hx rfl (hb hby at_105) rfl (l' := #[.val (.int pp1), .val (.int pp2), .val (.int (4 : Int32)), .val (.ref ob4), .val (.int (4 : Int32)), .val (.int (1 : Int32)), .unset]) rfl ?_
        show Steps p.tables e below (T23.setTop (mkF m 107 #[.val (.int pp1), .val (.int pp2), .val (.int (4 : Int32)), .val (.ref ob4), .val (.int (4 : Int32)), .val (.int (1 : Int32)), .unset] [])) _
        refine XS.goto X23.here hx rfl (pc0 := 107) (pc' := 113) rfl (hb hby at_107) (by decide) (by decide) ?_
        show Steps p.tables e below (T23.setTop (mkF m 113 #[.val (.int pp1), .val (.int pp2), .val (.int (4 : Int32)), .val (.ref ob4), .val (.int (4 : Int32)), .val (.int (1 : Int32)), .unset] [])) _
        refine XS.iload X23.here hx rfl (hb hby at_113) rfl ?_
        show Steps p.tables e below (T23.setTop (mkF m 115 #[.val (.int pp1), .val (.int pp2), .val (.int (4 : Int32)), .val (.ref ob4), .val (.int (4 : Int32)), .val (.int (1 : Int32)), .unset] [(.int (4 : Int32))])) _
        refine XS.iload X23.here hx rfl (hb hby at_115) rfl ?_
        show Steps p.tables e below (T23.setTop (mkF m 117 #[.val (.int pp1), .val (.int pp2), .val (.int (4 : Int32)), .val (.ref ob4), .val (.int (4 : Int32)), .val (.int (1 : Int32)), .unset] [(.int (1 : Int32)), (.int (4 : Int32))])) _
        refine XS.ishr X23.here hx rfl (hb hby at_117) rfl ?_
        show Steps p.tables e below (T23.setTop (mkF m 118 #[.val (.int pp1), .val (.int pp2), .val (.int (4 : Int32)), .val (.ref ob4), .val (.int (4 : Int32)), .val (.int (1 : Int32)), .unset] [(.int (2 : Int32))])) _
        refine XS.iconst X23.here hx rfl (hb hby at_118) ?_
        show Steps p.tables e below (T23.setTop (mkF m 119 #[.val (.int pp1), .val (.int pp2), .val (.int (4 : Int32)), .val (.ref ob4), .val (.int (4 : Int32)), .val (.int (1 : Int32)), .unset] [(.int (1 : Int32)), (.int (2 : Int32))])) _
        refine XS.iand X23.here hx rfl (hb hby at_119) rfl ?_
        show Steps p.tables e below (T23.setTop (mkF m 120 #[.val (.int pp1), .val (.int pp2), .val (.int (4 : Int32)), .val (.ref ob4), .val (.int (4 : Int32)), .val (.int (1 : Int32)), .unset] [(.int (0 : Int32))])) _
        refine XS.ifYes X23.here hx rfl (pc0 := 120) (pc' := 127) rfl (hb hby at_120) rfl ((if0 _ _).trans (teq hc120_14).1) (by decide) (by decide) ?_
        show Steps p.tables e below (T23.setTop (mkF m 127 #[.val (.int pp1), .val (.int pp2), .val (.int (4 : Int32)), .val (.ref ob4), .val (.int (4 : Int32)), .val (.int (1 : Int32)), .unset] [])) _
        refine XS.iconst X23.here hx rfl (hb hby at_127) ?_
        show Steps p.tables e below (T23.setTop (mkF m 128 #[.val (.int pp1), .val (.int pp2), .val (.int (4 : Int32)), .val (.ref ob4), .val (.int (4 : Int32)), .val (.int (1 : Int32)), .unset] [(.int (0 : Int32))])) _
        refine XS.istore X23.here hx rfl (hb hby at_128) rfl (l' := #[.val (.int pp1), .val (.int pp2), .val (.int (4 : Int32)), .val (.ref ob4), .val (.int (4 : Int32)), .val (.int (1 : Int32)), .val (.int (0 : Int32))]) rfl ?_
        show Steps p.tables e below (T23.setTop (mkF m 130 #[.val (.int pp1), .val (.int pp2), .val (.int (4 : Int32)), .val (.ref ob4), .val (.int (4 : Int32)), .val (.int (1 : Int32)), .val (.int (0 : Int32))] [])) _
        refine XS.aloadN X23.here hx rfl (hb hby at_130) rfl rfl ?_
        show Steps p.tables e below (T23.setTop (mkF m 131 #[.val (.int pp1), .val (.int pp2), .val (.int (4 : Int32)), .val (.ref ob4), .val (.int (4 : Int32)), .val (.int (1 : Int32)), .val (.int (0 : Int32))] [(.ref ob4)])) _
        refine XS.iloadN X23.here hx rfl (hb hby at_131) rfl ?_
        show Steps p.tables e below (T23.setTop (mkF m 132 #[.val (.int pp1), .val (.int pp2), .val (.int (4 : Int32)), .val (.ref ob4), .val (.int (4 : Int32)), .val (.int (1 : Int32)), .val (.int (0 : Int32))] [(.int pp2), (.ref ob4)])) _
        refine st26.trans ?_
        show Steps p.tables e below (T26.setTop (mkF m 135 #[.val (.int pp1), .val (.int pp2), .val (.int (4 : Int32)), .val (.ref ob4), .val (.int (4 : Int32)), .val (.int (1 : Int32)), .val (.int (0 : Int32))] [(.int (if (0 : Int32) < pp2 then (1 : Int32) else (0 : Int32)))])) _
        refine XS.iload X26.here hx rfl (hb hby at_135) rfl ?_
        show Steps p.tables e below (T26.setTop (mkF m 137 #[.val (.int pp1), .val (.int pp2), .val (.int (4 : Int32)), .val (.ref ob4), .val (.int (4 : Int32)), .val (.int (1 : Int32)), .val (.int (0 : Int32))] [(.int (0 : Int32)), (.int (if (0 : Int32) < pp2 then (1 : Int32) else (0 : Int32)))])) _
        refine XS.icmpNo X26.here hx rfl (hb hby at_137) rfl (teq hc137_14).2 ?_
        show Steps p.tables e below (T26.setTop (mkF m 140 #[.val (.int pp1), .val (.int pp2), .val (.int (4 : Int32)), .val (.ref ob4), .val (.int (4 : Int32)), .val (.int (1 : Int32)), .val (.int (0 : Int32))] [])) _
        refine XS.iconst X26.here hx rfl (hb hby at_140) ?_
        show Steps p.tables e below (T26.setTop (mkF m 141 #[.val (.int pp1), .val (.int pp2), .val (.int (4 : Int32)), .val (.ref ob4), .val (.int (4 : Int32)), .val (.int (1 : Int32)), .val (.int (0 : Int32))] [(.int (1 : Int32))])) _
        refine XS.goto X26.here hx rfl (pc0 := 141) (pc' := 145) rfl (hb hby at_141) (by decide) (by decide) ?_
        show Steps p.tables e below (T26.setTop (mkF m 145 #[.val (.int pp1), .val (.int pp2), .val (.int (4 : Int32)), .val (.ref ob4), .val (.int (4 : Int32)), .val (.int (1 : Int32)), .val (.int (0 : Int32))] [(.int (1 : Int32))])) _
        exact retN X26 hx (t := .boolean) Bd.returns (by simp) (hb hby at_145) hr
      · show Q0 Z pp1 pp2 ob0 ob1 ob2 ob3 ob4 ob5 h0 n0 _ T26.heap _
        rw [e26]
        exact ⟨rfl, N26⟩
    · skip
      have hc91_15 : ¬ (pp2 < (0 : Int32)) := hA
      have hc101_10 : ¬ (pp2 = (0 : Int32)) := hB
      have hc120_15 : ¬ ((1 : Int32) = (0 : Int32)) := by decide
      obtain ⟨cq27, kq27, q27a, q27b, q27c⟩ := isOf hZ e23 E_ob4
      obtain ⟨_, _, ⟨T27, L27, k27, n27⟩, -, X27, ⟨Lc27, hQ27, l27, y27, z27⟩, st27⟩ := X23.virtualBack hx (y := (⟨"com/example/guarded_stream/guardedstream/query/ComparisonOperator", "holds", "(I)Z"⟩ : MethodName)) (z := (⟨"com/example/guarded_stream/guardedstream/query/ComparisonOperator", "holds", "(I)Z"⟩ : MethodName)) hown (mvT hZ (hw _ (List.mem_of_getElem? (i := 4) rfl))) (mvT hZ (hw _ (List.mem_of_getElem? (i := 5) rfl))) (notFace_of_selects (args := #[]) (mvT hZ (hw _ (List.mem_of_getElem? (i := 7) rfl)))) (mvT hZ (hw _ (List.mem_of_getElem? (i := 7) rfl))) (mvT hZ (hw _ (List.mem_of_getElem? (i := 6) rfl))) (by decide) (backOf (W := 0) (rm1_4 l Z a0 hw [] ob4 pp2 h0 n0 Z0 E_ob4 F_ob4_ordinal) hZ (hw _ (List.mem_of_getElem? (i := 8) rfl)) (hw _ (List.mem_of_getElem? (i := 2) rfl)) (by decide) (by decide)) q27a q27c (g := (mkF m 132 #[.val (.int pp1), .val (.int pp2), .val (.int (4 : Int32)), .val (.ref ob4), .val (.int (4 : Int32)), .val (.int (2 : Int32)), .val (.int (1 : Int32))] [(.int pp2), (.ref ob4)])) rfl (by rw [hml]; rfl) (Steps.refl _) (argsL := [(.int pp2)]) (rest := []) (lenOf pd__28_I_29_Z rfl) rfl (by show 2 * 0 + _ ≤ _; exact Nat.le_of_eq rfl) (hb hby at_132) (fun _ _ => ⟨rfl, e23, (by decide : 0 + 0 ≤ _), (by decide : 0 + 0 ≤ _)⟩)
      dsimp only [Pt.U, Pt.locs, Pt.cells, Pt.slots] at X27 l27 y27 z27 st27 hQ27
      subst l27 y27 z27
      obtain ⟨rfl, N27q, e27⟩ := hQ27
      have N27 := Fr.app N0 N27q
      have hc137_15 : (if (0 : Int32) < pp2 then (1 : Int32) else (0 : Int32)) = (1 : Int32) := (by rw [if_pos hC])
      obtain ⟨fs, hr, hrun, hended, hW, hsame⟩ := X27.leave (v := some (.int (1 : Int32))) (fun h => by rw [Bd.returns] at h; cases h)
      refine ⟨_, _, pre24 _ ?_, hrun, hended, _, _, rfl, ?_, ⟨_, rfl⟩, hW, hsame.mono (by decide) (by decide)⟩
      · show Steps p.tables e below (T23.setTop (mkF m 90 #[.val (.int pp1), .val (.int pp2), .val (.int (4 : Int32)), .val (.ref ob4), .val (.int (4 : Int32)), .unset, .unset] [])) _
        refine XS.iloadN X23.here hx rfl (hb hby at_90) rfl ?_
        show Steps p.tables e below (T23.setTop (mkF m 91 #[.val (.int pp1), .val (.int pp2), .val (.int (4 : Int32)), .val (.ref ob4), .val (.int (4 : Int32)), .unset, .unset] [(.int pp2)])) _
        refine XS.ifYes X23.here hx rfl (pc0 := 91) (pc' := 100) rfl (hb hby at_91) rfl ((if0 _ _).trans (flt hc91_15).2.1) (by decide) (by decide) ?_
        show Steps p.tables e below (T23.setTop (mkF m 100 #[.val (.int pp1), .val (.int pp2), .val (.int (4 : Int32)), .val (.ref ob4), .val (.int (4 : Int32)), .unset, .unset] [])) _
        refine XS.iloadN X23.here hx rfl (hb hby at_100) rfl ?_
        show Steps p.tables e below (T23.setTop (mkF m 101 #[.val (.int pp1), .val (.int pp2), .val (.int (4 : Int32)), .val (.ref ob4), .val (.int (4 : Int32)), .unset, .unset] [(.int pp2)])) _
        refine XS.ifYes X23.here hx rfl (pc0 := 101) (pc' := 110) rfl (hb hby at_101) rfl ((if0 _ _).trans (feq hc101_10).2) (by decide) (by decide) ?_
        show Steps p.tables e below (T23.setTop (mkF m 110 #[.val (.int pp1), .val (.int pp2), .val (.int (4 : Int32)), .val (.ref ob4), .val (.int (4 : Int32)), .unset, .unset] [])) _
        refine XS.iconst X23.here hx rfl (hb hby at_110) ?_
        show Steps p.tables e below (T23.setTop (mkF m 111 #[.val (.int pp1), .val (.int pp2), .val (.int (4 : Int32)), .val (.ref ob4), .val (.int (4 : Int32)), .unset, .unset] [(.int (2 : Int32))])) _
        refine XS.istore X23.here hx rfl (hb hby at_111) rfl (l' := #[.val (.int pp1), .val (.int pp2), .val (.int (4 : Int32)), .val (.ref ob4), .val (.int (4 : Int32)), .val (.int (2 : Int32)), .unset]) rfl ?_
        show Steps p.tables e below (T23.setTop (mkF m 113 #[.val (.int pp1), .val (.int pp2), .val (.int (4 : Int32)), .val (.ref ob4), .val (.int (4 : Int32)), .val (.int (2 : Int32)), .unset] [])) _
        refine XS.iload X23.here hx rfl (hb hby at_113) rfl ?_
        show Steps p.tables e below (T23.setTop (mkF m 115 #[.val (.int pp1), .val (.int pp2), .val (.int (4 : Int32)), .val (.ref ob4), .val (.int (4 : Int32)), .val (.int (2 : Int32)), .unset] [(.int (4 : Int32))])) _
        refine XS.iload X23.here hx rfl (hb hby at_115) rfl ?_
        show Steps p.tables e below (T23.setTop (mkF m 117 #[.val (.int pp1), .val (.int pp2), .val (.int (4 : Int32)), .val (.ref ob4), .val (.int (4 : Int32)), .val (.int (2 : Int32)), .unset] [(.int (2 : Int32)), (.int (4 : Int32))])) _
        refine XS.ishr X23.here hx rfl (hb hby at_117) rfl ?_
        show Steps p.tables e below (T23.setTop (mkF m 118 #[.val (.int pp1), .val (.int pp2), .val (.int (4 : Int32)), .val (.ref ob4), .val (.int (4 : Int32)), .val (.int (2 : Int32)), .unset] [(.int (1 : Int32))])) _
        refine XS.iconst X23.here hx rfl (hb hby at_118) ?_
        show Steps p.tables e below (T23.setTop (mkF m 119 #[.val (.int pp1), .val (.int pp2), .val (.int (4 : Int32)), .val (.ref ob4), .val (.int (4 : Int32)), .val (.int (2 : Int32)), .unset] [(.int (1 : Int32)), (.int (1 : Int32))])) _
        refine XS.iand X23.here hx rfl (hb hby at_119) rfl ?_
        show Steps p.tables e below (T23.setTop (mkF m 120 #[.val (.int pp1), .val (.int pp2), .val (.int (4 : Int32)), .val (.ref ob4), .val (.int (4 : Int32)), .val (.int (2 : Int32)), .unset] [(.int (1 : Int32))])) _
        refine XS.ifNo X23.here hx rfl (hb hby at_120) rfl ((if0 _ _).trans (feq hc120_15).1) ?_
        show Steps p.tables e below (T23.setTop (mkF m 123 #[.val (.int pp1), .val (.int pp2), .val (.int (4 : Int32)), .val (.ref ob4), .val (.int (4 : Int32)), .val (.int (2 : Int32)), .unset] [])) _
        refine XS.iconst X23.here hx rfl (hb hby at_123) ?_
        show Steps p.tables e below (T23.setTop (mkF m 124 #[.val (.int pp1), .val (.int pp2), .val (.int (4 : Int32)), .val (.ref ob4), .val (.int (4 : Int32)), .val (.int (2 : Int32)), .unset] [(.int (1 : Int32))])) _
        refine XS.goto X23.here hx rfl (pc0 := 124) (pc' := 128) rfl (hb hby at_124) (by decide) (by decide) ?_
        show Steps p.tables e below (T23.setTop (mkF m 128 #[.val (.int pp1), .val (.int pp2), .val (.int (4 : Int32)), .val (.ref ob4), .val (.int (4 : Int32)), .val (.int (2 : Int32)), .unset] [(.int (1 : Int32))])) _
        refine XS.istore X23.here hx rfl (hb hby at_128) rfl (l' := #[.val (.int pp1), .val (.int pp2), .val (.int (4 : Int32)), .val (.ref ob4), .val (.int (4 : Int32)), .val (.int (2 : Int32)), .val (.int (1 : Int32))]) rfl ?_
        show Steps p.tables e below (T23.setTop (mkF m 130 #[.val (.int pp1), .val (.int pp2), .val (.int (4 : Int32)), .val (.ref ob4), .val (.int (4 : Int32)), .val (.int (2 : Int32)), .val (.int (1 : Int32))] [])) _
        refine XS.aloadN X23.here hx rfl (hb hby at_130) rfl rfl ?_
        show Steps p.tables e below (T23.setTop (mkF m 131 #[.val (.int pp1), .val (.int pp2), .val (.int (4 : Int32)), .val (.ref ob4), .val (.int (4 : Int32)), .val (.int (2 : Int32)), .val (.int (1 : Int32))] [(.ref ob4)])) _
        refine XS.iloadN X23.here hx rfl (hb hby at_131) rfl ?_
        show Steps p.tables e below (T23.setTop (mkF m 132 #[.val (.int pp1), .val (.int pp2), .val (.int (4 : Int32)), .val (.ref ob4), .val (.int (4 : Int32)), .val (.int (2 : Int32)), .val (.int (1 : Int32))] [(.int pp2), (.ref ob4)])) _
        refine st27.trans ?_
        show Steps p.tables e below (T27.setTop (mkF m 135 #[.val (.int pp1), .val (.int pp2), .val (.int (4 : Int32)), .val (.ref ob4), .val (.int (4 : Int32)), .val (.int (2 : Int32)), .val (.int (1 : Int32))] [(.int (if (0 : Int32) < pp2 then (1 : Int32) else (0 : Int32)))])) _
        refine XS.iload X27.here hx rfl (hb hby at_135) rfl ?_
        show Steps p.tables e below (T27.setTop (mkF m 137 #[.val (.int pp1), .val (.int pp2), .val (.int (4 : Int32)), .val (.ref ob4), .val (.int (4 : Int32)), .val (.int (2 : Int32)), .val (.int (1 : Int32))] [(.int (1 : Int32)), (.int (if (0 : Int32) < pp2 then (1 : Int32) else (0 : Int32)))])) _
        refine XS.icmpNo X27.here hx rfl (hb hby at_137) rfl (teq hc137_15).2 ?_
        show Steps p.tables e below (T27.setTop (mkF m 140 #[.val (.int pp1), .val (.int pp2), .val (.int (4 : Int32)), .val (.ref ob4), .val (.int (4 : Int32)), .val (.int (2 : Int32)), .val (.int (1 : Int32))] [])) _
        refine XS.iconst X27.here hx rfl (hb hby at_140) ?_
        show Steps p.tables e below (T27.setTop (mkF m 141 #[.val (.int pp1), .val (.int pp2), .val (.int (4 : Int32)), .val (.ref ob4), .val (.int (4 : Int32)), .val (.int (2 : Int32)), .val (.int (1 : Int32))] [(.int (1 : Int32))])) _
        refine XS.goto X27.here hx rfl (pc0 := 141) (pc' := 145) rfl (hb hby at_141) (by decide) (by decide) ?_
        show Steps p.tables e below (T27.setTop (mkF m 145 #[.val (.int pp1), .val (.int pp2), .val (.int (4 : Int32)), .val (.ref ob4), .val (.int (4 : Int32)), .val (.int (2 : Int32)), .val (.int (1 : Int32))] [(.int (1 : Int32))])) _
        exact retN X27 hx (t := .boolean) Bd.returns (by simp) (hb hby at_145) hr
      · show Q0 Z pp1 pp2 ob0 ob1 ob2 ob3 ob4 ob5 h0 n0 _ T27.heap _
        rw [e27]
        exact ⟨rfl, N27⟩
  · skip
    have hc9_6 : ¬ ((5 : Int32) = (0 : Int32)) := by decide
    have hc24_5 : ¬ ((5 : Int32) = (1 : Int32)) := by decide
    have hc39_4 : ¬ ((5 : Int32) = (2 : Int32)) := by decide
    have hc54_3 : ¬ ((5 : Int32) = (3 : Int32)) := by decide
    have hc69_2 : ¬ ((5 : Int32) = (4 : Int32)) := by decide
    obtain ⟨T28, X28, e28, st28⟩ := getS2 X0 hx hZ hown (host := "") (Or.inl (hw _ (List.mem_of_getElem? (i := 24) rfl))) Via.refl e0 (S_GREATER_OR_EQUAL.ext O0.2) (g := (mkF m 82 #[.val (.int pp1), .val (.int pp2), .val (.int (5 : Int32)), .unset, .unset, .unset, .unset] [])) rfl (hb hby at_82)
    have pre29 : ∀ t, Steps p.tables e below (T28.setTop (mkF m 90 #[.val (.int pp1), .val (.int pp2), .val (.int (5 : Int32)), .val (.ref ob5), .val (.int (6 : Int32)), .unset, .unset] [])) t → Steps p.tables e below (s₁.setTop (entryFrame m #[(.int pp1), (.int pp2)] maxLocals)) t := fun t kt => pre2 t (by
      show Steps p.tables e below (s₁.setTop (mkF m 8 #[.val (.int pp1), .val (.int pp2), .val (.int (5 : Int32)), .unset, .unset, .unset, .unset] [])) _
      refine XS.iloadN X0.here hx rfl (hb hby at_8) rfl ?_
      show Steps p.tables e below (s₁.setTop (mkF m 9 #[.val (.int pp1), .val (.int pp2), .val (.int (5 : Int32)), .unset, .unset, .unset, .unset] [(.int (5 : Int32))])) _
      refine XS.ifYes X0.here hx rfl (pc0 := 9) (pc' := 22) rfl (hb hby at_9) rfl ((if0 _ _).trans (feq hc9_6).2) (by decide) (by decide) ?_
      show Steps p.tables e below (s₁.setTop (mkF m 22 #[.val (.int pp1), .val (.int pp2), .val (.int (5 : Int32)), .unset, .unset, .unset, .unset] [])) _
      refine XS.iloadN X0.here hx rfl (hb hby at_22) rfl ?_
      show Steps p.tables e below (s₁.setTop (mkF m 23 #[.val (.int pp1), .val (.int pp2), .val (.int (5 : Int32)), .unset, .unset, .unset, .unset] [(.int (5 : Int32))])) _
      refine XS.iconst X0.here hx rfl (hb hby at_23) ?_
      show Steps p.tables e below (s₁.setTop (mkF m 24 #[.val (.int pp1), .val (.int pp2), .val (.int (5 : Int32)), .unset, .unset, .unset, .unset] [(.int (1 : Int32)), (.int (5 : Int32))])) _
      refine XS.icmpYes X0.here hx rfl (pc0 := 24) (pc' := 37) rfl (hb hby at_24) rfl (feq hc24_5).2 (by decide) (by decide) ?_
      show Steps p.tables e below (s₁.setTop (mkF m 37 #[.val (.int pp1), .val (.int pp2), .val (.int (5 : Int32)), .unset, .unset, .unset, .unset] [])) _
      refine XS.iloadN X0.here hx rfl (hb hby at_37) rfl ?_
      show Steps p.tables e below (s₁.setTop (mkF m 38 #[.val (.int pp1), .val (.int pp2), .val (.int (5 : Int32)), .unset, .unset, .unset, .unset] [(.int (5 : Int32))])) _
      refine XS.iconst X0.here hx rfl (hb hby at_38) ?_
      show Steps p.tables e below (s₁.setTop (mkF m 39 #[.val (.int pp1), .val (.int pp2), .val (.int (5 : Int32)), .unset, .unset, .unset, .unset] [(.int (2 : Int32)), (.int (5 : Int32))])) _
      refine XS.icmpYes X0.here hx rfl (pc0 := 39) (pc' := 52) rfl (hb hby at_39) rfl (feq hc39_4).2 (by decide) (by decide) ?_
      show Steps p.tables e below (s₁.setTop (mkF m 52 #[.val (.int pp1), .val (.int pp2), .val (.int (5 : Int32)), .unset, .unset, .unset, .unset] [])) _
      refine XS.iloadN X0.here hx rfl (hb hby at_52) rfl ?_
      show Steps p.tables e below (s₁.setTop (mkF m 53 #[.val (.int pp1), .val (.int pp2), .val (.int (5 : Int32)), .unset, .unset, .unset, .unset] [(.int (5 : Int32))])) _
      refine XS.iconst X0.here hx rfl (hb hby at_53) ?_
      show Steps p.tables e below (s₁.setTop (mkF m 54 #[.val (.int pp1), .val (.int pp2), .val (.int (5 : Int32)), .unset, .unset, .unset, .unset] [(.int (3 : Int32)), (.int (5 : Int32))])) _
      refine XS.icmpYes X0.here hx rfl (pc0 := 54) (pc' := 67) rfl (hb hby at_54) rfl (feq hc54_3).2 (by decide) (by decide) ?_
      show Steps p.tables e below (s₁.setTop (mkF m 67 #[.val (.int pp1), .val (.int pp2), .val (.int (5 : Int32)), .unset, .unset, .unset, .unset] [])) _
      refine XS.iloadN X0.here hx rfl (hb hby at_67) rfl ?_
      show Steps p.tables e below (s₁.setTop (mkF m 68 #[.val (.int pp1), .val (.int pp2), .val (.int (5 : Int32)), .unset, .unset, .unset, .unset] [(.int (5 : Int32))])) _
      refine XS.iconst X0.here hx rfl (hb hby at_68) ?_
      show Steps p.tables e below (s₁.setTop (mkF m 69 #[.val (.int pp1), .val (.int pp2), .val (.int (5 : Int32)), .unset, .unset, .unset, .unset] [(.int (4 : Int32)), (.int (5 : Int32))])) _
      refine XS.icmpYes X0.here hx rfl (pc0 := 69) (pc' := 82) rfl (hb hby at_69) rfl (feq hc69_2).2 (by decide) (by decide) ?_
      show Steps p.tables e below (s₁.setTop (mkF m 82 #[.val (.int pp1), .val (.int pp2), .val (.int (5 : Int32)), .unset, .unset, .unset, .unset] [])) _
      refine st28 _ ?_
      show Steps p.tables e below (T28.setTop (mkF m 85 #[.val (.int pp1), .val (.int pp2), .val (.int (5 : Int32)), .unset, .unset, .unset, .unset] [(.ref ob5)])) _
      refine XS.astoreN X28.here hx rfl (hb hby at_85) rfl rfl (l' := #[.val (.int pp1), .val (.int pp2), .val (.int (5 : Int32)), .val (.ref ob5), .unset, .unset, .unset]) rfl ?_
      show Steps p.tables e below (T28.setTop (mkF m 86 #[.val (.int pp1), .val (.int pp2), .val (.int (5 : Int32)), .val (.ref ob5), .unset, .unset, .unset] [])) _
      refine XS.bipush X28.here hx rfl (hb hby at_86) ?_
      show Steps p.tables e below (T28.setTop (mkF m 88 #[.val (.int pp1), .val (.int pp2), .val (.int (5 : Int32)), .val (.ref ob5), .unset, .unset, .unset] [(.int (6 : Int32))])) _
      refine XS.istore X28.here hx rfl (hb hby at_88) rfl (l' := #[.val (.int pp1), .val (.int pp2), .val (.int (5 : Int32)), .val (.ref ob5), .val (.int (6 : Int32)), .unset, .unset]) rfl ?_
      exact kt)
    rcases own_tri pp2 with ⟨hA, hB, hC⟩ | ⟨hA, hB, hC⟩ | ⟨hA, hB, hC⟩
    · skip
      have hc91_16 : pp2 < (0 : Int32) := hA
      have hc120_16 : (0 : Int32) = (0 : Int32) := by decide
      obtain ⟨cq30, kq30, q30a, q30b, q30c⟩ := isOf hZ e28 E_ob5
      obtain ⟨_, _, ⟨T30, L30, k30, n30⟩, -, X30, ⟨Lc30, hQ30, l30, y30, z30⟩, st30⟩ := X28.virtualBack hx (y := (⟨"com/example/guarded_stream/guardedstream/query/ComparisonOperator", "holds", "(I)Z"⟩ : MethodName)) (z := (⟨"com/example/guarded_stream/guardedstream/query/ComparisonOperator", "holds", "(I)Z"⟩ : MethodName)) hown (mvT hZ (hw _ (List.mem_of_getElem? (i := 4) rfl))) (mvT hZ (hw _ (List.mem_of_getElem? (i := 5) rfl))) (notFace_of_selects (args := #[]) (mvT hZ (hw _ (List.mem_of_getElem? (i := 7) rfl)))) (mvT hZ (hw _ (List.mem_of_getElem? (i := 7) rfl))) (mvT hZ (hw _ (List.mem_of_getElem? (i := 6) rfl))) (by decide) (backOf (W := 0) (rm1_5 l Z a0 hw [] ob5 pp2 h0 n0 Z0 E_ob5 F_ob5_ordinal) hZ (hw _ (List.mem_of_getElem? (i := 8) rfl)) (hw _ (List.mem_of_getElem? (i := 2) rfl)) (by decide) (by decide)) q30a q30c (g := (mkF m 132 #[.val (.int pp1), .val (.int pp2), .val (.int (5 : Int32)), .val (.ref ob5), .val (.int (6 : Int32)), .val (.int (0 : Int32)), .val (.int (0 : Int32))] [(.int pp2), (.ref ob5)])) rfl (by rw [hml]; rfl) (Steps.refl _) (argsL := [(.int pp2)]) (rest := []) (lenOf pd__28_I_29_Z rfl) rfl (by show 2 * 0 + _ ≤ _; exact Nat.le_of_eq rfl) (hb hby at_132) (fun _ _ => ⟨rfl, e28, (by decide : 0 + 0 ≤ _), (by decide : 0 + 0 ≤ _)⟩)
      dsimp only [Pt.U, Pt.locs, Pt.cells, Pt.slots] at X30 l30 y30 z30 st30 hQ30
      subst l30 y30 z30
      obtain ⟨rfl, N30q, e30⟩ := hQ30
      have N30 := Fr.app N0 N30q
      have hc137_16 : (if pp2 < (0 : Int32) then (0 : Int32) else (1 : Int32)) = (0 : Int32) := (by rw [if_pos hA])
      obtain ⟨fs, hr, hrun, hended, hW, hsame⟩ := X30.leave (v := some (.int (1 : Int32))) (fun h => by rw [Bd.returns] at h; cases h)
      refine ⟨_, _, pre29 _ ?_, hrun, hended, _, _, rfl, ?_, ⟨_, rfl⟩, hW, hsame.mono (by decide) (by decide)⟩
      · show Steps p.tables e below (T28.setTop (mkF m 90 #[.val (.int pp1), .val (.int pp2), .val (.int (5 : Int32)), .val (.ref ob5), .val (.int (6 : Int32)), .unset, .unset] [])) _
        refine XS.iloadN X28.here hx rfl (hb hby at_90) rfl ?_
        show Steps p.tables e below (T28.setTop (mkF m 91 #[.val (.int pp1), .val (.int pp2), .val (.int (5 : Int32)), .val (.ref ob5), .val (.int (6 : Int32)), .unset, .unset] [(.int pp2)])) _
        refine XS.ifNo X28.here hx rfl (hb hby at_91) rfl ((if0 _ _).trans (tlt hc91_16).2.1) ?_
        show Steps p.tables e below (T28.setTop (mkF m 94 #[.val (.int pp1), .val (.int pp2), .val (.int (5 : Int32)), .val (.ref ob5), .val (.int (6 : Int32)), .unset, .unset] [])) _
        refine XS.iconst X28.here hx rfl (hb hby at_94) ?_
        show Steps p.tables e below (T28.setTop (mkF m 95 #[.val (.int pp1), .val (.int pp2), .val (.int (5 : Int32)), .val (.ref ob5), .val (.int (6 : Int32)), .unset, .unset] [(.int (0 : Int32))])) _
        refine XS.istore X28.here hx rfl (hb hby at_95) rfl (l' := #[.val (.int pp1), .val (.int pp2), .val (.int (5 : Int32)), .val (.ref ob5), .val (.int (6 : Int32)), .val (.int (0 : Int32)), .unset]) rfl ?_
        show Steps p.tables e below (T28.setTop (mkF m 97 #[.val (.int pp1), .val (.int pp2), .val (.int (5 : Int32)), .val (.ref ob5), .val (.int (6 : Int32)), .val (.int (0 : Int32)), .unset] [])) _
        refine XS.goto X28.here hx rfl (pc0 := 97) (pc' := 113) rfl (hb hby at_97) (by decide) (by decide) ?_
        show Steps p.tables e below (T28.setTop (mkF m 113 #[.val (.int pp1), .val (.int pp2), .val (.int (5 : Int32)), .val (.ref ob5), .val (.int (6 : Int32)), .val (.int (0 : Int32)), .unset] [])) _
        refine XS.iload X28.here hx rfl (hb hby at_113) rfl ?_
        show Steps p.tables e below (T28.setTop (mkF m 115 #[.val (.int pp1), .val (.int pp2), .val (.int (5 : Int32)), .val (.ref ob5), .val (.int (6 : Int32)), .val (.int (0 : Int32)), .unset] [(.int (6 : Int32))])) _
        refine XS.iload X28.here hx rfl (hb hby at_115) rfl ?_
        show Steps p.tables e below (T28.setTop (mkF m 117 #[.val (.int pp1), .val (.int pp2), .val (.int (5 : Int32)), .val (.ref ob5), .val (.int (6 : Int32)), .val (.int (0 : Int32)), .unset] [(.int (0 : Int32)), (.int (6 : Int32))])) _
        refine XS.ishr X28.here hx rfl (hb hby at_117) rfl ?_
        show Steps p.tables e below (T28.setTop (mkF m 118 #[.val (.int pp1), .val (.int pp2), .val (.int (5 : Int32)), .val (.ref ob5), .val (.int (6 : Int32)), .val (.int (0 : Int32)), .unset] [(.int (6 : Int32))])) _
        refine XS.iconst X28.here hx rfl (hb hby at_118) ?_
        show Steps p.tables e below (T28.setTop (mkF m 119 #[.val (.int pp1), .val (.int pp2), .val (.int (5 : Int32)), .val (.ref ob5), .val (.int (6 : Int32)), .val (.int (0 : Int32)), .unset] [(.int (1 : Int32)), (.int (6 : Int32))])) _
        refine XS.iand X28.here hx rfl (hb hby at_119) rfl ?_
        show Steps p.tables e below (T28.setTop (mkF m 120 #[.val (.int pp1), .val (.int pp2), .val (.int (5 : Int32)), .val (.ref ob5), .val (.int (6 : Int32)), .val (.int (0 : Int32)), .unset] [(.int (0 : Int32))])) _
        refine XS.ifYes X28.here hx rfl (pc0 := 120) (pc' := 127) rfl (hb hby at_120) rfl ((if0 _ _).trans (teq hc120_16).1) (by decide) (by decide) ?_
        show Steps p.tables e below (T28.setTop (mkF m 127 #[.val (.int pp1), .val (.int pp2), .val (.int (5 : Int32)), .val (.ref ob5), .val (.int (6 : Int32)), .val (.int (0 : Int32)), .unset] [])) _
        refine XS.iconst X28.here hx rfl (hb hby at_127) ?_
        show Steps p.tables e below (T28.setTop (mkF m 128 #[.val (.int pp1), .val (.int pp2), .val (.int (5 : Int32)), .val (.ref ob5), .val (.int (6 : Int32)), .val (.int (0 : Int32)), .unset] [(.int (0 : Int32))])) _
        refine XS.istore X28.here hx rfl (hb hby at_128) rfl (l' := #[.val (.int pp1), .val (.int pp2), .val (.int (5 : Int32)), .val (.ref ob5), .val (.int (6 : Int32)), .val (.int (0 : Int32)), .val (.int (0 : Int32))]) rfl ?_
        show Steps p.tables e below (T28.setTop (mkF m 130 #[.val (.int pp1), .val (.int pp2), .val (.int (5 : Int32)), .val (.ref ob5), .val (.int (6 : Int32)), .val (.int (0 : Int32)), .val (.int (0 : Int32))] [])) _
        refine XS.aloadN X28.here hx rfl (hb hby at_130) rfl rfl ?_
        show Steps p.tables e below (T28.setTop (mkF m 131 #[.val (.int pp1), .val (.int pp2), .val (.int (5 : Int32)), .val (.ref ob5), .val (.int (6 : Int32)), .val (.int (0 : Int32)), .val (.int (0 : Int32))] [(.ref ob5)])) _
        refine XS.iloadN X28.here hx rfl (hb hby at_131) rfl ?_
        show Steps p.tables e below (T28.setTop (mkF m 132 #[.val (.int pp1), .val (.int pp2), .val (.int (5 : Int32)), .val (.ref ob5), .val (.int (6 : Int32)), .val (.int (0 : Int32)), .val (.int (0 : Int32))] [(.int pp2), (.ref ob5)])) _
        refine st30.trans ?_
        show Steps p.tables e below (T30.setTop (mkF m 135 #[.val (.int pp1), .val (.int pp2), .val (.int (5 : Int32)), .val (.ref ob5), .val (.int (6 : Int32)), .val (.int (0 : Int32)), .val (.int (0 : Int32))] [(.int (if pp2 < (0 : Int32) then (0 : Int32) else (1 : Int32)))])) _
        refine XS.iload X30.here hx rfl (hb hby at_135) rfl ?_
        show Steps p.tables e below (T30.setTop (mkF m 137 #[.val (.int pp1), .val (.int pp2), .val (.int (5 : Int32)), .val (.ref ob5), .val (.int (6 : Int32)), .val (.int (0 : Int32)), .val (.int (0 : Int32))] [(.int (0 : Int32)), (.int (if pp2 < (0 : Int32) then (0 : Int32) else (1 : Int32)))])) _
        refine XS.icmpNo X30.here hx rfl (hb hby at_137) rfl (teq hc137_16).2 ?_
        show Steps p.tables e below (T30.setTop (mkF m 140 #[.val (.int pp1), .val (.int pp2), .val (.int (5 : Int32)), .val (.ref ob5), .val (.int (6 : Int32)), .val (.int (0 : Int32)), .val (.int (0 : Int32))] [])) _
        refine XS.iconst X30.here hx rfl (hb hby at_140) ?_
        show Steps p.tables e below (T30.setTop (mkF m 141 #[.val (.int pp1), .val (.int pp2), .val (.int (5 : Int32)), .val (.ref ob5), .val (.int (6 : Int32)), .val (.int (0 : Int32)), .val (.int (0 : Int32))] [(.int (1 : Int32))])) _
        refine XS.goto X30.here hx rfl (pc0 := 141) (pc' := 145) rfl (hb hby at_141) (by decide) (by decide) ?_
        show Steps p.tables e below (T30.setTop (mkF m 145 #[.val (.int pp1), .val (.int pp2), .val (.int (5 : Int32)), .val (.ref ob5), .val (.int (6 : Int32)), .val (.int (0 : Int32)), .val (.int (0 : Int32))] [(.int (1 : Int32))])) _
        exact retN X30 hx (t := .boolean) Bd.returns (by simp) (hb hby at_145) hr
      · show Q0 Z pp1 pp2 ob0 ob1 ob2 ob3 ob4 ob5 h0 n0 _ T30.heap _
        rw [e30]
        exact ⟨rfl, N30⟩
    · skip
      have hc91_17 : ¬ (pp2 < (0 : Int32)) := hA
      have hc101_11 : pp2 = (0 : Int32) := hB
      have hc120_17 : ¬ ((1 : Int32) = (0 : Int32)) := by decide
      obtain ⟨cq31, kq31, q31a, q31b, q31c⟩ := isOf hZ e28 E_ob5
      obtain ⟨_, _, ⟨T31, L31, k31, n31⟩, -, X31, ⟨Lc31, hQ31, l31, y31, z31⟩, st31⟩ := X28.virtualBack hx (y := (⟨"com/example/guarded_stream/guardedstream/query/ComparisonOperator", "holds", "(I)Z"⟩ : MethodName)) (z := (⟨"com/example/guarded_stream/guardedstream/query/ComparisonOperator", "holds", "(I)Z"⟩ : MethodName)) hown (mvT hZ (hw _ (List.mem_of_getElem? (i := 4) rfl))) (mvT hZ (hw _ (List.mem_of_getElem? (i := 5) rfl))) (notFace_of_selects (args := #[]) (mvT hZ (hw _ (List.mem_of_getElem? (i := 7) rfl)))) (mvT hZ (hw _ (List.mem_of_getElem? (i := 7) rfl))) (mvT hZ (hw _ (List.mem_of_getElem? (i := 6) rfl))) (by decide) (backOf (W := 0) (rm1_5 l Z a0 hw [] ob5 pp2 h0 n0 Z0 E_ob5 F_ob5_ordinal) hZ (hw _ (List.mem_of_getElem? (i := 8) rfl)) (hw _ (List.mem_of_getElem? (i := 2) rfl)) (by decide) (by decide)) q31a q31c (g := (mkF m 132 #[.val (.int pp1), .val (.int pp2), .val (.int (5 : Int32)), .val (.ref ob5), .val (.int (6 : Int32)), .val (.int (1 : Int32)), .val (.int (1 : Int32))] [(.int pp2), (.ref ob5)])) rfl (by rw [hml]; rfl) (Steps.refl _) (argsL := [(.int pp2)]) (rest := []) (lenOf pd__28_I_29_Z rfl) rfl (by show 2 * 0 + _ ≤ _; exact Nat.le_of_eq rfl) (hb hby at_132) (fun _ _ => ⟨rfl, e28, (by decide : 0 + 0 ≤ _), (by decide : 0 + 0 ≤ _)⟩)
      dsimp only [Pt.U, Pt.locs, Pt.cells, Pt.slots] at X31 l31 y31 z31 st31 hQ31
      subst l31 y31 z31
      obtain ⟨rfl, N31q, e31⟩ := hQ31
      have N31 := Fr.app N0 N31q
      have hc137_17 : (if pp2 < (0 : Int32) then (0 : Int32) else (1 : Int32)) = (1 : Int32) := (by rw [if_neg hA])
      obtain ⟨fs, hr, hrun, hended, hW, hsame⟩ := X31.leave (v := some (.int (1 : Int32))) (fun h => by rw [Bd.returns] at h; cases h)
      refine ⟨_, _, pre29 _ ?_, hrun, hended, _, _, rfl, ?_, ⟨_, rfl⟩, hW, hsame.mono (by decide) (by decide)⟩
      · show Steps p.tables e below (T28.setTop (mkF m 90 #[.val (.int pp1), .val (.int pp2), .val (.int (5 : Int32)), .val (.ref ob5), .val (.int (6 : Int32)), .unset, .unset] [])) _
        refine XS.iloadN X28.here hx rfl (hb hby at_90) rfl ?_
        show Steps p.tables e below (T28.setTop (mkF m 91 #[.val (.int pp1), .val (.int pp2), .val (.int (5 : Int32)), .val (.ref ob5), .val (.int (6 : Int32)), .unset, .unset] [(.int pp2)])) _
        refine XS.ifYes X28.here hx rfl (pc0 := 91) (pc' := 100) rfl (hb hby at_91) rfl ((if0 _ _).trans (flt hc91_17).2.1) (by decide) (by decide) ?_
        show Steps p.tables e below (T28.setTop (mkF m 100 #[.val (.int pp1), .val (.int pp2), .val (.int (5 : Int32)), .val (.ref ob5), .val (.int (6 : Int32)), .unset, .unset] [])) _
        refine XS.iloadN X28.here hx rfl (hb hby at_100) rfl ?_
        show Steps p.tables e below (T28.setTop (mkF m 101 #[.val (.int pp1), .val (.int pp2), .val (.int (5 : Int32)), .val (.ref ob5), .val (.int (6 : Int32)), .unset, .unset] [(.int pp2)])) _
        refine XS.ifNo X28.here hx rfl (hb hby at_101) rfl ((if0 _ _).trans (teq hc101_11).2) ?_
        show Steps p.tables e below (T28.setTop (mkF m 104 #[.val (.int pp1), .val (.int pp2), .val (.int (5 : Int32)), .val (.ref ob5), .val (.int (6 : Int32)), .unset, .unset] [])) _
        refine XS.iconst X28.here hx rfl (hb hby at_104) ?_
        show Steps p.tables e below (T28.setTop (mkF m 105 #[.val (.int pp1), .val (.int pp2), .val (.int (5 : Int32)), .val (.ref ob5), .val (.int (6 : Int32)), .unset, .unset] [(.int (1 : Int32))])) _
        refine XS.istore X28.here hx rfl (hb hby at_105) rfl (l' := #[.val (.int pp1), .val (.int pp2), .val (.int (5 : Int32)), .val (.ref ob5), .val (.int (6 : Int32)), .val (.int (1 : Int32)), .unset]) rfl ?_
        show Steps p.tables e below (T28.setTop (mkF m 107 #[.val (.int pp1), .val (.int pp2), .val (.int (5 : Int32)), .val (.ref ob5), .val (.int (6 : Int32)), .val (.int (1 : Int32)), .unset] [])) _
        refine XS.goto X28.here hx rfl (pc0 := 107) (pc' := 113) rfl (hb hby at_107) (by decide) (by decide) ?_
        show Steps p.tables e below (T28.setTop (mkF m 113 #[.val (.int pp1), .val (.int pp2), .val (.int (5 : Int32)), .val (.ref ob5), .val (.int (6 : Int32)), .val (.int (1 : Int32)), .unset] [])) _
        refine XS.iload X28.here hx rfl (hb hby at_113) rfl ?_
        show Steps p.tables e below (T28.setTop (mkF m 115 #[.val (.int pp1), .val (.int pp2), .val (.int (5 : Int32)), .val (.ref ob5), .val (.int (6 : Int32)), .val (.int (1 : Int32)), .unset] [(.int (6 : Int32))])) _
        refine XS.iload X28.here hx rfl (hb hby at_115) rfl ?_
        show Steps p.tables e below (T28.setTop (mkF m 117 #[.val (.int pp1), .val (.int pp2), .val (.int (5 : Int32)), .val (.ref ob5), .val (.int (6 : Int32)), .val (.int (1 : Int32)), .unset] [(.int (1 : Int32)), (.int (6 : Int32))])) _
        refine XS.ishr X28.here hx rfl (hb hby at_117) rfl ?_
        show Steps p.tables e below (T28.setTop (mkF m 118 #[.val (.int pp1), .val (.int pp2), .val (.int (5 : Int32)), .val (.ref ob5), .val (.int (6 : Int32)), .val (.int (1 : Int32)), .unset] [(.int (3 : Int32))])) _
        refine XS.iconst X28.here hx rfl (hb hby at_118) ?_
        show Steps p.tables e below (T28.setTop (mkF m 119 #[.val (.int pp1), .val (.int pp2), .val (.int (5 : Int32)), .val (.ref ob5), .val (.int (6 : Int32)), .val (.int (1 : Int32)), .unset] [(.int (1 : Int32)), (.int (3 : Int32))])) _
        refine XS.iand X28.here hx rfl (hb hby at_119) rfl ?_
        show Steps p.tables e below (T28.setTop (mkF m 120 #[.val (.int pp1), .val (.int pp2), .val (.int (5 : Int32)), .val (.ref ob5), .val (.int (6 : Int32)), .val (.int (1 : Int32)), .unset] [(.int (1 : Int32))])) _
        refine XS.ifNo X28.here hx rfl (hb hby at_120) rfl ((if0 _ _).trans (feq hc120_17).1) ?_
        show Steps p.tables e below (T28.setTop (mkF m 123 #[.val (.int pp1), .val (.int pp2), .val (.int (5 : Int32)), .val (.ref ob5), .val (.int (6 : Int32)), .val (.int (1 : Int32)), .unset] [])) _
        refine XS.iconst X28.here hx rfl (hb hby at_123) ?_
        show Steps p.tables e below (T28.setTop (mkF m 124 #[.val (.int pp1), .val (.int pp2), .val (.int (5 : Int32)), .val (.ref ob5), .val (.int (6 : Int32)), .val (.int (1 : Int32)), .unset] [(.int (1 : Int32))])) _
        refine XS.goto X28.here hx rfl (pc0 := 124) (pc' := 128) rfl (hb hby at_124) (by decide) (by decide) ?_
        show Steps p.tables e below (T28.setTop (mkF m 128 #[.val (.int pp1), .val (.int pp2), .val (.int (5 : Int32)), .val (.ref ob5), .val (.int (6 : Int32)), .val (.int (1 : Int32)), .unset] [(.int (1 : Int32))])) _
        refine XS.istore X28.here hx rfl (hb hby at_128) rfl (l' := #[.val (.int pp1), .val (.int pp2), .val (.int (5 : Int32)), .val (.ref ob5), .val (.int (6 : Int32)), .val (.int (1 : Int32)), .val (.int (1 : Int32))]) rfl ?_
        show Steps p.tables e below (T28.setTop (mkF m 130 #[.val (.int pp1), .val (.int pp2), .val (.int (5 : Int32)), .val (.ref ob5), .val (.int (6 : Int32)), .val (.int (1 : Int32)), .val (.int (1 : Int32))] [])) _
        refine XS.aloadN X28.here hx rfl (hb hby at_130) rfl rfl ?_
        show Steps p.tables e below (T28.setTop (mkF m 131 #[.val (.int pp1), .val (.int pp2), .val (.int (5 : Int32)), .val (.ref ob5), .val (.int (6 : Int32)), .val (.int (1 : Int32)), .val (.int (1 : Int32))] [(.ref ob5)])) _
        refine XS.iloadN X28.here hx rfl (hb hby at_131) rfl ?_
        show Steps p.tables e below (T28.setTop (mkF m 132 #[.val (.int pp1), .val (.int pp2), .val (.int (5 : Int32)), .val (.ref ob5), .val (.int (6 : Int32)), .val (.int (1 : Int32)), .val (.int (1 : Int32))] [(.int pp2), (.ref ob5)])) _
        refine st31.trans ?_
        show Steps p.tables e below (T31.setTop (mkF m 135 #[.val (.int pp1), .val (.int pp2), .val (.int (5 : Int32)), .val (.ref ob5), .val (.int (6 : Int32)), .val (.int (1 : Int32)), .val (.int (1 : Int32))] [(.int (if pp2 < (0 : Int32) then (0 : Int32) else (1 : Int32)))])) _
        refine XS.iload X31.here hx rfl (hb hby at_135) rfl ?_
        show Steps p.tables e below (T31.setTop (mkF m 137 #[.val (.int pp1), .val (.int pp2), .val (.int (5 : Int32)), .val (.ref ob5), .val (.int (6 : Int32)), .val (.int (1 : Int32)), .val (.int (1 : Int32))] [(.int (1 : Int32)), (.int (if pp2 < (0 : Int32) then (0 : Int32) else (1 : Int32)))])) _
        refine XS.icmpNo X31.here hx rfl (hb hby at_137) rfl (teq hc137_17).2 ?_
        show Steps p.tables e below (T31.setTop (mkF m 140 #[.val (.int pp1), .val (.int pp2), .val (.int (5 : Int32)), .val (.ref ob5), .val (.int (6 : Int32)), .val (.int (1 : Int32)), .val (.int (1 : Int32))] [])) _
        refine XS.iconst X31.here hx rfl (hb hby at_140) ?_
        show Steps p.tables e below (T31.setTop (mkF m 141 #[.val (.int pp1), .val (.int pp2), .val (.int (5 : Int32)), .val (.ref ob5), .val (.int (6 : Int32)), .val (.int (1 : Int32)), .val (.int (1 : Int32))] [(.int (1 : Int32))])) _
        refine XS.goto X31.here hx rfl (pc0 := 141) (pc' := 145) rfl (hb hby at_141) (by decide) (by decide) ?_
        show Steps p.tables e below (T31.setTop (mkF m 145 #[.val (.int pp1), .val (.int pp2), .val (.int (5 : Int32)), .val (.ref ob5), .val (.int (6 : Int32)), .val (.int (1 : Int32)), .val (.int (1 : Int32))] [(.int (1 : Int32))])) _
        exact retN X31 hx (t := .boolean) Bd.returns (by simp) (hb hby at_145) hr
      · show Q0 Z pp1 pp2 ob0 ob1 ob2 ob3 ob4 ob5 h0 n0 _ T31.heap _
        rw [e31]
        exact ⟨rfl, N31⟩
    · skip
      have hc91_18 : ¬ (pp2 < (0 : Int32)) := hA
      have hc101_12 : ¬ (pp2 = (0 : Int32)) := hB
      have hc120_18 : ¬ ((1 : Int32) = (0 : Int32)) := by decide
      obtain ⟨cq32, kq32, q32a, q32b, q32c⟩ := isOf hZ e28 E_ob5
      obtain ⟨_, _, ⟨T32, L32, k32, n32⟩, -, X32, ⟨Lc32, hQ32, l32, y32, z32⟩, st32⟩ := X28.virtualBack hx (y := (⟨"com/example/guarded_stream/guardedstream/query/ComparisonOperator", "holds", "(I)Z"⟩ : MethodName)) (z := (⟨"com/example/guarded_stream/guardedstream/query/ComparisonOperator", "holds", "(I)Z"⟩ : MethodName)) hown (mvT hZ (hw _ (List.mem_of_getElem? (i := 4) rfl))) (mvT hZ (hw _ (List.mem_of_getElem? (i := 5) rfl))) (notFace_of_selects (args := #[]) (mvT hZ (hw _ (List.mem_of_getElem? (i := 7) rfl)))) (mvT hZ (hw _ (List.mem_of_getElem? (i := 7) rfl))) (mvT hZ (hw _ (List.mem_of_getElem? (i := 6) rfl))) (by decide) (backOf (W := 0) (rm1_5 l Z a0 hw [] ob5 pp2 h0 n0 Z0 E_ob5 F_ob5_ordinal) hZ (hw _ (List.mem_of_getElem? (i := 8) rfl)) (hw _ (List.mem_of_getElem? (i := 2) rfl)) (by decide) (by decide)) q32a q32c (g := (mkF m 132 #[.val (.int pp1), .val (.int pp2), .val (.int (5 : Int32)), .val (.ref ob5), .val (.int (6 : Int32)), .val (.int (2 : Int32)), .val (.int (1 : Int32))] [(.int pp2), (.ref ob5)])) rfl (by rw [hml]; rfl) (Steps.refl _) (argsL := [(.int pp2)]) (rest := []) (lenOf pd__28_I_29_Z rfl) rfl (by show 2 * 0 + _ ≤ _; exact Nat.le_of_eq rfl) (hb hby at_132) (fun _ _ => ⟨rfl, e28, (by decide : 0 + 0 ≤ _), (by decide : 0 + 0 ≤ _)⟩)
      dsimp only [Pt.U, Pt.locs, Pt.cells, Pt.slots] at X32 l32 y32 z32 st32 hQ32
      subst l32 y32 z32
      obtain ⟨rfl, N32q, e32⟩ := hQ32
      have N32 := Fr.app N0 N32q
      have hc137_18 : (if pp2 < (0 : Int32) then (0 : Int32) else (1 : Int32)) = (1 : Int32) := (by rw [if_neg hA])
      obtain ⟨fs, hr, hrun, hended, hW, hsame⟩ := X32.leave (v := some (.int (1 : Int32))) (fun h => by rw [Bd.returns] at h; cases h)
      refine ⟨_, _, pre29 _ ?_, hrun, hended, _, _, rfl, ?_, ⟨_, rfl⟩, hW, hsame.mono (by decide) (by decide)⟩
      · show Steps p.tables e below (T28.setTop (mkF m 90 #[.val (.int pp1), .val (.int pp2), .val (.int (5 : Int32)), .val (.ref ob5), .val (.int (6 : Int32)), .unset, .unset] [])) _
        refine XS.iloadN X28.here hx rfl (hb hby at_90) rfl ?_
        show Steps p.tables e below (T28.setTop (mkF m 91 #[.val (.int pp1), .val (.int pp2), .val (.int (5 : Int32)), .val (.ref ob5), .val (.int (6 : Int32)), .unset, .unset] [(.int pp2)])) _
        refine XS.ifYes X28.here hx rfl (pc0 := 91) (pc' := 100) rfl (hb hby at_91) rfl ((if0 _ _).trans (flt hc91_18).2.1) (by decide) (by decide) ?_
        show Steps p.tables e below (T28.setTop (mkF m 100 #[.val (.int pp1), .val (.int pp2), .val (.int (5 : Int32)), .val (.ref ob5), .val (.int (6 : Int32)), .unset, .unset] [])) _
        refine XS.iloadN X28.here hx rfl (hb hby at_100) rfl ?_
        show Steps p.tables e below (T28.setTop (mkF m 101 #[.val (.int pp1), .val (.int pp2), .val (.int (5 : Int32)), .val (.ref ob5), .val (.int (6 : Int32)), .unset, .unset] [(.int pp2)])) _
        refine XS.ifYes X28.here hx rfl (pc0 := 101) (pc' := 110) rfl (hb hby at_101) rfl ((if0 _ _).trans (feq hc101_12).2) (by decide) (by decide) ?_
        show Steps p.tables e below (T28.setTop (mkF m 110 #[.val (.int pp1), .val (.int pp2), .val (.int (5 : Int32)), .val (.ref ob5), .val (.int (6 : Int32)), .unset, .unset] [])) _
        refine XS.iconst X28.here hx rfl (hb hby at_110) ?_
        show Steps p.tables e below (T28.setTop (mkF m 111 #[.val (.int pp1), .val (.int pp2), .val (.int (5 : Int32)), .val (.ref ob5), .val (.int (6 : Int32)), .unset, .unset] [(.int (2 : Int32))])) _
        refine XS.istore X28.here hx rfl (hb hby at_111) rfl (l' := #[.val (.int pp1), .val (.int pp2), .val (.int (5 : Int32)), .val (.ref ob5), .val (.int (6 : Int32)), .val (.int (2 : Int32)), .unset]) rfl ?_
        show Steps p.tables e below (T28.setTop (mkF m 113 #[.val (.int pp1), .val (.int pp2), .val (.int (5 : Int32)), .val (.ref ob5), .val (.int (6 : Int32)), .val (.int (2 : Int32)), .unset] [])) _
        refine XS.iload X28.here hx rfl (hb hby at_113) rfl ?_
        show Steps p.tables e below (T28.setTop (mkF m 115 #[.val (.int pp1), .val (.int pp2), .val (.int (5 : Int32)), .val (.ref ob5), .val (.int (6 : Int32)), .val (.int (2 : Int32)), .unset] [(.int (6 : Int32))])) _
        refine XS.iload X28.here hx rfl (hb hby at_115) rfl ?_
        show Steps p.tables e below (T28.setTop (mkF m 117 #[.val (.int pp1), .val (.int pp2), .val (.int (5 : Int32)), .val (.ref ob5), .val (.int (6 : Int32)), .val (.int (2 : Int32)), .unset] [(.int (2 : Int32)), (.int (6 : Int32))])) _
        refine XS.ishr X28.here hx rfl (hb hby at_117) rfl ?_
        show Steps p.tables e below (T28.setTop (mkF m 118 #[.val (.int pp1), .val (.int pp2), .val (.int (5 : Int32)), .val (.ref ob5), .val (.int (6 : Int32)), .val (.int (2 : Int32)), .unset] [(.int (1 : Int32))])) _
        refine XS.iconst X28.here hx rfl (hb hby at_118) ?_
        show Steps p.tables e below (T28.setTop (mkF m 119 #[.val (.int pp1), .val (.int pp2), .val (.int (5 : Int32)), .val (.ref ob5), .val (.int (6 : Int32)), .val (.int (2 : Int32)), .unset] [(.int (1 : Int32)), (.int (1 : Int32))])) _
        refine XS.iand X28.here hx rfl (hb hby at_119) rfl ?_
        show Steps p.tables e below (T28.setTop (mkF m 120 #[.val (.int pp1), .val (.int pp2), .val (.int (5 : Int32)), .val (.ref ob5), .val (.int (6 : Int32)), .val (.int (2 : Int32)), .unset] [(.int (1 : Int32))])) _
        refine XS.ifNo X28.here hx rfl (hb hby at_120) rfl ((if0 _ _).trans (feq hc120_18).1) ?_
        show Steps p.tables e below (T28.setTop (mkF m 123 #[.val (.int pp1), .val (.int pp2), .val (.int (5 : Int32)), .val (.ref ob5), .val (.int (6 : Int32)), .val (.int (2 : Int32)), .unset] [])) _
        refine XS.iconst X28.here hx rfl (hb hby at_123) ?_
        show Steps p.tables e below (T28.setTop (mkF m 124 #[.val (.int pp1), .val (.int pp2), .val (.int (5 : Int32)), .val (.ref ob5), .val (.int (6 : Int32)), .val (.int (2 : Int32)), .unset] [(.int (1 : Int32))])) _
        refine XS.goto X28.here hx rfl (pc0 := 124) (pc' := 128) rfl (hb hby at_124) (by decide) (by decide) ?_
        show Steps p.tables e below (T28.setTop (mkF m 128 #[.val (.int pp1), .val (.int pp2), .val (.int (5 : Int32)), .val (.ref ob5), .val (.int (6 : Int32)), .val (.int (2 : Int32)), .unset] [(.int (1 : Int32))])) _
        refine XS.istore X28.here hx rfl (hb hby at_128) rfl (l' := #[.val (.int pp1), .val (.int pp2), .val (.int (5 : Int32)), .val (.ref ob5), .val (.int (6 : Int32)), .val (.int (2 : Int32)), .val (.int (1 : Int32))]) rfl ?_
        show Steps p.tables e below (T28.setTop (mkF m 130 #[.val (.int pp1), .val (.int pp2), .val (.int (5 : Int32)), .val (.ref ob5), .val (.int (6 : Int32)), .val (.int (2 : Int32)), .val (.int (1 : Int32))] [])) _
        refine XS.aloadN X28.here hx rfl (hb hby at_130) rfl rfl ?_
        show Steps p.tables e below (T28.setTop (mkF m 131 #[.val (.int pp1), .val (.int pp2), .val (.int (5 : Int32)), .val (.ref ob5), .val (.int (6 : Int32)), .val (.int (2 : Int32)), .val (.int (1 : Int32))] [(.ref ob5)])) _
        refine XS.iloadN X28.here hx rfl (hb hby at_131) rfl ?_
        show Steps p.tables e below (T28.setTop (mkF m 132 #[.val (.int pp1), .val (.int pp2), .val (.int (5 : Int32)), .val (.ref ob5), .val (.int (6 : Int32)), .val (.int (2 : Int32)), .val (.int (1 : Int32))] [(.int pp2), (.ref ob5)])) _
        refine st32.trans ?_
        show Steps p.tables e below (T32.setTop (mkF m 135 #[.val (.int pp1), .val (.int pp2), .val (.int (5 : Int32)), .val (.ref ob5), .val (.int (6 : Int32)), .val (.int (2 : Int32)), .val (.int (1 : Int32))] [(.int (if pp2 < (0 : Int32) then (0 : Int32) else (1 : Int32)))])) _
        refine XS.iload X32.here hx rfl (hb hby at_135) rfl ?_
        show Steps p.tables e below (T32.setTop (mkF m 137 #[.val (.int pp1), .val (.int pp2), .val (.int (5 : Int32)), .val (.ref ob5), .val (.int (6 : Int32)), .val (.int (2 : Int32)), .val (.int (1 : Int32))] [(.int (1 : Int32)), (.int (if pp2 < (0 : Int32) then (0 : Int32) else (1 : Int32)))])) _
        refine XS.icmpNo X32.here hx rfl (hb hby at_137) rfl (teq hc137_18).2 ?_
        show Steps p.tables e below (T32.setTop (mkF m 140 #[.val (.int pp1), .val (.int pp2), .val (.int (5 : Int32)), .val (.ref ob5), .val (.int (6 : Int32)), .val (.int (2 : Int32)), .val (.int (1 : Int32))] [])) _
        refine XS.iconst X32.here hx rfl (hb hby at_140) ?_
        show Steps p.tables e below (T32.setTop (mkF m 141 #[.val (.int pp1), .val (.int pp2), .val (.int (5 : Int32)), .val (.ref ob5), .val (.int (6 : Int32)), .val (.int (2 : Int32)), .val (.int (1 : Int32))] [(.int (1 : Int32))])) _
        refine XS.goto X32.here hx rfl (pc0 := 141) (pc' := 145) rfl (hb hby at_141) (by decide) (by decide) ?_
        show Steps p.tables e below (T32.setTop (mkF m 145 #[.val (.int pp1), .val (.int pp2), .val (.int (5 : Int32)), .val (.ref ob5), .val (.int (6 : Int32)), .val (.int (2 : Int32)), .val (.int (1 : Int32))] [(.int (1 : Int32))])) _
        exact retN X32 hx (t := .boolean) Bd.returns (by simp) (hb hby at_145) hr
      · show Q0 Z pp1 pp2 ob0 ob1 ob2 ob3 ob4 ob5 h0 n0 _ T32.heap _
        rw [e32]
        exact ⟨rfl, N32⟩
set_option maxRecDepth 65536 in
set_option maxHeartbeats 40000000 in
theorem comes_1 {Post : Tables → Env → Array Value → State → Outcome → State → Prop} (hpost : ∀ tb e args s v u, (limb_1_1.after args s (.returned v) u = true ∧ limb_1_2.after args s (.returned v) u = true ∧ True) → FrameEnd s (.returned v) u (Jvm.fieldLocs frame_1_writes args s ++ Jvm.arrayLocs frame_1_arrays args s ++ Jvm.staticLocs frame_1_statics s) 0 0 → Post tb e args s (.returned v) u) :
    ArmFor flags0 classFile x code maxLocals ret World_1 tables_1 room_1 Calls_1 rest_1 Pre_1 Post := by
  intro l hfl _ _ p e ha hc hk s m args below hf hA hF happ hP
  obtain ⟨hcalls, hrest, hpre⟩ := hP
  obtain ⟨-, -, -, hnamed, -, -, -, hat⟩ := (Spec.applies_iff hf).mp happ
  obtain ⟨hg, hn⟩ := and_e (Cond.before_iff.mp (show (Jvm.Cond.and given_1 narrow_1).before args s = true from hpre))
  obtain ⟨g1, g2⟩ := and_e hg
  obtain ⟨g3, g4⟩ := and_e g2
  obtain ⟨w0, w1, rfl⟩ : ∃ w0 w1 : Value, args = #[w0, w1] := by
    have hs : args.size = 2 := by simpa [Cond.value, given_1] using g1
    obtain ⟨L⟩ := args
    match L, hs with
    | [w0, w1], _ => exact ⟨w0, w1, rfl⟩
  have hw := fun d (hd : d ∈ tables_1) => atoms_spec (ws := Jvm.Cond.code x code maxLocals ret :: tables_1) hat d (List.mem_cons_of_mem _ hd)
  have hfit : Fit s := fun {y c} hc i hi => by
    obtain ⟨ha, rfl⟩ := Array.getElem?_eq_some_iff.mp hc
    have q := List.all_eq_true.mp ((Array.all_eq_true_iff_forall_mem.mp hF) _ (Array.getElem_mem ha)) i (List.mem_range.mpr hi)
    simpa [Array.getElem?_eq_getElem hi] using q
  obtain ⟨i0, ei0⟩ := is_v g3
  obtain rfl : w0 = (.int i0) := Option.some.inj ei0
  obtain ⟨i1, ei1⟩ := is_v g4
  obtain rfl : w1 = (.int i1) := Option.some.inj ei1
  obtain ⟨na1, nb1⟩ := and_e hn
  obtain ⟨na2, nb2⟩ := and_e nb1
  obtain ⟨na3, nb3⟩ := and_e nb2
  obtain ⟨na4, nb4⟩ := and_e nb3
  obtain ⟨na5, nb5⟩ := and_e nb4
  obtain ⟨na6, nb6⟩ := and_e nb5
  obtain ⟨na7, nb7⟩ := and_e nb6
  obtain ⟨na8, nb8⟩ := and_e nb7
  obtain ⟨na9, nb9⟩ := and_e nb8
  obtain ⟨na10, nb10⟩ := and_e nb9
  obtain ⟨na11, nb11⟩ := and_e nb10
  obtain ⟨x_EQUAL, ev_EQUAL⟩ := exa_v na1
  have sta_EQUAL := Sta.start ev_EQUAL (Or.inr ⟨(hw _ (List.mem_of_getElem? (i := 2) rfl)), (hw _ (List.mem_of_getElem? (i := 3) rfl))⟩)
  have exa_EQUAL := Exa.start ev_EQUAL na1
  have fld_EQUAL_ordinal := Fld.start (own_feq ev_EQUAL na2)
  obtain ⟨x_NOT_EQUAL, ev_NOT_EQUAL⟩ := exa_v na7
  have sta_NOT_EQUAL := Sta.start ev_NOT_EQUAL (Or.inr ⟨(hw _ (List.mem_of_getElem? (i := 2) rfl)), (hw _ (List.mem_of_getElem? (i := 23) rfl))⟩)
  have exa_NOT_EQUAL := Exa.start ev_NOT_EQUAL na7
  have fld_NOT_EQUAL_ordinal := Fld.start (own_feq ev_NOT_EQUAL na8)
  obtain ⟨x_LESS, ev_LESS⟩ := exa_v na3
  have sta_LESS := Sta.start ev_LESS (Or.inr ⟨(hw _ (List.mem_of_getElem? (i := 2) rfl)), (hw _ (List.mem_of_getElem? (i := 19) rfl))⟩)
  have exa_LESS := Exa.start ev_LESS na3
  have fld_LESS_ordinal := Fld.start (own_feq ev_LESS na4)
  obtain ⟨x_LESS_OR_EQUAL, ev_LESS_OR_EQUAL⟩ := exa_v na11
  have sta_LESS_OR_EQUAL := Sta.start ev_LESS_OR_EQUAL (Or.inr ⟨(hw _ (List.mem_of_getElem? (i := 2) rfl)), (hw _ (List.mem_of_getElem? (i := 27) rfl))⟩)
  have exa_LESS_OR_EQUAL := Exa.start ev_LESS_OR_EQUAL na11
  have fld_LESS_OR_EQUAL_ordinal := Fld.start (own_feq ev_LESS_OR_EQUAL nb11)
  obtain ⟨x_GREATER, ev_GREATER⟩ := exa_v na5
  have sta_GREATER := Sta.start ev_GREATER (Or.inr ⟨(hw _ (List.mem_of_getElem? (i := 2) rfl)), (hw _ (List.mem_of_getElem? (i := 21) rfl))⟩)
  have exa_GREATER := Exa.start ev_GREATER na5
  have fld_GREATER_ordinal := Fld.start (own_feq ev_GREATER na6)
  obtain ⟨x_GREATER_OR_EQUAL, ev_GREATER_OR_EQUAL⟩ := exa_v na9
  have sta_GREATER_OR_EQUAL := Sta.start ev_GREATER_OR_EQUAL (Or.inr ⟨(hw _ (List.mem_of_getElem? (i := 2) rfl)), (hw _ (List.mem_of_getElem? (i := 25) rfl))⟩)
  have exa_GREATER_OR_EQUAL := Exa.start ev_GREATER_OR_EQUAL na9
  have fld_GREATER_OR_EQUAL_ordinal := Fld.start (own_feq ev_GREATER_OR_EQUAL na10)
  obtain ⟨n, o, h1, h2, h3, _, L, rfl, ⟨rfl, N⟩, hq⟩ := rm0 l s _ hw tables_1 i0 i1 x_EQUAL x_NOT_EQUAL x_LESS x_LESS_OR_EQUAL x_GREATER x_GREATER_OR_EQUAL s.heap s.heap.size (Nat.le_refl _) (Old.start s) sta_EQUAL sta_NOT_EQUAL sta_LESS sta_LESS_OR_EQUAL sta_GREATER sta_GREATER_OR_EQUAL exa_EQUAL exa_NOT_EQUAL exa_LESS exa_LESS_OR_EQUAL exa_GREATER exa_GREATER_OR_EQUAL fld_EQUAL_ordinal fld_NOT_EQUAL_ordinal fld_LESS_ordinal fld_LESS_OR_EQUAL_ordinal fld_GREATER_ordinal fld_GREATER_OR_EQUAL_ordinal p e ha hc hk s m _ below hf ((Spec.applies_iff_loose hf).mp happ).1 ⟨rfl, State.Warmed39.refl s, rfl⟩ trivial
  refine ⟨n, _, h1, h2, h3, hpost _ _ _ _ _ _ ⟨Cond.after_iff.mpr rfl, Cond.after_iff.mpr (eq_i res_at (Term.int_eval (1)) rfl), trivial⟩ ⟨hq.1, hq.2.1, (hq.2.2.sift fun y hy => Or.inr (N y hy)).mono (by decide) (by decide)⟩⟩
theorem main_1_1 : Claimed_1_1 := comes_1 fun _ _ _ _ _ _ h hF => ⟨h.1, hF⟩
theorem main_1_2 : Claimed_1_2 := comes_1 fun _ _ _ _ _ _ h hF => ⟨h.2.1, hF⟩
end Jvm.Pilot.@@N@@
namespace Jvm.Pilot.@@N@@
open Jvm Jvm.ClassFile Sem Op Lib Jvm.Free Jvm.Stand Jvm.Pilot.@@N@@.Jvm.D
/-! MADE BY PROGRAM (witnessworld.py) out of the Statement's table words and the real class files: 12 classes; the members and pool entries that the words name. The judged class is class 1, her method 1. -/
namespace start1
open Jvm.ClassFile
def u (s : String) : CpInfo := .utf8 (stringToUtf16 s)
/-- a pool by its gaps: so many unusable entries, then the entry; so many at the end -/
def gap : Nat → List CpInfo → List CpInfo
  | 0, r => r
  | n + 1, r => .unusable :: gap n r
def poolList (es : List (Nat × CpInfo)) (last : Nat) : List CpInfo := es.foldr (fun e r => gap e.1 (e.2 :: r)) (gap last [])
def pool (es : List (Nat × CpInfo)) (last : Nat) : Array CpInfo := ⟨poolList es last⟩
def fileOf (pool : Array CpInfo) (this : Nat) (attrs : Array Attribute := #[]) (ms : Array MethodInfo := #[]) (fl : Nat := 33) (sup : Nat := 0) (ifs : Array Nat := #[]) (fds : Array FieldInfo := #[]) : ClassFile where
  minorVersion := 0
  majorVersion := 65
  constantPool := pool
  accessFlags := fl
  thisClass := this
  superClass := sup
  interfaces := ifs
  fields := fds
  methods := ms
  attributes := attrs
def plain (name : String) (sup : Option ClassId) : Class where
  name := name
  kind := .ordinary
  loader := none
  accessFlags := 33
  super := sup
  interfaces := #[]
  cf := none
  fields := #[]
  methods := #[]
  instanceTypes := #[]
  staticTypes := #[]
  resolved := #[]
  callSites := []
  init := .initialized
  statics := none
  mirror := none

def pool0 : Array CpInfo := pool [(5, u "<init>"), (0, u "()V"), (1, .class_ 10), (1, u "java/lang/Object")] 113

def k0m0 : Method := { name := "<init>", desc := "()V", sig := { parameters := [], returnType := none }, accessFlags := 1, code := none }
/-- java/lang/Object -/
def k0 : Class := { plain "java/lang/Object" none with
  accessFlags := 33
  interfaces := #[]
  cf := some (fileOf pool0 8 #[] #[{ accessFlags := 1, nameIndex := 5, descriptorIndex := 6, attributes := #[] }] 33 0 #[] #[])
  fields := #[]
  methods := #[k0m0]
  instanceTypes := #[]
  staticTypes := #[]
  resolved := Array.replicate 124 none
  statics := none }

def pool1 : Array CpInfo := pool [(2, .class_ 4), (1, u "java/lang/Object"), (0, u "<init>"), (0, u "()V"), (0, .integer 2147483647), (0, .fieldref 9 10), (0, .class_ 11), (0, .nameAndType 12 13), (0, u "com/example/guarded_stream/guardedstream/query/ComparisonOperator"), (0, u "EQUAL"), (0, u "Lcom/example/guarded_stream/guardedstream/query/ComparisonOperator;"), (0, .fieldref 9 15), (0, .nameAndType 16 13), (0, u "NOT_EQUAL"), (0, .fieldref 9 18), (0, .nameAndType 19 13), (0, u "LESS"), (0, .fieldref 9 21), (0, .nameAndType 22 13), (0, u "LESS_OR_EQUAL"), (0, .fieldref 9 24), (0, .nameAndType 25 13), (0, u "GREATER"), (0, .fieldref 9 27), (0, .nameAndType 28 13), (0, u "GREATER_OR_EQUAL"), (0, .methodref 9 30), (0, .nameAndType 31 32), (0, u "holds"), (0, u "(I)Z"), (0, .class_ 34), (0, u "com/example/guarded_stream/guardedstream/query/ComparisonOperatorHoldsPinLaw"), (2, u "law"), (0, u "(II)Z")] 3

def k1m0 : Method := { name := "<init>", desc := "()V", sig := { parameters := [], returnType := none }, accessFlags := 1, code := none }
def k1c1 : Code := { maxStack := 2, maxLocals := 7, code := code, exceptionTable := #[], attributes := #[] }
def k1m1 : Method := { name := "law", desc := "(II)Z", sig := { parameters := [.int, .int], returnType := some .boolean }, accessFlags := 9, code := some k1c1 }
/-- com/example/guarded_stream/guardedstream/query/ComparisonOperatorHoldsPinLaw -/
def k1 : Class := { plain "com/example/guarded_stream/guardedstream/query/ComparisonOperatorHoldsPinLaw" (some 0) with
  accessFlags := 49
  interfaces := #[]
  cf := some (fileOf pool1 33 #[] #[{ accessFlags := 1, nameIndex := 5, descriptorIndex := 6, attributes := #[] }, { accessFlags := 9, nameIndex := 37, descriptorIndex := 38, attributes := #[] }] 49 2 #[] #[])
  fields := #[]
  methods := #[k1m0, k1m1]
  instanceTypes := #[]
  staticTypes := #[]
  resolved := Array.replicate 42 none
  statics := none }

def pool2 : Array CpInfo := pool [(1, .class_ 2), (0, u "java/lang/constant/Constable"), (0, .class_ 4), (0, u "java/lang/Object")] 6

/-- java/lang/constant/Constable -/
def k2 : Class := { plain "java/lang/constant/Constable" (some 0) with
  accessFlags := 1537
  interfaces := #[]
  cf := some (fileOf pool2 1 #[] #[] 1537 3 #[] #[])
  fields := #[]
  methods := #[]
  instanceTypes := #[]
  staticTypes := #[]
  resolved := Array.replicate 11 none
  statics := none }

def pool3 : Array CpInfo := pool [(1, .class_ 2), (0, u "java/lang/Comparable"), (0, .class_ 4), (0, u "java/lang/Object")] 7

/-- java/lang/Comparable -/
def k3 : Class := { plain "java/lang/Comparable" (some 0) with
  accessFlags := 1537
  interfaces := #[]
  cf := some (fileOf pool3 1 #[] #[] 1537 3 #[] #[])
  fields := #[]
  methods := #[]
  instanceTypes := #[]
  staticTypes := #[]
  resolved := Array.replicate 12 none
  statics := none }

def pool4 : Array CpInfo := pool [(1, .class_ 2), (0, u "java/io/Serializable"), (0, .class_ 4), (0, u "java/lang/Object")] 2

/-- java/io/Serializable -/
def k4 : Class := { plain "java/io/Serializable" (some 0) with
  accessFlags := 1537
  interfaces := #[]
  cf := some (fileOf pool4 1 #[] #[] 1537 3 #[] #[])
  fields := #[]
  methods := #[]
  instanceTypes := #[]
  staticTypes := #[]
  resolved := Array.replicate 7 none
  statics := none }

def pool5 : Array CpInfo := pool [(2, .class_ 4), (1, u "java/lang/Enum"), (0, u "name"), (0, u "Ljava/lang/String;"), (0, .fieldref 2 8), (0, .nameAndType 9 10), (0, u "ordinal"), (0, u "I"), (1, .class_ 14), (1, u "java/lang/Object"), (4, u "hash"), (86, .class_ 108), (1, u "java/lang/Enum$EnumDesc"), (2, .class_ 112), (0, u "java/lang/constant/Constable"), (0, .class_ 114), (0, u "java/lang/Comparable"), (0, .class_ 116), (0, u "java/io/Serializable"), (9, u "()I")] 77

def k5c0 : Code := { maxStack := 1, maxLocals := 1, code := jdk_37_method_2_code, exceptionTable := #[], attributes := #[] }
def k5m0 : Method := { name := "ordinal", desc := "()I", sig := { parameters := [], returnType := some .int }, accessFlags := 17, code := some k5c0 }
/-- java/lang/Enum -/
def k5 : Class := { plain "java/lang/Enum" (some 0) with
  accessFlags := 1057
  interfaces := #[2, 3, 4]
  cf := some (fileOf pool5 2 #[.nestMembers #[106]] #[{ accessFlags := 17, nameIndex := 9, descriptorIndex := 126, attributes := #[] }] 1057 12 #[111, 113, 115] #[{ accessFlags := 18, nameIndex := 5, descriptorIndex := 6, attributes := #[] }, { accessFlags := 18, nameIndex := 9, descriptorIndex := 10, attributes := #[] }, { accessFlags := 2, nameIndex := 19, descriptorIndex := 10, attributes := #[] }])
  fields := #[{ name := "name", type := (.object "java/lang/String"), accessFlags := 18, slot := 0, constantValue := 0 }, { name := "ordinal", type := .int, accessFlags := 18, slot := 1, constantValue := 0 }, { name := "hash", type := .int, accessFlags := 2, slot := 2, constantValue := 0 }]
  methods := #[k5m0]
  instanceTypes := #[(.object "java/lang/String"), .int, .int]
  staticTypes := #[]
  resolved := Array.replicate 204 none
  statics := none }

def pool6 : Array CpInfo := pool [(1, .class_ 2), (0, u "com/example/guarded_stream/guardedstream/query/ComparisonOperator"), (2, u "EQUAL"), (0, u "Lcom/example/guarded_stream/guardedstream/query/ComparisonOperator;"), (2, u "NOT_EQUAL"), (2, u "LESS"), (2, u "LESS_OR_EQUAL"), (2, u "GREATER"), (2, u "GREATER_OR_EQUAL"), (2, u "$VALUES"), (0, u "[Lcom/example/guarded_stream/guardedstream/query/ComparisonOperator;"), (6, .class_ 34), (1, u "java/lang/Enum"), (8, u "symbol"), (0, u "Ljava/lang/String;"), (10, .methodref 1 56), (0, .nameAndType 57 58), (0, u "ordinal"), (0, u "()I"), (37, u "holds"), (0, u "(I)Z")] 9

def k6c0 : Code := { maxStack := 3, maxLocals := 2, code := prog_18_method_5_code, exceptionTable := #[], attributes := #[] }
def k6m0 : Method := { name := "holds", desc := "(I)Z", sig := { parameters := [.int], returnType := some .boolean }, accessFlags := 0, code := some k6c0 }
/-- com/example/guarded_stream/guardedstream/query/ComparisonOperator -/
def k6 : Class := { plain "com/example/guarded_stream/guardedstream/query/ComparisonOperator" (some 5) with
  accessFlags := 16432
  interfaces := #[]
  cf := some (fileOf pool6 1 #[] #[{ accessFlags := 0, nameIndex := 96, descriptorIndex := 97, attributes := #[] }] 16432 32 #[] #[{ accessFlags := 16409, nameIndex := 5, descriptorIndex := 6, attributes := #[] }, { accessFlags := 16409, nameIndex := 9, descriptorIndex := 6, attributes := #[] }, { accessFlags := 16409, nameIndex := 12, descriptorIndex := 6, attributes := #[] }, { accessFlags := 16409, nameIndex := 15, descriptorIndex := 6, attributes := #[] }, { accessFlags := 16409, nameIndex := 18, descriptorIndex := 6, attributes := #[] }, { accessFlags := 16409, nameIndex := 21, descriptorIndex := 6, attributes := #[] }, { accessFlags := 18, nameIndex := 43, descriptorIndex := 44, attributes := #[] }, { accessFlags := 4122, nameIndex := 24, descriptorIndex := 25, attributes := #[] }])
  fields := #[{ name := "EQUAL", type := (.object "com/example/guarded_stream/guardedstream/query/ComparisonOperator"), accessFlags := 16409, slot := 0, constantValue := 0 }, { name := "NOT_EQUAL", type := (.object "com/example/guarded_stream/guardedstream/query/ComparisonOperator"), accessFlags := 16409, slot := 1, constantValue := 0 }, { name := "LESS", type := (.object "com/example/guarded_stream/guardedstream/query/ComparisonOperator"), accessFlags := 16409, slot := 2, constantValue := 0 }, { name := "LESS_OR_EQUAL", type := (.object "com/example/guarded_stream/guardedstream/query/ComparisonOperator"), accessFlags := 16409, slot := 3, constantValue := 0 }, { name := "GREATER", type := (.object "com/example/guarded_stream/guardedstream/query/ComparisonOperator"), accessFlags := 16409, slot := 4, constantValue := 0 }, { name := "GREATER_OR_EQUAL", type := (.object "com/example/guarded_stream/guardedstream/query/ComparisonOperator"), accessFlags := 16409, slot := 5, constantValue := 0 }, { name := "symbol", type := (.object "java/lang/String"), accessFlags := 18, slot := 3, constantValue := 0 }, { name := "$VALUES", type := (.array (.object "com/example/guarded_stream/guardedstream/query/ComparisonOperator")), accessFlags := 4122, slot := 6, constantValue := 0 }]
  methods := #[k6m0]
  instanceTypes := #[(.object "java/lang/String"), .int, .int, (.object "java/lang/String")]
  staticTypes := #[(.object "com/example/guarded_stream/guardedstream/query/ComparisonOperator"), (.object "com/example/guarded_stream/guardedstream/query/ComparisonOperator"), (.object "com/example/guarded_stream/guardedstream/query/ComparisonOperator"), (.object "com/example/guarded_stream/guardedstream/query/ComparisonOperator"), (.object "com/example/guarded_stream/guardedstream/query/ComparisonOperator"), (.object "com/example/guarded_stream/guardedstream/query/ComparisonOperator"), (.array (.object "com/example/guarded_stream/guardedstream/query/ComparisonOperator"))]
  resolved := Array.replicate 107 none
  statics := some 0 }

def pool7 : Array CpInfo := pool [(1, u "java/lang/Cloneable"), (0, .class_ 1), (0, u "java/lang/Object"), (0, .class_ 3)] 3

/-- java/lang/Cloneable -/
def k7 : Class := { plain "java/lang/Cloneable" (some 0) with
  accessFlags := 1537
  interfaces := #[]
  cf := some (fileOf pool7 2 #[] #[] 1537 4 #[] #[])
  fields := #[]
  methods := #[]
  instanceTypes := #[]
  staticTypes := #[]
  resolved := Array.replicate 8 none
  statics := none }

/-- the primitive byte -/
def k8 : Class := { plain "byte" none with kind := .primitive 'B', accessFlags := 0x411 }
/-- [B -/
def k9 : Class := { plain "[B" (some 0) with kind := .array 8 .byte, interfaces := #[7, 4], accessFlags := 1041 }

/-- the primitive int -/
def k10 : Class := { plain "int" none with kind := .primitive 'I', accessFlags := 0x411 }
/-- [I -/
def k11 : Class := { plain "[I" (some 0) with kind := .array 10 .int, interfaces := #[7, 4], accessFlags := 1041 }

def heap : Heap := #[{ cls := 6, slots := #[.ref 1, .ref 2, .ref 3, .ref 4, .ref 5, .ref 6, .null], vm := .statics 6 },
  { cls := 6, slots := #[.null, .int 0, .int 0, .null], vm := .none },
  { cls := 6, slots := #[.null, .int 1, .int 0, .null], vm := .none },
  { cls := 6, slots := #[.null, .int 2, .int 0, .null], vm := .none },
  { cls := 6, slots := #[.null, .int 3, .int 0, .null], vm := .none },
  { cls := 6, slots := #[.null, .int 4, .int 0, .null], vm := .none },
  { cls := 6, slots := #[.null, .int 5, .int 0, .null], vm := .none }]
def classes : Array Class := #[k0, k1, k2, k3, k4, k5, k6, k7, k8, k9, k10, k11]
def interned : List (Array UInt16 × Addr) := []
def slotsUsed : Nat := 31
def theMethod : MethodId := ⟨1, 1⟩
def args0 : Array Value := #[.int 1, .int 2]
def aboutOver (below : List Frame) : State where
  vm := { classes := classes, interned := interned.toArray }
  heap := heap
  slotsUsed := slotsUsed
  threads := #[{ frames := .invoking theMethod args0 :: below }]
def below0 : List Frame := [.native { method := ⟨0, 0⟩, args := #[] }]
def about1 : State := aboutOver below0
def p0 : Program := .bare "" "" ""
def e0 : Env := launch0.env 0 0 0
theorem w_frames : about1.frames = Frame.invoking theMethod args0 :: below0 := rfl
set_option maxRecDepth 65536 in
theorem w_args : argsFit about1.vm theMethod args0 = true := by decide +kernel
set_option maxRecDepth 65536 in
theorem w_heap : heapFits about1 = true := by decide +kernel
set_option maxRecDepth 65536 in
theorem w_runnable : about1.curStatus? = some .runnable := by decide +kernel
set_option maxRecDepth 65536 in
theorem w_alone : about1.alone = true := by decide +kernel
set_option maxRecDepth 65536 in
theorem w_named : about1.methodNamed? x = some theMethod := by decide +kernel
set_option maxRecDepth 65536 in
theorem w_hears : about1.hears theMethod below0 = true := by decide +kernel
set_option maxRecDepth 65536 in
theorem w_ripe : about1.ripe theMethod args0 below0 = true := by decide +kernel
theorem w_running : about1.status = .running := rfl
set_option maxRecDepth 65536 in
theorem w_room : about1.hasRoom e0.platform room_1 = true :=
  launch0.hasRoom_least _ room_1 (by decide +kernel) (by decide +kernel) (by decide +kernel) (by decide +kernel) (by decide +kernel) (by decide +kernel)
theorem allAtoms_all (ts : List Jvm.Cond) (a : Array Jvm.Value) (st : Jvm.State) : (allAtoms ts).before a st = ts.all (fun c => c.before a st) := by
  induction ts with
  | nil => rfl
  | cons c t ih =>
    show (Jvm.Cond.and c (allAtoms t)).before a st = _
    rw [Jvm.Cond.before_and, ih, List.all_cons]
def words1 : List Jvm.Cond := Jvm.Cond.code x code maxLocals ret :: tables_1
/-- a 'code' word, met by the world's own term for the bytes: nothing is compared byte by byte -/
theorem code_word {y : MethodName} {bytes : ByteArray} {mx : Nat} {rt : Option FieldType} {a : Array Value} {s : State} {m : MethodId} {meth : Method} {c : Code} (h1 : s.methodNamed? y = some m) (h2 : s.vm.method? m = some meth) (h3 : meth.code = some c) (h4 : c.code = bytes)
    (h5 : (c.maxLocals == mx && c.exceptionTable.isEmpty && decide (c.maxStack ≤ mostOperands) && decide (meth.sig.returnType = rt) && !meth.locks && decide (parseMethodDescriptor y.desc = some meth.sig)) = true) : (Jvm.Cond.code y bytes mx rt).before a s = true := by
  simp only [Bool.and_eq_true, beq_iff_eq, Bool.not_eq_true', decide_eq_true_eq] at h5
  obtain ⟨⟨⟨⟨⟨g1, g2⟩, g3⟩, g4⟩, g5⟩, g6⟩ := h5
  simp [Cond.before, Cond.holds, Cond.value, h1, h2, h3, h4, g1, g2, g3, g4, g5, g6]
def isCode : Jvm.Cond → Bool
  | .code _ _ _ _ => true
  | _ => false
theorem all_split {L : List Jvm.Cond} {P : Jvm.Cond → Bool} (h1 : L.all (fun c => isCode c || P c) = true) (h2 : ∀ c ∈ L.filter isCode, P c = true) : L.all P = true := by
  refine List.all_eq_true.mpr fun c hc => ?_
  have h := List.all_eq_true.mp h1 c hc
  rcases Bool.eq_false_or_eq_true (isCode c) with hi | hi
  · exact h2 c (List.mem_filter.mpr ⟨hc, hi⟩)
  · simpa [hi] using h
set_option maxRecDepth 65536 in
theorem w_c0 : (Jvm.Cond.code x code maxLocals ret).before args0 about1 = true := code_word (m := ⟨1, 1⟩) (meth := k1m1) (c := k1c1) (by decide +kernel) rfl rfl rfl (by decide +kernel)
set_option maxRecDepth 65536 in
theorem w_c1 : (Jvm.Cond.code ({ cls := "com/example/guarded_stream/guardedstream/query/ComparisonOperator", name := "holds", desc := "(I)Z" } : Jvm.MethodName) prog_18_method_5_code (2 : Nat) (Option.some Jvm.ClassFile.FieldType.boolean)).before args0 about1 = true := code_word (m := ⟨6, 0⟩) (meth := k6m0) (c := k6c0) (by decide +kernel) rfl rfl rfl (by decide +kernel)
set_option maxRecDepth 65536 in
theorem w_c2 : (Jvm.Cond.code ({ cls := "java/lang/Enum", name := "ordinal", desc := "()I" } : Jvm.MethodName) jdk_37_method_2_code (1 : Nat) (Option.some Jvm.ClassFile.FieldType.int)).before args0 about1 = true := code_word (m := ⟨5, 0⟩) (meth := k5m0) (c := k5c0) (by decide +kernel) rfl rfl rfl (by decide +kernel)
def codes1 : List Jvm.Cond := [Jvm.Cond.code x code maxLocals ret, Jvm.Cond.code ({ cls := "com/example/guarded_stream/guardedstream/query/ComparisonOperator", name := "holds", desc := "(I)Z" } : Jvm.MethodName) prog_18_method_5_code (2 : Nat) (Option.some Jvm.ClassFile.FieldType.boolean), Jvm.Cond.code ({ cls := "java/lang/Enum", name := "ordinal", desc := "()I" } : Jvm.MethodName) jdk_37_method_2_code (1 : Nat) (Option.some Jvm.ClassFile.FieldType.int)]
set_option maxRecDepth 65536 in
theorem codes_eq : words1.filter isCode = codes1 := rfl
theorem w_codes : ∀ c ∈ words1.filter isCode, c.before args0 about1 = true := by
  rw [codes_eq]
  intro c hc
  simp only [codes1, List.mem_cons, List.not_mem_nil, or_false] at hc
  rcases hc with rfl | rfl | rfl
  · exact w_c0
  · exact w_c1
  · exact w_c2
set_option maxRecDepth 65536 in
theorem w_t1 : (words1.take 24).all (fun c => isCode c || c.before args0 about1) = true := by decide +kernel
set_option maxRecDepth 65536 in
theorem w_t2 : (words1.drop 24).all (fun c => isCode c || c.before args0 about1) = true := by decide +kernel
theorem w_tables : (allAtoms (Jvm.Cond.code x code maxLocals ret :: tables_1)).before args0 about1 = true := by
  rw [allAtoms_all]
  show words1.all (fun c => c.before args0 about1) = true
  refine all_split ?_ w_codes
  rw [← List.take_append_drop 24 words1, List.all_append, w_t1, w_t2]
  rfl
set_option maxRecDepth 65536 in
theorem w_case : (Jvm.Cond.and given_1 narrow_1).before args0 about1 = true := by decide +kernel
theorem w_applies : (headSpec (Jvm.Cond.code x code maxLocals ret :: tables_1) room_1).applies x e0.platform about1 = true :=
  (Spec.applies_iff w_frames).mpr ⟨w_running, w_runnable, w_alone, w_named, w_hears, w_ripe, w_room, w_tables⟩
theorem atStart : AtStart classFile x code maxLocals ret World_1 tables_1 room_1 Calls_1 rest_1 Pre_1 launch0 p0 e0 about1 theMethod args0 below0 :=
  ⟨lists_1, trivial, launch0.admits_env _ _ _, launch0.least_env, fairChoices_fair.cas, fairChoices_fair.clock, w_frames, w_args, w_heap, w_applies, trivial, trivial, w_case⟩
end start1
theorem witness_1 : WitnessClaimed_1 := ⟨start1.p0, start1.e0, start1.about1, start1.theMethod, start1.args0, start1.below0, start1.atStart⟩
end Jvm.Pilot.@@N@@
