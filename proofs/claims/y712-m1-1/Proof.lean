import JvmDerived
import JvmDerived.Pilot.@@N@@Statement
import JvmDerived.Pilot.@@N@@Code
set_option linter.unusedVariables false
set_option linter.unusedSimpArgs false
namespace Jvm.RoadKit
open Sem ClassFile Op Lib Jvm.Stand Jvm.Free Jvm.LawKit
section New
variable {p : Program} {l : Launch} {e : Env} {R : Room} {s : State} {m : MethodId} {args : Array Value} {below : List Frame} {meth : Method} {c : Code} {T : State} {locs : List Loc} {cells slots : Nat}
theorem retI (X : Stand p l e R s m args below meth c T locs cells slots) (hx : p.tables.exec = Jvm.exec) {pc : Nat} {Ls : Array Slot} {z : Int32} {rest : List Value} (hret : meth.sig.returnType = some .int) (hd : decode c.code pc = .ok (.ireturn, 1)) {fs : List Frame}
    (hl : ∀ (f : JFrame) (acts : List Action), f.method = m → f.locked = none → f.entered = [] → (doReturn e (T.setTop f) acts (some (.int z))).1 = T.setFrames fs) : Steps p.tables e below (T.setTop (mkF m pc Ls (.int z :: rest))) (T.setFrames fs) := by
  have hm' : T.vm.method? m = some meth := X.method'
  have hn : narrow .int (.int z) = .int z := rfl
  show Steps p.tables e below (T.setTop { method := m, pc := pc, locals := Ls, stack := _ :: rest, locked := none }) _
  jvm_step X.here [X.here.top, hx, hd, hm', hret, hn]
  first | (intro acts; rw [hl _ acts rfl rfl rfl]) | rw [hl _ _ rfl rfl rfl]
  exact Steps.refl _
theorem retJ (X : Stand p l e R s m args below meth c T locs cells slots) (hx : p.tables.exec = Jvm.exec) {pc : Nat} {Ls : Array Slot} {z : Int64} {rest : List Value} (hret : meth.sig.returnType = some .long) (hd : decode c.code pc = .ok (.lreturn, 1)) {fs : List Frame}
    (hl : ∀ (f : JFrame) (acts : List Action), f.method = m → f.locked = none → f.entered = [] → (doReturn e (T.setTop f) acts (some (.long z))).1 = T.setFrames fs) : Steps p.tables e below (T.setTop (mkF m pc Ls (.long z :: rest))) (T.setFrames fs) := by
  have hm' : T.vm.method? m = some meth := X.method'
  have hn : narrow .long (.long z) = .long z := rfl
  show Steps p.tables e below (T.setTop { method := m, pc := pc, locals := Ls, stack := _ :: rest, locked := none }) _
  jvm_step X.here [X.here.top, hx, hd, hm', hret, hn]
  first | (intro acts; rw [hl _ acts rfl rfl rfl]) | rw [hl _ _ rfl rfl rfl]
  exact Steps.refl _
theorem retD (X : Stand p l e R s m args below meth c T locs cells slots) (hx : p.tables.exec = Jvm.exec) {pc : Nat} {Ls : Array Slot} {z : UInt64} {rest : List Value} (hret : meth.sig.returnType = some .double) (hd : decode c.code pc = .ok (.dreturn, 1)) {fs : List Frame}
    (hl : ∀ (f : JFrame) (acts : List Action), f.method = m → f.locked = none → f.entered = [] → (doReturn e (T.setTop f) acts (some (.double z))).1 = T.setFrames fs) : Steps p.tables e below (T.setTop (mkF m pc Ls (.double z :: rest))) (T.setFrames fs) := by
  have hm' : T.vm.method? m = some meth := X.method'
  have hn : narrow .double (.double z) = .double z := rfl
  show Steps p.tables e below (T.setTop { method := m, pc := pc, locals := Ls, stack := _ :: rest, locked := none }) _
  jvm_step X.here [X.here.top, hx, hd, hm', hret, hn]
  first | (intro acts; rw [hl _ acts rfl rfl rfl]) | rw [hl _ _ rfl rfl rfl]
  exact Steps.refl _
end New
end Jvm.RoadKit
namespace Jvm.Pilot.@@N@@
open Jvm Jvm.ClassFile Sem Op Lib Jvm.Free Jvm.Stand Jvm.LawKit Jvm.RoadKit Bundle Jvm.Pilot.@@N@@.Jvm.D
def own_ok (c h : Int32) : Prop := h = (-1 : Int32) ∨ c = (-2 : Int32) ∨ h = c
instance own_dec (c h : Int32) : Decidable (own_ok c h) := inferInstanceAs (Decidable (_ ∨ _ ∨ _))
def own_okv (c h : Int32) : Int32 := if own_ok c h then (1 : Int32) else (0 : Int32)
theorem own_okv_pos {c h : Int32} (q : own_ok c h) : own_okv c h = (1 : Int32) := if_pos q
theorem own_okv_neg {c h : Int32} (q : ¬ own_ok c h) : own_okv c h = (0 : Int32) := if_neg q
theorem own_okv_nz {c h : Int32} (q : own_ok c h) : ¬ own_okv c h = (0 : Int32) := by rw [own_okv_pos q]; decide
theorem own_okv_of {c h : Int32} (q : ¬ own_okv c h = (0 : Int32)) : own_ok c h := by
  by_cases g : own_ok c h
  · exact g
  · exact absurd (own_okv_neg g) q
def own_all (c0 c1 c2 l0 l1 l2 : Int32) : Prop := own_ok c0 l0 ∧ own_ok c1 l1 ∧ own_ok c2 l2
instance own_dec3 (c0 c1 c2 l0 l1 l2 : Int32) : Decidable (own_all c0 c1 c2 l0 l1 l2) := inferInstanceAs (Decidable (_ ∧ _ ∧ _))
def own_domv (c0 c1 c2 l0 l1 l2 : Int32) : Int32 := if own_all c0 c1 c2 l0 l1 l2 then (1 : Int32) else (0 : Int32)
theorem own_domv_pos {c0 c1 c2 l0 l1 l2 : Int32} (q : own_all c0 c1 c2 l0 l1 l2) : own_domv c0 c1 c2 l0 l1 l2 = (1 : Int32) := if_pos q
theorem own_domv_neg {c0 c1 c2 l0 l1 l2 : Int32} (q : ¬ own_all c0 c1 c2 l0 l1 l2) : own_domv c0 c1 c2 l0 l1 l2 = (0 : Int32) := if_neg q
theorem pn_com_example_guarded_stream_guardedstream_model_SecurityLevelDominatesPinLaw : plainName "com/example/guarded_stream/guardedstream/model/SecurityLevelDominatesPinLaw" = true := by first | (simp [plainName, overriddenIn]; done) | decide +kernel
theorem d1_0 : decode method_2_code 0 = .ok (.iload_n 0, 1) := by decide +kernel
theorem d1_1 : decode method_2_code 1 = .ok (.ldc 7, 2) := by decide +kernel
theorem d1_3 : decode method_2_code 3 = .ok (.iand, 1) := by decide +kernel
theorem d1_4 : decode method_2_code 4 = .ok (.iconst 5, 1) := by decide +kernel
theorem d1_5 : decode method_2_code 5 = .ok (.irem, 1) := by decide +kernel
theorem d1_6 : decode method_2_code 6 = .ok (.iconst 2, 1) := by decide +kernel
theorem d1_7 : decode method_2_code 7 = .ok (.isub, 1) := by decide +kernel
theorem d1_8 : decode method_2_code 8 = .ok (.ireturn, 1) := by decide +kernel
theorem ef_1 (m : MethodId) (x0 : Int32) : entryFrame m #[(.int x0)] 1 = mkF m 0 #[.val (.int x0)] [] := by first | (simp [entryFrame, mkF, argsToLocals, Value.category]; done) | rfl
def Q1 (Z : State) (pp1 : Int32) (h0 : Heap) (n0 : Nat) (v : Option Value) (h : Heap) (L : List Loc) : Prop := v = some (.int (((pp1 &&& (2147483647 : Int32)) % (5 : Int32)) - (2 : Int32))) ∧ Fr n0 L ∧ h = h0
set_option maxRecDepth 65536 in
set_option maxHeartbeats 40000000 in
theorem rm1 (l : Launch) (Z : State) (a0 : Array Value) (hw : ∀ d ∈ tables_1, d.before a0 Z = true) (ws : List Jvm.Cond) (pp1 : Int32) (h0 : Heap) (n0 : Nat) (Z0 : n0 ≤ h0.size) :
    MetFree l (⟨"com/example/guarded_stream/guardedstream/model/SecurityLevelDominatesPinLaw", "entry", "(I)I"⟩ : MethodName) (head1 (Jvm.Cond.code (⟨"com/example/guarded_stream/guardedstream/model/SecurityLevelDominatesPinLaw", "entry", "(I)I"⟩ : MethodName) method_2_code 1 (some .int) :: ws) ({ frames := 0, cells := 0, slots := 0, locals := 0 } : Room)) (fun a U => a = #[(.int pp1)] ∧ Z.Warmed39 U.vm ∧ U.heap = h0) (fun _ _ _ _ _ => True) (fun _ U o U' => ∃ v L, o = .returned v ∧ Q1 Z pp1 h0 n0 v U'.heap L ∧ FrameEnd U o U' L ({ frames := 0, cells := 0, slots := 0, locals := 0 } : Room).cells ({ frames := 0, cells := 0, slots := 0, locals := 0 } : Room).slots) := by
  refine MetFree.of_bodySF (plainFor_of_name pn_com_example_guarded_stream_guardedstream_model_SecurityLevelDominatesPinLaw) hisR ?_
  intro p e s m args below meth c s₁ Bd hml0 hP hK
  obtain ⟨rfl, hZ, hh⟩ := hP
  have hx := Bd.exec
  have hby := Bd.bytes
  have hml : c.maxLocals = 1 := hml0
  have hown : s.vm.findClass "com/example/guarded_stream/guardedstream/model/SecurityLevelDominatesPinLaw" = some m.cls := findClass_of_methodNamed Bd.named
  have hnm := (name_of_methodNamed Bd.named Bd.method).1
  have X0 : Stand p l e ({ frames := 0, cells := 0, slots := 0, locals := 0 } : Room) s m #[(.int pp1)] below meth c s₁ [] 0 0 := Stand.of_body Bd
  have e0 : s₁.heap = h0 := by rw [← hh, Bd.state]; rfl
  have N0 := Fr.nil n0
  have pre0 : ∀ t, Steps p.tables e below (s₁.setTop (mkF m 0 #[.val (.int pp1)] [])) t → Steps p.tables e below (s₁.setTop (entryFrame m #[(.int pp1)] 1)) t := fun t k => castTop (ef_1 m pp1) k
  have hc5 : (5 : Int32) ≠ (0 : Int32) := (by decide)
  obtain ⟨fs, hr, hrun, hended, hW, hsame⟩ := X0.leave (v := some (.int (((pp1 &&& (2147483647 : Int32)) % (5 : Int32)) - (2 : Int32)))) (fun h => by rw [Bd.returns] at h; cases h)
  refine ⟨_, _, pre0 _ ?_, hrun, hended, _, _, rfl, ?_, ⟨_, rfl⟩, hW, hsame.mono (by decide) (by decide)⟩
  · show Steps p.tables e below (s₁.setTop (mkF m 0 #[.val (.int pp1)] [])) _
    refine XS.iloadN X0.here hx rfl (hb hby d1_0) rfl ?_
    show Steps p.tables e below (s₁.setTop (mkF m 1 #[.val (.int pp1)] [(.int pp1)])) _
    refine X0.ldcInt hx hown (mvT hZ (hw _ (List.mem_of_getElem? (i := 4) rfl))) (g := (mkF m 1 #[.val (.int pp1)] [(.int pp1)])) rfl (hb hby d1_1) _ ?_
    show Steps p.tables e below (s₁.setTop (mkF m 3 #[.val (.int pp1)] [(.int (2147483647 : Int32)), (.int pp1)])) _
    refine XS.iand X0.here hx rfl (hb hby d1_3) rfl ?_
    show Steps p.tables e below (s₁.setTop (mkF m 4 #[.val (.int pp1)] [(.int (pp1 &&& (2147483647 : Int32)))])) _
    refine XS.iconst X0.here hx rfl (hb hby d1_4) ?_
    show Steps p.tables e below (s₁.setTop (mkF m 5 #[.val (.int pp1)] [(.int (5 : Int32)), (.int (pp1 &&& (2147483647 : Int32)))])) _
    refine iremM (g := (mkF m 5 #[.val (.int pp1)] [(.int (5 : Int32)), (.int (pp1 &&& (2147483647 : Int32)))])) X0 hx rfl (hb hby d1_5) rfl hc5 ?_
    show Steps p.tables e below (s₁.setTop (mkF m 6 #[.val (.int pp1)] [(.int ((pp1 &&& (2147483647 : Int32)) % (5 : Int32)))])) _
    refine XS.iconst X0.here hx rfl (hb hby d1_6) ?_
    show Steps p.tables e below (s₁.setTop (mkF m 7 #[.val (.int pp1)] [(.int (2 : Int32)), (.int ((pp1 &&& (2147483647 : Int32)) % (5 : Int32)))])) _
    refine XS.isub X0.here hx rfl (hb hby d1_7) rfl ?_
    show Steps p.tables e below (s₁.setTop (mkF m 8 #[.val (.int pp1)] [(.int (((pp1 &&& (2147483647 : Int32)) % (5 : Int32)) - (2 : Int32)))])) _
    exact retI X0 hx Bd.returns (hb hby d1_8) hr
  · show Q1 Z pp1 h0 n0 _ s₁.heap _
    rw [e0]
    exact ⟨rfl, N0, rfl⟩
theorem pn_com_example_guarded_stream_guardedstream_model_SecurityLevel : plainName "com/example/guarded_stream/guardedstream/model/SecurityLevel" = true := by first | (simp [plainName, overriddenIn]; done) | decide +kernel
theorem d2_0 : decode prog_15_method_1_code 0 = .ok (.aload_n 0, 1) := by decide +kernel
theorem d2_1 : decode prog_15_method_1_code 1 = .ok (.invokespecial 1, 3) := by decide +kernel
theorem d2_4 : decode prog_15_method_1_code 4 = .ok (.aload_n 0, 1) := by decide +kernel
theorem d2_5 : decode prog_15_method_1_code 5 = .ok (.aload_n 1, 1) := by decide +kernel
theorem d2_6 : decode prog_15_method_1_code 6 = .ok (.putfield 7, 3) := by decide +kernel
theorem d2_9 : decode prog_15_method_1_code 9 = .ok (.aload_n 0, 1) := by decide +kernel
theorem d2_10 : decode prog_15_method_1_code 10 = .ok (.aload_n 2, 1) := by decide +kernel
theorem d2_11 : decode prog_15_method_1_code 11 = .ok (.putfield 13, 3) := by decide +kernel
theorem d2_14 : decode prog_15_method_1_code 14 = .ok (.return_, 1) := by decide +kernel
theorem ef_2 (m : MethodId) (x0 : Addr) (x1 : Addr) (x2 : Addr) : entryFrame m #[(.ref x0), (.ref x1), (.ref x2)] 3 = mkF m 0 #[.val (.ref x0), .val (.ref x1), .val (.ref x2)] [] := by first | (simp [entryFrame, mkF, argsToLocals, Value.category]; done) | rfl
def Q2 (Z : State) (aa0 : Addr) (aa1 : Addr) (aa2 : Addr) (u_entries : Value) (u_text : Value) (h0 : Heap) (n0 : Nat) (v : Option Value) (h : Heap) (L : List Loc) : Prop := v = none ∧ Fr n0 L ∧ Keep h0 h [aa0] ∧ (Fld Z h aa0 "com/example/guarded_stream/guardedstream/model/SecurityLevel" "entries" "[I" (.ref aa1)) ∧ (Fld Z h aa0 "com/example/guarded_stream/guardedstream/model/SecurityLevel" "text" "Ljava/lang/String;" (.ref aa2))
set_option maxRecDepth 65536 in
set_option maxHeartbeats 40000000 in
theorem rm2 (l : Launch) (Z : State) (a0 : Array Value) (hw : ∀ d ∈ tables_1, d.before a0 Z = true) (ws : List Jvm.Cond) (aa0 : Addr) (aa1 : Addr) (aa2 : Addr) (u_entries : Value) (u_text : Value) (h0 : Heap) (n0 : Nat) (Z0 : n0 ≤ h0.size) (E_aa0 : Exa Z h0 aa0 "com/example/guarded_stream/guardedstream/model/SecurityLevel") (g_aa0 : n0 ≤ aa0) (F_aa0_entries : Fld Z h0 aa0 "com/example/guarded_stream/guardedstream/model/SecurityLevel" "entries" "[I" u_entries) (F_aa0_text : Fld Z h0 aa0 "com/example/guarded_stream/guardedstream/model/SecurityLevel" "text" "Ljava/lang/String;" u_text) :
    MetFree l (⟨"com/example/guarded_stream/guardedstream/model/SecurityLevel", "<init>", "([ILjava/lang/String;)V"⟩ : MethodName) (head1 (Jvm.Cond.code (⟨"com/example/guarded_stream/guardedstream/model/SecurityLevel", "<init>", "([ILjava/lang/String;)V"⟩ : MethodName) prog_15_method_1_code 3 none :: ws) ({ frames := 1, cells := 0, slots := 0, locals := 12 } : Room)) (fun a U => a = #[(.ref aa0), (.ref aa1), (.ref aa2)] ∧ Z.Warmed39 U.vm ∧ U.heap = h0) (fun _ _ _ _ _ => True) (fun _ U o U' => ∃ v L, o = .returned v ∧ Q2 Z aa0 aa1 aa2 u_entries u_text h0 n0 v U'.heap L ∧ FrameEnd U o U' L ({ frames := 1, cells := 0, slots := 0, locals := 12 } : Room).cells ({ frames := 1, cells := 0, slots := 0, locals := 12 } : Room).slots) := by
  refine MetFree.of_bodySF (plainFor_of_name pn_com_example_guarded_stream_guardedstream_model_SecurityLevel) hisR ?_
  intro p e s m args below meth c s₁ Bd hml0 hP hK
  obtain ⟨rfl, hZ, hh⟩ := hP
  have hx := Bd.exec
  have hby := Bd.bytes
  have hml : c.maxLocals = 3 := hml0
  have hown : s.vm.findClass "com/example/guarded_stream/guardedstream/model/SecurityLevel" = some m.cls := findClass_of_methodNamed Bd.named
  have hnm := (name_of_methodNamed Bd.named Bd.method).1
  have X0 : Stand p l e ({ frames := 1, cells := 0, slots := 0, locals := 12 } : Room) s m #[(.ref aa0), (.ref aa1), (.ref aa2)] below meth c s₁ [] 0 0 := Stand.of_body Bd
  have e0 : s₁.heap = h0 := by rw [← hh, Bd.state]; rfl
  have N0 := Fr.nil n0
  have pre0 : ∀ t, Steps p.tables e below (s₁.setTop (mkF m 0 #[.val (.ref aa0), .val (.ref aa1), .val (.ref aa2)] [])) t → Steps p.tables e below (s₁.setTop (entryFrame m #[(.ref aa0), (.ref aa1), (.ref aa2)] 3)) t := fun t k => castTop (ef_2 m aa0 aa1 aa2) k
  obtain ⟨T1, X1, e1, st1⟩ := initO X0 hx hZ hown (hw _ (List.mem_of_getElem? (i := 20) rfl)) (hw _ (List.mem_of_getElem? (i := 21) rfl)) (hw _ (List.mem_of_getElem? (i := 22) rfl)) e0 (g := (mkF m 1 #[.val (.ref aa0), .val (.ref aa1), .val (.ref aa2)] [(.ref aa0)])) rfl (by rw [hml]; rfl) rfl (hb hby d2_1) (by decide) (W := 0) (by show 2 * 0 + _ ≤ _; exact Nat.le_of_eq rfl) (by decide)
  obtain ⟨T2, h2, X2, e2, W2, st2⟩ := putF X1 hx hZ hown (host := "") (Or.inl (hw _ (List.mem_of_getElem? (i := 23) rfl))) Via.refl e1 F_aa0_entries E_aa0 (Or.inr ⟨(hw _ (List.mem_of_getElem? (i := 24) rfl)), rfl, hnm⟩) (hw _ (List.mem_of_getElem? (i := 7) rfl)) (ty := (.array .int)) (by decide) rfl rfl (g := (mkF m 6 #[.val (.ref aa0), .val (.ref aa1), .val (.ref aa2)] [(.ref aa1), (.ref aa0)])) rfl rfl (hb hby d2_6)
  have N2 := Fr.snoc X2 N0 g_aa0
  have Z2 : n0 ≤ h2.size := Nat.le_trans Z0 (Keep.of_wr W2).1
  have K2 : Keep h0 h2 [aa0] := (Keep.refl h0 [aa0]).wr W2 (Or.inl (List.mem_of_getElem? (i := 0) rfl))
  have F2 : Fld Z h2 aa0 "com/example/guarded_stream/guardedstream/model/SecurityLevel" "entries" "[I" (.ref aa1) := F_aa0_entries.same W2
  have E_3 : Exa Z h2 aa0 "com/example/guarded_stream/guardedstream/model/SecurityLevel" := (E_aa0.wr W2)
  have F_4 : Fld Z h2 aa0 "com/example/guarded_stream/guardedstream/model/SecurityLevel" "text" "Ljava/lang/String;" u_text := (F_aa0_text.other W2 (Or.inr (slot_ne (Or.inr (hw _ (List.mem_of_getElem? (i := 26) rfl))) (Or.inr (hw _ (List.mem_of_getElem? (i := 24) rfl))) (by decide) (t := (.object "java/lang/String")) (t' := (.array .int)) (by decide) (by decide))))
  obtain ⟨T5, h5, X5, e5, W5, st5⟩ := putF X2 hx hZ hown (host := "") (Or.inl (hw _ (List.mem_of_getElem? (i := 25) rfl))) Via.refl e2 F_4 E_3 (Or.inr ⟨(hw _ (List.mem_of_getElem? (i := 26) rfl)), rfl, hnm⟩) (hw _ (List.mem_of_getElem? (i := 7) rfl)) (ty := (.object "java/lang/String")) (by decide) rfl rfl (g := (mkF m 11 #[.val (.ref aa0), .val (.ref aa1), .val (.ref aa2)] [(.ref aa2), (.ref aa0)])) rfl rfl (hb hby d2_11)
  have N5 := Fr.snoc X5 N2 g_aa0
  have Z5 : n0 ≤ h5.size := Nat.le_trans Z2 (Keep.of_wr W5).1
  have K5 : Keep h0 h5 [aa0] := K2.wr W5 (Or.inl (List.mem_of_getElem? (i := 0) rfl))
  have F5 : Fld Z h5 aa0 "com/example/guarded_stream/guardedstream/model/SecurityLevel" "text" "Ljava/lang/String;" (.ref aa2) := F_4.same W5
  have F_6 : Fld Z h5 aa0 "com/example/guarded_stream/guardedstream/model/SecurityLevel" "entries" "[I" (.ref aa1) := (F2.other W5 (Or.inr (slot_ne (Or.inr (hw _ (List.mem_of_getElem? (i := 24) rfl))) (Or.inr (hw _ (List.mem_of_getElem? (i := 26) rfl))) (by decide) (t := (.array .int)) (t' := (.object "java/lang/String")) (by decide) (by decide))))
  obtain ⟨fs, hr, hrun, hended, hW, hsame⟩ := X5.leave (v := none) (fun _ => rfl)
  refine ⟨_, _, pre0 _ ?_, hrun, hended, _, _, rfl, ?_, ⟨_, rfl⟩, hW, hsame.mono (by decide) (by decide)⟩
  · show Steps p.tables e below (s₁.setTop (mkF m 0 #[.val (.ref aa0), .val (.ref aa1), .val (.ref aa2)] [])) _
    refine XS.aloadN X0.here hx rfl (hb hby d2_0) rfl rfl ?_
    show Steps p.tables e below (s₁.setTop (mkF m 1 #[.val (.ref aa0), .val (.ref aa1), .val (.ref aa2)] [(.ref aa0)])) _
    refine st1 _ ?_
    show Steps p.tables e below (T1.setTop (mkF m 4 #[.val (.ref aa0), .val (.ref aa1), .val (.ref aa2)] [])) _
    refine XS.aloadN X1.here hx rfl (hb hby d2_4) rfl rfl ?_
    show Steps p.tables e below (T1.setTop (mkF m 5 #[.val (.ref aa0), .val (.ref aa1), .val (.ref aa2)] [(.ref aa0)])) _
    refine XS.aloadN X1.here hx rfl (hb hby d2_5) rfl rfl ?_
    show Steps p.tables e below (T1.setTop (mkF m 6 #[.val (.ref aa0), .val (.ref aa1), .val (.ref aa2)] [(.ref aa1), (.ref aa0)])) _
    refine st2 _ ?_
    show Steps p.tables e below (T2.setTop (mkF m 9 #[.val (.ref aa0), .val (.ref aa1), .val (.ref aa2)] [])) _
    refine XS.aloadN X2.here hx rfl (hb hby d2_9) rfl rfl ?_
    show Steps p.tables e below (T2.setTop (mkF m 10 #[.val (.ref aa0), .val (.ref aa1), .val (.ref aa2)] [(.ref aa0)])) _
    refine XS.aloadN X2.here hx rfl (hb hby d2_10) rfl rfl ?_
    show Steps p.tables e below (T2.setTop (mkF m 11 #[.val (.ref aa0), .val (.ref aa1), .val (.ref aa2)] [(.ref aa2), (.ref aa0)])) _
    refine st5 _ ?_
    show Steps p.tables e below (T5.setTop (mkF m 14 #[.val (.ref aa0), .val (.ref aa1), .val (.ref aa2)] [])) _
    exact X5.returnOut hx Bd.returns (hb hby d2_14) hr
  · show Q2 Z aa0 aa1 aa2 u_entries u_text h0 n0 _ T5.heap _
    rw [e5]
    exact ⟨rfl, N5, K5, F_6, F5⟩
theorem d4_0 : decode method_3_code 0 = .ok (.iload_n 1, 1) := by decide +kernel
theorem d4_1 : decode method_3_code 1 = .ok (.iconst (-1), 1) := by decide +kernel
theorem d4_2 : decode method_3_code 2 = .ok (.if_icmp .ne 5, 3) := by decide +kernel
theorem d4_5 : decode method_3_code 5 = .ok (.iconst 1, 1) := by decide +kernel
theorem d4_6 : decode method_3_code 6 = .ok (.ireturn, 1) := by decide +kernel
theorem d4_7 : decode method_3_code 7 = .ok (.iload_n 0, 1) := by decide +kernel
theorem d4_8 : decode method_3_code 8 = .ok (.bipush (-2), 2) := by decide +kernel
theorem d4_10 : decode method_3_code 10 = .ok (.if_icmp .ne 5, 3) := by decide +kernel
theorem d4_13 : decode method_3_code 13 = .ok (.iconst 1, 1) := by decide +kernel
theorem d4_14 : decode method_3_code 14 = .ok (.ireturn, 1) := by decide +kernel
theorem d4_15 : decode method_3_code 15 = .ok (.iload_n 1, 1) := by decide +kernel
theorem d4_16 : decode method_3_code 16 = .ok (.iload_n 0, 1) := by decide +kernel
theorem d4_17 : decode method_3_code 17 = .ok (.if_icmp .ne 7, 3) := by decide +kernel
theorem d4_20 : decode method_3_code 20 = .ok (.iconst 1, 1) := by decide +kernel
theorem d4_21 : decode method_3_code 21 = .ok (.goto 4, 3) := by decide +kernel
theorem d4_24 : decode method_3_code 24 = .ok (.iconst 0, 1) := by decide +kernel
theorem d4_25 : decode method_3_code 25 = .ok (.ireturn, 1) := by decide +kernel
theorem ef_4 (m : MethodId) (x0 : Int32) (x1 : Int32) : entryFrame m #[(.int x0), (.int x1)] 2 = mkF m 0 #[.val (.int x0), .val (.int x1)] [] := by first | (simp [entryFrame, mkF, argsToLocals, Value.category]; done) | rfl
def Q4 (Z : State) (pp1 : Int32) (pp2 : Int32) (h0 : Heap) (n0 : Nat) (v : Option Value) (h : Heap) (L : List Loc) : Prop := v = some (.int (own_okv pp1 pp2)) ∧ Fr n0 L ∧ h = h0
set_option maxRecDepth 65536 in
set_option maxHeartbeats 40000000 in
theorem rm4 (l : Launch) (Z : State) (a0 : Array Value) (hw : ∀ d ∈ tables_1, d.before a0 Z = true) (ws : List Jvm.Cond) (pp1 : Int32) (pp2 : Int32) (h0 : Heap) (n0 : Nat) (Z0 : n0 ≤ h0.size) :
    MetFree l (⟨"com/example/guarded_stream/guardedstream/model/SecurityLevelDominatesPinLaw", "ok", "(II)Z"⟩ : MethodName) (head1 (Jvm.Cond.code (⟨"com/example/guarded_stream/guardedstream/model/SecurityLevelDominatesPinLaw", "ok", "(II)Z"⟩ : MethodName) method_3_code 2 (some .boolean) :: ws) ({ frames := 0, cells := 0, slots := 0, locals := 0 } : Room)) (fun a U => a = #[(.int pp1), (.int pp2)] ∧ Z.Warmed39 U.vm ∧ U.heap = h0) (fun _ _ _ _ _ => True) (fun _ U o U' => ∃ v L, o = .returned v ∧ Q4 Z pp1 pp2 h0 n0 v U'.heap L ∧ FrameEnd U o U' L ({ frames := 0, cells := 0, slots := 0, locals := 0 } : Room).cells ({ frames := 0, cells := 0, slots := 0, locals := 0 } : Room).slots) := by
  refine MetFree.of_bodySF (plainFor_of_name pn_com_example_guarded_stream_guardedstream_model_SecurityLevelDominatesPinLaw) hisR ?_
  intro p e s m args below meth c s₁ Bd hml0 hP hK
  obtain ⟨rfl, hZ, hh⟩ := hP
  have hx := Bd.exec
  have hby := Bd.bytes
  have hml : c.maxLocals = 2 := hml0
  have hown : s.vm.findClass "com/example/guarded_stream/guardedstream/model/SecurityLevelDominatesPinLaw" = some m.cls := findClass_of_methodNamed Bd.named
  have hnm := (name_of_methodNamed Bd.named Bd.method).1
  have X0 : Stand p l e ({ frames := 0, cells := 0, slots := 0, locals := 0 } : Room) s m #[(.int pp1), (.int pp2)] below meth c s₁ [] 0 0 := Stand.of_body Bd
  have e0 : s₁.heap = h0 := by rw [← hh, Bd.state]; rfl
  have N0 := Fr.nil n0
  have pre0 : ∀ t, Steps p.tables e below (s₁.setTop (mkF m 0 #[.val (.int pp1), .val (.int pp2)] [])) t → Steps p.tables e below (s₁.setTop (entryFrame m #[(.int pp1), (.int pp2)] 2)) t := fun t k => castTop (ef_4 m pp1 pp2) k
  have pre1 : ∀ t, Steps p.tables e below (s₁.setTop (mkF m 2 #[.val (.int pp1), .val (.int pp2)] [(.int (-1 : Int32)), (.int pp2)])) t → Steps p.tables e below (s₁.setTop (entryFrame m #[(.int pp1), (.int pp2)] 2)) t := fun t kt => pre0 t (by
    show Steps p.tables e below (s₁.setTop (mkF m 0 #[.val (.int pp1), .val (.int pp2)] [])) _
    refine XS.iloadN X0.here hx rfl (hb hby d4_0) rfl ?_
    show Steps p.tables e below (s₁.setTop (mkF m 1 #[.val (.int pp1), .val (.int pp2)] [(.int pp2)])) _
    refine XS.iconst X0.here hx rfl (hb hby d4_1) ?_
    exact kt)
  by_cases hc2 : pp2 = (-1 : Int32)
  · skip
    obtain ⟨fs, hr, hrun, hended, hW, hsame⟩ := X0.leave (v := some (.int (1 : Int32))) (fun h => by rw [Bd.returns] at h; cases h)
    refine ⟨_, _, pre1 _ ?_, hrun, hended, _, _, rfl, ?_, ⟨_, rfl⟩, hW, hsame.mono (by decide) (by decide)⟩
    · show Steps p.tables e below (s₁.setTop (mkF m 2 #[.val (.int pp1), .val (.int pp2)] [(.int (-1 : Int32)), (.int pp2)])) _
      refine XS.icmpNo X0.here hx rfl (hb hby d4_2) rfl (teq hc2).2 ?_
      show Steps p.tables e below (s₁.setTop (mkF m 5 #[.val (.int pp1), .val (.int pp2)] [])) _
      refine XS.iconst X0.here hx rfl (hb hby d4_5) ?_
      show Steps p.tables e below (s₁.setTop (mkF m 6 #[.val (.int pp1), .val (.int pp2)] [(.int (1 : Int32))])) _
      exact retN X0 hx (t := .boolean) Bd.returns (by simp) (hb hby d4_6) hr
    · show Q4 Z pp1 pp2 h0 n0 _ s₁.heap _
      rw [e0]
      exact ⟨(by rw [own_okv_pos (Or.inl hc2)]), N0, rfl⟩
  · skip
    have pre2 : ∀ t, Steps p.tables e below (s₁.setTop (mkF m 10 #[.val (.int pp1), .val (.int pp2)] [(.int (-2 : Int32)), (.int pp1)])) t → Steps p.tables e below (s₁.setTop (entryFrame m #[(.int pp1), (.int pp2)] 2)) t := fun t kt => pre1 t (by
      show Steps p.tables e below (s₁.setTop (mkF m 2 #[.val (.int pp1), .val (.int pp2)] [(.int (-1 : Int32)), (.int pp2)])) _
      refine XS.icmpYes X0.here hx rfl (pc0 := 2) (pc' := 7) rfl (hb hby d4_2) rfl (feq hc2).2 (by decide) (by decide) ?_
      show Steps p.tables e below (s₁.setTop (mkF m 7 #[.val (.int pp1), .val (.int pp2)] [])) _
      refine XS.iloadN X0.here hx rfl (hb hby d4_7) rfl ?_
      show Steps p.tables e below (s₁.setTop (mkF m 8 #[.val (.int pp1), .val (.int pp2)] [(.int pp1)])) _
      refine XS.bipush X0.here hx rfl (hb hby d4_8) ?_
      exact kt)
    by_cases hc10 : pp1 = (-2 : Int32)
    · skip
      obtain ⟨fs, hr, hrun, hended, hW, hsame⟩ := X0.leave (v := some (.int (1 : Int32))) (fun h => by rw [Bd.returns] at h; cases h)
      refine ⟨_, _, pre2 _ ?_, hrun, hended, _, _, rfl, ?_, ⟨_, rfl⟩, hW, hsame.mono (by decide) (by decide)⟩
      · show Steps p.tables e below (s₁.setTop (mkF m 10 #[.val (.int pp1), .val (.int pp2)] [(.int (-2 : Int32)), (.int pp1)])) _
        refine XS.icmpNo X0.here hx rfl (hb hby d4_10) rfl (teq hc10).2 ?_
        show Steps p.tables e below (s₁.setTop (mkF m 13 #[.val (.int pp1), .val (.int pp2)] [])) _
        refine XS.iconst X0.here hx rfl (hb hby d4_13) ?_
        show Steps p.tables e below (s₁.setTop (mkF m 14 #[.val (.int pp1), .val (.int pp2)] [(.int (1 : Int32))])) _
        exact retN X0 hx (t := .boolean) Bd.returns (by simp) (hb hby d4_14) hr
      · show Q4 Z pp1 pp2 h0 n0 _ s₁.heap _
        rw [e0]
        exact ⟨(by rw [own_okv_pos (Or.inr (Or.inl hc10))]), N0, rfl⟩
    · skip
      have pre3 : ∀ t, Steps p.tables e below (s₁.setTop (mkF m 17 #[.val (.int pp1), .val (.int pp2)] [(.int pp1), (.int pp2)])) t → Steps p.tables e below (s₁.setTop (entryFrame m #[(.int pp1), (.int pp2)] 2)) t := fun t kt => pre2 t (by
        show Steps p.tables e below (s₁.setTop (mkF m 10 #[.val (.int pp1), .val (.int pp2)] [(.int (-2 : Int32)), (.int pp1)])) _
        refine XS.icmpYes X0.here hx rfl (pc0 := 10) (pc' := 15) rfl (hb hby d4_10) rfl (feq hc10).2 (by decide) (by decide) ?_
        show Steps p.tables e below (s₁.setTop (mkF m 15 #[.val (.int pp1), .val (.int pp2)] [])) _
        refine XS.iloadN X0.here hx rfl (hb hby d4_15) rfl ?_
        show Steps p.tables e below (s₁.setTop (mkF m 16 #[.val (.int pp1), .val (.int pp2)] [(.int pp2)])) _
        refine XS.iloadN X0.here hx rfl (hb hby d4_16) rfl ?_
        exact kt)
      by_cases hc17 : pp2 = pp1
      · skip
        obtain ⟨fs, hr, hrun, hended, hW, hsame⟩ := X0.leave (v := some (.int (1 : Int32))) (fun h => by rw [Bd.returns] at h; cases h)
        refine ⟨_, _, pre3 _ ?_, hrun, hended, _, _, rfl, ?_, ⟨_, rfl⟩, hW, hsame.mono (by decide) (by decide)⟩
        · show Steps p.tables e below (s₁.setTop (mkF m 17 #[.val (.int pp1), .val (.int pp2)] [(.int pp1), (.int pp2)])) _
          refine XS.icmpNo X0.here hx rfl (hb hby d4_17) rfl (teq hc17).2 ?_
          show Steps p.tables e below (s₁.setTop (mkF m 20 #[.val (.int pp1), .val (.int pp2)] [])) _
          refine XS.iconst X0.here hx rfl (hb hby d4_20) ?_
          show Steps p.tables e below (s₁.setTop (mkF m 21 #[.val (.int pp1), .val (.int pp2)] [(.int (1 : Int32))])) _
          refine XS.goto X0.here hx rfl (pc0 := 21) (pc' := 25) rfl (hb hby d4_21) (by decide) (by decide) ?_
          show Steps p.tables e below (s₁.setTop (mkF m 25 #[.val (.int pp1), .val (.int pp2)] [(.int (1 : Int32))])) _
          exact retN X0 hx (t := .boolean) Bd.returns (by simp) (hb hby d4_25) hr
        · show Q4 Z pp1 pp2 h0 n0 _ s₁.heap _
          rw [e0]
          exact ⟨(by rw [own_okv_pos (Or.inr (Or.inr hc17))]), N0, rfl⟩
      · skip
        obtain ⟨fs, hr, hrun, hended, hW, hsame⟩ := X0.leave (v := some (.int (0 : Int32))) (fun h => by rw [Bd.returns] at h; cases h)
        refine ⟨_, _, pre3 _ ?_, hrun, hended, _, _, rfl, ?_, ⟨_, rfl⟩, hW, hsame.mono (by decide) (by decide)⟩
        · show Steps p.tables e below (s₁.setTop (mkF m 17 #[.val (.int pp1), .val (.int pp2)] [(.int pp1), (.int pp2)])) _
          refine XS.icmpYes X0.here hx rfl (pc0 := 17) (pc' := 24) rfl (hb hby d4_17) rfl (feq hc17).2 (by decide) (by decide) ?_
          show Steps p.tables e below (s₁.setTop (mkF m 24 #[.val (.int pp1), .val (.int pp2)] [])) _
          refine XS.iconst X0.here hx rfl (hb hby d4_24) ?_
          show Steps p.tables e below (s₁.setTop (mkF m 25 #[.val (.int pp1), .val (.int pp2)] [(.int (0 : Int32))])) _
          exact retN X0 hx (t := .boolean) Bd.returns (by simp) (hb hby d4_25) hr
        · show Q4 Z pp1 pp2 h0 n0 _ s₁.heap _
          rw [e0]
          exact ⟨(by rw [own_okv_neg (fun h => h.elim hc2 (fun h => h.elim hc10 hc17))]), N0, rfl⟩
theorem d5_0 : decode prog_15_method_2_code 0 = .ok (.iconst 0, 1) := by decide +kernel
theorem d5_1 : decode prog_15_method_2_code 1 = .ok (.istore_n 2, 1) := by decide +kernel
theorem d5_2 : decode prog_15_method_2_code 2 = .ok (.iload_n 2, 1) := by decide +kernel
theorem d5_3 : decode prog_15_method_2_code 3 = .ok (.aload_n 0, 1) := by decide +kernel
theorem d5_4 : decode prog_15_method_2_code 4 = .ok (.getfield 7, 3) := by decide +kernel
theorem d5_7 : decode prog_15_method_2_code 7 = .ok (.arraylength, 1) := by decide +kernel
theorem d5_8 : decode prog_15_method_2_code 8 = .ok (.if_icmp .ge 44, 3) := by decide +kernel
theorem d5_11 : decode prog_15_method_2_code 11 = .ok (.aload_n 1, 1) := by decide +kernel
theorem d5_12 : decode prog_15_method_2_code 12 = .ok (.getfield 7, 3) := by decide +kernel
theorem d5_15 : decode prog_15_method_2_code 15 = .ok (.iload_n 2, 1) := by decide +kernel
theorem d5_16 : decode prog_15_method_2_code 16 = .ok (.iaload, 1) := by decide +kernel
theorem d5_17 : decode prog_15_method_2_code 17 = .ok (.istore_n 3, 1) := by decide +kernel
theorem d5_18 : decode prog_15_method_2_code 18 = .ok (.iload_n 3, 1) := by decide +kernel
theorem d5_19 : decode prog_15_method_2_code 19 = .ok (.iconst (-1), 1) := by decide +kernel
theorem d5_20 : decode prog_15_method_2_code 20 = .ok (.if_icmp .eq 26, 3) := by decide +kernel
theorem d5_23 : decode prog_15_method_2_code 23 = .ok (.aload_n 0, 1) := by decide +kernel
theorem d5_24 : decode prog_15_method_2_code 24 = .ok (.getfield 7, 3) := by decide +kernel
theorem d5_27 : decode prog_15_method_2_code 27 = .ok (.iload_n 2, 1) := by decide +kernel
theorem d5_28 : decode prog_15_method_2_code 28 = .ok (.iaload, 1) := by decide +kernel
theorem d5_29 : decode prog_15_method_2_code 29 = .ok (.bipush (-2), 2) := by decide +kernel
theorem d5_31 : decode prog_15_method_2_code 31 = .ok (.if_icmp .eq 15, 3) := by decide +kernel
theorem d5_34 : decode prog_15_method_2_code 34 = .ok (.iload_n 3, 1) := by decide +kernel
theorem d5_35 : decode prog_15_method_2_code 35 = .ok (.aload_n 0, 1) := by decide +kernel
theorem d5_36 : decode prog_15_method_2_code 36 = .ok (.getfield 7, 3) := by decide +kernel
theorem d5_39 : decode prog_15_method_2_code 39 = .ok (.iload_n 2, 1) := by decide +kernel
theorem d5_40 : decode prog_15_method_2_code 40 = .ok (.iaload, 1) := by decide +kernel
theorem d5_41 : decode prog_15_method_2_code 41 = .ok (.if_icmp .eq 5, 3) := by decide +kernel
theorem d5_44 : decode prog_15_method_2_code 44 = .ok (.iconst 0, 1) := by decide +kernel
theorem d5_45 : decode prog_15_method_2_code 45 = .ok (.ireturn, 1) := by decide +kernel
theorem d5_46 : decode prog_15_method_2_code 46 = .ok (.iinc 2 1, 3) := by decide +kernel
theorem d5_49 : decode prog_15_method_2_code 49 = .ok (.goto (-47), 3) := by decide +kernel
theorem d5_52 : decode prog_15_method_2_code 52 = .ok (.iconst 1, 1) := by decide +kernel
theorem d5_53 : decode prog_15_method_2_code 53 = .ok (.ireturn, 1) := by decide +kernel
theorem ef_5 (m : MethodId) (x0 : Addr) (x1 : Addr) : entryFrame m #[(.ref x0), (.ref x1)] 4 = mkF m 0 #[.val (.ref x0), .val (.ref x1), .unset, .unset] [] := by first | (simp [entryFrame, mkF, argsToLocals, Value.category]; done) | rfl
def Q5 (Z : State) (aa0 : Addr) (aa1 : Addr) (ca : Addr) (la : Addr) (kc : ClassId) (kl : ClassId) (ce0 : Int32) (ce1 : Int32) (ce2 : Int32) (le0 : Int32) (le1 : Int32) (le2 : Int32) (h0 : Heap) (n0 : Nat) (v : Option Value) (h : Heap) (L : List Loc) : Prop := v = some (.int (own_domv ce0 ce1 ce2 le0 le1 le2)) ∧ Fr n0 L ∧ h = h0
set_option maxRecDepth 65536 in
set_option maxHeartbeats 40000000 in
theorem rm5 (l : Launch) (Z : State) (a0 : Array Value) (hw : ∀ d ∈ tables_1, d.before a0 Z = true) (ws : List Jvm.Cond) (aa0 : Addr) (aa1 : Addr) (ca : Addr) (la : Addr) (kc : ClassId) (kl : ClassId) (ce0 : Int32) (ce1 : Int32) (ce2 : Int32) (le0 : Int32) (le1 : Int32) (le2 : Int32) (h0 : Heap) (n0 : Nat) (Z0 : n0 ≤ h0.size) (F_aa0_entries : Fld Z h0 aa0 "com/example/guarded_stream/guardedstream/model/SecurityLevel" "entries" "[I" (.ref ca)) (F_aa1_entries : Fld Z h0 aa1 "com/example/guarded_stream/guardedstream/model/SecurityLevel" "entries" "[I" (.ref la)) (V_ca : Arv Z h0 ca kc .int (3 : Int32) [(.int ce0), (.int ce1), (.int ce2)] (.int (0 : Int32))) (V_la : Arv Z h0 la kl .int (3 : Int32) [(.int le0), (.int le1), (.int le2)] (.int (0 : Int32))) :
    MetFree l (⟨"com/example/guarded_stream/guardedstream/model/SecurityLevel", "dominates", "(Lcom/example/guarded_stream/guardedstream/model/SecurityLevel;)Z"⟩ : MethodName) (head1 (Jvm.Cond.code (⟨"com/example/guarded_stream/guardedstream/model/SecurityLevel", "dominates", "(Lcom/example/guarded_stream/guardedstream/model/SecurityLevel;)Z"⟩ : MethodName) prog_15_method_2_code 4 (some .boolean) :: ws) ({ frames := 0, cells := 0, slots := 0, locals := 0 } : Room)) (fun a U => a = #[(.ref aa0), (.ref aa1)] ∧ Z.Warmed39 U.vm ∧ U.heap = h0) (fun _ _ _ _ _ => True) (fun _ U o U' => ∃ v L, o = .returned v ∧ Q5 Z aa0 aa1 ca la kc kl ce0 ce1 ce2 le0 le1 le2 h0 n0 v U'.heap L ∧ FrameEnd U o U' L ({ frames := 0, cells := 0, slots := 0, locals := 0 } : Room).cells ({ frames := 0, cells := 0, slots := 0, locals := 0 } : Room).slots) := by
  refine MetFree.of_bodySF (plainFor_of_name pn_com_example_guarded_stream_guardedstream_model_SecurityLevel) hisR ?_
  intro p e s m args below meth c s₁ Bd hml0 hP hK
  obtain ⟨rfl, hZ, hh⟩ := hP
  have hx := Bd.exec
  have hby := Bd.bytes
  have hml : c.maxLocals = 4 := hml0
  have hown : s.vm.findClass "com/example/guarded_stream/guardedstream/model/SecurityLevel" = some m.cls := findClass_of_methodNamed Bd.named
  have hnm := (name_of_methodNamed Bd.named Bd.method).1
  have X0 : Stand p l e ({ frames := 0, cells := 0, slots := 0, locals := 0 } : Room) s m #[(.ref aa0), (.ref aa1)] below meth c s₁ [] 0 0 := Stand.of_body Bd
  have e0 : s₁.heap = h0 := by rw [← hh, Bd.state]; rfl
  have N0 := Fr.nil n0
  have pre0 : ∀ t, Steps p.tables e below (s₁.setTop (mkF m 0 #[.val (.ref aa0), .val (.ref aa1), .unset, .unset] [])) t → Steps p.tables e below (s₁.setTop (entryFrame m #[(.ref aa0), (.ref aa1)] 4)) t := fun t k => castTop (ef_5 m aa0 aa1) k
  have pre1 : ∀ t, Steps p.tables e below (s₁.setTop (mkF m 2 #[.val (.ref aa0), .val (.ref aa1), .val (.int (0 : Int32)), .unset] [])) t → Steps p.tables e below (s₁.setTop (entryFrame m #[(.ref aa0), (.ref aa1)] 4)) t := fun t kt => pre0 t (by
    show Steps p.tables e below (s₁.setTop (mkF m 0 #[.val (.ref aa0), .val (.ref aa1), .unset, .unset] [])) _
    refine XS.iconst X0.here hx rfl (hb hby d5_0) ?_
    show Steps p.tables e below (s₁.setTop (mkF m 1 #[.val (.ref aa0), .val (.ref aa1), .unset, .unset] [(.int (0 : Int32))])) _
    refine XS.istoreN X0.here hx rfl (hb hby d5_1) rfl (l' := #[.val (.ref aa0), .val (.ref aa1), .val (.int (0 : Int32)), .unset]) rfl ?_
    exact kt)
  by_cases hk0 : own_ok ce0 le0
  · skip
    obtain ⟨T2, L2, X2, e2, N2, pre2⟩ : ∃ (T' : State) (L' : List Loc), Stand p l e ({ frames := 0, cells := 0, slots := 0, locals := 0 } : Room) s m #[(.ref aa0), (.ref aa1)] below meth c T' L' 0 0 ∧ T'.heap = h0 ∧ Fr n0 L' ∧ ∀ t, Steps p.tables e below (T'.setTop (mkF m 2 #[.val (.ref aa0), .val (.ref aa1), .val (.int (1 : Int32)), .val (.int le0)] [])) t → Steps p.tables e below (s₁.setTop (entryFrame m #[(.ref aa0), (.ref aa1)] 4)) t := by
      obtain ⟨T3, X3, e3, st3⟩ := getF X0 hx hZ hown (host := "") (Or.inl (hw _ (List.mem_of_getElem? (i := 23) rfl))) Via.refl e0 F_aa0_entries (g := (mkF m 4 #[.val (.ref aa0), .val (.ref aa1), .val (.int (0 : Int32)), .unset] [(.ref aa0), (.int (0 : Int32))])) rfl rfl (hb hby d5_4)
      obtain ⟨cl_4, Ar_4, -, Sz_4, Nn_4, -, -⟩ := id V_ca
      have hc8 : (0 : Int32) < (3 : Int32) := by decide
      obtain ⟨T5, X5, e5, st5⟩ := getF X3 hx hZ hown (host := "") (Or.inl (hw _ (List.mem_of_getElem? (i := 23) rfl))) Via.refl e3 F_aa1_entries (g := (mkF m 12 #[.val (.ref aa0), .val (.ref aa1), .val (.int (0 : Int32)), .unset] [(.ref aa1)])) rfl rfl (hb hby d5_12)
      obtain ⟨cl_6, Ar_6, qq_6, Sz_6, Nn_6, Hh_6, Gg_6⟩ := id V_la
      have hin_6 : ¬ ((0 : Int32) < 0 ∨ cl_6.slots.size ≤ ((0 : Int32)).toNatClampNeg) := inb_of Sz_6 ⟨by decide, by decide⟩
      have hat_6 : cl_6.slots[((0 : Int32)).toNatClampNeg]? = some (.int le0) := Has.at Hh_6 hin_6 rfl
      have pre7 : ∀ t, Steps p.tables e below (T5.setTop (mkF m 20 #[.val (.ref aa0), .val (.ref aa1), .val (.int (0 : Int32)), .val (.int le0)] [(.int (-1 : Int32)), (.int le0)])) t → Steps p.tables e below (s₁.setTop (entryFrame m #[(.ref aa0), (.ref aa1)] 4)) t := fun t kt => pre1 t (by
        show Steps p.tables e below (s₁.setTop (mkF m 2 #[.val (.ref aa0), .val (.ref aa1), .val (.int (0 : Int32)), .unset] [])) _
        refine XS.iloadN X0.here hx rfl (hb hby d5_2) rfl ?_
        show Steps p.tables e below (s₁.setTop (mkF m 3 #[.val (.ref aa0), .val (.ref aa1), .val (.int (0 : Int32)), .unset] [(.int (0 : Int32))])) _
        refine XS.aloadN X0.here hx rfl (hb hby d5_3) rfl rfl ?_
        show Steps p.tables e below (s₁.setTop (mkF m 4 #[.val (.ref aa0), .val (.ref aa1), .val (.int (0 : Int32)), .unset] [(.ref aa0), (.int (0 : Int32))])) _
        refine st3 _ ?_
        show Steps p.tables e below (T3.setTop (mkF m 7 #[.val (.ref aa0), .val (.ref aa1), .val (.int (0 : Int32)), .unset] [(.ref ca), (.int (0 : Int32))])) _
        refine X3.arraylength hx (by rw [e3]; exact Ar_4.1) (State.isArrayOf_alike hZ.alike Ar_4.2.1) (g := (mkF m 7 #[.val (.ref aa0), .val (.ref aa1), .val (.int (0 : Int32)), .unset] [(.ref ca), (.int (0 : Int32))])) rfl rfl (hb hby d5_7) _ ?_
        rw [len_of Sz_4 Nn_4]
        show Steps p.tables e below (T3.setTop (mkF m 8 #[.val (.ref aa0), .val (.ref aa1), .val (.int (0 : Int32)), .unset] [(.int (3 : Int32)), (.int (0 : Int32))])) _
        refine XS.icmpNo X3.here hx rfl (hb hby d5_8) rfl (tlt hc8).2.1 ?_
        show Steps p.tables e below (T3.setTop (mkF m 11 #[.val (.ref aa0), .val (.ref aa1), .val (.int (0 : Int32)), .unset] [])) _
        refine XS.aloadN X3.here hx rfl (hb hby d5_11) rfl rfl ?_
        show Steps p.tables e below (T3.setTop (mkF m 12 #[.val (.ref aa0), .val (.ref aa1), .val (.int (0 : Int32)), .unset] [(.ref aa1)])) _
        refine st5 _ ?_
        show Steps p.tables e below (T5.setTop (mkF m 15 #[.val (.ref aa0), .val (.ref aa1), .val (.int (0 : Int32)), .unset] [(.ref la)])) _
        refine XS.iloadN X5.here hx rfl (hb hby d5_15) rfl ?_
        show Steps p.tables e below (T5.setTop (mkF m 16 #[.val (.ref aa0), .val (.ref aa1), .val (.int (0 : Int32)), .unset] [(.int (0 : Int32)), (.ref la)])) _
        refine X5.iaload hx (j := (0 : Int32)) (v := (.int le0)) (by rw [e5]; exact Ar_6.1) (State.isArrayOf_alike hZ.alike Ar_6.2.1) Ar_6.2.2 hin_6 hat_6 (g := (mkF m 16 #[.val (.ref aa0), .val (.ref aa1), .val (.int (0 : Int32)), .unset] [(.int (0 : Int32)), (.ref la)])) rfl rfl (hb hby d5_16) _ ?_
        show Steps p.tables e below (T5.setTop (mkF m 17 #[.val (.ref aa0), .val (.ref aa1), .val (.int (0 : Int32)), .unset] [(.int le0)])) _
        refine XS.istoreN X5.here hx rfl (hb hby d5_17) rfl (l' := #[.val (.ref aa0), .val (.ref aa1), .val (.int (0 : Int32)), .val (.int le0)]) rfl ?_
        show Steps p.tables e below (T5.setTop (mkF m 18 #[.val (.ref aa0), .val (.ref aa1), .val (.int (0 : Int32)), .val (.int le0)] [])) _
        refine XS.iloadN X5.here hx rfl (hb hby d5_18) rfl ?_
        show Steps p.tables e below (T5.setTop (mkF m 19 #[.val (.ref aa0), .val (.ref aa1), .val (.int (0 : Int32)), .val (.int le0)] [(.int le0)])) _
        refine XS.iconst X5.here hx rfl (hb hby d5_19) ?_
        exact kt)
      by_cases hc20 : le0 = (-1 : Int32)
      · skip
        exact ⟨_, _, X5, e5, N0, fun t kt => pre7 t (by
            show Steps p.tables e below (T5.setTop (mkF m 20 #[.val (.ref aa0), .val (.ref aa1), .val (.int (0 : Int32)), .val (.int le0)] [(.int (-1 : Int32)), (.int le0)])) _
            refine XS.icmpYes X5.here hx rfl (pc0 := 20) (pc' := 46) rfl (hb hby d5_20) rfl (teq hc20).1 (by decide) (by decide) ?_
            show Steps p.tables e below (T5.setTop (mkF m 46 #[.val (.ref aa0), .val (.ref aa1), .val (.int (0 : Int32)), .val (.int le0)] [])) _
            refine XS.iinc X5.here hx rfl (hb hby d5_46) rfl (l' := #[.val (.ref aa0), .val (.ref aa1), .val (.int (1 : Int32)), .val (.int le0)]) rfl ?_
            show Steps p.tables e below (T5.setTop (mkF m 49 #[.val (.ref aa0), .val (.ref aa1), .val (.int (1 : Int32)), .val (.int le0)] [])) _
            refine XS.goto X5.here hx rfl (pc0 := 49) (pc' := 2) rfl (hb hby d5_49) (by decide) (by decide) ?_
            exact kt)⟩
      · skip
        obtain ⟨T8, X8, e8, st8⟩ := getF X5 hx hZ hown (host := "") (Or.inl (hw _ (List.mem_of_getElem? (i := 23) rfl))) Via.refl e5 F_aa0_entries (g := (mkF m 24 #[.val (.ref aa0), .val (.ref aa1), .val (.int (0 : Int32)), .val (.int le0)] [(.ref aa0)])) rfl rfl (hb hby d5_24)
        obtain ⟨cl_9, Ar_9, qq_9, Sz_9, Nn_9, Hh_9, Gg_9⟩ := id V_ca
        have hin_9 : ¬ ((0 : Int32) < 0 ∨ cl_9.slots.size ≤ ((0 : Int32)).toNatClampNeg) := inb_of Sz_9 ⟨by decide, by decide⟩
        have hat_9 : cl_9.slots[((0 : Int32)).toNatClampNeg]? = some (.int ce0) := Has.at Hh_9 hin_9 rfl
        have pre10 : ∀ t, Steps p.tables e below (T8.setTop (mkF m 31 #[.val (.ref aa0), .val (.ref aa1), .val (.int (0 : Int32)), .val (.int le0)] [(.int (-2 : Int32)), (.int ce0)])) t → Steps p.tables e below (s₁.setTop (entryFrame m #[(.ref aa0), (.ref aa1)] 4)) t := fun t kt => pre7 t (by
          show Steps p.tables e below (T5.setTop (mkF m 20 #[.val (.ref aa0), .val (.ref aa1), .val (.int (0 : Int32)), .val (.int le0)] [(.int (-1 : Int32)), (.int le0)])) _
          refine XS.icmpNo X5.here hx rfl (hb hby d5_20) rfl (feq hc20).1 ?_
          show Steps p.tables e below (T5.setTop (mkF m 23 #[.val (.ref aa0), .val (.ref aa1), .val (.int (0 : Int32)), .val (.int le0)] [])) _
          refine XS.aloadN X5.here hx rfl (hb hby d5_23) rfl rfl ?_
          show Steps p.tables e below (T5.setTop (mkF m 24 #[.val (.ref aa0), .val (.ref aa1), .val (.int (0 : Int32)), .val (.int le0)] [(.ref aa0)])) _
          refine st8 _ ?_
          show Steps p.tables e below (T8.setTop (mkF m 27 #[.val (.ref aa0), .val (.ref aa1), .val (.int (0 : Int32)), .val (.int le0)] [(.ref ca)])) _
          refine XS.iloadN X8.here hx rfl (hb hby d5_27) rfl ?_
          show Steps p.tables e below (T8.setTop (mkF m 28 #[.val (.ref aa0), .val (.ref aa1), .val (.int (0 : Int32)), .val (.int le0)] [(.int (0 : Int32)), (.ref ca)])) _
          refine X8.iaload hx (j := (0 : Int32)) (v := (.int ce0)) (by rw [e8]; exact Ar_9.1) (State.isArrayOf_alike hZ.alike Ar_9.2.1) Ar_9.2.2 hin_9 hat_9 (g := (mkF m 28 #[.val (.ref aa0), .val (.ref aa1), .val (.int (0 : Int32)), .val (.int le0)] [(.int (0 : Int32)), (.ref ca)])) rfl rfl (hb hby d5_28) _ ?_
          show Steps p.tables e below (T8.setTop (mkF m 29 #[.val (.ref aa0), .val (.ref aa1), .val (.int (0 : Int32)), .val (.int le0)] [(.int ce0)])) _
          refine XS.bipush X8.here hx rfl (hb hby d5_29) ?_
          exact kt)
        by_cases hc31 : ce0 = (-2 : Int32)
        · skip
          exact ⟨_, _, X8, e8, N0, fun t kt => pre10 t (by
              show Steps p.tables e below (T8.setTop (mkF m 31 #[.val (.ref aa0), .val (.ref aa1), .val (.int (0 : Int32)), .val (.int le0)] [(.int (-2 : Int32)), (.int ce0)])) _
              refine XS.icmpYes X8.here hx rfl (pc0 := 31) (pc' := 46) rfl (hb hby d5_31) rfl (teq hc31).1 (by decide) (by decide) ?_
              show Steps p.tables e below (T8.setTop (mkF m 46 #[.val (.ref aa0), .val (.ref aa1), .val (.int (0 : Int32)), .val (.int le0)] [])) _
              refine XS.iinc X8.here hx rfl (hb hby d5_46) rfl (l' := #[.val (.ref aa0), .val (.ref aa1), .val (.int (1 : Int32)), .val (.int le0)]) rfl ?_
              show Steps p.tables e below (T8.setTop (mkF m 49 #[.val (.ref aa0), .val (.ref aa1), .val (.int (1 : Int32)), .val (.int le0)] [])) _
              refine XS.goto X8.here hx rfl (pc0 := 49) (pc' := 2) rfl (hb hby d5_49) (by decide) (by decide) ?_
              exact kt)⟩
        · skip
          obtain ⟨T11, X11, e11, st11⟩ := getF X8 hx hZ hown (host := "") (Or.inl (hw _ (List.mem_of_getElem? (i := 23) rfl))) Via.refl e8 F_aa0_entries (g := (mkF m 36 #[.val (.ref aa0), .val (.ref aa1), .val (.int (0 : Int32)), .val (.int le0)] [(.ref aa0), (.int le0)])) rfl rfl (hb hby d5_36)
          obtain ⟨cl_12, Ar_12, qq_12, Sz_12, Nn_12, Hh_12, Gg_12⟩ := id V_ca
          have hin_12 : ¬ ((0 : Int32) < 0 ∨ cl_12.slots.size ≤ ((0 : Int32)).toNatClampNeg) := inb_of Sz_12 ⟨by decide, by decide⟩
          have hat_12 : cl_12.slots[((0 : Int32)).toNatClampNeg]? = some (.int ce0) := Has.at Hh_12 hin_12 rfl
          have pre13 : ∀ t, Steps p.tables e below (T11.setTop (mkF m 41 #[.val (.ref aa0), .val (.ref aa1), .val (.int (0 : Int32)), .val (.int le0)] [(.int ce0), (.int le0)])) t → Steps p.tables e below (s₁.setTop (entryFrame m #[(.ref aa0), (.ref aa1)] 4)) t := fun t kt => pre10 t (by
            show Steps p.tables e below (T8.setTop (mkF m 31 #[.val (.ref aa0), .val (.ref aa1), .val (.int (0 : Int32)), .val (.int le0)] [(.int (-2 : Int32)), (.int ce0)])) _
            refine XS.icmpNo X8.here hx rfl (hb hby d5_31) rfl (feq hc31).1 ?_
            show Steps p.tables e below (T8.setTop (mkF m 34 #[.val (.ref aa0), .val (.ref aa1), .val (.int (0 : Int32)), .val (.int le0)] [])) _
            refine XS.iloadN X8.here hx rfl (hb hby d5_34) rfl ?_
            show Steps p.tables e below (T8.setTop (mkF m 35 #[.val (.ref aa0), .val (.ref aa1), .val (.int (0 : Int32)), .val (.int le0)] [(.int le0)])) _
            refine XS.aloadN X8.here hx rfl (hb hby d5_35) rfl rfl ?_
            show Steps p.tables e below (T8.setTop (mkF m 36 #[.val (.ref aa0), .val (.ref aa1), .val (.int (0 : Int32)), .val (.int le0)] [(.ref aa0), (.int le0)])) _
            refine st11 _ ?_
            show Steps p.tables e below (T11.setTop (mkF m 39 #[.val (.ref aa0), .val (.ref aa1), .val (.int (0 : Int32)), .val (.int le0)] [(.ref ca), (.int le0)])) _
            refine XS.iloadN X11.here hx rfl (hb hby d5_39) rfl ?_
            show Steps p.tables e below (T11.setTop (mkF m 40 #[.val (.ref aa0), .val (.ref aa1), .val (.int (0 : Int32)), .val (.int le0)] [(.int (0 : Int32)), (.ref ca), (.int le0)])) _
            refine X11.iaload hx (j := (0 : Int32)) (v := (.int ce0)) (by rw [e11]; exact Ar_12.1) (State.isArrayOf_alike hZ.alike Ar_12.2.1) Ar_12.2.2 hin_12 hat_12 (g := (mkF m 40 #[.val (.ref aa0), .val (.ref aa1), .val (.int (0 : Int32)), .val (.int le0)] [(.int (0 : Int32)), (.ref ca), (.int le0)])) rfl rfl (hb hby d5_40) _ ?_
            exact kt)
          by_cases hc41 : le0 = ce0
          · skip
            exact ⟨_, _, X11, e11, N0, fun t kt => pre13 t (by
                show Steps p.tables e below (T11.setTop (mkF m 41 #[.val (.ref aa0), .val (.ref aa1), .val (.int (0 : Int32)), .val (.int le0)] [(.int ce0), (.int le0)])) _
                refine XS.icmpYes X11.here hx rfl (pc0 := 41) (pc' := 46) rfl (hb hby d5_41) rfl (teq hc41).1 (by decide) (by decide) ?_
                show Steps p.tables e below (T11.setTop (mkF m 46 #[.val (.ref aa0), .val (.ref aa1), .val (.int (0 : Int32)), .val (.int le0)] [])) _
                refine XS.iinc X11.here hx rfl (hb hby d5_46) rfl (l' := #[.val (.ref aa0), .val (.ref aa1), .val (.int (1 : Int32)), .val (.int le0)]) rfl ?_
                show Steps p.tables e below (T11.setTop (mkF m 49 #[.val (.ref aa0), .val (.ref aa1), .val (.int (1 : Int32)), .val (.int le0)] [])) _
                refine XS.goto X11.here hx rfl (pc0 := 49) (pc' := 2) rfl (hb hby d5_49) (by decide) (by decide) ?_
                exact kt)⟩
          · skip
            exact (hk0.elim hc20 (fun h => h.elim hc31 hc41)).elim
    by_cases hk1 : own_ok ce1 le1
    · skip
      obtain ⟨T14, L14, X14, e14, N14, pre14⟩ : ∃ (T' : State) (L' : List Loc), Stand p l e ({ frames := 0, cells := 0, slots := 0, locals := 0 } : Room) s m #[(.ref aa0), (.ref aa1)] below meth c T' L' 0 0 ∧ T'.heap = h0 ∧ Fr n0 L' ∧ ∀ t, Steps p.tables e below (T'.setTop (mkF m 2 #[.val (.ref aa0), .val (.ref aa1), .val (.int (2 : Int32)), .val (.int le1)] [])) t → Steps p.tables e below (s₁.setTop (entryFrame m #[(.ref aa0), (.ref aa1)] 4)) t := by
        obtain ⟨T15, X15, e15, st15⟩ := getF X2 hx hZ hown (host := "") (Or.inl (hw _ (List.mem_of_getElem? (i := 23) rfl))) Via.refl e2 F_aa0_entries (g := (mkF m 4 #[.val (.ref aa0), .val (.ref aa1), .val (.int (1 : Int32)), .val (.int le0)] [(.ref aa0), (.int (1 : Int32))])) rfl rfl (hb hby d5_4)
        obtain ⟨cl_16, Ar_16, -, Sz_16, Nn_16, -, -⟩ := id V_ca
        have hc8_2 : (1 : Int32) < (3 : Int32) := by decide
        obtain ⟨T17, X17, e17, st17⟩ := getF X15 hx hZ hown (host := "") (Or.inl (hw _ (List.mem_of_getElem? (i := 23) rfl))) Via.refl e15 F_aa1_entries (g := (mkF m 12 #[.val (.ref aa0), .val (.ref aa1), .val (.int (1 : Int32)), .val (.int le0)] [(.ref aa1)])) rfl rfl (hb hby d5_12)
        obtain ⟨cl_18, Ar_18, qq_18, Sz_18, Nn_18, Hh_18, Gg_18⟩ := id V_la
        have hin_18 : ¬ ((1 : Int32) < 0 ∨ cl_18.slots.size ≤ ((1 : Int32)).toNatClampNeg) := inb_of Sz_18 ⟨by decide, by decide⟩
        have hat_18 : cl_18.slots[((1 : Int32)).toNatClampNeg]? = some (.int le1) := Has.at Hh_18 hin_18 rfl
        have pre19 : ∀ t, Steps p.tables e below (T17.setTop (mkF m 20 #[.val (.ref aa0), .val (.ref aa1), .val (.int (1 : Int32)), .val (.int le1)] [(.int (-1 : Int32)), (.int le1)])) t → Steps p.tables e below (s₁.setTop (entryFrame m #[(.ref aa0), (.ref aa1)] 4)) t := fun t kt => pre2 t (by
          show Steps p.tables e below (T2.setTop (mkF m 2 #[.val (.ref aa0), .val (.ref aa1), .val (.int (1 : Int32)), .val (.int le0)] [])) _
          refine XS.iloadN X2.here hx rfl (hb hby d5_2) rfl ?_
          show Steps p.tables e below (T2.setTop (mkF m 3 #[.val (.ref aa0), .val (.ref aa1), .val (.int (1 : Int32)), .val (.int le0)] [(.int (1 : Int32))])) _
          refine XS.aloadN X2.here hx rfl (hb hby d5_3) rfl rfl ?_
          show Steps p.tables e below (T2.setTop (mkF m 4 #[.val (.ref aa0), .val (.ref aa1), .val (.int (1 : Int32)), .val (.int le0)] [(.ref aa0), (.int (1 : Int32))])) _
          refine st15 _ ?_
          show Steps p.tables e below (T15.setTop (mkF m 7 #[.val (.ref aa0), .val (.ref aa1), .val (.int (1 : Int32)), .val (.int le0)] [(.ref ca), (.int (1 : Int32))])) _
          refine X15.arraylength hx (by rw [e15]; exact Ar_16.1) (State.isArrayOf_alike hZ.alike Ar_16.2.1) (g := (mkF m 7 #[.val (.ref aa0), .val (.ref aa1), .val (.int (1 : Int32)), .val (.int le0)] [(.ref ca), (.int (1 : Int32))])) rfl rfl (hb hby d5_7) _ ?_
          rw [len_of Sz_16 Nn_16]
          show Steps p.tables e below (T15.setTop (mkF m 8 #[.val (.ref aa0), .val (.ref aa1), .val (.int (1 : Int32)), .val (.int le0)] [(.int (3 : Int32)), (.int (1 : Int32))])) _
          refine XS.icmpNo X15.here hx rfl (hb hby d5_8) rfl (tlt hc8_2).2.1 ?_
          show Steps p.tables e below (T15.setTop (mkF m 11 #[.val (.ref aa0), .val (.ref aa1), .val (.int (1 : Int32)), .val (.int le0)] [])) _
          refine XS.aloadN X15.here hx rfl (hb hby d5_11) rfl rfl ?_
          show Steps p.tables e below (T15.setTop (mkF m 12 #[.val (.ref aa0), .val (.ref aa1), .val (.int (1 : Int32)), .val (.int le0)] [(.ref aa1)])) _
          refine st17 _ ?_
          show Steps p.tables e below (T17.setTop (mkF m 15 #[.val (.ref aa0), .val (.ref aa1), .val (.int (1 : Int32)), .val (.int le0)] [(.ref la)])) _
          refine XS.iloadN X17.here hx rfl (hb hby d5_15) rfl ?_
          show Steps p.tables e below (T17.setTop (mkF m 16 #[.val (.ref aa0), .val (.ref aa1), .val (.int (1 : Int32)), .val (.int le0)] [(.int (1 : Int32)), (.ref la)])) _
          refine X17.iaload hx (j := (1 : Int32)) (v := (.int le1)) (by rw [e17]; exact Ar_18.1) (State.isArrayOf_alike hZ.alike Ar_18.2.1) Ar_18.2.2 hin_18 hat_18 (g := (mkF m 16 #[.val (.ref aa0), .val (.ref aa1), .val (.int (1 : Int32)), .val (.int le0)] [(.int (1 : Int32)), (.ref la)])) rfl rfl (hb hby d5_16) _ ?_
          show Steps p.tables e below (T17.setTop (mkF m 17 #[.val (.ref aa0), .val (.ref aa1), .val (.int (1 : Int32)), .val (.int le0)] [(.int le1)])) _
          refine XS.istoreN X17.here hx rfl (hb hby d5_17) rfl (l' := #[.val (.ref aa0), .val (.ref aa1), .val (.int (1 : Int32)), .val (.int le1)]) rfl ?_
          show Steps p.tables e below (T17.setTop (mkF m 18 #[.val (.ref aa0), .val (.ref aa1), .val (.int (1 : Int32)), .val (.int le1)] [])) _
          refine XS.iloadN X17.here hx rfl (hb hby d5_18) rfl ?_
          show Steps p.tables e below (T17.setTop (mkF m 19 #[.val (.ref aa0), .val (.ref aa1), .val (.int (1 : Int32)), .val (.int le1)] [(.int le1)])) _
          refine XS.iconst X17.here hx rfl (hb hby d5_19) ?_
          exact kt)
        by_cases hc20_2 : le1 = (-1 : Int32)
        · skip
          exact ⟨_, _, X17, e17, N2, fun t kt => pre19 t (by
              show Steps p.tables e below (T17.setTop (mkF m 20 #[.val (.ref aa0), .val (.ref aa1), .val (.int (1 : Int32)), .val (.int le1)] [(.int (-1 : Int32)), (.int le1)])) _
              refine XS.icmpYes X17.here hx rfl (pc0 := 20) (pc' := 46) rfl (hb hby d5_20) rfl (teq hc20_2).1 (by decide) (by decide) ?_
              show Steps p.tables e below (T17.setTop (mkF m 46 #[.val (.ref aa0), .val (.ref aa1), .val (.int (1 : Int32)), .val (.int le1)] [])) _
              refine XS.iinc X17.here hx rfl (hb hby d5_46) rfl (l' := #[.val (.ref aa0), .val (.ref aa1), .val (.int (2 : Int32)), .val (.int le1)]) rfl ?_
              show Steps p.tables e below (T17.setTop (mkF m 49 #[.val (.ref aa0), .val (.ref aa1), .val (.int (2 : Int32)), .val (.int le1)] [])) _
              refine XS.goto X17.here hx rfl (pc0 := 49) (pc' := 2) rfl (hb hby d5_49) (by decide) (by decide) ?_
              exact kt)⟩
        · skip
          obtain ⟨T20, X20, e20, st20⟩ := getF X17 hx hZ hown (host := "") (Or.inl (hw _ (List.mem_of_getElem? (i := 23) rfl))) Via.refl e17 F_aa0_entries (g := (mkF m 24 #[.val (.ref aa0), .val (.ref aa1), .val (.int (1 : Int32)), .val (.int le1)] [(.ref aa0)])) rfl rfl (hb hby d5_24)
          obtain ⟨cl_21, Ar_21, qq_21, Sz_21, Nn_21, Hh_21, Gg_21⟩ := id V_ca
          have hin_21 : ¬ ((1 : Int32) < 0 ∨ cl_21.slots.size ≤ ((1 : Int32)).toNatClampNeg) := inb_of Sz_21 ⟨by decide, by decide⟩
          have hat_21 : cl_21.slots[((1 : Int32)).toNatClampNeg]? = some (.int ce1) := Has.at Hh_21 hin_21 rfl
          have pre22 : ∀ t, Steps p.tables e below (T20.setTop (mkF m 31 #[.val (.ref aa0), .val (.ref aa1), .val (.int (1 : Int32)), .val (.int le1)] [(.int (-2 : Int32)), (.int ce1)])) t → Steps p.tables e below (s₁.setTop (entryFrame m #[(.ref aa0), (.ref aa1)] 4)) t := fun t kt => pre19 t (by
            show Steps p.tables e below (T17.setTop (mkF m 20 #[.val (.ref aa0), .val (.ref aa1), .val (.int (1 : Int32)), .val (.int le1)] [(.int (-1 : Int32)), (.int le1)])) _
            refine XS.icmpNo X17.here hx rfl (hb hby d5_20) rfl (feq hc20_2).1 ?_
            show Steps p.tables e below (T17.setTop (mkF m 23 #[.val (.ref aa0), .val (.ref aa1), .val (.int (1 : Int32)), .val (.int le1)] [])) _
            refine XS.aloadN X17.here hx rfl (hb hby d5_23) rfl rfl ?_
            show Steps p.tables e below (T17.setTop (mkF m 24 #[.val (.ref aa0), .val (.ref aa1), .val (.int (1 : Int32)), .val (.int le1)] [(.ref aa0)])) _
            refine st20 _ ?_
            show Steps p.tables e below (T20.setTop (mkF m 27 #[.val (.ref aa0), .val (.ref aa1), .val (.int (1 : Int32)), .val (.int le1)] [(.ref ca)])) _
            refine XS.iloadN X20.here hx rfl (hb hby d5_27) rfl ?_
            show Steps p.tables e below (T20.setTop (mkF m 28 #[.val (.ref aa0), .val (.ref aa1), .val (.int (1 : Int32)), .val (.int le1)] [(.int (1 : Int32)), (.ref ca)])) _
            refine X20.iaload hx (j := (1 : Int32)) (v := (.int ce1)) (by rw [e20]; exact Ar_21.1) (State.isArrayOf_alike hZ.alike Ar_21.2.1) Ar_21.2.2 hin_21 hat_21 (g := (mkF m 28 #[.val (.ref aa0), .val (.ref aa1), .val (.int (1 : Int32)), .val (.int le1)] [(.int (1 : Int32)), (.ref ca)])) rfl rfl (hb hby d5_28) _ ?_
            show Steps p.tables e below (T20.setTop (mkF m 29 #[.val (.ref aa0), .val (.ref aa1), .val (.int (1 : Int32)), .val (.int le1)] [(.int ce1)])) _
            refine XS.bipush X20.here hx rfl (hb hby d5_29) ?_
            exact kt)
          by_cases hc31_2 : ce1 = (-2 : Int32)
          · skip
            exact ⟨_, _, X20, e20, N2, fun t kt => pre22 t (by
                show Steps p.tables e below (T20.setTop (mkF m 31 #[.val (.ref aa0), .val (.ref aa1), .val (.int (1 : Int32)), .val (.int le1)] [(.int (-2 : Int32)), (.int ce1)])) _
                refine XS.icmpYes X20.here hx rfl (pc0 := 31) (pc' := 46) rfl (hb hby d5_31) rfl (teq hc31_2).1 (by decide) (by decide) ?_
                show Steps p.tables e below (T20.setTop (mkF m 46 #[.val (.ref aa0), .val (.ref aa1), .val (.int (1 : Int32)), .val (.int le1)] [])) _
                refine XS.iinc X20.here hx rfl (hb hby d5_46) rfl (l' := #[.val (.ref aa0), .val (.ref aa1), .val (.int (2 : Int32)), .val (.int le1)]) rfl ?_
                show Steps p.tables e below (T20.setTop (mkF m 49 #[.val (.ref aa0), .val (.ref aa1), .val (.int (2 : Int32)), .val (.int le1)] [])) _
                refine XS.goto X20.here hx rfl (pc0 := 49) (pc' := 2) rfl (hb hby d5_49) (by decide) (by decide) ?_
                exact kt)⟩
          · skip
            obtain ⟨T23, X23, e23, st23⟩ := getF X20 hx hZ hown (host := "") (Or.inl (hw _ (List.mem_of_getElem? (i := 23) rfl))) Via.refl e20 F_aa0_entries (g := (mkF m 36 #[.val (.ref aa0), .val (.ref aa1), .val (.int (1 : Int32)), .val (.int le1)] [(.ref aa0), (.int le1)])) rfl rfl (hb hby d5_36)
            obtain ⟨cl_24, Ar_24, qq_24, Sz_24, Nn_24, Hh_24, Gg_24⟩ := id V_ca
            have hin_24 : ¬ ((1 : Int32) < 0 ∨ cl_24.slots.size ≤ ((1 : Int32)).toNatClampNeg) := inb_of Sz_24 ⟨by decide, by decide⟩
            have hat_24 : cl_24.slots[((1 : Int32)).toNatClampNeg]? = some (.int ce1) := Has.at Hh_24 hin_24 rfl
            have pre25 : ∀ t, Steps p.tables e below (T23.setTop (mkF m 41 #[.val (.ref aa0), .val (.ref aa1), .val (.int (1 : Int32)), .val (.int le1)] [(.int ce1), (.int le1)])) t → Steps p.tables e below (s₁.setTop (entryFrame m #[(.ref aa0), (.ref aa1)] 4)) t := fun t kt => pre22 t (by
              show Steps p.tables e below (T20.setTop (mkF m 31 #[.val (.ref aa0), .val (.ref aa1), .val (.int (1 : Int32)), .val (.int le1)] [(.int (-2 : Int32)), (.int ce1)])) _
              refine XS.icmpNo X20.here hx rfl (hb hby d5_31) rfl (feq hc31_2).1 ?_
              show Steps p.tables e below (T20.setTop (mkF m 34 #[.val (.ref aa0), .val (.ref aa1), .val (.int (1 : Int32)), .val (.int le1)] [])) _
              refine XS.iloadN X20.here hx rfl (hb hby d5_34) rfl ?_
              show Steps p.tables e below (T20.setTop (mkF m 35 #[.val (.ref aa0), .val (.ref aa1), .val (.int (1 : Int32)), .val (.int le1)] [(.int le1)])) _
              refine XS.aloadN X20.here hx rfl (hb hby d5_35) rfl rfl ?_
              show Steps p.tables e below (T20.setTop (mkF m 36 #[.val (.ref aa0), .val (.ref aa1), .val (.int (1 : Int32)), .val (.int le1)] [(.ref aa0), (.int le1)])) _
              refine st23 _ ?_
              show Steps p.tables e below (T23.setTop (mkF m 39 #[.val (.ref aa0), .val (.ref aa1), .val (.int (1 : Int32)), .val (.int le1)] [(.ref ca), (.int le1)])) _
              refine XS.iloadN X23.here hx rfl (hb hby d5_39) rfl ?_
              show Steps p.tables e below (T23.setTop (mkF m 40 #[.val (.ref aa0), .val (.ref aa1), .val (.int (1 : Int32)), .val (.int le1)] [(.int (1 : Int32)), (.ref ca), (.int le1)])) _
              refine X23.iaload hx (j := (1 : Int32)) (v := (.int ce1)) (by rw [e23]; exact Ar_24.1) (State.isArrayOf_alike hZ.alike Ar_24.2.1) Ar_24.2.2 hin_24 hat_24 (g := (mkF m 40 #[.val (.ref aa0), .val (.ref aa1), .val (.int (1 : Int32)), .val (.int le1)] [(.int (1 : Int32)), (.ref ca), (.int le1)])) rfl rfl (hb hby d5_40) _ ?_
              exact kt)
            by_cases hc41_2 : le1 = ce1
            · skip
              exact ⟨_, _, X23, e23, N2, fun t kt => pre25 t (by
                  show Steps p.tables e below (T23.setTop (mkF m 41 #[.val (.ref aa0), .val (.ref aa1), .val (.int (1 : Int32)), .val (.int le1)] [(.int ce1), (.int le1)])) _
                  refine XS.icmpYes X23.here hx rfl (pc0 := 41) (pc' := 46) rfl (hb hby d5_41) rfl (teq hc41_2).1 (by decide) (by decide) ?_
                  show Steps p.tables e below (T23.setTop (mkF m 46 #[.val (.ref aa0), .val (.ref aa1), .val (.int (1 : Int32)), .val (.int le1)] [])) _
                  refine XS.iinc X23.here hx rfl (hb hby d5_46) rfl (l' := #[.val (.ref aa0), .val (.ref aa1), .val (.int (2 : Int32)), .val (.int le1)]) rfl ?_
                  show Steps p.tables e below (T23.setTop (mkF m 49 #[.val (.ref aa0), .val (.ref aa1), .val (.int (2 : Int32)), .val (.int le1)] [])) _
                  refine XS.goto X23.here hx rfl (pc0 := 49) (pc' := 2) rfl (hb hby d5_49) (by decide) (by decide) ?_
                  exact kt)⟩
            · skip
              exact (hk1.elim hc20_2 (fun h => h.elim hc31_2 hc41_2)).elim
      by_cases hk2 : own_ok ce2 le2
      · skip
        obtain ⟨T26, L26, X26, e26, N26, pre26⟩ : ∃ (T' : State) (L' : List Loc), Stand p l e ({ frames := 0, cells := 0, slots := 0, locals := 0 } : Room) s m #[(.ref aa0), (.ref aa1)] below meth c T' L' 0 0 ∧ T'.heap = h0 ∧ Fr n0 L' ∧ ∀ t, Steps p.tables e below (T'.setTop (mkF m 2 #[.val (.ref aa0), .val (.ref aa1), .val (.int (3 : Int32)), .val (.int le2)] [])) t → Steps p.tables e below (s₁.setTop (entryFrame m #[(.ref aa0), (.ref aa1)] 4)) t := by
          obtain ⟨T27, X27, e27, st27⟩ := getF X14 hx hZ hown (host := "") (Or.inl (hw _ (List.mem_of_getElem? (i := 23) rfl))) Via.refl e14 F_aa0_entries (g := (mkF m 4 #[.val (.ref aa0), .val (.ref aa1), .val (.int (2 : Int32)), .val (.int le1)] [(.ref aa0), (.int (2 : Int32))])) rfl rfl (hb hby d5_4)
          obtain ⟨cl_28, Ar_28, -, Sz_28, Nn_28, -, -⟩ := id V_ca
          have hc8_3 : (2 : Int32) < (3 : Int32) := by decide
          obtain ⟨T29, X29, e29, st29⟩ := getF X27 hx hZ hown (host := "") (Or.inl (hw _ (List.mem_of_getElem? (i := 23) rfl))) Via.refl e27 F_aa1_entries (g := (mkF m 12 #[.val (.ref aa0), .val (.ref aa1), .val (.int (2 : Int32)), .val (.int le1)] [(.ref aa1)])) rfl rfl (hb hby d5_12)
          obtain ⟨cl_30, Ar_30, qq_30, Sz_30, Nn_30, Hh_30, Gg_30⟩ := id V_la
          have hin_30 : ¬ ((2 : Int32) < 0 ∨ cl_30.slots.size ≤ ((2 : Int32)).toNatClampNeg) := inb_of Sz_30 ⟨by decide, by decide⟩
          have hat_30 : cl_30.slots[((2 : Int32)).toNatClampNeg]? = some (.int le2) := Has.at Hh_30 hin_30 rfl
          have pre31 : ∀ t, Steps p.tables e below (T29.setTop (mkF m 20 #[.val (.ref aa0), .val (.ref aa1), .val (.int (2 : Int32)), .val (.int le2)] [(.int (-1 : Int32)), (.int le2)])) t → Steps p.tables e below (s₁.setTop (entryFrame m #[(.ref aa0), (.ref aa1)] 4)) t := fun t kt => pre14 t (by
            show Steps p.tables e below (T14.setTop (mkF m 2 #[.val (.ref aa0), .val (.ref aa1), .val (.int (2 : Int32)), .val (.int le1)] [])) _
            refine XS.iloadN X14.here hx rfl (hb hby d5_2) rfl ?_
            show Steps p.tables e below (T14.setTop (mkF m 3 #[.val (.ref aa0), .val (.ref aa1), .val (.int (2 : Int32)), .val (.int le1)] [(.int (2 : Int32))])) _
            refine XS.aloadN X14.here hx rfl (hb hby d5_3) rfl rfl ?_
            show Steps p.tables e below (T14.setTop (mkF m 4 #[.val (.ref aa0), .val (.ref aa1), .val (.int (2 : Int32)), .val (.int le1)] [(.ref aa0), (.int (2 : Int32))])) _
            refine st27 _ ?_
            show Steps p.tables e below (T27.setTop (mkF m 7 #[.val (.ref aa0), .val (.ref aa1), .val (.int (2 : Int32)), .val (.int le1)] [(.ref ca), (.int (2 : Int32))])) _
            refine X27.arraylength hx (by rw [e27]; exact Ar_28.1) (State.isArrayOf_alike hZ.alike Ar_28.2.1) (g := (mkF m 7 #[.val (.ref aa0), .val (.ref aa1), .val (.int (2 : Int32)), .val (.int le1)] [(.ref ca), (.int (2 : Int32))])) rfl rfl (hb hby d5_7) _ ?_
            rw [len_of Sz_28 Nn_28]
            show Steps p.tables e below (T27.setTop (mkF m 8 #[.val (.ref aa0), .val (.ref aa1), .val (.int (2 : Int32)), .val (.int le1)] [(.int (3 : Int32)), (.int (2 : Int32))])) _
            refine XS.icmpNo X27.here hx rfl (hb hby d5_8) rfl (tlt hc8_3).2.1 ?_
            show Steps p.tables e below (T27.setTop (mkF m 11 #[.val (.ref aa0), .val (.ref aa1), .val (.int (2 : Int32)), .val (.int le1)] [])) _
            refine XS.aloadN X27.here hx rfl (hb hby d5_11) rfl rfl ?_
            show Steps p.tables e below (T27.setTop (mkF m 12 #[.val (.ref aa0), .val (.ref aa1), .val (.int (2 : Int32)), .val (.int le1)] [(.ref aa1)])) _
            refine st29 _ ?_
            show Steps p.tables e below (T29.setTop (mkF m 15 #[.val (.ref aa0), .val (.ref aa1), .val (.int (2 : Int32)), .val (.int le1)] [(.ref la)])) _
            refine XS.iloadN X29.here hx rfl (hb hby d5_15) rfl ?_
            show Steps p.tables e below (T29.setTop (mkF m 16 #[.val (.ref aa0), .val (.ref aa1), .val (.int (2 : Int32)), .val (.int le1)] [(.int (2 : Int32)), (.ref la)])) _
            refine X29.iaload hx (j := (2 : Int32)) (v := (.int le2)) (by rw [e29]; exact Ar_30.1) (State.isArrayOf_alike hZ.alike Ar_30.2.1) Ar_30.2.2 hin_30 hat_30 (g := (mkF m 16 #[.val (.ref aa0), .val (.ref aa1), .val (.int (2 : Int32)), .val (.int le1)] [(.int (2 : Int32)), (.ref la)])) rfl rfl (hb hby d5_16) _ ?_
            show Steps p.tables e below (T29.setTop (mkF m 17 #[.val (.ref aa0), .val (.ref aa1), .val (.int (2 : Int32)), .val (.int le1)] [(.int le2)])) _
            refine XS.istoreN X29.here hx rfl (hb hby d5_17) rfl (l' := #[.val (.ref aa0), .val (.ref aa1), .val (.int (2 : Int32)), .val (.int le2)]) rfl ?_
            show Steps p.tables e below (T29.setTop (mkF m 18 #[.val (.ref aa0), .val (.ref aa1), .val (.int (2 : Int32)), .val (.int le2)] [])) _
            refine XS.iloadN X29.here hx rfl (hb hby d5_18) rfl ?_
            show Steps p.tables e below (T29.setTop (mkF m 19 #[.val (.ref aa0), .val (.ref aa1), .val (.int (2 : Int32)), .val (.int le2)] [(.int le2)])) _
            refine XS.iconst X29.here hx rfl (hb hby d5_19) ?_
            exact kt)
          by_cases hc20_3 : le2 = (-1 : Int32)
          · skip
            exact ⟨_, _, X29, e29, N14, fun t kt => pre31 t (by
                show Steps p.tables e below (T29.setTop (mkF m 20 #[.val (.ref aa0), .val (.ref aa1), .val (.int (2 : Int32)), .val (.int le2)] [(.int (-1 : Int32)), (.int le2)])) _
                refine XS.icmpYes X29.here hx rfl (pc0 := 20) (pc' := 46) rfl (hb hby d5_20) rfl (teq hc20_3).1 (by decide) (by decide) ?_
                show Steps p.tables e below (T29.setTop (mkF m 46 #[.val (.ref aa0), .val (.ref aa1), .val (.int (2 : Int32)), .val (.int le2)] [])) _
                refine XS.iinc X29.here hx rfl (hb hby d5_46) rfl (l' := #[.val (.ref aa0), .val (.ref aa1), .val (.int (3 : Int32)), .val (.int le2)]) rfl ?_
                show Steps p.tables e below (T29.setTop (mkF m 49 #[.val (.ref aa0), .val (.ref aa1), .val (.int (3 : Int32)), .val (.int le2)] [])) _
                refine XS.goto X29.here hx rfl (pc0 := 49) (pc' := 2) rfl (hb hby d5_49) (by decide) (by decide) ?_
                exact kt)⟩
          · skip
            obtain ⟨T32, X32, e32, st32⟩ := getF X29 hx hZ hown (host := "") (Or.inl (hw _ (List.mem_of_getElem? (i := 23) rfl))) Via.refl e29 F_aa0_entries (g := (mkF m 24 #[.val (.ref aa0), .val (.ref aa1), .val (.int (2 : Int32)), .val (.int le2)] [(.ref aa0)])) rfl rfl (hb hby d5_24)
            obtain ⟨cl_33, Ar_33, qq_33, Sz_33, Nn_33, Hh_33, Gg_33⟩ := id V_ca
            have hin_33 : ¬ ((2 : Int32) < 0 ∨ cl_33.slots.size ≤ ((2 : Int32)).toNatClampNeg) := inb_of Sz_33 ⟨by decide, by decide⟩
            have hat_33 : cl_33.slots[((2 : Int32)).toNatClampNeg]? = some (.int ce2) := Has.at Hh_33 hin_33 rfl
            have pre34 : ∀ t, Steps p.tables e below (T32.setTop (mkF m 31 #[.val (.ref aa0), .val (.ref aa1), .val (.int (2 : Int32)), .val (.int le2)] [(.int (-2 : Int32)), (.int ce2)])) t → Steps p.tables e below (s₁.setTop (entryFrame m #[(.ref aa0), (.ref aa1)] 4)) t := fun t kt => pre31 t (by
              show Steps p.tables e below (T29.setTop (mkF m 20 #[.val (.ref aa0), .val (.ref aa1), .val (.int (2 : Int32)), .val (.int le2)] [(.int (-1 : Int32)), (.int le2)])) _
              refine XS.icmpNo X29.here hx rfl (hb hby d5_20) rfl (feq hc20_3).1 ?_
              show Steps p.tables e below (T29.setTop (mkF m 23 #[.val (.ref aa0), .val (.ref aa1), .val (.int (2 : Int32)), .val (.int le2)] [])) _
              refine XS.aloadN X29.here hx rfl (hb hby d5_23) rfl rfl ?_
              show Steps p.tables e below (T29.setTop (mkF m 24 #[.val (.ref aa0), .val (.ref aa1), .val (.int (2 : Int32)), .val (.int le2)] [(.ref aa0)])) _
              refine st32 _ ?_
              show Steps p.tables e below (T32.setTop (mkF m 27 #[.val (.ref aa0), .val (.ref aa1), .val (.int (2 : Int32)), .val (.int le2)] [(.ref ca)])) _
              refine XS.iloadN X32.here hx rfl (hb hby d5_27) rfl ?_
              show Steps p.tables e below (T32.setTop (mkF m 28 #[.val (.ref aa0), .val (.ref aa1), .val (.int (2 : Int32)), .val (.int le2)] [(.int (2 : Int32)), (.ref ca)])) _
              refine X32.iaload hx (j := (2 : Int32)) (v := (.int ce2)) (by rw [e32]; exact Ar_33.1) (State.isArrayOf_alike hZ.alike Ar_33.2.1) Ar_33.2.2 hin_33 hat_33 (g := (mkF m 28 #[.val (.ref aa0), .val (.ref aa1), .val (.int (2 : Int32)), .val (.int le2)] [(.int (2 : Int32)), (.ref ca)])) rfl rfl (hb hby d5_28) _ ?_
              show Steps p.tables e below (T32.setTop (mkF m 29 #[.val (.ref aa0), .val (.ref aa1), .val (.int (2 : Int32)), .val (.int le2)] [(.int ce2)])) _
              refine XS.bipush X32.here hx rfl (hb hby d5_29) ?_
              exact kt)
            by_cases hc31_3 : ce2 = (-2 : Int32)
            · skip
              exact ⟨_, _, X32, e32, N14, fun t kt => pre34 t (by
                  show Steps p.tables e below (T32.setTop (mkF m 31 #[.val (.ref aa0), .val (.ref aa1), .val (.int (2 : Int32)), .val (.int le2)] [(.int (-2 : Int32)), (.int ce2)])) _
                  refine XS.icmpYes X32.here hx rfl (pc0 := 31) (pc' := 46) rfl (hb hby d5_31) rfl (teq hc31_3).1 (by decide) (by decide) ?_
                  show Steps p.tables e below (T32.setTop (mkF m 46 #[.val (.ref aa0), .val (.ref aa1), .val (.int (2 : Int32)), .val (.int le2)] [])) _
                  refine XS.iinc X32.here hx rfl (hb hby d5_46) rfl (l' := #[.val (.ref aa0), .val (.ref aa1), .val (.int (3 : Int32)), .val (.int le2)]) rfl ?_
                  show Steps p.tables e below (T32.setTop (mkF m 49 #[.val (.ref aa0), .val (.ref aa1), .val (.int (3 : Int32)), .val (.int le2)] [])) _
                  refine XS.goto X32.here hx rfl (pc0 := 49) (pc' := 2) rfl (hb hby d5_49) (by decide) (by decide) ?_
                  exact kt)⟩
            · skip
              obtain ⟨T35, X35, e35, st35⟩ := getF X32 hx hZ hown (host := "") (Or.inl (hw _ (List.mem_of_getElem? (i := 23) rfl))) Via.refl e32 F_aa0_entries (g := (mkF m 36 #[.val (.ref aa0), .val (.ref aa1), .val (.int (2 : Int32)), .val (.int le2)] [(.ref aa0), (.int le2)])) rfl rfl (hb hby d5_36)
              obtain ⟨cl_36, Ar_36, qq_36, Sz_36, Nn_36, Hh_36, Gg_36⟩ := id V_ca
              have hin_36 : ¬ ((2 : Int32) < 0 ∨ cl_36.slots.size ≤ ((2 : Int32)).toNatClampNeg) := inb_of Sz_36 ⟨by decide, by decide⟩
              have hat_36 : cl_36.slots[((2 : Int32)).toNatClampNeg]? = some (.int ce2) := Has.at Hh_36 hin_36 rfl
              have pre37 : ∀ t, Steps p.tables e below (T35.setTop (mkF m 41 #[.val (.ref aa0), .val (.ref aa1), .val (.int (2 : Int32)), .val (.int le2)] [(.int ce2), (.int le2)])) t → Steps p.tables e below (s₁.setTop (entryFrame m #[(.ref aa0), (.ref aa1)] 4)) t := fun t kt => pre34 t (by
                show Steps p.tables e below (T32.setTop (mkF m 31 #[.val (.ref aa0), .val (.ref aa1), .val (.int (2 : Int32)), .val (.int le2)] [(.int (-2 : Int32)), (.int ce2)])) _
                refine XS.icmpNo X32.here hx rfl (hb hby d5_31) rfl (feq hc31_3).1 ?_
                show Steps p.tables e below (T32.setTop (mkF m 34 #[.val (.ref aa0), .val (.ref aa1), .val (.int (2 : Int32)), .val (.int le2)] [])) _
                refine XS.iloadN X32.here hx rfl (hb hby d5_34) rfl ?_
                show Steps p.tables e below (T32.setTop (mkF m 35 #[.val (.ref aa0), .val (.ref aa1), .val (.int (2 : Int32)), .val (.int le2)] [(.int le2)])) _
                refine XS.aloadN X32.here hx rfl (hb hby d5_35) rfl rfl ?_
                show Steps p.tables e below (T32.setTop (mkF m 36 #[.val (.ref aa0), .val (.ref aa1), .val (.int (2 : Int32)), .val (.int le2)] [(.ref aa0), (.int le2)])) _
                refine st35 _ ?_
                show Steps p.tables e below (T35.setTop (mkF m 39 #[.val (.ref aa0), .val (.ref aa1), .val (.int (2 : Int32)), .val (.int le2)] [(.ref ca), (.int le2)])) _
                refine XS.iloadN X35.here hx rfl (hb hby d5_39) rfl ?_
                show Steps p.tables e below (T35.setTop (mkF m 40 #[.val (.ref aa0), .val (.ref aa1), .val (.int (2 : Int32)), .val (.int le2)] [(.int (2 : Int32)), (.ref ca), (.int le2)])) _
                refine X35.iaload hx (j := (2 : Int32)) (v := (.int ce2)) (by rw [e35]; exact Ar_36.1) (State.isArrayOf_alike hZ.alike Ar_36.2.1) Ar_36.2.2 hin_36 hat_36 (g := (mkF m 40 #[.val (.ref aa0), .val (.ref aa1), .val (.int (2 : Int32)), .val (.int le2)] [(.int (2 : Int32)), (.ref ca), (.int le2)])) rfl rfl (hb hby d5_40) _ ?_
                exact kt)
              by_cases hc41_3 : le2 = ce2
              · skip
                exact ⟨_, _, X35, e35, N14, fun t kt => pre37 t (by
                    show Steps p.tables e below (T35.setTop (mkF m 41 #[.val (.ref aa0), .val (.ref aa1), .val (.int (2 : Int32)), .val (.int le2)] [(.int ce2), (.int le2)])) _
                    refine XS.icmpYes X35.here hx rfl (pc0 := 41) (pc' := 46) rfl (hb hby d5_41) rfl (teq hc41_3).1 (by decide) (by decide) ?_
                    show Steps p.tables e below (T35.setTop (mkF m 46 #[.val (.ref aa0), .val (.ref aa1), .val (.int (2 : Int32)), .val (.int le2)] [])) _
                    refine XS.iinc X35.here hx rfl (hb hby d5_46) rfl (l' := #[.val (.ref aa0), .val (.ref aa1), .val (.int (3 : Int32)), .val (.int le2)]) rfl ?_
                    show Steps p.tables e below (T35.setTop (mkF m 49 #[.val (.ref aa0), .val (.ref aa1), .val (.int (3 : Int32)), .val (.int le2)] [])) _
                    refine XS.goto X35.here hx rfl (pc0 := 49) (pc' := 2) rfl (hb hby d5_49) (by decide) (by decide) ?_
                    exact kt)⟩
              · skip
                exact (hk2.elim hc20_3 (fun h => h.elim hc31_3 hc41_3)).elim
        obtain ⟨T38, X38, e38, st38⟩ := getF X26 hx hZ hown (host := "") (Or.inl (hw _ (List.mem_of_getElem? (i := 23) rfl))) Via.refl e26 F_aa0_entries (g := (mkF m 4 #[.val (.ref aa0), .val (.ref aa1), .val (.int (3 : Int32)), .val (.int le2)] [(.ref aa0), (.int (3 : Int32))])) rfl rfl (hb hby d5_4)
        obtain ⟨cl_39, Ar_39, -, Sz_39, Nn_39, -, -⟩ := id V_ca
        have hc8_4 : ¬ ((3 : Int32) < (3 : Int32)) := by decide
        obtain ⟨fs, hr, hrun, hended, hW, hsame⟩ := X38.leave (v := some (.int (1 : Int32))) (fun h => by rw [Bd.returns] at h; cases h)
        refine ⟨_, _, pre26 _ ?_, hrun, hended, _, _, rfl, ?_, ⟨_, rfl⟩, hW, hsame.mono (by decide) (by decide)⟩
        · show Steps p.tables e below (T26.setTop (mkF m 2 #[.val (.ref aa0), .val (.ref aa1), .val (.int (3 : Int32)), .val (.int le2)] [])) _
          refine XS.iloadN X26.here hx rfl (hb hby d5_2) rfl ?_
          show Steps p.tables e below (T26.setTop (mkF m 3 #[.val (.ref aa0), .val (.ref aa1), .val (.int (3 : Int32)), .val (.int le2)] [(.int (3 : Int32))])) _
          refine XS.aloadN X26.here hx rfl (hb hby d5_3) rfl rfl ?_
          show Steps p.tables e below (T26.setTop (mkF m 4 #[.val (.ref aa0), .val (.ref aa1), .val (.int (3 : Int32)), .val (.int le2)] [(.ref aa0), (.int (3 : Int32))])) _
          refine st38 _ ?_
          show Steps p.tables e below (T38.setTop (mkF m 7 #[.val (.ref aa0), .val (.ref aa1), .val (.int (3 : Int32)), .val (.int le2)] [(.ref ca), (.int (3 : Int32))])) _
          refine X38.arraylength hx (by rw [e38]; exact Ar_39.1) (State.isArrayOf_alike hZ.alike Ar_39.2.1) (g := (mkF m 7 #[.val (.ref aa0), .val (.ref aa1), .val (.int (3 : Int32)), .val (.int le2)] [(.ref ca), (.int (3 : Int32))])) rfl rfl (hb hby d5_7) _ ?_
          rw [len_of Sz_39 Nn_39]
          show Steps p.tables e below (T38.setTop (mkF m 8 #[.val (.ref aa0), .val (.ref aa1), .val (.int (3 : Int32)), .val (.int le2)] [(.int (3 : Int32)), (.int (3 : Int32))])) _
          refine XS.icmpYes X38.here hx rfl (pc0 := 8) (pc' := 52) rfl (hb hby d5_8) rfl (flt hc8_4).2.1 (by decide) (by decide) ?_
          show Steps p.tables e below (T38.setTop (mkF m 52 #[.val (.ref aa0), .val (.ref aa1), .val (.int (3 : Int32)), .val (.int le2)] [])) _
          refine XS.iconst X38.here hx rfl (hb hby d5_52) ?_
          show Steps p.tables e below (T38.setTop (mkF m 53 #[.val (.ref aa0), .val (.ref aa1), .val (.int (3 : Int32)), .val (.int le2)] [(.int (1 : Int32))])) _
          exact retN X38 hx (t := .boolean) Bd.returns (by simp) (hb hby d5_53) hr
        · show Q5 Z aa0 aa1 ca la kc kl ce0 ce1 ce2 le0 le1 le2 h0 n0 _ T38.heap _
          rw [e38]
          exact ⟨(by rw [own_domv_pos ⟨hk0, hk1, hk2⟩]), N26, rfl⟩
      · skip
        obtain ⟨T40, X40, e40, st40⟩ := getF X14 hx hZ hown (host := "") (Or.inl (hw _ (List.mem_of_getElem? (i := 23) rfl))) Via.refl e14 F_aa0_entries (g := (mkF m 4 #[.val (.ref aa0), .val (.ref aa1), .val (.int (2 : Int32)), .val (.int le1)] [(.ref aa0), (.int (2 : Int32))])) rfl rfl (hb hby d5_4)
        obtain ⟨cl_41, Ar_41, -, Sz_41, Nn_41, -, -⟩ := id V_ca
        have hc8_5 : (2 : Int32) < (3 : Int32) := by decide
        obtain ⟨T42, X42, e42, st42⟩ := getF X40 hx hZ hown (host := "") (Or.inl (hw _ (List.mem_of_getElem? (i := 23) rfl))) Via.refl e40 F_aa1_entries (g := (mkF m 12 #[.val (.ref aa0), .val (.ref aa1), .val (.int (2 : Int32)), .val (.int le1)] [(.ref aa1)])) rfl rfl (hb hby d5_12)
        obtain ⟨cl_43, Ar_43, qq_43, Sz_43, Nn_43, Hh_43, Gg_43⟩ := id V_la
        have hin_43 : ¬ ((2 : Int32) < 0 ∨ cl_43.slots.size ≤ ((2 : Int32)).toNatClampNeg) := inb_of Sz_43 ⟨by decide, by decide⟩
        have hat_43 : cl_43.slots[((2 : Int32)).toNatClampNeg]? = some (.int le2) := Has.at Hh_43 hin_43 rfl
        have hc20_4 : ¬ (le2 = (-1 : Int32)) := (fun h => hk2 (Or.inl h))
        obtain ⟨T44, X44, e44, st44⟩ := getF X42 hx hZ hown (host := "") (Or.inl (hw _ (List.mem_of_getElem? (i := 23) rfl))) Via.refl e42 F_aa0_entries (g := (mkF m 24 #[.val (.ref aa0), .val (.ref aa1), .val (.int (2 : Int32)), .val (.int le2)] [(.ref aa0)])) rfl rfl (hb hby d5_24)
        obtain ⟨cl_45, Ar_45, qq_45, Sz_45, Nn_45, Hh_45, Gg_45⟩ := id V_ca
        have hin_45 : ¬ ((2 : Int32) < 0 ∨ cl_45.slots.size ≤ ((2 : Int32)).toNatClampNeg) := inb_of Sz_45 ⟨by decide, by decide⟩
        have hat_45 : cl_45.slots[((2 : Int32)).toNatClampNeg]? = some (.int ce2) := Has.at Hh_45 hin_45 rfl
        have hc31_4 : ¬ (ce2 = (-2 : Int32)) := (fun h => hk2 (Or.inr (Or.inl h)))
        obtain ⟨T46, X46, e46, st46⟩ := getF X44 hx hZ hown (host := "") (Or.inl (hw _ (List.mem_of_getElem? (i := 23) rfl))) Via.refl e44 F_aa0_entries (g := (mkF m 36 #[.val (.ref aa0), .val (.ref aa1), .val (.int (2 : Int32)), .val (.int le2)] [(.ref aa0), (.int le2)])) rfl rfl (hb hby d5_36)
        obtain ⟨cl_47, Ar_47, qq_47, Sz_47, Nn_47, Hh_47, Gg_47⟩ := id V_ca
        have hin_47 : ¬ ((2 : Int32) < 0 ∨ cl_47.slots.size ≤ ((2 : Int32)).toNatClampNeg) := inb_of Sz_47 ⟨by decide, by decide⟩
        have hat_47 : cl_47.slots[((2 : Int32)).toNatClampNeg]? = some (.int ce2) := Has.at Hh_47 hin_47 rfl
        have hc41_4 : ¬ (le2 = ce2) := (fun h => hk2 (Or.inr (Or.inr h)))
        obtain ⟨fs, hr, hrun, hended, hW, hsame⟩ := X46.leave (v := some (.int (0 : Int32))) (fun h => by rw [Bd.returns] at h; cases h)
        refine ⟨_, _, pre14 _ ?_, hrun, hended, _, _, rfl, ?_, ⟨_, rfl⟩, hW, hsame.mono (by decide) (by decide)⟩
        · show Steps p.tables e below (T14.setTop (mkF m 2 #[.val (.ref aa0), .val (.ref aa1), .val (.int (2 : Int32)), .val (.int le1)] [])) _
          refine XS.iloadN X14.here hx rfl (hb hby d5_2) rfl ?_
          show Steps p.tables e below (T14.setTop (mkF m 3 #[.val (.ref aa0), .val (.ref aa1), .val (.int (2 : Int32)), .val (.int le1)] [(.int (2 : Int32))])) _
          refine XS.aloadN X14.here hx rfl (hb hby d5_3) rfl rfl ?_
          show Steps p.tables e below (T14.setTop (mkF m 4 #[.val (.ref aa0), .val (.ref aa1), .val (.int (2 : Int32)), .val (.int le1)] [(.ref aa0), (.int (2 : Int32))])) _
          refine st40 _ ?_
          show Steps p.tables e below (T40.setTop (mkF m 7 #[.val (.ref aa0), .val (.ref aa1), .val (.int (2 : Int32)), .val (.int le1)] [(.ref ca), (.int (2 : Int32))])) _
          refine X40.arraylength hx (by rw [e40]; exact Ar_41.1) (State.isArrayOf_alike hZ.alike Ar_41.2.1) (g := (mkF m 7 #[.val (.ref aa0), .val (.ref aa1), .val (.int (2 : Int32)), .val (.int le1)] [(.ref ca), (.int (2 : Int32))])) rfl rfl (hb hby d5_7) _ ?_
          rw [len_of Sz_41 Nn_41]
          show Steps p.tables e below (T40.setTop (mkF m 8 #[.val (.ref aa0), .val (.ref aa1), .val (.int (2 : Int32)), .val (.int le1)] [(.int (3 : Int32)), (.int (2 : Int32))])) _
          refine XS.icmpNo X40.here hx rfl (hb hby d5_8) rfl (tlt hc8_5).2.1 ?_
          show Steps p.tables e below (T40.setTop (mkF m 11 #[.val (.ref aa0), .val (.ref aa1), .val (.int (2 : Int32)), .val (.int le1)] [])) _
          refine XS.aloadN X40.here hx rfl (hb hby d5_11) rfl rfl ?_
          show Steps p.tables e below (T40.setTop (mkF m 12 #[.val (.ref aa0), .val (.ref aa1), .val (.int (2 : Int32)), .val (.int le1)] [(.ref aa1)])) _
          refine st42 _ ?_
          show Steps p.tables e below (T42.setTop (mkF m 15 #[.val (.ref aa0), .val (.ref aa1), .val (.int (2 : Int32)), .val (.int le1)] [(.ref la)])) _
          refine XS.iloadN X42.here hx rfl (hb hby d5_15) rfl ?_
          show Steps p.tables e below (T42.setTop (mkF m 16 #[.val (.ref aa0), .val (.ref aa1), .val (.int (2 : Int32)), .val (.int le1)] [(.int (2 : Int32)), (.ref la)])) _
          refine X42.iaload hx (j := (2 : Int32)) (v := (.int le2)) (by rw [e42]; exact Ar_43.1) (State.isArrayOf_alike hZ.alike Ar_43.2.1) Ar_43.2.2 hin_43 hat_43 (g := (mkF m 16 #[.val (.ref aa0), .val (.ref aa1), .val (.int (2 : Int32)), .val (.int le1)] [(.int (2 : Int32)), (.ref la)])) rfl rfl (hb hby d5_16) _ ?_
          show Steps p.tables e below (T42.setTop (mkF m 17 #[.val (.ref aa0), .val (.ref aa1), .val (.int (2 : Int32)), .val (.int le1)] [(.int le2)])) _
          refine XS.istoreN X42.here hx rfl (hb hby d5_17) rfl (l' := #[.val (.ref aa0), .val (.ref aa1), .val (.int (2 : Int32)), .val (.int le2)]) rfl ?_
          show Steps p.tables e below (T42.setTop (mkF m 18 #[.val (.ref aa0), .val (.ref aa1), .val (.int (2 : Int32)), .val (.int le2)] [])) _
          refine XS.iloadN X42.here hx rfl (hb hby d5_18) rfl ?_
          show Steps p.tables e below (T42.setTop (mkF m 19 #[.val (.ref aa0), .val (.ref aa1), .val (.int (2 : Int32)), .val (.int le2)] [(.int le2)])) _
          refine XS.iconst X42.here hx rfl (hb hby d5_19) ?_
          show Steps p.tables e below (T42.setTop (mkF m 20 #[.val (.ref aa0), .val (.ref aa1), .val (.int (2 : Int32)), .val (.int le2)] [(.int (-1 : Int32)), (.int le2)])) _
          refine XS.icmpNo X42.here hx rfl (hb hby d5_20) rfl (feq hc20_4).1 ?_
          show Steps p.tables e below (T42.setTop (mkF m 23 #[.val (.ref aa0), .val (.ref aa1), .val (.int (2 : Int32)), .val (.int le2)] [])) _
          refine XS.aloadN X42.here hx rfl (hb hby d5_23) rfl rfl ?_
          show Steps p.tables e below (T42.setTop (mkF m 24 #[.val (.ref aa0), .val (.ref aa1), .val (.int (2 : Int32)), .val (.int le2)] [(.ref aa0)])) _
          refine st44 _ ?_
          show Steps p.tables e below (T44.setTop (mkF m 27 #[.val (.ref aa0), .val (.ref aa1), .val (.int (2 : Int32)), .val (.int le2)] [(.ref ca)])) _
          refine XS.iloadN X44.here hx rfl (hb hby d5_27) rfl ?_
          show Steps p.tables e below (T44.setTop (mkF m 28 #[.val (.ref aa0), .val (.ref aa1), .val (.int (2 : Int32)), .val (.int le2)] [(.int (2 : Int32)), (.ref ca)])) _
          refine X44.iaload hx (j := (2 : Int32)) (v := (.int ce2)) (by rw [e44]; exact Ar_45.1) (State.isArrayOf_alike hZ.alike Ar_45.2.1) Ar_45.2.2 hin_45 hat_45 (g := (mkF m 28 #[.val (.ref aa0), .val (.ref aa1), .val (.int (2 : Int32)), .val (.int le2)] [(.int (2 : Int32)), (.ref ca)])) rfl rfl (hb hby d5_28) _ ?_
          show Steps p.tables e below (T44.setTop (mkF m 29 #[.val (.ref aa0), .val (.ref aa1), .val (.int (2 : Int32)), .val (.int le2)] [(.int ce2)])) _
          refine XS.bipush X44.here hx rfl (hb hby d5_29) ?_
          show Steps p.tables e below (T44.setTop (mkF m 31 #[.val (.ref aa0), .val (.ref aa1), .val (.int (2 : Int32)), .val (.int le2)] [(.int (-2 : Int32)), (.int ce2)])) _
          refine XS.icmpNo X44.here hx rfl (hb hby d5_31) rfl (feq hc31_4).1 ?_
          show Steps p.tables e below (T44.setTop (mkF m 34 #[.val (.ref aa0), .val (.ref aa1), .val (.int (2 : Int32)), .val (.int le2)] [])) _
          refine XS.iloadN X44.here hx rfl (hb hby d5_34) rfl ?_
          show Steps p.tables e below (T44.setTop (mkF m 35 #[.val (.ref aa0), .val (.ref aa1), .val (.int (2 : Int32)), .val (.int le2)] [(.int le2)])) _
          refine XS.aloadN X44.here hx rfl (hb hby d5_35) rfl rfl ?_
          show Steps p.tables e below (T44.setTop (mkF m 36 #[.val (.ref aa0), .val (.ref aa1), .val (.int (2 : Int32)), .val (.int le2)] [(.ref aa0), (.int le2)])) _
          refine st46 _ ?_
          show Steps p.tables e below (T46.setTop (mkF m 39 #[.val (.ref aa0), .val (.ref aa1), .val (.int (2 : Int32)), .val (.int le2)] [(.ref ca), (.int le2)])) _
          refine XS.iloadN X46.here hx rfl (hb hby d5_39) rfl ?_
          show Steps p.tables e below (T46.setTop (mkF m 40 #[.val (.ref aa0), .val (.ref aa1), .val (.int (2 : Int32)), .val (.int le2)] [(.int (2 : Int32)), (.ref ca), (.int le2)])) _
          refine X46.iaload hx (j := (2 : Int32)) (v := (.int ce2)) (by rw [e46]; exact Ar_47.1) (State.isArrayOf_alike hZ.alike Ar_47.2.1) Ar_47.2.2 hin_47 hat_47 (g := (mkF m 40 #[.val (.ref aa0), .val (.ref aa1), .val (.int (2 : Int32)), .val (.int le2)] [(.int (2 : Int32)), (.ref ca), (.int le2)])) rfl rfl (hb hby d5_40) _ ?_
          show Steps p.tables e below (T46.setTop (mkF m 41 #[.val (.ref aa0), .val (.ref aa1), .val (.int (2 : Int32)), .val (.int le2)] [(.int ce2), (.int le2)])) _
          refine XS.icmpNo X46.here hx rfl (hb hby d5_41) rfl (feq hc41_4).1 ?_
          show Steps p.tables e below (T46.setTop (mkF m 44 #[.val (.ref aa0), .val (.ref aa1), .val (.int (2 : Int32)), .val (.int le2)] [])) _
          refine XS.iconst X46.here hx rfl (hb hby d5_44) ?_
          show Steps p.tables e below (T46.setTop (mkF m 45 #[.val (.ref aa0), .val (.ref aa1), .val (.int (2 : Int32)), .val (.int le2)] [(.int (0 : Int32))])) _
          exact retN X46 hx (t := .boolean) Bd.returns (by simp) (hb hby d5_45) hr
        · show Q5 Z aa0 aa1 ca la kc kl ce0 ce1 ce2 le0 le1 le2 h0 n0 _ T46.heap _
          rw [e46]
          exact ⟨(by rw [own_domv_neg (fun h => hk2 h.2.2)]), N14, rfl⟩
    · skip
      obtain ⟨T48, X48, e48, st48⟩ := getF X2 hx hZ hown (host := "") (Or.inl (hw _ (List.mem_of_getElem? (i := 23) rfl))) Via.refl e2 F_aa0_entries (g := (mkF m 4 #[.val (.ref aa0), .val (.ref aa1), .val (.int (1 : Int32)), .val (.int le0)] [(.ref aa0), (.int (1 : Int32))])) rfl rfl (hb hby d5_4)
      obtain ⟨cl_49, Ar_49, -, Sz_49, Nn_49, -, -⟩ := id V_ca
      have hc8_6 : (1 : Int32) < (3 : Int32) := by decide
      obtain ⟨T50, X50, e50, st50⟩ := getF X48 hx hZ hown (host := "") (Or.inl (hw _ (List.mem_of_getElem? (i := 23) rfl))) Via.refl e48 F_aa1_entries (g := (mkF m 12 #[.val (.ref aa0), .val (.ref aa1), .val (.int (1 : Int32)), .val (.int le0)] [(.ref aa1)])) rfl rfl (hb hby d5_12)
      obtain ⟨cl_51, Ar_51, qq_51, Sz_51, Nn_51, Hh_51, Gg_51⟩ := id V_la
      have hin_51 : ¬ ((1 : Int32) < 0 ∨ cl_51.slots.size ≤ ((1 : Int32)).toNatClampNeg) := inb_of Sz_51 ⟨by decide, by decide⟩
      have hat_51 : cl_51.slots[((1 : Int32)).toNatClampNeg]? = some (.int le1) := Has.at Hh_51 hin_51 rfl
      have hc20_5 : ¬ (le1 = (-1 : Int32)) := (fun h => hk1 (Or.inl h))
      obtain ⟨T52, X52, e52, st52⟩ := getF X50 hx hZ hown (host := "") (Or.inl (hw _ (List.mem_of_getElem? (i := 23) rfl))) Via.refl e50 F_aa0_entries (g := (mkF m 24 #[.val (.ref aa0), .val (.ref aa1), .val (.int (1 : Int32)), .val (.int le1)] [(.ref aa0)])) rfl rfl (hb hby d5_24)
      obtain ⟨cl_53, Ar_53, qq_53, Sz_53, Nn_53, Hh_53, Gg_53⟩ := id V_ca
      have hin_53 : ¬ ((1 : Int32) < 0 ∨ cl_53.slots.size ≤ ((1 : Int32)).toNatClampNeg) := inb_of Sz_53 ⟨by decide, by decide⟩
      have hat_53 : cl_53.slots[((1 : Int32)).toNatClampNeg]? = some (.int ce1) := Has.at Hh_53 hin_53 rfl
      have hc31_5 : ¬ (ce1 = (-2 : Int32)) := (fun h => hk1 (Or.inr (Or.inl h)))
      obtain ⟨T54, X54, e54, st54⟩ := getF X52 hx hZ hown (host := "") (Or.inl (hw _ (List.mem_of_getElem? (i := 23) rfl))) Via.refl e52 F_aa0_entries (g := (mkF m 36 #[.val (.ref aa0), .val (.ref aa1), .val (.int (1 : Int32)), .val (.int le1)] [(.ref aa0), (.int le1)])) rfl rfl (hb hby d5_36)
      obtain ⟨cl_55, Ar_55, qq_55, Sz_55, Nn_55, Hh_55, Gg_55⟩ := id V_ca
      have hin_55 : ¬ ((1 : Int32) < 0 ∨ cl_55.slots.size ≤ ((1 : Int32)).toNatClampNeg) := inb_of Sz_55 ⟨by decide, by decide⟩
      have hat_55 : cl_55.slots[((1 : Int32)).toNatClampNeg]? = some (.int ce1) := Has.at Hh_55 hin_55 rfl
      have hc41_5 : ¬ (le1 = ce1) := (fun h => hk1 (Or.inr (Or.inr h)))
      obtain ⟨fs, hr, hrun, hended, hW, hsame⟩ := X54.leave (v := some (.int (0 : Int32))) (fun h => by rw [Bd.returns] at h; cases h)
      refine ⟨_, _, pre2 _ ?_, hrun, hended, _, _, rfl, ?_, ⟨_, rfl⟩, hW, hsame.mono (by decide) (by decide)⟩
      · show Steps p.tables e below (T2.setTop (mkF m 2 #[.val (.ref aa0), .val (.ref aa1), .val (.int (1 : Int32)), .val (.int le0)] [])) _
        refine XS.iloadN X2.here hx rfl (hb hby d5_2) rfl ?_
        show Steps p.tables e below (T2.setTop (mkF m 3 #[.val (.ref aa0), .val (.ref aa1), .val (.int (1 : Int32)), .val (.int le0)] [(.int (1 : Int32))])) _
        refine XS.aloadN X2.here hx rfl (hb hby d5_3) rfl rfl ?_
        show Steps p.tables e below (T2.setTop (mkF m 4 #[.val (.ref aa0), .val (.ref aa1), .val (.int (1 : Int32)), .val (.int le0)] [(.ref aa0), (.int (1 : Int32))])) _
        refine st48 _ ?_
        show Steps p.tables e below (T48.setTop (mkF m 7 #[.val (.ref aa0), .val (.ref aa1), .val (.int (1 : Int32)), .val (.int le0)] [(.ref ca), (.int (1 : Int32))])) _
        refine X48.arraylength hx (by rw [e48]; exact Ar_49.1) (State.isArrayOf_alike hZ.alike Ar_49.2.1) (g := (mkF m 7 #[.val (.ref aa0), .val (.ref aa1), .val (.int (1 : Int32)), .val (.int le0)] [(.ref ca), (.int (1 : Int32))])) rfl rfl (hb hby d5_7) _ ?_
        rw [len_of Sz_49 Nn_49]
        show Steps p.tables e below (T48.setTop (mkF m 8 #[.val (.ref aa0), .val (.ref aa1), .val (.int (1 : Int32)), .val (.int le0)] [(.int (3 : Int32)), (.int (1 : Int32))])) _
        refine XS.icmpNo X48.here hx rfl (hb hby d5_8) rfl (tlt hc8_6).2.1 ?_
        show Steps p.tables e below (T48.setTop (mkF m 11 #[.val (.ref aa0), .val (.ref aa1), .val (.int (1 : Int32)), .val (.int le0)] [])) _
        refine XS.aloadN X48.here hx rfl (hb hby d5_11) rfl rfl ?_
        show Steps p.tables e below (T48.setTop (mkF m 12 #[.val (.ref aa0), .val (.ref aa1), .val (.int (1 : Int32)), .val (.int le0)] [(.ref aa1)])) _
        refine st50 _ ?_
        show Steps p.tables e below (T50.setTop (mkF m 15 #[.val (.ref aa0), .val (.ref aa1), .val (.int (1 : Int32)), .val (.int le0)] [(.ref la)])) _
        refine XS.iloadN X50.here hx rfl (hb hby d5_15) rfl ?_
        show Steps p.tables e below (T50.setTop (mkF m 16 #[.val (.ref aa0), .val (.ref aa1), .val (.int (1 : Int32)), .val (.int le0)] [(.int (1 : Int32)), (.ref la)])) _
        refine X50.iaload hx (j := (1 : Int32)) (v := (.int le1)) (by rw [e50]; exact Ar_51.1) (State.isArrayOf_alike hZ.alike Ar_51.2.1) Ar_51.2.2 hin_51 hat_51 (g := (mkF m 16 #[.val (.ref aa0), .val (.ref aa1), .val (.int (1 : Int32)), .val (.int le0)] [(.int (1 : Int32)), (.ref la)])) rfl rfl (hb hby d5_16) _ ?_
        show Steps p.tables e below (T50.setTop (mkF m 17 #[.val (.ref aa0), .val (.ref aa1), .val (.int (1 : Int32)), .val (.int le0)] [(.int le1)])) _
        refine XS.istoreN X50.here hx rfl (hb hby d5_17) rfl (l' := #[.val (.ref aa0), .val (.ref aa1), .val (.int (1 : Int32)), .val (.int le1)]) rfl ?_
        show Steps p.tables e below (T50.setTop (mkF m 18 #[.val (.ref aa0), .val (.ref aa1), .val (.int (1 : Int32)), .val (.int le1)] [])) _
        refine XS.iloadN X50.here hx rfl (hb hby d5_18) rfl ?_
        show Steps p.tables e below (T50.setTop (mkF m 19 #[.val (.ref aa0), .val (.ref aa1), .val (.int (1 : Int32)), .val (.int le1)] [(.int le1)])) _
        refine XS.iconst X50.here hx rfl (hb hby d5_19) ?_
        show Steps p.tables e below (T50.setTop (mkF m 20 #[.val (.ref aa0), .val (.ref aa1), .val (.int (1 : Int32)), .val (.int le1)] [(.int (-1 : Int32)), (.int le1)])) _
        refine XS.icmpNo X50.here hx rfl (hb hby d5_20) rfl (feq hc20_5).1 ?_
        show Steps p.tables e below (T50.setTop (mkF m 23 #[.val (.ref aa0), .val (.ref aa1), .val (.int (1 : Int32)), .val (.int le1)] [])) _
        refine XS.aloadN X50.here hx rfl (hb hby d5_23) rfl rfl ?_
        show Steps p.tables e below (T50.setTop (mkF m 24 #[.val (.ref aa0), .val (.ref aa1), .val (.int (1 : Int32)), .val (.int le1)] [(.ref aa0)])) _
        refine st52 _ ?_
        show Steps p.tables e below (T52.setTop (mkF m 27 #[.val (.ref aa0), .val (.ref aa1), .val (.int (1 : Int32)), .val (.int le1)] [(.ref ca)])) _
        refine XS.iloadN X52.here hx rfl (hb hby d5_27) rfl ?_
        show Steps p.tables e below (T52.setTop (mkF m 28 #[.val (.ref aa0), .val (.ref aa1), .val (.int (1 : Int32)), .val (.int le1)] [(.int (1 : Int32)), (.ref ca)])) _
        refine X52.iaload hx (j := (1 : Int32)) (v := (.int ce1)) (by rw [e52]; exact Ar_53.1) (State.isArrayOf_alike hZ.alike Ar_53.2.1) Ar_53.2.2 hin_53 hat_53 (g := (mkF m 28 #[.val (.ref aa0), .val (.ref aa1), .val (.int (1 : Int32)), .val (.int le1)] [(.int (1 : Int32)), (.ref ca)])) rfl rfl (hb hby d5_28) _ ?_
        show Steps p.tables e below (T52.setTop (mkF m 29 #[.val (.ref aa0), .val (.ref aa1), .val (.int (1 : Int32)), .val (.int le1)] [(.int ce1)])) _
        refine XS.bipush X52.here hx rfl (hb hby d5_29) ?_
        show Steps p.tables e below (T52.setTop (mkF m 31 #[.val (.ref aa0), .val (.ref aa1), .val (.int (1 : Int32)), .val (.int le1)] [(.int (-2 : Int32)), (.int ce1)])) _
        refine XS.icmpNo X52.here hx rfl (hb hby d5_31) rfl (feq hc31_5).1 ?_
        show Steps p.tables e below (T52.setTop (mkF m 34 #[.val (.ref aa0), .val (.ref aa1), .val (.int (1 : Int32)), .val (.int le1)] [])) _
        refine XS.iloadN X52.here hx rfl (hb hby d5_34) rfl ?_
        show Steps p.tables e below (T52.setTop (mkF m 35 #[.val (.ref aa0), .val (.ref aa1), .val (.int (1 : Int32)), .val (.int le1)] [(.int le1)])) _
        refine XS.aloadN X52.here hx rfl (hb hby d5_35) rfl rfl ?_
        show Steps p.tables e below (T52.setTop (mkF m 36 #[.val (.ref aa0), .val (.ref aa1), .val (.int (1 : Int32)), .val (.int le1)] [(.ref aa0), (.int le1)])) _
        refine st54 _ ?_
        show Steps p.tables e below (T54.setTop (mkF m 39 #[.val (.ref aa0), .val (.ref aa1), .val (.int (1 : Int32)), .val (.int le1)] [(.ref ca), (.int le1)])) _
        refine XS.iloadN X54.here hx rfl (hb hby d5_39) rfl ?_
        show Steps p.tables e below (T54.setTop (mkF m 40 #[.val (.ref aa0), .val (.ref aa1), .val (.int (1 : Int32)), .val (.int le1)] [(.int (1 : Int32)), (.ref ca), (.int le1)])) _
        refine X54.iaload hx (j := (1 : Int32)) (v := (.int ce1)) (by rw [e54]; exact Ar_55.1) (State.isArrayOf_alike hZ.alike Ar_55.2.1) Ar_55.2.2 hin_55 hat_55 (g := (mkF m 40 #[.val (.ref aa0), .val (.ref aa1), .val (.int (1 : Int32)), .val (.int le1)] [(.int (1 : Int32)), (.ref ca), (.int le1)])) rfl rfl (hb hby d5_40) _ ?_
        show Steps p.tables e below (T54.setTop (mkF m 41 #[.val (.ref aa0), .val (.ref aa1), .val (.int (1 : Int32)), .val (.int le1)] [(.int ce1), (.int le1)])) _
        refine XS.icmpNo X54.here hx rfl (hb hby d5_41) rfl (feq hc41_5).1 ?_
        show Steps p.tables e below (T54.setTop (mkF m 44 #[.val (.ref aa0), .val (.ref aa1), .val (.int (1 : Int32)), .val (.int le1)] [])) _
        refine XS.iconst X54.here hx rfl (hb hby d5_44) ?_
        show Steps p.tables e below (T54.setTop (mkF m 45 #[.val (.ref aa0), .val (.ref aa1), .val (.int (1 : Int32)), .val (.int le1)] [(.int (0 : Int32))])) _
        exact retN X54 hx (t := .boolean) Bd.returns (by simp) (hb hby d5_45) hr
      · show Q5 Z aa0 aa1 ca la kc kl ce0 ce1 ce2 le0 le1 le2 h0 n0 _ T54.heap _
        rw [e54]
        exact ⟨(by rw [own_domv_neg (fun h => hk1 h.2.1)]), N2, rfl⟩
  · skip
    obtain ⟨T56, X56, e56, st56⟩ := getF X0 hx hZ hown (host := "") (Or.inl (hw _ (List.mem_of_getElem? (i := 23) rfl))) Via.refl e0 F_aa0_entries (g := (mkF m 4 #[.val (.ref aa0), .val (.ref aa1), .val (.int (0 : Int32)), .unset] [(.ref aa0), (.int (0 : Int32))])) rfl rfl (hb hby d5_4)
    obtain ⟨cl_57, Ar_57, -, Sz_57, Nn_57, -, -⟩ := id V_ca
    have hc8_7 : (0 : Int32) < (3 : Int32) := by decide
    obtain ⟨T58, X58, e58, st58⟩ := getF X56 hx hZ hown (host := "") (Or.inl (hw _ (List.mem_of_getElem? (i := 23) rfl))) Via.refl e56 F_aa1_entries (g := (mkF m 12 #[.val (.ref aa0), .val (.ref aa1), .val (.int (0 : Int32)), .unset] [(.ref aa1)])) rfl rfl (hb hby d5_12)
    obtain ⟨cl_59, Ar_59, qq_59, Sz_59, Nn_59, Hh_59, Gg_59⟩ := id V_la
    have hin_59 : ¬ ((0 : Int32) < 0 ∨ cl_59.slots.size ≤ ((0 : Int32)).toNatClampNeg) := inb_of Sz_59 ⟨by decide, by decide⟩
    have hat_59 : cl_59.slots[((0 : Int32)).toNatClampNeg]? = some (.int le0) := Has.at Hh_59 hin_59 rfl
    have hc20_6 : ¬ (le0 = (-1 : Int32)) := (fun h => hk0 (Or.inl h))
    obtain ⟨T60, X60, e60, st60⟩ := getF X58 hx hZ hown (host := "") (Or.inl (hw _ (List.mem_of_getElem? (i := 23) rfl))) Via.refl e58 F_aa0_entries (g := (mkF m 24 #[.val (.ref aa0), .val (.ref aa1), .val (.int (0 : Int32)), .val (.int le0)] [(.ref aa0)])) rfl rfl (hb hby d5_24)
    obtain ⟨cl_61, Ar_61, qq_61, Sz_61, Nn_61, Hh_61, Gg_61⟩ := id V_ca
    have hin_61 : ¬ ((0 : Int32) < 0 ∨ cl_61.slots.size ≤ ((0 : Int32)).toNatClampNeg) := inb_of Sz_61 ⟨by decide, by decide⟩
    have hat_61 : cl_61.slots[((0 : Int32)).toNatClampNeg]? = some (.int ce0) := Has.at Hh_61 hin_61 rfl
    have hc31_6 : ¬ (ce0 = (-2 : Int32)) := (fun h => hk0 (Or.inr (Or.inl h)))
    obtain ⟨T62, X62, e62, st62⟩ := getF X60 hx hZ hown (host := "") (Or.inl (hw _ (List.mem_of_getElem? (i := 23) rfl))) Via.refl e60 F_aa0_entries (g := (mkF m 36 #[.val (.ref aa0), .val (.ref aa1), .val (.int (0 : Int32)), .val (.int le0)] [(.ref aa0), (.int le0)])) rfl rfl (hb hby d5_36)
    obtain ⟨cl_63, Ar_63, qq_63, Sz_63, Nn_63, Hh_63, Gg_63⟩ := id V_ca
    have hin_63 : ¬ ((0 : Int32) < 0 ∨ cl_63.slots.size ≤ ((0 : Int32)).toNatClampNeg) := inb_of Sz_63 ⟨by decide, by decide⟩
    have hat_63 : cl_63.slots[((0 : Int32)).toNatClampNeg]? = some (.int ce0) := Has.at Hh_63 hin_63 rfl
    have hc41_6 : ¬ (le0 = ce0) := (fun h => hk0 (Or.inr (Or.inr h)))
    obtain ⟨fs, hr, hrun, hended, hW, hsame⟩ := X62.leave (v := some (.int (0 : Int32))) (fun h => by rw [Bd.returns] at h; cases h)
    refine ⟨_, _, pre1 _ ?_, hrun, hended, _, _, rfl, ?_, ⟨_, rfl⟩, hW, hsame.mono (by decide) (by decide)⟩
    · show Steps p.tables e below (s₁.setTop (mkF m 2 #[.val (.ref aa0), .val (.ref aa1), .val (.int (0 : Int32)), .unset] [])) _
      refine XS.iloadN X0.here hx rfl (hb hby d5_2) rfl ?_
      show Steps p.tables e below (s₁.setTop (mkF m 3 #[.val (.ref aa0), .val (.ref aa1), .val (.int (0 : Int32)), .unset] [(.int (0 : Int32))])) _
      refine XS.aloadN X0.here hx rfl (hb hby d5_3) rfl rfl ?_
      show Steps p.tables e below (s₁.setTop (mkF m 4 #[.val (.ref aa0), .val (.ref aa1), .val (.int (0 : Int32)), .unset] [(.ref aa0), (.int (0 : Int32))])) _
      refine st56 _ ?_
      show Steps p.tables e below (T56.setTop (mkF m 7 #[.val (.ref aa0), .val (.ref aa1), .val (.int (0 : Int32)), .unset] [(.ref ca), (.int (0 : Int32))])) _
      refine X56.arraylength hx (by rw [e56]; exact Ar_57.1) (State.isArrayOf_alike hZ.alike Ar_57.2.1) (g := (mkF m 7 #[.val (.ref aa0), .val (.ref aa1), .val (.int (0 : Int32)), .unset] [(.ref ca), (.int (0 : Int32))])) rfl rfl (hb hby d5_7) _ ?_
      rw [len_of Sz_57 Nn_57]
      show Steps p.tables e below (T56.setTop (mkF m 8 #[.val (.ref aa0), .val (.ref aa1), .val (.int (0 : Int32)), .unset] [(.int (3 : Int32)), (.int (0 : Int32))])) _
      refine XS.icmpNo X56.here hx rfl (hb hby d5_8) rfl (tlt hc8_7).2.1 ?_
      show Steps p.tables e below (T56.setTop (mkF m 11 #[.val (.ref aa0), .val (.ref aa1), .val (.int (0 : Int32)), .unset] [])) _
      refine XS.aloadN X56.here hx rfl (hb hby d5_11) rfl rfl ?_
      show Steps p.tables e below (T56.setTop (mkF m 12 #[.val (.ref aa0), .val (.ref aa1), .val (.int (0 : Int32)), .unset] [(.ref aa1)])) _
      refine st58 _ ?_
      show Steps p.tables e below (T58.setTop (mkF m 15 #[.val (.ref aa0), .val (.ref aa1), .val (.int (0 : Int32)), .unset] [(.ref la)])) _
      refine XS.iloadN X58.here hx rfl (hb hby d5_15) rfl ?_
      show Steps p.tables e below (T58.setTop (mkF m 16 #[.val (.ref aa0), .val (.ref aa1), .val (.int (0 : Int32)), .unset] [(.int (0 : Int32)), (.ref la)])) _
      refine X58.iaload hx (j := (0 : Int32)) (v := (.int le0)) (by rw [e58]; exact Ar_59.1) (State.isArrayOf_alike hZ.alike Ar_59.2.1) Ar_59.2.2 hin_59 hat_59 (g := (mkF m 16 #[.val (.ref aa0), .val (.ref aa1), .val (.int (0 : Int32)), .unset] [(.int (0 : Int32)), (.ref la)])) rfl rfl (hb hby d5_16) _ ?_
      show Steps p.tables e below (T58.setTop (mkF m 17 #[.val (.ref aa0), .val (.ref aa1), .val (.int (0 : Int32)), .unset] [(.int le0)])) _
      refine XS.istoreN X58.here hx rfl (hb hby d5_17) rfl (l' := #[.val (.ref aa0), .val (.ref aa1), .val (.int (0 : Int32)), .val (.int le0)]) rfl ?_
      show Steps p.tables e below (T58.setTop (mkF m 18 #[.val (.ref aa0), .val (.ref aa1), .val (.int (0 : Int32)), .val (.int le0)] [])) _
      refine XS.iloadN X58.here hx rfl (hb hby d5_18) rfl ?_
      show Steps p.tables e below (T58.setTop (mkF m 19 #[.val (.ref aa0), .val (.ref aa1), .val (.int (0 : Int32)), .val (.int le0)] [(.int le0)])) _
      refine XS.iconst X58.here hx rfl (hb hby d5_19) ?_
      show Steps p.tables e below (T58.setTop (mkF m 20 #[.val (.ref aa0), .val (.ref aa1), .val (.int (0 : Int32)), .val (.int le0)] [(.int (-1 : Int32)), (.int le0)])) _
      refine XS.icmpNo X58.here hx rfl (hb hby d5_20) rfl (feq hc20_6).1 ?_
      show Steps p.tables e below (T58.setTop (mkF m 23 #[.val (.ref aa0), .val (.ref aa1), .val (.int (0 : Int32)), .val (.int le0)] [])) _
      refine XS.aloadN X58.here hx rfl (hb hby d5_23) rfl rfl ?_
      show Steps p.tables e below (T58.setTop (mkF m 24 #[.val (.ref aa0), .val (.ref aa1), .val (.int (0 : Int32)), .val (.int le0)] [(.ref aa0)])) _
      refine st60 _ ?_
      show Steps p.tables e below (T60.setTop (mkF m 27 #[.val (.ref aa0), .val (.ref aa1), .val (.int (0 : Int32)), .val (.int le0)] [(.ref ca)])) _
      refine XS.iloadN X60.here hx rfl (hb hby d5_27) rfl ?_
      show Steps p.tables e below (T60.setTop (mkF m 28 #[.val (.ref aa0), .val (.ref aa1), .val (.int (0 : Int32)), .val (.int le0)] [(.int (0 : Int32)), (.ref ca)])) _
      refine X60.iaload hx (j := (0 : Int32)) (v := (.int ce0)) (by rw [e60]; exact Ar_61.1) (State.isArrayOf_alike hZ.alike Ar_61.2.1) Ar_61.2.2 hin_61 hat_61 (g := (mkF m 28 #[.val (.ref aa0), .val (.ref aa1), .val (.int (0 : Int32)), .val (.int le0)] [(.int (0 : Int32)), (.ref ca)])) rfl rfl (hb hby d5_28) _ ?_
      show Steps p.tables e below (T60.setTop (mkF m 29 #[.val (.ref aa0), .val (.ref aa1), .val (.int (0 : Int32)), .val (.int le0)] [(.int ce0)])) _
      refine XS.bipush X60.here hx rfl (hb hby d5_29) ?_
      show Steps p.tables e below (T60.setTop (mkF m 31 #[.val (.ref aa0), .val (.ref aa1), .val (.int (0 : Int32)), .val (.int le0)] [(.int (-2 : Int32)), (.int ce0)])) _
      refine XS.icmpNo X60.here hx rfl (hb hby d5_31) rfl (feq hc31_6).1 ?_
      show Steps p.tables e below (T60.setTop (mkF m 34 #[.val (.ref aa0), .val (.ref aa1), .val (.int (0 : Int32)), .val (.int le0)] [])) _
      refine XS.iloadN X60.here hx rfl (hb hby d5_34) rfl ?_
      show Steps p.tables e below (T60.setTop (mkF m 35 #[.val (.ref aa0), .val (.ref aa1), .val (.int (0 : Int32)), .val (.int le0)] [(.int le0)])) _
      refine XS.aloadN X60.here hx rfl (hb hby d5_35) rfl rfl ?_
      show Steps p.tables e below (T60.setTop (mkF m 36 #[.val (.ref aa0), .val (.ref aa1), .val (.int (0 : Int32)), .val (.int le0)] [(.ref aa0), (.int le0)])) _
      refine st62 _ ?_
      show Steps p.tables e below (T62.setTop (mkF m 39 #[.val (.ref aa0), .val (.ref aa1), .val (.int (0 : Int32)), .val (.int le0)] [(.ref ca), (.int le0)])) _
      refine XS.iloadN X62.here hx rfl (hb hby d5_39) rfl ?_
      show Steps p.tables e below (T62.setTop (mkF m 40 #[.val (.ref aa0), .val (.ref aa1), .val (.int (0 : Int32)), .val (.int le0)] [(.int (0 : Int32)), (.ref ca), (.int le0)])) _
      refine X62.iaload hx (j := (0 : Int32)) (v := (.int ce0)) (by rw [e62]; exact Ar_63.1) (State.isArrayOf_alike hZ.alike Ar_63.2.1) Ar_63.2.2 hin_63 hat_63 (g := (mkF m 40 #[.val (.ref aa0), .val (.ref aa1), .val (.int (0 : Int32)), .val (.int le0)] [(.int (0 : Int32)), (.ref ca), (.int le0)])) rfl rfl (hb hby d5_40) _ ?_
      show Steps p.tables e below (T62.setTop (mkF m 41 #[.val (.ref aa0), .val (.ref aa1), .val (.int (0 : Int32)), .val (.int le0)] [(.int ce0), (.int le0)])) _
      refine XS.icmpNo X62.here hx rfl (hb hby d5_41) rfl (feq hc41_6).1 ?_
      show Steps p.tables e below (T62.setTop (mkF m 44 #[.val (.ref aa0), .val (.ref aa1), .val (.int (0 : Int32)), .val (.int le0)] [])) _
      refine XS.iconst X62.here hx rfl (hb hby d5_44) ?_
      show Steps p.tables e below (T62.setTop (mkF m 45 #[.val (.ref aa0), .val (.ref aa1), .val (.int (0 : Int32)), .val (.int le0)] [(.int (0 : Int32))])) _
      exact retN X62 hx (t := .boolean) Bd.returns (by simp) (hb hby d5_45) hr
    · show Q5 Z aa0 aa1 ca la kc kl ce0 ce1 ce2 le0 le1 le2 h0 n0 _ T62.heap _
      rw [e62]
      exact ⟨(by rw [own_domv_neg (fun h => hk0 h.1)]), N0, rfl⟩
theorem pd__28_I_29_I : parseMethodDescriptor "(I)I" = some ⟨[.int], some .int⟩ := by decide +kernel
theorem own_str_in : ∀ w ∈ Bundle.stringAtoms, w ∈ tables_1 := by decide +kernel
theorem pd__28__5b_ILjava_2f_lang_2f_String_3b__29_V : parseMethodDescriptor "([ILjava/lang/String;)V" = some ⟨[(.array .int), (.object "java/lang/String")], none⟩ := by decide +kernel
theorem pd__28_II_29_Z : parseMethodDescriptor "(II)Z" = some ⟨[.int, .int], some .boolean⟩ := by decide +kernel
theorem pd__28_Lcom_2f_example_2f_guarded_stream_2f_guardedstream_2f_model_2f_SecurityLevel_3b__29_Z : parseMethodDescriptor "(Lcom/example/guarded_stream/guardedstream/model/SecurityLevel;)Z" = some ⟨[(.object "com/example/guarded_stream/guardedstream/model/SecurityLevel")], some .boolean⟩ := by decide +kernel
theorem ef_0 (m : MethodId) (x0 : Int32) (x1 : Int32) (x2 : Int32) (x3 : Int32) (x4 : Int32) (x5 : Int32) : entryFrame m #[(.int x0), (.int x1), (.int x2), (.int x3), (.int x4), (.int x5)] maxLocals = mkF m 0 #[.val (.int x0), .val (.int x1), .val (.int x2), .val (.int x3), .val (.int x4), .val (.int x5), .unset, .unset, .unset, .unset, .unset, .unset, .unset, .unset, .unset, .unset, .unset] [] := by first | (simp [entryFrame, mkF, argsToLocals, Value.category, maxLocals]; done) | rfl
def Q0 (Z : State) (pp1 : Int32) (pp2 : Int32) (pp3 : Int32) (pp4 : Int32) (pp5 : Int32) (pp6 : Int32) (h0 : Heap) (n0 : Nat) (v : Option Value) (h : Heap) (L : List Loc) : Prop := v = some (.int 1) ∧ Fr n0 L
set_option maxRecDepth 65536 in
set_option maxHeartbeats 40000000 in
theorem rm0 (l : Launch) (Z : State) (a0 : Array Value) (hw : ∀ d ∈ tables_1, d.before a0 Z = true) (ws : List Jvm.Cond) (pp1 : Int32) (pp2 : Int32) (pp3 : Int32) (pp4 : Int32) (pp5 : Int32) (pp6 : Int32) (h0 : Heap) (n0 : Nat) (Z0 : n0 ≤ h0.size) :
    MetFree l x (head1 (Jvm.Cond.code x code maxLocals ret :: ws) room_1) (fun a U => a = #[(.int pp1), (.int pp2), (.int pp3), (.int pp4), (.int pp5), (.int pp6)] ∧ Z.Warmed39 U.vm ∧ U.heap = h0) (fun _ _ _ _ _ => True) (fun _ U o U' => ∃ v L, o = .returned v ∧ Q0 Z pp1 pp2 pp3 pp4 pp5 pp6 h0 n0 v U'.heap L ∧ ReturnedEndW U o U' L room_1.cells room_1.slots) := by
  refine MetFree.of_bodySF (plainFor_of_name pn_com_example_guarded_stream_guardedstream_model_SecurityLevelDominatesPinLaw) hisR ?_
  intro p e s m args below meth c s₁ Bd hml0 hP hK
  obtain ⟨rfl, hZ, hh⟩ := hP
  have hx := Bd.exec
  have hby := Bd.bytes
  have hml : c.maxLocals = 17 := hml0
  have hown : s.vm.findClass "com/example/guarded_stream/guardedstream/model/SecurityLevelDominatesPinLaw" = some m.cls := findClass_of_methodNamed Bd.named
  have hnm := (name_of_methodNamed Bd.named Bd.method).1
  have X0 : Stand p l e room_1 s m #[(.int pp1), (.int pp2), (.int pp3), (.int pp4), (.int pp5), (.int pp6)] below meth c s₁ [] 0 0 := Stand.of_body Bd
  have e0 : s₁.heap = h0 := by rw [← hh, Bd.state]; rfl
  have N0 := Fr.nil n0
  have pre0 : ∀ t, Steps p.tables e below (s₁.setTop (mkF m 0 #[.val (.int pp1), .val (.int pp2), .val (.int pp3), .val (.int pp4), .val (.int pp5), .val (.int pp6), .unset, .unset, .unset, .unset, .unset, .unset, .unset, .unset, .unset, .unset, .unset] [])) t → Steps p.tables e below (s₁.setTop (entryFrame m #[(.int pp1), (.int pp2), (.int pp3), (.int pp4), (.int pp5), (.int pp6)] maxLocals)) t := fun t k => castTop (ef_0 m pp1 pp2 pp3 pp4 pp5 pp6) k
  have hS0 : s.Since s.vm h0.size := (State.WarmedH.refl s).since _
  obtain ⟨_, _, ⟨T1, L1, k1, n1⟩, -, X1, ⟨Lc1, hQ1, l1, y1, z1⟩, st1⟩ := Jvm.LawKit.callS X0 hx (y := (⟨"com/example/guarded_stream/guardedstream/model/SecurityLevelDominatesPinLaw", "entry", "(I)I"⟩ : MethodName)) hown (mvT hZ (hw _ (List.mem_of_getElem? (i := 0) rfl))) (mvT hZ (hw _ (List.mem_of_getElem? (i := 1) rfl))) (mvT hZ (hw _ (List.mem_of_getElem? (i := 2) rfl))) (mvT hZ (hw _ (List.mem_of_getElem? (i := 3) rfl))) (by decide) (backOf (W := 0) (rm1 l Z a0 hw [] pp1 h0 n0 Z0 ) hZ (hw _ (List.mem_of_getElem? (i := 3) rfl)) (hw _ (List.mem_of_getElem? (i := 2) rfl)) (by decide) (by decide)) (g := (mkF m 1 #[.val (.int pp1), .val (.int pp2), .val (.int pp3), .val (.int pp4), .val (.int pp5), .val (.int pp6), .unset, .unset, .unset, .unset, .unset, .unset, .unset, .unset, .unset, .unset, .unset] [(.int pp1)])) rfl (by rw [hml]; rfl) (argsL := [(.int pp1)]) (rest := []) (lenOf pd__28_I_29_I rfl) rfl (by show 2 * 0 + _ ≤ _; exact Nat.le_of_eq rfl) (hb hby at_1) (fun _ _ => ⟨rfl, e0, (by decide : 0 + 0 ≤ _), (by decide : 0 + 0 ≤ _)⟩)
  dsimp only [Pt.U, Pt.locs, Pt.cells, Pt.slots] at X1 l1 y1 z1 st1 hQ1
  subst l1 y1 z1
  obtain ⟨rfl, N1q, e1⟩ := hQ1
  have N1 := Fr.app N0 N1q
  obtain ⟨_, _, ⟨T2, L2, k2, n2⟩, -, X2, ⟨Lc2, hQ2, l2, y2, z2⟩, st2⟩ := Jvm.LawKit.callS X1 hx (y := (⟨"com/example/guarded_stream/guardedstream/model/SecurityLevelDominatesPinLaw", "entry", "(I)I"⟩ : MethodName)) hown (mvT hZ (hw _ (List.mem_of_getElem? (i := 0) rfl))) (mvT hZ (hw _ (List.mem_of_getElem? (i := 1) rfl))) (mvT hZ (hw _ (List.mem_of_getElem? (i := 2) rfl))) (mvT hZ (hw _ (List.mem_of_getElem? (i := 3) rfl))) (by decide) (backOf (W := 0) (rm1 l Z a0 hw [] pp2 h0 n0 Z0 ) hZ (hw _ (List.mem_of_getElem? (i := 3) rfl)) (hw _ (List.mem_of_getElem? (i := 2) rfl)) (by decide) (by decide)) (g := (mkF m 7 #[.val (.int pp1), .val (.int pp2), .val (.int pp3), .val (.int pp4), .val (.int pp5), .val (.int pp6), .val (.int (((pp1 &&& (2147483647 : Int32)) % (5 : Int32)) - (2 : Int32))), .unset, .unset, .unset, .unset, .unset, .unset, .unset, .unset, .unset, .unset] [(.int pp2)])) rfl (by rw [hml]; rfl) (argsL := [(.int pp2)]) (rest := []) (lenOf pd__28_I_29_I rfl) rfl (by show 2 * 0 + _ ≤ _; exact Nat.le_of_eq rfl) (hb hby at_7) (fun _ _ => ⟨rfl, e1, (by decide : 0 + 0 ≤ _), (by decide : 0 + 0 ≤ _)⟩)
  dsimp only [Pt.U, Pt.locs, Pt.cells, Pt.slots] at X2 l2 y2 z2 st2 hQ2
  subst l2 y2 z2
  obtain ⟨rfl, N2q, e2⟩ := hQ2
  have N2 := Fr.app N1 N2q
  obtain ⟨_, _, ⟨T3, L3, k3, n3⟩, -, X3, ⟨Lc3, hQ3, l3, y3, z3⟩, st3⟩ := Jvm.LawKit.callS X2 hx (y := (⟨"com/example/guarded_stream/guardedstream/model/SecurityLevelDominatesPinLaw", "entry", "(I)I"⟩ : MethodName)) hown (mvT hZ (hw _ (List.mem_of_getElem? (i := 0) rfl))) (mvT hZ (hw _ (List.mem_of_getElem? (i := 1) rfl))) (mvT hZ (hw _ (List.mem_of_getElem? (i := 2) rfl))) (mvT hZ (hw _ (List.mem_of_getElem? (i := 3) rfl))) (by decide) (backOf (W := 0) (rm1 l Z a0 hw [] pp3 h0 n0 Z0 ) hZ (hw _ (List.mem_of_getElem? (i := 3) rfl)) (hw _ (List.mem_of_getElem? (i := 2) rfl)) (by decide) (by decide)) (g := (mkF m 13 #[.val (.int pp1), .val (.int pp2), .val (.int pp3), .val (.int pp4), .val (.int pp5), .val (.int pp6), .val (.int (((pp1 &&& (2147483647 : Int32)) % (5 : Int32)) - (2 : Int32))), .val (.int (((pp2 &&& (2147483647 : Int32)) % (5 : Int32)) - (2 : Int32))), .unset, .unset, .unset, .unset, .unset, .unset, .unset, .unset, .unset] [(.int pp3)])) rfl (by rw [hml]; rfl) (argsL := [(.int pp3)]) (rest := []) (lenOf pd__28_I_29_I rfl) rfl (by show 2 * 0 + _ ≤ _; exact Nat.le_of_eq rfl) (hb hby at_13) (fun _ _ => ⟨rfl, e2, (by decide : 0 + 0 ≤ _), (by decide : 0 + 0 ≤ _)⟩)
  dsimp only [Pt.U, Pt.locs, Pt.cells, Pt.slots] at X3 l3 y3 z3 st3 hQ3
  subst l3 y3 z3
  obtain ⟨rfl, N3q, e3⟩ := hQ3
  have N3 := Fr.app N2 N3q
  obtain ⟨_, _, ⟨T4, L4, k4, n4⟩, -, X4, ⟨Lc4, hQ4, l4, y4, z4⟩, st4⟩ := Jvm.LawKit.callS X3 hx (y := (⟨"com/example/guarded_stream/guardedstream/model/SecurityLevelDominatesPinLaw", "entry", "(I)I"⟩ : MethodName)) hown (mvT hZ (hw _ (List.mem_of_getElem? (i := 0) rfl))) (mvT hZ (hw _ (List.mem_of_getElem? (i := 1) rfl))) (mvT hZ (hw _ (List.mem_of_getElem? (i := 2) rfl))) (mvT hZ (hw _ (List.mem_of_getElem? (i := 3) rfl))) (by decide) (backOf (W := 0) (rm1 l Z a0 hw [] pp4 h0 n0 Z0 ) hZ (hw _ (List.mem_of_getElem? (i := 3) rfl)) (hw _ (List.mem_of_getElem? (i := 2) rfl)) (by decide) (by decide)) (g := (mkF m 19 #[.val (.int pp1), .val (.int pp2), .val (.int pp3), .val (.int pp4), .val (.int pp5), .val (.int pp6), .val (.int (((pp1 &&& (2147483647 : Int32)) % (5 : Int32)) - (2 : Int32))), .val (.int (((pp2 &&& (2147483647 : Int32)) % (5 : Int32)) - (2 : Int32))), .val (.int (((pp3 &&& (2147483647 : Int32)) % (5 : Int32)) - (2 : Int32))), .unset, .unset, .unset, .unset, .unset, .unset, .unset, .unset] [(.int pp4)])) rfl (by rw [hml]; rfl) (argsL := [(.int pp4)]) (rest := []) (lenOf pd__28_I_29_I rfl) rfl (by show 2 * 0 + _ ≤ _; exact Nat.le_of_eq rfl) (hb hby at_19) (fun _ _ => ⟨rfl, e3, (by decide : 0 + 0 ≤ _), (by decide : 0 + 0 ≤ _)⟩)
  dsimp only [Pt.U, Pt.locs, Pt.cells, Pt.slots] at X4 l4 y4 z4 st4 hQ4
  subst l4 y4 z4
  obtain ⟨rfl, N4q, e4⟩ := hQ4
  have N4 := Fr.app N3 N4q
  obtain ⟨_, _, ⟨T5, L5, k5, n5⟩, -, X5, ⟨Lc5, hQ5, l5, y5, z5⟩, st5⟩ := Jvm.LawKit.callS X4 hx (y := (⟨"com/example/guarded_stream/guardedstream/model/SecurityLevelDominatesPinLaw", "entry", "(I)I"⟩ : MethodName)) hown (mvT hZ (hw _ (List.mem_of_getElem? (i := 0) rfl))) (mvT hZ (hw _ (List.mem_of_getElem? (i := 1) rfl))) (mvT hZ (hw _ (List.mem_of_getElem? (i := 2) rfl))) (mvT hZ (hw _ (List.mem_of_getElem? (i := 3) rfl))) (by decide) (backOf (W := 0) (rm1 l Z a0 hw [] pp5 h0 n0 Z0 ) hZ (hw _ (List.mem_of_getElem? (i := 3) rfl)) (hw _ (List.mem_of_getElem? (i := 2) rfl)) (by decide) (by decide)) (g := (mkF m 26 #[.val (.int pp1), .val (.int pp2), .val (.int pp3), .val (.int pp4), .val (.int pp5), .val (.int pp6), .val (.int (((pp1 &&& (2147483647 : Int32)) % (5 : Int32)) - (2 : Int32))), .val (.int (((pp2 &&& (2147483647 : Int32)) % (5 : Int32)) - (2 : Int32))), .val (.int (((pp3 &&& (2147483647 : Int32)) % (5 : Int32)) - (2 : Int32))), .val (.int (((pp4 &&& (2147483647 : Int32)) % (5 : Int32)) - (2 : Int32))), .unset, .unset, .unset, .unset, .unset, .unset, .unset] [(.int pp5)])) rfl (by rw [hml]; rfl) (argsL := [(.int pp5)]) (rest := []) (lenOf pd__28_I_29_I rfl) rfl (by show 2 * 0 + _ ≤ _; exact Nat.le_of_eq rfl) (hb hby at_26) (fun _ _ => ⟨rfl, e4, (by decide : 0 + 0 ≤ _), (by decide : 0 + 0 ≤ _)⟩)
  dsimp only [Pt.U, Pt.locs, Pt.cells, Pt.slots] at X5 l5 y5 z5 st5 hQ5
  subst l5 y5 z5
  obtain ⟨rfl, N5q, e5⟩ := hQ5
  have N5 := Fr.app N4 N5q
  obtain ⟨_, _, ⟨T6, L6, k6, n6⟩, -, X6, ⟨Lc6, hQ6, l6, y6, z6⟩, st6⟩ := Jvm.LawKit.callS X5 hx (y := (⟨"com/example/guarded_stream/guardedstream/model/SecurityLevelDominatesPinLaw", "entry", "(I)I"⟩ : MethodName)) hown (mvT hZ (hw _ (List.mem_of_getElem? (i := 0) rfl))) (mvT hZ (hw _ (List.mem_of_getElem? (i := 1) rfl))) (mvT hZ (hw _ (List.mem_of_getElem? (i := 2) rfl))) (mvT hZ (hw _ (List.mem_of_getElem? (i := 3) rfl))) (by decide) (backOf (W := 0) (rm1 l Z a0 hw [] pp6 h0 n0 Z0 ) hZ (hw _ (List.mem_of_getElem? (i := 3) rfl)) (hw _ (List.mem_of_getElem? (i := 2) rfl)) (by decide) (by decide)) (g := (mkF m 33 #[.val (.int pp1), .val (.int pp2), .val (.int pp3), .val (.int pp4), .val (.int pp5), .val (.int pp6), .val (.int (((pp1 &&& (2147483647 : Int32)) % (5 : Int32)) - (2 : Int32))), .val (.int (((pp2 &&& (2147483647 : Int32)) % (5 : Int32)) - (2 : Int32))), .val (.int (((pp3 &&& (2147483647 : Int32)) % (5 : Int32)) - (2 : Int32))), .val (.int (((pp4 &&& (2147483647 : Int32)) % (5 : Int32)) - (2 : Int32))), .val (.int (((pp5 &&& (2147483647 : Int32)) % (5 : Int32)) - (2 : Int32))), .unset, .unset, .unset, .unset, .unset, .unset] [(.int pp6)])) rfl (by rw [hml]; rfl) (argsL := [(.int pp6)]) (rest := []) (lenOf pd__28_I_29_I rfl) rfl (by show 2 * 0 + _ ≤ _; exact Nat.le_of_eq rfl) (hb hby at_33) (fun _ _ => ⟨rfl, e5, (by decide : 0 + 0 ≤ _), (by decide : 0 + 0 ≤ _)⟩)
  dsimp only [Pt.U, Pt.locs, Pt.cells, Pt.slots] at X6 l6 y6 z6 st6 hQ6
  subst l6 y6 z6
  obtain ⟨rfl, N6q, e6⟩ := hQ6
  have N6 := Fr.app N5 N6q
  have pre7 : ∀ t, Steps p.tables e below (T6.setTop (mkF m 38 #[.val (.int pp1), .val (.int pp2), .val (.int pp3), .val (.int pp4), .val (.int pp5), .val (.int pp6), .val (.int (((pp1 &&& (2147483647 : Int32)) % (5 : Int32)) - (2 : Int32))), .val (.int (((pp2 &&& (2147483647 : Int32)) % (5 : Int32)) - (2 : Int32))), .val (.int (((pp3 &&& (2147483647 : Int32)) % (5 : Int32)) - (2 : Int32))), .val (.int (((pp4 &&& (2147483647 : Int32)) % (5 : Int32)) - (2 : Int32))), .val (.int (((pp5 &&& (2147483647 : Int32)) % (5 : Int32)) - (2 : Int32))), .val (.int (((pp6 &&& (2147483647 : Int32)) % (5 : Int32)) - (2 : Int32))), .unset, .unset, .unset, .unset, .unset] [])) t → Steps p.tables e below (s₁.setTop (entryFrame m #[(.int pp1), (.int pp2), (.int pp3), (.int pp4), (.int pp5), (.int pp6)] maxLocals)) t := fun t kt => pre0 t (by
    show Steps p.tables e below (s₁.setTop (mkF m 0 #[.val (.int pp1), .val (.int pp2), .val (.int pp3), .val (.int pp4), .val (.int pp5), .val (.int pp6), .unset, .unset, .unset, .unset, .unset, .unset, .unset, .unset, .unset, .unset, .unset] [])) _
    refine XS.iloadN X0.here hx rfl (hb hby at_0) rfl ?_
    show Steps p.tables e below (s₁.setTop (mkF m 1 #[.val (.int pp1), .val (.int pp2), .val (.int pp3), .val (.int pp4), .val (.int pp5), .val (.int pp6), .unset, .unset, .unset, .unset, .unset, .unset, .unset, .unset, .unset, .unset, .unset] [(.int pp1)])) _
    refine st1 _ ?_
    show Steps p.tables e below (T1.setTop (mkF m 4 #[.val (.int pp1), .val (.int pp2), .val (.int pp3), .val (.int pp4), .val (.int pp5), .val (.int pp6), .unset, .unset, .unset, .unset, .unset, .unset, .unset, .unset, .unset, .unset, .unset] [(.int (((pp1 &&& (2147483647 : Int32)) % (5 : Int32)) - (2 : Int32)))])) _
    refine XS.istore X1.here hx rfl (hb hby at_4) rfl (l' := #[.val (.int pp1), .val (.int pp2), .val (.int pp3), .val (.int pp4), .val (.int pp5), .val (.int pp6), .val (.int (((pp1 &&& (2147483647 : Int32)) % (5 : Int32)) - (2 : Int32))), .unset, .unset, .unset, .unset, .unset, .unset, .unset, .unset, .unset, .unset]) rfl ?_
    show Steps p.tables e below (T1.setTop (mkF m 6 #[.val (.int pp1), .val (.int pp2), .val (.int pp3), .val (.int pp4), .val (.int pp5), .val (.int pp6), .val (.int (((pp1 &&& (2147483647 : Int32)) % (5 : Int32)) - (2 : Int32))), .unset, .unset, .unset, .unset, .unset, .unset, .unset, .unset, .unset, .unset] [])) _
    refine XS.iloadN X1.here hx rfl (hb hby at_6) rfl ?_
    show Steps p.tables e below (T1.setTop (mkF m 7 #[.val (.int pp1), .val (.int pp2), .val (.int pp3), .val (.int pp4), .val (.int pp5), .val (.int pp6), .val (.int (((pp1 &&& (2147483647 : Int32)) % (5 : Int32)) - (2 : Int32))), .unset, .unset, .unset, .unset, .unset, .unset, .unset, .unset, .unset, .unset] [(.int pp2)])) _
    refine st2 _ ?_
    show Steps p.tables e below (T2.setTop (mkF m 10 #[.val (.int pp1), .val (.int pp2), .val (.int pp3), .val (.int pp4), .val (.int pp5), .val (.int pp6), .val (.int (((pp1 &&& (2147483647 : Int32)) % (5 : Int32)) - (2 : Int32))), .unset, .unset, .unset, .unset, .unset, .unset, .unset, .unset, .unset, .unset] [(.int (((pp2 &&& (2147483647 : Int32)) % (5 : Int32)) - (2 : Int32)))])) _
    refine XS.istore X2.here hx rfl (hb hby at_10) rfl (l' := #[.val (.int pp1), .val (.int pp2), .val (.int pp3), .val (.int pp4), .val (.int pp5), .val (.int pp6), .val (.int (((pp1 &&& (2147483647 : Int32)) % (5 : Int32)) - (2 : Int32))), .val (.int (((pp2 &&& (2147483647 : Int32)) % (5 : Int32)) - (2 : Int32))), .unset, .unset, .unset, .unset, .unset, .unset, .unset, .unset, .unset]) rfl ?_
    show Steps p.tables e below (T2.setTop (mkF m 12 #[.val (.int pp1), .val (.int pp2), .val (.int pp3), .val (.int pp4), .val (.int pp5), .val (.int pp6), .val (.int (((pp1 &&& (2147483647 : Int32)) % (5 : Int32)) - (2 : Int32))), .val (.int (((pp2 &&& (2147483647 : Int32)) % (5 : Int32)) - (2 : Int32))), .unset, .unset, .unset, .unset, .unset, .unset, .unset, .unset, .unset] [])) _
    refine XS.iloadN X2.here hx rfl (hb hby at_12) rfl ?_
    show Steps p.tables e below (T2.setTop (mkF m 13 #[.val (.int pp1), .val (.int pp2), .val (.int pp3), .val (.int pp4), .val (.int pp5), .val (.int pp6), .val (.int (((pp1 &&& (2147483647 : Int32)) % (5 : Int32)) - (2 : Int32))), .val (.int (((pp2 &&& (2147483647 : Int32)) % (5 : Int32)) - (2 : Int32))), .unset, .unset, .unset, .unset, .unset, .unset, .unset, .unset, .unset] [(.int pp3)])) _
    refine st3 _ ?_
    show Steps p.tables e below (T3.setTop (mkF m 16 #[.val (.int pp1), .val (.int pp2), .val (.int pp3), .val (.int pp4), .val (.int pp5), .val (.int pp6), .val (.int (((pp1 &&& (2147483647 : Int32)) % (5 : Int32)) - (2 : Int32))), .val (.int (((pp2 &&& (2147483647 : Int32)) % (5 : Int32)) - (2 : Int32))), .unset, .unset, .unset, .unset, .unset, .unset, .unset, .unset, .unset] [(.int (((pp3 &&& (2147483647 : Int32)) % (5 : Int32)) - (2 : Int32)))])) _
    refine XS.istore X3.here hx rfl (hb hby at_16) rfl (l' := #[.val (.int pp1), .val (.int pp2), .val (.int pp3), .val (.int pp4), .val (.int pp5), .val (.int pp6), .val (.int (((pp1 &&& (2147483647 : Int32)) % (5 : Int32)) - (2 : Int32))), .val (.int (((pp2 &&& (2147483647 : Int32)) % (5 : Int32)) - (2 : Int32))), .val (.int (((pp3 &&& (2147483647 : Int32)) % (5 : Int32)) - (2 : Int32))), .unset, .unset, .unset, .unset, .unset, .unset, .unset, .unset]) rfl ?_
    show Steps p.tables e below (T3.setTop (mkF m 18 #[.val (.int pp1), .val (.int pp2), .val (.int pp3), .val (.int pp4), .val (.int pp5), .val (.int pp6), .val (.int (((pp1 &&& (2147483647 : Int32)) % (5 : Int32)) - (2 : Int32))), .val (.int (((pp2 &&& (2147483647 : Int32)) % (5 : Int32)) - (2 : Int32))), .val (.int (((pp3 &&& (2147483647 : Int32)) % (5 : Int32)) - (2 : Int32))), .unset, .unset, .unset, .unset, .unset, .unset, .unset, .unset] [])) _
    refine XS.iloadN X3.here hx rfl (hb hby at_18) rfl ?_
    show Steps p.tables e below (T3.setTop (mkF m 19 #[.val (.int pp1), .val (.int pp2), .val (.int pp3), .val (.int pp4), .val (.int pp5), .val (.int pp6), .val (.int (((pp1 &&& (2147483647 : Int32)) % (5 : Int32)) - (2 : Int32))), .val (.int (((pp2 &&& (2147483647 : Int32)) % (5 : Int32)) - (2 : Int32))), .val (.int (((pp3 &&& (2147483647 : Int32)) % (5 : Int32)) - (2 : Int32))), .unset, .unset, .unset, .unset, .unset, .unset, .unset, .unset] [(.int pp4)])) _
    refine st4 _ ?_
    show Steps p.tables e below (T4.setTop (mkF m 22 #[.val (.int pp1), .val (.int pp2), .val (.int pp3), .val (.int pp4), .val (.int pp5), .val (.int pp6), .val (.int (((pp1 &&& (2147483647 : Int32)) % (5 : Int32)) - (2 : Int32))), .val (.int (((pp2 &&& (2147483647 : Int32)) % (5 : Int32)) - (2 : Int32))), .val (.int (((pp3 &&& (2147483647 : Int32)) % (5 : Int32)) - (2 : Int32))), .unset, .unset, .unset, .unset, .unset, .unset, .unset, .unset] [(.int (((pp4 &&& (2147483647 : Int32)) % (5 : Int32)) - (2 : Int32)))])) _
    refine XS.istore X4.here hx rfl (hb hby at_22) rfl (l' := #[.val (.int pp1), .val (.int pp2), .val (.int pp3), .val (.int pp4), .val (.int pp5), .val (.int pp6), .val (.int (((pp1 &&& (2147483647 : Int32)) % (5 : Int32)) - (2 : Int32))), .val (.int (((pp2 &&& (2147483647 : Int32)) % (5 : Int32)) - (2 : Int32))), .val (.int (((pp3 &&& (2147483647 : Int32)) % (5 : Int32)) - (2 : Int32))), .val (.int (((pp4 &&& (2147483647 : Int32)) % (5 : Int32)) - (2 : Int32))), .unset, .unset, .unset, .unset, .unset, .unset, .unset]) rfl ?_
    show Steps p.tables e below (T4.setTop (mkF m 24 #[.val (.int pp1), .val (.int pp2), .val (.int pp3), .val (.int pp4), .val (.int pp5), .val (.int pp6), .val (.int (((pp1 &&& (2147483647 : Int32)) % (5 : Int32)) - (2 : Int32))), .val (.int (((pp2 &&& (2147483647 : Int32)) % (5 : Int32)) - (2 : Int32))), .val (.int (((pp3 &&& (2147483647 : Int32)) % (5 : Int32)) - (2 : Int32))), .val (.int (((pp4 &&& (2147483647 : Int32)) % (5 : Int32)) - (2 : Int32))), .unset, .unset, .unset, .unset, .unset, .unset, .unset] [])) _
    refine XS.iload X4.here hx rfl (hb hby at_24) rfl ?_
    show Steps p.tables e below (T4.setTop (mkF m 26 #[.val (.int pp1), .val (.int pp2), .val (.int pp3), .val (.int pp4), .val (.int pp5), .val (.int pp6), .val (.int (((pp1 &&& (2147483647 : Int32)) % (5 : Int32)) - (2 : Int32))), .val (.int (((pp2 &&& (2147483647 : Int32)) % (5 : Int32)) - (2 : Int32))), .val (.int (((pp3 &&& (2147483647 : Int32)) % (5 : Int32)) - (2 : Int32))), .val (.int (((pp4 &&& (2147483647 : Int32)) % (5 : Int32)) - (2 : Int32))), .unset, .unset, .unset, .unset, .unset, .unset, .unset] [(.int pp5)])) _
    refine st5 _ ?_
    show Steps p.tables e below (T5.setTop (mkF m 29 #[.val (.int pp1), .val (.int pp2), .val (.int pp3), .val (.int pp4), .val (.int pp5), .val (.int pp6), .val (.int (((pp1 &&& (2147483647 : Int32)) % (5 : Int32)) - (2 : Int32))), .val (.int (((pp2 &&& (2147483647 : Int32)) % (5 : Int32)) - (2 : Int32))), .val (.int (((pp3 &&& (2147483647 : Int32)) % (5 : Int32)) - (2 : Int32))), .val (.int (((pp4 &&& (2147483647 : Int32)) % (5 : Int32)) - (2 : Int32))), .unset, .unset, .unset, .unset, .unset, .unset, .unset] [(.int (((pp5 &&& (2147483647 : Int32)) % (5 : Int32)) - (2 : Int32)))])) _
    refine XS.istore X5.here hx rfl (hb hby at_29) rfl (l' := #[.val (.int pp1), .val (.int pp2), .val (.int pp3), .val (.int pp4), .val (.int pp5), .val (.int pp6), .val (.int (((pp1 &&& (2147483647 : Int32)) % (5 : Int32)) - (2 : Int32))), .val (.int (((pp2 &&& (2147483647 : Int32)) % (5 : Int32)) - (2 : Int32))), .val (.int (((pp3 &&& (2147483647 : Int32)) % (5 : Int32)) - (2 : Int32))), .val (.int (((pp4 &&& (2147483647 : Int32)) % (5 : Int32)) - (2 : Int32))), .val (.int (((pp5 &&& (2147483647 : Int32)) % (5 : Int32)) - (2 : Int32))), .unset, .unset, .unset, .unset, .unset, .unset]) rfl ?_
    show Steps p.tables e below (T5.setTop (mkF m 31 #[.val (.int pp1), .val (.int pp2), .val (.int pp3), .val (.int pp4), .val (.int pp5), .val (.int pp6), .val (.int (((pp1 &&& (2147483647 : Int32)) % (5 : Int32)) - (2 : Int32))), .val (.int (((pp2 &&& (2147483647 : Int32)) % (5 : Int32)) - (2 : Int32))), .val (.int (((pp3 &&& (2147483647 : Int32)) % (5 : Int32)) - (2 : Int32))), .val (.int (((pp4 &&& (2147483647 : Int32)) % (5 : Int32)) - (2 : Int32))), .val (.int (((pp5 &&& (2147483647 : Int32)) % (5 : Int32)) - (2 : Int32))), .unset, .unset, .unset, .unset, .unset, .unset] [])) _
    refine XS.iload X5.here hx rfl (hb hby at_31) rfl ?_
    show Steps p.tables e below (T5.setTop (mkF m 33 #[.val (.int pp1), .val (.int pp2), .val (.int pp3), .val (.int pp4), .val (.int pp5), .val (.int pp6), .val (.int (((pp1 &&& (2147483647 : Int32)) % (5 : Int32)) - (2 : Int32))), .val (.int (((pp2 &&& (2147483647 : Int32)) % (5 : Int32)) - (2 : Int32))), .val (.int (((pp3 &&& (2147483647 : Int32)) % (5 : Int32)) - (2 : Int32))), .val (.int (((pp4 &&& (2147483647 : Int32)) % (5 : Int32)) - (2 : Int32))), .val (.int (((pp5 &&& (2147483647 : Int32)) % (5 : Int32)) - (2 : Int32))), .unset, .unset, .unset, .unset, .unset, .unset] [(.int pp6)])) _
    refine st6 _ ?_
    show Steps p.tables e below (T6.setTop (mkF m 36 #[.val (.int pp1), .val (.int pp2), .val (.int pp3), .val (.int pp4), .val (.int pp5), .val (.int pp6), .val (.int (((pp1 &&& (2147483647 : Int32)) % (5 : Int32)) - (2 : Int32))), .val (.int (((pp2 &&& (2147483647 : Int32)) % (5 : Int32)) - (2 : Int32))), .val (.int (((pp3 &&& (2147483647 : Int32)) % (5 : Int32)) - (2 : Int32))), .val (.int (((pp4 &&& (2147483647 : Int32)) % (5 : Int32)) - (2 : Int32))), .val (.int (((pp5 &&& (2147483647 : Int32)) % (5 : Int32)) - (2 : Int32))), .unset, .unset, .unset, .unset, .unset, .unset] [(.int (((pp6 &&& (2147483647 : Int32)) % (5 : Int32)) - (2 : Int32)))])) _
    refine XS.istore X6.here hx rfl (hb hby at_36) rfl (l' := #[.val (.int pp1), .val (.int pp2), .val (.int pp3), .val (.int pp4), .val (.int pp5), .val (.int pp6), .val (.int (((pp1 &&& (2147483647 : Int32)) % (5 : Int32)) - (2 : Int32))), .val (.int (((pp2 &&& (2147483647 : Int32)) % (5 : Int32)) - (2 : Int32))), .val (.int (((pp3 &&& (2147483647 : Int32)) % (5 : Int32)) - (2 : Int32))), .val (.int (((pp4 &&& (2147483647 : Int32)) % (5 : Int32)) - (2 : Int32))), .val (.int (((pp5 &&& (2147483647 : Int32)) % (5 : Int32)) - (2 : Int32))), .val (.int (((pp6 &&& (2147483647 : Int32)) % (5 : Int32)) - (2 : Int32))), .unset, .unset, .unset, .unset, .unset]) rfl ?_
    exact kt)
  obtain ⟨av0, av1, av2, bv0, bv1, bv2, pre8⟩ : ∃ (av0 : Int32) (av1 : Int32) (av2 : Int32) (bv0 : Int32) (bv1 : Int32) (bv2 : Int32), ∀ t, Steps p.tables e below (T6.setTop (mkF m 38 #[.val (.int pp1), .val (.int pp2), .val (.int pp3), .val (.int pp4), .val (.int pp5), .val (.int pp6), .val (.int av0), .val (.int av1), .val (.int av2), .val (.int bv0), .val (.int bv1), .val (.int bv2), .unset, .unset, .unset, .unset, .unset] [])) t → Steps p.tables e below (s₁.setTop (entryFrame m #[(.int pp1), (.int pp2), (.int pp3), (.int pp4), (.int pp5), (.int pp6)] maxLocals)) t := ⟨(((pp1 &&& (2147483647 : Int32)) % (5 : Int32)) - (2 : Int32)), (((pp2 &&& (2147483647 : Int32)) % (5 : Int32)) - (2 : Int32)), (((pp3 &&& (2147483647 : Int32)) % (5 : Int32)) - (2 : Int32)), (((pp4 &&& (2147483647 : Int32)) % (5 : Int32)) - (2 : Int32)), (((pp5 &&& (2147483647 : Int32)) % (5 : Int32)) - (2 : Int32)), (((pp6 &&& (2147483647 : Int32)) % (5 : Int32)) - (2 : Int32)), pre7⟩
  obtain ⟨T9, h9, k9, X9, e9, E9, A9, st9⟩ := newP X6 hx hZ (hw _ (List.mem_of_getElem? (i := 5) rfl)) e6 (g := (mkF m 39 #[.val (.int pp1), .val (.int pp2), .val (.int pp3), .val (.int pp4), .val (.int pp5), .val (.int pp6), .val (.int av0), .val (.int av1), .val (.int av2), .val (.int bv0), .val (.int bv1), .val (.int bv2), .unset, .unset, .unset, .unset, .unset] [(.int (3 : Int32))])) rfl (hb hby at_39) rfl (by decide) (cap := 3) (by decide) (by decide) (by decide) (by decide)
  obtain ⟨b9, g9⟩ : ∃ z, z = h0.size := ⟨_, rfl⟩
  rw [← g9] at A9 st9
  have g_b9 : n0 ≤ b9 := Nat.le_trans Z0 (Nat.le_of_eq g9.symm)
  have Z9 : n0 ≤ h9.size := Nat.le_trans Z0 E9.1
  have kz9 := Nat.le_trans (Nat.le_refl _) E9.1
  have V9 : Arv Z h9 b9 k9 .int (3 : Int32) [(.int (0 : Int32)), (.int (0 : Int32)), (.int (0 : Int32))] (.int (0 : Int32)) := (Arv.new A9 (by decide)).pad (pad_rep [] (.int (0 : Int32)) 3)
  obtain ⟨cl_10, Ar_10, qq_10, Sz_10, Nn_10, Hh_10, Gg_10⟩ := id V9
  have hin_10 : ¬ ((0 : Int32) < 0 ∨ cl_10.slots.size ≤ ((0 : Int32)).toNatClampNeg) := inb_of Sz_10 ⟨by decide, by decide⟩
  obtain ⟨T11, h11, X11, e11, W11, st11⟩ := stI X9 hx hZ e9 Ar_10 (j := (0 : Int32)) hin_10 (g := (mkF m 48 #[.val (.int pp1), .val (.int pp2), .val (.int pp3), .val (.int pp4), .val (.int pp5), .val (.int pp6), .val (.int av0), .val (.int av1), .val (.int av2), .val (.int bv0), .val (.int bv1), .val (.int bv2), .val (.ref b9), .unset, .unset, .unset, .unset] [(.int av0), (.int (0 : Int32)), (.ref b9)])) rfl rfl (hb hby at_48)
  have N11 := Fr.snoc X11 N6 g_b9
  have Z11 : n0 ≤ h11.size := Nat.le_trans Z9 (Keep.of_wr W11).1
  have kz11 := Nat.le_trans kz9 (Keep.of_wr W11).1
  have V11 : Arv Z h11 b9 k9 .int (3 : Int32) [(.int av0), (.int (0 : Int32)), (.int (0 : Int32))] (.int (0 : Int32)) := Arv.set Ar_10 qq_10 Sz_10 Nn_10 Hh_10 Gg_10 rfl W11 0 rfl (Nat.le_of_ble_eq_true rfl)
  obtain ⟨cl_12, Ar_12, qq_12, Sz_12, Nn_12, Hh_12, Gg_12⟩ := id V11
  have hin_12 : ¬ ((1 : Int32) < 0 ∨ cl_12.slots.size ≤ ((1 : Int32)).toNatClampNeg) := inb_of Sz_12 ⟨by decide, by decide⟩
  obtain ⟨T13, h13, X13, e13, W13, st13⟩ := stI X11 hx hZ e11 Ar_12 (j := (1 : Int32)) hin_12 (g := (mkF m 54 #[.val (.int pp1), .val (.int pp2), .val (.int pp3), .val (.int pp4), .val (.int pp5), .val (.int pp6), .val (.int av0), .val (.int av1), .val (.int av2), .val (.int bv0), .val (.int bv1), .val (.int bv2), .val (.ref b9), .unset, .unset, .unset, .unset] [(.int av1), (.int (1 : Int32)), (.ref b9)])) rfl rfl (hb hby at_54)
  have N13 := Fr.snoc X13 N11 g_b9
  have Z13 : n0 ≤ h13.size := Nat.le_trans Z11 (Keep.of_wr W13).1
  have kz13 := Nat.le_trans kz11 (Keep.of_wr W13).1
  have V13 : Arv Z h13 b9 k9 .int (3 : Int32) [(.int av0), (.int av1), (.int (0 : Int32))] (.int (0 : Int32)) := Arv.set Ar_12 qq_12 Sz_12 Nn_12 Hh_12 Gg_12 rfl W13 1 rfl (Nat.le_of_ble_eq_true rfl)
  obtain ⟨cl_14, Ar_14, qq_14, Sz_14, Nn_14, Hh_14, Gg_14⟩ := id V13
  have hin_14 : ¬ ((2 : Int32) < 0 ∨ cl_14.slots.size ≤ ((2 : Int32)).toNatClampNeg) := inb_of Sz_14 ⟨by decide, by decide⟩
  obtain ⟨T15, h15, X15, e15, W15, st15⟩ := stI X13 hx hZ e13 Ar_14 (j := (2 : Int32)) hin_14 (g := (mkF m 60 #[.val (.int pp1), .val (.int pp2), .val (.int pp3), .val (.int pp4), .val (.int pp5), .val (.int pp6), .val (.int av0), .val (.int av1), .val (.int av2), .val (.int bv0), .val (.int bv1), .val (.int bv2), .val (.ref b9), .unset, .unset, .unset, .unset] [(.int av2), (.int (2 : Int32)), (.ref b9)])) rfl rfl (hb hby at_60)
  have N15 := Fr.snoc X15 N13 g_b9
  have Z15 : n0 ≤ h15.size := Nat.le_trans Z13 (Keep.of_wr W15).1
  have kz15 := Nat.le_trans kz13 (Keep.of_wr W15).1
  have V15 : Arv Z h15 b9 k9 .int (3 : Int32) [(.int av0), (.int av1), (.int av2)] (.int (0 : Int32)) := Arv.set Ar_14 qq_14 Sz_14 Nn_14 Hh_14 Gg_14 rfl W15 2 rfl (Nat.le_of_ble_eq_true rfl)
  obtain ⟨T16, h16, k16, X16, e16, E16, A16, st16⟩ := newP X15 hx hZ (hw _ (List.mem_of_getElem? (i := 5) rfl)) e15 (g := (mkF m 62 #[.val (.int pp1), .val (.int pp2), .val (.int pp3), .val (.int pp4), .val (.int pp5), .val (.int pp6), .val (.int av0), .val (.int av1), .val (.int av2), .val (.int bv0), .val (.int bv1), .val (.int bv2), .val (.ref b9), .unset, .unset, .unset, .unset] [(.int (3 : Int32))])) rfl (hb hby at_62) rfl (by decide) (cap := 3) (by decide) (by decide) (by decide) (by decide)
  obtain ⟨b16, g16⟩ : ∃ z, z = h15.size := ⟨_, rfl⟩
  rw [← g16] at A16 st16
  have g_b16 : n0 ≤ b16 := Nat.le_trans Z15 (Nat.le_of_eq g16.symm)
  have Z16 : n0 ≤ h16.size := Nat.le_trans Z15 E16.1
  have kz16 := Nat.le_trans kz15 E16.1
  have V16 : Arv Z h16 b16 k16 .int (3 : Int32) [(.int (0 : Int32)), (.int (0 : Int32)), (.int (0 : Int32))] (.int (0 : Int32)) := (Arv.new A16 (by decide)).pad (pad_rep [] (.int (0 : Int32)) 3)
  obtain ⟨cl_17, Ar_17, qq_17, Sz_17, Nn_17, Hh_17, Gg_17⟩ := id V16
  have hin_17 : ¬ ((0 : Int32) < 0 ∨ cl_17.slots.size ≤ ((0 : Int32)).toNatClampNeg) := inb_of Sz_17 ⟨by decide, by decide⟩
  obtain ⟨T18, h18, X18, e18, W18, st18⟩ := stI X16 hx hZ e16 Ar_17 (j := (0 : Int32)) hin_17 (g := (mkF m 71 #[.val (.int pp1), .val (.int pp2), .val (.int pp3), .val (.int pp4), .val (.int pp5), .val (.int pp6), .val (.int av0), .val (.int av1), .val (.int av2), .val (.int bv0), .val (.int bv1), .val (.int bv2), .val (.ref b9), .val (.ref b16), .unset, .unset, .unset] [(.int bv0), (.int (0 : Int32)), (.ref b16)])) rfl rfl (hb hby at_71)
  have N18 := Fr.snoc X18 N15 g_b16
  have Z18 : n0 ≤ h18.size := Nat.le_trans Z16 (Keep.of_wr W18).1
  have kz18 := Nat.le_trans kz16 (Keep.of_wr W18).1
  have V18 : Arv Z h18 b16 k16 .int (3 : Int32) [(.int bv0), (.int (0 : Int32)), (.int (0 : Int32))] (.int (0 : Int32)) := Arv.set Ar_17 qq_17 Sz_17 Nn_17 Hh_17 Gg_17 rfl W18 0 rfl (Nat.le_of_ble_eq_true rfl)
  obtain ⟨cl_19, Ar_19, qq_19, Sz_19, Nn_19, Hh_19, Gg_19⟩ := id V18
  have hin_19 : ¬ ((1 : Int32) < 0 ∨ cl_19.slots.size ≤ ((1 : Int32)).toNatClampNeg) := inb_of Sz_19 ⟨by decide, by decide⟩
  obtain ⟨T20, h20, X20, e20, W20, st20⟩ := stI X18 hx hZ e18 Ar_19 (j := (1 : Int32)) hin_19 (g := (mkF m 77 #[.val (.int pp1), .val (.int pp2), .val (.int pp3), .val (.int pp4), .val (.int pp5), .val (.int pp6), .val (.int av0), .val (.int av1), .val (.int av2), .val (.int bv0), .val (.int bv1), .val (.int bv2), .val (.ref b9), .val (.ref b16), .unset, .unset, .unset] [(.int bv1), (.int (1 : Int32)), (.ref b16)])) rfl rfl (hb hby at_77)
  have N20 := Fr.snoc X20 N18 g_b16
  have Z20 : n0 ≤ h20.size := Nat.le_trans Z18 (Keep.of_wr W20).1
  have kz20 := Nat.le_trans kz18 (Keep.of_wr W20).1
  have V20 : Arv Z h20 b16 k16 .int (3 : Int32) [(.int bv0), (.int bv1), (.int (0 : Int32))] (.int (0 : Int32)) := Arv.set Ar_19 qq_19 Sz_19 Nn_19 Hh_19 Gg_19 rfl W20 1 rfl (Nat.le_of_ble_eq_true rfl)
  obtain ⟨cl_21, Ar_21, qq_21, Sz_21, Nn_21, Hh_21, Gg_21⟩ := id V20
  have hin_21 : ¬ ((2 : Int32) < 0 ∨ cl_21.slots.size ≤ ((2 : Int32)).toNatClampNeg) := inb_of Sz_21 ⟨by decide, by decide⟩
  obtain ⟨T22, h22, X22, e22, W22, st22⟩ := stI X20 hx hZ e20 Ar_21 (j := (2 : Int32)) hin_21 (g := (mkF m 83 #[.val (.int pp1), .val (.int pp2), .val (.int pp3), .val (.int pp4), .val (.int pp5), .val (.int pp6), .val (.int av0), .val (.int av1), .val (.int av2), .val (.int bv0), .val (.int bv1), .val (.int bv2), .val (.ref b9), .val (.ref b16), .unset, .unset, .unset] [(.int bv2), (.int (2 : Int32)), (.ref b16)])) rfl rfl (hb hby at_83)
  have N22 := Fr.snoc X22 N20 g_b16
  have Z22 : n0 ≤ h22.size := Nat.le_trans Z20 (Keep.of_wr W22).1
  have kz22 := Nat.le_trans kz20 (Keep.of_wr W22).1
  have V22 : Arv Z h22 b16 k16 .int (3 : Int32) [(.int bv0), (.int bv1), (.int bv2)] (.int (0 : Int32)) := Arv.set Ar_21 qq_21 Sz_21 Nn_21 Hh_21 Gg_21 rfl W22 2 rfl (Nat.le_of_ble_eq_true rfl)
  obtain ⟨T23, h23, X23, e23, E23, A23, D23, -, st23⟩ := newO X22 hx hZ hown (hw _ (List.mem_of_getElem? (i := 6) rfl)) (hw _ (List.mem_of_getElem? (i := 7) rfl)) (hw _ (List.mem_of_getElem? (i := 8) rfl)) e22 (g := (mkF m 84 #[.val (.int pp1), .val (.int pp2), .val (.int pp3), .val (.int pp4), .val (.int pp5), .val (.int pp6), .val (.int av0), .val (.int av1), .val (.int av2), .val (.int bv0), .val (.int bv1), .val (.int bv2), .val (.ref b9), .val (.ref b16), .unset, .unset, .unset] [])) rfl (hb hby at_84) (by decide) (by decide)
  obtain ⟨b23, g23⟩ : ∃ z, z = h22.size := ⟨_, rfl⟩
  rw [← g23] at A23 D23 st23
  have g_b23 : n0 ≤ b23 := Nat.le_trans Z22 (Nat.le_of_eq g23.symm)
  have Z23 : n0 ≤ h23.size := Nat.le_trans Z22 E23.1
  have kz23 := Nat.le_trans kz22 E23.1
  have F23_entries : Fld Z h23 b23 "com/example/guarded_stream/guardedstream/model/SecurityLevel" "entries" "[I" .null := D23 (Or.inr (hw _ (List.mem_of_getElem? (i := 24) rfl))) (ty := (.array .int)) (by decide)
  have F23_text : Fld Z h23 b23 "com/example/guarded_stream/guardedstream/model/SecurityLevel" "text" "Ljava/lang/String;" .null := D23 (Or.inr (hw _ (List.mem_of_getElem? (i := 26) rfl))) (ty := (.object "java/lang/String")) (by decide)
  have pre24 : ∀ t, Steps p.tables e below (T23.setTop (mkF m 90 #[.val (.int pp1), .val (.int pp2), .val (.int pp3), .val (.int pp4), .val (.int pp5), .val (.int pp6), .val (.int av0), .val (.int av1), .val (.int av2), .val (.int bv0), .val (.int bv1), .val (.int bv2), .val (.ref b9), .val (.ref b16), .unset, .unset, .unset] [(.ref b9), (.ref b23), (.ref b23)])) t → Steps p.tables e below (s₁.setTop (entryFrame m #[(.int pp1), (.int pp2), (.int pp3), (.int pp4), (.int pp5), (.int pp6)] maxLocals)) t := fun t kt => pre8 t (by
    show Steps p.tables e below (T6.setTop (mkF m 38 #[.val (.int pp1), .val (.int pp2), .val (.int pp3), .val (.int pp4), .val (.int pp5), .val (.int pp6), .val (.int av0), .val (.int av1), .val (.int av2), .val (.int bv0), .val (.int bv1), .val (.int bv2), .unset, .unset, .unset, .unset, .unset] [])) _
    refine XS.iconst X6.here hx rfl (hb hby at_38) ?_
    show Steps p.tables e below (T6.setTop (mkF m 39 #[.val (.int pp1), .val (.int pp2), .val (.int pp3), .val (.int pp4), .val (.int pp5), .val (.int pp6), .val (.int av0), .val (.int av1), .val (.int av2), .val (.int bv0), .val (.int bv1), .val (.int bv2), .unset, .unset, .unset, .unset, .unset] [(.int (3 : Int32))])) _
    refine st9 _ ?_
    show Steps p.tables e below (T9.setTop (mkF m 41 #[.val (.int pp1), .val (.int pp2), .val (.int pp3), .val (.int pp4), .val (.int pp5), .val (.int pp6), .val (.int av0), .val (.int av1), .val (.int av2), .val (.int bv0), .val (.int bv1), .val (.int bv2), .unset, .unset, .unset, .unset, .unset] [(.ref b9)])) _
    refine XS.astore X9.here hx rfl (hb hby at_41) rfl rfl (l' := #[.val (.int pp1), .val (.int pp2), .val (.int pp3), .val (.int pp4), .val (.int pp5), .val (.int pp6), .val (.int av0), .val (.int av1), .val (.int av2), .val (.int bv0), .val (.int bv1), .val (.int bv2), .val (.ref b9), .unset, .unset, .unset, .unset]) rfl ?_
    show Steps p.tables e below (T9.setTop (mkF m 43 #[.val (.int pp1), .val (.int pp2), .val (.int pp3), .val (.int pp4), .val (.int pp5), .val (.int pp6), .val (.int av0), .val (.int av1), .val (.int av2), .val (.int bv0), .val (.int bv1), .val (.int bv2), .val (.ref b9), .unset, .unset, .unset, .unset] [])) _
    refine XS.aload X9.here hx rfl (hb hby at_43) rfl rfl ?_
    show Steps p.tables e below (T9.setTop (mkF m 45 #[.val (.int pp1), .val (.int pp2), .val (.int pp3), .val (.int pp4), .val (.int pp5), .val (.int pp6), .val (.int av0), .val (.int av1), .val (.int av2), .val (.int bv0), .val (.int bv1), .val (.int bv2), .val (.ref b9), .unset, .unset, .unset, .unset] [(.ref b9)])) _
    refine XS.iconst X9.here hx rfl (hb hby at_45) ?_
    show Steps p.tables e below (T9.setTop (mkF m 46 #[.val (.int pp1), .val (.int pp2), .val (.int pp3), .val (.int pp4), .val (.int pp5), .val (.int pp6), .val (.int av0), .val (.int av1), .val (.int av2), .val (.int bv0), .val (.int bv1), .val (.int bv2), .val (.ref b9), .unset, .unset, .unset, .unset] [(.int (0 : Int32)), (.ref b9)])) _
    refine XS.iload X9.here hx rfl (hb hby at_46) rfl ?_
    show Steps p.tables e below (T9.setTop (mkF m 48 #[.val (.int pp1), .val (.int pp2), .val (.int pp3), .val (.int pp4), .val (.int pp5), .val (.int pp6), .val (.int av0), .val (.int av1), .val (.int av2), .val (.int bv0), .val (.int bv1), .val (.int bv2), .val (.ref b9), .unset, .unset, .unset, .unset] [(.int av0), (.int (0 : Int32)), (.ref b9)])) _
    refine st11 _ ?_
    show Steps p.tables e below (T11.setTop (mkF m 49 #[.val (.int pp1), .val (.int pp2), .val (.int pp3), .val (.int pp4), .val (.int pp5), .val (.int pp6), .val (.int av0), .val (.int av1), .val (.int av2), .val (.int bv0), .val (.int bv1), .val (.int bv2), .val (.ref b9), .unset, .unset, .unset, .unset] [])) _
    refine XS.aload X11.here hx rfl (hb hby at_49) rfl rfl ?_
    show Steps p.tables e below (T11.setTop (mkF m 51 #[.val (.int pp1), .val (.int pp2), .val (.int pp3), .val (.int pp4), .val (.int pp5), .val (.int pp6), .val (.int av0), .val (.int av1), .val (.int av2), .val (.int bv0), .val (.int bv1), .val (.int bv2), .val (.ref b9), .unset, .unset, .unset, .unset] [(.ref b9)])) _
    refine XS.iconst X11.here hx rfl (hb hby at_51) ?_
    show Steps p.tables e below (T11.setTop (mkF m 52 #[.val (.int pp1), .val (.int pp2), .val (.int pp3), .val (.int pp4), .val (.int pp5), .val (.int pp6), .val (.int av0), .val (.int av1), .val (.int av2), .val (.int bv0), .val (.int bv1), .val (.int bv2), .val (.ref b9), .unset, .unset, .unset, .unset] [(.int (1 : Int32)), (.ref b9)])) _
    refine XS.iload X11.here hx rfl (hb hby at_52) rfl ?_
    show Steps p.tables e below (T11.setTop (mkF m 54 #[.val (.int pp1), .val (.int pp2), .val (.int pp3), .val (.int pp4), .val (.int pp5), .val (.int pp6), .val (.int av0), .val (.int av1), .val (.int av2), .val (.int bv0), .val (.int bv1), .val (.int bv2), .val (.ref b9), .unset, .unset, .unset, .unset] [(.int av1), (.int (1 : Int32)), (.ref b9)])) _
    refine st13 _ ?_
    show Steps p.tables e below (T13.setTop (mkF m 55 #[.val (.int pp1), .val (.int pp2), .val (.int pp3), .val (.int pp4), .val (.int pp5), .val (.int pp6), .val (.int av0), .val (.int av1), .val (.int av2), .val (.int bv0), .val (.int bv1), .val (.int bv2), .val (.ref b9), .unset, .unset, .unset, .unset] [])) _
    refine XS.aload X13.here hx rfl (hb hby at_55) rfl rfl ?_
    show Steps p.tables e below (T13.setTop (mkF m 57 #[.val (.int pp1), .val (.int pp2), .val (.int pp3), .val (.int pp4), .val (.int pp5), .val (.int pp6), .val (.int av0), .val (.int av1), .val (.int av2), .val (.int bv0), .val (.int bv1), .val (.int bv2), .val (.ref b9), .unset, .unset, .unset, .unset] [(.ref b9)])) _
    refine XS.iconst X13.here hx rfl (hb hby at_57) ?_
    show Steps p.tables e below (T13.setTop (mkF m 58 #[.val (.int pp1), .val (.int pp2), .val (.int pp3), .val (.int pp4), .val (.int pp5), .val (.int pp6), .val (.int av0), .val (.int av1), .val (.int av2), .val (.int bv0), .val (.int bv1), .val (.int bv2), .val (.ref b9), .unset, .unset, .unset, .unset] [(.int (2 : Int32)), (.ref b9)])) _
    refine XS.iload X13.here hx rfl (hb hby at_58) rfl ?_
    show Steps p.tables e below (T13.setTop (mkF m 60 #[.val (.int pp1), .val (.int pp2), .val (.int pp3), .val (.int pp4), .val (.int pp5), .val (.int pp6), .val (.int av0), .val (.int av1), .val (.int av2), .val (.int bv0), .val (.int bv1), .val (.int bv2), .val (.ref b9), .unset, .unset, .unset, .unset] [(.int av2), (.int (2 : Int32)), (.ref b9)])) _
    refine st15 _ ?_
    show Steps p.tables e below (T15.setTop (mkF m 61 #[.val (.int pp1), .val (.int pp2), .val (.int pp3), .val (.int pp4), .val (.int pp5), .val (.int pp6), .val (.int av0), .val (.int av1), .val (.int av2), .val (.int bv0), .val (.int bv1), .val (.int bv2), .val (.ref b9), .unset, .unset, .unset, .unset] [])) _
    refine XS.iconst X15.here hx rfl (hb hby at_61) ?_
    show Steps p.tables e below (T15.setTop (mkF m 62 #[.val (.int pp1), .val (.int pp2), .val (.int pp3), .val (.int pp4), .val (.int pp5), .val (.int pp6), .val (.int av0), .val (.int av1), .val (.int av2), .val (.int bv0), .val (.int bv1), .val (.int bv2), .val (.ref b9), .unset, .unset, .unset, .unset] [(.int (3 : Int32))])) _
    refine st16 _ ?_
    show Steps p.tables e below (T16.setTop (mkF m 64 #[.val (.int pp1), .val (.int pp2), .val (.int pp3), .val (.int pp4), .val (.int pp5), .val (.int pp6), .val (.int av0), .val (.int av1), .val (.int av2), .val (.int bv0), .val (.int bv1), .val (.int bv2), .val (.ref b9), .unset, .unset, .unset, .unset] [(.ref b16)])) _
    refine XS.astore X16.here hx rfl (hb hby at_64) rfl rfl (l' := #[.val (.int pp1), .val (.int pp2), .val (.int pp3), .val (.int pp4), .val (.int pp5), .val (.int pp6), .val (.int av0), .val (.int av1), .val (.int av2), .val (.int bv0), .val (.int bv1), .val (.int bv2), .val (.ref b9), .val (.ref b16), .unset, .unset, .unset]) rfl ?_
    show Steps p.tables e below (T16.setTop (mkF m 66 #[.val (.int pp1), .val (.int pp2), .val (.int pp3), .val (.int pp4), .val (.int pp5), .val (.int pp6), .val (.int av0), .val (.int av1), .val (.int av2), .val (.int bv0), .val (.int bv1), .val (.int bv2), .val (.ref b9), .val (.ref b16), .unset, .unset, .unset] [])) _
    refine XS.aload X16.here hx rfl (hb hby at_66) rfl rfl ?_
    show Steps p.tables e below (T16.setTop (mkF m 68 #[.val (.int pp1), .val (.int pp2), .val (.int pp3), .val (.int pp4), .val (.int pp5), .val (.int pp6), .val (.int av0), .val (.int av1), .val (.int av2), .val (.int bv0), .val (.int bv1), .val (.int bv2), .val (.ref b9), .val (.ref b16), .unset, .unset, .unset] [(.ref b16)])) _
    refine XS.iconst X16.here hx rfl (hb hby at_68) ?_
    show Steps p.tables e below (T16.setTop (mkF m 69 #[.val (.int pp1), .val (.int pp2), .val (.int pp3), .val (.int pp4), .val (.int pp5), .val (.int pp6), .val (.int av0), .val (.int av1), .val (.int av2), .val (.int bv0), .val (.int bv1), .val (.int bv2), .val (.ref b9), .val (.ref b16), .unset, .unset, .unset] [(.int (0 : Int32)), (.ref b16)])) _
    refine XS.iload X16.here hx rfl (hb hby at_69) rfl ?_
    show Steps p.tables e below (T16.setTop (mkF m 71 #[.val (.int pp1), .val (.int pp2), .val (.int pp3), .val (.int pp4), .val (.int pp5), .val (.int pp6), .val (.int av0), .val (.int av1), .val (.int av2), .val (.int bv0), .val (.int bv1), .val (.int bv2), .val (.ref b9), .val (.ref b16), .unset, .unset, .unset] [(.int bv0), (.int (0 : Int32)), (.ref b16)])) _
    refine st18 _ ?_
    show Steps p.tables e below (T18.setTop (mkF m 72 #[.val (.int pp1), .val (.int pp2), .val (.int pp3), .val (.int pp4), .val (.int pp5), .val (.int pp6), .val (.int av0), .val (.int av1), .val (.int av2), .val (.int bv0), .val (.int bv1), .val (.int bv2), .val (.ref b9), .val (.ref b16), .unset, .unset, .unset] [])) _
    refine XS.aload X18.here hx rfl (hb hby at_72) rfl rfl ?_
    show Steps p.tables e below (T18.setTop (mkF m 74 #[.val (.int pp1), .val (.int pp2), .val (.int pp3), .val (.int pp4), .val (.int pp5), .val (.int pp6), .val (.int av0), .val (.int av1), .val (.int av2), .val (.int bv0), .val (.int bv1), .val (.int bv2), .val (.ref b9), .val (.ref b16), .unset, .unset, .unset] [(.ref b16)])) _
    refine XS.iconst X18.here hx rfl (hb hby at_74) ?_
    show Steps p.tables e below (T18.setTop (mkF m 75 #[.val (.int pp1), .val (.int pp2), .val (.int pp3), .val (.int pp4), .val (.int pp5), .val (.int pp6), .val (.int av0), .val (.int av1), .val (.int av2), .val (.int bv0), .val (.int bv1), .val (.int bv2), .val (.ref b9), .val (.ref b16), .unset, .unset, .unset] [(.int (1 : Int32)), (.ref b16)])) _
    refine XS.iload X18.here hx rfl (hb hby at_75) rfl ?_
    show Steps p.tables e below (T18.setTop (mkF m 77 #[.val (.int pp1), .val (.int pp2), .val (.int pp3), .val (.int pp4), .val (.int pp5), .val (.int pp6), .val (.int av0), .val (.int av1), .val (.int av2), .val (.int bv0), .val (.int bv1), .val (.int bv2), .val (.ref b9), .val (.ref b16), .unset, .unset, .unset] [(.int bv1), (.int (1 : Int32)), (.ref b16)])) _
    refine st20 _ ?_
    show Steps p.tables e below (T20.setTop (mkF m 78 #[.val (.int pp1), .val (.int pp2), .val (.int pp3), .val (.int pp4), .val (.int pp5), .val (.int pp6), .val (.int av0), .val (.int av1), .val (.int av2), .val (.int bv0), .val (.int bv1), .val (.int bv2), .val (.ref b9), .val (.ref b16), .unset, .unset, .unset] [])) _
    refine XS.aload X20.here hx rfl (hb hby at_78) rfl rfl ?_
    show Steps p.tables e below (T20.setTop (mkF m 80 #[.val (.int pp1), .val (.int pp2), .val (.int pp3), .val (.int pp4), .val (.int pp5), .val (.int pp6), .val (.int av0), .val (.int av1), .val (.int av2), .val (.int bv0), .val (.int bv1), .val (.int bv2), .val (.ref b9), .val (.ref b16), .unset, .unset, .unset] [(.ref b16)])) _
    refine XS.iconst X20.here hx rfl (hb hby at_80) ?_
    show Steps p.tables e below (T20.setTop (mkF m 81 #[.val (.int pp1), .val (.int pp2), .val (.int pp3), .val (.int pp4), .val (.int pp5), .val (.int pp6), .val (.int av0), .val (.int av1), .val (.int av2), .val (.int bv0), .val (.int bv1), .val (.int bv2), .val (.ref b9), .val (.ref b16), .unset, .unset, .unset] [(.int (2 : Int32)), (.ref b16)])) _
    refine XS.iload X20.here hx rfl (hb hby at_81) rfl ?_
    show Steps p.tables e below (T20.setTop (mkF m 83 #[.val (.int pp1), .val (.int pp2), .val (.int pp3), .val (.int pp4), .val (.int pp5), .val (.int pp6), .val (.int av0), .val (.int av1), .val (.int av2), .val (.int bv0), .val (.int bv1), .val (.int bv2), .val (.ref b9), .val (.ref b16), .unset, .unset, .unset] [(.int bv2), (.int (2 : Int32)), (.ref b16)])) _
    refine st22 _ ?_
    show Steps p.tables e below (T22.setTop (mkF m 84 #[.val (.int pp1), .val (.int pp2), .val (.int pp3), .val (.int pp4), .val (.int pp5), .val (.int pp6), .val (.int av0), .val (.int av1), .val (.int av2), .val (.int bv0), .val (.int bv1), .val (.int bv2), .val (.ref b9), .val (.ref b16), .unset, .unset, .unset] [])) _
    refine st23 _ ?_
    show Steps p.tables e below (T23.setTop (mkF m 87 #[.val (.int pp1), .val (.int pp2), .val (.int pp3), .val (.int pp4), .val (.int pp5), .val (.int pp6), .val (.int av0), .val (.int av1), .val (.int av2), .val (.int bv0), .val (.int bv1), .val (.int bv2), .val (.ref b9), .val (.ref b16), .unset, .unset, .unset] [(.ref b23)])) _
    refine XS.dup X23.here hx rfl (hb hby at_87) rfl rfl ?_
    show Steps p.tables e below (T23.setTop (mkF m 88 #[.val (.int pp1), .val (.int pp2), .val (.int pp3), .val (.int pp4), .val (.int pp5), .val (.int pp6), .val (.int av0), .val (.int av1), .val (.int av2), .val (.int bv0), .val (.int bv1), .val (.int bv2), .val (.ref b9), .val (.ref b16), .unset, .unset, .unset] [(.ref b23), (.ref b23)])) _
    refine XS.aload X23.here hx rfl (hb hby at_88) rfl rfl ?_
    exact kt)
  obtain ⟨a25, T25, h25, kk25, X25, e25, E25, hS25, kz25, hZ, hown, st25⟩ := ldcS (s := s) (vm0 := s.vm) X23 hx hZ hown (hw _ (List.mem_of_getElem? (i := 9) rfl)) (fun d hd => hw d (own_str_in d hd)) e23 hS0 kz23 (g := (mkF m 90 #[.val (.int pp1), .val (.int pp2), .val (.int pp3), .val (.int pp4), .val (.int pp5), .val (.int pp6), .val (.int av0), .val (.int av1), .val (.int av2), .val (.int bv0), .val (.int bv1), .val (.int bv2), .val (.ref b9), .val (.ref b16), .unset, .unset, .unset] [(.ref b9), (.ref b23), (.ref b23)])) rfl (hb hby at_90) (n := 4) (by decide) (by decide) (by decide) (by decide)
  have Z25 : n0 ≤ h25.size := Nat.le_trans Z23 E25.1
  have E_26 : Exa Z h25 b23 "com/example/guarded_stream/guardedstream/model/SecurityLevel" := (A23.ext E25)
  have F_27 : Fld Z h25 b23 "com/example/guarded_stream/guardedstream/model/SecurityLevel" "entries" "[I" .null := (F23_entries.ext E25)
  have F_28 : Fld Z h25 b23 "com/example/guarded_stream/guardedstream/model/SecurityLevel" "text" "Ljava/lang/String;" .null := (F23_text.ext E25)
  obtain ⟨_, _, ⟨T29, L29, k29, n29⟩, -, X29, ⟨Lc29, hQ29, l29, y29, z29⟩, st29⟩ := X25.specialBack hx (y := (⟨"com/example/guarded_stream/guardedstream/model/SecurityLevel", "<init>", "([ILjava/lang/String;)V"⟩ : MethodName)) rfl hown (mvT hZ (hw _ (List.mem_of_getElem? (i := 17) rfl))) (mvT hZ (hw _ (List.mem_of_getElem? (i := 18) rfl))) (mvT hZ (hw _ (List.mem_of_getElem? (i := 19) rfl))) (by decide) (backOf (W := 1) (rm2 l Z a0 hw [] b23 b9 a25 .null .null h25 n0 Z25 E_26 g_b23 F_27 F_28) hZ (hw _ (List.mem_of_getElem? (i := 19) rfl)) (hw _ (List.mem_of_getElem? (i := 8) rfl)) (by decide) (by decide)) (g := (mkF m 92 #[.val (.int pp1), .val (.int pp2), .val (.int pp3), .val (.int pp4), .val (.int pp5), .val (.int pp6), .val (.int av0), .val (.int av1), .val (.int av2), .val (.int bv0), .val (.int bv1), .val (.int bv2), .val (.ref b9), .val (.ref b16), .unset, .unset, .unset] [(.ref a25), (.ref b9), (.ref b23), (.ref b23)])) rfl (by rw [hml]; rfl) (Steps.refl _) (a := b23) (argsL := [(.ref b9), (.ref a25)]) (rest := [(.ref b23)]) (lenOf pd__28__5b_ILjava_2f_lang_2f_String_3b__29_V rfl) rfl (by show 2 * 0 + _ ≤ _; exact Nat.le_of_eq rfl) (hb hby at_92) (fun _ _ => ⟨rfl, e25, (by decide : 5 + 0 ≤ _), (by decide : 16 + 0 ≤ _)⟩)
  dsimp only [Pt.U, Pt.locs, Pt.cells, Pt.slots] at X29 l29 y29 z29 st29 hQ29
  subst l29 y29 z29
  obtain ⟨rfl, N29q, K29c, R29_0, R29_1⟩ := hQ29
  have N29 := Fr.app N22 N29q
  have Z29 : n0 ≤ T29.heap.size := Nat.le_trans Z25 K29c.1
  have kz29 := Nat.le_trans kz25 K29c.1
  obtain ⟨T30, h30, X30, e30, E30, A30, D30, -, st30⟩ := newO X29 hx hZ hown (hw _ (List.mem_of_getElem? (i := 6) rfl)) (hw _ (List.mem_of_getElem? (i := 7) rfl)) (hw _ (List.mem_of_getElem? (i := 8) rfl)) rfl (g := (mkF m 97 #[.val (.int pp1), .val (.int pp2), .val (.int pp3), .val (.int pp4), .val (.int pp5), .val (.int pp6), .val (.int av0), .val (.int av1), .val (.int av2), .val (.int bv0), .val (.int bv1), .val (.int bv2), .val (.ref b9), .val (.ref b16), .val (.ref b23), .unset, .unset] [])) rfl (hb hby at_97) (by decide) (by decide)
  obtain ⟨b30, g30⟩ : ∃ z, z = T29.heap.size := ⟨_, rfl⟩
  rw [← g30] at A30 D30 st30
  have g_b30 : n0 ≤ b30 := Nat.le_trans Z29 (Nat.le_of_eq g30.symm)
  have Z30 : n0 ≤ h30.size := Nat.le_trans Z29 E30.1
  have kz30 := Nat.le_trans kz29 E30.1
  have F30_entries : Fld Z h30 b30 "com/example/guarded_stream/guardedstream/model/SecurityLevel" "entries" "[I" .null := D30 (Or.inr (hw _ (List.mem_of_getElem? (i := 24) rfl))) (ty := (.array .int)) (by decide)
  have F30_text : Fld Z h30 b30 "com/example/guarded_stream/guardedstream/model/SecurityLevel" "text" "Ljava/lang/String;" .null := D30 (Or.inr (hw _ (List.mem_of_getElem? (i := 26) rfl))) (ty := (.object "java/lang/String")) (by decide)
  have pre31 : ∀ t, Steps p.tables e below (T30.setTop (mkF m 103 #[.val (.int pp1), .val (.int pp2), .val (.int pp3), .val (.int pp4), .val (.int pp5), .val (.int pp6), .val (.int av0), .val (.int av1), .val (.int av2), .val (.int bv0), .val (.int bv1), .val (.int bv2), .val (.ref b9), .val (.ref b16), .val (.ref b23), .unset, .unset] [(.ref b16), (.ref b30), (.ref b30)])) t → Steps p.tables e below (s₁.setTop (entryFrame m #[(.int pp1), (.int pp2), (.int pp3), (.int pp4), (.int pp5), (.int pp6)] maxLocals)) t := fun t kt => pre24 t (by
    show Steps p.tables e below (T23.setTop (mkF m 90 #[.val (.int pp1), .val (.int pp2), .val (.int pp3), .val (.int pp4), .val (.int pp5), .val (.int pp6), .val (.int av0), .val (.int av1), .val (.int av2), .val (.int bv0), .val (.int bv1), .val (.int bv2), .val (.ref b9), .val (.ref b16), .unset, .unset, .unset] [(.ref b9), (.ref b23), (.ref b23)])) _
    refine st25 _ ?_
    show Steps p.tables e below (T25.setTop (mkF m 92 #[.val (.int pp1), .val (.int pp2), .val (.int pp3), .val (.int pp4), .val (.int pp5), .val (.int pp6), .val (.int av0), .val (.int av1), .val (.int av2), .val (.int bv0), .val (.int bv1), .val (.int bv2), .val (.ref b9), .val (.ref b16), .unset, .unset, .unset] [(.ref a25), (.ref b9), (.ref b23), (.ref b23)])) _
    refine st29.trans ?_
    show Steps p.tables e below (T29.setTop (mkF m 95 #[.val (.int pp1), .val (.int pp2), .val (.int pp3), .val (.int pp4), .val (.int pp5), .val (.int pp6), .val (.int av0), .val (.int av1), .val (.int av2), .val (.int bv0), .val (.int bv1), .val (.int bv2), .val (.ref b9), .val (.ref b16), .unset, .unset, .unset] [(.ref b23)])) _
    refine XS.astore X29.here hx rfl (hb hby at_95) rfl rfl (l' := #[.val (.int pp1), .val (.int pp2), .val (.int pp3), .val (.int pp4), .val (.int pp5), .val (.int pp6), .val (.int av0), .val (.int av1), .val (.int av2), .val (.int bv0), .val (.int bv1), .val (.int bv2), .val (.ref b9), .val (.ref b16), .val (.ref b23), .unset, .unset]) rfl ?_
    show Steps p.tables e below (T29.setTop (mkF m 97 #[.val (.int pp1), .val (.int pp2), .val (.int pp3), .val (.int pp4), .val (.int pp5), .val (.int pp6), .val (.int av0), .val (.int av1), .val (.int av2), .val (.int bv0), .val (.int bv1), .val (.int bv2), .val (.ref b9), .val (.ref b16), .val (.ref b23), .unset, .unset] [])) _
    refine st30 _ ?_
    show Steps p.tables e below (T30.setTop (mkF m 100 #[.val (.int pp1), .val (.int pp2), .val (.int pp3), .val (.int pp4), .val (.int pp5), .val (.int pp6), .val (.int av0), .val (.int av1), .val (.int av2), .val (.int bv0), .val (.int bv1), .val (.int bv2), .val (.ref b9), .val (.ref b16), .val (.ref b23), .unset, .unset] [(.ref b30)])) _
    refine XS.dup X30.here hx rfl (hb hby at_100) rfl rfl ?_
    show Steps p.tables e below (T30.setTop (mkF m 101 #[.val (.int pp1), .val (.int pp2), .val (.int pp3), .val (.int pp4), .val (.int pp5), .val (.int pp6), .val (.int av0), .val (.int av1), .val (.int av2), .val (.int bv0), .val (.int bv1), .val (.int bv2), .val (.ref b9), .val (.ref b16), .val (.ref b23), .unset, .unset] [(.ref b30), (.ref b30)])) _
    refine XS.aload X30.here hx rfl (hb hby at_101) rfl rfl ?_
    exact kt)
  obtain ⟨a32, T32, h32, kk32, X32, e32, E32, hS32, kz32, hZ, hown, st32⟩ := ldcS (s := s) (vm0 := T25.vm) X30 hx hZ hown (hw _ (List.mem_of_getElem? (i := 27) rfl)) (fun d hd => hw d (own_str_in d hd)) e30 hS25 kz30 (g := (mkF m 103 #[.val (.int pp1), .val (.int pp2), .val (.int pp3), .val (.int pp4), .val (.int pp5), .val (.int pp6), .val (.int av0), .val (.int av1), .val (.int av2), .val (.int bv0), .val (.int bv1), .val (.int bv2), .val (.ref b9), .val (.ref b16), .val (.ref b23), .unset, .unset] [(.ref b16), (.ref b30), (.ref b30)])) rfl (hb hby at_103) (n := 4) (by decide) (by decide) (by decide) (by decide)
  have Z32 : n0 ≤ h32.size := Nat.le_trans Z30 E32.1
  have E_33 : Exa Z h32 b30 "com/example/guarded_stream/guardedstream/model/SecurityLevel" := (A30.ext E32)
  have F_34 : Fld Z h32 b30 "com/example/guarded_stream/guardedstream/model/SecurityLevel" "entries" "[I" .null := (F30_entries.ext E32)
  have F_35 : Fld Z h32 b30 "com/example/guarded_stream/guardedstream/model/SecurityLevel" "text" "Ljava/lang/String;" .null := (F30_text.ext E32)
  obtain ⟨_, _, ⟨T36, L36, k36, n36⟩, -, X36, ⟨Lc36, hQ36, l36, y36, z36⟩, st36⟩ := X32.specialBack hx (y := (⟨"com/example/guarded_stream/guardedstream/model/SecurityLevel", "<init>", "([ILjava/lang/String;)V"⟩ : MethodName)) rfl hown (mvT hZ (hw _ (List.mem_of_getElem? (i := 17) rfl))) (mvT hZ (hw _ (List.mem_of_getElem? (i := 18) rfl))) (mvT hZ (hw _ (List.mem_of_getElem? (i := 19) rfl))) (by decide) (backOf (W := 1) (rm2 l Z a0 hw [] b30 b16 a32 .null .null h32 n0 Z32 E_33 g_b30 F_34 F_35) hZ (hw _ (List.mem_of_getElem? (i := 19) rfl)) (hw _ (List.mem_of_getElem? (i := 8) rfl)) (by decide) (by decide)) (g := (mkF m 105 #[.val (.int pp1), .val (.int pp2), .val (.int pp3), .val (.int pp4), .val (.int pp5), .val (.int pp6), .val (.int av0), .val (.int av1), .val (.int av2), .val (.int bv0), .val (.int bv1), .val (.int bv2), .val (.ref b9), .val (.ref b16), .val (.ref b23), .unset, .unset] [(.ref a32), (.ref b16), (.ref b30), (.ref b30)])) rfl (by rw [hml]; rfl) (Steps.refl _) (a := b30) (argsL := [(.ref b16), (.ref a32)]) (rest := [(.ref b30)]) (lenOf pd__28__5b_ILjava_2f_lang_2f_String_3b__29_V rfl) rfl (by show 2 * 0 + _ ≤ _; exact Nat.le_of_eq rfl) (hb hby at_105) (fun _ _ => ⟨rfl, e32, (by decide : 8 + 0 ≤ _), (by decide : 26 + 0 ≤ _)⟩)
  dsimp only [Pt.U, Pt.locs, Pt.cells, Pt.slots] at X36 l36 y36 z36 st36 hQ36
  subst l36 y36 z36
  obtain ⟨rfl, N36q, K36c, R36_0, R36_1⟩ := hQ36
  have N36 := Fr.app N29 N36q
  have Z36 : n0 ≤ T36.heap.size := Nat.le_trans Z32 K36c.1
  have kz36 := Nat.le_trans kz32 K36c.1
  have pre37 : ∀ t, Steps p.tables e below (T36.setTop (mkF m 110 #[.val (.int pp1), .val (.int pp2), .val (.int pp3), .val (.int pp4), .val (.int pp5), .val (.int pp6), .val (.int av0), .val (.int av1), .val (.int av2), .val (.int bv0), .val (.int bv1), .val (.int bv2), .val (.ref b9), .val (.ref b16), .val (.ref b23), .val (.ref b30), .unset] [])) t → Steps p.tables e below (s₁.setTop (entryFrame m #[(.int pp1), (.int pp2), (.int pp3), (.int pp4), (.int pp5), (.int pp6)] maxLocals)) t := fun t kt => pre31 t (by
    show Steps p.tables e below (T30.setTop (mkF m 103 #[.val (.int pp1), .val (.int pp2), .val (.int pp3), .val (.int pp4), .val (.int pp5), .val (.int pp6), .val (.int av0), .val (.int av1), .val (.int av2), .val (.int bv0), .val (.int bv1), .val (.int bv2), .val (.ref b9), .val (.ref b16), .val (.ref b23), .unset, .unset] [(.ref b16), (.ref b30), (.ref b30)])) _
    refine st32 _ ?_
    show Steps p.tables e below (T32.setTop (mkF m 105 #[.val (.int pp1), .val (.int pp2), .val (.int pp3), .val (.int pp4), .val (.int pp5), .val (.int pp6), .val (.int av0), .val (.int av1), .val (.int av2), .val (.int bv0), .val (.int bv1), .val (.int bv2), .val (.ref b9), .val (.ref b16), .val (.ref b23), .unset, .unset] [(.ref a32), (.ref b16), (.ref b30), (.ref b30)])) _
    refine st36.trans ?_
    show Steps p.tables e below (T36.setTop (mkF m 108 #[.val (.int pp1), .val (.int pp2), .val (.int pp3), .val (.int pp4), .val (.int pp5), .val (.int pp6), .val (.int av0), .val (.int av1), .val (.int av2), .val (.int bv0), .val (.int bv1), .val (.int bv2), .val (.ref b9), .val (.ref b16), .val (.ref b23), .unset, .unset] [(.ref b30)])) _
    refine XS.astore X36.here hx rfl (hb hby at_108) rfl rfl (l' := #[.val (.int pp1), .val (.int pp2), .val (.int pp3), .val (.int pp4), .val (.int pp5), .val (.int pp6), .val (.int av0), .val (.int av1), .val (.int av2), .val (.int bv0), .val (.int bv1), .val (.int bv2), .val (.ref b9), .val (.ref b16), .val (.ref b23), .val (.ref b30), .unset]) rfl ?_
    exact kt)
  by_cases hall : own_all av0 av1 av2 bv0 bv1 bv2
  · skip
    obtain ⟨_, _, ⟨T38, L38, k38, n38⟩, -, X38, ⟨Lc38, hQ38, l38, y38, z38⟩, st38⟩ := Jvm.LawKit.callS X36 hx (y := (⟨"com/example/guarded_stream/guardedstream/model/SecurityLevelDominatesPinLaw", "ok", "(II)Z"⟩ : MethodName)) hown (mvT hZ (hw _ (List.mem_of_getElem? (i := 28) rfl))) (mvT hZ (hw _ (List.mem_of_getElem? (i := 29) rfl))) (mvT hZ (hw _ (List.mem_of_getElem? (i := 2) rfl))) (mvT hZ (hw _ (List.mem_of_getElem? (i := 30) rfl))) (by decide) (backOf (W := 0) (rm4 l Z a0 hw [] av0 bv0 T36.heap n0 Z36 ) hZ (hw _ (List.mem_of_getElem? (i := 30) rfl)) (hw _ (List.mem_of_getElem? (i := 2) rfl)) (by decide) (by decide)) (g := (mkF m 114 #[.val (.int pp1), .val (.int pp2), .val (.int pp3), .val (.int pp4), .val (.int pp5), .val (.int pp6), .val (.int av0), .val (.int av1), .val (.int av2), .val (.int bv0), .val (.int bv1), .val (.int bv2), .val (.ref b9), .val (.ref b16), .val (.ref b23), .val (.ref b30), .unset] [(.int bv0), (.int av0)])) rfl (by rw [hml]; rfl) (argsL := [(.int av0), (.int bv0)]) (rest := []) (lenOf pd__28_II_29_Z rfl) rfl (by show 2 * 0 + _ ≤ _; exact Nat.le_of_eq rfl) (hb hby at_114) (fun _ _ => ⟨rfl, rfl, (by decide : 8 + 0 ≤ _), (by decide : 26 + 0 ≤ _)⟩)
    dsimp only [Pt.U, Pt.locs, Pt.cells, Pt.slots] at X38 l38 y38 z38 st38 hQ38
    subst l38 y38 z38
    obtain ⟨rfl, N38q, e38⟩ := hQ38
    have N38 := Fr.app N36 N38q
    have hc117 : ¬ ((own_okv av0 bv0) = (0 : Int32)) := own_okv_nz hall.1
    obtain ⟨_, _, ⟨T39, L39, k39, n39⟩, -, X39, ⟨Lc39, hQ39, l39, y39, z39⟩, st39⟩ := Jvm.LawKit.callS X38 hx (y := (⟨"com/example/guarded_stream/guardedstream/model/SecurityLevelDominatesPinLaw", "ok", "(II)Z"⟩ : MethodName)) hown (mvT hZ (hw _ (List.mem_of_getElem? (i := 28) rfl))) (mvT hZ (hw _ (List.mem_of_getElem? (i := 29) rfl))) (mvT hZ (hw _ (List.mem_of_getElem? (i := 2) rfl))) (mvT hZ (hw _ (List.mem_of_getElem? (i := 30) rfl))) (by decide) (backOf (W := 0) (rm4 l Z a0 hw [] av1 bv1 T36.heap n0 Z36 ) hZ (hw _ (List.mem_of_getElem? (i := 30) rfl)) (hw _ (List.mem_of_getElem? (i := 2) rfl)) (by decide) (by decide)) (g := (mkF m 124 #[.val (.int pp1), .val (.int pp2), .val (.int pp3), .val (.int pp4), .val (.int pp5), .val (.int pp6), .val (.int av0), .val (.int av1), .val (.int av2), .val (.int bv0), .val (.int bv1), .val (.int bv2), .val (.ref b9), .val (.ref b16), .val (.ref b23), .val (.ref b30), .unset] [(.int bv1), (.int av1)])) rfl (by rw [hml]; rfl) (argsL := [(.int av1), (.int bv1)]) (rest := []) (lenOf pd__28_II_29_Z rfl) rfl (by show 2 * 0 + _ ≤ _; exact Nat.le_of_eq rfl) (hb hby at_124) (fun _ _ => ⟨rfl, e38, (by decide : 8 + 0 ≤ _), (by decide : 26 + 0 ≤ _)⟩)
    dsimp only [Pt.U, Pt.locs, Pt.cells, Pt.slots] at X39 l39 y39 z39 st39 hQ39
    subst l39 y39 z39
    obtain ⟨rfl, N39q, e39⟩ := hQ39
    have N39 := Fr.app N38 N39q
    have hc127 : ¬ ((own_okv av1 bv1) = (0 : Int32)) := own_okv_nz hall.2.1
    obtain ⟨_, _, ⟨T40, L40, k40, n40⟩, -, X40, ⟨Lc40, hQ40, l40, y40, z40⟩, st40⟩ := Jvm.LawKit.callS X39 hx (y := (⟨"com/example/guarded_stream/guardedstream/model/SecurityLevelDominatesPinLaw", "ok", "(II)Z"⟩ : MethodName)) hown (mvT hZ (hw _ (List.mem_of_getElem? (i := 28) rfl))) (mvT hZ (hw _ (List.mem_of_getElem? (i := 29) rfl))) (mvT hZ (hw _ (List.mem_of_getElem? (i := 2) rfl))) (mvT hZ (hw _ (List.mem_of_getElem? (i := 30) rfl))) (by decide) (backOf (W := 0) (rm4 l Z a0 hw [] av2 bv2 T36.heap n0 Z36 ) hZ (hw _ (List.mem_of_getElem? (i := 30) rfl)) (hw _ (List.mem_of_getElem? (i := 2) rfl)) (by decide) (by decide)) (g := (mkF m 134 #[.val (.int pp1), .val (.int pp2), .val (.int pp3), .val (.int pp4), .val (.int pp5), .val (.int pp6), .val (.int av0), .val (.int av1), .val (.int av2), .val (.int bv0), .val (.int bv1), .val (.int bv2), .val (.ref b9), .val (.ref b16), .val (.ref b23), .val (.ref b30), .unset] [(.int bv2), (.int av2)])) rfl (by rw [hml]; rfl) (argsL := [(.int av2), (.int bv2)]) (rest := []) (lenOf pd__28_II_29_Z rfl) rfl (by show 2 * 0 + _ ≤ _; exact Nat.le_of_eq rfl) (hb hby at_134) (fun _ _ => ⟨rfl, e39, (by decide : 8 + 0 ≤ _), (by decide : 26 + 0 ≤ _)⟩)
    dsimp only [Pt.U, Pt.locs, Pt.cells, Pt.slots] at X40 l40 y40 z40 st40 hQ40
    subst l40 y40 z40
    obtain ⟨rfl, N40q, e40⟩ := hQ40
    have N40 := Fr.app N39 N40q
    have hc137 : ¬ ((own_okv av2 bv2) = (0 : Int32)) := own_okv_nz hall.2.2
    have F_41 : Fld Z T36.heap b23 "com/example/guarded_stream/guardedstream/model/SecurityLevel" "entries" "[I" (.ref b9) := (((R29_0.ext E30).ext E32).keep K36c (ninS (Nat.ne_of_lt (Nat.lt_of_lt_of_le (E_26.keep K29c).lt (Nat.le_of_eq g30.symm))) nin0))
    have V_42 : Arv Z T36.heap b9 k9 .int (3 : Int32) [(.int av0), (.int av1), (.int av2)] (.int (0 : Int32)) := ((((((((((V15.ext E16).other W18 (Nat.ne_of_lt (Nat.lt_of_lt_of_le V15.lt (Nat.le_of_eq g16.symm)))).other W20 (Nat.ne_of_lt (Nat.lt_of_lt_of_le V15.lt (Nat.le_of_eq g16.symm)))).other W22 (Nat.ne_of_lt (Nat.lt_of_lt_of_le V15.lt (Nat.le_of_eq g16.symm)))).ext E23).ext E25).keep K29c (ninS (Nat.ne_of_lt (Nat.lt_of_lt_of_le ((((V15.ext E16).other W18 (Nat.ne_of_lt (Nat.lt_of_lt_of_le V15.lt (Nat.le_of_eq g16.symm)))).other W20 (Nat.ne_of_lt (Nat.lt_of_lt_of_le V15.lt (Nat.le_of_eq g16.symm)))).other W22 (Nat.ne_of_lt (Nat.lt_of_lt_of_le V15.lt (Nat.le_of_eq g16.symm)))).lt (Nat.le_of_eq g23.symm))) nin0)).ext E30).ext E32).keep K36c (ninS (Nat.ne_of_lt (Nat.lt_of_lt_of_le (((((((V15.ext E16).other W18 (Nat.ne_of_lt (Nat.lt_of_lt_of_le V15.lt (Nat.le_of_eq g16.symm)))).other W20 (Nat.ne_of_lt (Nat.lt_of_lt_of_le V15.lt (Nat.le_of_eq g16.symm)))).other W22 (Nat.ne_of_lt (Nat.lt_of_lt_of_le V15.lt (Nat.le_of_eq g16.symm)))).ext E23).ext E25).keep K29c (ninS (Nat.ne_of_lt (Nat.lt_of_lt_of_le ((((V15.ext E16).other W18 (Nat.ne_of_lt (Nat.lt_of_lt_of_le V15.lt (Nat.le_of_eq g16.symm)))).other W20 (Nat.ne_of_lt (Nat.lt_of_lt_of_le V15.lt (Nat.le_of_eq g16.symm)))).other W22 (Nat.ne_of_lt (Nat.lt_of_lt_of_le V15.lt (Nat.le_of_eq g16.symm)))).lt (Nat.le_of_eq g23.symm))) nin0)).lt (Nat.le_of_eq g30.symm))) nin0))
    have V_43 : Arv Z T36.heap b16 k16 .int (3 : Int32) [(.int bv0), (.int bv1), (.int bv2)] (.int (0 : Int32)) := ((((((V22.ext E23).ext E25).keep K29c (ninS (Nat.ne_of_lt (Nat.lt_of_lt_of_le V22.lt (Nat.le_of_eq g23.symm))) nin0)).ext E30).ext E32).keep K36c (ninS (Nat.ne_of_lt (Nat.lt_of_lt_of_le (((V22.ext E23).ext E25).keep K29c (ninS (Nat.ne_of_lt (Nat.lt_of_lt_of_le V22.lt (Nat.le_of_eq g23.symm))) nin0)).lt (Nat.le_of_eq g30.symm))) nin0))
    have E_45 : Exa Z T36.heap b23 "com/example/guarded_stream/guardedstream/model/SecurityLevel" := ((((E_26.keep K29c).ext E30).ext E32).keep K36c)
    obtain ⟨cq44, kq44, q44a, q44b, q44c⟩ := isOf hZ e40 E_45
    obtain ⟨_, _, ⟨T44, L44, k44, n44⟩, -, X44, ⟨Lc44, hQ44, l44, y44, z44⟩, st44⟩ := X40.virtualBack hx (y := (⟨"com/example/guarded_stream/guardedstream/model/SecurityLevel", "dominates", "(Lcom/example/guarded_stream/guardedstream/model/SecurityLevel;)Z"⟩ : MethodName)) (z := (⟨"com/example/guarded_stream/guardedstream/model/SecurityLevel", "dominates", "(Lcom/example/guarded_stream/guardedstream/model/SecurityLevel;)Z"⟩ : MethodName)) hown (mvT hZ (hw _ (List.mem_of_getElem? (i := 31) rfl))) (mvT hZ (hw _ (List.mem_of_getElem? (i := 32) rfl))) (notFace_of_selects (args := #[]) (mvT hZ (hw _ (List.mem_of_getElem? (i := 34) rfl)))) (mvT hZ (hw _ (List.mem_of_getElem? (i := 34) rfl))) (mvT hZ (hw _ (List.mem_of_getElem? (i := 33) rfl))) (by decide) (backOf (W := 0) (rm5 l Z a0 hw [] b23 b30 b9 b16 k9 k16 av0 av1 av2 bv0 bv1 bv2 T36.heap n0 Z36 F_41 R36_0 V_42 V_43) hZ (hw _ (List.mem_of_getElem? (i := 35) rfl)) (hw _ (List.mem_of_getElem? (i := 8) rfl)) (by decide) (by decide)) q44a q44c (g := (mkF m 151 #[.val (.int pp1), .val (.int pp2), .val (.int pp3), .val (.int pp4), .val (.int pp5), .val (.int pp6), .val (.int av0), .val (.int av1), .val (.int av2), .val (.int bv0), .val (.int bv1), .val (.int bv2), .val (.ref b9), .val (.ref b16), .val (.ref b23), .val (.ref b30), .val (.int (1 : Int32))] [(.ref b30), (.ref b23)])) rfl (by rw [hml]; rfl) (Steps.refl _) (argsL := [(.ref b30)]) (rest := []) (lenOf pd__28_Lcom_2f_example_2f_guarded_stream_2f_guardedstream_2f_model_2f_SecurityLevel_3b__29_Z rfl) rfl (by show 2 * 0 + _ ≤ _; exact Nat.le_of_eq rfl) (hb hby at_151) (fun _ _ => ⟨rfl, e40, (by decide : 8 + 0 ≤ _), (by decide : 26 + 0 ≤ _)⟩)
    dsimp only [Pt.U, Pt.locs, Pt.cells, Pt.slots] at X44 l44 y44 z44 st44 hQ44
    subst l44 y44 z44
    obtain ⟨rfl, N44q, e44⟩ := hQ44
    have N44 := Fr.app N40 N44q
    have hc156 : (own_domv av0 av1 av2 bv0 bv1 bv2) = (1 : Int32) := own_domv_pos hall
    obtain ⟨fs, hr, hrun, hended, qe1, qe2, qe3, qe4⟩ := Stand.leaveW (s := s) (vm₁ := T32.vm) X44 hS32 (by rw [e44]; exact kz36) (v := some (.int (1 : Int32))) (fun h => by rw [Bd.returns] at h; cases h)
    refine ⟨_, _, pre37 _ ?_, hrun, hended, _, _, rfl, ?_, qe1, qe2, qe3, qe4.mono (by decide) (by decide)⟩
    · show Steps p.tables e below (T36.setTop (mkF m 110 #[.val (.int pp1), .val (.int pp2), .val (.int pp3), .val (.int pp4), .val (.int pp5), .val (.int pp6), .val (.int av0), .val (.int av1), .val (.int av2), .val (.int bv0), .val (.int bv1), .val (.int bv2), .val (.ref b9), .val (.ref b16), .val (.ref b23), .val (.ref b30), .unset] [])) _
      refine XS.iload X36.here hx rfl (hb hby at_110) rfl ?_
      show Steps p.tables e below (T36.setTop (mkF m 112 #[.val (.int pp1), .val (.int pp2), .val (.int pp3), .val (.int pp4), .val (.int pp5), .val (.int pp6), .val (.int av0), .val (.int av1), .val (.int av2), .val (.int bv0), .val (.int bv1), .val (.int bv2), .val (.ref b9), .val (.ref b16), .val (.ref b23), .val (.ref b30), .unset] [(.int av0)])) _
      refine XS.iload X36.here hx rfl (hb hby at_112) rfl ?_
      show Steps p.tables e below (T36.setTop (mkF m 114 #[.val (.int pp1), .val (.int pp2), .val (.int pp3), .val (.int pp4), .val (.int pp5), .val (.int pp6), .val (.int av0), .val (.int av1), .val (.int av2), .val (.int bv0), .val (.int bv1), .val (.int bv2), .val (.ref b9), .val (.ref b16), .val (.ref b23), .val (.ref b30), .unset] [(.int bv0), (.int av0)])) _
      refine st38 _ ?_
      show Steps p.tables e below (T38.setTop (mkF m 117 #[.val (.int pp1), .val (.int pp2), .val (.int pp3), .val (.int pp4), .val (.int pp5), .val (.int pp6), .val (.int av0), .val (.int av1), .val (.int av2), .val (.int bv0), .val (.int bv1), .val (.int bv2), .val (.ref b9), .val (.ref b16), .val (.ref b23), .val (.ref b30), .unset] [(.int (own_okv av0 bv0))])) _
      refine XS.ifNo X38.here hx rfl (hb hby at_117) rfl ((if0 _ _).trans (feq hc117).1) ?_
      show Steps p.tables e below (T38.setTop (mkF m 120 #[.val (.int pp1), .val (.int pp2), .val (.int pp3), .val (.int pp4), .val (.int pp5), .val (.int pp6), .val (.int av0), .val (.int av1), .val (.int av2), .val (.int bv0), .val (.int bv1), .val (.int bv2), .val (.ref b9), .val (.ref b16), .val (.ref b23), .val (.ref b30), .unset] [])) _
      refine XS.iload X38.here hx rfl (hb hby at_120) rfl ?_
      show Steps p.tables e below (T38.setTop (mkF m 122 #[.val (.int pp1), .val (.int pp2), .val (.int pp3), .val (.int pp4), .val (.int pp5), .val (.int pp6), .val (.int av0), .val (.int av1), .val (.int av2), .val (.int bv0), .val (.int bv1), .val (.int bv2), .val (.ref b9), .val (.ref b16), .val (.ref b23), .val (.ref b30), .unset] [(.int av1)])) _
      refine XS.iload X38.here hx rfl (hb hby at_122) rfl ?_
      show Steps p.tables e below (T38.setTop (mkF m 124 #[.val (.int pp1), .val (.int pp2), .val (.int pp3), .val (.int pp4), .val (.int pp5), .val (.int pp6), .val (.int av0), .val (.int av1), .val (.int av2), .val (.int bv0), .val (.int bv1), .val (.int bv2), .val (.ref b9), .val (.ref b16), .val (.ref b23), .val (.ref b30), .unset] [(.int bv1), (.int av1)])) _
      refine st39 _ ?_
      show Steps p.tables e below (T39.setTop (mkF m 127 #[.val (.int pp1), .val (.int pp2), .val (.int pp3), .val (.int pp4), .val (.int pp5), .val (.int pp6), .val (.int av0), .val (.int av1), .val (.int av2), .val (.int bv0), .val (.int bv1), .val (.int bv2), .val (.ref b9), .val (.ref b16), .val (.ref b23), .val (.ref b30), .unset] [(.int (own_okv av1 bv1))])) _
      refine XS.ifNo X39.here hx rfl (hb hby at_127) rfl ((if0 _ _).trans (feq hc127).1) ?_
      show Steps p.tables e below (T39.setTop (mkF m 130 #[.val (.int pp1), .val (.int pp2), .val (.int pp3), .val (.int pp4), .val (.int pp5), .val (.int pp6), .val (.int av0), .val (.int av1), .val (.int av2), .val (.int bv0), .val (.int bv1), .val (.int bv2), .val (.ref b9), .val (.ref b16), .val (.ref b23), .val (.ref b30), .unset] [])) _
      refine XS.iload X39.here hx rfl (hb hby at_130) rfl ?_
      show Steps p.tables e below (T39.setTop (mkF m 132 #[.val (.int pp1), .val (.int pp2), .val (.int pp3), .val (.int pp4), .val (.int pp5), .val (.int pp6), .val (.int av0), .val (.int av1), .val (.int av2), .val (.int bv0), .val (.int bv1), .val (.int bv2), .val (.ref b9), .val (.ref b16), .val (.ref b23), .val (.ref b30), .unset] [(.int av2)])) _
      refine XS.iload X39.here hx rfl (hb hby at_132) rfl ?_
      show Steps p.tables e below (T39.setTop (mkF m 134 #[.val (.int pp1), .val (.int pp2), .val (.int pp3), .val (.int pp4), .val (.int pp5), .val (.int pp6), .val (.int av0), .val (.int av1), .val (.int av2), .val (.int bv0), .val (.int bv1), .val (.int bv2), .val (.ref b9), .val (.ref b16), .val (.ref b23), .val (.ref b30), .unset] [(.int bv2), (.int av2)])) _
      refine st40 _ ?_
      show Steps p.tables e below (T40.setTop (mkF m 137 #[.val (.int pp1), .val (.int pp2), .val (.int pp3), .val (.int pp4), .val (.int pp5), .val (.int pp6), .val (.int av0), .val (.int av1), .val (.int av2), .val (.int bv0), .val (.int bv1), .val (.int bv2), .val (.ref b9), .val (.ref b16), .val (.ref b23), .val (.ref b30), .unset] [(.int (own_okv av2 bv2))])) _
      refine XS.ifNo X40.here hx rfl (hb hby at_137) rfl ((if0 _ _).trans (feq hc137).1) ?_
      show Steps p.tables e below (T40.setTop (mkF m 140 #[.val (.int pp1), .val (.int pp2), .val (.int pp3), .val (.int pp4), .val (.int pp5), .val (.int pp6), .val (.int av0), .val (.int av1), .val (.int av2), .val (.int bv0), .val (.int bv1), .val (.int bv2), .val (.ref b9), .val (.ref b16), .val (.ref b23), .val (.ref b30), .unset] [])) _
      refine XS.iconst X40.here hx rfl (hb hby at_140) ?_
      show Steps p.tables e below (T40.setTop (mkF m 141 #[.val (.int pp1), .val (.int pp2), .val (.int pp3), .val (.int pp4), .val (.int pp5), .val (.int pp6), .val (.int av0), .val (.int av1), .val (.int av2), .val (.int bv0), .val (.int bv1), .val (.int bv2), .val (.ref b9), .val (.ref b16), .val (.ref b23), .val (.ref b30), .unset] [(.int (1 : Int32))])) _
      refine XS.goto X40.here hx rfl (pc0 := 141) (pc' := 145) rfl (hb hby at_141) (by decide) (by decide) ?_
      show Steps p.tables e below (T40.setTop (mkF m 145 #[.val (.int pp1), .val (.int pp2), .val (.int pp3), .val (.int pp4), .val (.int pp5), .val (.int pp6), .val (.int av0), .val (.int av1), .val (.int av2), .val (.int bv0), .val (.int bv1), .val (.int bv2), .val (.ref b9), .val (.ref b16), .val (.ref b23), .val (.ref b30), .unset] [(.int (1 : Int32))])) _
      refine XS.istore X40.here hx rfl (hb hby at_145) rfl (l' := #[.val (.int pp1), .val (.int pp2), .val (.int pp3), .val (.int pp4), .val (.int pp5), .val (.int pp6), .val (.int av0), .val (.int av1), .val (.int av2), .val (.int bv0), .val (.int bv1), .val (.int bv2), .val (.ref b9), .val (.ref b16), .val (.ref b23), .val (.ref b30), .val (.int (1 : Int32))]) rfl ?_
      show Steps p.tables e below (T40.setTop (mkF m 147 #[.val (.int pp1), .val (.int pp2), .val (.int pp3), .val (.int pp4), .val (.int pp5), .val (.int pp6), .val (.int av0), .val (.int av1), .val (.int av2), .val (.int bv0), .val (.int bv1), .val (.int bv2), .val (.ref b9), .val (.ref b16), .val (.ref b23), .val (.ref b30), .val (.int (1 : Int32))] [])) _
      refine XS.aload X40.here hx rfl (hb hby at_147) rfl rfl ?_
      show Steps p.tables e below (T40.setTop (mkF m 149 #[.val (.int pp1), .val (.int pp2), .val (.int pp3), .val (.int pp4), .val (.int pp5), .val (.int pp6), .val (.int av0), .val (.int av1), .val (.int av2), .val (.int bv0), .val (.int bv1), .val (.int bv2), .val (.ref b9), .val (.ref b16), .val (.ref b23), .val (.ref b30), .val (.int (1 : Int32))] [(.ref b23)])) _
      refine XS.aload X40.here hx rfl (hb hby at_149) rfl rfl ?_
      show Steps p.tables e below (T40.setTop (mkF m 151 #[.val (.int pp1), .val (.int pp2), .val (.int pp3), .val (.int pp4), .val (.int pp5), .val (.int pp6), .val (.int av0), .val (.int av1), .val (.int av2), .val (.int bv0), .val (.int bv1), .val (.int bv2), .val (.ref b9), .val (.ref b16), .val (.ref b23), .val (.ref b30), .val (.int (1 : Int32))] [(.ref b30), (.ref b23)])) _
      refine st44.trans ?_
      show Steps p.tables e below (T44.setTop (mkF m 154 #[.val (.int pp1), .val (.int pp2), .val (.int pp3), .val (.int pp4), .val (.int pp5), .val (.int pp6), .val (.int av0), .val (.int av1), .val (.int av2), .val (.int bv0), .val (.int bv1), .val (.int bv2), .val (.ref b9), .val (.ref b16), .val (.ref b23), .val (.ref b30), .val (.int (1 : Int32))] [(.int (own_domv av0 av1 av2 bv0 bv1 bv2))])) _
      refine XS.iload X44.here hx rfl (hb hby at_154) rfl ?_
      show Steps p.tables e below (T44.setTop (mkF m 156 #[.val (.int pp1), .val (.int pp2), .val (.int pp3), .val (.int pp4), .val (.int pp5), .val (.int pp6), .val (.int av0), .val (.int av1), .val (.int av2), .val (.int bv0), .val (.int bv1), .val (.int bv2), .val (.ref b9), .val (.ref b16), .val (.ref b23), .val (.ref b30), .val (.int (1 : Int32))] [(.int (1 : Int32)), (.int (own_domv av0 av1 av2 bv0 bv1 bv2))])) _
      refine XS.icmpNo X44.here hx rfl (hb hby at_156) rfl (teq hc156).2 ?_
      show Steps p.tables e below (T44.setTop (mkF m 159 #[.val (.int pp1), .val (.int pp2), .val (.int pp3), .val (.int pp4), .val (.int pp5), .val (.int pp6), .val (.int av0), .val (.int av1), .val (.int av2), .val (.int bv0), .val (.int bv1), .val (.int bv2), .val (.ref b9), .val (.ref b16), .val (.ref b23), .val (.ref b30), .val (.int (1 : Int32))] [])) _
      refine XS.iconst X44.here hx rfl (hb hby at_159) ?_
      show Steps p.tables e below (T44.setTop (mkF m 160 #[.val (.int pp1), .val (.int pp2), .val (.int pp3), .val (.int pp4), .val (.int pp5), .val (.int pp6), .val (.int av0), .val (.int av1), .val (.int av2), .val (.int bv0), .val (.int bv1), .val (.int bv2), .val (.ref b9), .val (.ref b16), .val (.ref b23), .val (.ref b30), .val (.int (1 : Int32))] [(.int (1 : Int32))])) _
      refine XS.goto X44.here hx rfl (pc0 := 160) (pc' := 164) rfl (hb hby at_160) (by decide) (by decide) ?_
      show Steps p.tables e below (T44.setTop (mkF m 164 #[.val (.int pp1), .val (.int pp2), .val (.int pp3), .val (.int pp4), .val (.int pp5), .val (.int pp6), .val (.int av0), .val (.int av1), .val (.int av2), .val (.int bv0), .val (.int bv1), .val (.int bv2), .val (.ref b9), .val (.ref b16), .val (.ref b23), .val (.ref b30), .val (.int (1 : Int32))] [(.int (1 : Int32))])) _
      exact retN X44 hx (t := .boolean) Bd.returns (by simp) (hb hby at_164) hr
    · show Q0 Z pp1 pp2 pp3 pp4 pp5 pp6 h0 n0 _ T44.heap _
      rw [e44]
      exact ⟨rfl, N44⟩
  · skip
    obtain ⟨T46, L46, X46, e46, N46, pre46⟩ : ∃ (T' : State) (L' : List Loc), Stand p l e room_1 (s.setVm T32.vm) m #[(.int pp1), (.int pp2), (.int pp3), (.int pp4), (.int pp5), (.int pp6)] below meth c T' L' 8 26 ∧ T'.heap = T36.heap ∧ Fr n0 L' ∧ ∀ t, Steps p.tables e below (T'.setTop (mkF m 145 #[.val (.int pp1), .val (.int pp2), .val (.int pp3), .val (.int pp4), .val (.int pp5), .val (.int pp6), .val (.int av0), .val (.int av1), .val (.int av2), .val (.int bv0), .val (.int bv1), .val (.int bv2), .val (.ref b9), .val (.ref b16), .val (.ref b23), .val (.ref b30), .unset] [(.int (0 : Int32))])) t → Steps p.tables e below (s₁.setTop (entryFrame m #[(.int pp1), (.int pp2), (.int pp3), (.int pp4), (.int pp5), (.int pp6)] maxLocals)) t := by
      obtain ⟨_, _, ⟨T47, L47, k47, n47⟩, -, X47, ⟨Lc47, hQ47, l47, y47, z47⟩, st47⟩ := Jvm.LawKit.callS X36 hx (y := (⟨"com/example/guarded_stream/guardedstream/model/SecurityLevelDominatesPinLaw", "ok", "(II)Z"⟩ : MethodName)) hown (mvT hZ (hw _ (List.mem_of_getElem? (i := 28) rfl))) (mvT hZ (hw _ (List.mem_of_getElem? (i := 29) rfl))) (mvT hZ (hw _ (List.mem_of_getElem? (i := 2) rfl))) (mvT hZ (hw _ (List.mem_of_getElem? (i := 30) rfl))) (by decide) (backOf (W := 0) (rm4 l Z a0 hw [] av0 bv0 T36.heap n0 Z36 ) hZ (hw _ (List.mem_of_getElem? (i := 30) rfl)) (hw _ (List.mem_of_getElem? (i := 2) rfl)) (by decide) (by decide)) (g := (mkF m 114 #[.val (.int pp1), .val (.int pp2), .val (.int pp3), .val (.int pp4), .val (.int pp5), .val (.int pp6), .val (.int av0), .val (.int av1), .val (.int av2), .val (.int bv0), .val (.int bv1), .val (.int bv2), .val (.ref b9), .val (.ref b16), .val (.ref b23), .val (.ref b30), .unset] [(.int bv0), (.int av0)])) rfl (by rw [hml]; rfl) (argsL := [(.int av0), (.int bv0)]) (rest := []) (lenOf pd__28_II_29_Z rfl) rfl (by show 2 * 0 + _ ≤ _; exact Nat.le_of_eq rfl) (hb hby at_114) (fun _ _ => ⟨rfl, rfl, (by decide : 8 + 0 ≤ _), (by decide : 26 + 0 ≤ _)⟩)
      dsimp only [Pt.U, Pt.locs, Pt.cells, Pt.slots] at X47 l47 y47 z47 st47 hQ47
      subst l47 y47 z47
      obtain ⟨rfl, N47q, e47⟩ := hQ47
      have N47 := Fr.app N36 N47q
      have pre48 : ∀ t, Steps p.tables e below (T47.setTop (mkF m 117 #[.val (.int pp1), .val (.int pp2), .val (.int pp3), .val (.int pp4), .val (.int pp5), .val (.int pp6), .val (.int av0), .val (.int av1), .val (.int av2), .val (.int bv0), .val (.int bv1), .val (.int bv2), .val (.ref b9), .val (.ref b16), .val (.ref b23), .val (.ref b30), .unset] [(.int (own_okv av0 bv0))])) t → Steps p.tables e below (s₁.setTop (entryFrame m #[(.int pp1), (.int pp2), (.int pp3), (.int pp4), (.int pp5), (.int pp6)] maxLocals)) t := fun t kt => pre37 t (by
        show Steps p.tables e below (T36.setTop (mkF m 110 #[.val (.int pp1), .val (.int pp2), .val (.int pp3), .val (.int pp4), .val (.int pp5), .val (.int pp6), .val (.int av0), .val (.int av1), .val (.int av2), .val (.int bv0), .val (.int bv1), .val (.int bv2), .val (.ref b9), .val (.ref b16), .val (.ref b23), .val (.ref b30), .unset] [])) _
        refine XS.iload X36.here hx rfl (hb hby at_110) rfl ?_
        show Steps p.tables e below (T36.setTop (mkF m 112 #[.val (.int pp1), .val (.int pp2), .val (.int pp3), .val (.int pp4), .val (.int pp5), .val (.int pp6), .val (.int av0), .val (.int av1), .val (.int av2), .val (.int bv0), .val (.int bv1), .val (.int bv2), .val (.ref b9), .val (.ref b16), .val (.ref b23), .val (.ref b30), .unset] [(.int av0)])) _
        refine XS.iload X36.here hx rfl (hb hby at_112) rfl ?_
        show Steps p.tables e below (T36.setTop (mkF m 114 #[.val (.int pp1), .val (.int pp2), .val (.int pp3), .val (.int pp4), .val (.int pp5), .val (.int pp6), .val (.int av0), .val (.int av1), .val (.int av2), .val (.int bv0), .val (.int bv1), .val (.int bv2), .val (.ref b9), .val (.ref b16), .val (.ref b23), .val (.ref b30), .unset] [(.int bv0), (.int av0)])) _
        refine st47 _ ?_
        exact kt)
      by_cases hc117_2 : (own_okv av0 bv0) = (0 : Int32)
      · skip
        exact ⟨_, _, X47, e47, N47, fun t kt => pre48 t (by
            show Steps p.tables e below (T47.setTop (mkF m 117 #[.val (.int pp1), .val (.int pp2), .val (.int pp3), .val (.int pp4), .val (.int pp5), .val (.int pp6), .val (.int av0), .val (.int av1), .val (.int av2), .val (.int bv0), .val (.int bv1), .val (.int bv2), .val (.ref b9), .val (.ref b16), .val (.ref b23), .val (.ref b30), .unset] [(.int (own_okv av0 bv0))])) _
            refine XS.ifYes X47.here hx rfl (pc0 := 117) (pc' := 144) rfl (hb hby at_117) rfl ((if0 _ _).trans (teq hc117_2).1) (by decide) (by decide) ?_
            show Steps p.tables e below (T47.setTop (mkF m 144 #[.val (.int pp1), .val (.int pp2), .val (.int pp3), .val (.int pp4), .val (.int pp5), .val (.int pp6), .val (.int av0), .val (.int av1), .val (.int av2), .val (.int bv0), .val (.int bv1), .val (.int bv2), .val (.ref b9), .val (.ref b16), .val (.ref b23), .val (.ref b30), .unset] [])) _
            refine XS.iconst X47.here hx rfl (hb hby at_144) ?_
            exact kt)⟩
      · skip
        obtain ⟨_, _, ⟨T49, L49, k49, n49⟩, -, X49, ⟨Lc49, hQ49, l49, y49, z49⟩, st49⟩ := Jvm.LawKit.callS X47 hx (y := (⟨"com/example/guarded_stream/guardedstream/model/SecurityLevelDominatesPinLaw", "ok", "(II)Z"⟩ : MethodName)) hown (mvT hZ (hw _ (List.mem_of_getElem? (i := 28) rfl))) (mvT hZ (hw _ (List.mem_of_getElem? (i := 29) rfl))) (mvT hZ (hw _ (List.mem_of_getElem? (i := 2) rfl))) (mvT hZ (hw _ (List.mem_of_getElem? (i := 30) rfl))) (by decide) (backOf (W := 0) (rm4 l Z a0 hw [] av1 bv1 T36.heap n0 Z36 ) hZ (hw _ (List.mem_of_getElem? (i := 30) rfl)) (hw _ (List.mem_of_getElem? (i := 2) rfl)) (by decide) (by decide)) (g := (mkF m 124 #[.val (.int pp1), .val (.int pp2), .val (.int pp3), .val (.int pp4), .val (.int pp5), .val (.int pp6), .val (.int av0), .val (.int av1), .val (.int av2), .val (.int bv0), .val (.int bv1), .val (.int bv2), .val (.ref b9), .val (.ref b16), .val (.ref b23), .val (.ref b30), .unset] [(.int bv1), (.int av1)])) rfl (by rw [hml]; rfl) (argsL := [(.int av1), (.int bv1)]) (rest := []) (lenOf pd__28_II_29_Z rfl) rfl (by show 2 * 0 + _ ≤ _; exact Nat.le_of_eq rfl) (hb hby at_124) (fun _ _ => ⟨rfl, e47, (by decide : 8 + 0 ≤ _), (by decide : 26 + 0 ≤ _)⟩)
        dsimp only [Pt.U, Pt.locs, Pt.cells, Pt.slots] at X49 l49 y49 z49 st49 hQ49
        subst l49 y49 z49
        obtain ⟨rfl, N49q, e49⟩ := hQ49
        have N49 := Fr.app N47 N49q
        have pre50 : ∀ t, Steps p.tables e below (T49.setTop (mkF m 127 #[.val (.int pp1), .val (.int pp2), .val (.int pp3), .val (.int pp4), .val (.int pp5), .val (.int pp6), .val (.int av0), .val (.int av1), .val (.int av2), .val (.int bv0), .val (.int bv1), .val (.int bv2), .val (.ref b9), .val (.ref b16), .val (.ref b23), .val (.ref b30), .unset] [(.int (own_okv av1 bv1))])) t → Steps p.tables e below (s₁.setTop (entryFrame m #[(.int pp1), (.int pp2), (.int pp3), (.int pp4), (.int pp5), (.int pp6)] maxLocals)) t := fun t kt => pre48 t (by
          show Steps p.tables e below (T47.setTop (mkF m 117 #[.val (.int pp1), .val (.int pp2), .val (.int pp3), .val (.int pp4), .val (.int pp5), .val (.int pp6), .val (.int av0), .val (.int av1), .val (.int av2), .val (.int bv0), .val (.int bv1), .val (.int bv2), .val (.ref b9), .val (.ref b16), .val (.ref b23), .val (.ref b30), .unset] [(.int (own_okv av0 bv0))])) _
          refine XS.ifNo X47.here hx rfl (hb hby at_117) rfl ((if0 _ _).trans (feq hc117_2).1) ?_
          show Steps p.tables e below (T47.setTop (mkF m 120 #[.val (.int pp1), .val (.int pp2), .val (.int pp3), .val (.int pp4), .val (.int pp5), .val (.int pp6), .val (.int av0), .val (.int av1), .val (.int av2), .val (.int bv0), .val (.int bv1), .val (.int bv2), .val (.ref b9), .val (.ref b16), .val (.ref b23), .val (.ref b30), .unset] [])) _
          refine XS.iload X47.here hx rfl (hb hby at_120) rfl ?_
          show Steps p.tables e below (T47.setTop (mkF m 122 #[.val (.int pp1), .val (.int pp2), .val (.int pp3), .val (.int pp4), .val (.int pp5), .val (.int pp6), .val (.int av0), .val (.int av1), .val (.int av2), .val (.int bv0), .val (.int bv1), .val (.int bv2), .val (.ref b9), .val (.ref b16), .val (.ref b23), .val (.ref b30), .unset] [(.int av1)])) _
          refine XS.iload X47.here hx rfl (hb hby at_122) rfl ?_
          show Steps p.tables e below (T47.setTop (mkF m 124 #[.val (.int pp1), .val (.int pp2), .val (.int pp3), .val (.int pp4), .val (.int pp5), .val (.int pp6), .val (.int av0), .val (.int av1), .val (.int av2), .val (.int bv0), .val (.int bv1), .val (.int bv2), .val (.ref b9), .val (.ref b16), .val (.ref b23), .val (.ref b30), .unset] [(.int bv1), (.int av1)])) _
          refine st49 _ ?_
          exact kt)
        by_cases hc127_2 : (own_okv av1 bv1) = (0 : Int32)
        · skip
          exact ⟨_, _, X49, e49, N49, fun t kt => pre50 t (by
              show Steps p.tables e below (T49.setTop (mkF m 127 #[.val (.int pp1), .val (.int pp2), .val (.int pp3), .val (.int pp4), .val (.int pp5), .val (.int pp6), .val (.int av0), .val (.int av1), .val (.int av2), .val (.int bv0), .val (.int bv1), .val (.int bv2), .val (.ref b9), .val (.ref b16), .val (.ref b23), .val (.ref b30), .unset] [(.int (own_okv av1 bv1))])) _
              refine XS.ifYes X49.here hx rfl (pc0 := 127) (pc' := 144) rfl (hb hby at_127) rfl ((if0 _ _).trans (teq hc127_2).1) (by decide) (by decide) ?_
              show Steps p.tables e below (T49.setTop (mkF m 144 #[.val (.int pp1), .val (.int pp2), .val (.int pp3), .val (.int pp4), .val (.int pp5), .val (.int pp6), .val (.int av0), .val (.int av1), .val (.int av2), .val (.int bv0), .val (.int bv1), .val (.int bv2), .val (.ref b9), .val (.ref b16), .val (.ref b23), .val (.ref b30), .unset] [])) _
              refine XS.iconst X49.here hx rfl (hb hby at_144) ?_
              exact kt)⟩
        · skip
          obtain ⟨_, _, ⟨T51, L51, k51, n51⟩, -, X51, ⟨Lc51, hQ51, l51, y51, z51⟩, st51⟩ := Jvm.LawKit.callS X49 hx (y := (⟨"com/example/guarded_stream/guardedstream/model/SecurityLevelDominatesPinLaw", "ok", "(II)Z"⟩ : MethodName)) hown (mvT hZ (hw _ (List.mem_of_getElem? (i := 28) rfl))) (mvT hZ (hw _ (List.mem_of_getElem? (i := 29) rfl))) (mvT hZ (hw _ (List.mem_of_getElem? (i := 2) rfl))) (mvT hZ (hw _ (List.mem_of_getElem? (i := 30) rfl))) (by decide) (backOf (W := 0) (rm4 l Z a0 hw [] av2 bv2 T36.heap n0 Z36 ) hZ (hw _ (List.mem_of_getElem? (i := 30) rfl)) (hw _ (List.mem_of_getElem? (i := 2) rfl)) (by decide) (by decide)) (g := (mkF m 134 #[.val (.int pp1), .val (.int pp2), .val (.int pp3), .val (.int pp4), .val (.int pp5), .val (.int pp6), .val (.int av0), .val (.int av1), .val (.int av2), .val (.int bv0), .val (.int bv1), .val (.int bv2), .val (.ref b9), .val (.ref b16), .val (.ref b23), .val (.ref b30), .unset] [(.int bv2), (.int av2)])) rfl (by rw [hml]; rfl) (argsL := [(.int av2), (.int bv2)]) (rest := []) (lenOf pd__28_II_29_Z rfl) rfl (by show 2 * 0 + _ ≤ _; exact Nat.le_of_eq rfl) (hb hby at_134) (fun _ _ => ⟨rfl, e49, (by decide : 8 + 0 ≤ _), (by decide : 26 + 0 ≤ _)⟩)
          dsimp only [Pt.U, Pt.locs, Pt.cells, Pt.slots] at X51 l51 y51 z51 st51 hQ51
          subst l51 y51 z51
          obtain ⟨rfl, N51q, e51⟩ := hQ51
          have N51 := Fr.app N49 N51q
          have pre52 : ∀ t, Steps p.tables e below (T51.setTop (mkF m 137 #[.val (.int pp1), .val (.int pp2), .val (.int pp3), .val (.int pp4), .val (.int pp5), .val (.int pp6), .val (.int av0), .val (.int av1), .val (.int av2), .val (.int bv0), .val (.int bv1), .val (.int bv2), .val (.ref b9), .val (.ref b16), .val (.ref b23), .val (.ref b30), .unset] [(.int (own_okv av2 bv2))])) t → Steps p.tables e below (s₁.setTop (entryFrame m #[(.int pp1), (.int pp2), (.int pp3), (.int pp4), (.int pp5), (.int pp6)] maxLocals)) t := fun t kt => pre50 t (by
            show Steps p.tables e below (T49.setTop (mkF m 127 #[.val (.int pp1), .val (.int pp2), .val (.int pp3), .val (.int pp4), .val (.int pp5), .val (.int pp6), .val (.int av0), .val (.int av1), .val (.int av2), .val (.int bv0), .val (.int bv1), .val (.int bv2), .val (.ref b9), .val (.ref b16), .val (.ref b23), .val (.ref b30), .unset] [(.int (own_okv av1 bv1))])) _
            refine XS.ifNo X49.here hx rfl (hb hby at_127) rfl ((if0 _ _).trans (feq hc127_2).1) ?_
            show Steps p.tables e below (T49.setTop (mkF m 130 #[.val (.int pp1), .val (.int pp2), .val (.int pp3), .val (.int pp4), .val (.int pp5), .val (.int pp6), .val (.int av0), .val (.int av1), .val (.int av2), .val (.int bv0), .val (.int bv1), .val (.int bv2), .val (.ref b9), .val (.ref b16), .val (.ref b23), .val (.ref b30), .unset] [])) _
            refine XS.iload X49.here hx rfl (hb hby at_130) rfl ?_
            show Steps p.tables e below (T49.setTop (mkF m 132 #[.val (.int pp1), .val (.int pp2), .val (.int pp3), .val (.int pp4), .val (.int pp5), .val (.int pp6), .val (.int av0), .val (.int av1), .val (.int av2), .val (.int bv0), .val (.int bv1), .val (.int bv2), .val (.ref b9), .val (.ref b16), .val (.ref b23), .val (.ref b30), .unset] [(.int av2)])) _
            refine XS.iload X49.here hx rfl (hb hby at_132) rfl ?_
            show Steps p.tables e below (T49.setTop (mkF m 134 #[.val (.int pp1), .val (.int pp2), .val (.int pp3), .val (.int pp4), .val (.int pp5), .val (.int pp6), .val (.int av0), .val (.int av1), .val (.int av2), .val (.int bv0), .val (.int bv1), .val (.int bv2), .val (.ref b9), .val (.ref b16), .val (.ref b23), .val (.ref b30), .unset] [(.int bv2), (.int av2)])) _
            refine st51 _ ?_
            exact kt)
          by_cases hc137_2 : (own_okv av2 bv2) = (0 : Int32)
          · skip
            exact ⟨_, _, X51, e51, N51, fun t kt => pre52 t (by
                show Steps p.tables e below (T51.setTop (mkF m 137 #[.val (.int pp1), .val (.int pp2), .val (.int pp3), .val (.int pp4), .val (.int pp5), .val (.int pp6), .val (.int av0), .val (.int av1), .val (.int av2), .val (.int bv0), .val (.int bv1), .val (.int bv2), .val (.ref b9), .val (.ref b16), .val (.ref b23), .val (.ref b30), .unset] [(.int (own_okv av2 bv2))])) _
                refine XS.ifYes X51.here hx rfl (pc0 := 137) (pc' := 144) rfl (hb hby at_137) rfl ((if0 _ _).trans (teq hc137_2).1) (by decide) (by decide) ?_
                show Steps p.tables e below (T51.setTop (mkF m 144 #[.val (.int pp1), .val (.int pp2), .val (.int pp3), .val (.int pp4), .val (.int pp5), .val (.int pp6), .val (.int av0), .val (.int av1), .val (.int av2), .val (.int bv0), .val (.int bv1), .val (.int bv2), .val (.ref b9), .val (.ref b16), .val (.ref b23), .val (.ref b30), .unset] [])) _
                refine XS.iconst X51.here hx rfl (hb hby at_144) ?_
                exact kt)⟩
          · skip
            exact absurd ⟨own_okv_of hc117_2, own_okv_of hc127_2, own_okv_of hc137_2⟩ hall
    have F_53 : Fld Z T36.heap b23 "com/example/guarded_stream/guardedstream/model/SecurityLevel" "entries" "[I" (.ref b9) := (((R29_0.ext E30).ext E32).keep K36c (ninS (Nat.ne_of_lt (Nat.lt_of_lt_of_le (E_26.keep K29c).lt (Nat.le_of_eq g30.symm))) nin0))
    have V_54 : Arv Z T36.heap b9 k9 .int (3 : Int32) [(.int av0), (.int av1), (.int av2)] (.int (0 : Int32)) := ((((((((((V15.ext E16).other W18 (Nat.ne_of_lt (Nat.lt_of_lt_of_le V15.lt (Nat.le_of_eq g16.symm)))).other W20 (Nat.ne_of_lt (Nat.lt_of_lt_of_le V15.lt (Nat.le_of_eq g16.symm)))).other W22 (Nat.ne_of_lt (Nat.lt_of_lt_of_le V15.lt (Nat.le_of_eq g16.symm)))).ext E23).ext E25).keep K29c (ninS (Nat.ne_of_lt (Nat.lt_of_lt_of_le ((((V15.ext E16).other W18 (Nat.ne_of_lt (Nat.lt_of_lt_of_le V15.lt (Nat.le_of_eq g16.symm)))).other W20 (Nat.ne_of_lt (Nat.lt_of_lt_of_le V15.lt (Nat.le_of_eq g16.symm)))).other W22 (Nat.ne_of_lt (Nat.lt_of_lt_of_le V15.lt (Nat.le_of_eq g16.symm)))).lt (Nat.le_of_eq g23.symm))) nin0)).ext E30).ext E32).keep K36c (ninS (Nat.ne_of_lt (Nat.lt_of_lt_of_le (((((((V15.ext E16).other W18 (Nat.ne_of_lt (Nat.lt_of_lt_of_le V15.lt (Nat.le_of_eq g16.symm)))).other W20 (Nat.ne_of_lt (Nat.lt_of_lt_of_le V15.lt (Nat.le_of_eq g16.symm)))).other W22 (Nat.ne_of_lt (Nat.lt_of_lt_of_le V15.lt (Nat.le_of_eq g16.symm)))).ext E23).ext E25).keep K29c (ninS (Nat.ne_of_lt (Nat.lt_of_lt_of_le ((((V15.ext E16).other W18 (Nat.ne_of_lt (Nat.lt_of_lt_of_le V15.lt (Nat.le_of_eq g16.symm)))).other W20 (Nat.ne_of_lt (Nat.lt_of_lt_of_le V15.lt (Nat.le_of_eq g16.symm)))).other W22 (Nat.ne_of_lt (Nat.lt_of_lt_of_le V15.lt (Nat.le_of_eq g16.symm)))).lt (Nat.le_of_eq g23.symm))) nin0)).lt (Nat.le_of_eq g30.symm))) nin0))
    have V_55 : Arv Z T36.heap b16 k16 .int (3 : Int32) [(.int bv0), (.int bv1), (.int bv2)] (.int (0 : Int32)) := ((((((V22.ext E23).ext E25).keep K29c (ninS (Nat.ne_of_lt (Nat.lt_of_lt_of_le V22.lt (Nat.le_of_eq g23.symm))) nin0)).ext E30).ext E32).keep K36c (ninS (Nat.ne_of_lt (Nat.lt_of_lt_of_le (((V22.ext E23).ext E25).keep K29c (ninS (Nat.ne_of_lt (Nat.lt_of_lt_of_le V22.lt (Nat.le_of_eq g23.symm))) nin0)).lt (Nat.le_of_eq g30.symm))) nin0))
    have E_57 : Exa Z T36.heap b23 "com/example/guarded_stream/guardedstream/model/SecurityLevel" := ((((E_26.keep K29c).ext E30).ext E32).keep K36c)
    obtain ⟨cq56, kq56, q56a, q56b, q56c⟩ := isOf hZ e46 E_57
    obtain ⟨_, _, ⟨T56, L56, k56, n56⟩, -, X56, ⟨Lc56, hQ56, l56, y56, z56⟩, st56⟩ := X46.virtualBack hx (y := (⟨"com/example/guarded_stream/guardedstream/model/SecurityLevel", "dominates", "(Lcom/example/guarded_stream/guardedstream/model/SecurityLevel;)Z"⟩ : MethodName)) (z := (⟨"com/example/guarded_stream/guardedstream/model/SecurityLevel", "dominates", "(Lcom/example/guarded_stream/guardedstream/model/SecurityLevel;)Z"⟩ : MethodName)) hown (mvT hZ (hw _ (List.mem_of_getElem? (i := 31) rfl))) (mvT hZ (hw _ (List.mem_of_getElem? (i := 32) rfl))) (notFace_of_selects (args := #[]) (mvT hZ (hw _ (List.mem_of_getElem? (i := 34) rfl)))) (mvT hZ (hw _ (List.mem_of_getElem? (i := 34) rfl))) (mvT hZ (hw _ (List.mem_of_getElem? (i := 33) rfl))) (by decide) (backOf (W := 0) (rm5 l Z a0 hw [] b23 b30 b9 b16 k9 k16 av0 av1 av2 bv0 bv1 bv2 T36.heap n0 Z36 F_53 R36_0 V_54 V_55) hZ (hw _ (List.mem_of_getElem? (i := 35) rfl)) (hw _ (List.mem_of_getElem? (i := 8) rfl)) (by decide) (by decide)) q56a q56c (g := (mkF m 151 #[.val (.int pp1), .val (.int pp2), .val (.int pp3), .val (.int pp4), .val (.int pp5), .val (.int pp6), .val (.int av0), .val (.int av1), .val (.int av2), .val (.int bv0), .val (.int bv1), .val (.int bv2), .val (.ref b9), .val (.ref b16), .val (.ref b23), .val (.ref b30), .val (.int (0 : Int32))] [(.ref b30), (.ref b23)])) rfl (by rw [hml]; rfl) (Steps.refl _) (argsL := [(.ref b30)]) (rest := []) (lenOf pd__28_Lcom_2f_example_2f_guarded_stream_2f_guardedstream_2f_model_2f_SecurityLevel_3b__29_Z rfl) rfl (by show 2 * 0 + _ ≤ _; exact Nat.le_of_eq rfl) (hb hby at_151) (fun _ _ => ⟨rfl, e46, (by decide : 8 + 0 ≤ _), (by decide : 26 + 0 ≤ _)⟩)
    dsimp only [Pt.U, Pt.locs, Pt.cells, Pt.slots] at X56 l56 y56 z56 st56 hQ56
    subst l56 y56 z56
    obtain ⟨rfl, N56q, e56⟩ := hQ56
    have N56 := Fr.app N46 N56q
    have hc156_2 : (own_domv av0 av1 av2 bv0 bv1 bv2) = (0 : Int32) := own_domv_neg hall
    obtain ⟨fs, hr, hrun, hended, qe1, qe2, qe3, qe4⟩ := Stand.leaveW (s := s) (vm₁ := T32.vm) X56 hS32 (by rw [e56]; exact kz36) (v := some (.int (1 : Int32))) (fun h => by rw [Bd.returns] at h; cases h)
    refine ⟨_, _, pre46 _ ?_, hrun, hended, _, _, rfl, ?_, qe1, qe2, qe3, qe4.mono (by decide) (by decide)⟩
    · show Steps p.tables e below (T46.setTop (mkF m 145 #[.val (.int pp1), .val (.int pp2), .val (.int pp3), .val (.int pp4), .val (.int pp5), .val (.int pp6), .val (.int av0), .val (.int av1), .val (.int av2), .val (.int bv0), .val (.int bv1), .val (.int bv2), .val (.ref b9), .val (.ref b16), .val (.ref b23), .val (.ref b30), .unset] [(.int (0 : Int32))])) _
      refine XS.istore X46.here hx rfl (hb hby at_145) rfl (l' := #[.val (.int pp1), .val (.int pp2), .val (.int pp3), .val (.int pp4), .val (.int pp5), .val (.int pp6), .val (.int av0), .val (.int av1), .val (.int av2), .val (.int bv0), .val (.int bv1), .val (.int bv2), .val (.ref b9), .val (.ref b16), .val (.ref b23), .val (.ref b30), .val (.int (0 : Int32))]) rfl ?_
      show Steps p.tables e below (T46.setTop (mkF m 147 #[.val (.int pp1), .val (.int pp2), .val (.int pp3), .val (.int pp4), .val (.int pp5), .val (.int pp6), .val (.int av0), .val (.int av1), .val (.int av2), .val (.int bv0), .val (.int bv1), .val (.int bv2), .val (.ref b9), .val (.ref b16), .val (.ref b23), .val (.ref b30), .val (.int (0 : Int32))] [])) _
      refine XS.aload X46.here hx rfl (hb hby at_147) rfl rfl ?_
      show Steps p.tables e below (T46.setTop (mkF m 149 #[.val (.int pp1), .val (.int pp2), .val (.int pp3), .val (.int pp4), .val (.int pp5), .val (.int pp6), .val (.int av0), .val (.int av1), .val (.int av2), .val (.int bv0), .val (.int bv1), .val (.int bv2), .val (.ref b9), .val (.ref b16), .val (.ref b23), .val (.ref b30), .val (.int (0 : Int32))] [(.ref b23)])) _
      refine XS.aload X46.here hx rfl (hb hby at_149) rfl rfl ?_
      show Steps p.tables e below (T46.setTop (mkF m 151 #[.val (.int pp1), .val (.int pp2), .val (.int pp3), .val (.int pp4), .val (.int pp5), .val (.int pp6), .val (.int av0), .val (.int av1), .val (.int av2), .val (.int bv0), .val (.int bv1), .val (.int bv2), .val (.ref b9), .val (.ref b16), .val (.ref b23), .val (.ref b30), .val (.int (0 : Int32))] [(.ref b30), (.ref b23)])) _
      refine st56.trans ?_
      show Steps p.tables e below (T56.setTop (mkF m 154 #[.val (.int pp1), .val (.int pp2), .val (.int pp3), .val (.int pp4), .val (.int pp5), .val (.int pp6), .val (.int av0), .val (.int av1), .val (.int av2), .val (.int bv0), .val (.int bv1), .val (.int bv2), .val (.ref b9), .val (.ref b16), .val (.ref b23), .val (.ref b30), .val (.int (0 : Int32))] [(.int (own_domv av0 av1 av2 bv0 bv1 bv2))])) _
      refine XS.iload X56.here hx rfl (hb hby at_154) rfl ?_
      show Steps p.tables e below (T56.setTop (mkF m 156 #[.val (.int pp1), .val (.int pp2), .val (.int pp3), .val (.int pp4), .val (.int pp5), .val (.int pp6), .val (.int av0), .val (.int av1), .val (.int av2), .val (.int bv0), .val (.int bv1), .val (.int bv2), .val (.ref b9), .val (.ref b16), .val (.ref b23), .val (.ref b30), .val (.int (0 : Int32))] [(.int (0 : Int32)), (.int (own_domv av0 av1 av2 bv0 bv1 bv2))])) _
      refine XS.icmpNo X56.here hx rfl (hb hby at_156) rfl (teq hc156_2).2 ?_
      show Steps p.tables e below (T56.setTop (mkF m 159 #[.val (.int pp1), .val (.int pp2), .val (.int pp3), .val (.int pp4), .val (.int pp5), .val (.int pp6), .val (.int av0), .val (.int av1), .val (.int av2), .val (.int bv0), .val (.int bv1), .val (.int bv2), .val (.ref b9), .val (.ref b16), .val (.ref b23), .val (.ref b30), .val (.int (0 : Int32))] [])) _
      refine XS.iconst X56.here hx rfl (hb hby at_159) ?_
      show Steps p.tables e below (T56.setTop (mkF m 160 #[.val (.int pp1), .val (.int pp2), .val (.int pp3), .val (.int pp4), .val (.int pp5), .val (.int pp6), .val (.int av0), .val (.int av1), .val (.int av2), .val (.int bv0), .val (.int bv1), .val (.int bv2), .val (.ref b9), .val (.ref b16), .val (.ref b23), .val (.ref b30), .val (.int (0 : Int32))] [(.int (1 : Int32))])) _
      refine XS.goto X56.here hx rfl (pc0 := 160) (pc' := 164) rfl (hb hby at_160) (by decide) (by decide) ?_
      show Steps p.tables e below (T56.setTop (mkF m 164 #[.val (.int pp1), .val (.int pp2), .val (.int pp3), .val (.int pp4), .val (.int pp5), .val (.int pp6), .val (.int av0), .val (.int av1), .val (.int av2), .val (.int bv0), .val (.int bv1), .val (.int bv2), .val (.ref b9), .val (.ref b16), .val (.ref b23), .val (.ref b30), .val (.int (0 : Int32))] [(.int (1 : Int32))])) _
      exact retN X56 hx (t := .boolean) Bd.returns (by simp) (hb hby at_164) hr
    · show Q0 Z pp1 pp2 pp3 pp4 pp5 pp6 h0 n0 _ T56.heap _
      rw [e56]
      exact ⟨rfl, N56⟩
set_option maxRecDepth 65536 in
set_option maxHeartbeats 40000000 in
theorem comes_1 {Post : Tables → Env → Array Value → State → Outcome → State → Prop} (hpost : ∀ tb e args s v u, (limb_1_1.after args s (.returned v) u = true ∧ limb_1_2.after args s (.returned v) u = true ∧ True) → ReturnedEndW s (.returned v) u (Jvm.fieldLocs frame_1_writes args s ++ Jvm.arrayLocs frame_1_arrays args s ++ Jvm.staticLocs frame_1_statics s) 24 2176 → Post tb e args s (.returned v) u) :
    ArmFor flags0 classFile x code maxLocals ret World_1 tables_1 room_1 Calls_1 rest_1 Pre_1 Post := by
  intro l hfl _ _ p e ha hc hk s m args below hf hA hF happ hP
  obtain ⟨hcalls, hrest, hpre⟩ := hP
  obtain ⟨-, -, -, hnamed, -, -, -, hat⟩ := (Spec.applies_iff hf).mp happ
  obtain ⟨hg, hn⟩ := and_e (Cond.before_iff.mp (show (Jvm.Cond.and given_1 narrow_1).before args s = true from hpre))
  obtain ⟨g1, g2⟩ := and_e hg
  obtain ⟨g3, g4⟩ := and_e g2
  obtain ⟨g5, g6⟩ := and_e g4
  obtain ⟨g7, g8⟩ := and_e g6
  obtain ⟨g9, g10⟩ := and_e g8
  obtain ⟨g11, g12⟩ := and_e g10
  obtain ⟨w0, w1, w2, w3, w4, w5, rfl⟩ : ∃ w0 w1 w2 w3 w4 w5 : Value, args = #[w0, w1, w2, w3, w4, w5] := by
    have hs : args.size = 6 := by simpa [Cond.value, given_1] using g1
    obtain ⟨L⟩ := args
    match L, hs with
    | [w0, w1, w2, w3, w4, w5], _ => exact ⟨w0, w1, w2, w3, w4, w5, rfl⟩
  have hw := fun d (hd : d ∈ tables_1) => atoms_spec (ws := Jvm.Cond.code x code maxLocals ret :: tables_1) hat d (List.mem_cons_of_mem _ hd)
  have hfit : Fit s := fun {y c} hc i hi => by
    obtain ⟨ha, rfl⟩ := Array.getElem?_eq_some_iff.mp hc
    have q := List.all_eq_true.mp ((Array.all_eq_true_iff_forall_mem.mp hF) _ (Array.getElem_mem ha)) i (List.mem_range.mpr hi)
    simpa [Array.getElem?_eq_getElem hi] using q
  obtain ⟨i0, ei0⟩ := is_v g3
  obtain rfl : w0 = (.int i0) := Option.some.inj ei0
  obtain ⟨i1, ei1⟩ := is_v g5
  obtain rfl : w1 = (.int i1) := Option.some.inj ei1
  obtain ⟨i2, ei2⟩ := is_v g7
  obtain rfl : w2 = (.int i2) := Option.some.inj ei2
  obtain ⟨i3, ei3⟩ := is_v g9
  obtain rfl : w3 = (.int i3) := Option.some.inj ei3
  obtain ⟨i4, ei4⟩ := is_v g11
  obtain rfl : w4 = (.int i4) := Option.some.inj ei4
  obtain ⟨i5, ei5⟩ := is_v g12
  obtain rfl : w5 = (.int i5) := Option.some.inj ei5
  obtain ⟨n, o, h1, h2, h3, _, L, rfl, ⟨rfl, N⟩, hq⟩ := rm0 l s _ hw tables_1 i0 i1 i2 i3 i4 i5 s.heap s.heap.size (Nat.le_refl _)  p e ha hc hk s m _ below hf ((Spec.applies_iff_loose hf).mp happ).1 ⟨rfl, State.Warmed39.refl s, rfl⟩ trivial
  refine ⟨n, _, h1, h2, h3, hpost _ _ _ _ _ _ ⟨Cond.after_iff.mpr rfl, Cond.after_iff.mpr (eq_i res_at (Term.int_eval (1)) rfl), trivial⟩ ⟨hq.1, hq.2.1, hq.2.2.1, (hq.2.2.2.sift fun y hy => Or.inr (N y hy)).mono (by decide) (by decide)⟩⟩
theorem main_1_1 : Claimed_1_1 := comes_1 fun _ _ _ _ _ _ h hF => ⟨h.1, hF⟩
theorem main_1_2 : Claimed_1_2 := comes_1 fun _ _ _ _ _ _ h hF => ⟨h.2.1, hF⟩
end Jvm.Pilot.@@N@@
namespace Jvm.Pilot.@@N@@
open Jvm Jvm.ClassFile Sem Op Lib Jvm.Free Jvm.Stand Jvm.Pilot.@@N@@.Jvm.D
/-! MADE BY PROGRAM (witnessworld.py) out of the Statement's table words and the real class files: 14 classes; the members and pool entries that the words name. The judged class is class 1, her method 3. -/
namespace start1
open Jvm.ClassFile
def u (s : String) : CpInfo := .utf8 (stringToUtf16 s)
/-- a pool by its gaps: so many unusable entries, then the entry; so many at the end -/
def gap : Nat → List CpInfo → List CpInfo
  | 0, r => r
  | n + 1, r => .unusable :: gap n r
def poolList (es : List (Nat × CpInfo)) (last : Nat) : List CpInfo := es.foldr (fun e r => gap e.1 (e.2 :: r)) (gap last [])
def pool (es : List (Nat × CpInfo)) (last : Nat) : Array CpInfo := ⟨poolList es last⟩
def fileOf (pool : Array CpInfo) (this : Nat) (attrs : Array Attribute := #[]) (ms : Array MethodInfo := #[]) (fl : Nat := 33) (sup : Nat := 0) (ifs : Array Nat := #[]) (fds : Array FieldInfo := #[]) : ClassFile where
  minorVersion := 0
  majorVersion := 65
  constantPool := pool
  accessFlags := fl
  thisClass := this
  superClass := sup
  interfaces := ifs
  fields := fds
  methods := ms
  attributes := attrs
def plain (name : String) (sup : Option ClassId) : Class where
  name := name
  kind := .ordinary
  loader := none
  accessFlags := 33
  super := sup
  interfaces := #[]
  cf := none
  fields := #[]
  methods := #[]
  instanceTypes := #[]
  staticTypes := #[]
  resolved := #[]
  callSites := []
  init := .initialized
  statics := none
  mirror := none

def pool0 : Array CpInfo := pool [(5, u "<init>"), (0, u "()V"), (1, .class_ 10), (1, u "java/lang/Object")] 113

def k0c0 : Code := { maxStack := 0, maxLocals := 1, code := object_method_1_code, exceptionTable := #[], attributes := #[] }
def k0m0 : Method := { name := "<init>", desc := "()V", sig := { parameters := [], returnType := none }, accessFlags := 1, code := some k0c0 }
/-- java/lang/Object -/
def k0 : Class := { plain "java/lang/Object" none with
  accessFlags := 33
  interfaces := #[]
  cf := some (fileOf pool0 8 #[] #[{ accessFlags := 1, nameIndex := 5, descriptorIndex := 6, attributes := #[] }] 33 0 #[] #[])
  fields := #[]
  methods := #[k0m0]
  instanceTypes := #[]
  staticTypes := #[]
  resolved := Array.replicate 124 none
  statics := none }

def pool1 : Array CpInfo := pool [(2, .class_ 4), (1, u "java/lang/Object"), (0, u "<init>"), (0, u "()V"), (0, .integer 2147483647), (0, .methodref 9 10), (0, .class_ 11), (0, .nameAndType 12 13), (0, u "com/example/guarded_stream/guardedstream/model/SecurityLevelDominatesPinLaw"), (0, u "entry"), (0, u "(I)I"), (0, .class_ 15), (0, u "com/example/guarded_stream/guardedstream/model/SecurityLevel"), (0, .string 17), (0, u "c"), (0, .methodref 14 19), (0, .nameAndType 5 20), (0, u "([ILjava/lang/String;)V"), (0, .string 22), (0, u "l"), (0, .methodref 9 24), (0, .nameAndType 25 26), (0, u "ok"), (0, u "(II)Z"), (0, .methodref 14 28), (0, .nameAndType 29 30), (0, u "dominates"), (0, u "(Lcom/example/guarded_stream/guardedstream/model/SecurityLevel;)Z"), (3, u "law"), (0, u "(IIIIII)Z")] 4

def k1m0 : Method := { name := "<init>", desc := "()V", sig := { parameters := [], returnType := none }, accessFlags := 1, code := none }
def k1c1 : Code := { maxStack := 2, maxLocals := 1, code := method_2_code, exceptionTable := #[], attributes := #[] }
def k1m1 : Method := { name := "entry", desc := "(I)I", sig := { parameters := [.int], returnType := some .int }, accessFlags := 10, code := some k1c1 }
def k1c2 : Code := { maxStack := 2, maxLocals := 2, code := method_3_code, exceptionTable := #[], attributes := #[] }
def k1m2 : Method := { name := "ok", desc := "(II)Z", sig := { parameters := [.int, .int], returnType := some .boolean }, accessFlags := 10, code := some k1c2 }
def k1c3 : Code := { maxStack := 4, maxLocals := 17, code := code, exceptionTable := #[], attributes := #[] }
def k1m3 : Method := { name := "law", desc := "(IIIIII)Z", sig := { parameters := [.int, .int, .int, .int, .int, .int], returnType := some .boolean }, accessFlags := 9, code := some k1c3 }
/-- com/example/guarded_stream/guardedstream/model/SecurityLevelDominatesPinLaw -/
def k1 : Class := { plain "com/example/guarded_stream/guardedstream/model/SecurityLevelDominatesPinLaw" (some 0) with
  accessFlags := 49
  interfaces := #[]
  cf := some (fileOf pool1 9 #[] #[{ accessFlags := 1, nameIndex := 5, descriptorIndex := 6, attributes := #[] }, { accessFlags := 10, nameIndex := 12, descriptorIndex := 13, attributes := #[] }, { accessFlags := 10, nameIndex := 25, descriptorIndex := 26, attributes := #[] }, { accessFlags := 9, nameIndex := 34, descriptorIndex := 35, attributes := #[] }] 49 2 #[] #[])
  fields := #[]
  methods := #[k1m0, k1m1, k1m2, k1m3]
  instanceTypes := #[]
  staticTypes := #[]
  resolved := Array.replicate 40 none
  statics := none }

def pool2 : Array CpInfo := pool [(1, .methodref 2 3), (0, .class_ 4), (0, .nameAndType 5 6), (0, u "java/lang/Object"), (0, u "<init>"), (0, u "()V"), (0, .fieldref 8 9), (0, .class_ 10), (0, .nameAndType 11 12), (0, u "com/example/guarded_stream/guardedstream/model/SecurityLevel"), (0, u "entries"), (0, u "[I"), (0, .fieldref 8 14), (0, .nameAndType 15 16), (0, u "text"), (0, u "Ljava/lang/String;"), (10, u "NONE"), (0, u "I"), (2, u "MANY"), (1, u "([ILjava/lang/String;)V"), (2, u "dominates"), (0, u "(Lcom/example/guarded_stream/guardedstream/model/SecurityLevel;)Z")] 9

def k2c0 : Code := { maxStack := 2, maxLocals := 3, code := prog_15_method_1_code, exceptionTable := #[], attributes := #[] }
def k2m0 : Method := { name := "<init>", desc := "([ILjava/lang/String;)V", sig := { parameters := [(.array .int), (.object "java/lang/String")], returnType := none }, accessFlags := 0, code := some k2c0 }
def k2c1 : Code := { maxStack := 3, maxLocals := 4, code := prog_15_method_2_code, exceptionTable := #[], attributes := #[] }
def k2m1 : Method := { name := "dominates", desc := "(Lcom/example/guarded_stream/guardedstream/model/SecurityLevel;)Z", sig := { parameters := [(.object "com/example/guarded_stream/guardedstream/model/SecurityLevel")], returnType := some .boolean }, accessFlags := 1, code := some k2c1 }
/-- com/example/guarded_stream/guardedstream/model/SecurityLevel -/
def k2 : Class := { plain "com/example/guarded_stream/guardedstream/model/SecurityLevel" (some 0) with
  accessFlags := 49
  interfaces := #[]
  cf := some (fileOf pool2 8 #[] #[{ accessFlags := 0, nameIndex := 5, descriptorIndex := 33, attributes := #[] }, { accessFlags := 1, nameIndex := 36, descriptorIndex := 37, attributes := #[] }] 49 2 #[] #[{ accessFlags := 24, nameIndex := 27, descriptorIndex := 28, attributes := #[] }, { accessFlags := 24, nameIndex := 31, descriptorIndex := 28, attributes := #[] }, { accessFlags := 18, nameIndex := 11, descriptorIndex := 12, attributes := #[] }, { accessFlags := 18, nameIndex := 15, descriptorIndex := 16, attributes := #[] }])
  fields := #[{ name := "NONE", type := .int, accessFlags := 24, slot := 0, constantValue := 0 }, { name := "MANY", type := .int, accessFlags := 24, slot := 1, constantValue := 0 }, { name := "entries", type := (.array .int), accessFlags := 18, slot := 0, constantValue := 0 }, { name := "text", type := (.object "java/lang/String"), accessFlags := 18, slot := 1, constantValue := 0 }]
  methods := #[k2m0, k2m1]
  instanceTypes := #[(.array .int), (.object "java/lang/String")]
  staticTypes := #[.int, .int]
  resolved := Array.replicate 47 none
  statics := none }

def pool3 : Array CpInfo := pool [(1, .class_ 2), (0, u "java/io/Serializable"), (0, .class_ 4), (0, u "java/lang/Object")] 2

/-- java/io/Serializable -/
def k3 : Class := { plain "java/io/Serializable" (some 0) with
  accessFlags := 1537
  interfaces := #[]
  cf := some (fileOf pool3 1 #[] #[] 1537 3 #[] #[])
  fields := #[]
  methods := #[]
  instanceTypes := #[]
  staticTypes := #[]
  resolved := Array.replicate 7 none
  statics := none }

def pool4 : Array CpInfo := pool [(1, .class_ 2), (0, u "java/lang/Comparable"), (0, .class_ 4), (0, u "java/lang/Object")] 7

/-- java/lang/Comparable -/
def k4 : Class := { plain "java/lang/Comparable" (some 0) with
  accessFlags := 1537
  interfaces := #[]
  cf := some (fileOf pool4 1 #[] #[] 1537 3 #[] #[])
  fields := #[]
  methods := #[]
  instanceTypes := #[]
  staticTypes := #[]
  resolved := Array.replicate 12 none
  statics := none }

def pool5 : Array CpInfo := pool [(2, .class_ 4), (1, u "java/lang/CharSequence"), (42, .class_ 48), (0, u "java/lang/CharSequence$1CodePointIterator"), (10, .class_ 60), (0, u "java/lang/CharSequence$1CharIterator"), (5, .class_ 67), (0, u "java/lang/Object")] 63

/-- java/lang/CharSequence -/
def k5 : Class := { plain "java/lang/CharSequence" (some 0) with
  accessFlags := 1537
  interfaces := #[]
  cf := some (fileOf pool5 2 #[.nestMembers #[47, 59]] #[] 1537 66 #[] #[])
  fields := #[]
  methods := #[]
  instanceTypes := #[]
  staticTypes := #[]
  resolved := Array.replicate 131 none
  statics := none }

def pool6 : Array CpInfo := pool [(1, .class_ 2), (0, u "java/lang/constant/Constable"), (0, .class_ 4), (0, u "java/lang/Object")] 6

/-- java/lang/constant/Constable -/
def k6 : Class := { plain "java/lang/constant/Constable" (some 0) with
  accessFlags := 1537
  interfaces := #[]
  cf := some (fileOf pool6 1 #[] #[] 1537 3 #[] #[])
  fields := #[]
  methods := #[]
  instanceTypes := #[]
  staticTypes := #[]
  resolved := Array.replicate 11 none
  statics := none }

def pool7 : Array CpInfo := pool [(1, .class_ 2), (0, u "java/lang/constant/ConstantDesc"), (0, .class_ 4), (0, u "java/lang/Object")] 32

/-- java/lang/constant/ConstantDesc -/
def k7 : Class := { plain "java/lang/constant/ConstantDesc" (some 0) with
  accessFlags := 1537
  interfaces := #[]
  cf := some (fileOf pool7 1 #[] #[] 1537 3 #[] #[])
  fields := #[]
  methods := #[]
  instanceTypes := #[]
  staticTypes := #[]
  resolved := Array.replicate 37 none
  statics := none }

def pool8 : Array CpInfo := pool [(2, .class_ 4), (1, u "java/lang/Object"), (0, u "<init>"), (0, u "()V"), (3, .class_ 12), (1, u "java/lang/String"), (0, u "value"), (0, u "[B"), (2, u "coder"), (0, u "B"), (2, u "hash"), (0, u "I"), (2, u "hashIsZero"), (0, u "Z"), (13, u "COMPACT_STRINGS"), (534, .class_ 576), (0, u "java/lang/CharSequence"), (22, u "CASE_INSENSITIVE_ORDER"), (0, u "Ljava/util/Comparator;"), (500, u "serialPersistentFields"), (0, u "[Ljava/io/ObjectStreamField;"), (0, .class_ 1104), (0, u "java/lang/String$CaseInsensitiveComparator"), (1, .class_ 1107), (0, u "java/io/Serializable"), (0, .class_ 1109), (0, u "java/lang/Comparable"), (0, .class_ 1111), (0, u "java/lang/constant/Constable"), (0, .class_ 1113), (0, u "java/lang/constant/ConstantDesc"), (2, u "serialVersionUID"), (0, u "J"), (3, u "REPL"), (0, u "C"), (2, u "LATIN1"), (1, u "UTF16")] 323

def k8m0 : Method := { name := "<init>", desc := "()V", sig := { parameters := [], returnType := none }, accessFlags := 1, code := none }
/-- java/lang/String -/
def k8 : Class := { plain "java/lang/String" (some 0) with
  accessFlags := 49
  interfaces := #[3, 4, 5, 6, 7]
  cf := some (fileOf pool8 10 #[.nestMembers #[1103]] #[{ accessFlags := 1, nameIndex := 5, descriptorIndex := 6, attributes := #[] }] 49 2 #[1106, 1108, 575, 1110, 1112] #[{ accessFlags := 18, nameIndex := 13, descriptorIndex := 14, attributes := #[] }, { accessFlags := 18, nameIndex := 17, descriptorIndex := 18, attributes := #[] }, { accessFlags := 2, nameIndex := 21, descriptorIndex := 22, attributes := #[] }, { accessFlags := 2, nameIndex := 25, descriptorIndex := 26, attributes := #[] }, { accessFlags := 26, nameIndex := 1116, descriptorIndex := 1117, attributes := #[] }, { accessFlags := 24, nameIndex := 40, descriptorIndex := 26, attributes := #[] }, { accessFlags := 26, nameIndex := 1101, descriptorIndex := 1102, attributes := #[] }, { accessFlags := 26, nameIndex := 1121, descriptorIndex := 1122, attributes := #[] }, { accessFlags := 25, nameIndex := 599, descriptorIndex := 600, attributes := #[] }, { accessFlags := 24, nameIndex := 1125, descriptorIndex := 18, attributes := #[] }, { accessFlags := 24, nameIndex := 1127, descriptorIndex := 18, attributes := #[] }])
  fields := #[{ name := "value", type := (.array .byte), accessFlags := 18, slot := 0, constantValue := 0 }, { name := "coder", type := .byte, accessFlags := 18, slot := 1, constantValue := 0 }, { name := "hash", type := .int, accessFlags := 2, slot := 2, constantValue := 0 }, { name := "hashIsZero", type := .boolean, accessFlags := 2, slot := 3, constantValue := 0 }, { name := "serialVersionUID", type := .long, accessFlags := 26, slot := 0, constantValue := 0 }, { name := "COMPACT_STRINGS", type := .boolean, accessFlags := 24, slot := 1, constantValue := 0 }, { name := "serialPersistentFields", type := (.array (.object "java/io/ObjectStreamField")), accessFlags := 26, slot := 2, constantValue := 0 }, { name := "REPL", type := .char, accessFlags := 26, slot := 3, constantValue := 0 }, { name := "CASE_INSENSITIVE_ORDER", type := (.object "java/util/Comparator"), accessFlags := 25, slot := 4, constantValue := 0 }, { name := "LATIN1", type := .byte, accessFlags := 24, slot := 5, constantValue := 0 }, { name := "UTF16", type := .byte, accessFlags := 24, slot := 6, constantValue := 0 }]
  methods := #[k8m0]
  instanceTypes := #[(.array .byte), .byte, .int, .boolean]
  staticTypes := #[.long, .boolean, (.array (.object "java/io/ObjectStreamField")), .char, (.object "java/util/Comparator"), .byte, .byte]
  resolved := Array.replicate 1451 none
  statics := none }

def pool9 : Array CpInfo := pool [(1, u "java/lang/Cloneable"), (0, .class_ 1), (0, u "java/lang/Object"), (0, .class_ 3)] 3

/-- java/lang/Cloneable -/
def k9 : Class := { plain "java/lang/Cloneable" (some 0) with
  accessFlags := 1537
  interfaces := #[]
  cf := some (fileOf pool9 2 #[] #[] 1537 4 #[] #[])
  fields := #[]
  methods := #[]
  instanceTypes := #[]
  staticTypes := #[]
  resolved := Array.replicate 8 none
  statics := none }

/-- the primitive byte -/
def k10 : Class := { plain "byte" none with kind := .primitive 'B', accessFlags := 0x411 }
/-- [B -/
def k11 : Class := { plain "[B" (some 0) with kind := .array 10 .byte, interfaces := #[9, 3], accessFlags := 1041 }

/-- the primitive int -/
def k12 : Class := { plain "int" none with kind := .primitive 'I', accessFlags := 0x411 }
/-- [I -/
def k13 : Class := { plain "[I" (some 0) with kind := .array 12 .int, interfaces := #[9, 3], accessFlags := 1041 }

def heap : Heap := #[]
def classes : Array Class := #[k0, k1, k2, k3, k4, k5, k6, k7, k8, k9, k10, k11, k12, k13]
def interned : List (Array UInt16 × Addr) := []
def slotsUsed : Nat := 0
def theMethod : MethodId := ⟨1, 3⟩
def args0 : Array Value := #[.int 1, .int 2, .int 3, .int 4, .int 5, .int 6]
def aboutOver (below : List Frame) : State where
  vm := { classes := classes, interned := interned.toArray }
  heap := heap
  slotsUsed := slotsUsed
  threads := #[{ frames := .invoking theMethod args0 :: below }]
def below0 : List Frame := [.native { method := ⟨0, 0⟩, args := #[] }]
def about1 : State := aboutOver below0
def p0 : Program := .bare "" "" ""
def e0 : Env := launch0.env 0 0 0
theorem w_frames : about1.frames = Frame.invoking theMethod args0 :: below0 := rfl
set_option maxRecDepth 65536 in
theorem w_args : argsFit about1.vm theMethod args0 = true := by decide +kernel
set_option maxRecDepth 65536 in
theorem w_heap : heapFits about1 = true := by decide +kernel
set_option maxRecDepth 65536 in
theorem w_runnable : about1.curStatus? = some .runnable := by decide +kernel
set_option maxRecDepth 65536 in
theorem w_alone : about1.alone = true := by decide +kernel
set_option maxRecDepth 65536 in
theorem w_named : about1.methodNamed? x = some theMethod := by decide +kernel
set_option maxRecDepth 65536 in
theorem w_hears : about1.hears theMethod below0 = true := by decide +kernel
set_option maxRecDepth 65536 in
theorem w_ripe : about1.ripe theMethod args0 below0 = true := by decide +kernel
theorem w_running : about1.status = .running := rfl
set_option maxRecDepth 65536 in
theorem w_room : about1.hasRoom e0.platform room_1 = true :=
  launch0.hasRoom_least _ room_1 (by decide +kernel) (by decide +kernel) (by decide +kernel) (by decide +kernel) (by decide +kernel) (by decide +kernel)
theorem allAtoms_all (ts : List Jvm.Cond) (a : Array Jvm.Value) (st : Jvm.State) : (allAtoms ts).before a st = ts.all (fun c => c.before a st) := by
  induction ts with
  | nil => rfl
  | cons c t ih =>
    show (Jvm.Cond.and c (allAtoms t)).before a st = _
    rw [Jvm.Cond.before_and, ih, List.all_cons]
def words1 : List Jvm.Cond := Jvm.Cond.code x code maxLocals ret :: tables_1
/-- a 'code' word, met by the world's own term for the bytes: nothing is compared byte by byte -/
theorem code_word {y : MethodName} {bytes : ByteArray} {mx : Nat} {rt : Option FieldType} {a : Array Value} {s : State} {m : MethodId} {meth : Method} {c : Code} (h1 : s.methodNamed? y = some m) (h2 : s.vm.method? m = some meth) (h3 : meth.code = some c) (h4 : c.code = bytes)
    (h5 : (c.maxLocals == mx && c.exceptionTable.isEmpty && decide (c.maxStack ≤ mostOperands) && decide (meth.sig.returnType = rt) && !meth.locks && decide (parseMethodDescriptor y.desc = some meth.sig)) = true) : (Jvm.Cond.code y bytes mx rt).before a s = true := by
  simp only [Bool.and_eq_true, beq_iff_eq, Bool.not_eq_true', decide_eq_true_eq] at h5
  obtain ⟨⟨⟨⟨⟨g1, g2⟩, g3⟩, g4⟩, g5⟩, g6⟩ := h5
  simp [Cond.before, Cond.holds, Cond.value, h1, h2, h3, h4, g1, g2, g3, g4, g5, g6]
def isCode : Jvm.Cond → Bool
  | .code _ _ _ _ => true
  | _ => false
theorem all_split {L : List Jvm.Cond} {P : Jvm.Cond → Bool} (h1 : L.all (fun c => isCode c || P c) = true) (h2 : ∀ c ∈ L.filter isCode, P c = true) : L.all P = true := by
  refine List.all_eq_true.mpr fun c hc => ?_
  have h := List.all_eq_true.mp h1 c hc
  rcases Bool.eq_false_or_eq_true (isCode c) with hi | hi
  · exact h2 c (List.mem_filter.mpr ⟨hc, hi⟩)
  · simpa [hi] using h
set_option maxRecDepth 65536 in
theorem w_c0 : (Jvm.Cond.code x code maxLocals ret).before args0 about1 = true := code_word (m := ⟨1, 3⟩) (meth := k1m3) (c := k1c3) (by decide +kernel) rfl rfl rfl (by decide +kernel)
set_option maxRecDepth 65536 in
theorem w_c1 : (Jvm.Cond.code ({ cls := "com/example/guarded_stream/guardedstream/model/SecurityLevelDominatesPinLaw", name := "entry", desc := "(I)I" } : Jvm.MethodName) method_2_code (1 : Nat) (Option.some Jvm.ClassFile.FieldType.int)).before args0 about1 = true := code_word (m := ⟨1, 1⟩) (meth := k1m1) (c := k1c1) (by decide +kernel) rfl rfl rfl (by decide +kernel)
set_option maxRecDepth 65536 in
theorem w_c2 : (Jvm.Cond.code ({ cls := "com/example/guarded_stream/guardedstream/model/SecurityLevel", name := "<init>", desc := "([ILjava/lang/String;)V" } : Jvm.MethodName) prog_15_method_1_code (3 : Nat) (Option.none : Option Jvm.ClassFile.FieldType)).before args0 about1 = true := code_word (m := ⟨2, 0⟩) (meth := k2m0) (c := k2c0) (by decide +kernel) rfl rfl rfl (by decide +kernel)
set_option maxRecDepth 65536 in
theorem w_c3 : (Jvm.Cond.code ({ cls := "java/lang/Object", name := "<init>", desc := "()V" } : Jvm.MethodName) object_method_1_code (1 : Nat) (Option.none : Option Jvm.ClassFile.FieldType)).before args0 about1 = true := code_word (m := ⟨0, 0⟩) (meth := k0m0) (c := k0c0) (by decide +kernel) rfl rfl rfl (by decide +kernel)
set_option maxRecDepth 65536 in
theorem w_c4 : (Jvm.Cond.code ({ cls := "com/example/guarded_stream/guardedstream/model/SecurityLevelDominatesPinLaw", name := "ok", desc := "(II)Z" } : Jvm.MethodName) method_3_code (2 : Nat) (Option.some Jvm.ClassFile.FieldType.boolean)).before args0 about1 = true := code_word (m := ⟨1, 2⟩) (meth := k1m2) (c := k1c2) (by decide +kernel) rfl rfl rfl (by decide +kernel)
set_option maxRecDepth 65536 in
theorem w_c5 : (Jvm.Cond.code ({ cls := "com/example/guarded_stream/guardedstream/model/SecurityLevel", name := "dominates", desc := "(Lcom/example/guarded_stream/guardedstream/model/SecurityLevel;)Z" } : Jvm.MethodName) prog_15_method_2_code (4 : Nat) (Option.some Jvm.ClassFile.FieldType.boolean)).before args0 about1 = true := code_word (m := ⟨2, 1⟩) (meth := k2m1) (c := k2c1) (by decide +kernel) rfl rfl rfl (by decide +kernel)
def codes1 : List Jvm.Cond := [Jvm.Cond.code x code maxLocals ret, Jvm.Cond.code ({ cls := "com/example/guarded_stream/guardedstream/model/SecurityLevelDominatesPinLaw", name := "entry", desc := "(I)I" } : Jvm.MethodName) method_2_code (1 : Nat) (Option.some Jvm.ClassFile.FieldType.int), Jvm.Cond.code ({ cls := "com/example/guarded_stream/guardedstream/model/SecurityLevel", name := "<init>", desc := "([ILjava/lang/String;)V" } : Jvm.MethodName) prog_15_method_1_code (3 : Nat) (Option.none : Option Jvm.ClassFile.FieldType), Jvm.Cond.code ({ cls := "java/lang/Object", name := "<init>", desc := "()V" } : Jvm.MethodName) object_method_1_code (1 : Nat) (Option.none : Option Jvm.ClassFile.FieldType), Jvm.Cond.code ({ cls := "com/example/guarded_stream/guardedstream/model/SecurityLevelDominatesPinLaw", name := "ok", desc := "(II)Z" } : Jvm.MethodName) method_3_code (2 : Nat) (Option.some Jvm.ClassFile.FieldType.boolean), Jvm.Cond.code ({ cls := "com/example/guarded_stream/guardedstream/model/SecurityLevel", name := "dominates", desc := "(Lcom/example/guarded_stream/guardedstream/model/SecurityLevel;)Z" } : Jvm.MethodName) prog_15_method_2_code (4 : Nat) (Option.some Jvm.ClassFile.FieldType.boolean)]
set_option maxRecDepth 65536 in
theorem codes_eq : words1.filter isCode = codes1 := rfl
theorem w_codes : ∀ c ∈ words1.filter isCode, c.before args0 about1 = true := by
  rw [codes_eq]
  intro c hc
  simp only [codes1, List.mem_cons, List.not_mem_nil, or_false] at hc
  rcases hc with rfl | rfl | rfl | rfl | rfl | rfl
  · exact w_c0
  · exact w_c1
  · exact w_c2
  · exact w_c3
  · exact w_c4
  · exact w_c5
set_option maxRecDepth 65536 in
theorem w_t1 : (words1.take 24).all (fun c => isCode c || c.before args0 about1) = true := by decide +kernel
set_option maxRecDepth 65536 in
theorem w_t2 : (words1.drop 24).all (fun c => isCode c || c.before args0 about1) = true := by decide +kernel
theorem w_tables : (allAtoms (Jvm.Cond.code x code maxLocals ret :: tables_1)).before args0 about1 = true := by
  rw [allAtoms_all]
  show words1.all (fun c => c.before args0 about1) = true
  refine all_split ?_ w_codes
  rw [← List.take_append_drop 24 words1, List.all_append, w_t1, w_t2]
  rfl
set_option maxRecDepth 65536 in
theorem w_case : (Jvm.Cond.and given_1 narrow_1).before args0 about1 = true := by decide +kernel
theorem w_applies : (headSpec (Jvm.Cond.code x code maxLocals ret :: tables_1) room_1).applies x e0.platform about1 = true :=
  (Spec.applies_iff w_frames).mpr ⟨w_running, w_runnable, w_alone, w_named, w_hears, w_ripe, w_room, w_tables⟩
theorem atStart : AtStart classFile x code maxLocals ret World_1 tables_1 room_1 Calls_1 rest_1 Pre_1 launch0 p0 e0 about1 theMethod args0 below0 :=
  ⟨lists_1, trivial, launch0.admits_env _ _ _, launch0.least_env, fairChoices_fair.cas, fairChoices_fair.clock, w_frames, w_args, w_heap, w_applies, trivial, trivial, w_case⟩
end start1
theorem witness_1 : WitnessClaimed_1 := ⟨start1.p0, start1.e0, start1.about1, start1.theMethod, start1.args0, start1.below0, start1.atStart⟩
end Jvm.Pilot.@@N@@
