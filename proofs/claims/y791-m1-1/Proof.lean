import JvmDerived
import JvmDerived.Pilot.@@N@@Statement
import JvmDerived.Pilot.@@N@@Code
set_option linter.unusedVariables false
set_option linter.unusedSimpArgs false
namespace Jvm.RoadKit
open Sem ClassFile Op Lib Jvm.Stand Jvm.Free Jvm.LawKit
section New
variable {p : Program} {l : Launch} {e : Env} {R : Room} {s : State} {m : MethodId} {args : Array Value} {below : List Frame} {meth : Method} {c : Code} {T : State} {locs : List Loc} {cells slots : Nat}
theorem retI (X : Stand p l e R s m args below meth c T locs cells slots) (hx : p.tables.exec = Jvm.exec) {pc : Nat} {Ls : Array Slot} {z : Int32} {rest : List Value} (hret : meth.sig.returnType = some .int) (hd : decode c.code pc = .ok (.ireturn, 1)) {fs : List Frame}
    (hl : ∀ (f : JFrame) (acts : List Action), f.method = m → f.locked = none → f.entered = [] → (doReturn e (T.setTop f) acts (some (.int z))).1 = T.setFrames fs) : Steps p.tables e below (T.setTop (mkF m pc Ls (.int z :: rest))) (T.setFrames fs) := by
  have hm' : T.vm.method? m = some meth := X.method'
  have hn : narrow .int (.int z) = .int z := rfl
  show Steps p.tables e below (T.setTop { method := m, pc := pc, locals := Ls, stack := _ :: rest, locked := none }) _
  jvm_step X.here [X.here.top, hx, hd, hm', hret, hn]
  first | (intro acts; rw [hl _ acts rfl rfl rfl]) | rw [hl _ _ rfl rfl rfl]
  exact Steps.refl _
end New
end Jvm.RoadKit
namespace Jvm.Pilot.@@N@@
open Jvm Jvm.ClassFile Sem Op Lib Jvm.Free Jvm.Stand Jvm.LawKit Jvm.RoadKit Bundle Jvm.Pilot.@@N@@.Jvm.D
def own_max (a b : Int64) : Int64 := if a < b then b else a
theorem own_max_l (a b : Int64) : ¬ own_max a b < a := by
  unfold own_max; split
  · intro h; rw [Int64.lt_iff_toInt_lt] at *; omega
  · exact Int64.lt_irrefl
theorem own_max_r (a b : Int64) : ¬ own_max a b < b := by
  unfold own_max; split
  · exact Int64.lt_irrefl
  · assumption
theorem own_max_c (a b : Int64) : own_max a b = a ∨ own_max a b = b := by
  unfold own_max; split
  · exact Or.inr rfl
  · exact Or.inl rfl
theorem own_ntr {a b d : Int64} (h1 : ¬ a < b) (h2 : ¬ b < d) : ¬ a < d := by
  rw [Int64.lt_iff_toInt_lt] at *; omega
theorem own_back (a b : Int64) : (a + b) - a = b := by
  rw [Int64.add_comm]; exact Int64.add_sub_cancel b a
theorem pn_java_lang_Record : plainName "java/lang/Record" = true := by first | (simp [plainName, overriddenIn]; done) | decide +kernel
theorem d2_0 : decode jdk_30_method_1_code 0 = .ok (.aload_n 0, 1) := by decide +kernel
theorem d2_1 : decode jdk_30_method_1_code 1 = .ok (.invokespecial 1, 3) := by decide +kernel
theorem d2_4 : decode jdk_30_method_1_code 4 = .ok (.return_, 1) := by decide +kernel
theorem ef_2 (m : MethodId) (x0 : Addr) : entryFrame m #[(.ref x0)] 1 = mkF m 0 #[.val (.ref x0)] [] := by first | (simp [entryFrame, mkF, argsToLocals, Value.category]; done) | rfl
def Q2 (Z : State) (aa0 : Addr) (h0 : Heap) (n0 : Nat) (v : Option Value) (h : Heap) (L : List Loc) : Prop := v = none ∧ Fr n0 L ∧ h = h0
set_option maxRecDepth 65536 in
set_option maxHeartbeats 40000000 in
theorem rm2 (l : Launch) (Z : State) (a0 : Array Value) (hw : ∀ d ∈ tables_1, d.before a0 Z = true) (ws : List Jvm.Cond) (aa0 : Addr) (h0 : Heap) (n0 : Nat) (Z0 : n0 ≤ h0.size) :
    MetFree l (⟨"java/lang/Record", "<init>", "()V"⟩ : MethodName) (head1 (Jvm.Cond.code (⟨"java/lang/Record", "<init>", "()V"⟩ : MethodName) jdk_30_method_1_code 1 none :: ws) ({ frames := 1, cells := 0, slots := 0, locals := 12 } : Room)) (fun a U => a = #[(.ref aa0)] ∧ Z.Warmed39 U.vm ∧ U.heap = h0) (fun _ _ _ _ _ => True) (fun _ U o U' => ∃ v L, o = .returned v ∧ Q2 Z aa0 h0 n0 v U'.heap L ∧ FrameEnd U o U' L ({ frames := 1, cells := 0, slots := 0, locals := 12 } : Room).cells ({ frames := 1, cells := 0, slots := 0, locals := 12 } : Room).slots) := by
  refine MetFree.of_bodySF (plainFor_of_name pn_java_lang_Record) hisR ?_
  intro p e s m args below meth c s₁ Bd hml0 hP hK
  obtain ⟨rfl, hZ, hh⟩ := hP
  have hx := Bd.exec
  have hby := Bd.bytes
  have hml : c.maxLocals = 1 := hml0
  have hown : s.vm.findClass "java/lang/Record" = some m.cls := findClass_of_methodNamed Bd.named
  have hnm := (name_of_methodNamed Bd.named Bd.method).1
  have X0 : Stand p l e ({ frames := 1, cells := 0, slots := 0, locals := 12 } : Room) s m #[(.ref aa0)] below meth c s₁ [] 0 0 := Stand.of_body Bd
  have e0 : s₁.heap = h0 := by rw [← hh, Bd.state]; rfl
  have N0 := Fr.nil n0
  have pre0 : ∀ t, Steps p.tables e below (s₁.setTop (mkF m 0 #[.val (.ref aa0)] [])) t → Steps p.tables e below (s₁.setTop (entryFrame m #[(.ref aa0)] 1)) t := fun t k => castTop (ef_2 m aa0) k
  obtain ⟨T1, X1, e1, st1⟩ := initO X0 hx hZ hown (hw _ (List.mem_of_getElem? (i := 11) rfl)) (hw _ (List.mem_of_getElem? (i := 12) rfl)) (hw _ (List.mem_of_getElem? (i := 13) rfl)) e0 (g := (mkF m 1 #[.val (.ref aa0)] [(.ref aa0)])) rfl (by rw [hml]; rfl) rfl (hb hby d2_1) (by decide) (W := 0) (by show 2 * 0 + _ ≤ _; exact Nat.le_of_eq rfl) (by decide)
  obtain ⟨fs, hr, hrun, hended, hW, hsame⟩ := X1.leave (v := none) (fun _ => rfl)
  refine ⟨_, _, pre0 _ ?_, hrun, hended, _, _, rfl, ?_, ⟨_, rfl⟩, hW, hsame.mono (by decide) (by decide)⟩
  · show Steps p.tables e below (s₁.setTop (mkF m 0 #[.val (.ref aa0)] [])) _
    refine XS.aloadN X0.here hx rfl (hb hby d2_0) rfl rfl ?_
    show Steps p.tables e below (s₁.setTop (mkF m 1 #[.val (.ref aa0)] [(.ref aa0)])) _
    refine st1 _ ?_
    show Steps p.tables e below (T1.setTop (mkF m 4 #[.val (.ref aa0)] [])) _
    exact X1.returnOut hx Bd.returns (hb hby d2_4) hr
  · show Q2 Z aa0 h0 n0 _ T1.heap _
    rw [e1]
    exact ⟨rfl, N0, rfl⟩
theorem pd__28__29_V : parseMethodDescriptor "()V" = some ⟨[], none⟩ := by decide +kernel
theorem pn_com_example_scrip_scrip_http_Limits_Costs : plainName "com/example/scrip/scrip/http/Limits$Costs" = true := by first | (simp [plainName, overriddenIn]; done) | decide +kernel
theorem d1_0 : decode prog_9_method_1_code 0 = .ok (.aload_n 0, 1) := by decide +kernel
theorem d1_1 : decode prog_9_method_1_code 1 = .ok (.invokespecial 3, 3) := by decide +kernel
theorem d1_4 : decode prog_9_method_1_code 4 = .ok (.aload_n 0, 1) := by decide +kernel
theorem d1_5 : decode prog_9_method_1_code 5 = .ok (.lload_n 1, 1) := by decide +kernel
theorem d1_6 : decode prog_9_method_1_code 6 = .ok (.putfield 9, 3) := by decide +kernel
theorem d1_9 : decode prog_9_method_1_code 9 = .ok (.aload_n 0, 1) := by decide +kernel
theorem d1_10 : decode prog_9_method_1_code 10 = .ok (.iload_n 3, 1) := by decide +kernel
theorem d1_11 : decode prog_9_method_1_code 11 = .ok (.putfield 15, 3) := by decide +kernel
theorem d1_14 : decode prog_9_method_1_code 14 = .ok (.aload_n 0, 1) := by decide +kernel
theorem d1_15 : decode prog_9_method_1_code 15 = .ok (.iload 4, 2) := by decide +kernel
theorem d1_17 : decode prog_9_method_1_code 17 = .ok (.putfield 19, 3) := by decide +kernel
theorem d1_20 : decode prog_9_method_1_code 20 = .ok (.aload_n 0, 1) := by decide +kernel
theorem d1_21 : decode prog_9_method_1_code 21 = .ok (.iload 5, 2) := by decide +kernel
theorem d1_23 : decode prog_9_method_1_code 23 = .ok (.putfield 22, 3) := by decide +kernel
theorem d1_26 : decode prog_9_method_1_code 26 = .ok (.return_, 1) := by decide +kernel
theorem ef_1 (m : MethodId) (x0 : Addr) (x1 : Int64) (x2 : Int32) (x3 : Int32) (x4 : Int32) : entryFrame m #[(.ref x0), (.long x1), (.int x2), (.int x3), (.int x4)] 6 = mkF m 0 #[.val (.ref x0), .val (.long x1), .second, .val (.int x2), .val (.int x3), .val (.int x4)] [] := by first | (simp [entryFrame, mkF, argsToLocals, Value.category]; done) | rfl
def Q1 (Z : State) (aa0 : Addr) (qq1 : Int64) (pp2 : Int32) (pp3 : Int32) (pp4 : Int32) (u_reservedBytes : Value) (u_readingBytes : Value) (u_connectionBytes : Value) (u_pendingBytes : Value) (h0 : Heap) (n0 : Nat) (v : Option Value) (h : Heap) (L : List Loc) : Prop := v = none ∧ Fr n0 L ∧ Keep h0 h [aa0] ∧ (Fld Z h aa0 "com/example/scrip/scrip/http/Limits$Costs" "reservedBytes" "J" (.long qq1)) ∧ (Fld Z h aa0 "com/example/scrip/scrip/http/Limits$Costs" "readingBytes" "I" (.int pp2)) ∧ (Fld Z h aa0 "com/example/scrip/scrip/http/Limits$Costs" "connectionBytes" "I" (.int pp3)) ∧ (Fld Z h aa0 "com/example/scrip/scrip/http/Limits$Costs" "pendingBytes" "I" (.int pp4))
set_option maxRecDepth 65536 in
set_option maxHeartbeats 40000000 in
theorem rm1 (l : Launch) (Z : State) (a0 : Array Value) (hw : ∀ d ∈ tables_1, d.before a0 Z = true) (ws : List Jvm.Cond) (aa0 : Addr) (qq1 : Int64) (pp2 : Int32) (pp3 : Int32) (pp4 : Int32) (u_reservedBytes : Value) (u_readingBytes : Value) (u_connectionBytes : Value) (u_pendingBytes : Value) (h0 : Heap) (n0 : Nat) (Z0 : n0 ≤ h0.size) (E_aa0 : Exa Z h0 aa0 "com/example/scrip/scrip/http/Limits$Costs") (g_aa0 : n0 ≤ aa0) (F_aa0_reservedBytes : Fld Z h0 aa0 "com/example/scrip/scrip/http/Limits$Costs" "reservedBytes" "J" u_reservedBytes) (F_aa0_readingBytes : Fld Z h0 aa0 "com/example/scrip/scrip/http/Limits$Costs" "readingBytes" "I" u_readingBytes) (F_aa0_connectionBytes : Fld Z h0 aa0 "com/example/scrip/scrip/http/Limits$Costs" "connectionBytes" "I" u_connectionBytes) (F_aa0_pendingBytes : Fld Z h0 aa0 "com/example/scrip/scrip/http/Limits$Costs" "pendingBytes" "I" u_pendingBytes) :
    MetFree l (⟨"com/example/scrip/scrip/http/Limits$Costs", "<init>", "(JIII)V"⟩ : MethodName) (head1 (Jvm.Cond.code (⟨"com/example/scrip/scrip/http/Limits$Costs", "<init>", "(JIII)V"⟩ : MethodName) prog_9_method_1_code 6 none :: ws) ({ frames := 2, cells := 0, slots := 0, locals := 24 } : Room)) (fun a U => a = #[(.ref aa0), (.long qq1), (.int pp2), (.int pp3), (.int pp4)] ∧ Z.Warmed39 U.vm ∧ U.heap = h0) (fun _ _ _ _ _ => True) (fun _ U o U' => ∃ v L, o = .returned v ∧ Q1 Z aa0 qq1 pp2 pp3 pp4 u_reservedBytes u_readingBytes u_connectionBytes u_pendingBytes h0 n0 v U'.heap L ∧ FrameEnd U o U' L ({ frames := 2, cells := 0, slots := 0, locals := 24 } : Room).cells ({ frames := 2, cells := 0, slots := 0, locals := 24 } : Room).slots) := by
  refine MetFree.of_bodySF (plainFor_of_name pn_com_example_scrip_scrip_http_Limits_Costs) hisR ?_
  intro p e s m args below meth c s₁ Bd hml0 hP hK
  obtain ⟨rfl, hZ, hh⟩ := hP
  have hx := Bd.exec
  have hby := Bd.bytes
  have hml : c.maxLocals = 6 := hml0
  have hown : s.vm.findClass "com/example/scrip/scrip/http/Limits$Costs" = some m.cls := findClass_of_methodNamed Bd.named
  have hnm := (name_of_methodNamed Bd.named Bd.method).1
  have X0 : Stand p l e ({ frames := 2, cells := 0, slots := 0, locals := 24 } : Room) s m #[(.ref aa0), (.long qq1), (.int pp2), (.int pp3), (.int pp4)] below meth c s₁ [] 0 0 := Stand.of_body Bd
  have e0 : s₁.heap = h0 := by rw [← hh, Bd.state]; rfl
  have N0 := Fr.nil n0
  have pre0 : ∀ t, Steps p.tables e below (s₁.setTop (mkF m 0 #[.val (.ref aa0), .val (.long qq1), .second, .val (.int pp2), .val (.int pp3), .val (.int pp4)] [])) t → Steps p.tables e below (s₁.setTop (entryFrame m #[(.ref aa0), (.long qq1), (.int pp2), (.int pp3), (.int pp4)] 6)) t := fun t k => castTop (ef_1 m aa0 qq1 pp2 pp3 pp4) k
  obtain ⟨_, _, ⟨T1, L1, k1, n1⟩, -, X1, ⟨Lc1, hQ1, l1, y1, z1⟩, st1⟩ := X0.specialBack hx (y := (⟨"java/lang/Record", "<init>", "()V"⟩ : MethodName)) rfl hown (mvT hZ (hw _ (List.mem_of_getElem? (i := 6) rfl))) (mvT hZ (hw _ (List.mem_of_getElem? (i := 7) rfl))) (mvT hZ (hw _ (List.mem_of_getElem? (i := 10) rfl))) (by decide) (backOf (W := 0) (rm2 l Z a0 hw [] aa0 h0 n0 Z0 ) hZ (hw _ (List.mem_of_getElem? (i := 10) rfl)) (hw _ (List.mem_of_getElem? (i := 9) rfl)) (by decide) (by decide)) (g := (mkF m 1 #[.val (.ref aa0), .val (.long qq1), .second, .val (.int pp2), .val (.int pp3), .val (.int pp4)] [(.ref aa0)])) rfl (by rw [hml]; rfl) (Steps.refl _) (a := aa0) (argsL := []) (rest := []) (lenOf pd__28__29_V rfl) rfl (by show 2 * 0 + _ ≤ _; exact Nat.le_of_eq rfl) (hb hby d1_1) (fun _ _ => ⟨rfl, e0, (by decide : 0 + 0 ≤ _), (by decide : 0 + 0 ≤ _)⟩)
  dsimp only [Pt.U, Pt.locs, Pt.cells, Pt.slots] at X1 l1 y1 z1 st1 hQ1
  subst l1 y1 z1
  obtain ⟨rfl, N1q, e1⟩ := hQ1
  have N1 := Fr.app N0 N1q
  obtain ⟨T2, h2, X2, e2, W2, st2⟩ := putF X1 hx hZ hown (host := "") (Or.inl (hw _ (List.mem_of_getElem? (i := 14) rfl))) Via.refl e1 F_aa0_reservedBytes E_aa0 (Or.inr ⟨(hw _ (List.mem_of_getElem? (i := 15) rfl)), rfl, hnm⟩) (hw _ (List.mem_of_getElem? (i := 1) rfl)) (ty := .long) (by decide) rfl rfl (g := (mkF m 6 #[.val (.ref aa0), .val (.long qq1), .second, .val (.int pp2), .val (.int pp3), .val (.int pp4)] [(.long qq1), (.ref aa0)])) rfl rfl (hb hby d1_6)
  have N2 := Fr.snoc X2 N1 g_aa0
  have Z2 : n0 ≤ h2.size := Nat.le_trans Z0 (Keep.of_wr W2).1
  have K2 : Keep h0 h2 [aa0] := (Keep.refl h0 [aa0]).wr W2 (Or.inl (List.mem_of_getElem? (i := 0) rfl))
  have F2 : Fld Z h2 aa0 "com/example/scrip/scrip/http/Limits$Costs" "reservedBytes" "J" (.long qq1) := F_aa0_reservedBytes.same W2
  have E_3 : Exa Z h2 aa0 "com/example/scrip/scrip/http/Limits$Costs" := (E_aa0.wr W2)
  have F_4 : Fld Z h2 aa0 "com/example/scrip/scrip/http/Limits$Costs" "readingBytes" "I" u_readingBytes := (F_aa0_readingBytes.other W2 (Or.inr (slot_ne (Or.inr (hw _ (List.mem_of_getElem? (i := 17) rfl))) (Or.inr (hw _ (List.mem_of_getElem? (i := 15) rfl))) (by decide) (t := .int) (t' := .long) (by decide) (by decide))))
  obtain ⟨T5, h5, X5, e5, W5, st5⟩ := putF X2 hx hZ hown (host := "") (Or.inl (hw _ (List.mem_of_getElem? (i := 16) rfl))) Via.refl e2 F_4 E_3 (Or.inr ⟨(hw _ (List.mem_of_getElem? (i := 17) rfl)), rfl, hnm⟩) (hw _ (List.mem_of_getElem? (i := 1) rfl)) (ty := .int) (by decide) rfl rfl (g := (mkF m 11 #[.val (.ref aa0), .val (.long qq1), .second, .val (.int pp2), .val (.int pp3), .val (.int pp4)] [(.int pp2), (.ref aa0)])) rfl rfl (hb hby d1_11)
  have N5 := Fr.snoc X5 N2 g_aa0
  have Z5 : n0 ≤ h5.size := Nat.le_trans Z2 (Keep.of_wr W5).1
  have K5 : Keep h0 h5 [aa0] := K2.wr W5 (Or.inl (List.mem_of_getElem? (i := 0) rfl))
  have F5 : Fld Z h5 aa0 "com/example/scrip/scrip/http/Limits$Costs" "readingBytes" "I" (.int pp2) := F_4.same W5
  have E_6 : Exa Z h5 aa0 "com/example/scrip/scrip/http/Limits$Costs" := (E_3.wr W5)
  have F_7 : Fld Z h5 aa0 "com/example/scrip/scrip/http/Limits$Costs" "connectionBytes" "I" u_connectionBytes := ((F_aa0_connectionBytes.other W2 (Or.inr (slot_ne (Or.inr (hw _ (List.mem_of_getElem? (i := 19) rfl))) (Or.inr (hw _ (List.mem_of_getElem? (i := 15) rfl))) (by decide) (t := .int) (t' := .long) (by decide) (by decide)))).other W5 (Or.inr (slot_ne (Or.inr (hw _ (List.mem_of_getElem? (i := 19) rfl))) (Or.inr (hw _ (List.mem_of_getElem? (i := 17) rfl))) (by decide) (t := .int) (t' := .int) (by decide) (by decide))))
  obtain ⟨T8, h8, X8, e8, W8, st8⟩ := putF X5 hx hZ hown (host := "") (Or.inl (hw _ (List.mem_of_getElem? (i := 18) rfl))) Via.refl e5 F_7 E_6 (Or.inr ⟨(hw _ (List.mem_of_getElem? (i := 19) rfl)), rfl, hnm⟩) (hw _ (List.mem_of_getElem? (i := 1) rfl)) (ty := .int) (by decide) rfl rfl (g := (mkF m 17 #[.val (.ref aa0), .val (.long qq1), .second, .val (.int pp2), .val (.int pp3), .val (.int pp4)] [(.int pp3), (.ref aa0)])) rfl rfl (hb hby d1_17)
  have N8 := Fr.snoc X8 N5 g_aa0
  have Z8 : n0 ≤ h8.size := Nat.le_trans Z5 (Keep.of_wr W8).1
  have K8 : Keep h0 h8 [aa0] := K5.wr W8 (Or.inl (List.mem_of_getElem? (i := 0) rfl))
  have F8 : Fld Z h8 aa0 "com/example/scrip/scrip/http/Limits$Costs" "connectionBytes" "I" (.int pp3) := F_7.same W8
  have E_9 : Exa Z h8 aa0 "com/example/scrip/scrip/http/Limits$Costs" := (E_6.wr W8)
  have F_10 : Fld Z h8 aa0 "com/example/scrip/scrip/http/Limits$Costs" "pendingBytes" "I" u_pendingBytes := (((F_aa0_pendingBytes.other W2 (Or.inr (slot_ne (Or.inr (hw _ (List.mem_of_getElem? (i := 21) rfl))) (Or.inr (hw _ (List.mem_of_getElem? (i := 15) rfl))) (by decide) (t := .int) (t' := .long) (by decide) (by decide)))).other W5 (Or.inr (slot_ne (Or.inr (hw _ (List.mem_of_getElem? (i := 21) rfl))) (Or.inr (hw _ (List.mem_of_getElem? (i := 17) rfl))) (by decide) (t := .int) (t' := .int) (by decide) (by decide)))).other W8 (Or.inr (slot_ne (Or.inr (hw _ (List.mem_of_getElem? (i := 21) rfl))) (Or.inr (hw _ (List.mem_of_getElem? (i := 19) rfl))) (by decide) (t := .int) (t' := .int) (by decide) (by decide))))
  obtain ⟨T11, h11, X11, e11, W11, st11⟩ := putF X8 hx hZ hown (host := "") (Or.inl (hw _ (List.mem_of_getElem? (i := 20) rfl))) Via.refl e8 F_10 E_9 (Or.inr ⟨(hw _ (List.mem_of_getElem? (i := 21) rfl)), rfl, hnm⟩) (hw _ (List.mem_of_getElem? (i := 1) rfl)) (ty := .int) (by decide) rfl rfl (g := (mkF m 23 #[.val (.ref aa0), .val (.long qq1), .second, .val (.int pp2), .val (.int pp3), .val (.int pp4)] [(.int pp4), (.ref aa0)])) rfl rfl (hb hby d1_23)
  have N11 := Fr.snoc X11 N8 g_aa0
  have Z11 : n0 ≤ h11.size := Nat.le_trans Z8 (Keep.of_wr W11).1
  have K11 : Keep h0 h11 [aa0] := K8.wr W11 (Or.inl (List.mem_of_getElem? (i := 0) rfl))
  have F11 : Fld Z h11 aa0 "com/example/scrip/scrip/http/Limits$Costs" "pendingBytes" "I" (.int pp4) := F_10.same W11
  have F_12 : Fld Z h11 aa0 "com/example/scrip/scrip/http/Limits$Costs" "reservedBytes" "J" (.long qq1) := (((F2.other W5 (Or.inr (slot_ne (Or.inr (hw _ (List.mem_of_getElem? (i := 15) rfl))) (Or.inr (hw _ (List.mem_of_getElem? (i := 17) rfl))) (by decide) (t := .long) (t' := .int) (by decide) (by decide)))).other W8 (Or.inr (slot_ne (Or.inr (hw _ (List.mem_of_getElem? (i := 15) rfl))) (Or.inr (hw _ (List.mem_of_getElem? (i := 19) rfl))) (by decide) (t := .long) (t' := .int) (by decide) (by decide)))).other W11 (Or.inr (slot_ne (Or.inr (hw _ (List.mem_of_getElem? (i := 15) rfl))) (Or.inr (hw _ (List.mem_of_getElem? (i := 21) rfl))) (by decide) (t := .long) (t' := .int) (by decide) (by decide))))
  have F_13 : Fld Z h11 aa0 "com/example/scrip/scrip/http/Limits$Costs" "readingBytes" "I" (.int pp2) := ((F5.other W8 (Or.inr (slot_ne (Or.inr (hw _ (List.mem_of_getElem? (i := 17) rfl))) (Or.inr (hw _ (List.mem_of_getElem? (i := 19) rfl))) (by decide) (t := .int) (t' := .int) (by decide) (by decide)))).other W11 (Or.inr (slot_ne (Or.inr (hw _ (List.mem_of_getElem? (i := 17) rfl))) (Or.inr (hw _ (List.mem_of_getElem? (i := 21) rfl))) (by decide) (t := .int) (t' := .int) (by decide) (by decide))))
  have F_14 : Fld Z h11 aa0 "com/example/scrip/scrip/http/Limits$Costs" "connectionBytes" "I" (.int pp3) := (F8.other W11 (Or.inr (slot_ne (Or.inr (hw _ (List.mem_of_getElem? (i := 19) rfl))) (Or.inr (hw _ (List.mem_of_getElem? (i := 21) rfl))) (by decide) (t := .int) (t' := .int) (by decide) (by decide))))
  obtain ⟨fs, hr, hrun, hended, hW, hsame⟩ := X11.leave (v := none) (fun _ => rfl)
  refine ⟨_, _, pre0 _ ?_, hrun, hended, _, _, rfl, ?_, ⟨_, rfl⟩, hW, hsame.mono (by decide) (by decide)⟩
  · show Steps p.tables e below (s₁.setTop (mkF m 0 #[.val (.ref aa0), .val (.long qq1), .second, .val (.int pp2), .val (.int pp3), .val (.int pp4)] [])) _
    refine XS.aloadN X0.here hx rfl (hb hby d1_0) rfl rfl ?_
    show Steps p.tables e below (s₁.setTop (mkF m 1 #[.val (.ref aa0), .val (.long qq1), .second, .val (.int pp2), .val (.int pp3), .val (.int pp4)] [(.ref aa0)])) _
    refine st1.trans ?_
    show Steps p.tables e below (T1.setTop (mkF m 4 #[.val (.ref aa0), .val (.long qq1), .second, .val (.int pp2), .val (.int pp3), .val (.int pp4)] [])) _
    refine XS.aloadN X1.here hx rfl (hb hby d1_4) rfl rfl ?_
    show Steps p.tables e below (T1.setTop (mkF m 5 #[.val (.ref aa0), .val (.long qq1), .second, .val (.int pp2), .val (.int pp3), .val (.int pp4)] [(.ref aa0)])) _
    refine XS.lloadN X1.here hx rfl (hb hby d1_5) rfl ?_
    show Steps p.tables e below (T1.setTop (mkF m 6 #[.val (.ref aa0), .val (.long qq1), .second, .val (.int pp2), .val (.int pp3), .val (.int pp4)] [(.long qq1), (.ref aa0)])) _
    refine st2 _ ?_
    show Steps p.tables e below (T2.setTop (mkF m 9 #[.val (.ref aa0), .val (.long qq1), .second, .val (.int pp2), .val (.int pp3), .val (.int pp4)] [])) _
    refine XS.aloadN X2.here hx rfl (hb hby d1_9) rfl rfl ?_
    show Steps p.tables e below (T2.setTop (mkF m 10 #[.val (.ref aa0), .val (.long qq1), .second, .val (.int pp2), .val (.int pp3), .val (.int pp4)] [(.ref aa0)])) _
    refine XS.iloadN X2.here hx rfl (hb hby d1_10) rfl ?_
    show Steps p.tables e below (T2.setTop (mkF m 11 #[.val (.ref aa0), .val (.long qq1), .second, .val (.int pp2), .val (.int pp3), .val (.int pp4)] [(.int pp2), (.ref aa0)])) _
    refine st5 _ ?_
    show Steps p.tables e below (T5.setTop (mkF m 14 #[.val (.ref aa0), .val (.long qq1), .second, .val (.int pp2), .val (.int pp3), .val (.int pp4)] [])) _
    refine XS.aloadN X5.here hx rfl (hb hby d1_14) rfl rfl ?_
    show Steps p.tables e below (T5.setTop (mkF m 15 #[.val (.ref aa0), .val (.long qq1), .second, .val (.int pp2), .val (.int pp3), .val (.int pp4)] [(.ref aa0)])) _
    refine XS.iload X5.here hx rfl (hb hby d1_15) rfl ?_
    show Steps p.tables e below (T5.setTop (mkF m 17 #[.val (.ref aa0), .val (.long qq1), .second, .val (.int pp2), .val (.int pp3), .val (.int pp4)] [(.int pp3), (.ref aa0)])) _
    refine st8 _ ?_
    show Steps p.tables e below (T8.setTop (mkF m 20 #[.val (.ref aa0), .val (.long qq1), .second, .val (.int pp2), .val (.int pp3), .val (.int pp4)] [])) _
    refine XS.aloadN X8.here hx rfl (hb hby d1_20) rfl rfl ?_
    show Steps p.tables e below (T8.setTop (mkF m 21 #[.val (.ref aa0), .val (.long qq1), .second, .val (.int pp2), .val (.int pp3), .val (.int pp4)] [(.ref aa0)])) _
    refine XS.iload X8.here hx rfl (hb hby d1_21) rfl ?_
    show Steps p.tables e below (T8.setTop (mkF m 23 #[.val (.ref aa0), .val (.long qq1), .second, .val (.int pp2), .val (.int pp3), .val (.int pp4)] [(.int pp4), (.ref aa0)])) _
    refine st11 _ ?_
    show Steps p.tables e below (T11.setTop (mkF m 26 #[.val (.ref aa0), .val (.long qq1), .second, .val (.int pp2), .val (.int pp3), .val (.int pp4)] [])) _
    exact X11.returnOut hx Bd.returns (hb hby d1_26) hr
  · show Q1 Z aa0 qq1 pp2 pp3 pp4 u_reservedBytes u_readingBytes u_connectionBytes u_pendingBytes h0 n0 _ T11.heap _
    rw [e11]
    exact ⟨rfl, N11, K11, F_12, F_13, F_14, F11⟩
theorem d5_0 : decode jdk_29_method_66_code 0 = .ok (.lload_n 0, 1) := by decide +kernel
theorem d5_1 : decode jdk_29_method_66_code 1 = .ok (.lload_n 2, 1) := by decide +kernel
theorem d5_2 : decode jdk_29_method_66_code 2 = .ok (.lcmp, 1) := by decide +kernel
theorem d5_3 : decode jdk_29_method_66_code 3 = .ok (.ifCond .lt 7, 3) := by decide +kernel
theorem d5_6 : decode jdk_29_method_66_code 6 = .ok (.lload_n 0, 1) := by decide +kernel
theorem d5_7 : decode jdk_29_method_66_code 7 = .ok (.goto 4, 3) := by decide +kernel
theorem d5_10 : decode jdk_29_method_66_code 10 = .ok (.lload_n 2, 1) := by decide +kernel
theorem d5_11 : decode jdk_29_method_66_code 11 = .ok (.lreturn, 1) := by decide +kernel
theorem ef_5 (m : MethodId) (x0 : Int64) (x1 : Int64) : entryFrame m #[(.long x0), (.long x1)] 4 = mkF m 0 #[.val (.long x0), .second, .val (.long x1), .second] [] := by first | (simp [entryFrame, mkF, argsToLocals, Value.category]; done) | rfl
def Q5 (Z : State) (qq1 : Int64) (qq2 : Int64) (h0 : Heap) (n0 : Nat) (v : Option Value) (h : Heap) (L : List Loc) : Prop := v = some (.long (own_max qq1 qq2)) ∧ Fr n0 L ∧ h = h0
set_option maxRecDepth 65536 in
set_option maxHeartbeats 40000000 in
theorem rm5 (l : Launch) (Z : State) (a0 : Array Value) (hw : ∀ d ∈ tables_1, d.before a0 Z = true) (ws : List Jvm.Cond) (qq1 : Int64) (qq2 : Int64) (h0 : Heap) (n0 : Nat) (Z0 : n0 ≤ h0.size) :
    MetFree l (⟨"java/lang/Math", "max", "(JJ)J"⟩ : MethodName) (head1 (Jvm.Cond.code (⟨"java/lang/Math", "max", "(JJ)J"⟩ : MethodName) jdk_29_method_66_code 4 (some .long) :: ws) ({ frames := 0, cells := 0, slots := 0, locals := 0 } : Room)) (fun a U => a = #[(.long qq1), (.long qq2)] ∧ Z.Warmed39 U.vm ∧ U.heap = h0) (fun _ _ _ _ _ => True) (fun _ U o U' => ∃ v L, o = .returned v ∧ Q5 Z qq1 qq2 h0 n0 v U'.heap L ∧ FrameEnd U o U' L ({ frames := 0, cells := 0, slots := 0, locals := 0 } : Room).cells ({ frames := 0, cells := 0, slots := 0, locals := 0 } : Room).slots) := by
  refine MetFree.of_bodySF (Jvm.Free.JP.mathPlain rfl (by decide +kernel)) hisR ?_
  intro p e s m args below meth c s₁ Bd hml0 hP hK
  obtain ⟨rfl, hZ, hh⟩ := hP
  have hx := Bd.exec
  have hby := Bd.bytes
  have hml : c.maxLocals = 4 := hml0
  have hown : s.vm.findClass "java/lang/Math" = some m.cls := findClass_of_methodNamed Bd.named
  have hnm := (name_of_methodNamed Bd.named Bd.method).1
  have X0 : Stand p l e ({ frames := 0, cells := 0, slots := 0, locals := 0 } : Room) s m #[(.long qq1), (.long qq2)] below meth c s₁ [] 0 0 := Stand.of_body Bd
  have e0 : s₁.heap = h0 := by rw [← hh, Bd.state]; rfl
  have N0 := Fr.nil n0
  have pre0 : ∀ t, Steps p.tables e below (s₁.setTop (mkF m 0 #[.val (.long qq1), .second, .val (.long qq2), .second] [])) t → Steps p.tables e below (s₁.setTop (entryFrame m #[(.long qq1), (.long qq2)] 4)) t := fun t k => castTop (ef_5 m qq1 qq2) k
  have pre1 : ∀ t, Steps p.tables e below (s₁.setTop (mkF m 3 #[.val (.long qq1), .second, .val (.long qq2), .second] [(.int (lcmpW qq1 qq2))])) t → Steps p.tables e below (s₁.setTop (entryFrame m #[(.long qq1), (.long qq2)] 4)) t := fun t kt => pre0 t (by
    show Steps p.tables e below (s₁.setTop (mkF m 0 #[.val (.long qq1), .second, .val (.long qq2), .second] [])) _
    refine XS.lloadN X0.here hx rfl (hb hby d5_0) rfl ?_
    show Steps p.tables e below (s₁.setTop (mkF m 1 #[.val (.long qq1), .second, .val (.long qq2), .second] [(.long qq1)])) _
    refine XS.lloadN X0.here hx rfl (hb hby d5_1) rfl ?_
    show Steps p.tables e below (s₁.setTop (mkF m 2 #[.val (.long qq1), .second, .val (.long qq2), .second] [(.long qq2), (.long qq1)])) _
    refine XS.lcmp X0.here hx rfl (hb hby d5_2) rfl ?_
    exact kt)
  by_cases hc3 : qq1 < qq2
  · skip
    obtain ⟨fs, hr, hrun, hended, hW, hsame⟩ := X0.leave (v := some (.long qq2)) (fun h => by rw [Bd.returns] at h; cases h)
    refine ⟨_, _, pre1 _ ?_, hrun, hended, _, _, rfl, ?_, ⟨_, rfl⟩, hW, hsame.mono (by decide) (by decide)⟩
    · show Steps p.tables e below (s₁.setTop (mkF m 3 #[.val (.long qq1), .second, .val (.long qq2), .second] [(.int (lcmpW qq1 qq2))])) _
      refine XS.ifYes X0.here hx rfl (pc0 := 3) (pc' := 10) rfl (hb hby d5_3) rfl ((if0 _ _).trans (tlt ((lw_lt _ _).mpr hc3)).1) (by decide) (by decide) ?_
      show Steps p.tables e below (s₁.setTop (mkF m 10 #[.val (.long qq1), .second, .val (.long qq2), .second] [])) _
      refine XS.lloadN X0.here hx rfl (hb hby d5_10) rfl ?_
      show Steps p.tables e below (s₁.setTop (mkF m 11 #[.val (.long qq1), .second, .val (.long qq2), .second] [(.long qq2)])) _
      jvm_step X0.here [X0.here.top, hx, (hb hby d5_11), X0.method', Bd.returns, narrow]
      first | (intro acts; rw [hr _ acts rfl rfl rfl]) | rw [hr _ _ rfl rfl rfl]
      exact Steps.refl _
    · show Q5 Z qq1 qq2 h0 n0 _ s₁.heap _
      rw [e0]
      exact ⟨(by unfold own_max; first | rw [if_pos hc3] | rw [if_neg hc3]), N0, rfl⟩
  · skip
    obtain ⟨fs, hr, hrun, hended, hW, hsame⟩ := X0.leave (v := some (.long qq1)) (fun h => by rw [Bd.returns] at h; cases h)
    refine ⟨_, _, pre1 _ ?_, hrun, hended, _, _, rfl, ?_, ⟨_, rfl⟩, hW, hsame.mono (by decide) (by decide)⟩
    · show Steps p.tables e below (s₁.setTop (mkF m 3 #[.val (.long qq1), .second, .val (.long qq2), .second] [(.int (lcmpW qq1 qq2))])) _
      refine XS.ifNo X0.here hx rfl (hb hby d5_3) rfl ((if0 _ _).trans (flt (mt (lw_lt _ _).mp hc3)).1) ?_
      show Steps p.tables e below (s₁.setTop (mkF m 6 #[.val (.long qq1), .second, .val (.long qq2), .second] [])) _
      refine XS.lloadN X0.here hx rfl (hb hby d5_6) rfl ?_
      show Steps p.tables e below (s₁.setTop (mkF m 7 #[.val (.long qq1), .second, .val (.long qq2), .second] [(.long qq1)])) _
      refine XS.goto X0.here hx rfl (pc0 := 7) (pc' := 11) rfl (hb hby d5_7) (by decide) (by decide) ?_
      show Steps p.tables e below (s₁.setTop (mkF m 11 #[.val (.long qq1), .second, .val (.long qq2), .second] [(.long qq1)])) _
      jvm_step X0.here [X0.here.top, hx, (hb hby d5_11), X0.method', Bd.returns, narrow]
      first | (intro acts; rw [hr _ acts rfl rfl rfl]) | rw [hr _ _ rfl rfl rfl]
      exact Steps.refl _
    · show Q5 Z qq1 qq2 h0 n0 _ s₁.heap _
      rw [e0]
      exact ⟨(by unfold own_max; first | rw [if_pos hc3] | rw [if_neg hc3]), N0, rfl⟩
theorem pd__28_JJ_29_J : parseMethodDescriptor "(JJ)J" = some ⟨[.long, .long], some .long⟩ := by decide +kernel
theorem d4_0 : decode prog_9_method_2_code 0 = .ok (.ldc2_w 25, 3) := by decide +kernel
theorem d4_3 : decode prog_9_method_2_code 3 = .ok (.aload_n 0, 1) := by decide +kernel
theorem d4_4 : decode prog_9_method_2_code 4 = .ok (.getfield 15, 3) := by decide +kernel
theorem d4_7 : decode prog_9_method_2_code 7 = .ok (.i2l, 1) := by decide +kernel
theorem d4_8 : decode prog_9_method_2_code 8 = .ok (.lmul, 1) := by decide +kernel
theorem d4_9 : decode prog_9_method_2_code 9 = .ok (.lstore_n 1, 1) := by decide +kernel
theorem d4_10 : decode prog_9_method_2_code 10 = .ok (.ldc2_w 29, 3) := by decide +kernel
theorem d4_13 : decode prog_9_method_2_code 13 = .ok (.lstore_n 3, 1) := by decide +kernel
theorem d4_14 : decode prog_9_method_2_code 14 = .ok (.ldc2_w 25, 3) := by decide +kernel
theorem d4_17 : decode prog_9_method_2_code 17 = .ok (.aload_n 0, 1) := by decide +kernel
theorem d4_18 : decode prog_9_method_2_code 18 = .ok (.getfield 19, 3) := by decide +kernel
theorem d4_21 : decode prog_9_method_2_code 21 = .ok (.i2l, 1) := by decide +kernel
theorem d4_22 : decode prog_9_method_2_code 22 = .ok (.lmul, 1) := by decide +kernel
theorem d4_23 : decode prog_9_method_2_code 23 = .ok (.lstore 5, 2) := by decide +kernel
theorem d4_25 : decode prog_9_method_2_code 25 = .ok (.aload_n 0, 1) := by decide +kernel
theorem d4_26 : decode prog_9_method_2_code 26 = .ok (.getfield 9, 3) := by decide +kernel
theorem d4_29 : decode prog_9_method_2_code 29 = .ok (.lload_n 3, 1) := by decide +kernel
theorem d4_30 : decode prog_9_method_2_code 30 = .ok (.lload_n 1, 1) := by decide +kernel
theorem d4_31 : decode prog_9_method_2_code 31 = .ok (.lload 5, 2) := by decide +kernel
theorem d4_33 : decode prog_9_method_2_code 33 = .ok (.invokestatic 31, 3) := by decide +kernel
theorem d4_36 : decode prog_9_method_2_code 36 = .ok (.invokestatic 31, 3) := by decide +kernel
theorem d4_39 : decode prog_9_method_2_code 39 = .ok (.ladd, 1) := by decide +kernel
theorem d4_40 : decode prog_9_method_2_code 40 = .ok (.lreturn, 1) := by decide +kernel
theorem ef_4 (m : MethodId) (x0 : Addr) : entryFrame m #[(.ref x0)] 7 = mkF m 0 #[.val (.ref x0), .unset, .unset, .unset, .unset, .unset, .unset] [] := by first | (simp [entryFrame, mkF, argsToLocals, Value.category]; done) | rfl
def Q4 (Z : State) (aa0 : Addr) (wr : Int32) (wc : Int32) (wb : Int64) (h0 : Heap) (n0 : Nat) (v : Option Value) (h : Heap) (L : List Loc) : Prop := v = some (.long (wb + (own_max (8388608 : Int64) (own_max ((4 : Int64) * (wr.toInt64)) ((4 : Int64) * (wc.toInt64)))))) ∧ Fr n0 L ∧ h = h0
set_option maxRecDepth 65536 in
set_option maxHeartbeats 40000000 in
theorem rm4 (l : Launch) (Z : State) (a0 : Array Value) (hw : ∀ d ∈ tables_1, d.before a0 Z = true) (ws : List Jvm.Cond) (aa0 : Addr) (wr : Int32) (wc : Int32) (wb : Int64) (h0 : Heap) (n0 : Nat) (Z0 : n0 ≤ h0.size) (F_aa0_readingBytes : Fld Z h0 aa0 "com/example/scrip/scrip/http/Limits$Costs" "readingBytes" "I" (.int wr)) (F_aa0_connectionBytes : Fld Z h0 aa0 "com/example/scrip/scrip/http/Limits$Costs" "connectionBytes" "I" (.int wc)) (F_aa0_reservedBytes : Fld Z h0 aa0 "com/example/scrip/scrip/http/Limits$Costs" "reservedBytes" "J" (.long wb)) :
    MetFree l (⟨"com/example/scrip/scrip/http/Limits$Costs", "leastHeapBytes", "()J"⟩ : MethodName) (head1 (Jvm.Cond.code (⟨"com/example/scrip/scrip/http/Limits$Costs", "leastHeapBytes", "()J"⟩ : MethodName) prog_9_method_2_code 7 (some .long) :: ws) ({ frames := 1, cells := 0, slots := 0, locals := 19 } : Room)) (fun a U => a = #[(.ref aa0)] ∧ Z.Warmed39 U.vm ∧ U.heap = h0) (fun _ _ _ _ _ => True) (fun _ U o U' => ∃ v L, o = .returned v ∧ Q4 Z aa0 wr wc wb h0 n0 v U'.heap L ∧ FrameEnd U o U' L ({ frames := 1, cells := 0, slots := 0, locals := 19 } : Room).cells ({ frames := 1, cells := 0, slots := 0, locals := 19 } : Room).slots) := by
  refine MetFree.of_bodySF (plainFor_of_name pn_com_example_scrip_scrip_http_Limits_Costs) hisR ?_
  intro p e s m args below meth c s₁ Bd hml0 hP hK
  obtain ⟨rfl, hZ, hh⟩ := hP
  have hx := Bd.exec
  have hby := Bd.bytes
  have hml : c.maxLocals = 7 := hml0
  have hown : s.vm.findClass "com/example/scrip/scrip/http/Limits$Costs" = some m.cls := findClass_of_methodNamed Bd.named
  have hnm := (name_of_methodNamed Bd.named Bd.method).1
  have X0 : Stand p l e ({ frames := 1, cells := 0, slots := 0, locals := 19 } : Room) s m #[(.ref aa0)] below meth c s₁ [] 0 0 := Stand.of_body Bd
  have e0 : s₁.heap = h0 := by rw [← hh, Bd.state]; rfl
  have N0 := Fr.nil n0
  have pre0 : ∀ t, Steps p.tables e below (s₁.setTop (mkF m 0 #[.val (.ref aa0), .unset, .unset, .unset, .unset, .unset, .unset] [])) t → Steps p.tables e below (s₁.setTop (entryFrame m #[(.ref aa0)] 7)) t := fun t k => castTop (ef_4 m aa0) k
  obtain ⟨T1, X1, e1, st1⟩ := getF X0 hx hZ hown (host := "") (Or.inl (hw _ (List.mem_of_getElem? (i := 16) rfl))) Via.refl e0 F_aa0_readingBytes (g := (mkF m 4 #[.val (.ref aa0), .unset, .unset, .unset, .unset, .unset, .unset] [(.ref aa0), (.long (4 : Int64))])) rfl rfl (hb hby d4_4)
  obtain ⟨T2, X2, e2, st2⟩ := getF X1 hx hZ hown (host := "") (Or.inl (hw _ (List.mem_of_getElem? (i := 18) rfl))) Via.refl e1 F_aa0_connectionBytes (g := (mkF m 18 #[.val (.ref aa0), .val (.long ((4 : Int64) * (wr.toInt64))), .second, .val (.long (8388608 : Int64)), .second, .unset, .unset] [(.ref aa0), (.long (4 : Int64))])) rfl rfl (hb hby d4_18)
  obtain ⟨T3, X3, e3, st3⟩ := getF X2 hx hZ hown (host := "") (Or.inl (hw _ (List.mem_of_getElem? (i := 14) rfl))) Via.refl e2 F_aa0_reservedBytes (g := (mkF m 26 #[.val (.ref aa0), .val (.long ((4 : Int64) * (wr.toInt64))), .second, .val (.long (8388608 : Int64)), .second, .val (.long ((4 : Int64) * (wc.toInt64))), .second] [(.ref aa0)])) rfl rfl (hb hby d4_26)
  obtain ⟨_, _, ⟨T4, L4, k4, n4⟩, -, X4, ⟨Lc4, hQ4, l4, y4, z4⟩, st4⟩ := Jvm.LawKit.callS X3 hx (y := (⟨"java/lang/Math", "max", "(JJ)J"⟩ : MethodName)) hown (mvT hZ (hw _ (List.mem_of_getElem? (i := 29) rfl))) (mvT hZ (hw _ (List.mem_of_getElem? (i := 30) rfl))) (mvT hZ (hw _ (List.mem_of_getElem? (i := 31) rfl))) (mvT hZ (hw _ (List.mem_of_getElem? (i := 32) rfl))) (by decide) (backOf (W := 4) (rm5 l Z a0 hw [] ((4 : Int64) * (wr.toInt64)) ((4 : Int64) * (wc.toInt64)) h0 n0 Z0 ) hZ (hw _ (List.mem_of_getElem? (i := 32) rfl)) (hw _ (List.mem_of_getElem? (i := 31) rfl)) (by decide) (by decide)) (g := (mkF m 33 #[.val (.ref aa0), .val (.long ((4 : Int64) * (wr.toInt64))), .second, .val (.long (8388608 : Int64)), .second, .val (.long ((4 : Int64) * (wc.toInt64))), .second] [(.long ((4 : Int64) * (wc.toInt64))), (.long ((4 : Int64) * (wr.toInt64))), (.long (8388608 : Int64)), (.long wb)])) rfl (by rw [hml]; rfl) (argsL := [(.long ((4 : Int64) * (wr.toInt64))), (.long ((4 : Int64) * (wc.toInt64)))]) (rest := [(.long (8388608 : Int64)), (.long wb)]) (lenOf pd__28_JJ_29_J rfl) rfl (by show 2 * 0 + _ ≤ _; exact Nat.le_of_eq rfl) (hb hby d4_33) (fun _ _ => ⟨rfl, e3, (by decide : 0 + 0 ≤ _), (by decide : 0 + 0 ≤ _)⟩)
  dsimp only [Pt.U, Pt.locs, Pt.cells, Pt.slots] at X4 l4 y4 z4 st4 hQ4
  subst l4 y4 z4
  obtain ⟨rfl, N4q, e4⟩ := hQ4
  have N4 := Fr.app N0 N4q
  obtain ⟨_, _, ⟨T5, L5, k5, n5⟩, -, X5, ⟨Lc5, hQ5, l5, y5, z5⟩, st5⟩ := Jvm.LawKit.callS X4 hx (y := (⟨"java/lang/Math", "max", "(JJ)J"⟩ : MethodName)) hown (mvT hZ (hw _ (List.mem_of_getElem? (i := 29) rfl))) (mvT hZ (hw _ (List.mem_of_getElem? (i := 30) rfl))) (mvT hZ (hw _ (List.mem_of_getElem? (i := 31) rfl))) (mvT hZ (hw _ (List.mem_of_getElem? (i := 32) rfl))) (by decide) (backOf (W := 2) (rm5 l Z a0 hw [] (8388608 : Int64) (own_max ((4 : Int64) * (wr.toInt64)) ((4 : Int64) * (wc.toInt64))) h0 n0 Z0 ) hZ (hw _ (List.mem_of_getElem? (i := 32) rfl)) (hw _ (List.mem_of_getElem? (i := 31) rfl)) (by decide) (by decide)) (g := (mkF m 36 #[.val (.ref aa0), .val (.long ((4 : Int64) * (wr.toInt64))), .second, .val (.long (8388608 : Int64)), .second, .val (.long ((4 : Int64) * (wc.toInt64))), .second] [(.long (own_max ((4 : Int64) * (wr.toInt64)) ((4 : Int64) * (wc.toInt64)))), (.long (8388608 : Int64)), (.long wb)])) rfl (by rw [hml]; rfl) (argsL := [(.long (8388608 : Int64)), (.long (own_max ((4 : Int64) * (wr.toInt64)) ((4 : Int64) * (wc.toInt64))))]) (rest := [(.long wb)]) (lenOf pd__28_JJ_29_J rfl) rfl (by show 2 * 0 + _ ≤ _; exact Nat.le_of_eq rfl) (hb hby d4_36) (fun _ _ => ⟨rfl, e4, (by decide : 0 + 0 ≤ _), (by decide : 0 + 0 ≤ _)⟩)
  dsimp only [Pt.U, Pt.locs, Pt.cells, Pt.slots] at X5 l5 y5 z5 st5 hQ5
  subst l5 y5 z5
  obtain ⟨rfl, N5q, e5⟩ := hQ5
  have N5 := Fr.app N4 N5q
  obtain ⟨fs, hr, hrun, hended, hW, hsame⟩ := X5.leave (v := some (.long (wb + (own_max (8388608 : Int64) (own_max ((4 : Int64) * (wr.toInt64)) ((4 : Int64) * (wc.toInt64))))))) (fun h => by rw [Bd.returns] at h; cases h)
  refine ⟨_, _, pre0 _ ?_, hrun, hended, _, _, rfl, ?_, ⟨_, rfl⟩, hW, hsame.mono (by decide) (by decide)⟩
  · show Steps p.tables e below (s₁.setTop (mkF m 0 #[.val (.ref aa0), .unset, .unset, .unset, .unset, .unset, .unset] [])) _
    refine X0.ldc2Long hx hown (mvT hZ (hw _ (List.mem_of_getElem? (i := 27) rfl))) (g := (mkF m 0 #[.val (.ref aa0), .unset, .unset, .unset, .unset, .unset, .unset] [])) rfl (hb hby d4_0) _ ?_
    show Steps p.tables e below (s₁.setTop (mkF m 3 #[.val (.ref aa0), .unset, .unset, .unset, .unset, .unset, .unset] [(.long (4 : Int64))])) _
    refine XS.aloadN X0.here hx rfl (hb hby d4_3) rfl rfl ?_
    show Steps p.tables e below (s₁.setTop (mkF m 4 #[.val (.ref aa0), .unset, .unset, .unset, .unset, .unset, .unset] [(.ref aa0), (.long (4 : Int64))])) _
    refine st1 _ ?_
    show Steps p.tables e below (T1.setTop (mkF m 7 #[.val (.ref aa0), .unset, .unset, .unset, .unset, .unset, .unset] [(.int wr), (.long (4 : Int64))])) _
    refine XS.i2l X1.here hx rfl (hb hby d4_7) rfl ?_
    show Steps p.tables e below (T1.setTop (mkF m 8 #[.val (.ref aa0), .unset, .unset, .unset, .unset, .unset, .unset] [(.long (wr.toInt64)), (.long (4 : Int64))])) _
    refine XS.lmul X1.here hx rfl (hb hby d4_8) rfl ?_
    show Steps p.tables e below (T1.setTop (mkF m 9 #[.val (.ref aa0), .unset, .unset, .unset, .unset, .unset, .unset] [(.long ((4 : Int64) * (wr.toInt64)))])) _
    refine XS.lstoreN X1.here hx rfl (hb hby d4_9) rfl (l' := #[.val (.ref aa0), .val (.long ((4 : Int64) * (wr.toInt64))), .second, .unset, .unset, .unset, .unset]) rfl ?_
    show Steps p.tables e below (T1.setTop (mkF m 10 #[.val (.ref aa0), .val (.long ((4 : Int64) * (wr.toInt64))), .second, .unset, .unset, .unset, .unset] [])) _
    refine X1.ldc2Long hx hown (mvT hZ (hw _ (List.mem_of_getElem? (i := 28) rfl))) (g := (mkF m 10 #[.val (.ref aa0), .val (.long ((4 : Int64) * (wr.toInt64))), .second, .unset, .unset, .unset, .unset] [])) rfl (hb hby d4_10) _ ?_
    show Steps p.tables e below (T1.setTop (mkF m 13 #[.val (.ref aa0), .val (.long ((4 : Int64) * (wr.toInt64))), .second, .unset, .unset, .unset, .unset] [(.long (8388608 : Int64))])) _
    refine XS.lstoreN X1.here hx rfl (hb hby d4_13) rfl (l' := #[.val (.ref aa0), .val (.long ((4 : Int64) * (wr.toInt64))), .second, .val (.long (8388608 : Int64)), .second, .unset, .unset]) rfl ?_
    show Steps p.tables e below (T1.setTop (mkF m 14 #[.val (.ref aa0), .val (.long ((4 : Int64) * (wr.toInt64))), .second, .val (.long (8388608 : Int64)), .second, .unset, .unset] [])) _
    refine X1.ldc2Long hx hown (mvT hZ (hw _ (List.mem_of_getElem? (i := 27) rfl))) (g := (mkF m 14 #[.val (.ref aa0), .val (.long ((4 : Int64) * (wr.toInt64))), .second, .val (.long (8388608 : Int64)), .second, .unset, .unset] [])) rfl (hb hby d4_14) _ ?_
    show Steps p.tables e below (T1.setTop (mkF m 17 #[.val (.ref aa0), .val (.long ((4 : Int64) * (wr.toInt64))), .second, .val (.long (8388608 : Int64)), .second, .unset, .unset] [(.long (4 : Int64))])) _
    refine XS.aloadN X1.here hx rfl (hb hby d4_17) rfl rfl ?_
    show Steps p.tables e below (T1.setTop (mkF m 18 #[.val (.ref aa0), .val (.long ((4 : Int64) * (wr.toInt64))), .second, .val (.long (8388608 : Int64)), .second, .unset, .unset] [(.ref aa0), (.long (4 : Int64))])) _
    refine st2 _ ?_
    show Steps p.tables e below (T2.setTop (mkF m 21 #[.val (.ref aa0), .val (.long ((4 : Int64) * (wr.toInt64))), .second, .val (.long (8388608 : Int64)), .second, .unset, .unset] [(.int wc), (.long (4 : Int64))])) _
    refine XS.i2l X2.here hx rfl (hb hby d4_21) rfl ?_
    show Steps p.tables e below (T2.setTop (mkF m 22 #[.val (.ref aa0), .val (.long ((4 : Int64) * (wr.toInt64))), .second, .val (.long (8388608 : Int64)), .second, .unset, .unset] [(.long (wc.toInt64)), (.long (4 : Int64))])) _
    refine XS.lmul X2.here hx rfl (hb hby d4_22) rfl ?_
    show Steps p.tables e below (T2.setTop (mkF m 23 #[.val (.ref aa0), .val (.long ((4 : Int64) * (wr.toInt64))), .second, .val (.long (8388608 : Int64)), .second, .unset, .unset] [(.long ((4 : Int64) * (wc.toInt64)))])) _
    refine XS.lstore X2.here hx rfl (hb hby d4_23) rfl (l' := #[.val (.ref aa0), .val (.long ((4 : Int64) * (wr.toInt64))), .second, .val (.long (8388608 : Int64)), .second, .val (.long ((4 : Int64) * (wc.toInt64))), .second]) rfl ?_
    show Steps p.tables e below (T2.setTop (mkF m 25 #[.val (.ref aa0), .val (.long ((4 : Int64) * (wr.toInt64))), .second, .val (.long (8388608 : Int64)), .second, .val (.long ((4 : Int64) * (wc.toInt64))), .second] [])) _
    refine XS.aloadN X2.here hx rfl (hb hby d4_25) rfl rfl ?_
    show Steps p.tables e below (T2.setTop (mkF m 26 #[.val (.ref aa0), .val (.long ((4 : Int64) * (wr.toInt64))), .second, .val (.long (8388608 : Int64)), .second, .val (.long ((4 : Int64) * (wc.toInt64))), .second] [(.ref aa0)])) _
    refine st3 _ ?_
    show Steps p.tables e below (T3.setTop (mkF m 29 #[.val (.ref aa0), .val (.long ((4 : Int64) * (wr.toInt64))), .second, .val (.long (8388608 : Int64)), .second, .val (.long ((4 : Int64) * (wc.toInt64))), .second] [(.long wb)])) _
    refine XS.lloadN X3.here hx rfl (hb hby d4_29) rfl ?_
    show Steps p.tables e below (T3.setTop (mkF m 30 #[.val (.ref aa0), .val (.long ((4 : Int64) * (wr.toInt64))), .second, .val (.long (8388608 : Int64)), .second, .val (.long ((4 : Int64) * (wc.toInt64))), .second] [(.long (8388608 : Int64)), (.long wb)])) _
    refine XS.lloadN X3.here hx rfl (hb hby d4_30) rfl ?_
    show Steps p.tables e below (T3.setTop (mkF m 31 #[.val (.ref aa0), .val (.long ((4 : Int64) * (wr.toInt64))), .second, .val (.long (8388608 : Int64)), .second, .val (.long ((4 : Int64) * (wc.toInt64))), .second] [(.long ((4 : Int64) * (wr.toInt64))), (.long (8388608 : Int64)), (.long wb)])) _
    refine XS.lload X3.here hx rfl (hb hby d4_31) rfl ?_
    show Steps p.tables e below (T3.setTop (mkF m 33 #[.val (.ref aa0), .val (.long ((4 : Int64) * (wr.toInt64))), .second, .val (.long (8388608 : Int64)), .second, .val (.long ((4 : Int64) * (wc.toInt64))), .second] [(.long ((4 : Int64) * (wc.toInt64))), (.long ((4 : Int64) * (wr.toInt64))), (.long (8388608 : Int64)), (.long wb)])) _
    refine st4 _ ?_
    show Steps p.tables e below (T4.setTop (mkF m 36 #[.val (.ref aa0), .val (.long ((4 : Int64) * (wr.toInt64))), .second, .val (.long (8388608 : Int64)), .second, .val (.long ((4 : Int64) * (wc.toInt64))), .second] [(.long (own_max ((4 : Int64) * (wr.toInt64)) ((4 : Int64) * (wc.toInt64)))), (.long (8388608 : Int64)), (.long wb)])) _
    refine st5 _ ?_
    show Steps p.tables e below (T5.setTop (mkF m 39 #[.val (.ref aa0), .val (.long ((4 : Int64) * (wr.toInt64))), .second, .val (.long (8388608 : Int64)), .second, .val (.long ((4 : Int64) * (wc.toInt64))), .second] [(.long (own_max (8388608 : Int64) (own_max ((4 : Int64) * (wr.toInt64)) ((4 : Int64) * (wc.toInt64))))), (.long wb)])) _
    refine XS.ladd X5.here hx rfl (hb hby d4_39) rfl ?_
    show Steps p.tables e below (T5.setTop (mkF m 40 #[.val (.ref aa0), .val (.long ((4 : Int64) * (wr.toInt64))), .second, .val (.long (8388608 : Int64)), .second, .val (.long ((4 : Int64) * (wc.toInt64))), .second] [(.long (wb + (own_max (8388608 : Int64) (own_max ((4 : Int64) * (wr.toInt64)) ((4 : Int64) * (wc.toInt64))))))])) _
    jvm_step X5.here [X5.here.top, hx, (hb hby d4_40), X5.method', Bd.returns, narrow]
    first | (intro acts; rw [hr _ acts rfl rfl rfl]) | rw [hr _ _ rfl rfl rfl]
    exact Steps.refl _
  · show Q4 Z aa0 wr wc wb h0 n0 _ T5.heap _
    rw [e5]
    exact ⟨rfl, N5, rfl⟩
theorem pd__28_JIII_29_V : parseMethodDescriptor "(JIII)V" = some ⟨[.long, .int, .int, .int], none⟩ := by decide +kernel
theorem pd__28__29_J : parseMethodDescriptor "()J" = some ⟨[], some .long⟩ := by decide +kernel
theorem pn_com_example_scrip_scrip_http_CostsLeastHeapBytesPinLaw : plainName "com/example/scrip/scrip/http/CostsLeastHeapBytesPinLaw" = true := by first | (simp [plainName, overriddenIn]; done) | decide +kernel
theorem ef_0 (m : MethodId) (x0 : Int64) (x1 : Int32) (x2 : Int32) (x3 : Int32) : entryFrame m #[(.long x0), (.int x1), (.int x2), (.int x3)] maxLocals = mkF m 0 #[.val (.long x0), .second, .val (.int x1), .val (.int x2), .val (.int x3), .unset, .unset, .unset, .unset, .unset, .unset, .unset, .unset, .unset, .unset, .unset] [] := by first | (simp [entryFrame, mkF, argsToLocals, Value.category, maxLocals]; done) | rfl
def Q0 (Z : State) (qq1 : Int64) (pp2 : Int32) (pp3 : Int32) (pp4 : Int32) (h0 : Heap) (n0 : Nat) (v : Option Value) (h : Heap) (L : List Loc) : Prop := v = some (.int 1) ∧ Fr n0 L
set_option maxRecDepth 65536 in
set_option maxHeartbeats 40000000 in
theorem rm0 (l : Launch) (Z : State) (a0 : Array Value) (hw : ∀ d ∈ tables_1, d.before a0 Z = true) (ws : List Jvm.Cond) (qq1 : Int64) (pp2 : Int32) (pp3 : Int32) (pp4 : Int32) (h0 : Heap) (n0 : Nat) (Z0 : n0 ≤ h0.size) :
    MetFree l x (head1 (Jvm.Cond.code x code maxLocals ret :: ws) room_1) (fun a U => a = #[(.long qq1), (.int pp2), (.int pp3), (.int pp4)] ∧ Z.Warmed39 U.vm ∧ U.heap = h0) (fun _ _ _ _ _ => True) (fun _ U o U' => ∃ v L, o = .returned v ∧ Q0 Z qq1 pp2 pp3 pp4 h0 n0 v U'.heap L ∧ FrameEnd U o U' L room_1.cells room_1.slots) := by
  refine MetFree.of_bodySF (plainFor_of_name pn_com_example_scrip_scrip_http_CostsLeastHeapBytesPinLaw) hisR ?_
  intro p e s m args below meth c s₁ Bd hml0 hP hK
  obtain ⟨rfl, hZ, hh⟩ := hP
  have hx := Bd.exec
  have hby := Bd.bytes
  have hml : c.maxLocals = 16 := hml0
  have hown : s.vm.findClass "com/example/scrip/scrip/http/CostsLeastHeapBytesPinLaw" = some m.cls := findClass_of_methodNamed Bd.named
  have hnm := (name_of_methodNamed Bd.named Bd.method).1
  have X0 : Stand p l e room_1 s m #[(.long qq1), (.int pp2), (.int pp3), (.int pp4)] below meth c s₁ [] 0 0 := Stand.of_body Bd
  have e0 : s₁.heap = h0 := by rw [← hh, Bd.state]; rfl
  have N0 := Fr.nil n0
  have pre0 : ∀ t, Steps p.tables e below (s₁.setTop (mkF m 0 #[.val (.long qq1), .second, .val (.int pp2), .val (.int pp3), .val (.int pp4), .unset, .unset, .unset, .unset, .unset, .unset, .unset, .unset, .unset, .unset, .unset] [])) t → Steps p.tables e below (s₁.setTop (entryFrame m #[(.long qq1), (.int pp2), (.int pp3), (.int pp4)] maxLocals)) t := fun t k => castTop (ef_0 m qq1 pp2 pp3 pp4) k
  obtain ⟨T1, h1, X1, e1, E1, A1, D1, -, st1⟩ := newO X0 hx hZ hown (hw _ (List.mem_of_getElem? (i := 0) rfl)) (hw _ (List.mem_of_getElem? (i := 1) rfl)) (hw _ (List.mem_of_getElem? (i := 2) rfl)) e0 (g := (mkF m 0 #[.val (.long qq1), .second, .val (.int pp2), .val (.int pp3), .val (.int pp4), .unset, .unset, .unset, .unset, .unset, .unset, .unset, .unset, .unset, .unset, .unset] [])) rfl (hb hby at_0) (by decide) (by decide)
  obtain ⟨b1, g1⟩ : ∃ z, z = h0.size := ⟨_, rfl⟩
  rw [← g1] at A1 D1 st1
  have g_b1 : n0 ≤ b1 := Nat.le_trans Z0 (Nat.le_of_eq g1.symm)
  have Z1 : n0 ≤ h1.size := Nat.le_trans Z0 E1.1
  have F1_reservedBytes : Fld Z h1 b1 "com/example/scrip/scrip/http/Limits$Costs" "reservedBytes" "J" (.long (0 : Int64)) := D1 (Or.inr (hw _ (List.mem_of_getElem? (i := 15) rfl))) (ty := .long) (by decide)
  have F1_readingBytes : Fld Z h1 b1 "com/example/scrip/scrip/http/Limits$Costs" "readingBytes" "I" (.int (0 : Int32)) := D1 (Or.inr (hw _ (List.mem_of_getElem? (i := 17) rfl))) (ty := .int) (by decide)
  have F1_connectionBytes : Fld Z h1 b1 "com/example/scrip/scrip/http/Limits$Costs" "connectionBytes" "I" (.int (0 : Int32)) := D1 (Or.inr (hw _ (List.mem_of_getElem? (i := 19) rfl))) (ty := .int) (by decide)
  have F1_pendingBytes : Fld Z h1 b1 "com/example/scrip/scrip/http/Limits$Costs" "pendingBytes" "I" (.int (0 : Int32)) := D1 (Or.inr (hw _ (List.mem_of_getElem? (i := 21) rfl))) (ty := .int) (by decide)
  obtain ⟨_, _, ⟨T2, L2, k2, n2⟩, -, X2, ⟨Lc2, hQ2, l2, y2, z2⟩, st2⟩ := X1.specialBack hx (y := (⟨"com/example/scrip/scrip/http/Limits$Costs", "<init>", "(JIII)V"⟩ : MethodName)) rfl hown (mvT hZ (hw _ (List.mem_of_getElem? (i := 3) rfl))) (mvT hZ (hw _ (List.mem_of_getElem? (i := 4) rfl))) (mvT hZ (hw _ (List.mem_of_getElem? (i := 5) rfl))) (by decide) (backOf (W := 1) (rm1 l Z a0 hw [] b1 qq1 pp2 pp3 pp4 (.long (0 : Int64)) (.int (0 : Int32)) (.int (0 : Int32)) (.int (0 : Int32)) h1 n0 Z1 A1 g_b1 F1_reservedBytes F1_readingBytes F1_connectionBytes F1_pendingBytes) hZ (hw _ (List.mem_of_getElem? (i := 5) rfl)) (hw _ (List.mem_of_getElem? (i := 2) rfl)) (by decide) (by decide)) (g := (mkF m 9 #[.val (.long qq1), .second, .val (.int pp2), .val (.int pp3), .val (.int pp4), .unset, .unset, .unset, .unset, .unset, .unset, .unset, .unset, .unset, .unset, .unset] [(.int pp4), (.int pp3), (.int pp2), (.long qq1), (.ref b1), (.ref b1)])) rfl (by rw [hml]; rfl) (Steps.refl _) (a := b1) (argsL := [(.long qq1), (.int pp2), (.int pp3), (.int pp4)]) (rest := [(.ref b1)]) (lenOf pd__28_JIII_29_V rfl) rfl (by show 2 * 0 + _ ≤ _; exact Nat.le_of_eq rfl) (hb hby at_9) (fun _ _ => ⟨rfl, e1, (by decide : 1 + 0 ≤ _), (by decide : 4 + 0 ≤ _)⟩)
  dsimp only [Pt.U, Pt.locs, Pt.cells, Pt.slots] at X2 l2 y2 z2 st2 hQ2
  subst l2 y2 z2
  obtain ⟨rfl, N2q, K2c, R2_0, R2_1, R2_2, R2_3⟩ := hQ2
  have N2 := Fr.app N0 N2q
  have Z2 : n0 ≤ T2.heap.size := Nat.le_trans Z1 K2c.1
  have E_4 : Exa Z T2.heap b1 "com/example/scrip/scrip/http/Limits$Costs" := (A1.keep K2c)
  obtain ⟨cq3, kq3, q3a, q3b, q3c⟩ := isOf hZ rfl E_4
  obtain ⟨_, _, ⟨T3, L3, k3, n3⟩, -, X3, ⟨Lc3, hQ3, l3, y3, z3⟩, st3⟩ := X2.virtualBack hx (y := (⟨"com/example/scrip/scrip/http/Limits$Costs", "leastHeapBytes", "()J"⟩ : MethodName)) (z := (⟨"com/example/scrip/scrip/http/Limits$Costs", "leastHeapBytes", "()J"⟩ : MethodName)) hown (mvT hZ (hw _ (List.mem_of_getElem? (i := 22) rfl))) (mvT hZ (hw _ (List.mem_of_getElem? (i := 23) rfl))) (notFace_of_selects (args := #[]) (mvT hZ (hw _ (List.mem_of_getElem? (i := 25) rfl)))) (mvT hZ (hw _ (List.mem_of_getElem? (i := 25) rfl))) (mvT hZ (hw _ (List.mem_of_getElem? (i := 24) rfl))) (by decide) (backOf (W := 0) (rm4 l Z a0 hw [] b1 pp2 pp3 qq1 T2.heap n0 Z2 R2_1 R2_2 R2_0) hZ (hw _ (List.mem_of_getElem? (i := 26) rfl)) (hw _ (List.mem_of_getElem? (i := 2) rfl)) (by decide) (by decide)) q3a q3c (g := (mkF m 16 #[.val (.long qq1), .second, .val (.int pp2), .val (.int pp3), .val (.int pp4), .val (.ref b1), .unset, .unset, .unset, .unset, .unset, .unset, .unset, .unset, .unset, .unset] [(.ref b1)])) rfl (by rw [hml]; rfl) (Steps.refl _) (argsL := []) (rest := []) (lenOf pd__28__29_J rfl) rfl (by show 2 * 0 + _ ≤ _; exact Nat.le_of_eq rfl) (hb hby at_16) (fun _ _ => ⟨rfl, rfl, (by decide : 1 + 0 ≤ _), (by decide : 4 + 0 ≤ _)⟩)
  dsimp only [Pt.U, Pt.locs, Pt.cells, Pt.slots] at X3 l3 y3 z3 st3 hQ3
  subst l3 y3 z3
  obtain ⟨rfl, N3q, e3⟩ := hQ3
  have N3 := Fr.app N2 N3q
  have pre5 : ∀ t, Steps p.tables e below (T3.setTop (mkF m 21 #[.val (.long qq1), .second, .val (.int pp2), .val (.int pp3), .val (.int pp4), .val (.ref b1), .unset, .unset, .unset, .unset, .unset, .unset, .unset, .unset, .unset, .unset] [(.long ((qq1 + (own_max (8388608 : Int64) (own_max ((4 : Int64) * (pp2.toInt64)) ((4 : Int64) * (pp3.toInt64))))) - qq1))])) t → Steps p.tables e below (s₁.setTop (entryFrame m #[(.long qq1), (.int pp2), (.int pp3), (.int pp4)] maxLocals)) t := fun t kt => pre0 t (by
    show Steps p.tables e below (s₁.setTop (mkF m 0 #[.val (.long qq1), .second, .val (.int pp2), .val (.int pp3), .val (.int pp4), .unset, .unset, .unset, .unset, .unset, .unset, .unset, .unset, .unset, .unset, .unset] [])) _
    refine st1 _ ?_
    show Steps p.tables e below (T1.setTop (mkF m 3 #[.val (.long qq1), .second, .val (.int pp2), .val (.int pp3), .val (.int pp4), .unset, .unset, .unset, .unset, .unset, .unset, .unset, .unset, .unset, .unset, .unset] [(.ref b1)])) _
    refine XS.dup X1.here hx rfl (hb hby at_3) rfl rfl ?_
    show Steps p.tables e below (T1.setTop (mkF m 4 #[.val (.long qq1), .second, .val (.int pp2), .val (.int pp3), .val (.int pp4), .unset, .unset, .unset, .unset, .unset, .unset, .unset, .unset, .unset, .unset, .unset] [(.ref b1), (.ref b1)])) _
    refine XS.lloadN X1.here hx rfl (hb hby at_4) rfl ?_
    show Steps p.tables e below (T1.setTop (mkF m 5 #[.val (.long qq1), .second, .val (.int pp2), .val (.int pp3), .val (.int pp4), .unset, .unset, .unset, .unset, .unset, .unset, .unset, .unset, .unset, .unset, .unset] [(.long qq1), (.ref b1), (.ref b1)])) _
    refine XS.iloadN X1.here hx rfl (hb hby at_5) rfl ?_
    show Steps p.tables e below (T1.setTop (mkF m 6 #[.val (.long qq1), .second, .val (.int pp2), .val (.int pp3), .val (.int pp4), .unset, .unset, .unset, .unset, .unset, .unset, .unset, .unset, .unset, .unset, .unset] [(.int pp2), (.long qq1), (.ref b1), (.ref b1)])) _
    refine XS.iloadN X1.here hx rfl (hb hby at_6) rfl ?_
    show Steps p.tables e below (T1.setTop (mkF m 7 #[.val (.long qq1), .second, .val (.int pp2), .val (.int pp3), .val (.int pp4), .unset, .unset, .unset, .unset, .unset, .unset, .unset, .unset, .unset, .unset, .unset] [(.int pp3), (.int pp2), (.long qq1), (.ref b1), (.ref b1)])) _
    refine XS.iload X1.here hx rfl (hb hby at_7) rfl ?_
    show Steps p.tables e below (T1.setTop (mkF m 9 #[.val (.long qq1), .second, .val (.int pp2), .val (.int pp3), .val (.int pp4), .unset, .unset, .unset, .unset, .unset, .unset, .unset, .unset, .unset, .unset, .unset] [(.int pp4), (.int pp3), (.int pp2), (.long qq1), (.ref b1), (.ref b1)])) _
    refine st2.trans ?_
    show Steps p.tables e below (T2.setTop (mkF m 12 #[.val (.long qq1), .second, .val (.int pp2), .val (.int pp3), .val (.int pp4), .unset, .unset, .unset, .unset, .unset, .unset, .unset, .unset, .unset, .unset, .unset] [(.ref b1)])) _
    refine XS.astore X2.here hx rfl (hb hby at_12) rfl rfl (l' := #[.val (.long qq1), .second, .val (.int pp2), .val (.int pp3), .val (.int pp4), .val (.ref b1), .unset, .unset, .unset, .unset, .unset, .unset, .unset, .unset, .unset, .unset]) rfl ?_
    show Steps p.tables e below (T2.setTop (mkF m 14 #[.val (.long qq1), .second, .val (.int pp2), .val (.int pp3), .val (.int pp4), .val (.ref b1), .unset, .unset, .unset, .unset, .unset, .unset, .unset, .unset, .unset, .unset] [])) _
    refine XS.aload X2.here hx rfl (hb hby at_14) rfl rfl ?_
    show Steps p.tables e below (T2.setTop (mkF m 16 #[.val (.long qq1), .second, .val (.int pp2), .val (.int pp3), .val (.int pp4), .val (.ref b1), .unset, .unset, .unset, .unset, .unset, .unset, .unset, .unset, .unset, .unset] [(.ref b1)])) _
    refine st3.trans ?_
    show Steps p.tables e below (T3.setTop (mkF m 19 #[.val (.long qq1), .second, .val (.int pp2), .val (.int pp3), .val (.int pp4), .val (.ref b1), .unset, .unset, .unset, .unset, .unset, .unset, .unset, .unset, .unset, .unset] [(.long (qq1 + (own_max (8388608 : Int64) (own_max ((4 : Int64) * (pp2.toInt64)) ((4 : Int64) * (pp3.toInt64))))))])) _
    refine XS.lloadN X3.here hx rfl (hb hby at_19) rfl ?_
    show Steps p.tables e below (T3.setTop (mkF m 20 #[.val (.long qq1), .second, .val (.int pp2), .val (.int pp3), .val (.int pp4), .val (.ref b1), .unset, .unset, .unset, .unset, .unset, .unset, .unset, .unset, .unset, .unset] [(.long qq1), (.long (qq1 + (own_max (8388608 : Int64) (own_max ((4 : Int64) * (pp2.toInt64)) ((4 : Int64) * (pp3.toInt64))))))])) _
    refine XS.lsub X3.here hx rfl (hb hby at_20) rfl ?_
    exact kt)
  obtain ⟨mm, h_mm, pre6⟩ : ∃ (mm : Int64), (mm = (own_max (8388608 : Int64) (own_max ((4 : Int64) * (pp2.toInt64)) ((4 : Int64) * (pp3.toInt64))))) ∧ ∀ t, Steps p.tables e below (T3.setTop (mkF m 21 #[.val (.long qq1), .second, .val (.int pp2), .val (.int pp3), .val (.int pp4), .val (.ref b1), .unset, .unset, .unset, .unset, .unset, .unset, .unset, .unset, .unset, .unset] [(.long mm)])) t → Steps p.tables e below (s₁.setTop (entryFrame m #[(.long qq1), (.int pp2), (.int pp3), (.int pp4)] maxLocals)) t := ⟨((qq1 + (own_max (8388608 : Int64) (own_max ((4 : Int64) * (pp2.toInt64)) ((4 : Int64) * (pp3.toInt64))))) - qq1), own_back _ _, pre5⟩
  have hB : ¬ mm < (8388608 : Int64) := h_mm ▸ own_max_l _ _
  have hR : ¬ mm < ((4 : Int64) * (pp2.toInt64)) := h_mm ▸ own_ntr (own_max_r _ _) (own_max_l _ _)
  have hC : ¬ mm < ((4 : Int64) * (pp3.toInt64)) := h_mm ▸ own_ntr (own_max_r _ _) (own_max_r _ _)
  have hD : mm = (8388608 : Int64) ∨ mm = ((4 : Int64) * (pp2.toInt64)) ∨ mm = ((4 : Int64) * (pp3.toInt64)) := by
      rw [h_mm]
      rcases own_max_c (8388608 : Int64) (own_max ((4 : Int64) * (pp2.toInt64)) ((4 : Int64) * (pp3.toInt64))) with h | h
      · exact Or.inl h
      · rw [h]; exact Or.inr (own_max_c _ _)
  have hc49 : ¬ (mm < (8388608 : Int64)) := hB
  have hc57 : ¬ (mm < ((4 : Int64) * (pp2.toInt64))) := hR
  have hc65 : ¬ (mm < ((4 : Int64) * (pp3.toInt64))) := hC
  have pre7 : ∀ t, Steps p.tables e below (T3.setTop (mkF m 75 #[.val (.long qq1), .second, .val (.int pp2), .val (.int pp3), .val (.int pp4), .val (.ref b1), .val (.long mm), .second, .val (.long (8388608 : Int64)), .second, .val (.long ((4 : Int64) * (pp2.toInt64))), .second, .val (.long ((4 : Int64) * (pp3.toInt64))), .second, .val (.int (1 : Int32)), .unset] [])) t → Steps p.tables e below (s₁.setTop (entryFrame m #[(.long qq1), (.int pp2), (.int pp3), (.int pp4)] maxLocals)) t := fun t kt => pre6 t (by
    show Steps p.tables e below (T3.setTop (mkF m 21 #[.val (.long qq1), .second, .val (.int pp2), .val (.int pp3), .val (.int pp4), .val (.ref b1), .unset, .unset, .unset, .unset, .unset, .unset, .unset, .unset, .unset, .unset] [(.long mm)])) _
    refine XS.lstore X3.here hx rfl (hb hby at_21) rfl (l' := #[.val (.long qq1), .second, .val (.int pp2), .val (.int pp3), .val (.int pp4), .val (.ref b1), .val (.long mm), .second, .unset, .unset, .unset, .unset, .unset, .unset, .unset, .unset]) rfl ?_
    show Steps p.tables e below (T3.setTop (mkF m 23 #[.val (.long qq1), .second, .val (.int pp2), .val (.int pp3), .val (.int pp4), .val (.ref b1), .val (.long mm), .second, .unset, .unset, .unset, .unset, .unset, .unset, .unset, .unset] [])) _
    refine X3.ldc2Long hx hown (mvT hZ (hw _ (List.mem_of_getElem? (i := 33) rfl))) (g := (mkF m 23 #[.val (.long qq1), .second, .val (.int pp2), .val (.int pp3), .val (.int pp4), .val (.ref b1), .val (.long mm), .second, .unset, .unset, .unset, .unset, .unset, .unset, .unset, .unset] [])) rfl (hb hby at_23) _ ?_
    show Steps p.tables e below (T3.setTop (mkF m 26 #[.val (.long qq1), .second, .val (.int pp2), .val (.int pp3), .val (.int pp4), .val (.ref b1), .val (.long mm), .second, .unset, .unset, .unset, .unset, .unset, .unset, .unset, .unset] [(.long (8388608 : Int64))])) _
    refine XS.lstore X3.here hx rfl (hb hby at_26) rfl (l' := #[.val (.long qq1), .second, .val (.int pp2), .val (.int pp3), .val (.int pp4), .val (.ref b1), .val (.long mm), .second, .val (.long (8388608 : Int64)), .second, .unset, .unset, .unset, .unset, .unset, .unset]) rfl ?_
    show Steps p.tables e below (T3.setTop (mkF m 28 #[.val (.long qq1), .second, .val (.int pp2), .val (.int pp3), .val (.int pp4), .val (.ref b1), .val (.long mm), .second, .val (.long (8388608 : Int64)), .second, .unset, .unset, .unset, .unset, .unset, .unset] [])) _
    refine X3.ldc2Long hx hown (mvT hZ (hw _ (List.mem_of_getElem? (i := 34) rfl))) (g := (mkF m 28 #[.val (.long qq1), .second, .val (.int pp2), .val (.int pp3), .val (.int pp4), .val (.ref b1), .val (.long mm), .second, .val (.long (8388608 : Int64)), .second, .unset, .unset, .unset, .unset, .unset, .unset] [])) rfl (hb hby at_28) _ ?_
    show Steps p.tables e below (T3.setTop (mkF m 31 #[.val (.long qq1), .second, .val (.int pp2), .val (.int pp3), .val (.int pp4), .val (.ref b1), .val (.long mm), .second, .val (.long (8388608 : Int64)), .second, .unset, .unset, .unset, .unset, .unset, .unset] [(.long (4 : Int64))])) _
    refine XS.iloadN X3.here hx rfl (hb hby at_31) rfl ?_
    show Steps p.tables e below (T3.setTop (mkF m 32 #[.val (.long qq1), .second, .val (.int pp2), .val (.int pp3), .val (.int pp4), .val (.ref b1), .val (.long mm), .second, .val (.long (8388608 : Int64)), .second, .unset, .unset, .unset, .unset, .unset, .unset] [(.int pp2), (.long (4 : Int64))])) _
    refine XS.i2l X3.here hx rfl (hb hby at_32) rfl ?_
    show Steps p.tables e below (T3.setTop (mkF m 33 #[.val (.long qq1), .second, .val (.int pp2), .val (.int pp3), .val (.int pp4), .val (.ref b1), .val (.long mm), .second, .val (.long (8388608 : Int64)), .second, .unset, .unset, .unset, .unset, .unset, .unset] [(.long (pp2.toInt64)), (.long (4 : Int64))])) _
    refine XS.lmul X3.here hx rfl (hb hby at_33) rfl ?_
    show Steps p.tables e below (T3.setTop (mkF m 34 #[.val (.long qq1), .second, .val (.int pp2), .val (.int pp3), .val (.int pp4), .val (.ref b1), .val (.long mm), .second, .val (.long (8388608 : Int64)), .second, .unset, .unset, .unset, .unset, .unset, .unset] [(.long ((4 : Int64) * (pp2.toInt64)))])) _
    refine XS.lstore X3.here hx rfl (hb hby at_34) rfl (l' := #[.val (.long qq1), .second, .val (.int pp2), .val (.int pp3), .val (.int pp4), .val (.ref b1), .val (.long mm), .second, .val (.long (8388608 : Int64)), .second, .val (.long ((4 : Int64) * (pp2.toInt64))), .second, .unset, .unset, .unset, .unset]) rfl ?_
    show Steps p.tables e below (T3.setTop (mkF m 36 #[.val (.long qq1), .second, .val (.int pp2), .val (.int pp3), .val (.int pp4), .val (.ref b1), .val (.long mm), .second, .val (.long (8388608 : Int64)), .second, .val (.long ((4 : Int64) * (pp2.toInt64))), .second, .unset, .unset, .unset, .unset] [])) _
    refine X3.ldc2Long hx hown (mvT hZ (hw _ (List.mem_of_getElem? (i := 34) rfl))) (g := (mkF m 36 #[.val (.long qq1), .second, .val (.int pp2), .val (.int pp3), .val (.int pp4), .val (.ref b1), .val (.long mm), .second, .val (.long (8388608 : Int64)), .second, .val (.long ((4 : Int64) * (pp2.toInt64))), .second, .unset, .unset, .unset, .unset] [])) rfl (hb hby at_36) _ ?_
    show Steps p.tables e below (T3.setTop (mkF m 39 #[.val (.long qq1), .second, .val (.int pp2), .val (.int pp3), .val (.int pp4), .val (.ref b1), .val (.long mm), .second, .val (.long (8388608 : Int64)), .second, .val (.long ((4 : Int64) * (pp2.toInt64))), .second, .unset, .unset, .unset, .unset] [(.long (4 : Int64))])) _
    refine XS.iloadN X3.here hx rfl (hb hby at_39) rfl ?_
    show Steps p.tables e below (T3.setTop (mkF m 40 #[.val (.long qq1), .second, .val (.int pp2), .val (.int pp3), .val (.int pp4), .val (.ref b1), .val (.long mm), .second, .val (.long (8388608 : Int64)), .second, .val (.long ((4 : Int64) * (pp2.toInt64))), .second, .unset, .unset, .unset, .unset] [(.int pp3), (.long (4 : Int64))])) _
    refine XS.i2l X3.here hx rfl (hb hby at_40) rfl ?_
    show Steps p.tables e below (T3.setTop (mkF m 41 #[.val (.long qq1), .second, .val (.int pp2), .val (.int pp3), .val (.int pp4), .val (.ref b1), .val (.long mm), .second, .val (.long (8388608 : Int64)), .second, .val (.long ((4 : Int64) * (pp2.toInt64))), .second, .unset, .unset, .unset, .unset] [(.long (pp3.toInt64)), (.long (4 : Int64))])) _
    refine XS.lmul X3.here hx rfl (hb hby at_41) rfl ?_
    show Steps p.tables e below (T3.setTop (mkF m 42 #[.val (.long qq1), .second, .val (.int pp2), .val (.int pp3), .val (.int pp4), .val (.ref b1), .val (.long mm), .second, .val (.long (8388608 : Int64)), .second, .val (.long ((4 : Int64) * (pp2.toInt64))), .second, .unset, .unset, .unset, .unset] [(.long ((4 : Int64) * (pp3.toInt64)))])) _
    refine XS.lstore X3.here hx rfl (hb hby at_42) rfl (l' := #[.val (.long qq1), .second, .val (.int pp2), .val (.int pp3), .val (.int pp4), .val (.ref b1), .val (.long mm), .second, .val (.long (8388608 : Int64)), .second, .val (.long ((4 : Int64) * (pp2.toInt64))), .second, .val (.long ((4 : Int64) * (pp3.toInt64))), .second, .unset, .unset]) rfl ?_
    show Steps p.tables e below (T3.setTop (mkF m 44 #[.val (.long qq1), .second, .val (.int pp2), .val (.int pp3), .val (.int pp4), .val (.ref b1), .val (.long mm), .second, .val (.long (8388608 : Int64)), .second, .val (.long ((4 : Int64) * (pp2.toInt64))), .second, .val (.long ((4 : Int64) * (pp3.toInt64))), .second, .unset, .unset] [])) _
    refine XS.lload X3.here hx rfl (hb hby at_44) rfl ?_
    show Steps p.tables e below (T3.setTop (mkF m 46 #[.val (.long qq1), .second, .val (.int pp2), .val (.int pp3), .val (.int pp4), .val (.ref b1), .val (.long mm), .second, .val (.long (8388608 : Int64)), .second, .val (.long ((4 : Int64) * (pp2.toInt64))), .second, .val (.long ((4 : Int64) * (pp3.toInt64))), .second, .unset, .unset] [(.long mm)])) _
    refine XS.lload X3.here hx rfl (hb hby at_46) rfl ?_
    show Steps p.tables e below (T3.setTop (mkF m 48 #[.val (.long qq1), .second, .val (.int pp2), .val (.int pp3), .val (.int pp4), .val (.ref b1), .val (.long mm), .second, .val (.long (8388608 : Int64)), .second, .val (.long ((4 : Int64) * (pp2.toInt64))), .second, .val (.long ((4 : Int64) * (pp3.toInt64))), .second, .unset, .unset] [(.long (8388608 : Int64)), (.long mm)])) _
    refine XS.lcmp X3.here hx rfl (hb hby at_48) rfl ?_
    show Steps p.tables e below (T3.setTop (mkF m 49 #[.val (.long qq1), .second, .val (.int pp2), .val (.int pp3), .val (.int pp4), .val (.ref b1), .val (.long mm), .second, .val (.long (8388608 : Int64)), .second, .val (.long ((4 : Int64) * (pp2.toInt64))), .second, .val (.long ((4 : Int64) * (pp3.toInt64))), .second, .unset, .unset] [(.int (lcmpW mm (8388608 : Int64)))])) _
    refine XS.ifNo X3.here hx rfl (hb hby at_49) rfl ((if0 _ _).trans (flt (mt (lw_lt _ _).mp hc49)).1) ?_
    show Steps p.tables e below (T3.setTop (mkF m 52 #[.val (.long qq1), .second, .val (.int pp2), .val (.int pp3), .val (.int pp4), .val (.ref b1), .val (.long mm), .second, .val (.long (8388608 : Int64)), .second, .val (.long ((4 : Int64) * (pp2.toInt64))), .second, .val (.long ((4 : Int64) * (pp3.toInt64))), .second, .unset, .unset] [])) _
    refine XS.lload X3.here hx rfl (hb hby at_52) rfl ?_
    show Steps p.tables e below (T3.setTop (mkF m 54 #[.val (.long qq1), .second, .val (.int pp2), .val (.int pp3), .val (.int pp4), .val (.ref b1), .val (.long mm), .second, .val (.long (8388608 : Int64)), .second, .val (.long ((4 : Int64) * (pp2.toInt64))), .second, .val (.long ((4 : Int64) * (pp3.toInt64))), .second, .unset, .unset] [(.long mm)])) _
    refine XS.lload X3.here hx rfl (hb hby at_54) rfl ?_
    show Steps p.tables e below (T3.setTop (mkF m 56 #[.val (.long qq1), .second, .val (.int pp2), .val (.int pp3), .val (.int pp4), .val (.ref b1), .val (.long mm), .second, .val (.long (8388608 : Int64)), .second, .val (.long ((4 : Int64) * (pp2.toInt64))), .second, .val (.long ((4 : Int64) * (pp3.toInt64))), .second, .unset, .unset] [(.long ((4 : Int64) * (pp2.toInt64))), (.long mm)])) _
    refine XS.lcmp X3.here hx rfl (hb hby at_56) rfl ?_
    show Steps p.tables e below (T3.setTop (mkF m 57 #[.val (.long qq1), .second, .val (.int pp2), .val (.int pp3), .val (.int pp4), .val (.ref b1), .val (.long mm), .second, .val (.long (8388608 : Int64)), .second, .val (.long ((4 : Int64) * (pp2.toInt64))), .second, .val (.long ((4 : Int64) * (pp3.toInt64))), .second, .unset, .unset] [(.int (lcmpW mm ((4 : Int64) * (pp2.toInt64))))])) _
    refine XS.ifNo X3.here hx rfl (hb hby at_57) rfl ((if0 _ _).trans (flt (mt (lw_lt _ _).mp hc57)).1) ?_
    show Steps p.tables e below (T3.setTop (mkF m 60 #[.val (.long qq1), .second, .val (.int pp2), .val (.int pp3), .val (.int pp4), .val (.ref b1), .val (.long mm), .second, .val (.long (8388608 : Int64)), .second, .val (.long ((4 : Int64) * (pp2.toInt64))), .second, .val (.long ((4 : Int64) * (pp3.toInt64))), .second, .unset, .unset] [])) _
    refine XS.lload X3.here hx rfl (hb hby at_60) rfl ?_
    show Steps p.tables e below (T3.setTop (mkF m 62 #[.val (.long qq1), .second, .val (.int pp2), .val (.int pp3), .val (.int pp4), .val (.ref b1), .val (.long mm), .second, .val (.long (8388608 : Int64)), .second, .val (.long ((4 : Int64) * (pp2.toInt64))), .second, .val (.long ((4 : Int64) * (pp3.toInt64))), .second, .unset, .unset] [(.long mm)])) _
    refine XS.lload X3.here hx rfl (hb hby at_62) rfl ?_
    show Steps p.tables e below (T3.setTop (mkF m 64 #[.val (.long qq1), .second, .val (.int pp2), .val (.int pp3), .val (.int pp4), .val (.ref b1), .val (.long mm), .second, .val (.long (8388608 : Int64)), .second, .val (.long ((4 : Int64) * (pp2.toInt64))), .second, .val (.long ((4 : Int64) * (pp3.toInt64))), .second, .unset, .unset] [(.long ((4 : Int64) * (pp3.toInt64))), (.long mm)])) _
    refine XS.lcmp X3.here hx rfl (hb hby at_64) rfl ?_
    show Steps p.tables e below (T3.setTop (mkF m 65 #[.val (.long qq1), .second, .val (.int pp2), .val (.int pp3), .val (.int pp4), .val (.ref b1), .val (.long mm), .second, .val (.long (8388608 : Int64)), .second, .val (.long ((4 : Int64) * (pp2.toInt64))), .second, .val (.long ((4 : Int64) * (pp3.toInt64))), .second, .unset, .unset] [(.int (lcmpW mm ((4 : Int64) * (pp3.toInt64))))])) _
    refine XS.ifNo X3.here hx rfl (hb hby at_65) rfl ((if0 _ _).trans (flt (mt (lw_lt _ _).mp hc65)).1) ?_
    show Steps p.tables e below (T3.setTop (mkF m 68 #[.val (.long qq1), .second, .val (.int pp2), .val (.int pp3), .val (.int pp4), .val (.ref b1), .val (.long mm), .second, .val (.long (8388608 : Int64)), .second, .val (.long ((4 : Int64) * (pp2.toInt64))), .second, .val (.long ((4 : Int64) * (pp3.toInt64))), .second, .unset, .unset] [])) _
    refine XS.iconst X3.here hx rfl (hb hby at_68) ?_
    show Steps p.tables e below (T3.setTop (mkF m 69 #[.val (.long qq1), .second, .val (.int pp2), .val (.int pp3), .val (.int pp4), .val (.ref b1), .val (.long mm), .second, .val (.long (8388608 : Int64)), .second, .val (.long ((4 : Int64) * (pp2.toInt64))), .second, .val (.long ((4 : Int64) * (pp3.toInt64))), .second, .unset, .unset] [(.int (1 : Int32))])) _
    refine XS.goto X3.here hx rfl (pc0 := 69) (pc' := 73) rfl (hb hby at_69) (by decide) (by decide) ?_
    show Steps p.tables e below (T3.setTop (mkF m 73 #[.val (.long qq1), .second, .val (.int pp2), .val (.int pp3), .val (.int pp4), .val (.ref b1), .val (.long mm), .second, .val (.long (8388608 : Int64)), .second, .val (.long ((4 : Int64) * (pp2.toInt64))), .second, .val (.long ((4 : Int64) * (pp3.toInt64))), .second, .unset, .unset] [(.int (1 : Int32))])) _
    refine XS.istore X3.here hx rfl (hb hby at_73) rfl (l' := #[.val (.long qq1), .second, .val (.int pp2), .val (.int pp3), .val (.int pp4), .val (.ref b1), .val (.long mm), .second, .val (.long (8388608 : Int64)), .second, .val (.long ((4 : Int64) * (pp2.toInt64))), .second, .val (.long ((4 : Int64) * (pp3.toInt64))), .second, .val (.int (1 : Int32)), .unset]) rfl ?_
    exact kt)
  obtain ⟨T8, L8, X8, e8, N8, pre8⟩ : ∃ (T' : State) (L' : List Loc), Stand p l e room_1 s m #[(.long qq1), (.int pp2), (.int pp3), (.int pp4)] below meth c T' L' 1 4 ∧ T'.heap = T2.heap ∧ Fr n0 L' ∧ ∀ t, Steps p.tables e below (T'.setTop (mkF m 104 #[.val (.long qq1), .second, .val (.int pp2), .val (.int pp3), .val (.int pp4), .val (.ref b1), .val (.long mm), .second, .val (.long (8388608 : Int64)), .second, .val (.long ((4 : Int64) * (pp2.toInt64))), .second, .val (.long ((4 : Int64) * (pp3.toInt64))), .second, .val (.int (1 : Int32)), .unset] [(.int (1 : Int32))])) t → Steps p.tables e below (s₁.setTop (entryFrame m #[(.long qq1), (.int pp2), (.int pp3), (.int pp4)] maxLocals)) t := by
    have pre9 : ∀ t, Steps p.tables e below (T3.setTop (mkF m 80 #[.val (.long qq1), .second, .val (.int pp2), .val (.int pp3), .val (.int pp4), .val (.ref b1), .val (.long mm), .second, .val (.long (8388608 : Int64)), .second, .val (.long ((4 : Int64) * (pp2.toInt64))), .second, .val (.long ((4 : Int64) * (pp3.toInt64))), .second, .val (.int (1 : Int32)), .unset] [(.int (lcmpW mm (8388608 : Int64)))])) t → Steps p.tables e below (s₁.setTop (entryFrame m #[(.long qq1), (.int pp2), (.int pp3), (.int pp4)] maxLocals)) t := fun t kt => pre7 t (by
      show Steps p.tables e below (T3.setTop (mkF m 75 #[.val (.long qq1), .second, .val (.int pp2), .val (.int pp3), .val (.int pp4), .val (.ref b1), .val (.long mm), .second, .val (.long (8388608 : Int64)), .second, .val (.long ((4 : Int64) * (pp2.toInt64))), .second, .val (.long ((4 : Int64) * (pp3.toInt64))), .second, .val (.int (1 : Int32)), .unset] [])) _
      refine XS.lload X3.here hx rfl (hb hby at_75) rfl ?_
      show Steps p.tables e below (T3.setTop (mkF m 77 #[.val (.long qq1), .second, .val (.int pp2), .val (.int pp3), .val (.int pp4), .val (.ref b1), .val (.long mm), .second, .val (.long (8388608 : Int64)), .second, .val (.long ((4 : Int64) * (pp2.toInt64))), .second, .val (.long ((4 : Int64) * (pp3.toInt64))), .second, .val (.int (1 : Int32)), .unset] [(.long mm)])) _
      refine XS.lload X3.here hx rfl (hb hby at_77) rfl ?_
      show Steps p.tables e below (T3.setTop (mkF m 79 #[.val (.long qq1), .second, .val (.int pp2), .val (.int pp3), .val (.int pp4), .val (.ref b1), .val (.long mm), .second, .val (.long (8388608 : Int64)), .second, .val (.long ((4 : Int64) * (pp2.toInt64))), .second, .val (.long ((4 : Int64) * (pp3.toInt64))), .second, .val (.int (1 : Int32)), .unset] [(.long (8388608 : Int64)), (.long mm)])) _
      refine XS.lcmp X3.here hx rfl (hb hby at_79) rfl ?_
      exact kt)
    by_cases hc80 : mm = (8388608 : Int64)
    · skip
      exact ⟨_, _, X3, e3, N3, fun t kt => pre9 t (by
          show Steps p.tables e below (T3.setTop (mkF m 80 #[.val (.long qq1), .second, .val (.int pp2), .val (.int pp3), .val (.int pp4), .val (.ref b1), .val (.long mm), .second, .val (.long (8388608 : Int64)), .second, .val (.long ((4 : Int64) * (pp2.toInt64))), .second, .val (.long ((4 : Int64) * (pp3.toInt64))), .second, .val (.int (1 : Int32)), .unset] [(.int (lcmpW mm (8388608 : Int64)))])) _
          refine XS.ifYes X3.here hx rfl (pc0 := 80) (pc' := 99) rfl (hb hby at_80) rfl ((if0 _ _).trans (teq ((lw_eq _ _).mpr hc80)).1) (by decide) (by decide) ?_
          show Steps p.tables e below (T3.setTop (mkF m 99 #[.val (.long qq1), .second, .val (.int pp2), .val (.int pp3), .val (.int pp4), .val (.ref b1), .val (.long mm), .second, .val (.long (8388608 : Int64)), .second, .val (.long ((4 : Int64) * (pp2.toInt64))), .second, .val (.long ((4 : Int64) * (pp3.toInt64))), .second, .val (.int (1 : Int32)), .unset] [])) _
          refine XS.iconst X3.here hx rfl (hb hby at_99) ?_
          show Steps p.tables e below (T3.setTop (mkF m 100 #[.val (.long qq1), .second, .val (.int pp2), .val (.int pp3), .val (.int pp4), .val (.ref b1), .val (.long mm), .second, .val (.long (8388608 : Int64)), .second, .val (.long ((4 : Int64) * (pp2.toInt64))), .second, .val (.long ((4 : Int64) * (pp3.toInt64))), .second, .val (.int (1 : Int32)), .unset] [(.int (1 : Int32))])) _
          refine XS.goto X3.here hx rfl (pc0 := 100) (pc' := 104) rfl (hb hby at_100) (by decide) (by decide) ?_
          exact kt)⟩
    · skip
      have pre10 : ∀ t, Steps p.tables e below (T3.setTop (mkF m 88 #[.val (.long qq1), .second, .val (.int pp2), .val (.int pp3), .val (.int pp4), .val (.ref b1), .val (.long mm), .second, .val (.long (8388608 : Int64)), .second, .val (.long ((4 : Int64) * (pp2.toInt64))), .second, .val (.long ((4 : Int64) * (pp3.toInt64))), .second, .val (.int (1 : Int32)), .unset] [(.int (lcmpW mm ((4 : Int64) * (pp2.toInt64))))])) t → Steps p.tables e below (s₁.setTop (entryFrame m #[(.long qq1), (.int pp2), (.int pp3), (.int pp4)] maxLocals)) t := fun t kt => pre9 t (by
        show Steps p.tables e below (T3.setTop (mkF m 80 #[.val (.long qq1), .second, .val (.int pp2), .val (.int pp3), .val (.int pp4), .val (.ref b1), .val (.long mm), .second, .val (.long (8388608 : Int64)), .second, .val (.long ((4 : Int64) * (pp2.toInt64))), .second, .val (.long ((4 : Int64) * (pp3.toInt64))), .second, .val (.int (1 : Int32)), .unset] [(.int (lcmpW mm (8388608 : Int64)))])) _
        refine XS.ifNo X3.here hx rfl (hb hby at_80) rfl ((if0 _ _).trans (feq (mt (lw_eq _ _).mp hc80)).1) ?_
        show Steps p.tables e below (T3.setTop (mkF m 83 #[.val (.long qq1), .second, .val (.int pp2), .val (.int pp3), .val (.int pp4), .val (.ref b1), .val (.long mm), .second, .val (.long (8388608 : Int64)), .second, .val (.long ((4 : Int64) * (pp2.toInt64))), .second, .val (.long ((4 : Int64) * (pp3.toInt64))), .second, .val (.int (1 : Int32)), .unset] [])) _
        refine XS.lload X3.here hx rfl (hb hby at_83) rfl ?_
        show Steps p.tables e below (T3.setTop (mkF m 85 #[.val (.long qq1), .second, .val (.int pp2), .val (.int pp3), .val (.int pp4), .val (.ref b1), .val (.long mm), .second, .val (.long (8388608 : Int64)), .second, .val (.long ((4 : Int64) * (pp2.toInt64))), .second, .val (.long ((4 : Int64) * (pp3.toInt64))), .second, .val (.int (1 : Int32)), .unset] [(.long mm)])) _
        refine XS.lload X3.here hx rfl (hb hby at_85) rfl ?_
        show Steps p.tables e below (T3.setTop (mkF m 87 #[.val (.long qq1), .second, .val (.int pp2), .val (.int pp3), .val (.int pp4), .val (.ref b1), .val (.long mm), .second, .val (.long (8388608 : Int64)), .second, .val (.long ((4 : Int64) * (pp2.toInt64))), .second, .val (.long ((4 : Int64) * (pp3.toInt64))), .second, .val (.int (1 : Int32)), .unset] [(.long ((4 : Int64) * (pp2.toInt64))), (.long mm)])) _
        refine XS.lcmp X3.here hx rfl (hb hby at_87) rfl ?_
        exact kt)
      by_cases hc88 : mm = ((4 : Int64) * (pp2.toInt64))
      · skip
        exact ⟨_, _, X3, e3, N3, fun t kt => pre10 t (by
            show Steps p.tables e below (T3.setTop (mkF m 88 #[.val (.long qq1), .second, .val (.int pp2), .val (.int pp3), .val (.int pp4), .val (.ref b1), .val (.long mm), .second, .val (.long (8388608 : Int64)), .second, .val (.long ((4 : Int64) * (pp2.toInt64))), .second, .val (.long ((4 : Int64) * (pp3.toInt64))), .second, .val (.int (1 : Int32)), .unset] [(.int (lcmpW mm ((4 : Int64) * (pp2.toInt64))))])) _
            refine XS.ifYes X3.here hx rfl (pc0 := 88) (pc' := 99) rfl (hb hby at_88) rfl ((if0 _ _).trans (teq ((lw_eq _ _).mpr hc88)).1) (by decide) (by decide) ?_
            show Steps p.tables e below (T3.setTop (mkF m 99 #[.val (.long qq1), .second, .val (.int pp2), .val (.int pp3), .val (.int pp4), .val (.ref b1), .val (.long mm), .second, .val (.long (8388608 : Int64)), .second, .val (.long ((4 : Int64) * (pp2.toInt64))), .second, .val (.long ((4 : Int64) * (pp3.toInt64))), .second, .val (.int (1 : Int32)), .unset] [])) _
            refine XS.iconst X3.here hx rfl (hb hby at_99) ?_
            show Steps p.tables e below (T3.setTop (mkF m 100 #[.val (.long qq1), .second, .val (.int pp2), .val (.int pp3), .val (.int pp4), .val (.ref b1), .val (.long mm), .second, .val (.long (8388608 : Int64)), .second, .val (.long ((4 : Int64) * (pp2.toInt64))), .second, .val (.long ((4 : Int64) * (pp3.toInt64))), .second, .val (.int (1 : Int32)), .unset] [(.int (1 : Int32))])) _
            refine XS.goto X3.here hx rfl (pc0 := 100) (pc' := 104) rfl (hb hby at_100) (by decide) (by decide) ?_
            exact kt)⟩
      · skip
        have hc96 : mm = ((4 : Int64) * (pp3.toInt64)) := (hD.resolve_left hc80).resolve_left hc88
        exact ⟨_, _, X3, e3, N3, fun t kt => pre10 t (by
            show Steps p.tables e below (T3.setTop (mkF m 88 #[.val (.long qq1), .second, .val (.int pp2), .val (.int pp3), .val (.int pp4), .val (.ref b1), .val (.long mm), .second, .val (.long (8388608 : Int64)), .second, .val (.long ((4 : Int64) * (pp2.toInt64))), .second, .val (.long ((4 : Int64) * (pp3.toInt64))), .second, .val (.int (1 : Int32)), .unset] [(.int (lcmpW mm ((4 : Int64) * (pp2.toInt64))))])) _
            refine XS.ifNo X3.here hx rfl (hb hby at_88) rfl ((if0 _ _).trans (feq (mt (lw_eq _ _).mp hc88)).1) ?_
            show Steps p.tables e below (T3.setTop (mkF m 91 #[.val (.long qq1), .second, .val (.int pp2), .val (.int pp3), .val (.int pp4), .val (.ref b1), .val (.long mm), .second, .val (.long (8388608 : Int64)), .second, .val (.long ((4 : Int64) * (pp2.toInt64))), .second, .val (.long ((4 : Int64) * (pp3.toInt64))), .second, .val (.int (1 : Int32)), .unset] [])) _
            refine XS.lload X3.here hx rfl (hb hby at_91) rfl ?_
            show Steps p.tables e below (T3.setTop (mkF m 93 #[.val (.long qq1), .second, .val (.int pp2), .val (.int pp3), .val (.int pp4), .val (.ref b1), .val (.long mm), .second, .val (.long (8388608 : Int64)), .second, .val (.long ((4 : Int64) * (pp2.toInt64))), .second, .val (.long ((4 : Int64) * (pp3.toInt64))), .second, .val (.int (1 : Int32)), .unset] [(.long mm)])) _
            refine XS.lload X3.here hx rfl (hb hby at_93) rfl ?_
            show Steps p.tables e below (T3.setTop (mkF m 95 #[.val (.long qq1), .second, .val (.int pp2), .val (.int pp3), .val (.int pp4), .val (.ref b1), .val (.long mm), .second, .val (.long (8388608 : Int64)), .second, .val (.long ((4 : Int64) * (pp2.toInt64))), .second, .val (.long ((4 : Int64) * (pp3.toInt64))), .second, .val (.int (1 : Int32)), .unset] [(.long ((4 : Int64) * (pp3.toInt64))), (.long mm)])) _
            refine XS.lcmp X3.here hx rfl (hb hby at_95) rfl ?_
            show Steps p.tables e below (T3.setTop (mkF m 96 #[.val (.long qq1), .second, .val (.int pp2), .val (.int pp3), .val (.int pp4), .val (.ref b1), .val (.long mm), .second, .val (.long (8388608 : Int64)), .second, .val (.long ((4 : Int64) * (pp2.toInt64))), .second, .val (.long ((4 : Int64) * (pp3.toInt64))), .second, .val (.int (1 : Int32)), .unset] [(.int (lcmpW mm ((4 : Int64) * (pp3.toInt64))))])) _
            refine XS.ifNo X3.here hx rfl (hb hby at_96) rfl ((if0 _ _).trans (teq ((lw_eq _ _).mpr hc96)).2) ?_
            show Steps p.tables e below (T3.setTop (mkF m 99 #[.val (.long qq1), .second, .val (.int pp2), .val (.int pp3), .val (.int pp4), .val (.ref b1), .val (.long mm), .second, .val (.long (8388608 : Int64)), .second, .val (.long ((4 : Int64) * (pp2.toInt64))), .second, .val (.long ((4 : Int64) * (pp3.toInt64))), .second, .val (.int (1 : Int32)), .unset] [])) _
            refine XS.iconst X3.here hx rfl (hb hby at_99) ?_
            show Steps p.tables e below (T3.setTop (mkF m 100 #[.val (.long qq1), .second, .val (.int pp2), .val (.int pp3), .val (.int pp4), .val (.ref b1), .val (.long mm), .second, .val (.long (8388608 : Int64)), .second, .val (.long ((4 : Int64) * (pp2.toInt64))), .second, .val (.long ((4 : Int64) * (pp3.toInt64))), .second, .val (.int (1 : Int32)), .unset] [(.int (1 : Int32))])) _
            refine XS.goto X3.here hx rfl (pc0 := 100) (pc' := 104) rfl (hb hby at_100) (by decide) (by decide) ?_
            exact kt)⟩
  have hc108 : ¬ ((1 : Int32) = (0 : Int32)) := by decide
  have hc113 : ¬ ((1 : Int32) = (0 : Int32)) := by decide
  obtain ⟨fs, hr, hrun, hended, hW, hsame⟩ := X8.leave (v := some (.int (1 : Int32))) (fun h => by rw [Bd.returns] at h; cases h)
  refine ⟨_, _, pre8 _ ?_, hrun, hended, _, _, rfl, ?_, ⟨_, rfl⟩, hW, hsame.mono (by decide) (by decide)⟩
  · show Steps p.tables e below (T8.setTop (mkF m 104 #[.val (.long qq1), .second, .val (.int pp2), .val (.int pp3), .val (.int pp4), .val (.ref b1), .val (.long mm), .second, .val (.long (8388608 : Int64)), .second, .val (.long ((4 : Int64) * (pp2.toInt64))), .second, .val (.long ((4 : Int64) * (pp3.toInt64))), .second, .val (.int (1 : Int32)), .unset] [(.int (1 : Int32))])) _
    refine XS.istore X8.here hx rfl (hb hby at_104) rfl (l' := #[.val (.long qq1), .second, .val (.int pp2), .val (.int pp3), .val (.int pp4), .val (.ref b1), .val (.long mm), .second, .val (.long (8388608 : Int64)), .second, .val (.long ((4 : Int64) * (pp2.toInt64))), .second, .val (.long ((4 : Int64) * (pp3.toInt64))), .second, .val (.int (1 : Int32)), .val (.int (1 : Int32))]) rfl ?_
    show Steps p.tables e below (T8.setTop (mkF m 106 #[.val (.long qq1), .second, .val (.int pp2), .val (.int pp3), .val (.int pp4), .val (.ref b1), .val (.long mm), .second, .val (.long (8388608 : Int64)), .second, .val (.long ((4 : Int64) * (pp2.toInt64))), .second, .val (.long ((4 : Int64) * (pp3.toInt64))), .second, .val (.int (1 : Int32)), .val (.int (1 : Int32))] [])) _
    refine XS.iload X8.here hx rfl (hb hby at_106) rfl ?_
    show Steps p.tables e below (T8.setTop (mkF m 108 #[.val (.long qq1), .second, .val (.int pp2), .val (.int pp3), .val (.int pp4), .val (.ref b1), .val (.long mm), .second, .val (.long (8388608 : Int64)), .second, .val (.long ((4 : Int64) * (pp2.toInt64))), .second, .val (.long ((4 : Int64) * (pp3.toInt64))), .second, .val (.int (1 : Int32)), .val (.int (1 : Int32))] [(.int (1 : Int32))])) _
    refine XS.ifNo X8.here hx rfl (hb hby at_108) rfl ((if0 _ _).trans (feq hc108).1) ?_
    show Steps p.tables e below (T8.setTop (mkF m 111 #[.val (.long qq1), .second, .val (.int pp2), .val (.int pp3), .val (.int pp4), .val (.ref b1), .val (.long mm), .second, .val (.long (8388608 : Int64)), .second, .val (.long ((4 : Int64) * (pp2.toInt64))), .second, .val (.long ((4 : Int64) * (pp3.toInt64))), .second, .val (.int (1 : Int32)), .val (.int (1 : Int32))] [])) _
    refine XS.iload X8.here hx rfl (hb hby at_111) rfl ?_
    show Steps p.tables e below (T8.setTop (mkF m 113 #[.val (.long qq1), .second, .val (.int pp2), .val (.int pp3), .val (.int pp4), .val (.ref b1), .val (.long mm), .second, .val (.long (8388608 : Int64)), .second, .val (.long ((4 : Int64) * (pp2.toInt64))), .second, .val (.long ((4 : Int64) * (pp3.toInt64))), .second, .val (.int (1 : Int32)), .val (.int (1 : Int32))] [(.int (1 : Int32))])) _
    refine XS.ifNo X8.here hx rfl (hb hby at_113) rfl ((if0 _ _).trans (feq hc113).1) ?_
    show Steps p.tables e below (T8.setTop (mkF m 116 #[.val (.long qq1), .second, .val (.int pp2), .val (.int pp3), .val (.int pp4), .val (.ref b1), .val (.long mm), .second, .val (.long (8388608 : Int64)), .second, .val (.long ((4 : Int64) * (pp2.toInt64))), .second, .val (.long ((4 : Int64) * (pp3.toInt64))), .second, .val (.int (1 : Int32)), .val (.int (1 : Int32))] [])) _
    refine XS.iconst X8.here hx rfl (hb hby at_116) ?_
    show Steps p.tables e below (T8.setTop (mkF m 117 #[.val (.long qq1), .second, .val (.int pp2), .val (.int pp3), .val (.int pp4), .val (.ref b1), .val (.long mm), .second, .val (.long (8388608 : Int64)), .second, .val (.long ((4 : Int64) * (pp2.toInt64))), .second, .val (.long ((4 : Int64) * (pp3.toInt64))), .second, .val (.int (1 : Int32)), .val (.int (1 : Int32))] [(.int (1 : Int32))])) _
    refine XS.goto X8.here hx rfl (pc0 := 117) (pc' := 121) rfl (hb hby at_117) (by decide) (by decide) ?_
    show Steps p.tables e below (T8.setTop (mkF m 121 #[.val (.long qq1), .second, .val (.int pp2), .val (.int pp3), .val (.int pp4), .val (.ref b1), .val (.long mm), .second, .val (.long (8388608 : Int64)), .second, .val (.long ((4 : Int64) * (pp2.toInt64))), .second, .val (.long ((4 : Int64) * (pp3.toInt64))), .second, .val (.int (1 : Int32)), .val (.int (1 : Int32))] [(.int (1 : Int32))])) _
    exact retN X8 hx (t := .boolean) Bd.returns (by simp) (hb hby at_121) hr
  · show Q0 Z qq1 pp2 pp3 pp4 h0 n0 _ T8.heap _
    rw [e8]
    exact ⟨rfl, N8⟩
set_option maxRecDepth 65536 in
set_option maxHeartbeats 40000000 in
theorem comes_1 {Post : Tables → Env → Array Value → State → Outcome → State → Prop} (hpost : ∀ tb e args s v u, (limb_1_1.after args s (.returned v) u = true ∧ limb_1_2.after args s (.returned v) u = true ∧ True) → FrameEnd s (.returned v) u (Jvm.fieldLocs frame_1_writes args s ++ Jvm.arrayLocs frame_1_arrays args s ++ Jvm.staticLocs frame_1_statics s) 16 128 → Post tb e args s (.returned v) u) :
    ArmFor flags0 classFile x code maxLocals ret World_1 tables_1 room_1 Calls_1 rest_1 Pre_1 Post := by
  intro l hfl _ _ p e ha hc hk s m args below hf hA hF happ hP
  obtain ⟨hcalls, hrest, hpre⟩ := hP
  obtain ⟨-, -, -, hnamed, -, -, -, hat⟩ := (Spec.applies_iff hf).mp happ
  obtain ⟨hg, hn⟩ := and_e (Cond.before_iff.mp (show (Jvm.Cond.and given_1 narrow_1).before args s = true from hpre))
  obtain ⟨g1, g2⟩ := and_e hg
  obtain ⟨g3, g4⟩ := and_e g2
  obtain ⟨g5, g6⟩ := and_e g4
  obtain ⟨g7, g8⟩ := and_e g6
  obtain ⟨w0, w1, w2, w3, rfl⟩ : ∃ w0 w1 w2 w3 : Value, args = #[w0, w1, w2, w3] := by
    have hs : args.size = 4 := by simpa [Cond.value, given_1] using g1
    obtain ⟨L⟩ := args
    match L, hs with
    | [w0, w1, w2, w3], _ => exact ⟨w0, w1, w2, w3, rfl⟩
  have hw := fun d (hd : d ∈ tables_1) => atoms_spec (ws := Jvm.Cond.code x code maxLocals ret :: tables_1) hat d (List.mem_cons_of_mem _ hd)
  have hfit : Fit s := fun {y c} hc i hi => by
    obtain ⟨ha, rfl⟩ := Array.getElem?_eq_some_iff.mp hc
    have q := List.all_eq_true.mp ((Array.all_eq_true_iff_forall_mem.mp hF) _ (Array.getElem_mem ha)) i (List.mem_range.mpr hi)
    simpa [Array.getElem?_eq_getElem hi] using q
  obtain ⟨i0, ei0⟩ := isL_v g3
  obtain rfl : w0 = (.long i0) := Option.some.inj ei0
  obtain ⟨i1, ei1⟩ := is_v g5
  obtain rfl : w1 = (.int i1) := Option.some.inj ei1
  obtain ⟨i2, ei2⟩ := is_v g7
  obtain rfl : w2 = (.int i2) := Option.some.inj ei2
  obtain ⟨i3, ei3⟩ := is_v g8
  obtain rfl : w3 = (.int i3) := Option.some.inj ei3
  obtain ⟨n, o, h1, h2, h3, _, L, rfl, ⟨rfl, N⟩, hq⟩ := rm0 l s _ hw tables_1 i0 i1 i2 i3 s.heap s.heap.size (Nat.le_refl _)  p e ha hc hk s m _ below hf ((Spec.applies_iff_loose hf).mp happ).1 ⟨rfl, State.Warmed39.refl s, rfl⟩ trivial
  refine ⟨n, _, h1, h2, h3, hpost _ _ _ _ _ _ ⟨Cond.after_iff.mpr rfl, Cond.after_iff.mpr (eq_i res_at (Term.int_eval (1)) rfl), trivial⟩ ⟨hq.1, hq.2.1, (hq.2.2.sift fun y hy => Or.inr (N y hy)).mono (by decide) (by decide)⟩⟩
theorem main_1_1 : Claimed_1_1 := comes_1 fun _ _ _ _ _ _ h hF => ⟨h.1, hF⟩
theorem main_1_2 : Claimed_1_2 := comes_1 fun _ _ _ _ _ _ h hF => ⟨h.2.1, hF⟩
end Jvm.Pilot.@@N@@
namespace Jvm.Pilot.@@N@@
open Jvm Jvm.ClassFile Sem Op Lib Jvm.Free Jvm.Stand Jvm.Pilot.@@N@@.Jvm.D
/-! MADE BY PROGRAM (witnessworld.py) out of the Statement's table words and the real class files: 11 classes; the members and pool entries that the words name. The judged class is class 1, her method 1. -/
namespace start1
open Jvm.ClassFile
def u (s : String) : CpInfo := .utf8 (stringToUtf16 s)
/-- a pool by its gaps: so many unusable entries, then the entry; so many at the end -/
def gap : Nat → List CpInfo → List CpInfo
  | 0, r => r
  | n + 1, r => .unusable :: gap n r
def poolList (es : List (Nat × CpInfo)) (last : Nat) : List CpInfo := es.foldr (fun e r => gap e.1 (e.2 :: r)) (gap last [])
def pool (es : List (Nat × CpInfo)) (last : Nat) : Array CpInfo := ⟨poolList es last⟩
def fileOf (pool : Array CpInfo) (this : Nat) (attrs : Array Attribute := #[]) (ms : Array MethodInfo := #[]) (fl : Nat := 33) (sup : Nat := 0) (ifs : Array Nat := #[]) (fds : Array FieldInfo := #[]) : ClassFile where
  minorVersion := 0
  majorVersion := 65
  constantPool := pool
  accessFlags := fl
  thisClass := this
  superClass := sup
  interfaces := ifs
  fields := fds
  methods := ms
  attributes := attrs
def plain (name : String) (sup : Option ClassId) : Class where
  name := name
  kind := .ordinary
  loader := none
  accessFlags := 33
  super := sup
  interfaces := #[]
  cf := none
  fields := #[]
  methods := #[]
  instanceTypes := #[]
  staticTypes := #[]
  resolved := #[]
  callSites := []
  init := .initialized
  statics := none
  mirror := none

def pool0 : Array CpInfo := pool [(5, u "<init>"), (0, u "()V"), (1, .class_ 10), (1, u "java/lang/Object")] 113

def k0c0 : Code := { maxStack := 0, maxLocals := 1, code := object_method_1_code, exceptionTable := #[], attributes := #[] }
def k0m0 : Method := { name := "<init>", desc := "()V", sig := { parameters := [], returnType := none }, accessFlags := 1, code := some k0c0 }
/-- java/lang/Object -/
def k0 : Class := { plain "java/lang/Object" none with
  accessFlags := 33
  interfaces := #[]
  cf := some (fileOf pool0 8 #[] #[{ accessFlags := 1, nameIndex := 5, descriptorIndex := 6, attributes := #[] }] 33 0 #[] #[])
  fields := #[]
  methods := #[k0m0]
  instanceTypes := #[]
  staticTypes := #[]
  resolved := Array.replicate 124 none
  statics := none }

def pool1 : Array CpInfo := pool [(2, .class_ 4), (1, u "java/lang/Object"), (0, u "<init>"), (0, u "()V"), (0, .class_ 8), (0, u "com/example/scrip/scrip/http/Limits$Costs"), (0, .methodref 7 10), (0, .nameAndType 5 11), (0, u "(JIII)V"), (0, .methodref 7 13), (0, .nameAndType 14 15), (0, u "leastHeapBytes"), (0, u "()J"), (0, .long 8388608), (1, .long 4), (1, .class_ 21), (0, u "com/example/scrip/scrip/http/CostsLeastHeapBytesPinLaw"), (2, u "law"), (0, u "(JIII)Z")] 7

def k1m0 : Method := { name := "<init>", desc := "()V", sig := { parameters := [], returnType := none }, accessFlags := 1, code := none }
def k1c1 : Code := { maxStack := 7, maxLocals := 16, code := code, exceptionTable := #[], attributes := #[] }
def k1m1 : Method := { name := "law", desc := "(JIII)Z", sig := { parameters := [.long, .int, .int, .int], returnType := some .boolean }, accessFlags := 9, code := some k1c1 }
/-- com/example/scrip/scrip/http/CostsLeastHeapBytesPinLaw -/
def k1 : Class := { plain "com/example/scrip/scrip/http/CostsLeastHeapBytesPinLaw" (some 0) with
  accessFlags := 49
  interfaces := #[]
  cf := some (fileOf pool1 20 #[] #[{ accessFlags := 1, nameIndex := 5, descriptorIndex := 6, attributes := #[] }, { accessFlags := 9, nameIndex := 24, descriptorIndex := 25, attributes := #[] }] 49 2 #[] #[])
  fields := #[]
  methods := #[k1m0, k1m1]
  instanceTypes := #[]
  staticTypes := #[]
  resolved := Array.replicate 33 none
  statics := none }

def pool2 : Array CpInfo := pool [(1, .methodref 2 3), (0, .class_ 4), (0, .nameAndType 5 6), (0, u "java/lang/Object"), (0, u "<init>"), (0, u "()V"), (0, .class_ 8), (0, u "java/lang/Record")] 13

def k2c0 : Code := { maxStack := 1, maxLocals := 1, code := jdk_30_method_1_code, exceptionTable := #[], attributes := #[] }
def k2m0 : Method := { name := "<init>", desc := "()V", sig := { parameters := [], returnType := none }, accessFlags := 4, code := some k2c0 }
/-- java/lang/Record -/
def k2 : Class := { plain "java/lang/Record" (some 0) with
  accessFlags := 1057
  interfaces := #[]
  cf := some (fileOf pool2 7 #[] #[{ accessFlags := 4, nameIndex := 5, descriptorIndex := 6, attributes := #[] }] 1057 2 #[] #[])
  fields := #[]
  methods := #[k2m0]
  instanceTypes := #[]
  staticTypes := #[]
  resolved := Array.replicate 22 none
  statics := none }

def pool3 : Array CpInfo := pool [(1, .class_ 2), (0, u "com/example/scrip/scrip/http/Limits"), (0, .methodref 4 5), (0, .class_ 6), (0, .nameAndType 7 8), (0, u "java/lang/Record"), (0, u "<init>"), (0, u "()V"), (0, .fieldref 10 11), (0, .class_ 12), (0, .nameAndType 13 14), (0, u "com/example/scrip/scrip/http/Limits$Costs"), (0, u "reservedBytes"), (0, u "J"), (0, .fieldref 10 16), (0, .nameAndType 17 18), (0, u "readingBytes"), (0, u "I"), (0, .fieldref 10 20), (0, .nameAndType 21 18), (0, u "connectionBytes"), (0, .fieldref 10 23), (0, .nameAndType 24 18), (0, u "pendingBytes"), (0, .long 4), (3, .long 8388608), (1, .methodref 32 33), (0, .class_ 34), (0, .nameAndType 35 36), (0, u "java/lang/Math"), (0, u "max"), (0, u "(JJ)J"), (18, u "(JIII)V"), (2, u "PLAIN"), (0, u "Lcom/example/scrip/scrip/http/Limits$Costs;"), (4, u "TLS"), (3, u "leastHeapBytes"), (0, u "()J")] 29

def k3c0 : Code := { maxStack := 3, maxLocals := 6, code := prog_9_method_1_code, exceptionTable := #[], attributes := #[] }
def k3m0 : Method := { name := "<init>", desc := "(JIII)V", sig := { parameters := [.long, .int, .int, .int], returnType := none }, accessFlags := 0, code := some k3c0 }
def k3c1 : Code := { maxStack := 8, maxLocals := 7, code := prog_9_method_2_code, exceptionTable := #[], attributes := #[] }
def k3m1 : Method := { name := "leastHeapBytes", desc := "()J", sig := { parameters := [], returnType := some .long }, accessFlags := 0, code := some k3c1 }
/-- com/example/scrip/scrip/http/Limits$Costs -/
def k3 : Class := { plain "com/example/scrip/scrip/http/Limits$Costs" (some 2) with
  accessFlags := 48
  interfaces := #[]
  cf := some (fileOf pool3 10 #[.nestHost 1] #[{ accessFlags := 0, nameIndex := 7, descriptorIndex := 55, attributes := #[] }, { accessFlags := 0, nameIndex := 68, descriptorIndex := 69, attributes := #[] }] 48 4 #[] #[{ accessFlags := 18, nameIndex := 13, descriptorIndex := 14, attributes := #[] }, { accessFlags := 18, nameIndex := 17, descriptorIndex := 18, attributes := #[] }, { accessFlags := 18, nameIndex := 21, descriptorIndex := 18, attributes := #[] }, { accessFlags := 18, nameIndex := 24, descriptorIndex := 18, attributes := #[] }, { accessFlags := 24, nameIndex := 58, descriptorIndex := 59, attributes := #[] }, { accessFlags := 24, nameIndex := 64, descriptorIndex := 59, attributes := #[] }])
  fields := #[{ name := "reservedBytes", type := .long, accessFlags := 18, slot := 0, constantValue := 0 }, { name := "readingBytes", type := .int, accessFlags := 18, slot := 1, constantValue := 0 }, { name := "connectionBytes", type := .int, accessFlags := 18, slot := 2, constantValue := 0 }, { name := "pendingBytes", type := .int, accessFlags := 18, slot := 3, constantValue := 0 }, { name := "PLAIN", type := (.object "com/example/scrip/scrip/http/Limits$Costs"), accessFlags := 24, slot := 0, constantValue := 0 }, { name := "TLS", type := (.object "com/example/scrip/scrip/http/Limits$Costs"), accessFlags := 24, slot := 1, constantValue := 0 }]
  methods := #[k3m0, k3m1]
  instanceTypes := #[.long, .int, .int, .int]
  staticTypes := #[(.object "com/example/scrip/scrip/http/Limits$Costs"), (.object "com/example/scrip/scrip/http/Limits$Costs")]
  resolved := Array.replicate 99 none
  statics := none }

def pool4 : Array CpInfo := pool [(1, .class_ 2), (0, u "java/lang/Math"), (1, .class_ 6), (1, u "java/lang/Object"), (0, u "<init>"), (0, u "()V"), (89, .class_ 100), (1, u "java/lang/Math$RandomNumberGeneratorHolder"), (20, u "(JJ)J"), (50, u "negativeZeroFloatBits"), (0, u "J"), (2, u "negativeZeroDoubleBits"), (21, u "max"), (46, u "$assertionsDisabled"), (0, u "Z"), (91, u "twoToTheDoubleScaleDown"), (0, u "D"), (4, u "twoToTheDoubleScaleUp"), (9, u "E"), (3, u "PI"), (2, u "TAU"), (2, u "DEGREES_TO_RADIANS"), (0, u "RADIANS_TO_DEGREES")] 94

def k4m0 : Method := { name := "<init>", desc := "()V", sig := { parameters := [], returnType := none }, accessFlags := 2, code := none }
def k4c1 : Code := { maxStack := 4, maxLocals := 4, code := jdk_29_method_66_code, exceptionTable := #[], attributes := #[] }
def k4m1 : Method := { name := "max", desc := "(JJ)J", sig := { parameters := [.long, .long], returnType := some .long }, accessFlags := 9, code := some k4c1 }
/-- java/lang/Math -/
def k4 : Class := { plain "java/lang/Math" (some 0) with
  accessFlags := 49
  interfaces := #[]
  cf := some (fileOf pool4 1 #[.nestMembers #[98]] #[{ accessFlags := 2, nameIndex := 7, descriptorIndex := 8, attributes := #[] }, { accessFlags := 9, nameIndex := 198, descriptorIndex := 121, attributes := #[] }] 49 4 #[] #[{ accessFlags := 25, nameIndex := 354, descriptorIndex := 339, attributes := #[] }, { accessFlags := 25, nameIndex := 358, descriptorIndex := 339, attributes := #[] }, { accessFlags := 25, nameIndex := 361, descriptorIndex := 339, attributes := #[] }, { accessFlags := 26, nameIndex := 364, descriptorIndex := 339, attributes := #[] }, { accessFlags := 26, nameIndex := 365, descriptorIndex := 339, attributes := #[] }, { accessFlags := 26, nameIndex := 172, descriptorIndex := 173, attributes := #[] }, { accessFlags := 26, nameIndex := 176, descriptorIndex := 173, attributes := #[] }, { accessFlags := 8, nameIndex := 344, descriptorIndex := 339, attributes := #[] }, { accessFlags := 8, nameIndex := 338, descriptorIndex := 339, attributes := #[] }, { accessFlags := 4120, nameIndex := 245, descriptorIndex := 246, attributes := #[] }])
  fields := #[{ name := "E", type := .double, accessFlags := 25, slot := 0, constantValue := 0 }, { name := "PI", type := .double, accessFlags := 25, slot := 1, constantValue := 0 }, { name := "TAU", type := .double, accessFlags := 25, slot := 2, constantValue := 0 }, { name := "DEGREES_TO_RADIANS", type := .double, accessFlags := 26, slot := 3, constantValue := 0 }, { name := "RADIANS_TO_DEGREES", type := .double, accessFlags := 26, slot := 4, constantValue := 0 }, { name := "negativeZeroFloatBits", type := .long, accessFlags := 26, slot := 5, constantValue := 0 }, { name := "negativeZeroDoubleBits", type := .long, accessFlags := 26, slot := 6, constantValue := 0 }, { name := "twoToTheDoubleScaleUp", type := .double, accessFlags := 8, slot := 7, constantValue := 0 }, { name := "twoToTheDoubleScaleDown", type := .double, accessFlags := 8, slot := 8, constantValue := 0 }, { name := "$assertionsDisabled", type := .boolean, accessFlags := 4120, slot := 9, constantValue := 0 }]
  methods := #[k4m0, k4m1]
  instanceTypes := #[]
  staticTypes := #[.double, .double, .double, .double, .double, .long, .long, .double, .double, .boolean]
  resolved := Array.replicate 460 none
  statics := none }

def pool5 : Array CpInfo := pool [(1, u "java/lang/Cloneable"), (0, .class_ 1), (0, u "java/lang/Object"), (0, .class_ 3)] 3

/-- java/lang/Cloneable -/
def k5 : Class := { plain "java/lang/Cloneable" (some 0) with
  accessFlags := 1537
  interfaces := #[]
  cf := some (fileOf pool5 2 #[] #[] 1537 4 #[] #[])
  fields := #[]
  methods := #[]
  instanceTypes := #[]
  staticTypes := #[]
  resolved := Array.replicate 8 none
  statics := none }

def pool6 : Array CpInfo := pool [(1, u "java/io/Serializable"), (0, .class_ 1), (0, u "java/lang/Object"), (0, .class_ 3)] 3

/-- java/io/Serializable -/
def k6 : Class := { plain "java/io/Serializable" (some 0) with
  accessFlags := 1537
  interfaces := #[]
  cf := some (fileOf pool6 2 #[] #[] 1537 4 #[] #[])
  fields := #[]
  methods := #[]
  instanceTypes := #[]
  staticTypes := #[]
  resolved := Array.replicate 8 none
  statics := none }

/-- the primitive byte -/
def k7 : Class := { plain "byte" none with kind := .primitive 'B', accessFlags := 0x411 }
/-- [B -/
def k8 : Class := { plain "[B" (some 0) with kind := .array 7 .byte, interfaces := #[5, 6], accessFlags := 1041 }

/-- the primitive int -/
def k9 : Class := { plain "int" none with kind := .primitive 'I', accessFlags := 0x411 }
/-- [I -/
def k10 : Class := { plain "[I" (some 0) with kind := .array 9 .int, interfaces := #[5, 6], accessFlags := 1041 }

def heap : Heap := #[]
def classes : Array Class := #[k0, k1, k2, k3, k4, k5, k6, k7, k8, k9, k10]
def interned : List (Array UInt16 × Addr) := []
def slotsUsed : Nat := 0
def theMethod : MethodId := ⟨1, 1⟩
def args0 : Array Value := #[.long 5, .int 1, .int 2, .int 3]
def aboutOver (below : List Frame) : State where
  vm := { classes := classes, interned := interned.toArray }
  heap := heap
  slotsUsed := slotsUsed
  threads := #[{ frames := .invoking theMethod args0 :: below }]
def below0 : List Frame := [.native { method := ⟨0, 0⟩, args := #[] }]
def about1 : State := aboutOver below0
def p0 : Program := .bare "" "" ""
def e0 : Env := launch0.env 0 0 0
theorem w_frames : about1.frames = Frame.invoking theMethod args0 :: below0 := rfl
set_option maxRecDepth 65536 in
theorem w_args : argsFit about1.vm theMethod args0 = true := by decide +kernel
set_option maxRecDepth 65536 in
theorem w_heap : heapFits about1 = true := by decide +kernel
set_option maxRecDepth 65536 in
theorem w_runnable : about1.curStatus? = some .runnable := by decide +kernel
set_option maxRecDepth 65536 in
theorem w_alone : about1.alone = true := by decide +kernel
set_option maxRecDepth 65536 in
theorem w_named : about1.methodNamed? x = some theMethod := by decide +kernel
set_option maxRecDepth 65536 in
theorem w_hears : about1.hears theMethod below0 = true := by decide +kernel
set_option maxRecDepth 65536 in
theorem w_ripe : about1.ripe theMethod args0 below0 = true := by decide +kernel
theorem w_running : about1.status = .running := rfl
set_option maxRecDepth 65536 in
theorem w_room : about1.hasRoom e0.platform room_1 = true :=
  launch0.hasRoom_least _ room_1 (by decide +kernel) (by decide +kernel) (by decide +kernel) (by decide +kernel) (by decide +kernel) (by decide +kernel)
theorem allAtoms_all (ts : List Jvm.Cond) (a : Array Jvm.Value) (st : Jvm.State) : (allAtoms ts).before a st = ts.all (fun c => c.before a st) := by
  induction ts with
  | nil => rfl
  | cons c t ih =>
    show (Jvm.Cond.and c (allAtoms t)).before a st = _
    rw [Jvm.Cond.before_and, ih, List.all_cons]
def words1 : List Jvm.Cond := Jvm.Cond.code x code maxLocals ret :: tables_1
/-- a 'code' word, met by the world's own term for the bytes: nothing is compared byte by byte -/
theorem code_word {y : MethodName} {bytes : ByteArray} {mx : Nat} {rt : Option FieldType} {a : Array Value} {s : State} {m : MethodId} {meth : Method} {c : Code} (h1 : s.methodNamed? y = some m) (h2 : s.vm.method? m = some meth) (h3 : meth.code = some c) (h4 : c.code = bytes)
    (h5 : (c.maxLocals == mx && c.exceptionTable.isEmpty && decide (c.maxStack ≤ mostOperands) && decide (meth.sig.returnType = rt) && !meth.locks && decide (parseMethodDescriptor y.desc = some meth.sig)) = true) : (Jvm.Cond.code y bytes mx rt).before a s = true := by
  simp only [Bool.and_eq_true, beq_iff_eq, Bool.not_eq_true', decide_eq_true_eq] at h5
  obtain ⟨⟨⟨⟨⟨g1, g2⟩, g3⟩, g4⟩, g5⟩, g6⟩ := h5
  simp [Cond.before, Cond.holds, Cond.value, h1, h2, h3, h4, g1, g2, g3, g4, g5, g6]
def isCode : Jvm.Cond → Bool
  | .code _ _ _ _ => true
  | _ => false
theorem all_split {L : List Jvm.Cond} {P : Jvm.Cond → Bool} (h1 : L.all (fun c => isCode c || P c) = true) (h2 : ∀ c ∈ L.filter isCode, P c = true) : L.all P = true := by
  refine List.all_eq_true.mpr fun c hc => ?_
  have h := List.all_eq_true.mp h1 c hc
  rcases Bool.eq_false_or_eq_true (isCode c) with hi | hi
  · exact h2 c (List.mem_filter.mpr ⟨hc, hi⟩)
  · simpa [hi] using h
set_option maxRecDepth 65536 in
theorem w_c0 : (Jvm.Cond.code x code maxLocals ret).before args0 about1 = true := code_word (m := ⟨1, 1⟩) (meth := k1m1) (c := k1c1) (by decide +kernel) rfl rfl rfl (by decide +kernel)
set_option maxRecDepth 65536 in
theorem w_c1 : (Jvm.Cond.code ({ cls := "com/example/scrip/scrip/http/Limits$Costs", name := "<init>", desc := "(JIII)V" } : Jvm.MethodName) prog_9_method_1_code (6 : Nat) (Option.none : Option Jvm.ClassFile.FieldType)).before args0 about1 = true := code_word (m := ⟨3, 0⟩) (meth := k3m0) (c := k3c0) (by decide +kernel) rfl rfl rfl (by decide +kernel)
set_option maxRecDepth 65536 in
theorem w_c2 : (Jvm.Cond.code ({ cls := "java/lang/Record", name := "<init>", desc := "()V" } : Jvm.MethodName) jdk_30_method_1_code (1 : Nat) (Option.none : Option Jvm.ClassFile.FieldType)).before args0 about1 = true := code_word (m := ⟨2, 0⟩) (meth := k2m0) (c := k2c0) (by decide +kernel) rfl rfl rfl (by decide +kernel)
set_option maxRecDepth 65536 in
theorem w_c3 : (Jvm.Cond.code ({ cls := "java/lang/Object", name := "<init>", desc := "()V" } : Jvm.MethodName) object_method_1_code (1 : Nat) (Option.none : Option Jvm.ClassFile.FieldType)).before args0 about1 = true := code_word (m := ⟨0, 0⟩) (meth := k0m0) (c := k0c0) (by decide +kernel) rfl rfl rfl (by decide +kernel)
set_option maxRecDepth 65536 in
theorem w_c4 : (Jvm.Cond.code ({ cls := "com/example/scrip/scrip/http/Limits$Costs", name := "leastHeapBytes", desc := "()J" } : Jvm.MethodName) prog_9_method_2_code (7 : Nat) (Option.some Jvm.ClassFile.FieldType.long)).before args0 about1 = true := code_word (m := ⟨3, 1⟩) (meth := k3m1) (c := k3c1) (by decide +kernel) rfl rfl rfl (by decide +kernel)
set_option maxRecDepth 65536 in
theorem w_c5 : (Jvm.Cond.code ({ cls := "java/lang/Math", name := "max", desc := "(JJ)J" } : Jvm.MethodName) jdk_29_method_66_code (4 : Nat) (Option.some Jvm.ClassFile.FieldType.long)).before args0 about1 = true := code_word (m := ⟨4, 1⟩) (meth := k4m1) (c := k4c1) (by decide +kernel) rfl rfl rfl (by decide +kernel)
def codes1 : List Jvm.Cond := [Jvm.Cond.code x code maxLocals ret, Jvm.Cond.code ({ cls := "com/example/scrip/scrip/http/Limits$Costs", name := "<init>", desc := "(JIII)V" } : Jvm.MethodName) prog_9_method_1_code (6 : Nat) (Option.none : Option Jvm.ClassFile.FieldType), Jvm.Cond.code ({ cls := "java/lang/Record", name := "<init>", desc := "()V" } : Jvm.MethodName) jdk_30_method_1_code (1 : Nat) (Option.none : Option Jvm.ClassFile.FieldType), Jvm.Cond.code ({ cls := "java/lang/Object", name := "<init>", desc := "()V" } : Jvm.MethodName) object_method_1_code (1 : Nat) (Option.none : Option Jvm.ClassFile.FieldType), Jvm.Cond.code ({ cls := "com/example/scrip/scrip/http/Limits$Costs", name := "leastHeapBytes", desc := "()J" } : Jvm.MethodName) prog_9_method_2_code (7 : Nat) (Option.some Jvm.ClassFile.FieldType.long), Jvm.Cond.code ({ cls := "java/lang/Math", name := "max", desc := "(JJ)J" } : Jvm.MethodName) jdk_29_method_66_code (4 : Nat) (Option.some Jvm.ClassFile.FieldType.long)]
set_option maxRecDepth 65536 in
theorem codes_eq : words1.filter isCode = codes1 := rfl
theorem w_codes : ∀ c ∈ words1.filter isCode, c.before args0 about1 = true := by
  rw [codes_eq]
  intro c hc
  simp only [codes1, List.mem_cons, List.not_mem_nil, or_false] at hc
  rcases hc with rfl | rfl | rfl | rfl | rfl | rfl
  · exact w_c0
  · exact w_c1
  · exact w_c2
  · exact w_c3
  · exact w_c4
  · exact w_c5
set_option maxRecDepth 65536 in
theorem w_t1 : (words1.take 24).all (fun c => isCode c || c.before args0 about1) = true := by decide +kernel
set_option maxRecDepth 65536 in
theorem w_t2 : (words1.drop 24).all (fun c => isCode c || c.before args0 about1) = true := by decide +kernel
theorem w_tables : (allAtoms (Jvm.Cond.code x code maxLocals ret :: tables_1)).before args0 about1 = true := by
  rw [allAtoms_all]
  show words1.all (fun c => c.before args0 about1) = true
  refine all_split ?_ w_codes
  rw [← List.take_append_drop 24 words1, List.all_append, w_t1, w_t2]
  rfl
set_option maxRecDepth 65536 in
theorem w_case : (Jvm.Cond.and given_1 narrow_1).before args0 about1 = true := by decide +kernel
theorem w_applies : (headSpec (Jvm.Cond.code x code maxLocals ret :: tables_1) room_1).applies x e0.platform about1 = true :=
  (Spec.applies_iff w_frames).mpr ⟨w_running, w_runnable, w_alone, w_named, w_hears, w_ripe, w_room, w_tables⟩
theorem atStart : AtStart classFile x code maxLocals ret World_1 tables_1 room_1 Calls_1 rest_1 Pre_1 launch0 p0 e0 about1 theMethod args0 below0 :=
  ⟨lists_1, trivial, launch0.admits_env _ _ _, launch0.least_env, fairChoices_fair.cas, fairChoices_fair.clock, w_frames, w_args, w_heap, w_applies, trivial, trivial, w_case⟩
end start1
theorem witness_1 : WitnessClaimed_1 := ⟨start1.p0, start1.e0, start1.about1, start1.theMethod, start1.args0, start1.below0, start1.atStart⟩
end Jvm.Pilot.@@N@@
