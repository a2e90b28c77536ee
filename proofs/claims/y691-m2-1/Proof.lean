import JvmDerived
import JvmDerived.Pilot.@@N@@Statement
import JvmDerived.Pilot.@@N@@Code
set_option linter.unusedVariables false
set_option linter.unusedSimpArgs false
namespace Jvm.RoadKit
open Sem ClassFile Op Lib Jvm.Stand Jvm.Free Jvm.LawKit
section New
variable {p : Program} {l : Launch} {e : Env} {R : Room} {s : State} {m : MethodId} {args : Array Value} {below : List Frame} {meth : Method} {c : Code} {T : State} {locs : List Loc} {cells slots : Nat}
theorem retI (X : Stand p l e R s m args below meth c T locs cells slots) (hx : p.tables.exec = Jvm.exec) {pc : Nat} {Ls : Array Slot} {z : Int32} {rest : List Value} (hret : meth.sig.returnType = some .int) (hd : decode c.code pc = .ok (.ireturn, 1)) {fs : List Frame}
    (hl : ∀ (f : JFrame) (acts : List Action), f.method = m → f.locked = none → f.entered = [] → (doReturn e (T.setTop f) acts (some (.int z))).1 = T.setFrames fs) : Steps p.tables e below (T.setTop (mkF m pc Ls (.int z :: rest))) (T.setFrames fs) := by
  have hm' : T.vm.method? m = some meth := X.method'
  have hn : narrow .int (.int z) = .int z := rfl
  show Steps p.tables e below (T.setTop { method := m, pc := pc, locals := Ls, stack := _ :: rest, locked := none }) _
  jvm_step X.here [X.here.top, hx, hd, hm', hret, hn]
  first | (intro acts; rw [hl _ acts rfl rfl rfl]) | rw [hl _ _ rfl rfl rfl]
  exact Steps.refl _
theorem retJ (X : Stand p l e R s m args below meth c T locs cells slots) (hx : p.tables.exec = Jvm.exec) {pc : Nat} {Ls : Array Slot} {z : Int64} {rest : List Value} (hret : meth.sig.returnType = some .long) (hd : decode c.code pc = .ok (.lreturn, 1)) {fs : List Frame}
    (hl : ∀ (f : JFrame) (acts : List Action), f.method = m → f.locked = none → f.entered = [] → (doReturn e (T.setTop f) acts (some (.long z))).1 = T.setFrames fs) : Steps p.tables e below (T.setTop (mkF m pc Ls (.long z :: rest))) (T.setFrames fs) := by
  have hm' : T.vm.method? m = some meth := X.method'
  have hn : narrow .long (.long z) = .long z := rfl
  show Steps p.tables e below (T.setTop { method := m, pc := pc, locals := Ls, stack := _ :: rest, locked := none }) _
  jvm_step X.here [X.here.top, hx, hd, hm', hret, hn]
  first | (intro acts; rw [hl _ acts rfl rfl rfl]) | rw [hl _ _ rfl rfl rfl]
  exact Steps.refl _
theorem retD (X : Stand p l e R s m args below meth c T locs cells slots) (hx : p.tables.exec = Jvm.exec) {pc : Nat} {Ls : Array Slot} {z : UInt64} {rest : List Value} (hret : meth.sig.returnType = some .double) (hd : decode c.code pc = .ok (.dreturn, 1)) {fs : List Frame}
    (hl : ∀ (f : JFrame) (acts : List Action), f.method = m → f.locked = none → f.entered = [] → (doReturn e (T.setTop f) acts (some (.double z))).1 = T.setFrames fs) : Steps p.tables e below (T.setTop (mkF m pc Ls (.double z :: rest))) (T.setFrames fs) := by
  have hm' : T.vm.method? m = some meth := X.method'
  have hn : narrow .double (.double z) = .double z := rfl
  show Steps p.tables e below (T.setTop { method := m, pc := pc, locals := Ls, stack := _ :: rest, locked := none }) _
  jvm_step X.here [X.here.top, hx, hd, hm', hret, hn]
  first | (intro acts; rw [hl _ acts rfl rfl rfl]) | rw [hl _ _ rfl rfl rfl]
  exact Steps.refl _
end New
end Jvm.RoadKit
@@BLOCK:NumsL.lean.txt@@
namespace Jvm.Pilot.@@N@@
open Jvm Jvm.ClassFile Sem Op Lib Jvm.Free Jvm.Stand Jvm.LawKit Jvm.RoadKit Bundle Jvm.Pilot.@@N@@.Jvm.D
open Jvm.Free.Fl in
theorem own_k8 : Mag64 1027 (4620693217682128896 : UInt64) := by unfold Mag64; decide
open Jvm.Free.Fl in
theorem own_mm (a b : Int64) : Mag64 1154 (FP.dmul (FP.l2d a) (FP.l2d b)) := (dmul_mag (l2d_mag a) (l2d_mag b) (by omega) (by omega)).mono (by omega)
open Jvm.Free.Fl in
theorem own_mm8 (a b : Int64) : Mag64 1159 (FP.dmul (FP.dmul (FP.l2d a) (FP.l2d b)) (4620693217682128896 : UInt64)) := (dmul_mag (own_mm a b) own_k8 (by omega) (by omega)).mono (by omega)
open Jvm.Free.Fl in
theorem own_m8 (a : Int64) : Mag64 1093 (FP.dmul (FP.l2d a) (4620693217682128896 : UInt64)) := (dmul_mag (l2d_mag a) own_k8 (by omega) (by omega)).mono (by omega)
open Jvm.Free.Fl in
theorem own_nn {K : Nat} {x : UInt64} (h : Mag64 K x) (q : K ≤ 2047) : NoNaN64 x := (h.fin q).noNaN
theorem pn_com_example_thesaurus_rerank_thesaurusrerank_space_Footprint : plainName "com/example/thesaurus_rerank/thesaurusrerank/space/Footprint" = true := by first | (simp [plainName, overriddenIn]; done) | decide +kernel
theorem d2_0 : decode prog_18_method_1_code 0 = .ok (.aload_n 0, 1) := by decide +kernel
theorem d2_1 : decode prog_18_method_1_code 1 = .ok (.invokespecial 3, 3) := by decide +kernel
theorem d2_4 : decode prog_18_method_1_code 4 = .ok (.aload_n 0, 1) := by decide +kernel
theorem d2_5 : decode prog_18_method_1_code 5 = .ok (.dload_n 1, 1) := by decide +kernel
theorem d2_6 : decode prog_18_method_1_code 6 = .ok (.putfield 9, 3) := by decide +kernel
theorem d2_9 : decode prog_18_method_1_code 9 = .ok (.aload_n 0, 1) := by decide +kernel
theorem d2_10 : decode prog_18_method_1_code 10 = .ok (.lload_n 3, 1) := by decide +kernel
theorem d2_11 : decode prog_18_method_1_code 11 = .ok (.putfield 15, 3) := by decide +kernel
theorem d2_14 : decode prog_18_method_1_code 14 = .ok (.return_, 1) := by decide +kernel
theorem ef_2 (m : MethodId) (x0 : Addr) (x1 : UInt64) (x2 : Int64) : entryFrame m #[(.ref x0), (.double x1), (.long x2)] 5 = mkF m 0 #[.val (.ref x0), .val (.double x1), .second, .val (.long x2), .second] [] := by first | (simp [entryFrame, mkF, argsToLocals, Value.category]; done) | rfl
def Q2 (Z : State) (aa0 : Addr) (dd1 : UInt64) (qq2 : Int64) (u_numbers : Value) (u_largestArray : Value) (h0 : Heap) (n0 : Nat) (v : Option Value) (h : Heap) (L : List Loc) : Prop := v = none ∧ Fr n0 L ∧ Keep h0 h [aa0] ∧ (Fld Z h aa0 "com/example/thesaurus_rerank/thesaurusrerank/space/Footprint" "numbers" "D" (.double dd1)) ∧ (Fld Z h aa0 "com/example/thesaurus_rerank/thesaurusrerank/space/Footprint" "largestArray" "J" (.long qq2))
set_option maxRecDepth 65536 in
set_option maxHeartbeats 40000000 in
theorem rm2 (l : Launch) (Z : State) (a0 : Array Value) (hw : ∀ d ∈ tables_1, d.before a0 Z = true) (ws : List Jvm.Cond) (aa0 : Addr) (dd1 : UInt64) (qq2 : Int64) (u_numbers : Value) (u_largestArray : Value) (h0 : Heap) (n0 : Nat) (Z0 : n0 ≤ h0.size) (E_aa0 : Exa Z h0 aa0 "com/example/thesaurus_rerank/thesaurusrerank/space/Footprint") (g_aa0 : n0 ≤ aa0) (F_aa0_numbers : Fld Z h0 aa0 "com/example/thesaurus_rerank/thesaurusrerank/space/Footprint" "numbers" "D" u_numbers) (F_aa0_largestArray : Fld Z h0 aa0 "com/example/thesaurus_rerank/thesaurusrerank/space/Footprint" "largestArray" "J" u_largestArray) :
    MetFree l (⟨"com/example/thesaurus_rerank/thesaurusrerank/space/Footprint", "<init>", "(DJ)V"⟩ : MethodName) (head1 (Jvm.Cond.code (⟨"com/example/thesaurus_rerank/thesaurusrerank/space/Footprint", "<init>", "(DJ)V"⟩ : MethodName) prog_18_method_1_code 5 none :: ws) ({ frames := 1, cells := 0, slots := 0, locals := 12 } : Room)) (fun a U => a = #[(.ref aa0), (.double dd1), (.long qq2)] ∧ Z.Warmed39 U.vm ∧ U.heap = h0) (fun _ _ _ _ _ => True) (fun _ U o U' => ∃ v L, o = .returned v ∧ Q2 Z aa0 dd1 qq2 u_numbers u_largestArray h0 n0 v U'.heap L ∧ FrameEnd U o U' L ({ frames := 1, cells := 0, slots := 0, locals := 12 } : Room).cells ({ frames := 1, cells := 0, slots := 0, locals := 12 } : Room).slots) := by
  refine MetFree.of_bodySF (plainFor_of_name pn_com_example_thesaurus_rerank_thesaurusrerank_space_Footprint) hisR ?_
  intro p e s m args below meth c s₁ Bd hml0 hP hK
  obtain ⟨rfl, hZ, hh⟩ := hP
  have hx := Bd.exec
  have hby := Bd.bytes
  have hml : c.maxLocals = 5 := hml0
  have hown : s.vm.findClass "com/example/thesaurus_rerank/thesaurusrerank/space/Footprint" = some m.cls := findClass_of_methodNamed Bd.named
  have hnm := (name_of_methodNamed Bd.named Bd.method).1
  have X0 : Stand p l e ({ frames := 1, cells := 0, slots := 0, locals := 12 } : Room) s m #[(.ref aa0), (.double dd1), (.long qq2)] below meth c s₁ [] 0 0 := Stand.of_body Bd
  have e0 : s₁.heap = h0 := by rw [← hh, Bd.state]; rfl
  have N0 := Fr.nil n0
  have pre0 : ∀ t, Steps p.tables e below (s₁.setTop (mkF m 0 #[.val (.ref aa0), .val (.double dd1), .second, .val (.long qq2), .second] [])) t → Steps p.tables e below (s₁.setTop (entryFrame m #[(.ref aa0), (.double dd1), (.long qq2)] 5)) t := fun t k => castTop (ef_2 m aa0 dd1 qq2) k
  obtain ⟨T1, X1, e1, st1⟩ := initO X0 hx hZ hown (hw _ (List.mem_of_getElem? (i := 9) rfl)) (hw _ (List.mem_of_getElem? (i := 10) rfl)) (hw _ (List.mem_of_getElem? (i := 11) rfl)) e0 (g := (mkF m 1 #[.val (.ref aa0), .val (.double dd1), .second, .val (.long qq2), .second] [(.ref aa0)])) rfl (by rw [hml]; rfl) rfl (hb hby d2_1) (by decide) (W := 0) (by show 2 * 0 + _ ≤ _; exact Nat.le_of_eq rfl) (by decide)
  obtain ⟨T2, h2, X2, e2, W2, st2⟩ := putF X1 hx hZ hown (host := "") (Or.inl (hw _ (List.mem_of_getElem? (i := 12) rfl))) Via.refl e1 F_aa0_numbers E_aa0 (Or.inr ⟨(hw _ (List.mem_of_getElem? (i := 13) rfl)), rfl, hnm⟩) (hw _ (List.mem_of_getElem? (i := 5) rfl)) (ty := .double) (by decide) rfl rfl (g := (mkF m 6 #[.val (.ref aa0), .val (.double dd1), .second, .val (.long qq2), .second] [(.double dd1), (.ref aa0)])) rfl rfl (hb hby d2_6)
  have N2 := Fr.snoc X2 N0 g_aa0
  have Z2 : n0 ≤ h2.size := Nat.le_trans Z0 (Keep.of_wr W2).1
  have K2 : Keep h0 h2 [aa0] := (Keep.refl h0 [aa0]).wr W2 (Or.inl (List.mem_of_getElem? (i := 0) rfl))
  have F2 : Fld Z h2 aa0 "com/example/thesaurus_rerank/thesaurusrerank/space/Footprint" "numbers" "D" (.double dd1) := F_aa0_numbers.same W2
  have E_3 : Exa Z h2 aa0 "com/example/thesaurus_rerank/thesaurusrerank/space/Footprint" := (E_aa0.wr W2)
  have F_4 : Fld Z h2 aa0 "com/example/thesaurus_rerank/thesaurusrerank/space/Footprint" "largestArray" "J" u_largestArray := (F_aa0_largestArray.other W2 (Or.inr (slot_ne (Or.inr (hw _ (List.mem_of_getElem? (i := 15) rfl))) (Or.inr (hw _ (List.mem_of_getElem? (i := 13) rfl))) (by decide) (t := .long) (t' := .double) (by decide) (by decide))))
  obtain ⟨T5, h5, X5, e5, W5, st5⟩ := putF X2 hx hZ hown (host := "") (Or.inl (hw _ (List.mem_of_getElem? (i := 14) rfl))) Via.refl e2 F_4 E_3 (Or.inr ⟨(hw _ (List.mem_of_getElem? (i := 15) rfl)), rfl, hnm⟩) (hw _ (List.mem_of_getElem? (i := 5) rfl)) (ty := .long) (by decide) rfl rfl (g := (mkF m 11 #[.val (.ref aa0), .val (.double dd1), .second, .val (.long qq2), .second] [(.long qq2), (.ref aa0)])) rfl rfl (hb hby d2_11)
  have N5 := Fr.snoc X5 N2 g_aa0
  have Z5 : n0 ≤ h5.size := Nat.le_trans Z2 (Keep.of_wr W5).1
  have K5 : Keep h0 h5 [aa0] := K2.wr W5 (Or.inl (List.mem_of_getElem? (i := 0) rfl))
  have F5 : Fld Z h5 aa0 "com/example/thesaurus_rerank/thesaurusrerank/space/Footprint" "largestArray" "J" (.long qq2) := F_4.same W5
  have F_6 : Fld Z h5 aa0 "com/example/thesaurus_rerank/thesaurusrerank/space/Footprint" "numbers" "D" (.double dd1) := (F2.other W5 (Or.inr (slot_ne (Or.inr (hw _ (List.mem_of_getElem? (i := 13) rfl))) (Or.inr (hw _ (List.mem_of_getElem? (i := 15) rfl))) (by decide) (t := .double) (t' := .long) (by decide) (by decide))))
  obtain ⟨fs, hr, hrun, hended, hW, hsame⟩ := X5.leave (v := none) (fun _ => rfl)
  refine ⟨_, _, pre0 _ ?_, hrun, hended, _, _, rfl, ?_, ⟨_, rfl⟩, hW, hsame.mono (by decide) (by decide)⟩
  · show Steps p.tables e below (s₁.setTop (mkF m 0 #[.val (.ref aa0), .val (.double dd1), .second, .val (.long qq2), .second] [])) _
    refine XS.aloadN X0.here hx rfl (hb hby d2_0) rfl rfl ?_
    show Steps p.tables e below (s₁.setTop (mkF m 1 #[.val (.ref aa0), .val (.double dd1), .second, .val (.long qq2), .second] [(.ref aa0)])) _
    refine st1 _ ?_
    show Steps p.tables e below (T1.setTop (mkF m 4 #[.val (.ref aa0), .val (.double dd1), .second, .val (.long qq2), .second] [])) _
    refine XS.aloadN X1.here hx rfl (hb hby d2_4) rfl rfl ?_
    show Steps p.tables e below (T1.setTop (mkF m 5 #[.val (.ref aa0), .val (.double dd1), .second, .val (.long qq2), .second] [(.ref aa0)])) _
    refine XS.dloadN X1.here hx rfl (hb hby d2_5) rfl ?_
    show Steps p.tables e below (T1.setTop (mkF m 6 #[.val (.ref aa0), .val (.double dd1), .second, .val (.long qq2), .second] [(.double dd1), (.ref aa0)])) _
    refine st2 _ ?_
    show Steps p.tables e below (T2.setTop (mkF m 9 #[.val (.ref aa0), .val (.double dd1), .second, .val (.long qq2), .second] [])) _
    refine XS.aloadN X2.here hx rfl (hb hby d2_9) rfl rfl ?_
    show Steps p.tables e below (T2.setTop (mkF m 10 #[.val (.ref aa0), .val (.double dd1), .second, .val (.long qq2), .second] [(.ref aa0)])) _
    refine XS.lloadN X2.here hx rfl (hb hby d2_10) rfl ?_
    show Steps p.tables e below (T2.setTop (mkF m 11 #[.val (.ref aa0), .val (.double dd1), .second, .val (.long qq2), .second] [(.long qq2), (.ref aa0)])) _
    refine st5 _ ?_
    show Steps p.tables e below (T5.setTop (mkF m 14 #[.val (.ref aa0), .val (.double dd1), .second, .val (.long qq2), .second] [])) _
    exact X5.returnOut hx Bd.returns (hb hby d2_14) hr
  · show Q2 Z aa0 dd1 qq2 u_numbers u_largestArray h0 n0 _ T5.heap _
    rw [e5]
    exact ⟨rfl, N5, K5, F_6, F5⟩
theorem pd__28_DJ_29_V : parseMethodDescriptor "(DJ)V" = some ⟨[.double, .long], none⟩ := by decide +kernel
theorem d1_0 : decode prog_18_method_3_code 0 = .ok (.new 10, 3) := by decide +kernel
theorem d1_3 : decode prog_18_method_3_code 3 = .ok (.dup, 1) := by decide +kernel
theorem d1_4 : decode prog_18_method_3_code 4 = .ok (.lload_n 0, 1) := by decide +kernel
theorem d1_5 : decode prog_18_method_3_code 5 = .ok (.l2d, 1) := by decide +kernel
theorem d1_6 : decode prog_18_method_3_code 6 = .ok (.lload_n 2, 1) := by decide +kernel
theorem d1_7 : decode prog_18_method_3_code 7 = .ok (.l2d, 1) := by decide +kernel
theorem d1_8 : decode prog_18_method_3_code 8 = .ok (.dmul, 1) := by decide +kernel
theorem d1_9 : decode prog_18_method_3_code 9 = .ok (.lload_n 0, 1) := by decide +kernel
theorem d1_10 : decode prog_18_method_3_code 10 = .ok (.lconst 0, 1) := by decide +kernel
theorem d1_11 : decode prog_18_method_3_code 11 = .ok (.lcmp, 1) := by decide +kernel
theorem d1_12 : decode prog_18_method_3_code 12 = .ok (.ifCond .le 7, 3) := by decide +kernel
theorem d1_15 : decode prog_18_method_3_code 15 = .ok (.lload_n 2, 1) := by decide +kernel
theorem d1_16 : decode prog_18_method_3_code 16 = .ok (.goto 4, 3) := by decide +kernel
theorem d1_19 : decode prog_18_method_3_code 19 = .ok (.lconst 0, 1) := by decide +kernel
theorem d1_20 : decode prog_18_method_3_code 20 = .ok (.invokespecial 19, 3) := by decide +kernel
theorem d1_23 : decode prog_18_method_3_code 23 = .ok (.areturn, 1) := by decide +kernel
theorem ef_1 (m : MethodId) (x0 : Int64) (x1 : Int64) : entryFrame m #[(.long x0), (.long x1)] 4 = mkF m 0 #[.val (.long x0), .second, .val (.long x1), .second] [] := by first | (simp [entryFrame, mkF, argsToLocals, Value.category]; done) | rfl
def Q1 (Z : State) (qq1 : Int64) (qq2 : Int64) (h0 : Heap) (n0 : Nat) (v : Option Value) (h : Heap) (L : List Loc) : Prop := ∃ (bx : Addr), v = some (.ref bx) ∧ Fr n0 L ∧ Keep h0 h [] ∧ n0 ≤ bx ∧ h0.size ≤ bx ∧ (Exa Z h bx "com/example/thesaurus_rerank/thesaurusrerank/space/Footprint") ∧ (Fld Z h bx "com/example/thesaurus_rerank/thesaurusrerank/space/Footprint" "numbers" "D" (.double (FP.dmul (FP.l2d qq1) (FP.l2d qq2)))) ∧ (Fld Z h bx "com/example/thesaurus_rerank/thesaurusrerank/space/Footprint" "largestArray" "J" (.long (if (0 : Int64) < qq1 then qq2 else (0 : Int64))))
set_option maxRecDepth 65536 in
set_option maxHeartbeats 40000000 in
theorem rm1 (l : Launch) (Z : State) (a0 : Array Value) (hw : ∀ d ∈ tables_1, d.before a0 Z = true) (ws : List Jvm.Cond) (qq1 : Int64) (qq2 : Int64) (h0 : Heap) (n0 : Nat) (Z0 : n0 ≤ h0.size) :
    MetFree l (⟨"com/example/thesaurus_rerank/thesaurusrerank/space/Footprint", "arrays", "(JJ)Lcom/example/thesaurus_rerank/thesaurusrerank/space/Footprint;"⟩ : MethodName) (head1 (Jvm.Cond.code (⟨"com/example/thesaurus_rerank/thesaurusrerank/space/Footprint", "arrays", "(JJ)Lcom/example/thesaurus_rerank/thesaurusrerank/space/Footprint;"⟩ : MethodName) prog_18_method_3_code 4 (some (.object "com/example/thesaurus_rerank/thesaurusrerank/space/Footprint")) :: ws) ({ frames := 2, cells := 1, slots := 2, locals := 29 } : Room)) (fun a U => a = #[(.long qq1), (.long qq2)] ∧ Z.Warmed39 U.vm ∧ U.heap = h0) (fun _ _ _ _ _ => True) (fun _ U o U' => ∃ v L, o = .returned v ∧ Q1 Z qq1 qq2 h0 n0 v U'.heap L ∧ FrameEnd U o U' L ({ frames := 2, cells := 1, slots := 2, locals := 29 } : Room).cells ({ frames := 2, cells := 1, slots := 2, locals := 29 } : Room).slots) := by
  refine MetFree.of_bodySF (plainFor_of_name pn_com_example_thesaurus_rerank_thesaurusrerank_space_Footprint) hisR ?_
  intro p e s m args below meth c s₁ Bd hml0 hP hK
  obtain ⟨rfl, hZ, hh⟩ := hP
  have hx := Bd.exec
  have hby := Bd.bytes
  have hml : c.maxLocals = 4 := hml0
  have hown : s.vm.findClass "com/example/thesaurus_rerank/thesaurusrerank/space/Footprint" = some m.cls := findClass_of_methodNamed Bd.named
  have hnm := (name_of_methodNamed Bd.named Bd.method).1
  have X0 : Stand p l e ({ frames := 2, cells := 1, slots := 2, locals := 29 } : Room) s m #[(.long qq1), (.long qq2)] below meth c s₁ [] 0 0 := Stand.of_body Bd
  have e0 : s₁.heap = h0 := by rw [← hh, Bd.state]; rfl
  have N0 := Fr.nil n0
  have pre0 : ∀ t, Steps p.tables e below (s₁.setTop (mkF m 0 #[.val (.long qq1), .second, .val (.long qq2), .second] [])) t → Steps p.tables e below (s₁.setTop (entryFrame m #[(.long qq1), (.long qq2)] 4)) t := fun t k => castTop (ef_1 m qq1 qq2) k
  obtain ⟨T1, h1, X1, e1, E1, A1, D1, -, st1⟩ := newO X0 hx hZ hown (hw _ (List.mem_of_getElem? (i := 4) rfl)) (hw _ (List.mem_of_getElem? (i := 5) rfl)) (hw _ (List.mem_of_getElem? (i := 2) rfl)) e0 (g := (mkF m 0 #[.val (.long qq1), .second, .val (.long qq2), .second] [])) rfl (hb hby d1_0) (by decide) (by decide)
  obtain ⟨b1, g1⟩ : ∃ z, z = h0.size := ⟨_, rfl⟩
  rw [← g1] at A1 D1 st1
  have g_b1 : n0 ≤ b1 := Nat.le_trans Z0 (Nat.le_of_eq g1.symm)
  have sz_b1 : h0.size ≤ b1 := Nat.le_trans (Keep.refl h0 []).1 (Nat.le_of_eq g1.symm)
  have Z1 : n0 ≤ h1.size := Nat.le_trans Z0 E1.1
  have K1 : Keep h0 h1 [] := (Keep.refl h0 []).ext E1
  have F1_numbers : Fld Z h1 b1 "com/example/thesaurus_rerank/thesaurusrerank/space/Footprint" "numbers" "D" (defaultValue .double) := D1 (Or.inr (hw _ (List.mem_of_getElem? (i := 13) rfl))) (ty := .double) (by decide)
  have F1_largestArray : Fld Z h1 b1 "com/example/thesaurus_rerank/thesaurusrerank/space/Footprint" "largestArray" "J" (.long (0 : Int64)) := D1 (Or.inr (hw _ (List.mem_of_getElem? (i := 15) rfl))) (ty := .long) (by decide)
  have hc8 : Jvm.Free.Fl.NoNaN64 (FP.dmul (FP.l2d qq1) (FP.l2d qq2)) := own_nn (own_mm _ _) (by decide)
  have pre2 : ∀ t, Steps p.tables e below (T1.setTop (mkF m 12 #[.val (.long qq1), .second, .val (.long qq2), .second] [(.int (lcmpW qq1 (0 : Int64))), (.double (FP.dmul (FP.l2d qq1) (FP.l2d qq2))), (.ref b1), (.ref b1)])) t → Steps p.tables e below (s₁.setTop (entryFrame m #[(.long qq1), (.long qq2)] 4)) t := fun t kt => pre0 t (by
    show Steps p.tables e below (s₁.setTop (mkF m 0 #[.val (.long qq1), .second, .val (.long qq2), .second] [])) _
    refine st1 _ ?_
    show Steps p.tables e below (T1.setTop (mkF m 3 #[.val (.long qq1), .second, .val (.long qq2), .second] [(.ref b1)])) _
    refine XS.dup X1.here hx rfl (hb hby d1_3) rfl rfl ?_
    show Steps p.tables e below (T1.setTop (mkF m 4 #[.val (.long qq1), .second, .val (.long qq2), .second] [(.ref b1), (.ref b1)])) _
    refine XS.lloadN X1.here hx rfl (hb hby d1_4) rfl ?_
    show Steps p.tables e below (T1.setTop (mkF m 5 #[.val (.long qq1), .second, .val (.long qq2), .second] [(.long qq1), (.ref b1), (.ref b1)])) _
    refine XS.l2dS X1.here hx rfl (hb hby d1_5) rfl (v := (FP.l2d qq1)) rfl ?_
    show Steps p.tables e below (T1.setTop (mkF m 6 #[.val (.long qq1), .second, .val (.long qq2), .second] [(.double (FP.l2d qq1)), (.ref b1), (.ref b1)])) _
    refine XS.lloadN X1.here hx rfl (hb hby d1_6) rfl ?_
    show Steps p.tables e below (T1.setTop (mkF m 7 #[.val (.long qq1), .second, .val (.long qq2), .second] [(.long qq2), (.double (FP.l2d qq1)), (.ref b1), (.ref b1)])) _
    refine XS.l2dS X1.here hx rfl (hb hby d1_7) rfl (v := (FP.l2d qq2)) rfl ?_
    show Steps p.tables e below (T1.setTop (mkF m 8 #[.val (.long qq1), .second, .val (.long qq2), .second] [(.double (FP.l2d qq2)), (.double (FP.l2d qq1)), (.ref b1), (.ref b1)])) _
    refine XS.dmulS X1.here hx rfl (hb hby d1_8) rfl hc8 (v := (FP.dmul (FP.l2d qq1) (FP.l2d qq2))) rfl ?_
    show Steps p.tables e below (T1.setTop (mkF m 9 #[.val (.long qq1), .second, .val (.long qq2), .second] [(.double (FP.dmul (FP.l2d qq1) (FP.l2d qq2))), (.ref b1), (.ref b1)])) _
    refine XS.lloadN X1.here hx rfl (hb hby d1_9) rfl ?_
    show Steps p.tables e below (T1.setTop (mkF m 10 #[.val (.long qq1), .second, .val (.long qq2), .second] [(.long qq1), (.double (FP.dmul (FP.l2d qq1) (FP.l2d qq2))), (.ref b1), (.ref b1)])) _
    refine XS.lconst X1.here hx rfl (hb hby d1_10) ?_
    show Steps p.tables e below (T1.setTop (mkF m 11 #[.val (.long qq1), .second, .val (.long qq2), .second] [(.long (0 : Int64)), (.long qq1), (.double (FP.dmul (FP.l2d qq1) (FP.l2d qq2))), (.ref b1), (.ref b1)])) _
    refine XS.lcmp X1.here hx rfl (hb hby d1_11) rfl ?_
    exact kt)
  obtain ⟨lg, T3, L3, h_lg, X3, e3, N3, pre3⟩ : ∃ (lg : Int64) (T' : State) (L' : List Loc), (lg = (if (0 : Int64) < qq1 then qq2 else (0 : Int64))) ∧ Stand p l e ({ frames := 2, cells := 1, slots := 2, locals := 29 } : Room) s m #[(.long qq1), (.long qq2)] below meth c T' L' 1 2 ∧ T'.heap = h1 ∧ Fr n0 L' ∧ ∀ t, Steps p.tables e below (T'.setTop (mkF m 20 #[.val (.long qq1), .second, .val (.long qq2), .second] [(.long lg), (.double (FP.dmul (FP.l2d qq1) (FP.l2d qq2))), (.ref b1), (.ref b1)])) t → Steps p.tables e below (s₁.setTop (entryFrame m #[(.long qq1), (.long qq2)] 4)) t := by
    by_cases hc12 : (0 : Int64) < qq1
    · skip
      exact ⟨qq2, _, _, (by first | rw [if_pos hc12] | rw [if_neg hc12]), X1, e1, N0, fun t kt => pre2 t (by
          show Steps p.tables e below (T1.setTop (mkF m 12 #[.val (.long qq1), .second, .val (.long qq2), .second] [(.int (lcmpW qq1 (0 : Int64))), (.double (FP.dmul (FP.l2d qq1) (FP.l2d qq2))), (.ref b1), (.ref b1)])) _
          refine XS.ifNo X1.here hx rfl (hb hby d1_12) rfl ((if0 _ _).trans (tlt ((lw_gt _ _).mpr hc12)).2.2.2) ?_
          show Steps p.tables e below (T1.setTop (mkF m 15 #[.val (.long qq1), .second, .val (.long qq2), .second] [(.double (FP.dmul (FP.l2d qq1) (FP.l2d qq2))), (.ref b1), (.ref b1)])) _
          refine XS.lloadN X1.here hx rfl (hb hby d1_15) rfl ?_
          show Steps p.tables e below (T1.setTop (mkF m 16 #[.val (.long qq1), .second, .val (.long qq2), .second] [(.long qq2), (.double (FP.dmul (FP.l2d qq1) (FP.l2d qq2))), (.ref b1), (.ref b1)])) _
          refine XS.goto X1.here hx rfl (pc0 := 16) (pc' := 20) rfl (hb hby d1_16) (by decide) (by decide) ?_
          exact kt)⟩
    · skip
      exact ⟨(0 : Int64), _, _, (by first | rw [if_pos hc12] | rw [if_neg hc12]), X1, e1, N0, fun t kt => pre2 t (by
          show Steps p.tables e below (T1.setTop (mkF m 12 #[.val (.long qq1), .second, .val (.long qq2), .second] [(.int (lcmpW qq1 (0 : Int64))), (.double (FP.dmul (FP.l2d qq1) (FP.l2d qq2))), (.ref b1), (.ref b1)])) _
          refine XS.ifYes X1.here hx rfl (pc0 := 12) (pc' := 19) rfl (hb hby d1_12) rfl ((if0 _ _).trans (flt (mt (lw_gt _ _).mp hc12)).2.2.2) (by decide) (by decide) ?_
          show Steps p.tables e below (T1.setTop (mkF m 19 #[.val (.long qq1), .second, .val (.long qq2), .second] [(.double (FP.dmul (FP.l2d qq1) (FP.l2d qq2))), (.ref b1), (.ref b1)])) _
          refine XS.lconst X1.here hx rfl (hb hby d1_19) ?_
          exact kt)⟩
  obtain ⟨_, _, ⟨T4, L4, k4, n4⟩, -, X4, ⟨Lc4, hQ4, l4, y4, z4⟩, st4⟩ := X3.specialBack hx (y := (⟨"com/example/thesaurus_rerank/thesaurusrerank/space/Footprint", "<init>", "(DJ)V"⟩ : MethodName)) rfl hown (mvT hZ (hw _ (List.mem_of_getElem? (i := 6) rfl))) (mvT hZ (hw _ (List.mem_of_getElem? (i := 7) rfl))) (mvT hZ (hw _ (List.mem_of_getElem? (i := 8) rfl))) (by decide) (backOf (W := 1) (rm2 l Z a0 hw [] b1 (FP.dmul (FP.l2d qq1) (FP.l2d qq2)) lg (defaultValue .double) (.long (0 : Int64)) h1 n0 Z1 A1 g_b1 F1_numbers F1_largestArray) hZ (hw _ (List.mem_of_getElem? (i := 8) rfl)) (hw _ (List.mem_of_getElem? (i := 2) rfl)) (by decide) (by decide)) (g := (mkF m 20 #[.val (.long qq1), .second, .val (.long qq2), .second] [(.long lg), (.double (FP.dmul (FP.l2d qq1) (FP.l2d qq2))), (.ref b1), (.ref b1)])) rfl (by rw [hml]; rfl) (Steps.refl _) (a := b1) (argsL := [(.double (FP.dmul (FP.l2d qq1) (FP.l2d qq2))), (.long lg)]) (rest := [(.ref b1)]) (lenOf pd__28_DJ_29_V rfl) rfl (by show 2 * 0 + _ ≤ _; exact Nat.le_of_eq rfl) (hb hby d1_20) (fun _ _ => ⟨rfl, e3, (by decide : 1 + 0 ≤ _), (by decide : 2 + 0 ≤ _)⟩)
  dsimp only [Pt.U, Pt.locs, Pt.cells, Pt.slots] at X4 l4 y4 z4 st4 hQ4
  subst l4 y4 z4
  obtain ⟨rfl, N4q, K4c, R4_0, R4_1⟩ := hQ4
  have N4 := Fr.app N3 N4q
  have Z4 : n0 ≤ T4.heap.size := Nat.le_trans Z1 K4c.1
  have K4 : Keep h0 T4.heap [] := K1.trans K4c (allS (Or.inr sz_b1) all0)
  have E_5 : Exa Z T4.heap b1 "com/example/thesaurus_rerank/thesaurusrerank/space/Footprint" := (A1.keep K4c)
  obtain ⟨fs, hr, hrun, hended, hW, hsame⟩ := X4.leave (v := some (.ref b1)) (fun h => by rw [Bd.returns] at h; cases h)
  refine ⟨_, _, pre3 _ ?_, hrun, hended, _, _, rfl, ?_, ⟨_, rfl⟩, hW, hsame.mono (by decide) (by decide)⟩
  · show Steps p.tables e below (T3.setTop (mkF m 20 #[.val (.long qq1), .second, .val (.long qq2), .second] [(.long lg), (.double (FP.dmul (FP.l2d qq1) (FP.l2d qq2))), (.ref b1), (.ref b1)])) _
    refine st4.trans ?_
    show Steps p.tables e below (T4.setTop (mkF m 23 #[.val (.long qq1), .second, .val (.long qq2), .second] [(.ref b1)])) _
    jvm_step X4.here [X4.here.top, hx, (hb hby d1_23), X4.method', Bd.returns, Value.isRef, FieldType.isReference]
    first | (intro acts; rw [hr _ acts rfl rfl rfl]) | rw [hr _ _ rfl rfl rfl]
    exact Steps.refl _
  · show Q1 Z qq1 qq2 h0 n0 _ T4.heap _
    exact ⟨b1, rfl, N4, K4, g_b1, sz_b1, E_5, R4_0, (h_lg ▸ R4_1)⟩
theorem d4_0 : decode prog_18_method_8_code 0 = .ok (.aload_n 0, 1) := by decide +kernel
theorem d4_1 : decode prog_18_method_8_code 1 = .ok (.getfield 15, 3) := by decide +kernel
theorem d4_4 : decode prog_18_method_8_code 4 = .ok (.lreturn, 1) := by decide +kernel
theorem ef_4 (m : MethodId) (x0 : Addr) : entryFrame m #[(.ref x0)] 1 = mkF m 0 #[.val (.ref x0)] [] := by first | (simp [entryFrame, mkF, argsToLocals, Value.category]; done) | rfl
def Q4 (Z : State) (aa0 : Addr) (vv : Int64) (h0 : Heap) (n0 : Nat) (v : Option Value) (h : Heap) (L : List Loc) : Prop := v = some (.long vv) ∧ Fr n0 L ∧ h = h0
set_option maxRecDepth 65536 in
set_option maxHeartbeats 40000000 in
theorem rm4 (l : Launch) (Z : State) (a0 : Array Value) (hw : ∀ d ∈ tables_1, d.before a0 Z = true) (ws : List Jvm.Cond) (aa0 : Addr) (vv : Int64) (h0 : Heap) (n0 : Nat) (Z0 : n0 ≤ h0.size) (F_aa0_largestArray : Fld Z h0 aa0 "com/example/thesaurus_rerank/thesaurusrerank/space/Footprint" "largestArray" "J" (.long vv)) :
    MetFree l (⟨"com/example/thesaurus_rerank/thesaurusrerank/space/Footprint", "largestArray", "()J"⟩ : MethodName) (head1 (Jvm.Cond.code (⟨"com/example/thesaurus_rerank/thesaurusrerank/space/Footprint", "largestArray", "()J"⟩ : MethodName) prog_18_method_8_code 1 (some .long) :: ws) ({ frames := 0, cells := 0, slots := 0, locals := 0 } : Room)) (fun a U => a = #[(.ref aa0)] ∧ Z.Warmed39 U.vm ∧ U.heap = h0) (fun _ _ _ _ _ => True) (fun _ U o U' => ∃ v L, o = .returned v ∧ Q4 Z aa0 vv h0 n0 v U'.heap L ∧ FrameEnd U o U' L ({ frames := 0, cells := 0, slots := 0, locals := 0 } : Room).cells ({ frames := 0, cells := 0, slots := 0, locals := 0 } : Room).slots) := by
  refine MetFree.of_bodySF (plainFor_of_name pn_com_example_thesaurus_rerank_thesaurusrerank_space_Footprint) hisR ?_
  intro p e s m args below meth c s₁ Bd hml0 hP hK
  obtain ⟨rfl, hZ, hh⟩ := hP
  have hx := Bd.exec
  have hby := Bd.bytes
  have hml : c.maxLocals = 1 := hml0
  have hown : s.vm.findClass "com/example/thesaurus_rerank/thesaurusrerank/space/Footprint" = some m.cls := findClass_of_methodNamed Bd.named
  have hnm := (name_of_methodNamed Bd.named Bd.method).1
  have X0 : Stand p l e ({ frames := 0, cells := 0, slots := 0, locals := 0 } : Room) s m #[(.ref aa0)] below meth c s₁ [] 0 0 := Stand.of_body Bd
  have e0 : s₁.heap = h0 := by rw [← hh, Bd.state]; rfl
  have N0 := Fr.nil n0
  have pre0 : ∀ t, Steps p.tables e below (s₁.setTop (mkF m 0 #[.val (.ref aa0)] [])) t → Steps p.tables e below (s₁.setTop (entryFrame m #[(.ref aa0)] 1)) t := fun t k => castTop (ef_4 m aa0) k
  obtain ⟨T1, X1, e1, st1⟩ := getF X0 hx hZ hown (host := "") (Or.inl (hw _ (List.mem_of_getElem? (i := 14) rfl))) Via.refl e0 F_aa0_largestArray (g := (mkF m 1 #[.val (.ref aa0)] [(.ref aa0)])) rfl rfl (hb hby d4_1)
  obtain ⟨fs, hr, hrun, hended, hW, hsame⟩ := X1.leave (v := some (.long vv)) (fun h => by rw [Bd.returns] at h; cases h)
  refine ⟨_, _, pre0 _ ?_, hrun, hended, _, _, rfl, ?_, ⟨_, rfl⟩, hW, hsame.mono (by decide) (by decide)⟩
  · show Steps p.tables e below (s₁.setTop (mkF m 0 #[.val (.ref aa0)] [])) _
    refine XS.aloadN X0.here hx rfl (hb hby d4_0) rfl rfl ?_
    show Steps p.tables e below (s₁.setTop (mkF m 1 #[.val (.ref aa0)] [(.ref aa0)])) _
    refine st1 _ ?_
    show Steps p.tables e below (T1.setTop (mkF m 4 #[.val (.ref aa0)] [(.long vv)])) _
    exact retJ X1 hx Bd.returns (hb hby d4_4) hr
  · show Q4 Z aa0 vv h0 n0 _ T1.heap _
    rw [e1]
    exact ⟨rfl, N0, rfl⟩
theorem d5_0 : decode prog_18_method_7_code 0 = .ok (.aload_n 0, 1) := by decide +kernel
theorem d5_1 : decode prog_18_method_7_code 1 = .ok (.getfield 9, 3) := by decide +kernel
theorem d5_4 : decode prog_18_method_7_code 4 = .ok (.ldc2_w 33, 3) := by decide +kernel
theorem d5_7 : decode prog_18_method_7_code 7 = .ok (.dmul, 1) := by decide +kernel
theorem d5_8 : decode prog_18_method_7_code 8 = .ok (.dreturn, 1) := by decide +kernel
theorem ef_5 (m : MethodId) (x0 : Addr) : entryFrame m #[(.ref x0)] 1 = mkF m 0 #[.val (.ref x0)] [] := by first | (simp [entryFrame, mkF, argsToLocals, Value.category]; done) | rfl
def Q5 (Z : State) (aa0 : Addr) (xx : UInt64) (h0 : Heap) (n0 : Nat) (v : Option Value) (h : Heap) (L : List Loc) : Prop := v = some (.double (FP.dmul xx (4620693217682128896 : UInt64))) ∧ Fr n0 L ∧ h = h0
set_option maxRecDepth 65536 in
set_option maxHeartbeats 40000000 in
theorem rm5 (l : Launch) (Z : State) (a0 : Array Value) (hw : ∀ d ∈ tables_1, d.before a0 Z = true) (ws : List Jvm.Cond) (aa0 : Addr) (xx : UInt64) (h0 : Heap) (n0 : Nat) (Z0 : n0 ≤ h0.size) (F_aa0_numbers : Fld Z h0 aa0 "com/example/thesaurus_rerank/thesaurusrerank/space/Footprint" "numbers" "D" (.double xx)) (hn : Jvm.Free.Fl.NoNaN64 (FP.dmul xx (4620693217682128896 : UInt64))) :
    MetFree l (⟨"com/example/thesaurus_rerank/thesaurusrerank/space/Footprint", "bytes", "()D"⟩ : MethodName) (head1 (Jvm.Cond.code (⟨"com/example/thesaurus_rerank/thesaurusrerank/space/Footprint", "bytes", "()D"⟩ : MethodName) prog_18_method_7_code 1 (some .double) :: ws) ({ frames := 0, cells := 0, slots := 0, locals := 0 } : Room)) (fun a U => a = #[(.ref aa0)] ∧ Z.Warmed39 U.vm ∧ U.heap = h0) (fun _ _ _ _ _ => True) (fun _ U o U' => ∃ v L, o = .returned v ∧ Q5 Z aa0 xx h0 n0 v U'.heap L ∧ FrameEnd U o U' L ({ frames := 0, cells := 0, slots := 0, locals := 0 } : Room).cells ({ frames := 0, cells := 0, slots := 0, locals := 0 } : Room).slots) := by
  refine MetFree.of_bodySF (plainFor_of_name pn_com_example_thesaurus_rerank_thesaurusrerank_space_Footprint) hisR ?_
  intro p e s m args below meth c s₁ Bd hml0 hP hK
  obtain ⟨rfl, hZ, hh⟩ := hP
  have hx := Bd.exec
  have hby := Bd.bytes
  have hml : c.maxLocals = 1 := hml0
  have hown : s.vm.findClass "com/example/thesaurus_rerank/thesaurusrerank/space/Footprint" = some m.cls := findClass_of_methodNamed Bd.named
  have hnm := (name_of_methodNamed Bd.named Bd.method).1
  have X0 : Stand p l e ({ frames := 0, cells := 0, slots := 0, locals := 0 } : Room) s m #[(.ref aa0)] below meth c s₁ [] 0 0 := Stand.of_body Bd
  have e0 : s₁.heap = h0 := by rw [← hh, Bd.state]; rfl
  have N0 := Fr.nil n0
  have pre0 : ∀ t, Steps p.tables e below (s₁.setTop (mkF m 0 #[.val (.ref aa0)] [])) t → Steps p.tables e below (s₁.setTop (entryFrame m #[(.ref aa0)] 1)) t := fun t k => castTop (ef_5 m aa0) k
  obtain ⟨T1, X1, e1, st1⟩ := getF X0 hx hZ hown (host := "") (Or.inl (hw _ (List.mem_of_getElem? (i := 12) rfl))) Via.refl e0 F_aa0_numbers (g := (mkF m 1 #[.val (.ref aa0)] [(.ref aa0)])) rfl rfl (hb hby d5_1)
  have hc7 : Jvm.Free.Fl.NoNaN64 (FP.dmul xx (4620693217682128896 : UInt64)) := hn
  obtain ⟨fs, hr, hrun, hended, hW, hsame⟩ := X1.leave (v := some (.double (FP.dmul xx (4620693217682128896 : UInt64)))) (fun h => by rw [Bd.returns] at h; cases h)
  refine ⟨_, _, pre0 _ ?_, hrun, hended, _, _, rfl, ?_, ⟨_, rfl⟩, hW, hsame.mono (by decide) (by decide)⟩
  · show Steps p.tables e below (s₁.setTop (mkF m 0 #[.val (.ref aa0)] [])) _
    refine XS.aloadN X0.here hx rfl (hb hby d5_0) rfl rfl ?_
    show Steps p.tables e below (s₁.setTop (mkF m 1 #[.val (.ref aa0)] [(.ref aa0)])) _
    refine st1 _ ?_
    show Steps p.tables e below (T1.setTop (mkF m 4 #[.val (.ref aa0)] [(.double xx)])) _
    refine X1.ldc2DoubleC hx hown (mvT hZ (hw _ (List.mem_of_getElem? (i := 27) rfl))) (g := (mkF m 4 #[.val (.ref aa0)] [(.double xx)])) rfl (hb hby d5_4) _ ?_
    show Steps p.tables e below (T1.setTop (mkF m 7 #[.val (.ref aa0)] [(.double (4620693217682128896 : UInt64)), (.double xx)])) _
    refine XS.dmulS X1.here hx rfl (hb hby d5_7) rfl hc7 (v := (FP.dmul xx (4620693217682128896 : UInt64))) rfl ?_
    show Steps p.tables e below (T1.setTop (mkF m 8 #[.val (.ref aa0)] [(.double (FP.dmul xx (4620693217682128896 : UInt64)))])) _
    exact retD X1 hx Bd.returns (hb hby d5_8) hr
  · show Q5 Z aa0 xx h0 n0 _ T1.heap _
    rw [e1]
    exact ⟨rfl, N0, rfl⟩
theorem own_b53 (x : Int32) : B53 x.toInt64 := by
  unfold B53; rw [Int32.toInt_toInt64]; have := rng32 x; omega
theorem own_hp (a b : Int32) : -9223372036854775808 ≤ a.toInt64.toInt * b.toInt64.toInt ∧ a.toInt64.toInt * b.toInt64.toInt < 9223372036854775808 := by
  have := Jvm.Free.XT.wideMul a b
  have r := rng64 (a.toInt64 * b.toInt64)
  rw [Int32.toInt_toInt64, Int32.toInt_toInt64]
  omega
/-- the two doubles compare as equal: bit for bit the same, or both a zero -/
theorem own_same (a b : Int32) : cmpValue (FP.dcmp (FP.dmul (FP.dmul (FP.l2d a.toInt64) (FP.l2d b.toInt64)) (4620693217682128896 : UInt64)) (FP.dmul (FP.l2d (a.toInt64 * b.toInt64)) (4620693217682128896 : UInt64))) .l = 0 := by
  by_cases h : a.toInt64 = 0 ∨ b.toInt64 = 0
  · have hz : a.toInt64 * b.toInt64 = 0 := by
      rcases h with h | h
      · rw [h, Int64.zero_mul]
      · rw [h, Int64.mul_zero]
    rw [hz, dmul_z (own_b53 a) (own_b53 b) h]
    split
    · decide +kernel
    · decide +kernel
  · have na : ¬ a.toInt64 = 0 := fun q => h (Or.inl q)
    have nb : ¬ b.toInt64 = 0 := fun q => h (Or.inr q)
    have hp := own_hp a b
    rw [dmul_w (own_b53 a) (own_b53 b) na nb hp.1 hp.2]
    exact dcmpV_self (own_nn (own_m8 _) (by decide)) _
theorem own_pos (a : Int32) : (0 : Int64) < a.toInt64 ↔ (0 : Int32) < a := by
  have e0 : (0 : Int64).toInt = 0 := by decide
  have e1 : (0 : Int32).toInt = 0 := by decide
  rw [Int64.lt_iff_toInt_lt, Int32.lt_iff_toInt_lt, Int32.toInt_toInt64, e0, e1]
theorem pd__28_JJ_29_Lcom_2f_example_2f_thesaurus_rerank_2f_thesaurusrerank_2f_space_2f_Footprint_3b_ : parseMethodDescriptor "(JJ)Lcom/example/thesaurus_rerank/thesaurusrerank/space/Footprint;" = some ⟨[.long, .long], some (.object "com/example/thesaurus_rerank/thesaurusrerank/space/Footprint")⟩ := by decide +kernel
theorem pd__28__29_J : parseMethodDescriptor "()J" = some ⟨[], some .long⟩ := by decide +kernel
theorem pd__28__29_D : parseMethodDescriptor "()D" = some ⟨[], some .double⟩ := by decide +kernel
theorem pn_com_example_thesaurus_rerank_thesaurusrerank_space_FootprintArraysPinLaw : plainName "com/example/thesaurus_rerank/thesaurusrerank/space/FootprintArraysPinLaw" = true := by first | (simp [plainName, overriddenIn]; done) | decide +kernel
theorem ef_0 (m : MethodId) (x0 : Int64) (x1 : Int64) (x2 : Int32) (x3 : Int32) : entryFrame m #[(.long x0), (.long x1), (.int x2), (.int x3)] maxLocals = mkF m 0 #[.val (.long x0), .second, .val (.long x1), .second, .val (.int x2), .val (.int x3), .unset, .unset, .unset, .unset, .unset, .unset, .unset, .unset, .unset, .unset, .unset, .unset, .unset, .unset, .unset, .unset] [] := by first | (simp [entryFrame, mkF, argsToLocals, Value.category, maxLocals]; done) | rfl
def Q0 (Z : State) (qq1 : Int64) (qq2 : Int64) (pp3 : Int32) (pp4 : Int32) (h0 : Heap) (n0 : Nat) (v : Option Value) (h : Heap) (L : List Loc) : Prop := v = some (.int 1) ∧ Fr n0 L
set_option maxRecDepth 65536 in
set_option maxHeartbeats 40000000 in
theorem rm0 (l : Launch) (Z : State) (a0 : Array Value) (hw : ∀ d ∈ tables_1, d.before a0 Z = true) (ws : List Jvm.Cond) (qq1 : Int64) (qq2 : Int64) (pp3 : Int32) (pp4 : Int32) (h0 : Heap) (n0 : Nat) (Z0 : n0 ≤ h0.size) :
    MetFree l x (head1 (Jvm.Cond.code x code maxLocals ret :: ws) room_1) (fun a U => a = #[(.long qq1), (.long qq2), (.int pp3), (.int pp4)] ∧ Z.Warmed39 U.vm ∧ U.heap = h0) (fun _ _ _ _ _ => True) (fun _ U o U' => ∃ v L, o = .returned v ∧ Q0 Z qq1 qq2 pp3 pp4 h0 n0 v U'.heap L ∧ FrameEnd U o U' L room_1.cells room_1.slots) := by
  refine MetFree.of_bodySF (plainFor_of_name pn_com_example_thesaurus_rerank_thesaurusrerank_space_FootprintArraysPinLaw) hisR ?_
  intro p e s m args below meth c s₁ Bd hml0 hP hK
  obtain ⟨rfl, hZ, hh⟩ := hP
  have hx := Bd.exec
  have hby := Bd.bytes
  have hml : c.maxLocals = 22 := hml0
  have hown : s.vm.findClass "com/example/thesaurus_rerank/thesaurusrerank/space/FootprintArraysPinLaw" = some m.cls := findClass_of_methodNamed Bd.named
  have hnm := (name_of_methodNamed Bd.named Bd.method).1
  have X0 : Stand p l e room_1 s m #[(.long qq1), (.long qq2), (.int pp3), (.int pp4)] below meth c s₁ [] 0 0 := Stand.of_body Bd
  have e0 : s₁.heap = h0 := by rw [← hh, Bd.state]; rfl
  have N0 := Fr.nil n0
  have pre0 : ∀ t, Steps p.tables e below (s₁.setTop (mkF m 0 #[.val (.long qq1), .second, .val (.long qq2), .second, .val (.int pp3), .val (.int pp4), .unset, .unset, .unset, .unset, .unset, .unset, .unset, .unset, .unset, .unset, .unset, .unset, .unset, .unset, .unset, .unset] [])) t → Steps p.tables e below (s₁.setTop (entryFrame m #[(.long qq1), (.long qq2), (.int pp3), (.int pp4)] maxLocals)) t := fun t k => castTop (ef_0 m qq1 qq2 pp3 pp4) k
  obtain ⟨_, _, ⟨T1, L1, k1, n1⟩, -, X1, ⟨Lc1, hQ1, l1, y1, z1⟩, st1⟩ := Jvm.LawKit.callS X0 hx (y := (⟨"com/example/thesaurus_rerank/thesaurusrerank/space/Footprint", "arrays", "(JJ)Lcom/example/thesaurus_rerank/thesaurusrerank/space/Footprint;"⟩ : MethodName)) hown (mvT hZ (hw _ (List.mem_of_getElem? (i := 0) rfl))) (mvT hZ (hw _ (List.mem_of_getElem? (i := 1) rfl))) (mvT hZ (hw _ (List.mem_of_getElem? (i := 2) rfl))) (mvT hZ (hw _ (List.mem_of_getElem? (i := 3) rfl))) (by decide) (backOf (W := 0) (rm1 l Z a0 hw [] qq1 qq2 h0 n0 Z0 ) hZ (hw _ (List.mem_of_getElem? (i := 3) rfl)) (hw _ (List.mem_of_getElem? (i := 2) rfl)) (by decide) (by decide)) (g := (mkF m 2 #[.val (.long qq1), .second, .val (.long qq2), .second, .val (.int pp3), .val (.int pp4), .unset, .unset, .unset, .unset, .unset, .unset, .unset, .unset, .unset, .unset, .unset, .unset, .unset, .unset, .unset, .unset] [(.long qq2), (.long qq1)])) rfl (by rw [hml]; rfl) (argsL := [(.long qq1), (.long qq2)]) (rest := []) (lenOf pd__28_JJ_29_Lcom_2f_example_2f_thesaurus_rerank_2f_thesaurusrerank_2f_space_2f_Footprint_3b_ rfl) rfl (by show 2 * 0 + _ ≤ _; exact Nat.le_of_eq rfl) (hb hby at_2) (fun _ _ => ⟨rfl, e0, (by decide : 0 + 1 ≤ _), (by decide : 0 + 2 ≤ _)⟩)
  dsimp only [Pt.U, Pt.locs, Pt.cells, Pt.slots] at X1 l1 y1 z1 st1 hQ1
  subst l1 y1 z1
  obtain ⟨bx_1, rfl, N1q, K1c, g_bx_1, sb_bx_1, R1_0, R1_1, R1_2⟩ := hQ1
  have N1 := Fr.app N0 N1q
  have Z1 : n0 ≤ T1.heap.size := Nat.le_trans Z0 K1c.1
  have pre2 : ∀ t, Steps p.tables e below (T1.setTop (mkF m 7 #[.val (.long qq1), .second, .val (.long qq2), .second, .val (.int pp3), .val (.int pp4), .val (.ref bx_1), .unset, .unset, .unset, .unset, .unset, .unset, .unset, .unset, .unset, .unset, .unset, .unset, .unset, .unset, .unset] [])) t → Steps p.tables e below (s₁.setTop (entryFrame m #[(.long qq1), (.long qq2), (.int pp3), (.int pp4)] maxLocals)) t := fun t kt => pre0 t (by
    show Steps p.tables e below (s₁.setTop (mkF m 0 #[.val (.long qq1), .second, .val (.long qq2), .second, .val (.int pp3), .val (.int pp4), .unset, .unset, .unset, .unset, .unset, .unset, .unset, .unset, .unset, .unset, .unset, .unset, .unset, .unset, .unset, .unset] [])) _
    refine XS.lloadN X0.here hx rfl (hb hby at_0) rfl ?_
    show Steps p.tables e below (s₁.setTop (mkF m 1 #[.val (.long qq1), .second, .val (.long qq2), .second, .val (.int pp3), .val (.int pp4), .unset, .unset, .unset, .unset, .unset, .unset, .unset, .unset, .unset, .unset, .unset, .unset, .unset, .unset, .unset, .unset] [(.long qq1)])) _
    refine XS.lloadN X0.here hx rfl (hb hby at_1) rfl ?_
    show Steps p.tables e below (s₁.setTop (mkF m 2 #[.val (.long qq1), .second, .val (.long qq2), .second, .val (.int pp3), .val (.int pp4), .unset, .unset, .unset, .unset, .unset, .unset, .unset, .unset, .unset, .unset, .unset, .unset, .unset, .unset, .unset, .unset] [(.long qq2), (.long qq1)])) _
    refine st1 _ ?_
    show Steps p.tables e below (T1.setTop (mkF m 5 #[.val (.long qq1), .second, .val (.long qq2), .second, .val (.int pp3), .val (.int pp4), .unset, .unset, .unset, .unset, .unset, .unset, .unset, .unset, .unset, .unset, .unset, .unset, .unset, .unset, .unset, .unset] [(.ref bx_1)])) _
    refine XS.astore X1.here hx rfl (hb hby at_5) rfl rfl (l' := #[.val (.long qq1), .second, .val (.long qq2), .second, .val (.int pp3), .val (.int pp4), .val (.ref bx_1), .unset, .unset, .unset, .unset, .unset, .unset, .unset, .unset, .unset, .unset, .unset, .unset, .unset, .unset, .unset]) rfl ?_
    exact kt)
  obtain ⟨lg, T3, L3, h_lg, X3, e3, N3, pre3⟩ : ∃ (lg : Int64) (T' : State) (L' : List Loc), (lg = (if (0 : Int64) < qq1 then qq2 else (0 : Int64))) ∧ Stand p l e room_1 s m #[(.long qq1), (.long qq2), (.int pp3), (.int pp4)] below meth c T' L' 1 2 ∧ T'.heap = T1.heap ∧ Fr n0 L' ∧ ∀ t, Steps p.tables e below (T'.setTop (mkF m 18 #[.val (.long qq1), .second, .val (.long qq2), .second, .val (.int pp3), .val (.int pp4), .val (.ref bx_1), .unset, .unset, .unset, .unset, .unset, .unset, .unset, .unset, .unset, .unset, .unset, .unset, .unset, .unset, .unset] [(.long lg)])) t → Steps p.tables e below (s₁.setTop (entryFrame m #[(.long qq1), (.long qq2), (.int pp3), (.int pp4)] maxLocals)) t := by
    have pre4 : ∀ t, Steps p.tables e below (T1.setTop (mkF m 10 #[.val (.long qq1), .second, .val (.long qq2), .second, .val (.int pp3), .val (.int pp4), .val (.ref bx_1), .unset, .unset, .unset, .unset, .unset, .unset, .unset, .unset, .unset, .unset, .unset, .unset, .unset, .unset, .unset] [(.int (lcmpW qq1 (0 : Int64)))])) t → Steps p.tables e below (s₁.setTop (entryFrame m #[(.long qq1), (.long qq2), (.int pp3), (.int pp4)] maxLocals)) t := fun t kt => pre2 t (by
      show Steps p.tables e below (T1.setTop (mkF m 7 #[.val (.long qq1), .second, .val (.long qq2), .second, .val (.int pp3), .val (.int pp4), .val (.ref bx_1), .unset, .unset, .unset, .unset, .unset, .unset, .unset, .unset, .unset, .unset, .unset, .unset, .unset, .unset, .unset] [])) _
      refine XS.lloadN X1.here hx rfl (hb hby at_7) rfl ?_
      show Steps p.tables e below (T1.setTop (mkF m 8 #[.val (.long qq1), .second, .val (.long qq2), .second, .val (.int pp3), .val (.int pp4), .val (.ref bx_1), .unset, .unset, .unset, .unset, .unset, .unset, .unset, .unset, .unset, .unset, .unset, .unset, .unset, .unset, .unset] [(.long qq1)])) _
      refine XS.lconst X1.here hx rfl (hb hby at_8) ?_
      show Steps p.tables e below (T1.setTop (mkF m 9 #[.val (.long qq1), .second, .val (.long qq2), .second, .val (.int pp3), .val (.int pp4), .val (.ref bx_1), .unset, .unset, .unset, .unset, .unset, .unset, .unset, .unset, .unset, .unset, .unset, .unset, .unset, .unset, .unset] [(.long (0 : Int64)), (.long qq1)])) _
      refine XS.lcmp X1.here hx rfl (hb hby at_9) rfl ?_
      exact kt)
    by_cases hc10 : (0 : Int64) < qq1
    · skip
      exact ⟨qq2, _, _, (by first | rw [if_pos hc10] | rw [if_neg hc10]), X1, rfl, N1, fun t kt => pre4 t (by
          show Steps p.tables e below (T1.setTop (mkF m 10 #[.val (.long qq1), .second, .val (.long qq2), .second, .val (.int pp3), .val (.int pp4), .val (.ref bx_1), .unset, .unset, .unset, .unset, .unset, .unset, .unset, .unset, .unset, .unset, .unset, .unset, .unset, .unset, .unset] [(.int (lcmpW qq1 (0 : Int64)))])) _
          refine XS.ifNo X1.here hx rfl (hb hby at_10) rfl ((if0 _ _).trans (tlt ((lw_gt _ _).mpr hc10)).2.2.2) ?_
          show Steps p.tables e below (T1.setTop (mkF m 13 #[.val (.long qq1), .second, .val (.long qq2), .second, .val (.int pp3), .val (.int pp4), .val (.ref bx_1), .unset, .unset, .unset, .unset, .unset, .unset, .unset, .unset, .unset, .unset, .unset, .unset, .unset, .unset, .unset] [])) _
          refine XS.lloadN X1.here hx rfl (hb hby at_13) rfl ?_
          show Steps p.tables e below (T1.setTop (mkF m 14 #[.val (.long qq1), .second, .val (.long qq2), .second, .val (.int pp3), .val (.int pp4), .val (.ref bx_1), .unset, .unset, .unset, .unset, .unset, .unset, .unset, .unset, .unset, .unset, .unset, .unset, .unset, .unset, .unset] [(.long qq2)])) _
          refine XS.goto X1.here hx rfl (pc0 := 14) (pc' := 18) rfl (hb hby at_14) (by decide) (by decide) ?_
          exact kt)⟩
    · skip
      exact ⟨(0 : Int64), _, _, (by first | rw [if_pos hc10] | rw [if_neg hc10]), X1, rfl, N1, fun t kt => pre4 t (by
          show Steps p.tables e below (T1.setTop (mkF m 10 #[.val (.long qq1), .second, .val (.long qq2), .second, .val (.int pp3), .val (.int pp4), .val (.ref bx_1), .unset, .unset, .unset, .unset, .unset, .unset, .unset, .unset, .unset, .unset, .unset, .unset, .unset, .unset, .unset] [(.int (lcmpW qq1 (0 : Int64)))])) _
          refine XS.ifYes X1.here hx rfl (pc0 := 10) (pc' := 17) rfl (hb hby at_10) rfl ((if0 _ _).trans (flt (mt (lw_gt _ _).mp hc10)).2.2.2) (by decide) (by decide) ?_
          show Steps p.tables e below (T1.setTop (mkF m 17 #[.val (.long qq1), .second, .val (.long qq2), .second, .val (.int pp3), .val (.int pp4), .val (.ref bx_1), .unset, .unset, .unset, .unset, .unset, .unset, .unset, .unset, .unset, .unset, .unset, .unset, .unset, .unset, .unset] [])) _
          refine XS.lconst X1.here hx rfl (hb hby at_17) ?_
          exact kt)⟩
  obtain ⟨cq5, kq5, q5a, q5b, q5c⟩ := isOf hZ e3 R1_0
  obtain ⟨_, _, ⟨T5, L5, k5, n5⟩, -, X5, ⟨Lc5, hQ5, l5, y5, z5⟩, st5⟩ := X3.virtualBack hx (y := (⟨"com/example/thesaurus_rerank/thesaurusrerank/space/Footprint", "largestArray", "()J"⟩ : MethodName)) (z := (⟨"com/example/thesaurus_rerank/thesaurusrerank/space/Footprint", "largestArray", "()J"⟩ : MethodName)) hown (mvT hZ (hw _ (List.mem_of_getElem? (i := 16) rfl))) (mvT hZ (hw _ (List.mem_of_getElem? (i := 17) rfl))) (notFace_of_selects (args := #[]) (mvT hZ (hw _ (List.mem_of_getElem? (i := 19) rfl)))) (mvT hZ (hw _ (List.mem_of_getElem? (i := 19) rfl))) (mvT hZ (hw _ (List.mem_of_getElem? (i := 18) rfl))) (by decide) (backOf (W := 0) (rm4 l Z a0 hw [] bx_1 (if (0 : Int64) < qq1 then qq2 else (0 : Int64)) T1.heap n0 Z1 R1_2) hZ (hw _ (List.mem_of_getElem? (i := 20) rfl)) (hw _ (List.mem_of_getElem? (i := 2) rfl)) (by decide) (by decide)) q5a q5c (g := (mkF m 22 #[.val (.long qq1), .second, .val (.long qq2), .second, .val (.int pp3), .val (.int pp4), .val (.ref bx_1), .val (.long lg), .second, .unset, .unset, .unset, .unset, .unset, .unset, .unset, .unset, .unset, .unset, .unset, .unset, .unset] [(.ref bx_1)])) rfl (by rw [hml]; rfl) (Steps.refl _) (argsL := []) (rest := []) (lenOf pd__28__29_J rfl) rfl (by show 2 * 0 + _ ≤ _; exact Nat.le_of_eq rfl) (hb hby at_22) (fun _ _ => ⟨rfl, e3, (by decide : 1 + 0 ≤ _), (by decide : 2 + 0 ≤ _)⟩)
  dsimp only [Pt.U, Pt.locs, Pt.cells, Pt.slots] at X5 l5 y5 z5 st5 hQ5
  subst l5 y5 z5
  obtain ⟨rfl, N5q, e5⟩ := hQ5
  have N5 := Fr.app N3 N5q
  have hc28 : (if (0 : Int64) < qq1 then qq2 else (0 : Int64)) = lg := h_lg.symm
  have hc45 : Jvm.Free.Fl.NoNaN64 (FP.dmul (FP.l2d qq1) (FP.l2d qq2)) := own_nn (own_mm _ _) (by decide)
  have hc49 : Jvm.Free.Fl.NoNaN64 (FP.dmul (FP.dmul (FP.l2d qq1) (FP.l2d qq2)) (4620693217682128896 : UInt64)) := own_nn (own_mm8 _ _) (by decide)
  obtain ⟨cq6, kq6, q6a, q6b, q6c⟩ := isOf hZ e5 R1_0
  obtain ⟨_, _, ⟨T6, L6, k6, n6⟩, -, X6, ⟨Lc6, hQ6, l6, y6, z6⟩, st6⟩ := X5.virtualBack hx (y := (⟨"com/example/thesaurus_rerank/thesaurusrerank/space/Footprint", "bytes", "()D"⟩ : MethodName)) (z := (⟨"com/example/thesaurus_rerank/thesaurusrerank/space/Footprint", "bytes", "()D"⟩ : MethodName)) hown (mvT hZ (hw _ (List.mem_of_getElem? (i := 22) rfl))) (mvT hZ (hw _ (List.mem_of_getElem? (i := 23) rfl))) (notFace_of_selects (args := #[]) (mvT hZ (hw _ (List.mem_of_getElem? (i := 25) rfl)))) (mvT hZ (hw _ (List.mem_of_getElem? (i := 25) rfl))) (mvT hZ (hw _ (List.mem_of_getElem? (i := 24) rfl))) (by decide) (backOf (W := 0) (rm5 l Z a0 hw [] bx_1 (FP.dmul (FP.l2d qq1) (FP.l2d qq2)) T1.heap n0 Z1 R1_1 (show Jvm.Free.Fl.NoNaN64 (FP.dmul (FP.dmul (FP.l2d qq1) (FP.l2d qq2)) (4620693217682128896 : UInt64)) from own_nn (own_mm8 _ _) (by decide))) hZ (hw _ (List.mem_of_getElem? (i := 26) rfl)) (hw _ (List.mem_of_getElem? (i := 2) rfl)) (by decide) (by decide)) q6a q6c (g := (mkF m 54 #[.val (.long qq1), .second, .val (.long qq2), .second, .val (.int pp3), .val (.int pp4), .val (.ref bx_1), .val (.long lg), .second, .val (.double (FP.l2d qq1)), .second, .val (.double (FP.l2d qq2)), .second, .val (.double (FP.dmul (FP.dmul (FP.l2d qq1) (FP.l2d qq2)) (4620693217682128896 : UInt64))), .second, .unset, .unset, .unset, .unset, .unset, .unset, .unset] [(.ref bx_1)])) rfl (by rw [hml]; rfl) (Steps.refl _) (argsL := []) (rest := []) (lenOf pd__28__29_D rfl) rfl (by show 2 * 0 + _ ≤ _; exact Nat.le_of_eq rfl) (hb hby at_54) (fun _ _ => ⟨rfl, e5, (by decide : 1 + 0 ≤ _), (by decide : 2 + 0 ≤ _)⟩)
  dsimp only [Pt.U, Pt.locs, Pt.cells, Pt.slots] at X6 l6 y6 z6 st6 hQ6
  subst l6 y6 z6
  obtain ⟨rfl, N6q, e6⟩ := hQ6
  have N6 := Fr.app N5 N6q
  have hc60 : (0 : Int32) = (0 : Int32) := by decide
  obtain ⟨_, _, ⟨T7, L7, k7, n7⟩, -, X7, ⟨Lc7, hQ7, l7, y7, z7⟩, st7⟩ := Jvm.LawKit.callS X6 hx (y := (⟨"com/example/thesaurus_rerank/thesaurusrerank/space/Footprint", "arrays", "(JJ)Lcom/example/thesaurus_rerank/thesaurusrerank/space/Footprint;"⟩ : MethodName)) hown (mvT hZ (hw _ (List.mem_of_getElem? (i := 0) rfl))) (mvT hZ (hw _ (List.mem_of_getElem? (i := 1) rfl))) (mvT hZ (hw _ (List.mem_of_getElem? (i := 2) rfl))) (mvT hZ (hw _ (List.mem_of_getElem? (i := 3) rfl))) (by decide) (backOf (W := 0) (rm1 l Z a0 hw [] (pp3.toInt64) (pp4.toInt64) T1.heap n0 Z1 ) hZ (hw _ (List.mem_of_getElem? (i := 3) rfl)) (hw _ (List.mem_of_getElem? (i := 2) rfl)) (by decide) (by decide)) (g := (mkF m 71 #[.val (.long qq1), .second, .val (.long qq2), .second, .val (.int pp3), .val (.int pp4), .val (.ref bx_1), .val (.long lg), .second, .val (.double (FP.l2d qq1)), .second, .val (.double (FP.l2d qq2)), .second, .val (.double (FP.dmul (FP.dmul (FP.l2d qq1) (FP.l2d qq2)) (4620693217682128896 : UInt64))), .second, .unset, .unset, .unset, .unset, .unset, .unset, .unset] [(.long (pp4.toInt64)), (.long (pp3.toInt64))])) rfl (by rw [hml]; rfl) (argsL := [(.long (pp3.toInt64)), (.long (pp4.toInt64))]) (rest := []) (lenOf pd__28_JJ_29_Lcom_2f_example_2f_thesaurus_rerank_2f_thesaurusrerank_2f_space_2f_Footprint_3b_ rfl) rfl (by show 2 * 0 + _ ≤ _; exact Nat.le_of_eq rfl) (hb hby at_71) (fun _ _ => ⟨rfl, e6, (by decide : 1 + 1 ≤ _), (by decide : 2 + 2 ≤ _)⟩)
  dsimp only [Pt.U, Pt.locs, Pt.cells, Pt.slots] at X7 l7 y7 z7 st7 hQ7
  subst l7 y7 z7
  obtain ⟨bx_7, rfl, N7q, K7c, g_bx_7, sb_bx_7, R7_0, R7_1, R7_2⟩ := hQ7
  have N7 := Fr.app N6 N7q
  have Z7 : n0 ≤ T7.heap.size := Nat.le_trans Z1 K7c.1
  have hc91 : Jvm.Free.Fl.NoNaN64 (FP.dmul (FP.l2d ((pp3.toInt64) * (pp4.toInt64))) (4620693217682128896 : UInt64)) := own_nn (own_m8 _) (by decide)
  obtain ⟨cq8, kq8, q8a, q8b, q8c⟩ := isOf hZ rfl R7_0
  obtain ⟨_, _, ⟨T8, L8, k8, n8⟩, -, X8, ⟨Lc8, hQ8, l8, y8, z8⟩, st8⟩ := X7.virtualBack hx (y := (⟨"com/example/thesaurus_rerank/thesaurusrerank/space/Footprint", "bytes", "()D"⟩ : MethodName)) (z := (⟨"com/example/thesaurus_rerank/thesaurusrerank/space/Footprint", "bytes", "()D"⟩ : MethodName)) hown (mvT hZ (hw _ (List.mem_of_getElem? (i := 22) rfl))) (mvT hZ (hw _ (List.mem_of_getElem? (i := 23) rfl))) (notFace_of_selects (args := #[]) (mvT hZ (hw _ (List.mem_of_getElem? (i := 25) rfl)))) (mvT hZ (hw _ (List.mem_of_getElem? (i := 25) rfl))) (mvT hZ (hw _ (List.mem_of_getElem? (i := 24) rfl))) (by decide) (backOf (W := 0) (rm5 l Z a0 hw [] bx_7 (FP.dmul (FP.l2d (pp3.toInt64)) (FP.l2d (pp4.toInt64))) T7.heap n0 Z7 R7_1 (show Jvm.Free.Fl.NoNaN64 (FP.dmul (FP.dmul (FP.l2d (pp3.toInt64)) (FP.l2d (pp4.toInt64))) (4620693217682128896 : UInt64)) from own_nn (own_mm8 _ _) (by decide))) hZ (hw _ (List.mem_of_getElem? (i := 26) rfl)) (hw _ (List.mem_of_getElem? (i := 2) rfl)) (by decide) (by decide)) q8a q8c (g := (mkF m 96 #[.val (.long qq1), .second, .val (.long qq2), .second, .val (.int pp3), .val (.int pp4), .val (.ref bx_1), .val (.long lg), .second, .val (.double (FP.l2d qq1)), .second, .val (.double (FP.l2d qq2)), .second, .val (.double (FP.dmul (FP.dmul (FP.l2d qq1) (FP.l2d qq2)) (4620693217682128896 : UInt64))), .second, .val (.ref bx_7), .val (.long ((pp3.toInt64) * (pp4.toInt64))), .second, .val (.double (FP.dmul (FP.l2d ((pp3.toInt64) * (pp4.toInt64))) (4620693217682128896 : UInt64))), .second, .unset, .unset] [(.ref bx_7)])) rfl (by rw [hml]; rfl) (Steps.refl _) (argsL := []) (rest := []) (lenOf pd__28__29_D rfl) rfl (by show 2 * 0 + _ ≤ _; exact Nat.le_of_eq rfl) (hb hby at_96) (fun _ _ => ⟨rfl, rfl, (by decide : 2 + 0 ≤ _), (by decide : 4 + 0 ≤ _)⟩)
  dsimp only [Pt.U, Pt.locs, Pt.cells, Pt.slots] at X8 l8 y8 z8 st8 hQ8
  subst l8 y8 z8
  obtain ⟨rfl, N8q, e8⟩ := hQ8
  have N8 := Fr.app N7 N8q
  have hc102 : (0 : Int32) = (0 : Int32) := by decide
  have pre9 : ∀ t, Steps p.tables e below (T8.setTop (mkF m 107 #[.val (.long qq1), .second, .val (.long qq2), .second, .val (.int pp3), .val (.int pp4), .val (.ref bx_1), .val (.long lg), .second, .val (.double (FP.l2d qq1)), .second, .val (.double (FP.l2d qq2)), .second, .val (.double (FP.dmul (FP.dmul (FP.l2d qq1) (FP.l2d qq2)) (4620693217682128896 : UInt64))), .second, .val (.ref bx_7), .val (.long ((pp3.toInt64) * (pp4.toInt64))), .second, .val (.double (FP.dmul (FP.l2d ((pp3.toInt64) * (pp4.toInt64))) (4620693217682128896 : UInt64))), .second, .unset, .unset] [])) t → Steps p.tables e below (s₁.setTop (entryFrame m #[(.long qq1), (.long qq2), (.int pp3), (.int pp4)] maxLocals)) t := fun t kt => pre3 t (by
    show Steps p.tables e below (T3.setTop (mkF m 18 #[.val (.long qq1), .second, .val (.long qq2), .second, .val (.int pp3), .val (.int pp4), .val (.ref bx_1), .unset, .unset, .unset, .unset, .unset, .unset, .unset, .unset, .unset, .unset, .unset, .unset, .unset, .unset, .unset] [(.long lg)])) _
    refine XS.lstore X3.here hx rfl (hb hby at_18) rfl (l' := #[.val (.long qq1), .second, .val (.long qq2), .second, .val (.int pp3), .val (.int pp4), .val (.ref bx_1), .val (.long lg), .second, .unset, .unset, .unset, .unset, .unset, .unset, .unset, .unset, .unset, .unset, .unset, .unset, .unset]) rfl ?_
    show Steps p.tables e below (T3.setTop (mkF m 20 #[.val (.long qq1), .second, .val (.long qq2), .second, .val (.int pp3), .val (.int pp4), .val (.ref bx_1), .val (.long lg), .second, .unset, .unset, .unset, .unset, .unset, .unset, .unset, .unset, .unset, .unset, .unset, .unset, .unset] [])) _
    refine XS.aload X3.here hx rfl (hb hby at_20) rfl rfl ?_
    show Steps p.tables e below (T3.setTop (mkF m 22 #[.val (.long qq1), .second, .val (.long qq2), .second, .val (.int pp3), .val (.int pp4), .val (.ref bx_1), .val (.long lg), .second, .unset, .unset, .unset, .unset, .unset, .unset, .unset, .unset, .unset, .unset, .unset, .unset, .unset] [(.ref bx_1)])) _
    refine st5.trans ?_
    show Steps p.tables e below (T5.setTop (mkF m 25 #[.val (.long qq1), .second, .val (.long qq2), .second, .val (.int pp3), .val (.int pp4), .val (.ref bx_1), .val (.long lg), .second, .unset, .unset, .unset, .unset, .unset, .unset, .unset, .unset, .unset, .unset, .unset, .unset, .unset] [(.long (if (0 : Int64) < qq1 then qq2 else (0 : Int64)))])) _
    refine XS.lload X5.here hx rfl (hb hby at_25) rfl ?_
    show Steps p.tables e below (T5.setTop (mkF m 27 #[.val (.long qq1), .second, .val (.long qq2), .second, .val (.int pp3), .val (.int pp4), .val (.ref bx_1), .val (.long lg), .second, .unset, .unset, .unset, .unset, .unset, .unset, .unset, .unset, .unset, .unset, .unset, .unset, .unset] [(.long lg), (.long (if (0 : Int64) < qq1 then qq2 else (0 : Int64)))])) _
    refine XS.lcmp X5.here hx rfl (hb hby at_27) rfl ?_
    show Steps p.tables e below (T5.setTop (mkF m 28 #[.val (.long qq1), .second, .val (.long qq2), .second, .val (.int pp3), .val (.int pp4), .val (.ref bx_1), .val (.long lg), .second, .unset, .unset, .unset, .unset, .unset, .unset, .unset, .unset, .unset, .unset, .unset, .unset, .unset] [(.int (lcmpW (if (0 : Int64) < qq1 then qq2 else (0 : Int64)) lg))])) _
    refine XS.ifYes X5.here hx rfl (pc0 := 28) (pc' := 33) rfl (hb hby at_28) rfl ((if0 _ _).trans (teq ((lw_eq _ _).mpr hc28)).1) (by decide) (by decide) ?_
    show Steps p.tables e below (T5.setTop (mkF m 33 #[.val (.long qq1), .second, .val (.long qq2), .second, .val (.int pp3), .val (.int pp4), .val (.ref bx_1), .val (.long lg), .second, .unset, .unset, .unset, .unset, .unset, .unset, .unset, .unset, .unset, .unset, .unset, .unset, .unset] [])) _
    refine XS.lloadN X5.here hx rfl (hb hby at_33) rfl ?_
    show Steps p.tables e below (T5.setTop (mkF m 34 #[.val (.long qq1), .second, .val (.long qq2), .second, .val (.int pp3), .val (.int pp4), .val (.ref bx_1), .val (.long lg), .second, .unset, .unset, .unset, .unset, .unset, .unset, .unset, .unset, .unset, .unset, .unset, .unset, .unset] [(.long qq1)])) _
    refine XS.l2dS X5.here hx rfl (hb hby at_34) rfl (v := (FP.l2d qq1)) rfl ?_
    show Steps p.tables e below (T5.setTop (mkF m 35 #[.val (.long qq1), .second, .val (.long qq2), .second, .val (.int pp3), .val (.int pp4), .val (.ref bx_1), .val (.long lg), .second, .unset, .unset, .unset, .unset, .unset, .unset, .unset, .unset, .unset, .unset, .unset, .unset, .unset] [(.double (FP.l2d qq1))])) _
    refine XS.dstore X5.here hx rfl (hb hby at_35) rfl (l' := #[.val (.long qq1), .second, .val (.long qq2), .second, .val (.int pp3), .val (.int pp4), .val (.ref bx_1), .val (.long lg), .second, .val (.double (FP.l2d qq1)), .second, .unset, .unset, .unset, .unset, .unset, .unset, .unset, .unset, .unset, .unset, .unset]) rfl ?_
    show Steps p.tables e below (T5.setTop (mkF m 37 #[.val (.long qq1), .second, .val (.long qq2), .second, .val (.int pp3), .val (.int pp4), .val (.ref bx_1), .val (.long lg), .second, .val (.double (FP.l2d qq1)), .second, .unset, .unset, .unset, .unset, .unset, .unset, .unset, .unset, .unset, .unset, .unset] [])) _
    refine XS.lloadN X5.here hx rfl (hb hby at_37) rfl ?_
    show Steps p.tables e below (T5.setTop (mkF m 38 #[.val (.long qq1), .second, .val (.long qq2), .second, .val (.int pp3), .val (.int pp4), .val (.ref bx_1), .val (.long lg), .second, .val (.double (FP.l2d qq1)), .second, .unset, .unset, .unset, .unset, .unset, .unset, .unset, .unset, .unset, .unset, .unset] [(.long qq2)])) _
    refine XS.l2dS X5.here hx rfl (hb hby at_38) rfl (v := (FP.l2d qq2)) rfl ?_
    show Steps p.tables e below (T5.setTop (mkF m 39 #[.val (.long qq1), .second, .val (.long qq2), .second, .val (.int pp3), .val (.int pp4), .val (.ref bx_1), .val (.long lg), .second, .val (.double (FP.l2d qq1)), .second, .unset, .unset, .unset, .unset, .unset, .unset, .unset, .unset, .unset, .unset, .unset] [(.double (FP.l2d qq2))])) _
    refine XS.dstore X5.here hx rfl (hb hby at_39) rfl (l' := #[.val (.long qq1), .second, .val (.long qq2), .second, .val (.int pp3), .val (.int pp4), .val (.ref bx_1), .val (.long lg), .second, .val (.double (FP.l2d qq1)), .second, .val (.double (FP.l2d qq2)), .second, .unset, .unset, .unset, .unset, .unset, .unset, .unset, .unset, .unset]) rfl ?_
    show Steps p.tables e below (T5.setTop (mkF m 41 #[.val (.long qq1), .second, .val (.long qq2), .second, .val (.int pp3), .val (.int pp4), .val (.ref bx_1), .val (.long lg), .second, .val (.double (FP.l2d qq1)), .second, .val (.double (FP.l2d qq2)), .second, .unset, .unset, .unset, .unset, .unset, .unset, .unset, .unset, .unset] [])) _
    refine XS.dload X5.here hx rfl (hb hby at_41) rfl ?_
    show Steps p.tables e below (T5.setTop (mkF m 43 #[.val (.long qq1), .second, .val (.long qq2), .second, .val (.int pp3), .val (.int pp4), .val (.ref bx_1), .val (.long lg), .second, .val (.double (FP.l2d qq1)), .second, .val (.double (FP.l2d qq2)), .second, .unset, .unset, .unset, .unset, .unset, .unset, .unset, .unset, .unset] [(.double (FP.l2d qq1))])) _
    refine XS.dload X5.here hx rfl (hb hby at_43) rfl ?_
    show Steps p.tables e below (T5.setTop (mkF m 45 #[.val (.long qq1), .second, .val (.long qq2), .second, .val (.int pp3), .val (.int pp4), .val (.ref bx_1), .val (.long lg), .second, .val (.double (FP.l2d qq1)), .second, .val (.double (FP.l2d qq2)), .second, .unset, .unset, .unset, .unset, .unset, .unset, .unset, .unset, .unset] [(.double (FP.l2d qq2)), (.double (FP.l2d qq1))])) _
    refine XS.dmulS X5.here hx rfl (hb hby at_45) rfl hc45 (v := (FP.dmul (FP.l2d qq1) (FP.l2d qq2))) rfl ?_
    show Steps p.tables e below (T5.setTop (mkF m 46 #[.val (.long qq1), .second, .val (.long qq2), .second, .val (.int pp3), .val (.int pp4), .val (.ref bx_1), .val (.long lg), .second, .val (.double (FP.l2d qq1)), .second, .val (.double (FP.l2d qq2)), .second, .unset, .unset, .unset, .unset, .unset, .unset, .unset, .unset, .unset] [(.double (FP.dmul (FP.l2d qq1) (FP.l2d qq2)))])) _
    refine X5.ldc2DoubleC hx hown (mvT hZ (hw _ (List.mem_of_getElem? (i := 21) rfl))) (g := (mkF m 46 #[.val (.long qq1), .second, .val (.long qq2), .second, .val (.int pp3), .val (.int pp4), .val (.ref bx_1), .val (.long lg), .second, .val (.double (FP.l2d qq1)), .second, .val (.double (FP.l2d qq2)), .second, .unset, .unset, .unset, .unset, .unset, .unset, .unset, .unset, .unset] [(.double (FP.dmul (FP.l2d qq1) (FP.l2d qq2)))])) rfl (hb hby at_46) _ ?_
    show Steps p.tables e below (T5.setTop (mkF m 49 #[.val (.long qq1), .second, .val (.long qq2), .second, .val (.int pp3), .val (.int pp4), .val (.ref bx_1), .val (.long lg), .second, .val (.double (FP.l2d qq1)), .second, .val (.double (FP.l2d qq2)), .second, .unset, .unset, .unset, .unset, .unset, .unset, .unset, .unset, .unset] [(.double (4620693217682128896 : UInt64)), (.double (FP.dmul (FP.l2d qq1) (FP.l2d qq2)))])) _
    refine XS.dmulS X5.here hx rfl (hb hby at_49) rfl hc49 (v := (FP.dmul (FP.dmul (FP.l2d qq1) (FP.l2d qq2)) (4620693217682128896 : UInt64))) rfl ?_
    show Steps p.tables e below (T5.setTop (mkF m 50 #[.val (.long qq1), .second, .val (.long qq2), .second, .val (.int pp3), .val (.int pp4), .val (.ref bx_1), .val (.long lg), .second, .val (.double (FP.l2d qq1)), .second, .val (.double (FP.l2d qq2)), .second, .unset, .unset, .unset, .unset, .unset, .unset, .unset, .unset, .unset] [(.double (FP.dmul (FP.dmul (FP.l2d qq1) (FP.l2d qq2)) (4620693217682128896 : UInt64)))])) _
    refine XS.dstore X5.here hx rfl (hb hby at_50) rfl (l' := #[.val (.long qq1), .second, .val (.long qq2), .second, .val (.int pp3), .val (.int pp4), .val (.ref bx_1), .val (.long lg), .second, .val (.double (FP.l2d qq1)), .second, .val (.double (FP.l2d qq2)), .second, .val (.double (FP.dmul (FP.dmul (FP.l2d qq1) (FP.l2d qq2)) (4620693217682128896 : UInt64))), .second, .unset, .unset, .unset, .unset, .unset, .unset, .unset]) rfl ?_
    show Steps p.tables e below (T5.setTop (mkF m 52 #[.val (.long qq1), .second, .val (.long qq2), .second, .val (.int pp3), .val (.int pp4), .val (.ref bx_1), .val (.long lg), .second, .val (.double (FP.l2d qq1)), .second, .val (.double (FP.l2d qq2)), .second, .val (.double (FP.dmul (FP.dmul (FP.l2d qq1) (FP.l2d qq2)) (4620693217682128896 : UInt64))), .second, .unset, .unset, .unset, .unset, .unset, .unset, .unset] [])) _
    refine XS.aload X5.here hx rfl (hb hby at_52) rfl rfl ?_
    show Steps p.tables e below (T5.setTop (mkF m 54 #[.val (.long qq1), .second, .val (.long qq2), .second, .val (.int pp3), .val (.int pp4), .val (.ref bx_1), .val (.long lg), .second, .val (.double (FP.l2d qq1)), .second, .val (.double (FP.l2d qq2)), .second, .val (.double (FP.dmul (FP.dmul (FP.l2d qq1) (FP.l2d qq2)) (4620693217682128896 : UInt64))), .second, .unset, .unset, .unset, .unset, .unset, .unset, .unset] [(.ref bx_1)])) _
    refine st6.trans ?_
    show Steps p.tables e below (T6.setTop (mkF m 57 #[.val (.long qq1), .second, .val (.long qq2), .second, .val (.int pp3), .val (.int pp4), .val (.ref bx_1), .val (.long lg), .second, .val (.double (FP.l2d qq1)), .second, .val (.double (FP.l2d qq2)), .second, .val (.double (FP.dmul (FP.dmul (FP.l2d qq1) (FP.l2d qq2)) (4620693217682128896 : UInt64))), .second, .unset, .unset, .unset, .unset, .unset, .unset, .unset] [(.double (FP.dmul (FP.dmul (FP.l2d qq1) (FP.l2d qq2)) (4620693217682128896 : UInt64)))])) _
    refine XS.dload X6.here hx rfl (hb hby at_57) rfl ?_
    show Steps p.tables e below (T6.setTop (mkF m 59 #[.val (.long qq1), .second, .val (.long qq2), .second, .val (.int pp3), .val (.int pp4), .val (.ref bx_1), .val (.long lg), .second, .val (.double (FP.l2d qq1)), .second, .val (.double (FP.l2d qq2)), .second, .val (.double (FP.dmul (FP.dmul (FP.l2d qq1) (FP.l2d qq2)) (4620693217682128896 : UInt64))), .second, .unset, .unset, .unset, .unset, .unset, .unset, .unset] [(.double (FP.dmul (FP.dmul (FP.l2d qq1) (FP.l2d qq2)) (4620693217682128896 : UInt64))), (.double (FP.dmul (FP.dmul (FP.l2d qq1) (FP.l2d qq2)) (4620693217682128896 : UInt64)))])) _
    refine XS.dcmpS X6.here hx rfl (hb hby at_59) rfl (v := (0 : Int32)) (dcmpV_self (own_nn (own_mm8 _ _) (by decide)) _) ?_
    show Steps p.tables e below (T6.setTop (mkF m 60 #[.val (.long qq1), .second, .val (.long qq2), .second, .val (.int pp3), .val (.int pp4), .val (.ref bx_1), .val (.long lg), .second, .val (.double (FP.l2d qq1)), .second, .val (.double (FP.l2d qq2)), .second, .val (.double (FP.dmul (FP.dmul (FP.l2d qq1) (FP.l2d qq2)) (4620693217682128896 : UInt64))), .second, .unset, .unset, .unset, .unset, .unset, .unset, .unset] [(.int (0 : Int32))])) _
    refine XS.ifYes X6.here hx rfl (pc0 := 60) (pc' := 65) rfl (hb hby at_60) rfl ((if0 _ _).trans (teq hc60).1) (by decide) (by decide) ?_
    show Steps p.tables e below (T6.setTop (mkF m 65 #[.val (.long qq1), .second, .val (.long qq2), .second, .val (.int pp3), .val (.int pp4), .val (.ref bx_1), .val (.long lg), .second, .val (.double (FP.l2d qq1)), .second, .val (.double (FP.l2d qq2)), .second, .val (.double (FP.dmul (FP.dmul (FP.l2d qq1) (FP.l2d qq2)) (4620693217682128896 : UInt64))), .second, .unset, .unset, .unset, .unset, .unset, .unset, .unset] [])) _
    refine XS.iload X6.here hx rfl (hb hby at_65) rfl ?_
    show Steps p.tables e below (T6.setTop (mkF m 67 #[.val (.long qq1), .second, .val (.long qq2), .second, .val (.int pp3), .val (.int pp4), .val (.ref bx_1), .val (.long lg), .second, .val (.double (FP.l2d qq1)), .second, .val (.double (FP.l2d qq2)), .second, .val (.double (FP.dmul (FP.dmul (FP.l2d qq1) (FP.l2d qq2)) (4620693217682128896 : UInt64))), .second, .unset, .unset, .unset, .unset, .unset, .unset, .unset] [(.int pp3)])) _
    refine XS.i2l X6.here hx rfl (hb hby at_67) rfl ?_
    show Steps p.tables e below (T6.setTop (mkF m 68 #[.val (.long qq1), .second, .val (.long qq2), .second, .val (.int pp3), .val (.int pp4), .val (.ref bx_1), .val (.long lg), .second, .val (.double (FP.l2d qq1)), .second, .val (.double (FP.l2d qq2)), .second, .val (.double (FP.dmul (FP.dmul (FP.l2d qq1) (FP.l2d qq2)) (4620693217682128896 : UInt64))), .second, .unset, .unset, .unset, .unset, .unset, .unset, .unset] [(.long (pp3.toInt64))])) _
    refine XS.iload X6.here hx rfl (hb hby at_68) rfl ?_
    show Steps p.tables e below (T6.setTop (mkF m 70 #[.val (.long qq1), .second, .val (.long qq2), .second, .val (.int pp3), .val (.int pp4), .val (.ref bx_1), .val (.long lg), .second, .val (.double (FP.l2d qq1)), .second, .val (.double (FP.l2d qq2)), .second, .val (.double (FP.dmul (FP.dmul (FP.l2d qq1) (FP.l2d qq2)) (4620693217682128896 : UInt64))), .second, .unset, .unset, .unset, .unset, .unset, .unset, .unset] [(.int pp4), (.long (pp3.toInt64))])) _
    refine XS.i2l X6.here hx rfl (hb hby at_70) rfl ?_
    show Steps p.tables e below (T6.setTop (mkF m 71 #[.val (.long qq1), .second, .val (.long qq2), .second, .val (.int pp3), .val (.int pp4), .val (.ref bx_1), .val (.long lg), .second, .val (.double (FP.l2d qq1)), .second, .val (.double (FP.l2d qq2)), .second, .val (.double (FP.dmul (FP.dmul (FP.l2d qq1) (FP.l2d qq2)) (4620693217682128896 : UInt64))), .second, .unset, .unset, .unset, .unset, .unset, .unset, .unset] [(.long (pp4.toInt64)), (.long (pp3.toInt64))])) _
    refine st7 _ ?_
    show Steps p.tables e below (T7.setTop (mkF m 74 #[.val (.long qq1), .second, .val (.long qq2), .second, .val (.int pp3), .val (.int pp4), .val (.ref bx_1), .val (.long lg), .second, .val (.double (FP.l2d qq1)), .second, .val (.double (FP.l2d qq2)), .second, .val (.double (FP.dmul (FP.dmul (FP.l2d qq1) (FP.l2d qq2)) (4620693217682128896 : UInt64))), .second, .unset, .unset, .unset, .unset, .unset, .unset, .unset] [(.ref bx_7)])) _
    refine XS.astore X7.here hx rfl (hb hby at_74) rfl rfl (l' := #[.val (.long qq1), .second, .val (.long qq2), .second, .val (.int pp3), .val (.int pp4), .val (.ref bx_1), .val (.long lg), .second, .val (.double (FP.l2d qq1)), .second, .val (.double (FP.l2d qq2)), .second, .val (.double (FP.dmul (FP.dmul (FP.l2d qq1) (FP.l2d qq2)) (4620693217682128896 : UInt64))), .second, .val (.ref bx_7), .unset, .unset, .unset, .unset, .unset, .unset]) rfl ?_
    show Steps p.tables e below (T7.setTop (mkF m 76 #[.val (.long qq1), .second, .val (.long qq2), .second, .val (.int pp3), .val (.int pp4), .val (.ref bx_1), .val (.long lg), .second, .val (.double (FP.l2d qq1)), .second, .val (.double (FP.l2d qq2)), .second, .val (.double (FP.dmul (FP.dmul (FP.l2d qq1) (FP.l2d qq2)) (4620693217682128896 : UInt64))), .second, .val (.ref bx_7), .unset, .unset, .unset, .unset, .unset, .unset] [])) _
    refine XS.iload X7.here hx rfl (hb hby at_76) rfl ?_
    show Steps p.tables e below (T7.setTop (mkF m 78 #[.val (.long qq1), .second, .val (.long qq2), .second, .val (.int pp3), .val (.int pp4), .val (.ref bx_1), .val (.long lg), .second, .val (.double (FP.l2d qq1)), .second, .val (.double (FP.l2d qq2)), .second, .val (.double (FP.dmul (FP.dmul (FP.l2d qq1) (FP.l2d qq2)) (4620693217682128896 : UInt64))), .second, .val (.ref bx_7), .unset, .unset, .unset, .unset, .unset, .unset] [(.int pp3)])) _
    refine XS.i2l X7.here hx rfl (hb hby at_78) rfl ?_
    show Steps p.tables e below (T7.setTop (mkF m 79 #[.val (.long qq1), .second, .val (.long qq2), .second, .val (.int pp3), .val (.int pp4), .val (.ref bx_1), .val (.long lg), .second, .val (.double (FP.l2d qq1)), .second, .val (.double (FP.l2d qq2)), .second, .val (.double (FP.dmul (FP.dmul (FP.l2d qq1) (FP.l2d qq2)) (4620693217682128896 : UInt64))), .second, .val (.ref bx_7), .unset, .unset, .unset, .unset, .unset, .unset] [(.long (pp3.toInt64))])) _
    refine XS.iload X7.here hx rfl (hb hby at_79) rfl ?_
    show Steps p.tables e below (T7.setTop (mkF m 81 #[.val (.long qq1), .second, .val (.long qq2), .second, .val (.int pp3), .val (.int pp4), .val (.ref bx_1), .val (.long lg), .second, .val (.double (FP.l2d qq1)), .second, .val (.double (FP.l2d qq2)), .second, .val (.double (FP.dmul (FP.dmul (FP.l2d qq1) (FP.l2d qq2)) (4620693217682128896 : UInt64))), .second, .val (.ref bx_7), .unset, .unset, .unset, .unset, .unset, .unset] [(.int pp4), (.long (pp3.toInt64))])) _
    refine XS.i2l X7.here hx rfl (hb hby at_81) rfl ?_
    show Steps p.tables e below (T7.setTop (mkF m 82 #[.val (.long qq1), .second, .val (.long qq2), .second, .val (.int pp3), .val (.int pp4), .val (.ref bx_1), .val (.long lg), .second, .val (.double (FP.l2d qq1)), .second, .val (.double (FP.l2d qq2)), .second, .val (.double (FP.dmul (FP.dmul (FP.l2d qq1) (FP.l2d qq2)) (4620693217682128896 : UInt64))), .second, .val (.ref bx_7), .unset, .unset, .unset, .unset, .unset, .unset] [(.long (pp4.toInt64)), (.long (pp3.toInt64))])) _
    refine XS.lmul X7.here hx rfl (hb hby at_82) rfl ?_
    show Steps p.tables e below (T7.setTop (mkF m 83 #[.val (.long qq1), .second, .val (.long qq2), .second, .val (.int pp3), .val (.int pp4), .val (.ref bx_1), .val (.long lg), .second, .val (.double (FP.l2d qq1)), .second, .val (.double (FP.l2d qq2)), .second, .val (.double (FP.dmul (FP.dmul (FP.l2d qq1) (FP.l2d qq2)) (4620693217682128896 : UInt64))), .second, .val (.ref bx_7), .unset, .unset, .unset, .unset, .unset, .unset] [(.long ((pp3.toInt64) * (pp4.toInt64)))])) _
    refine XS.lstore X7.here hx rfl (hb hby at_83) rfl (l' := #[.val (.long qq1), .second, .val (.long qq2), .second, .val (.int pp3), .val (.int pp4), .val (.ref bx_1), .val (.long lg), .second, .val (.double (FP.l2d qq1)), .second, .val (.double (FP.l2d qq2)), .second, .val (.double (FP.dmul (FP.dmul (FP.l2d qq1) (FP.l2d qq2)) (4620693217682128896 : UInt64))), .second, .val (.ref bx_7), .val (.long ((pp3.toInt64) * (pp4.toInt64))), .second, .unset, .unset, .unset, .unset]) rfl ?_
    show Steps p.tables e below (T7.setTop (mkF m 85 #[.val (.long qq1), .second, .val (.long qq2), .second, .val (.int pp3), .val (.int pp4), .val (.ref bx_1), .val (.long lg), .second, .val (.double (FP.l2d qq1)), .second, .val (.double (FP.l2d qq2)), .second, .val (.double (FP.dmul (FP.dmul (FP.l2d qq1) (FP.l2d qq2)) (4620693217682128896 : UInt64))), .second, .val (.ref bx_7), .val (.long ((pp3.toInt64) * (pp4.toInt64))), .second, .unset, .unset, .unset, .unset] [])) _
    refine XS.lload X7.here hx rfl (hb hby at_85) rfl ?_
    show Steps p.tables e below (T7.setTop (mkF m 87 #[.val (.long qq1), .second, .val (.long qq2), .second, .val (.int pp3), .val (.int pp4), .val (.ref bx_1), .val (.long lg), .second, .val (.double (FP.l2d qq1)), .second, .val (.double (FP.l2d qq2)), .second, .val (.double (FP.dmul (FP.dmul (FP.l2d qq1) (FP.l2d qq2)) (4620693217682128896 : UInt64))), .second, .val (.ref bx_7), .val (.long ((pp3.toInt64) * (pp4.toInt64))), .second, .unset, .unset, .unset, .unset] [(.long ((pp3.toInt64) * (pp4.toInt64)))])) _
    refine XS.l2dS X7.here hx rfl (hb hby at_87) rfl (v := (FP.l2d ((pp3.toInt64) * (pp4.toInt64)))) rfl ?_
    show Steps p.tables e below (T7.setTop (mkF m 88 #[.val (.long qq1), .second, .val (.long qq2), .second, .val (.int pp3), .val (.int pp4), .val (.ref bx_1), .val (.long lg), .second, .val (.double (FP.l2d qq1)), .second, .val (.double (FP.l2d qq2)), .second, .val (.double (FP.dmul (FP.dmul (FP.l2d qq1) (FP.l2d qq2)) (4620693217682128896 : UInt64))), .second, .val (.ref bx_7), .val (.long ((pp3.toInt64) * (pp4.toInt64))), .second, .unset, .unset, .unset, .unset] [(.double (FP.l2d ((pp3.toInt64) * (pp4.toInt64))))])) _
    refine X7.ldc2DoubleC hx hown (mvT hZ (hw _ (List.mem_of_getElem? (i := 21) rfl))) (g := (mkF m 88 #[.val (.long qq1), .second, .val (.long qq2), .second, .val (.int pp3), .val (.int pp4), .val (.ref bx_1), .val (.long lg), .second, .val (.double (FP.l2d qq1)), .second, .val (.double (FP.l2d qq2)), .second, .val (.double (FP.dmul (FP.dmul (FP.l2d qq1) (FP.l2d qq2)) (4620693217682128896 : UInt64))), .second, .val (.ref bx_7), .val (.long ((pp3.toInt64) * (pp4.toInt64))), .second, .unset, .unset, .unset, .unset] [(.double (FP.l2d ((pp3.toInt64) * (pp4.toInt64))))])) rfl (hb hby at_88) _ ?_
    show Steps p.tables e below (T7.setTop (mkF m 91 #[.val (.long qq1), .second, .val (.long qq2), .second, .val (.int pp3), .val (.int pp4), .val (.ref bx_1), .val (.long lg), .second, .val (.double (FP.l2d qq1)), .second, .val (.double (FP.l2d qq2)), .second, .val (.double (FP.dmul (FP.dmul (FP.l2d qq1) (FP.l2d qq2)) (4620693217682128896 : UInt64))), .second, .val (.ref bx_7), .val (.long ((pp3.toInt64) * (pp4.toInt64))), .second, .unset, .unset, .unset, .unset] [(.double (4620693217682128896 : UInt64)), (.double (FP.l2d ((pp3.toInt64) * (pp4.toInt64))))])) _
    refine XS.dmulS X7.here hx rfl (hb hby at_91) rfl hc91 (v := (FP.dmul (FP.l2d ((pp3.toInt64) * (pp4.toInt64))) (4620693217682128896 : UInt64))) rfl ?_
    show Steps p.tables e below (T7.setTop (mkF m 92 #[.val (.long qq1), .second, .val (.long qq2), .second, .val (.int pp3), .val (.int pp4), .val (.ref bx_1), .val (.long lg), .second, .val (.double (FP.l2d qq1)), .second, .val (.double (FP.l2d qq2)), .second, .val (.double (FP.dmul (FP.dmul (FP.l2d qq1) (FP.l2d qq2)) (4620693217682128896 : UInt64))), .second, .val (.ref bx_7), .val (.long ((pp3.toInt64) * (pp4.toInt64))), .second, .unset, .unset, .unset, .unset] [(.double (FP.dmul (FP.l2d ((pp3.toInt64) * (pp4.toInt64))) (4620693217682128896 : UInt64)))])) _
    refine XS.dstore X7.here hx rfl (hb hby at_92) rfl (l' := #[.val (.long qq1), .second, .val (.long qq2), .second, .val (.int pp3), .val (.int pp4), .val (.ref bx_1), .val (.long lg), .second, .val (.double (FP.l2d qq1)), .second, .val (.double (FP.l2d qq2)), .second, .val (.double (FP.dmul (FP.dmul (FP.l2d qq1) (FP.l2d qq2)) (4620693217682128896 : UInt64))), .second, .val (.ref bx_7), .val (.long ((pp3.toInt64) * (pp4.toInt64))), .second, .val (.double (FP.dmul (FP.l2d ((pp3.toInt64) * (pp4.toInt64))) (4620693217682128896 : UInt64))), .second, .unset, .unset]) rfl ?_
    show Steps p.tables e below (T7.setTop (mkF m 94 #[.val (.long qq1), .second, .val (.long qq2), .second, .val (.int pp3), .val (.int pp4), .val (.ref bx_1), .val (.long lg), .second, .val (.double (FP.l2d qq1)), .second, .val (.double (FP.l2d qq2)), .second, .val (.double (FP.dmul (FP.dmul (FP.l2d qq1) (FP.l2d qq2)) (4620693217682128896 : UInt64))), .second, .val (.ref bx_7), .val (.long ((pp3.toInt64) * (pp4.toInt64))), .second, .val (.double (FP.dmul (FP.l2d ((pp3.toInt64) * (pp4.toInt64))) (4620693217682128896 : UInt64))), .second, .unset, .unset] [])) _
    refine XS.aload X7.here hx rfl (hb hby at_94) rfl rfl ?_
    show Steps p.tables e below (T7.setTop (mkF m 96 #[.val (.long qq1), .second, .val (.long qq2), .second, .val (.int pp3), .val (.int pp4), .val (.ref bx_1), .val (.long lg), .second, .val (.double (FP.l2d qq1)), .second, .val (.double (FP.l2d qq2)), .second, .val (.double (FP.dmul (FP.dmul (FP.l2d qq1) (FP.l2d qq2)) (4620693217682128896 : UInt64))), .second, .val (.ref bx_7), .val (.long ((pp3.toInt64) * (pp4.toInt64))), .second, .val (.double (FP.dmul (FP.l2d ((pp3.toInt64) * (pp4.toInt64))) (4620693217682128896 : UInt64))), .second, .unset, .unset] [(.ref bx_7)])) _
    refine st8.trans ?_
    show Steps p.tables e below (T8.setTop (mkF m 99 #[.val (.long qq1), .second, .val (.long qq2), .second, .val (.int pp3), .val (.int pp4), .val (.ref bx_1), .val (.long lg), .second, .val (.double (FP.l2d qq1)), .second, .val (.double (FP.l2d qq2)), .second, .val (.double (FP.dmul (FP.dmul (FP.l2d qq1) (FP.l2d qq2)) (4620693217682128896 : UInt64))), .second, .val (.ref bx_7), .val (.long ((pp3.toInt64) * (pp4.toInt64))), .second, .val (.double (FP.dmul (FP.l2d ((pp3.toInt64) * (pp4.toInt64))) (4620693217682128896 : UInt64))), .second, .unset, .unset] [(.double (FP.dmul (FP.dmul (FP.l2d (pp3.toInt64)) (FP.l2d (pp4.toInt64))) (4620693217682128896 : UInt64)))])) _
    refine XS.dload X8.here hx rfl (hb hby at_99) rfl ?_
    show Steps p.tables e below (T8.setTop (mkF m 101 #[.val (.long qq1), .second, .val (.long qq2), .second, .val (.int pp3), .val (.int pp4), .val (.ref bx_1), .val (.long lg), .second, .val (.double (FP.l2d qq1)), .second, .val (.double (FP.l2d qq2)), .second, .val (.double (FP.dmul (FP.dmul (FP.l2d qq1) (FP.l2d qq2)) (4620693217682128896 : UInt64))), .second, .val (.ref bx_7), .val (.long ((pp3.toInt64) * (pp4.toInt64))), .second, .val (.double (FP.dmul (FP.l2d ((pp3.toInt64) * (pp4.toInt64))) (4620693217682128896 : UInt64))), .second, .unset, .unset] [(.double (FP.dmul (FP.l2d ((pp3.toInt64) * (pp4.toInt64))) (4620693217682128896 : UInt64))), (.double (FP.dmul (FP.dmul (FP.l2d (pp3.toInt64)) (FP.l2d (pp4.toInt64))) (4620693217682128896 : UInt64)))])) _
    refine XS.dcmpS X8.here hx rfl (hb hby at_101) rfl (v := (0 : Int32)) (own_same _ _) ?_
    show Steps p.tables e below (T8.setTop (mkF m 102 #[.val (.long qq1), .second, .val (.long qq2), .second, .val (.int pp3), .val (.int pp4), .val (.ref bx_1), .val (.long lg), .second, .val (.double (FP.l2d qq1)), .second, .val (.double (FP.l2d qq2)), .second, .val (.double (FP.dmul (FP.dmul (FP.l2d qq1) (FP.l2d qq2)) (4620693217682128896 : UInt64))), .second, .val (.ref bx_7), .val (.long ((pp3.toInt64) * (pp4.toInt64))), .second, .val (.double (FP.dmul (FP.l2d ((pp3.toInt64) * (pp4.toInt64))) (4620693217682128896 : UInt64))), .second, .unset, .unset] [(.int (0 : Int32))])) _
    refine XS.ifYes X8.here hx rfl (pc0 := 102) (pc' := 107) rfl (hb hby at_102) rfl ((if0 _ _).trans (teq hc102).1) (by decide) (by decide) ?_
    exact kt)
  obtain ⟨lh, T10, L10, h_lh, X10, e10, N10, pre10⟩ : ∃ (lh : Int64) (T' : State) (L' : List Loc), (lh = (if (0 : Int64) < (pp3.toInt64) then (pp4.toInt64) else (0 : Int64))) ∧ Stand p l e room_1 s m #[(.long qq1), (.long qq2), (.int pp3), (.int pp4)] below meth c T' L' 2 4 ∧ T'.heap = T7.heap ∧ Fr n0 L' ∧ ∀ t, Steps p.tables e below (T'.setTop (mkF m 119 #[.val (.long qq1), .second, .val (.long qq2), .second, .val (.int pp3), .val (.int pp4), .val (.ref bx_1), .val (.long lg), .second, .val (.double (FP.l2d qq1)), .second, .val (.double (FP.l2d qq2)), .second, .val (.double (FP.dmul (FP.dmul (FP.l2d qq1) (FP.l2d qq2)) (4620693217682128896 : UInt64))), .second, .val (.ref bx_7), .val (.long ((pp3.toInt64) * (pp4.toInt64))), .second, .val (.double (FP.dmul (FP.l2d ((pp3.toInt64) * (pp4.toInt64))) (4620693217682128896 : UInt64))), .second, .unset, .unset] [(.long lh)])) t → Steps p.tables e below (s₁.setTop (entryFrame m #[(.long qq1), (.long qq2), (.int pp3), (.int pp4)] maxLocals)) t := by
    have pre11 : ∀ t, Steps p.tables e below (T8.setTop (mkF m 109 #[.val (.long qq1), .second, .val (.long qq2), .second, .val (.int pp3), .val (.int pp4), .val (.ref bx_1), .val (.long lg), .second, .val (.double (FP.l2d qq1)), .second, .val (.double (FP.l2d qq2)), .second, .val (.double (FP.dmul (FP.dmul (FP.l2d qq1) (FP.l2d qq2)) (4620693217682128896 : UInt64))), .second, .val (.ref bx_7), .val (.long ((pp3.toInt64) * (pp4.toInt64))), .second, .val (.double (FP.dmul (FP.l2d ((pp3.toInt64) * (pp4.toInt64))) (4620693217682128896 : UInt64))), .second, .unset, .unset] [(.int pp3)])) t → Steps p.tables e below (s₁.setTop (entryFrame m #[(.long qq1), (.long qq2), (.int pp3), (.int pp4)] maxLocals)) t := fun t kt => pre9 t (by
      show Steps p.tables e below (T8.setTop (mkF m 107 #[.val (.long qq1), .second, .val (.long qq2), .second, .val (.int pp3), .val (.int pp4), .val (.ref bx_1), .val (.long lg), .second, .val (.double (FP.l2d qq1)), .second, .val (.double (FP.l2d qq2)), .second, .val (.double (FP.dmul (FP.dmul (FP.l2d qq1) (FP.l2d qq2)) (4620693217682128896 : UInt64))), .second, .val (.ref bx_7), .val (.long ((pp3.toInt64) * (pp4.toInt64))), .second, .val (.double (FP.dmul (FP.l2d ((pp3.toInt64) * (pp4.toInt64))) (4620693217682128896 : UInt64))), .second, .unset, .unset] [])) _
      refine XS.iload X8.here hx rfl (hb hby at_107) rfl ?_
      exact kt)
    by_cases hc109 : (0 : Int32) < pp3
    · skip
      exact ⟨(pp4.toInt64), _, _, (by first | rw [if_pos ((own_pos _).mpr hc109)] | rw [if_neg (mt (own_pos _).mp hc109)]), X8, e8, N8, fun t kt => pre11 t (by
          show Steps p.tables e below (T8.setTop (mkF m 109 #[.val (.long qq1), .second, .val (.long qq2), .second, .val (.int pp3), .val (.int pp4), .val (.ref bx_1), .val (.long lg), .second, .val (.double (FP.l2d qq1)), .second, .val (.double (FP.l2d qq2)), .second, .val (.double (FP.dmul (FP.dmul (FP.l2d qq1) (FP.l2d qq2)) (4620693217682128896 : UInt64))), .second, .val (.ref bx_7), .val (.long ((pp3.toInt64) * (pp4.toInt64))), .second, .val (.double (FP.dmul (FP.l2d ((pp3.toInt64) * (pp4.toInt64))) (4620693217682128896 : UInt64))), .second, .unset, .unset] [(.int pp3)])) _
          refine XS.ifNo X8.here hx rfl (hb hby at_109) rfl ((if0 _ _).trans (tlt hc109).2.2.2) ?_
          show Steps p.tables e below (T8.setTop (mkF m 112 #[.val (.long qq1), .second, .val (.long qq2), .second, .val (.int pp3), .val (.int pp4), .val (.ref bx_1), .val (.long lg), .second, .val (.double (FP.l2d qq1)), .second, .val (.double (FP.l2d qq2)), .second, .val (.double (FP.dmul (FP.dmul (FP.l2d qq1) (FP.l2d qq2)) (4620693217682128896 : UInt64))), .second, .val (.ref bx_7), .val (.long ((pp3.toInt64) * (pp4.toInt64))), .second, .val (.double (FP.dmul (FP.l2d ((pp3.toInt64) * (pp4.toInt64))) (4620693217682128896 : UInt64))), .second, .unset, .unset] [])) _
          refine XS.iload X8.here hx rfl (hb hby at_112) rfl ?_
          show Steps p.tables e below (T8.setTop (mkF m 114 #[.val (.long qq1), .second, .val (.long qq2), .second, .val (.int pp3), .val (.int pp4), .val (.ref bx_1), .val (.long lg), .second, .val (.double (FP.l2d qq1)), .second, .val (.double (FP.l2d qq2)), .second, .val (.double (FP.dmul (FP.dmul (FP.l2d qq1) (FP.l2d qq2)) (4620693217682128896 : UInt64))), .second, .val (.ref bx_7), .val (.long ((pp3.toInt64) * (pp4.toInt64))), .second, .val (.double (FP.dmul (FP.l2d ((pp3.toInt64) * (pp4.toInt64))) (4620693217682128896 : UInt64))), .second, .unset, .unset] [(.int pp4)])) _
          refine XS.i2l X8.here hx rfl (hb hby at_114) rfl ?_
          show Steps p.tables e below (T8.setTop (mkF m 115 #[.val (.long qq1), .second, .val (.long qq2), .second, .val (.int pp3), .val (.int pp4), .val (.ref bx_1), .val (.long lg), .second, .val (.double (FP.l2d qq1)), .second, .val (.double (FP.l2d qq2)), .second, .val (.double (FP.dmul (FP.dmul (FP.l2d qq1) (FP.l2d qq2)) (4620693217682128896 : UInt64))), .second, .val (.ref bx_7), .val (.long ((pp3.toInt64) * (pp4.toInt64))), .second, .val (.double (FP.dmul (FP.l2d ((pp3.toInt64) * (pp4.toInt64))) (4620693217682128896 : UInt64))), .second, .unset, .unset] [(.long (pp4.toInt64))])) _
          refine XS.goto X8.here hx rfl (pc0 := 115) (pc' := 119) rfl (hb hby at_115) (by decide) (by decide) ?_
          exact kt)⟩
    · skip
      exact ⟨(0 : Int64), _, _, (by first | rw [if_pos ((own_pos _).mpr hc109)] | rw [if_neg (mt (own_pos _).mp hc109)]), X8, e8, N8, fun t kt => pre11 t (by
          show Steps p.tables e below (T8.setTop (mkF m 109 #[.val (.long qq1), .second, .val (.long qq2), .second, .val (.int pp3), .val (.int pp4), .val (.ref bx_1), .val (.long lg), .second, .val (.double (FP.l2d qq1)), .second, .val (.double (FP.l2d qq2)), .second, .val (.double (FP.dmul (FP.dmul (FP.l2d qq1) (FP.l2d qq2)) (4620693217682128896 : UInt64))), .second, .val (.ref bx_7), .val (.long ((pp3.toInt64) * (pp4.toInt64))), .second, .val (.double (FP.dmul (FP.l2d ((pp3.toInt64) * (pp4.toInt64))) (4620693217682128896 : UInt64))), .second, .unset, .unset] [(.int pp3)])) _
          refine XS.ifYes X8.here hx rfl (pc0 := 109) (pc' := 118) rfl (hb hby at_109) rfl ((if0 _ _).trans (flt hc109).2.2.2) (by decide) (by decide) ?_
          show Steps p.tables e below (T8.setTop (mkF m 118 #[.val (.long qq1), .second, .val (.long qq2), .second, .val (.int pp3), .val (.int pp4), .val (.ref bx_1), .val (.long lg), .second, .val (.double (FP.l2d qq1)), .second, .val (.double (FP.l2d qq2)), .second, .val (.double (FP.dmul (FP.dmul (FP.l2d qq1) (FP.l2d qq2)) (4620693217682128896 : UInt64))), .second, .val (.ref bx_7), .val (.long ((pp3.toInt64) * (pp4.toInt64))), .second, .val (.double (FP.dmul (FP.l2d ((pp3.toInt64) * (pp4.toInt64))) (4620693217682128896 : UInt64))), .second, .unset, .unset] [])) _
          refine XS.lconst X8.here hx rfl (hb hby at_118) ?_
          exact kt)⟩
  obtain ⟨cq12, kq12, q12a, q12b, q12c⟩ := isOf hZ e10 R7_0
  obtain ⟨_, _, ⟨T12, L12, k12, n12⟩, -, X12, ⟨Lc12, hQ12, l12, y12, z12⟩, st12⟩ := X10.virtualBack hx (y := (⟨"com/example/thesaurus_rerank/thesaurusrerank/space/Footprint", "largestArray", "()J"⟩ : MethodName)) (z := (⟨"com/example/thesaurus_rerank/thesaurusrerank/space/Footprint", "largestArray", "()J"⟩ : MethodName)) hown (mvT hZ (hw _ (List.mem_of_getElem? (i := 16) rfl))) (mvT hZ (hw _ (List.mem_of_getElem? (i := 17) rfl))) (notFace_of_selects (args := #[]) (mvT hZ (hw _ (List.mem_of_getElem? (i := 19) rfl)))) (mvT hZ (hw _ (List.mem_of_getElem? (i := 19) rfl))) (mvT hZ (hw _ (List.mem_of_getElem? (i := 18) rfl))) (by decide) (backOf (W := 0) (rm4 l Z a0 hw [] bx_7 (if (0 : Int64) < (pp3.toInt64) then (pp4.toInt64) else (0 : Int64)) T7.heap n0 Z7 R7_2) hZ (hw _ (List.mem_of_getElem? (i := 20) rfl)) (hw _ (List.mem_of_getElem? (i := 2) rfl)) (by decide) (by decide)) q12a q12c (g := (mkF m 123 #[.val (.long qq1), .second, .val (.long qq2), .second, .val (.int pp3), .val (.int pp4), .val (.ref bx_1), .val (.long lg), .second, .val (.double (FP.l2d qq1)), .second, .val (.double (FP.l2d qq2)), .second, .val (.double (FP.dmul (FP.dmul (FP.l2d qq1) (FP.l2d qq2)) (4620693217682128896 : UInt64))), .second, .val (.ref bx_7), .val (.long ((pp3.toInt64) * (pp4.toInt64))), .second, .val (.double (FP.dmul (FP.l2d ((pp3.toInt64) * (pp4.toInt64))) (4620693217682128896 : UInt64))), .second, .val (.long lh), .second] [(.ref bx_7)])) rfl (by rw [hml]; rfl) (Steps.refl _) (argsL := []) (rest := []) (lenOf pd__28__29_J rfl) rfl (by show 2 * 0 + _ ≤ _; exact Nat.le_of_eq rfl) (hb hby at_123) (fun _ _ => ⟨rfl, e10, (by decide : 2 + 0 ≤ _), (by decide : 4 + 0 ≤ _)⟩)
  dsimp only [Pt.U, Pt.locs, Pt.cells, Pt.slots] at X12 l12 y12 z12 st12 hQ12
  subst l12 y12 z12
  obtain ⟨rfl, N12q, e12⟩ := hQ12
  have N12 := Fr.app N10 N12q
  have hc129 : (if (0 : Int64) < (pp3.toInt64) then (pp4.toInt64) else (0 : Int64)) = lh := h_lh.symm
  obtain ⟨fs, hr, hrun, hended, hW, hsame⟩ := X12.leave (v := some (.int (1 : Int32))) (fun h => by rw [Bd.returns] at h; cases h)
  refine ⟨_, _, pre10 _ ?_, hrun, hended, _, _, rfl, ?_, ⟨_, rfl⟩, hW, hsame.mono (by decide) (by decide)⟩
  · show Steps p.tables e below (T10.setTop (mkF m 119 #[.val (.long qq1), .second, .val (.long qq2), .second, .val (.int pp3), .val (.int pp4), .val (.ref bx_1), .val (.long lg), .second, .val (.double (FP.l2d qq1)), .second, .val (.double (FP.l2d qq2)), .second, .val (.double (FP.dmul (FP.dmul (FP.l2d qq1) (FP.l2d qq2)) (4620693217682128896 : UInt64))), .second, .val (.ref bx_7), .val (.long ((pp3.toInt64) * (pp4.toInt64))), .second, .val (.double (FP.dmul (FP.l2d ((pp3.toInt64) * (pp4.toInt64))) (4620693217682128896 : UInt64))), .second, .unset, .unset] [(.long lh)])) _
    refine XS.lstore X10.here hx rfl (hb hby at_119) rfl (l' := #[.val (.long qq1), .second, .val (.long qq2), .second, .val (.int pp3), .val (.int pp4), .val (.ref bx_1), .val (.long lg), .second, .val (.double (FP.l2d qq1)), .second, .val (.double (FP.l2d qq2)), .second, .val (.double (FP.dmul (FP.dmul (FP.l2d qq1) (FP.l2d qq2)) (4620693217682128896 : UInt64))), .second, .val (.ref bx_7), .val (.long ((pp3.toInt64) * (pp4.toInt64))), .second, .val (.double (FP.dmul (FP.l2d ((pp3.toInt64) * (pp4.toInt64))) (4620693217682128896 : UInt64))), .second, .val (.long lh), .second]) rfl ?_
    show Steps p.tables e below (T10.setTop (mkF m 121 #[.val (.long qq1), .second, .val (.long qq2), .second, .val (.int pp3), .val (.int pp4), .val (.ref bx_1), .val (.long lg), .second, .val (.double (FP.l2d qq1)), .second, .val (.double (FP.l2d qq2)), .second, .val (.double (FP.dmul (FP.dmul (FP.l2d qq1) (FP.l2d qq2)) (4620693217682128896 : UInt64))), .second, .val (.ref bx_7), .val (.long ((pp3.toInt64) * (pp4.toInt64))), .second, .val (.double (FP.dmul (FP.l2d ((pp3.toInt64) * (pp4.toInt64))) (4620693217682128896 : UInt64))), .second, .val (.long lh), .second] [])) _
    refine XS.aload X10.here hx rfl (hb hby at_121) rfl rfl ?_
    show Steps p.tables e below (T10.setTop (mkF m 123 #[.val (.long qq1), .second, .val (.long qq2), .second, .val (.int pp3), .val (.int pp4), .val (.ref bx_1), .val (.long lg), .second, .val (.double (FP.l2d qq1)), .second, .val (.double (FP.l2d qq2)), .second, .val (.double (FP.dmul (FP.dmul (FP.l2d qq1) (FP.l2d qq2)) (4620693217682128896 : UInt64))), .second, .val (.ref bx_7), .val (.long ((pp3.toInt64) * (pp4.toInt64))), .second, .val (.double (FP.dmul (FP.l2d ((pp3.toInt64) * (pp4.toInt64))) (4620693217682128896 : UInt64))), .second, .val (.long lh), .second] [(.ref bx_7)])) _
    refine st12.trans ?_
    show Steps p.tables e below (T12.setTop (mkF m 126 #[.val (.long qq1), .second, .val (.long qq2), .second, .val (.int pp3), .val (.int pp4), .val (.ref bx_1), .val (.long lg), .second, .val (.double (FP.l2d qq1)), .second, .val (.double (FP.l2d qq2)), .second, .val (.double (FP.dmul (FP.dmul (FP.l2d qq1) (FP.l2d qq2)) (4620693217682128896 : UInt64))), .second, .val (.ref bx_7), .val (.long ((pp3.toInt64) * (pp4.toInt64))), .second, .val (.double (FP.dmul (FP.l2d ((pp3.toInt64) * (pp4.toInt64))) (4620693217682128896 : UInt64))), .second, .val (.long lh), .second] [(.long (if (0 : Int64) < (pp3.toInt64) then (pp4.toInt64) else (0 : Int64)))])) _
    refine XS.lload X12.here hx rfl (hb hby at_126) rfl ?_
    show Steps p.tables e below (T12.setTop (mkF m 128 #[.val (.long qq1), .second, .val (.long qq2), .second, .val (.int pp3), .val (.int pp4), .val (.ref bx_1), .val (.long lg), .second, .val (.double (FP.l2d qq1)), .second, .val (.double (FP.l2d qq2)), .second, .val (.double (FP.dmul (FP.dmul (FP.l2d qq1) (FP.l2d qq2)) (4620693217682128896 : UInt64))), .second, .val (.ref bx_7), .val (.long ((pp3.toInt64) * (pp4.toInt64))), .second, .val (.double (FP.dmul (FP.l2d ((pp3.toInt64) * (pp4.toInt64))) (4620693217682128896 : UInt64))), .second, .val (.long lh), .second] [(.long lh), (.long (if (0 : Int64) < (pp3.toInt64) then (pp4.toInt64) else (0 : Int64)))])) _
    refine XS.lcmp X12.here hx rfl (hb hby at_128) rfl ?_
    show Steps p.tables e below (T12.setTop (mkF m 129 #[.val (.long qq1), .second, .val (.long qq2), .second, .val (.int pp3), .val (.int pp4), .val (.ref bx_1), .val (.long lg), .second, .val (.double (FP.l2d qq1)), .second, .val (.double (FP.l2d qq2)), .second, .val (.double (FP.dmul (FP.dmul (FP.l2d qq1) (FP.l2d qq2)) (4620693217682128896 : UInt64))), .second, .val (.ref bx_7), .val (.long ((pp3.toInt64) * (pp4.toInt64))), .second, .val (.double (FP.dmul (FP.l2d ((pp3.toInt64) * (pp4.toInt64))) (4620693217682128896 : UInt64))), .second, .val (.long lh), .second] [(.int (lcmpW (if (0 : Int64) < (pp3.toInt64) then (pp4.toInt64) else (0 : Int64)) lh))])) _
    refine XS.ifNo X12.here hx rfl (hb hby at_129) rfl ((if0 _ _).trans (teq ((lw_eq _ _).mpr hc129)).2) ?_
    show Steps p.tables e below (T12.setTop (mkF m 132 #[.val (.long qq1), .second, .val (.long qq2), .second, .val (.int pp3), .val (.int pp4), .val (.ref bx_1), .val (.long lg), .second, .val (.double (FP.l2d qq1)), .second, .val (.double (FP.l2d qq2)), .second, .val (.double (FP.dmul (FP.dmul (FP.l2d qq1) (FP.l2d qq2)) (4620693217682128896 : UInt64))), .second, .val (.ref bx_7), .val (.long ((pp3.toInt64) * (pp4.toInt64))), .second, .val (.double (FP.dmul (FP.l2d ((pp3.toInt64) * (pp4.toInt64))) (4620693217682128896 : UInt64))), .second, .val (.long lh), .second] [])) _
    refine XS.iconst X12.here hx rfl (hb hby at_132) ?_
    show Steps p.tables e below (T12.setTop (mkF m 133 #[.val (.long qq1), .second, .val (.long qq2), .second, .val (.int pp3), .val (.int pp4), .val (.ref bx_1), .val (.long lg), .second, .val (.double (FP.l2d qq1)), .second, .val (.double (FP.l2d qq2)), .second, .val (.double (FP.dmul (FP.dmul (FP.l2d qq1) (FP.l2d qq2)) (4620693217682128896 : UInt64))), .second, .val (.ref bx_7), .val (.long ((pp3.toInt64) * (pp4.toInt64))), .second, .val (.double (FP.dmul (FP.l2d ((pp3.toInt64) * (pp4.toInt64))) (4620693217682128896 : UInt64))), .second, .val (.long lh), .second] [(.int (1 : Int32))])) _
    refine XS.goto X12.here hx rfl (pc0 := 133) (pc' := 137) rfl (hb hby at_133) (by decide) (by decide) ?_
    show Steps p.tables e below (T12.setTop (mkF m 137 #[.val (.long qq1), .second, .val (.long qq2), .second, .val (.int pp3), .val (.int pp4), .val (.ref bx_1), .val (.long lg), .second, .val (.double (FP.l2d qq1)), .second, .val (.double (FP.l2d qq2)), .second, .val (.double (FP.dmul (FP.dmul (FP.l2d qq1) (FP.l2d qq2)) (4620693217682128896 : UInt64))), .second, .val (.ref bx_7), .val (.long ((pp3.toInt64) * (pp4.toInt64))), .second, .val (.double (FP.dmul (FP.l2d ((pp3.toInt64) * (pp4.toInt64))) (4620693217682128896 : UInt64))), .second, .val (.long lh), .second] [(.int (1 : Int32))])) _
    exact retN X12 hx (t := .boolean) Bd.returns (by simp) (hb hby at_137) hr
  · show Q0 Z qq1 qq2 pp3 pp4 h0 n0 _ T12.heap _
    rw [e12]
    exact ⟨rfl, N12⟩
set_option maxRecDepth 65536 in
set_option maxHeartbeats 40000000 in
theorem comes_1 {Post : Tables → Env → Array Value → State → Outcome → State → Prop} (hpost : ∀ tb e args s v u, (limb_1_1.after args s (.returned v) u = true ∧ limb_1_2.after args s (.returned v) u = true ∧ True) → FrameEnd s (.returned v) u (Jvm.fieldLocs frame_1_writes args s ++ Jvm.arrayLocs frame_1_arrays args s ++ Jvm.staticLocs frame_1_statics s) 16 128 → Post tb e args s (.returned v) u) :
    ArmFor flags0 classFile x code maxLocals ret World_1 tables_1 room_1 Calls_1 rest_1 Pre_1 Post := by
  intro l hfl _ _ p e ha hc hk s m args below hf hA hF happ hP
  obtain ⟨hcalls, hrest, hpre⟩ := hP
  obtain ⟨-, -, -, hnamed, -, -, -, hat⟩ := (Spec.applies_iff hf).mp happ
  obtain ⟨hg, hn⟩ := and_e (Cond.before_iff.mp (show (Jvm.Cond.and given_1 narrow_1).before args s = true from hpre))
  obtain ⟨g1, g2⟩ := and_e hg
  obtain ⟨g3, g4⟩ := and_e g2
  obtain ⟨g5, g6⟩ := and_e g4
  obtain ⟨g7, g8⟩ := and_e g6
  obtain ⟨w0, w1, w2, w3, rfl⟩ : ∃ w0 w1 w2 w3 : Value, args = #[w0, w1, w2, w3] := by
    have hs : args.size = 4 := by simpa [Cond.value, given_1] using g1
    obtain ⟨L⟩ := args
    match L, hs with
    | [w0, w1, w2, w3], _ => exact ⟨w0, w1, w2, w3, rfl⟩
  have hw := fun d (hd : d ∈ tables_1) => atoms_spec (ws := Jvm.Cond.code x code maxLocals ret :: tables_1) hat d (List.mem_cons_of_mem _ hd)
  have hfit : Fit s := fun {y c} hc i hi => by
    obtain ⟨ha, rfl⟩ := Array.getElem?_eq_some_iff.mp hc
    have q := List.all_eq_true.mp ((Array.all_eq_true_iff_forall_mem.mp hF) _ (Array.getElem_mem ha)) i (List.mem_range.mpr hi)
    simpa [Array.getElem?_eq_getElem hi] using q
  obtain ⟨i0, ei0⟩ := isL_v g3
  obtain rfl : w0 = (.long i0) := Option.some.inj ei0
  obtain ⟨i1, ei1⟩ := isL_v g5
  obtain rfl : w1 = (.long i1) := Option.some.inj ei1
  obtain ⟨i2, ei2⟩ := is_v g7
  obtain rfl : w2 = (.int i2) := Option.some.inj ei2
  obtain ⟨i3, ei3⟩ := is_v g8
  obtain rfl : w3 = (.int i3) := Option.some.inj ei3
  obtain ⟨n, o, h1, h2, h3, _, L, rfl, ⟨rfl, N⟩, hq⟩ := rm0 l s _ hw tables_1 i0 i1 i2 i3 s.heap s.heap.size (Nat.le_refl _)  p e ha hc hk s m _ below hf ((Spec.applies_iff_loose hf).mp happ).1 ⟨rfl, State.Warmed39.refl s, rfl⟩ trivial
  refine ⟨n, _, h1, h2, h3, hpost _ _ _ _ _ _ ⟨Cond.after_iff.mpr rfl, Cond.after_iff.mpr (eq_i res_at (Term.int_eval (1)) rfl), trivial⟩ ⟨hq.1, hq.2.1, (hq.2.2.sift fun y hy => Or.inr (N y hy)).mono (by decide) (by decide)⟩⟩
theorem main_1_1 : Claimed_1_1 := comes_1 fun _ _ _ _ _ _ h hF => ⟨h.1, hF⟩
theorem main_1_2 : Claimed_1_2 := comes_1 fun _ _ _ _ _ _ h hF => ⟨h.2.1, hF⟩
end Jvm.Pilot.@@N@@
namespace Jvm.Pilot.@@N@@
open Jvm Jvm.ClassFile Sem Op Lib Jvm.Free Jvm.Stand Jvm.Pilot.@@N@@.Jvm.D
/-! MADE BY PROGRAM (witnessworld.py) out of the Statement's table words and the real class files: 9 classes; the members and pool entries that the words name. The judged class is class 1, her method 1. -/
namespace start1
open Jvm.ClassFile
def u (s : String) : CpInfo := .utf8 (stringToUtf16 s)
/-- a pool by its gaps: so many unusable entries, then the entry; so many at the end -/
def gap : Nat → List CpInfo → List CpInfo
  | 0, r => r
  | n + 1, r => .unusable :: gap n r
def poolList (es : List (Nat × CpInfo)) (last : Nat) : List CpInfo := es.foldr (fun e r => gap e.1 (e.2 :: r)) (gap last [])
def pool (es : List (Nat × CpInfo)) (last : Nat) : Array CpInfo := ⟨poolList es last⟩
def fileOf (pool : Array CpInfo) (this : Nat) (attrs : Array Attribute := #[]) (ms : Array MethodInfo := #[]) (fl : Nat := 33) (sup : Nat := 0) (ifs : Array Nat := #[]) (fds : Array FieldInfo := #[]) : ClassFile where
  minorVersion := 0
  majorVersion := 65
  constantPool := pool
  accessFlags := fl
  thisClass := this
  superClass := sup
  interfaces := ifs
  fields := fds
  methods := ms
  attributes := attrs
def plain (name : String) (sup : Option ClassId) : Class where
  name := name
  kind := .ordinary
  loader := none
  accessFlags := 33
  super := sup
  interfaces := #[]
  cf := none
  fields := #[]
  methods := #[]
  instanceTypes := #[]
  staticTypes := #[]
  resolved := #[]
  callSites := []
  init := .initialized
  statics := none
  mirror := none

def pool0 : Array CpInfo := pool [(5, u "<init>"), (0, u "()V"), (1, .class_ 10), (1, u "java/lang/Object")] 113

def k0c0 : Code := { maxStack := 0, maxLocals := 1, code := object_method_1_code, exceptionTable := #[], attributes := #[] }
def k0m0 : Method := { name := "<init>", desc := "()V", sig := { parameters := [], returnType := none }, accessFlags := 1, code := some k0c0 }
/-- java/lang/Object -/
def k0 : Class := { plain "java/lang/Object" none with
  accessFlags := 33
  interfaces := #[]
  cf := some (fileOf pool0 8 #[] #[{ accessFlags := 1, nameIndex := 5, descriptorIndex := 6, attributes := #[] }] 33 0 #[] #[])
  fields := #[]
  methods := #[k0m0]
  instanceTypes := #[]
  staticTypes := #[]
  resolved := Array.replicate 124 none
  statics := none }

def pool1 : Array CpInfo := pool [(2, .class_ 4), (1, u "java/lang/Object"), (0, u "<init>"), (0, u "()V"), (0, .methodref 8 9), (0, .class_ 10), (0, .nameAndType 11 12), (0, u "com/example/thesaurus_rerank/thesaurusrerank/space/Footprint"), (0, u "arrays"), (0, u "(JJ)Lcom/example/thesaurus_rerank/thesaurusrerank/space/Footprint;"), (0, .methodref 8 14), (0, .nameAndType 15 16), (0, u "largestArray"), (0, u "()J"), (0, .double 4620693217682128896), (1, .methodref 8 20), (0, .nameAndType 21 22), (0, u "bytes"), (0, u "()D"), (0, .class_ 24), (0, u "com/example/thesaurus_rerank/thesaurusrerank/space/FootprintArraysPinLaw"), (2, u "law"), (0, u "(JJII)Z")] 3

def k1m0 : Method := { name := "<init>", desc := "()V", sig := { parameters := [], returnType := none }, accessFlags := 1, code := none }
def k1c1 : Code := { maxStack := 4, maxLocals := 22, code := code, exceptionTable := #[], attributes := #[] }
def k1m1 : Method := { name := "law", desc := "(JJII)Z", sig := { parameters := [.long, .long, .int, .int], returnType := some .boolean }, accessFlags := 9, code := some k1c1 }
/-- com/example/thesaurus_rerank/thesaurusrerank/space/FootprintArraysPinLaw -/
def k1 : Class := { plain "com/example/thesaurus_rerank/thesaurusrerank/space/FootprintArraysPinLaw" (some 0) with
  accessFlags := 49
  interfaces := #[]
  cf := some (fileOf pool1 23 #[] #[{ accessFlags := 1, nameIndex := 5, descriptorIndex := 6, attributes := #[] }, { accessFlags := 9, nameIndex := 27, descriptorIndex := 28, attributes := #[] }] 49 2 #[] #[])
  fields := #[]
  methods := #[k1m0, k1m1]
  instanceTypes := #[]
  staticTypes := #[]
  resolved := Array.replicate 32 none
  statics := none }

def pool2 : Array CpInfo := pool [(3, .methodref 4 5), (0, .class_ 6), (0, .nameAndType 7 8), (0, u "java/lang/Object"), (0, u "<init>"), (0, u "()V"), (0, .fieldref 10 11), (0, .class_ 12), (0, .nameAndType 13 14), (0, u "com/example/thesaurus_rerank/thesaurusrerank/space/Footprint"), (0, u "numbers"), (0, u "D"), (0, .fieldref 10 16), (0, .nameAndType 17 18), (0, u "largestArray"), (0, u "J"), (0, .methodref 10 20), (0, .nameAndType 7 21), (0, u "(DJ)V"), (11, .double 4620693217682128896), (3, u "NONE"), (0, u "Lcom/example/thesaurus_rerank/thesaurusrerank/space/Footprint;"), (0, u "MOST_ARRAY_LENGTH"), (6, u "(JJ)Lcom/example/thesaurus_rerank/thesaurusrerank/space/Footprint;"), (0, u "arrays"), (6, u "bytes"), (0, u "()D"), (0, u "()J")] 3

def k2c0 : Code := { maxStack := 3, maxLocals := 5, code := prog_18_method_1_code, exceptionTable := #[], attributes := #[] }
def k2m0 : Method := { name := "<init>", desc := "(DJ)V", sig := { parameters := [.double, .long], returnType := none }, accessFlags := 2, code := some k2c0 }
def k2c1 : Code := { maxStack := 8, maxLocals := 4, code := prog_18_method_3_code, exceptionTable := #[], attributes := #[] }
def k2m1 : Method := { name := "arrays", desc := "(JJ)Lcom/example/thesaurus_rerank/thesaurusrerank/space/Footprint;", sig := { parameters := [.long, .long], returnType := some (.object "com/example/thesaurus_rerank/thesaurusrerank/space/Footprint") }, accessFlags := 8, code := some k2c1 }
def k2c2 : Code := { maxStack := 4, maxLocals := 1, code := prog_18_method_7_code, exceptionTable := #[], attributes := #[] }
def k2m2 : Method := { name := "bytes", desc := "()D", sig := { parameters := [], returnType := some .double }, accessFlags := 0, code := some k2c2 }
def k2c3 : Code := { maxStack := 2, maxLocals := 1, code := prog_18_method_8_code, exceptionTable := #[], attributes := #[] }
def k2m3 : Method := { name := "largestArray", desc := "()J", sig := { parameters := [], returnType := some .long }, accessFlags := 0, code := some k2c3 }
/-- com/example/thesaurus_rerank/thesaurusrerank/space/Footprint -/
def k2 : Class := { plain "com/example/thesaurus_rerank/thesaurusrerank/space/Footprint" (some 0) with
  accessFlags := 48
  interfaces := #[]
  cf := some (fileOf pool2 10 #[] #[{ accessFlags := 2, nameIndex := 7, descriptorIndex := 21, attributes := #[] }, { accessFlags := 8, nameIndex := 47, descriptorIndex := 46, attributes := #[] }, { accessFlags := 0, nameIndex := 54, descriptorIndex := 55, attributes := #[] }, { accessFlags := 0, nameIndex := 17, descriptorIndex := 56, attributes := #[] }] 48 4 #[] #[{ accessFlags := 24, nameIndex := 37, descriptorIndex := 38, attributes := #[] }, { accessFlags := 24, nameIndex := 39, descriptorIndex := 18, attributes := #[] }, { accessFlags := 18, nameIndex := 13, descriptorIndex := 14, attributes := #[] }, { accessFlags := 18, nameIndex := 17, descriptorIndex := 18, attributes := #[] }])
  fields := #[{ name := "NONE", type := (.object "com/example/thesaurus_rerank/thesaurusrerank/space/Footprint"), accessFlags := 24, slot := 0, constantValue := 0 }, { name := "MOST_ARRAY_LENGTH", type := .long, accessFlags := 24, slot := 1, constantValue := 0 }, { name := "numbers", type := .double, accessFlags := 18, slot := 0, constantValue := 0 }, { name := "largestArray", type := .long, accessFlags := 18, slot := 1, constantValue := 0 }]
  methods := #[k2m0, k2m1, k2m2, k2m3]
  instanceTypes := #[.double, .long]
  staticTypes := #[(.object "com/example/thesaurus_rerank/thesaurusrerank/space/Footprint"), .long]
  resolved := Array.replicate 60 none
  statics := none }

def pool3 : Array CpInfo := pool [(1, u "java/lang/Cloneable"), (0, .class_ 1), (0, u "java/lang/Object"), (0, .class_ 3)] 3

/-- java/lang/Cloneable -/
def k3 : Class := { plain "java/lang/Cloneable" (some 0) with
  accessFlags := 1537
  interfaces := #[]
  cf := some (fileOf pool3 2 #[] #[] 1537 4 #[] #[])
  fields := #[]
  methods := #[]
  instanceTypes := #[]
  staticTypes := #[]
  resolved := Array.replicate 8 none
  statics := none }

def pool4 : Array CpInfo := pool [(1, u "java/io/Serializable"), (0, .class_ 1), (0, u "java/lang/Object"), (0, .class_ 3)] 3

/-- java/io/Serializable -/
def k4 : Class := { plain "java/io/Serializable" (some 0) with
  accessFlags := 1537
  interfaces := #[]
  cf := some (fileOf pool4 2 #[] #[] 1537 4 #[] #[])
  fields := #[]
  methods := #[]
  instanceTypes := #[]
  staticTypes := #[]
  resolved := Array.replicate 8 none
  statics := none }

/-- the primitive byte -/
def k5 : Class := { plain "byte" none with kind := .primitive 'B', accessFlags := 0x411 }
/-- [B -/
def k6 : Class := { plain "[B" (some 0) with kind := .array 5 .byte, interfaces := #[3, 4], accessFlags := 1041 }

/-- the primitive int -/
def k7 : Class := { plain "int" none with kind := .primitive 'I', accessFlags := 0x411 }
/-- [I -/
def k8 : Class := { plain "[I" (some 0) with kind := .array 7 .int, interfaces := #[3, 4], accessFlags := 1041 }

def heap : Heap := #[]
def classes : Array Class := #[k0, k1, k2, k3, k4, k5, k6, k7, k8]
def interned : List (Array UInt16 × Addr) := []
def slotsUsed : Nat := 0
def theMethod : MethodId := ⟨1, 1⟩
def args0 : Array Value := #[.long 3, .long 5, .int 7, .int 9]
def aboutOver (below : List Frame) : State where
  vm := { classes := classes, interned := interned.toArray }
  heap := heap
  slotsUsed := slotsUsed
  threads := #[{ frames := .invoking theMethod args0 :: below }]
def below0 : List Frame := [.native { method := ⟨0, 0⟩, args := #[] }]
def about1 : State := aboutOver below0
def p0 : Program := .bare "" "" ""
def e0 : Env := launch0.env 0 0 0
theorem w_frames : about1.frames = Frame.invoking theMethod args0 :: below0 := rfl
set_option maxRecDepth 65536 in
theorem w_args : argsFit about1.vm theMethod args0 = true := by decide +kernel
set_option maxRecDepth 65536 in
theorem w_heap : heapFits about1 = true := by decide +kernel
set_option maxRecDepth 65536 in
theorem w_runnable : about1.curStatus? = some .runnable := by decide +kernel
set_option maxRecDepth 65536 in
theorem w_alone : about1.alone = true := by decide +kernel
set_option maxRecDepth 65536 in
theorem w_named : about1.methodNamed? x = some theMethod := by decide +kernel
set_option maxRecDepth 65536 in
theorem w_hears : about1.hears theMethod below0 = true := by decide +kernel
set_option maxRecDepth 65536 in
theorem w_ripe : about1.ripe theMethod args0 below0 = true := by decide +kernel
theorem w_running : about1.status = .running := rfl
set_option maxRecDepth 65536 in
theorem w_room : about1.hasRoom e0.platform room_1 = true :=
  launch0.hasRoom_least _ room_1 (by decide +kernel) (by decide +kernel) (by decide +kernel) (by decide +kernel) (by decide +kernel) (by decide +kernel)
theorem allAtoms_all (ts : List Jvm.Cond) (a : Array Jvm.Value) (st : Jvm.State) : (allAtoms ts).before a st = ts.all (fun c => c.before a st) := by
  induction ts with
  | nil => rfl
  | cons c t ih =>
    show (Jvm.Cond.and c (allAtoms t)).before a st = _
    rw [Jvm.Cond.before_and, ih, List.all_cons]
def words1 : List Jvm.Cond := Jvm.Cond.code x code maxLocals ret :: tables_1
/-- a 'code' word, met by the world's own term for the bytes: nothing is compared byte by byte -/
theorem code_word {y : MethodName} {bytes : ByteArray} {mx : Nat} {rt : Option FieldType} {a : Array Value} {s : State} {m : MethodId} {meth : Method} {c : Code} (h1 : s.methodNamed? y = some m) (h2 : s.vm.method? m = some meth) (h3 : meth.code = some c) (h4 : c.code = bytes)
    (h5 : (c.maxLocals == mx && c.exceptionTable.isEmpty && decide (c.maxStack ≤ mostOperands) && decide (meth.sig.returnType = rt) && !meth.locks && decide (parseMethodDescriptor y.desc = some meth.sig)) = true) : (Jvm.Cond.code y bytes mx rt).before a s = true := by
  simp only [Bool.and_eq_true, beq_iff_eq, Bool.not_eq_true', decide_eq_true_eq] at h5
  obtain ⟨⟨⟨⟨⟨g1, g2⟩, g3⟩, g4⟩, g5⟩, g6⟩ := h5
  simp [Cond.before, Cond.holds, Cond.value, h1, h2, h3, h4, g1, g2, g3, g4, g5, g6]
def isCode : Jvm.Cond → Bool
  | .code _ _ _ _ => true
  | _ => false
theorem all_split {L : List Jvm.Cond} {P : Jvm.Cond → Bool} (h1 : L.all (fun c => isCode c || P c) = true) (h2 : ∀ c ∈ L.filter isCode, P c = true) : L.all P = true := by
  refine List.all_eq_true.mpr fun c hc => ?_
  have h := List.all_eq_true.mp h1 c hc
  rcases Bool.eq_false_or_eq_true (isCode c) with hi | hi
  · exact h2 c (List.mem_filter.mpr ⟨hc, hi⟩)
  · simpa [hi] using h
set_option maxRecDepth 65536 in
theorem w_c0 : (Jvm.Cond.code x code maxLocals ret).before args0 about1 = true := code_word (m := ⟨1, 1⟩) (meth := k1m1) (c := k1c1) (by decide +kernel) rfl rfl rfl (by decide +kernel)
set_option maxRecDepth 65536 in
theorem w_c1 : (Jvm.Cond.code ({ cls := "com/example/thesaurus_rerank/thesaurusrerank/space/Footprint", name := "arrays", desc := "(JJ)Lcom/example/thesaurus_rerank/thesaurusrerank/space/Footprint;" } : Jvm.MethodName) prog_18_method_3_code (4 : Nat) (Option.some (Jvm.ClassFile.FieldType.object "com/example/thesaurus_rerank/thesaurusrerank/space/Footprint"))).before args0 about1 = true := code_word (m := ⟨2, 1⟩) (meth := k2m1) (c := k2c1) (by decide +kernel) rfl rfl rfl (by decide +kernel)
set_option maxRecDepth 65536 in
theorem w_c2 : (Jvm.Cond.code ({ cls := "com/example/thesaurus_rerank/thesaurusrerank/space/Footprint", name := "<init>", desc := "(DJ)V" } : Jvm.MethodName) prog_18_method_1_code (5 : Nat) (Option.none : Option Jvm.ClassFile.FieldType)).before args0 about1 = true := code_word (m := ⟨2, 0⟩) (meth := k2m0) (c := k2c0) (by decide +kernel) rfl rfl rfl (by decide +kernel)
set_option maxRecDepth 65536 in
theorem w_c3 : (Jvm.Cond.code ({ cls := "java/lang/Object", name := "<init>", desc := "()V" } : Jvm.MethodName) object_method_1_code (1 : Nat) (Option.none : Option Jvm.ClassFile.FieldType)).before args0 about1 = true := code_word (m := ⟨0, 0⟩) (meth := k0m0) (c := k0c0) (by decide +kernel) rfl rfl rfl (by decide +kernel)
set_option maxRecDepth 65536 in
theorem w_c4 : (Jvm.Cond.code ({ cls := "com/example/thesaurus_rerank/thesaurusrerank/space/Footprint", name := "largestArray", desc := "()J" } : Jvm.MethodName) prog_18_method_8_code (1 : Nat) (Option.some Jvm.ClassFile.FieldType.long)).before args0 about1 = true := code_word (m := ⟨2, 3⟩) (meth := k2m3) (c := k2c3) (by decide +kernel) rfl rfl rfl (by decide +kernel)
set_option maxRecDepth 65536 in
theorem w_c5 : (Jvm.Cond.code ({ cls := "com/example/thesaurus_rerank/thesaurusrerank/space/Footprint", name := "bytes", desc := "()D" } : Jvm.MethodName) prog_18_method_7_code (1 : Nat) (Option.some Jvm.ClassFile.FieldType.double)).before args0 about1 = true := code_word (m := ⟨2, 2⟩) (meth := k2m2) (c := k2c2) (by decide +kernel) rfl rfl rfl (by decide +kernel)
def codes1 : List Jvm.Cond := [Jvm.Cond.code x code maxLocals ret, Jvm.Cond.code ({ cls := "com/example/thesaurus_rerank/thesaurusrerank/space/Footprint", name := "arrays", desc := "(JJ)Lcom/example/thesaurus_rerank/thesaurusrerank/space/Footprint;" } : Jvm.MethodName) prog_18_method_3_code (4 : Nat) (Option.some (Jvm.ClassFile.FieldType.object "com/example/thesaurus_rerank/thesaurusrerank/space/Footprint")), Jvm.Cond.code ({ cls := "com/example/thesaurus_rerank/thesaurusrerank/space/Footprint", name := "<init>", desc := "(DJ)V" } : Jvm.MethodName) prog_18_method_1_code (5 : Nat) (Option.none : Option Jvm.ClassFile.FieldType), Jvm.Cond.code ({ cls := "java/lang/Object", name := "<init>", desc := "()V" } : Jvm.MethodName) object_method_1_code (1 : Nat) (Option.none : Option Jvm.ClassFile.FieldType), Jvm.Cond.code ({ cls := "com/example/thesaurus_rerank/thesaurusrerank/space/Footprint", name := "largestArray", desc := "()J" } : Jvm.MethodName) prog_18_method_8_code (1 : Nat) (Option.some Jvm.ClassFile.FieldType.long), Jvm.Cond.code ({ cls := "com/example/thesaurus_rerank/thesaurusrerank/space/Footprint", name := "bytes", desc := "()D" } : Jvm.MethodName) prog_18_method_7_code (1 : Nat) (Option.some Jvm.ClassFile.FieldType.double)]
set_option maxRecDepth 65536 in
theorem codes_eq : words1.filter isCode = codes1 := rfl
theorem w_codes : ∀ c ∈ words1.filter isCode, c.before args0 about1 = true := by
  rw [codes_eq]
  intro c hc
  simp only [codes1, List.mem_cons, List.not_mem_nil, or_false] at hc
  rcases hc with rfl | rfl | rfl | rfl | rfl | rfl
  · exact w_c0
  · exact w_c1
  · exact w_c2
  · exact w_c3
  · exact w_c4
  · exact w_c5
set_option maxRecDepth 65536 in
theorem w_t1 : (words1.take 24).all (fun c => isCode c || c.before args0 about1) = true := by decide +kernel
set_option maxRecDepth 65536 in
theorem w_t2 : (words1.drop 24).all (fun c => isCode c || c.before args0 about1) = true := by decide +kernel
theorem w_tables : (allAtoms (Jvm.Cond.code x code maxLocals ret :: tables_1)).before args0 about1 = true := by
  rw [allAtoms_all]
  show words1.all (fun c => c.before args0 about1) = true
  refine all_split ?_ w_codes
  rw [← List.take_append_drop 24 words1, List.all_append, w_t1, w_t2]
  rfl
set_option maxRecDepth 65536 in
theorem w_case : (Jvm.Cond.and given_1 narrow_1).before args0 about1 = true := by decide +kernel
theorem w_applies : (headSpec (Jvm.Cond.code x code maxLocals ret :: tables_1) room_1).applies x e0.platform about1 = true :=
  (Spec.applies_iff w_frames).mpr ⟨w_running, w_runnable, w_alone, w_named, w_hears, w_ripe, w_room, w_tables⟩
theorem atStart : AtStart classFile x code maxLocals ret World_1 tables_1 room_1 Calls_1 rest_1 Pre_1 launch0 p0 e0 about1 theMethod args0 below0 :=
  ⟨lists_1, trivial, launch0.admits_env _ _ _, launch0.least_env, fairChoices_fair.cas, fairChoices_fair.clock, w_frames, w_args, w_heap, w_applies, trivial, trivial, w_case⟩
end start1
theorem witness_1 : WitnessClaimed_1 := ⟨start1.p0, start1.e0, start1.about1, start1.theMethod, start1.args0, start1.below0, start1.atStart⟩
end Jvm.Pilot.@@N@@
