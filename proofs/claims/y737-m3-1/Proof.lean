import JvmDerived
import JvmDerived.Pilot.@@N@@Statement
import JvmDerived.Pilot.@@N@@Code
set_option linter.unusedVariables false
set_option linter.unusedSimpArgs false
namespace Jvm.RoadKit
open Sem ClassFile Op Lib Jvm.Stand Jvm.Free Jvm.LawKit
section New
variable {p : Program} {l : Launch} {e : Env} {R : Room} {s : State} {m : MethodId} {args : Array Value} {below : List Frame} {meth : Method} {c : Code} {T : State} {locs : List Loc} {cells slots : Nat}
theorem retI (X : Stand p l e R s m args below meth c T locs cells slots) (hx : p.tables.exec = Jvm.exec) {pc : Nat} {Ls : Array Slot} {z : Int32} {rest : List Value} (hret : meth.sig.returnType = some .int) (hd : decode c.code pc = .ok (.ireturn, 1)) {fs : List Frame}
    (hl : ∀ (f : JFrame) (acts : List Action), f.method = m → f.locked = none → f.entered = [] → (doReturn e (T.setTop f) acts (some (.int z))).1 = T.setFrames fs) : Steps p.tables e below (T.setTop (mkF m pc Ls (.int z :: rest))) (T.setFrames fs) := by
  have hm' : T.vm.method? m = some meth := X.method'
  have hn : narrow .int (.int z) = .int z := rfl
  show Steps p.tables e below (T.setTop { method := m, pc := pc, locals := Ls, stack := _ :: rest, locked := none }) _
  jvm_step X.here [X.here.top, hx, hd, hm', hret, hn]
  first | (intro acts; rw [hl _ acts rfl rfl rfl]) | rw [hl _ _ rfl rfl rfl]
  exact Steps.refl _
theorem retJ (X : Stand p l e R s m args below meth c T locs cells slots) (hx : p.tables.exec = Jvm.exec) {pc : Nat} {Ls : Array Slot} {z : Int64} {rest : List Value} (hret : meth.sig.returnType = some .long) (hd : decode c.code pc = .ok (.lreturn, 1)) {fs : List Frame}
    (hl : ∀ (f : JFrame) (acts : List Action), f.method = m → f.locked = none → f.entered = [] → (doReturn e (T.setTop f) acts (some (.long z))).1 = T.setFrames fs) : Steps p.tables e below (T.setTop (mkF m pc Ls (.long z :: rest))) (T.setFrames fs) := by
  have hm' : T.vm.method? m = some meth := X.method'
  have hn : narrow .long (.long z) = .long z := rfl
  show Steps p.tables e below (T.setTop { method := m, pc := pc, locals := Ls, stack := _ :: rest, locked := none }) _
  jvm_step X.here [X.here.top, hx, hd, hm', hret, hn]
  first | (intro acts; rw [hl _ acts rfl rfl rfl]) | rw [hl _ _ rfl rfl rfl]
  exact Steps.refl _
theorem retD (X : Stand p l e R s m args below meth c T locs cells slots) (hx : p.tables.exec = Jvm.exec) {pc : Nat} {Ls : Array Slot} {z : UInt64} {rest : List Value} (hret : meth.sig.returnType = some .double) (hd : decode c.code pc = .ok (.dreturn, 1)) {fs : List Frame}
    (hl : ∀ (f : JFrame) (acts : List Action), f.method = m → f.locked = none → f.entered = [] → (doReturn e (T.setTop f) acts (some (.double z))).1 = T.setFrames fs) : Steps p.tables e below (T.setTop (mkF m pc Ls (.double z :: rest))) (T.setFrames fs) := by
  have hm' : T.vm.method? m = some meth := X.method'
  have hn : narrow .double (.double z) = .double z := rfl
  show Steps p.tables e below (T.setTop { method := m, pc := pc, locals := Ls, stack := _ :: rest, locked := none }) _
  jvm_step X.here [X.here.top, hx, hd, hm', hret, hn]
  first | (intro acts; rw [hl _ acts rfl rfl rfl]) | rw [hl _ _ rfl rfl rfl]
  exact Steps.refl _
end New
end Jvm.RoadKit
@@BLOCK:NumsL.lean.txt@@
namespace Jvm.Pilot.@@N@@
open Jvm Jvm.ClassFile Sem Op Lib Jvm.Free Jvm.Stand Jvm.LawKit Jvm.RoadKit Bundle Jvm.Pilot.@@N@@.Jvm.D
theorem own_e0 : (0 : Int32).toInt = 0 := by decide
theorem own_inI {j n : Int32} {k : Int} (hn : n.toInt = k) (h : 0 ≤ j.toInt ∧ j.toInt < k) : ¬ j < (0 : Int32) ∧ j < n := by
  rw [Int32.lt_iff_toInt_lt, Int32.lt_iff_toInt_lt, own_e0, hn]; omega
theorem own_ltI {j n : Int32} {k : Nat} (hn : n.toInt = k) (h : ¬ j < (0 : Int32) ∧ j < n) : j.toNatClampNeg < k := by
  have := nat_of h.1
  rw [Int32.lt_iff_toInt_lt, Int32.lt_iff_toInt_lt, own_e0, hn] at h
  omega
theorem own_cl_inj {j k : Int32} (h : ¬ j < (0 : Int32)) (g : ¬ k < (0 : Int32)) (e : j.toNatClampNeg = k.toNatClampNeg) : j = k := by
  rw [← (back32 h).1, ← (back32 g).1, e]
theorem own_gsD {vs : List Value} {j i : Int32} {x y : UInt64} {d : Value} (hl : vs.length = 8) (hj : ¬ j < (0 : Int32) ∧ j < (8 : Int32)) (hi : ¬ i < (0 : Int32) ∧ i < (8 : Int32)) (e : vs.getD i.toNatClampNeg d = .double x) : (List.set vs (j).toNatClampNeg (.double y)).getD i.toNatClampNeg d = .double (if j = i then y else x) := by
  have h1 : j.toNatClampNeg < 8 := own_ltI (by decide) hj
  by_cases q : j = i
  · subst q
    rw [if_pos rfl, List.getD_eq_getElem?_getD, List.getElem?_set_self (by omega)]; rfl
  · rw [if_neg q, List.getD_eq_getElem?_getD, List.getElem?_set_ne (fun r => q (own_cl_inj hj.1 hi.1 r)), ← List.getD_eq_getElem?_getD, e]
def own_pick (p : Int32) (y0 y1 y2 y3 : UInt64) : UInt64 := if p = (0 : Int32) then y0 else if p = (1 : Int32) then y1 else if p = (2 : Int32) then y2 else y3
theorem own_four {x : Int32} (h : ¬ x < (0 : Int32) ∧ x < (4 : Int32)) : x = (0 : Int32) ∨ x = (1 : Int32) ∨ x = (2 : Int32) ∨ x = (3 : Int32) := by
  have e4 : (4 : Int32).toInt = 4 := by decide
  have e1 : (1 : Int32).toInt = 1 := by decide
  have e2 : (2 : Int32).toInt = 2 := by decide
  have e3 : (3 : Int32).toInt = 3 := by decide
  rw [Int32.lt_iff_toInt_lt, Int32.lt_iff_toInt_lt, own_e0, e4] at h
  simp only [← Int32.toInt_inj, own_e0, e1, e2, e3]; omega
theorem own_pickAt {p : Int32} (y0 y1 y2 y3 : UInt64) (d : Value) (h : ¬ p < (0 : Int32) ∧ p < (4 : Int32)) : [Value.double y0, Value.double y1, Value.double y2, Value.double y3].getD p.toNatClampNeg d = .double (own_pick p y0 y1 y2 y3) := by
  rcases own_four h with rfl | rfl | rfl | rfl <;> rfl
theorem own_pickN {p : Int32} {y0 y1 y2 y3 : UInt64} (h0 : Jvm.Free.Fl.NoNaN64 y0) (h1 : Jvm.Free.Fl.NoNaN64 y1) (h2 : Jvm.Free.Fl.NoNaN64 y2) (h3 : Jvm.Free.Fl.NoNaN64 y3) : Jvm.Free.Fl.NoNaN64 (own_pick p y0 y1 y2 y3) := by
  unfold own_pick; split
  · exact h0
  · split
    · exact h1
    · split
      · exact h2
      · exact h3
theorem own_ifn {P : Prop} [Decidable P] {a b : UInt64} (ha : Jvm.Free.Fl.NoNaN64 a) (hb : Jvm.Free.Fl.NoNaN64 b) : Jvm.Free.Fl.NoNaN64 (if P then a else b) := by
  split
  · exact ha
  · exact hb
theorem own_rel {i off k : Int32} (h : i - off = k) : off + k = i := by rw [← h, Int32.add_comm, Int32.sub_add_cancel]
theorem own_rel' {i off k : Int32} (h : off + k = i) : i - off = k := by rw [← h, Int32.add_comm, Int32.add_sub_cancel]
theorem own_ne {i off k m : Int32} (h : i - off = k) (q : k ≠ m) : ¬ off + m = i := fun e => q (h.symm.trans (own_rel' e))
theorem own_two {r : Int32} (h : ¬ r < (0 : Int32)) (g : r < (3 : Int32)) (n0 : ¬ r = (0 : Int32)) (n1 : ¬ r = (1 : Int32)) : r = (2 : Int32) := by
  have e1 : (1 : Int32).toInt = 1 := by decide
  have e2 : (2 : Int32).toInt = 2 := by decide
  have e3 : (3 : Int32).toInt = 3 := by decide
  rw [Int32.lt_iff_toInt_lt, own_e0] at h
  rw [Int32.lt_iff_toInt_lt, e3] at g
  rw [← Int32.toInt_inj, own_e0] at n0
  rw [← Int32.toInt_inj, e1] at n1
  rw [← Int32.toInt_inj, e2]; omega
theorem own_m4 (x : Int32) : ¬ (x &&& (3 : Int32)) < (0 : Int32) ∧ (x &&& (3 : Int32)) < (4 : Int32) := by
  have m := Jvm.Kit.i32_mask x 3 (k := 2) (by decide) (by decide)
  exact own_inI (k := 4) (by decide) (by rw [m]; omega)
theorem own_off {x n : Int32} {k : Int} (hn : n.toInt = k) (hk : 0 < k) : 0 ≤ ((x &&& (2147483647 : Int32)) % n).toInt ∧ ((x &&& (2147483647 : Int32)) % n).toInt < k := by
  have m := Jvm.Kit.i32_mask x 2147483647 (k := 31) (by decide) (by decide)
  have q0 : 0 ≤ (x &&& (2147483647 : Int32)).toInt := by rw [m]; omega
  rw [Jvm.Kit.i32_rem_nonneg q0, hn]
  exact ⟨Int.emod_nonneg _ (by omega), Int.emod_lt_of_pos _ hk⟩
theorem own_offk {off : Int32} {k : Int} (j : Int32) {J : Int} (hj : j.toInt = J) (h : 0 ≤ off.toInt ∧ off.toInt < k) (a : 0 ≤ J) (b : k + J ≤ 9) : ¬ (off + j) < (0 : Int32) ∧ (off + j) < (8 : Int32) ∨ k + J = 9 := by
  by_cases q : k + J = 9
  · exact Or.inr q
  · exact Or.inl (own_inI (k := 8) (by decide) (by rw [Jvm.Kit.i32_add (by rw [hj]; omega) (by rw [hj]; omega), hj]; omega))
theorem own_out0 (off i : Int32) (C : UInt64) (h : (i - off) < (0 : Int32) ∨ ¬ (i - off) < (0 : Int32)) : C = C := rfl
theorem own_out1 (off i : Int32) (z0 : UInt64) (C : UInt64) (h : (i - off) < (0 : Int32) ∨ ¬ (i - off) < (1 : Int32)) : C = (if (off + (0 : Int32)) = i then z0 else C) := by
  have n0 : ¬ (off + (0 : Int32)) = i := fun e => by rw [own_rel' e] at h; revert h; decide
  rw [if_neg n0]
theorem own_hit1_0 (off i : Int32) (z0 : UInt64) (C : UInt64) (h : (i - off) = (0 : Int32)) : z0 = (if (off + (0 : Int32)) = i then z0 else C) := by
  rw [if_pos (own_rel h)]
theorem own_out2 (off i : Int32) (z0 : UInt64) (z1 : UInt64) (C : UInt64) (h : (i - off) < (0 : Int32) ∨ ¬ (i - off) < (2 : Int32)) : C = (if (off + (1 : Int32)) = i then z1 else (if (off + (0 : Int32)) = i then z0 else C)) := by
  have n0 : ¬ (off + (0 : Int32)) = i := fun e => by rw [own_rel' e] at h; revert h; decide
  have n1 : ¬ (off + (1 : Int32)) = i := fun e => by rw [own_rel' e] at h; revert h; decide
  rw [if_neg n1, if_neg n0]
theorem own_hit2_0 (off i : Int32) (z0 : UInt64) (z1 : UInt64) (C : UInt64) (h : (i - off) = (0 : Int32)) : z0 = (if (off + (1 : Int32)) = i then z1 else (if (off + (0 : Int32)) = i then z0 else C)) := by
  rw [if_neg (own_ne h (m := (1 : Int32)) (by decide)), if_pos (own_rel h)]
theorem own_hit2_1 (off i : Int32) (z0 : UInt64) (z1 : UInt64) (C : UInt64) (h : (i - off) = (1 : Int32)) : z1 = (if (off + (1 : Int32)) = i then z1 else (if (off + (0 : Int32)) = i then z0 else C)) := by
  rw [if_pos (own_rel h)]
theorem own_out3 (off i : Int32) (z0 : UInt64) (z1 : UInt64) (z2 : UInt64) (C : UInt64) (h : (i - off) < (0 : Int32) ∨ ¬ (i - off) < (3 : Int32)) : C = (if (off + (2 : Int32)) = i then z2 else (if (off + (1 : Int32)) = i then z1 else (if (off + (0 : Int32)) = i then z0 else C))) := by
  have n0 : ¬ (off + (0 : Int32)) = i := fun e => by rw [own_rel' e] at h; revert h; decide
  have n1 : ¬ (off + (1 : Int32)) = i := fun e => by rw [own_rel' e] at h; revert h; decide
  have n2 : ¬ (off + (2 : Int32)) = i := fun e => by rw [own_rel' e] at h; revert h; decide
  rw [if_neg n2, if_neg n1, if_neg n0]
theorem own_hit3_0 (off i : Int32) (z0 : UInt64) (z1 : UInt64) (z2 : UInt64) (C : UInt64) (h : (i - off) = (0 : Int32)) : z0 = (if (off + (2 : Int32)) = i then z2 else (if (off + (1 : Int32)) = i then z1 else (if (off + (0 : Int32)) = i then z0 else C))) := by
  rw [if_neg (own_ne h (m := (2 : Int32)) (by decide)), if_neg (own_ne h (m := (1 : Int32)) (by decide)), if_pos (own_rel h)]
theorem own_hit3_1 (off i : Int32) (z0 : UInt64) (z1 : UInt64) (z2 : UInt64) (C : UInt64) (h : (i - off) = (1 : Int32)) : z1 = (if (off + (2 : Int32)) = i then z2 else (if (off + (1 : Int32)) = i then z1 else (if (off + (0 : Int32)) = i then z0 else C))) := by
  rw [if_neg (own_ne h (m := (2 : Int32)) (by decide)), if_pos (own_rel h)]
theorem own_hit3_2 (off i : Int32) (z0 : UInt64) (z1 : UInt64) (z2 : UInt64) (C : UInt64) (h : (i - off) = (2 : Int32)) : z2 = (if (off + (2 : Int32)) = i then z2 else (if (off + (1 : Int32)) = i then z1 else (if (off + (0 : Int32)) = i then z0 else C))) := by
  rw [if_pos (own_rel h)]
theorem pn_com_example_splitgrain_splitgrain_parse_ChartItems : plainName "com/example/splitgrain/splitgrain/parse/ChartItems" = true := by first | (simp [plainName, overriddenIn]; done) | decide +kernel
theorem d1_0 : decode prog_31_method_7_code 0 = .ok (.iconst 0, 1) := by decide +kernel
theorem d1_1 : decode prog_31_method_7_code 1 = .ok (.istore 4, 2) := by decide +kernel
theorem d1_3 : decode prog_31_method_7_code 3 = .ok (.iload 4, 2) := by decide +kernel
theorem d1_5 : decode prog_31_method_7_code 5 = .ok (.aload_n 0, 1) := by decide +kernel
theorem d1_6 : decode prog_31_method_7_code 6 = .ok (.arraylength, 1) := by decide +kernel
theorem d1_7 : decode prog_31_method_7_code 7 = .ok (.if_icmp .ge 21, 3) := by decide +kernel
theorem d1_28 : decode prog_31_method_7_code 28 = .ok (.aload_n 2, 1) := by decide +kernel
theorem d1_29 : decode prog_31_method_7_code 29 = .ok (.areturn, 1) := by decide +kernel
theorem ef_1_0 (m : MethodId) (x0 : Addr) (x1 : Addr) (x2 : Addr) (x3 : Int32) : entryFrame m #[(.ref x0), (.ref x1), (.ref x2), (.int x3)] 5 = mkF m 0 #[.val (.ref x0), .val (.ref x1), .val (.ref x2), .val (.int x3), .unset] [] := by first | (simp [entryFrame, mkF, argsToLocals, Value.category]; done) | rfl
def Q1_0 (Z : State) (aa1 : Addr) (aa2 : Addr) (aa3 : Addr) (pp4 : Int32) (ki : ClassId) (kb : ClassId) (kp : ClassId) (vb : List Value) (vp : List Value) (h0 : Heap) (n0 : Nat) (v : Option Value) (h : Heap) (L : List Loc) : Prop := v = some (.ref aa3) ∧ Fr n0 L ∧ Keep h0 h [aa3] ∧ (Arv Z h aa3 kp .double (8 : Int32) vp (.double (0 : UInt64)))
set_option maxRecDepth 65536 in
set_option maxHeartbeats 40000000 in
theorem rm1_0 (l : Launch) (Z : State) (a0 : Array Value) (hw : ∀ d ∈ tables_1, d.before a0 Z = true) (ws : List Jvm.Cond) (aa1 : Addr) (aa2 : Addr) (aa3 : Addr) (pp4 : Int32) (ki : ClassId) (kb : ClassId) (kp : ClassId) (vb : List Value) (vp : List Value) (h0 : Heap) (n0 : Nat) (Z0 : n0 ≤ h0.size) (V_aa1 : Arv Z h0 aa1 ki .int (0 : Int32) [] (.int (0 : Int32))) (V_aa2 : Arv Z h0 aa2 kb .double (4 : Int32) vb (.double (0 : UInt64))) (V_aa3 : Arv Z h0 aa3 kp .double (8 : Int32) vp (.double (0 : UInt64))) (g_aa3 : n0 ≤ aa3) (ne_aa1_aa3 : aa1 ≠ aa3) (ne_aa2_aa3 : aa2 ≠ aa3) (hl : (vp : List Value).length = 8) :
    MetFree l (⟨"com/example/splitgrain/splitgrain/parse/ChartItems", "gather", "([I[D[DI)[D"⟩ : MethodName) (head1 (Jvm.Cond.code (⟨"com/example/splitgrain/splitgrain/parse/ChartItems", "gather", "([I[D[DI)[D"⟩ : MethodName) prog_31_method_7_code 5 (some (.array .double)) :: ws) ({ frames := 0, cells := 0, slots := 0, locals := 0 } : Room)) (fun a U => a = #[(.ref aa1), (.ref aa2), (.ref aa3), (.int pp4)] ∧ Z.Warmed39 U.vm ∧ U.heap = h0) (fun _ _ _ _ _ => True) (fun _ U o U' => ∃ v L, o = .returned v ∧ Q1_0 Z aa1 aa2 aa3 pp4 ki kb kp vb vp h0 n0 v U'.heap L ∧ FrameEnd U o U' L ({ frames := 0, cells := 0, slots := 0, locals := 0 } : Room).cells ({ frames := 0, cells := 0, slots := 0, locals := 0 } : Room).slots) := by
  refine MetFree.of_bodySF (plainFor_of_name pn_com_example_splitgrain_splitgrain_parse_ChartItems) hisR ?_
  intro p e s m args below meth c s₁ Bd hml0 hP hK
  obtain ⟨rfl, hZ, hh⟩ := hP
  have hx := Bd.exec
  have hby := Bd.bytes
  have hml : c.maxLocals = 5 := hml0
  have hown : s.vm.findClass "com/example/splitgrain/splitgrain/parse/ChartItems" = some m.cls := findClass_of_methodNamed Bd.named
  have hnm := (name_of_methodNamed Bd.named Bd.method).1
  have X0 : Stand p l e ({ frames := 0, cells := 0, slots := 0, locals := 0 } : Room) s m #[(.ref aa1), (.ref aa2), (.ref aa3), (.int pp4)] below meth c s₁ [] 0 0 := Stand.of_body Bd
  have e0 : s₁.heap = h0 := by rw [← hh, Bd.state]; rfl
  have N0 := Fr.nil n0
  have pre0 : ∀ t, Steps p.tables e below (s₁.setTop (mkF m 0 #[.val (.ref aa1), .val (.ref aa2), .val (.ref aa3), .val (.int pp4), .unset] [])) t → Steps p.tables e below (s₁.setTop (entryFrame m #[(.ref aa1), (.ref aa2), (.ref aa3), (.int pp4)] 5)) t := fun t k => castTop (ef_1_0 m aa1 aa2 aa3 pp4) k
  obtain ⟨cl_1, Ar_1, -, Sz_1, Nn_1, -, -⟩ := id V_aa1
  have hc7 : ¬ ((0 : Int32) < (0 : Int32)) := by decide
  obtain ⟨fs, hr, hrun, hended, hW, hsame⟩ := X0.leave (v := some (.ref aa3)) (fun h => by rw [Bd.returns] at h; cases h)
  refine ⟨_, _, pre0 _ ?_, hrun, hended, _, _, rfl, ?_, ⟨_, rfl⟩, hW, hsame.mono (by decide) (by decide)⟩
  · show Steps p.tables e below (s₁.setTop (mkF m 0 #[.val (.ref aa1), .val (.ref aa2), .val (.ref aa3), .val (.int pp4), .unset] [])) _
    refine XS.iconst X0.here hx rfl (hb hby d1_0) ?_
    refine XS.istore X0.here hx rfl (hb hby d1_1) rfl (l' := #[.val (.ref aa1), .val (.ref aa2), .val (.ref aa3), .val (.int pp4), .val (.int (0 : Int32))]) rfl ?_
    refine XS.iload X0.here hx rfl (hb hby d1_3) rfl ?_
    refine XS.aloadN X0.here hx rfl (hb hby d1_5) rfl rfl ?_
    refine X0.arraylength hx (by rw [e0]; exact Ar_1.1) (State.isArrayOf_alike hZ.alike Ar_1.2.1) (g := (mkF m 6 #[.val (.ref aa1), .val (.ref aa2), .val (.ref aa3), .val (.int pp4), .val (.int (0 : Int32))] [(.ref aa1), (.int (0 : Int32))])) rfl rfl (hb hby d1_6) _ ?_
    rw [len_of Sz_1 Nn_1]
    refine XS.icmpYes X0.here hx rfl (pc0 := 7) (pc' := 28) rfl (hb hby d1_7) rfl (flt hc7).2.1 (by decide) (by decide) ?_
    refine XS.aloadN X0.here hx rfl (hb hby d1_28) rfl rfl ?_
    jvm_step X0.here [X0.here.top, hx, (hb hby d1_29), X0.method', Bd.returns, Value.isRef, FieldType.isReference]
    first | (intro acts; rw [hr _ acts rfl rfl rfl]) | rw [hr _ _ rfl rfl rfl]
    exact Steps.refl _
  · show Q1_0 Z aa1 aa2 aa3 pp4 ki kb kp vb vp h0 n0 _ s₁.heap _
    rw [e0]
    exact ⟨rfl, N0, (Keep.refl h0 [aa3]), V_aa3⟩
theorem d1_10 : decode prog_31_method_7_code 10 = .ok (.aload_n 2, 1) := by decide +kernel
theorem d1_11 : decode prog_31_method_7_code 11 = .ok (.iload_n 3, 1) := by decide +kernel
theorem d1_12 : decode prog_31_method_7_code 12 = .ok (.iload 4, 2) := by decide +kernel
theorem d1_14 : decode prog_31_method_7_code 14 = .ok (.iadd, 1) := by decide +kernel
theorem d1_15 : decode prog_31_method_7_code 15 = .ok (.aload_n 1, 1) := by decide +kernel
theorem d1_16 : decode prog_31_method_7_code 16 = .ok (.aload_n 0, 1) := by decide +kernel
theorem d1_17 : decode prog_31_method_7_code 17 = .ok (.iload 4, 2) := by decide +kernel
theorem d1_19 : decode prog_31_method_7_code 19 = .ok (.iaload, 1) := by decide +kernel
theorem d1_20 : decode prog_31_method_7_code 20 = .ok (.daload, 1) := by decide +kernel
theorem d1_21 : decode prog_31_method_7_code 21 = .ok (.dastore, 1) := by decide +kernel
theorem d1_22 : decode prog_31_method_7_code 22 = .ok (.iinc 4 1, 3) := by decide +kernel
theorem d1_25 : decode prog_31_method_7_code 25 = .ok (.goto (-22), 3) := by decide +kernel
theorem ef_1_1 (m : MethodId) (x0 : Addr) (x1 : Addr) (x2 : Addr) (x3 : Int32) : entryFrame m #[(.ref x0), (.ref x1), (.ref x2), (.int x3)] 5 = mkF m 0 #[.val (.ref x0), .val (.ref x1), .val (.ref x2), .val (.int x3), .unset] [] := by first | (simp [entryFrame, mkF, argsToLocals, Value.category]; done) | rfl
def Q1_1 (Z : State) (aa1 : Addr) (aa2 : Addr) (aa3 : Addr) (pp4 : Int32) (ki : ClassId) (kb : ClassId) (kp : ClassId) (vb : List Value) (vp : List Value) (j0 : Int32) (z0 : UInt64) (h0 : Heap) (n0 : Nat) (v : Option Value) (h : Heap) (L : List Loc) : Prop := v = some (.ref aa3) ∧ Fr n0 L ∧ Keep h0 h [aa3] ∧ (Arv Z h aa3 kp .double (8 : Int32) (List.set vp (pp4 + (0 : Int32)).toNatClampNeg (.double z0)) (.double (0 : UInt64)))
set_option maxRecDepth 65536 in
set_option maxHeartbeats 40000000 in
theorem rm1_1 (l : Launch) (Z : State) (a0 : Array Value) (hw : ∀ d ∈ tables_1, d.before a0 Z = true) (ws : List Jvm.Cond) (aa1 : Addr) (aa2 : Addr) (aa3 : Addr) (pp4 : Int32) (ki : ClassId) (kb : ClassId) (kp : ClassId) (vb : List Value) (vp : List Value) (j0 : Int32) (z0 : UInt64) (h0 : Heap) (n0 : Nat) (Z0 : n0 ≤ h0.size) (V_aa1 : Arv Z h0 aa1 ki .int (1 : Int32) [(.int j0)] (.int (0 : Int32))) (V_aa2 : Arv Z h0 aa2 kb .double (4 : Int32) vb (.double (0 : UInt64))) (V_aa3 : Arv Z h0 aa3 kp .double (8 : Int32) vp (.double (0 : UInt64))) (g_aa3 : n0 ≤ aa3) (ne_aa1_aa3 : aa1 ≠ aa3) (ne_aa2_aa3 : aa2 ≠ aa3) (hl : (vp : List Value).length = 8) (hj0 : ¬ j0 < (0 : Int32) ∧ j0 < (4 : Int32)) (hz0 : (vb : List Value).getD (j0).toNatClampNeg (.double (0 : UInt64)) = .double z0) (ho0 : ¬ (pp4 + (0 : Int32)) < (0 : Int32) ∧ (pp4 + (0 : Int32)) < (8 : Int32)) :
    MetFree l (⟨"com/example/splitgrain/splitgrain/parse/ChartItems", "gather", "([I[D[DI)[D"⟩ : MethodName) (head1 (Jvm.Cond.code (⟨"com/example/splitgrain/splitgrain/parse/ChartItems", "gather", "([I[D[DI)[D"⟩ : MethodName) prog_31_method_7_code 5 (some (.array .double)) :: ws) ({ frames := 0, cells := 0, slots := 0, locals := 0 } : Room)) (fun a U => a = #[(.ref aa1), (.ref aa2), (.ref aa3), (.int pp4)] ∧ Z.Warmed39 U.vm ∧ U.heap = h0) (fun _ _ _ _ _ => True) (fun _ U o U' => ∃ v L, o = .returned v ∧ Q1_1 Z aa1 aa2 aa3 pp4 ki kb kp vb vp j0 z0 h0 n0 v U'.heap L ∧ FrameEnd U o U' L ({ frames := 0, cells := 0, slots := 0, locals := 0 } : Room).cells ({ frames := 0, cells := 0, slots := 0, locals := 0 } : Room).slots) := by
  refine MetFree.of_bodySF (plainFor_of_name pn_com_example_splitgrain_splitgrain_parse_ChartItems) hisR ?_
  intro p e s m args below meth c s₁ Bd hml0 hP hK
  obtain ⟨rfl, hZ, hh⟩ := hP
  have hx := Bd.exec
  have hby := Bd.bytes
  have hml : c.maxLocals = 5 := hml0
  have hown : s.vm.findClass "com/example/splitgrain/splitgrain/parse/ChartItems" = some m.cls := findClass_of_methodNamed Bd.named
  have hnm := (name_of_methodNamed Bd.named Bd.method).1
  have X0 : Stand p l e ({ frames := 0, cells := 0, slots := 0, locals := 0 } : Room) s m #[(.ref aa1), (.ref aa2), (.ref aa3), (.int pp4)] below meth c s₁ [] 0 0 := Stand.of_body Bd
  have e0 : s₁.heap = h0 := by rw [← hh, Bd.state]; rfl
  have N0 := Fr.nil n0
  have pre0 : ∀ t, Steps p.tables e below (s₁.setTop (mkF m 0 #[.val (.ref aa1), .val (.ref aa2), .val (.ref aa3), .val (.int pp4), .unset] [])) t → Steps p.tables e below (s₁.setTop (entryFrame m #[(.ref aa1), (.ref aa2), (.ref aa3), (.int pp4)] 5)) t := fun t k => castTop (ef_1_1 m aa1 aa2 aa3 pp4) k
  obtain ⟨cl_1, Ar_1, -, Sz_1, Nn_1, -, -⟩ := id V_aa1
  have hc7 : (0 : Int32) < (1 : Int32) := by decide
  obtain ⟨cl_2, Ar_2, qq_2, Sz_2, Nn_2, Hh_2, Gg_2⟩ := id V_aa1
  have hin_2 : ¬ ((0 : Int32) < 0 ∨ cl_2.slots.size ≤ ((0 : Int32)).toNatClampNeg) := inb_of Sz_2 ⟨by decide, by decide⟩
  have hat_2 : cl_2.slots[((0 : Int32)).toNatClampNeg]? = some (.int j0) := Has.at Hh_2 hin_2 rfl
  obtain ⟨cl_3, Ar_3, qq_3, Sz_3, Nn_3, Hh_3, Gg_3⟩ := id V_aa2
  have hin_3 : ¬ (j0 < 0 ∨ cl_3.slots.size ≤ (j0).toNatClampNeg) := inb_of Sz_3 hj0
  have hat_3 : cl_3.slots[(j0).toNatClampNeg]? = some (.double z0) := Has.at Hh_3 hin_3 hz0
  obtain ⟨cl_4, Ar_4, qq_4, Sz_4, Nn_4, Hh_4, Gg_4⟩ := id V_aa3
  have hin_4 : ¬ ((pp4 + (0 : Int32)) < 0 ∨ cl_4.slots.size ≤ ((pp4 + (0 : Int32))).toNatClampNeg) := inb_of Sz_4 ho0
  obtain ⟨T5, h5, X5, e5, W5, st5⟩ := stD X0 hx hZ e0 Ar_4 (j := (pp4 + (0 : Int32))) hin_4 (g := (mkF m 21 #[.val (.ref aa1), .val (.ref aa2), .val (.ref aa3), .val (.int pp4), .val (.int (0 : Int32))] [(.double z0), (.int (pp4 + (0 : Int32))), (.ref aa3)])) rfl rfl (hb hby d1_21)
  have N5 := Fr.snoc X5 N0 g_aa3
  have Z5 : n0 ≤ h5.size := Nat.le_trans Z0 (Keep.of_wr W5).1
  have K5 : Keep h0 h5 [aa3] := (Keep.refl h0 [aa3]).wr W5 (Or.inl (List.mem_of_getElem? (i := 0) rfl))
  have V5 : Arv Z h5 aa3 kp .double (8 : Int32) (List.set vp ((pp4 + (0 : Int32))).toNatClampNeg (.double z0)) (.double (0 : UInt64)) := Arv.set Ar_4 qq_4 Sz_4 Nn_4 Hh_4 Gg_4 rfl W5 ((pp4 + (0 : Int32))).toNatClampNeg rfl (by first | (rw [hl]; exact own_ltI (k := 8) (by decide) ho0) | (simp only [List.length_set]; rw [hl]; exact own_ltI (k := 8) (by decide) ho0))
  have V_6 : Arv Z h5 aa1 ki .int (1 : Int32) [(.int j0)] (.int (0 : Int32)) := (V_aa1.other W5 ne_aa1_aa3)
  obtain ⟨cl_7, Ar_7, -, Sz_7, Nn_7, -, -⟩ := id V_6
  have hc7_2 : ¬ ((1 : Int32) < (1 : Int32)) := by decide
  obtain ⟨fs, hr, hrun, hended, hW, hsame⟩ := X5.leave (v := some (.ref aa3)) (fun h => by rw [Bd.returns] at h; cases h)
  refine ⟨_, _, pre0 _ ?_, hrun, hended, _, _, rfl, ?_, ⟨_, rfl⟩, hW, hsame.mono (by decide) (by decide)⟩
  · show Steps p.tables e below (s₁.setTop (mkF m 0 #[.val (.ref aa1), .val (.ref aa2), .val (.ref aa3), .val (.int pp4), .unset] [])) _
    refine XS.iconst X0.here hx rfl (hb hby d1_0) ?_
    refine XS.istore X0.here hx rfl (hb hby d1_1) rfl (l' := #[.val (.ref aa1), .val (.ref aa2), .val (.ref aa3), .val (.int pp4), .val (.int (0 : Int32))]) rfl ?_
    refine XS.iload X0.here hx rfl (hb hby d1_3) rfl ?_
    refine XS.aloadN X0.here hx rfl (hb hby d1_5) rfl rfl ?_
    refine X0.arraylength hx (by rw [e0]; exact Ar_1.1) (State.isArrayOf_alike hZ.alike Ar_1.2.1) (g := (mkF m 6 #[.val (.ref aa1), .val (.ref aa2), .val (.ref aa3), .val (.int pp4), .val (.int (0 : Int32))] [(.ref aa1), (.int (0 : Int32))])) rfl rfl (hb hby d1_6) _ ?_
    rw [len_of Sz_1 Nn_1]
    refine XS.icmpNo X0.here hx rfl (hb hby d1_7) rfl (tlt hc7).2.1 ?_
    refine XS.aloadN X0.here hx rfl (hb hby d1_10) rfl rfl ?_
    refine XS.iloadN X0.here hx rfl (hb hby d1_11) rfl ?_
    refine XS.iload X0.here hx rfl (hb hby d1_12) rfl ?_
    refine XS.iadd X0.here hx rfl (hb hby d1_14) rfl ?_
    refine XS.aloadN X0.here hx rfl (hb hby d1_15) rfl rfl ?_
    refine XS.aloadN X0.here hx rfl (hb hby d1_16) rfl rfl ?_
    refine XS.iload X0.here hx rfl (hb hby d1_17) rfl ?_
    refine X0.iaload hx (j := (0 : Int32)) (v := (.int j0)) (by rw [e0]; exact Ar_2.1) (State.isArrayOf_alike hZ.alike Ar_2.2.1) Ar_2.2.2 hin_2 hat_2 (g := (mkF m 19 #[.val (.ref aa1), .val (.ref aa2), .val (.ref aa3), .val (.int pp4), .val (.int (0 : Int32))] [(.int (0 : Int32)), (.ref aa1), (.ref aa2), (.int (pp4 + (0 : Int32))), (.ref aa3)])) rfl rfl (hb hby d1_19) _ ?_
    refine X0.daload hx (j := j0) (v := (.double z0)) (by rw [e0]; exact Ar_3.1) (State.isArrayOf_alike hZ.alike Ar_3.2.1) Ar_3.2.2 hin_3 hat_3 (g := (mkF m 20 #[.val (.ref aa1), .val (.ref aa2), .val (.ref aa3), .val (.int pp4), .val (.int (0 : Int32))] [(.int j0), (.ref aa2), (.int (pp4 + (0 : Int32))), (.ref aa3)])) rfl rfl (hb hby d1_20) _ ?_
    refine st5 _ ?_
    refine XS.iinc X5.here hx rfl (hb hby d1_22) rfl (l' := #[.val (.ref aa1), .val (.ref aa2), .val (.ref aa3), .val (.int pp4), .val (.int (1 : Int32))]) rfl ?_
    refine XS.goto X5.here hx rfl (pc0 := 25) (pc' := 3) rfl (hb hby d1_25) (by decide) (by decide) ?_
    refine XS.iload X5.here hx rfl (hb hby d1_3) rfl ?_
    refine XS.aloadN X5.here hx rfl (hb hby d1_5) rfl rfl ?_
    refine X5.arraylength hx (by rw [e5]; exact Ar_7.1) (State.isArrayOf_alike hZ.alike Ar_7.2.1) (g := (mkF m 6 #[.val (.ref aa1), .val (.ref aa2), .val (.ref aa3), .val (.int pp4), .val (.int (1 : Int32))] [(.ref aa1), (.int (1 : Int32))])) rfl rfl (hb hby d1_6) _ ?_
    rw [len_of Sz_7 Nn_7]
    refine XS.icmpYes X5.here hx rfl (pc0 := 7) (pc' := 28) rfl (hb hby d1_7) rfl (flt hc7_2).2.1 (by decide) (by decide) ?_
    refine XS.aloadN X5.here hx rfl (hb hby d1_28) rfl rfl ?_
    jvm_step X5.here [X5.here.top, hx, (hb hby d1_29), X5.method', Bd.returns, Value.isRef, FieldType.isReference]
    first | (intro acts; rw [hr _ acts rfl rfl rfl]) | rw [hr _ _ rfl rfl rfl]
    exact Steps.refl _
  · show Q1_1 Z aa1 aa2 aa3 pp4 ki kb kp vb vp j0 z0 h0 n0 _ T5.heap _
    rw [e5]
    exact ⟨rfl, N5, K5, V5⟩
theorem ef_1_2 (m : MethodId) (x0 : Addr) (x1 : Addr) (x2 : Addr) (x3 : Int32) : entryFrame m #[(.ref x0), (.ref x1), (.ref x2), (.int x3)] 5 = mkF m 0 #[.val (.ref x0), .val (.ref x1), .val (.ref x2), .val (.int x3), .unset] [] := by first | (simp [entryFrame, mkF, argsToLocals, Value.category]; done) | rfl
def Q1_2 (Z : State) (aa1 : Addr) (aa2 : Addr) (aa3 : Addr) (pp4 : Int32) (ki : ClassId) (kb : ClassId) (kp : ClassId) (vb : List Value) (vp : List Value) (j0 : Int32) (j1 : Int32) (z0 : UInt64) (z1 : UInt64) (h0 : Heap) (n0 : Nat) (v : Option Value) (h : Heap) (L : List Loc) : Prop := v = some (.ref aa3) ∧ Fr n0 L ∧ Keep h0 h [aa3] ∧ (Arv Z h aa3 kp .double (8 : Int32) (List.set (List.set vp (pp4 + (0 : Int32)).toNatClampNeg (.double z0)) (pp4 + (1 : Int32)).toNatClampNeg (.double z1)) (.double (0 : UInt64)))
set_option maxRecDepth 65536 in
set_option maxHeartbeats 40000000 in
theorem rm1_2 (l : Launch) (Z : State) (a0 : Array Value) (hw : ∀ d ∈ tables_1, d.before a0 Z = true) (ws : List Jvm.Cond) (aa1 : Addr) (aa2 : Addr) (aa3 : Addr) (pp4 : Int32) (ki : ClassId) (kb : ClassId) (kp : ClassId) (vb : List Value) (vp : List Value) (j0 : Int32) (j1 : Int32) (z0 : UInt64) (z1 : UInt64) (h0 : Heap) (n0 : Nat) (Z0 : n0 ≤ h0.size) (V_aa1 : Arv Z h0 aa1 ki .int (2 : Int32) [(.int j0), (.int j1)] (.int (0 : Int32))) (V_aa2 : Arv Z h0 aa2 kb .double (4 : Int32) vb (.double (0 : UInt64))) (V_aa3 : Arv Z h0 aa3 kp .double (8 : Int32) vp (.double (0 : UInt64))) (g_aa3 : n0 ≤ aa3) (ne_aa1_aa3 : aa1 ≠ aa3) (ne_aa2_aa3 : aa2 ≠ aa3) (hl : (vp : List Value).length = 8) (hj0 : ¬ j0 < (0 : Int32) ∧ j0 < (4 : Int32)) (hj1 : ¬ j1 < (0 : Int32) ∧ j1 < (4 : Int32)) (hz0 : (vb : List Value).getD (j0).toNatClampNeg (.double (0 : UInt64)) = .double z0) (hz1 : (vb : List Value).getD (j1).toNatClampNeg (.double (0 : UInt64)) = .double z1) (ho0 : ¬ (pp4 + (0 : Int32)) < (0 : Int32) ∧ (pp4 + (0 : Int32)) < (8 : Int32)) (ho1 : ¬ (pp4 + (1 : Int32)) < (0 : Int32) ∧ (pp4 + (1 : Int32)) < (8 : Int32)) :
    MetFree l (⟨"com/example/splitgrain/splitgrain/parse/ChartItems", "gather", "([I[D[DI)[D"⟩ : MethodName) (head1 (Jvm.Cond.code (⟨"com/example/splitgrain/splitgrain/parse/ChartItems", "gather", "([I[D[DI)[D"⟩ : MethodName) prog_31_method_7_code 5 (some (.array .double)) :: ws) ({ frames := 0, cells := 0, slots := 0, locals := 0 } : Room)) (fun a U => a = #[(.ref aa1), (.ref aa2), (.ref aa3), (.int pp4)] ∧ Z.Warmed39 U.vm ∧ U.heap = h0) (fun _ _ _ _ _ => True) (fun _ U o U' => ∃ v L, o = .returned v ∧ Q1_2 Z aa1 aa2 aa3 pp4 ki kb kp vb vp j0 j1 z0 z1 h0 n0 v U'.heap L ∧ FrameEnd U o U' L ({ frames := 0, cells := 0, slots := 0, locals := 0 } : Room).cells ({ frames := 0, cells := 0, slots := 0, locals := 0 } : Room).slots) := by
  refine MetFree.of_bodySF (plainFor_of_name pn_com_example_splitgrain_splitgrain_parse_ChartItems) hisR ?_
  intro p e s m args below meth c s₁ Bd hml0 hP hK
  obtain ⟨rfl, hZ, hh⟩ := hP
  have hx := Bd.exec
  have hby := Bd.bytes
  have hml : c.maxLocals = 5 := hml0
  have hown : s.vm.findClass "com/example/splitgrain/splitgrain/parse/ChartItems" = some m.cls := findClass_of_methodNamed Bd.named
  have hnm := (name_of_methodNamed Bd.named Bd.method).1
  have X0 : Stand p l e ({ frames := 0, cells := 0, slots := 0, locals := 0 } : Room) s m #[(.ref aa1), (.ref aa2), (.ref aa3), (.int pp4)] below meth c s₁ [] 0 0 := Stand.of_body Bd
  have e0 : s₁.heap = h0 := by rw [← hh, Bd.state]; rfl
  have N0 := Fr.nil n0
  have pre0 : ∀ t, Steps p.tables e below (s₁.setTop (mkF m 0 #[.val (.ref aa1), .val (.ref aa2), .val (.ref aa3), .val (.int pp4), .unset] [])) t → Steps p.tables e below (s₁.setTop (entryFrame m #[(.ref aa1), (.ref aa2), (.ref aa3), (.int pp4)] 5)) t := fun t k => castTop (ef_1_2 m aa1 aa2 aa3 pp4) k
  obtain ⟨cl_1, Ar_1, -, Sz_1, Nn_1, -, -⟩ := id V_aa1
  have hc7 : (0 : Int32) < (2 : Int32) := by decide
  obtain ⟨cl_2, Ar_2, qq_2, Sz_2, Nn_2, Hh_2, Gg_2⟩ := id V_aa1
  have hin_2 : ¬ ((0 : Int32) < 0 ∨ cl_2.slots.size ≤ ((0 : Int32)).toNatClampNeg) := inb_of Sz_2 ⟨by decide, by decide⟩
  have hat_2 : cl_2.slots[((0 : Int32)).toNatClampNeg]? = some (.int j0) := Has.at Hh_2 hin_2 rfl
  obtain ⟨cl_3, Ar_3, qq_3, Sz_3, Nn_3, Hh_3, Gg_3⟩ := id V_aa2
  have hin_3 : ¬ (j0 < 0 ∨ cl_3.slots.size ≤ (j0).toNatClampNeg) := inb_of Sz_3 hj0
  have hat_3 : cl_3.slots[(j0).toNatClampNeg]? = some (.double z0) := Has.at Hh_3 hin_3 hz0
  obtain ⟨cl_4, Ar_4, qq_4, Sz_4, Nn_4, Hh_4, Gg_4⟩ := id V_aa3
  have hin_4 : ¬ ((pp4 + (0 : Int32)) < 0 ∨ cl_4.slots.size ≤ ((pp4 + (0 : Int32))).toNatClampNeg) := inb_of Sz_4 ho0
  obtain ⟨T5, h5, X5, e5, W5, st5⟩ := stD X0 hx hZ e0 Ar_4 (j := (pp4 + (0 : Int32))) hin_4 (g := (mkF m 21 #[.val (.ref aa1), .val (.ref aa2), .val (.ref aa3), .val (.int pp4), .val (.int (0 : Int32))] [(.double z0), (.int (pp4 + (0 : Int32))), (.ref aa3)])) rfl rfl (hb hby d1_21)
  have N5 := Fr.snoc X5 N0 g_aa3
  have Z5 : n0 ≤ h5.size := Nat.le_trans Z0 (Keep.of_wr W5).1
  have K5 : Keep h0 h5 [aa3] := (Keep.refl h0 [aa3]).wr W5 (Or.inl (List.mem_of_getElem? (i := 0) rfl))
  have V5 : Arv Z h5 aa3 kp .double (8 : Int32) (List.set vp ((pp4 + (0 : Int32))).toNatClampNeg (.double z0)) (.double (0 : UInt64)) := Arv.set Ar_4 qq_4 Sz_4 Nn_4 Hh_4 Gg_4 rfl W5 ((pp4 + (0 : Int32))).toNatClampNeg rfl (by first | (rw [hl]; exact own_ltI (k := 8) (by decide) ho0) | (simp only [List.length_set]; rw [hl]; exact own_ltI (k := 8) (by decide) ho0))
  have V_6 : Arv Z h5 aa1 ki .int (2 : Int32) [(.int j0), (.int j1)] (.int (0 : Int32)) := (V_aa1.other W5 ne_aa1_aa3)
  obtain ⟨cl_7, Ar_7, -, Sz_7, Nn_7, -, -⟩ := id V_6
  have hc7_2 : (1 : Int32) < (2 : Int32) := by decide
  obtain ⟨cl_8, Ar_8, qq_8, Sz_8, Nn_8, Hh_8, Gg_8⟩ := id V_6
  have hin_8 : ¬ ((1 : Int32) < 0 ∨ cl_8.slots.size ≤ ((1 : Int32)).toNatClampNeg) := inb_of Sz_8 ⟨by decide, by decide⟩
  have hat_8 : cl_8.slots[((1 : Int32)).toNatClampNeg]? = some (.int j1) := Has.at Hh_8 hin_8 rfl
  have V_9 : Arv Z h5 aa2 kb .double (4 : Int32) vb (.double (0 : UInt64)) := (V_aa2.other W5 ne_aa2_aa3)
  obtain ⟨cl_10, Ar_10, qq_10, Sz_10, Nn_10, Hh_10, Gg_10⟩ := id V_9
  have hin_10 : ¬ (j1 < 0 ∨ cl_10.slots.size ≤ (j1).toNatClampNeg) := inb_of Sz_10 hj1
  have hat_10 : cl_10.slots[(j1).toNatClampNeg]? = some (.double z1) := Has.at Hh_10 hin_10 hz1
  obtain ⟨cl_11, Ar_11, qq_11, Sz_11, Nn_11, Hh_11, Gg_11⟩ := id V5
  have hin_11 : ¬ ((pp4 + (1 : Int32)) < 0 ∨ cl_11.slots.size ≤ ((pp4 + (1 : Int32))).toNatClampNeg) := inb_of Sz_11 ho1
  obtain ⟨T12, h12, X12, e12, W12, st12⟩ := stD X5 hx hZ e5 Ar_11 (j := (pp4 + (1 : Int32))) hin_11 (g := (mkF m 21 #[.val (.ref aa1), .val (.ref aa2), .val (.ref aa3), .val (.int pp4), .val (.int (1 : Int32))] [(.double z1), (.int (pp4 + (1 : Int32))), (.ref aa3)])) rfl rfl (hb hby d1_21)
  have N12 := Fr.snoc X12 N5 g_aa3
  have Z12 : n0 ≤ h12.size := Nat.le_trans Z5 (Keep.of_wr W12).1
  have K12 : Keep h0 h12 [aa3] := K5.wr W12 (Or.inl (List.mem_of_getElem? (i := 0) rfl))
  have V12 : Arv Z h12 aa3 kp .double (8 : Int32) (List.set (List.set vp ((pp4 + (0 : Int32))).toNatClampNeg (.double z0)) ((pp4 + (1 : Int32))).toNatClampNeg (.double z1)) (.double (0 : UInt64)) := Arv.set Ar_11 qq_11 Sz_11 Nn_11 Hh_11 Gg_11 rfl W12 ((pp4 + (1 : Int32))).toNatClampNeg rfl (by first | (rw [hl]; exact own_ltI (k := 8) (by decide) ho1) | (simp only [List.length_set]; rw [hl]; exact own_ltI (k := 8) (by decide) ho1))
  have V_13 : Arv Z h12 aa1 ki .int (2 : Int32) [(.int j0), (.int j1)] (.int (0 : Int32)) := (V_6.other W12 ne_aa1_aa3)
  obtain ⟨cl_14, Ar_14, -, Sz_14, Nn_14, -, -⟩ := id V_13
  have hc7_3 : ¬ ((2 : Int32) < (2 : Int32)) := by decide
  obtain ⟨fs, hr, hrun, hended, hW, hsame⟩ := X12.leave (v := some (.ref aa3)) (fun h => by rw [Bd.returns] at h; cases h)
  refine ⟨_, _, pre0 _ ?_, hrun, hended, _, _, rfl, ?_, ⟨_, rfl⟩, hW, hsame.mono (by decide) (by decide)⟩
  · show Steps p.tables e below (s₁.setTop (mkF m 0 #[.val (.ref aa1), .val (.ref aa2), .val (.ref aa3), .val (.int pp4), .unset] [])) _
    refine XS.iconst X0.here hx rfl (hb hby d1_0) ?_
    refine XS.istore X0.here hx rfl (hb hby d1_1) rfl (l' := #[.val (.ref aa1), .val (.ref aa2), .val (.ref aa3), .val (.int pp4), .val (.int (0 : Int32))]) rfl ?_
    refine XS.iload X0.here hx rfl (hb hby d1_3) rfl ?_
    refine XS.aloadN X0.here hx rfl (hb hby d1_5) rfl rfl ?_
    refine X0.arraylength hx (by rw [e0]; exact Ar_1.1) (State.isArrayOf_alike hZ.alike Ar_1.2.1) (g := (mkF m 6 #[.val (.ref aa1), .val (.ref aa2), .val (.ref aa3), .val (.int pp4), .val (.int (0 : Int32))] [(.ref aa1), (.int (0 : Int32))])) rfl rfl (hb hby d1_6) _ ?_
    rw [len_of Sz_1 Nn_1]
    refine XS.icmpNo X0.here hx rfl (hb hby d1_7) rfl (tlt hc7).2.1 ?_
    refine XS.aloadN X0.here hx rfl (hb hby d1_10) rfl rfl ?_
    refine XS.iloadN X0.here hx rfl (hb hby d1_11) rfl ?_
    refine XS.iload X0.here hx rfl (hb hby d1_12) rfl ?_
    refine XS.iadd X0.here hx rfl (hb hby d1_14) rfl ?_
    refine XS.aloadN X0.here hx rfl (hb hby d1_15) rfl rfl ?_
    refine XS.aloadN X0.here hx rfl (hb hby d1_16) rfl rfl ?_
    refine XS.iload X0.here hx rfl (hb hby d1_17) rfl ?_
    refine X0.iaload hx (j := (0 : Int32)) (v := (.int j0)) (by rw [e0]; exact Ar_2.1) (State.isArrayOf_alike hZ.alike Ar_2.2.1) Ar_2.2.2 hin_2 hat_2 (g := (mkF m 19 #[.val (.ref aa1), .val (.ref aa2), .val (.ref aa3), .val (.int pp4), .val (.int (0 : Int32))] [(.int (0 : Int32)), (.ref aa1), (.ref aa2), (.int (pp4 + (0 : Int32))), (.ref aa3)])) rfl rfl (hb hby d1_19) _ ?_
    refine X0.daload hx (j := j0) (v := (.double z0)) (by rw [e0]; exact Ar_3.1) (State.isArrayOf_alike hZ.alike Ar_3.2.1) Ar_3.2.2 hin_3 hat_3 (g := (mkF m 20 #[.val (.ref aa1), .val (.ref aa2), .val (.ref aa3), .val (.int pp4), .val (.int (0 : Int32))] [(.int j0), (.ref aa2), (.int (pp4 + (0 : Int32))), (.ref aa3)])) rfl rfl (hb hby d1_20) _ ?_
    refine st5 _ ?_
    refine XS.iinc X5.here hx rfl (hb hby d1_22) rfl (l' := #[.val (.ref aa1), .val (.ref aa2), .val (.ref aa3), .val (.int pp4), .val (.int (1 : Int32))]) rfl ?_
    refine XS.goto X5.here hx rfl (pc0 := 25) (pc' := 3) rfl (hb hby d1_25) (by decide) (by decide) ?_
    refine XS.iload X5.here hx rfl (hb hby d1_3) rfl ?_
    refine XS.aloadN X5.here hx rfl (hb hby d1_5) rfl rfl ?_
    refine X5.arraylength hx (by rw [e5]; exact Ar_7.1) (State.isArrayOf_alike hZ.alike Ar_7.2.1) (g := (mkF m 6 #[.val (.ref aa1), .val (.ref aa2), .val (.ref aa3), .val (.int pp4), .val (.int (1 : Int32))] [(.ref aa1), (.int (1 : Int32))])) rfl rfl (hb hby d1_6) _ ?_
    rw [len_of Sz_7 Nn_7]
    refine XS.icmpNo X5.here hx rfl (hb hby d1_7) rfl (tlt hc7_2).2.1 ?_
    refine XS.aloadN X5.here hx rfl (hb hby d1_10) rfl rfl ?_
    refine XS.iloadN X5.here hx rfl (hb hby d1_11) rfl ?_
    refine XS.iload X5.here hx rfl (hb hby d1_12) rfl ?_
    refine XS.iadd X5.here hx rfl (hb hby d1_14) rfl ?_
    refine XS.aloadN X5.here hx rfl (hb hby d1_15) rfl rfl ?_
    refine XS.aloadN X5.here hx rfl (hb hby d1_16) rfl rfl ?_
    refine XS.iload X5.here hx rfl (hb hby d1_17) rfl ?_
    refine X5.iaload hx (j := (1 : Int32)) (v := (.int j1)) (by rw [e5]; exact Ar_8.1) (State.isArrayOf_alike hZ.alike Ar_8.2.1) Ar_8.2.2 hin_8 hat_8 (g := (mkF m 19 #[.val (.ref aa1), .val (.ref aa2), .val (.ref aa3), .val (.int pp4), .val (.int (1 : Int32))] [(.int (1 : Int32)), (.ref aa1), (.ref aa2), (.int (pp4 + (1 : Int32))), (.ref aa3)])) rfl rfl (hb hby d1_19) _ ?_
    refine X5.daload hx (j := j1) (v := (.double z1)) (by rw [e5]; exact Ar_10.1) (State.isArrayOf_alike hZ.alike Ar_10.2.1) Ar_10.2.2 hin_10 hat_10 (g := (mkF m 20 #[.val (.ref aa1), .val (.ref aa2), .val (.ref aa3), .val (.int pp4), .val (.int (1 : Int32))] [(.int j1), (.ref aa2), (.int (pp4 + (1 : Int32))), (.ref aa3)])) rfl rfl (hb hby d1_20) _ ?_
    refine st12 _ ?_
    refine XS.iinc X12.here hx rfl (hb hby d1_22) rfl (l' := #[.val (.ref aa1), .val (.ref aa2), .val (.ref aa3), .val (.int pp4), .val (.int (2 : Int32))]) rfl ?_
    refine XS.goto X12.here hx rfl (pc0 := 25) (pc' := 3) rfl (hb hby d1_25) (by decide) (by decide) ?_
    refine XS.iload X12.here hx rfl (hb hby d1_3) rfl ?_
    refine XS.aloadN X12.here hx rfl (hb hby d1_5) rfl rfl ?_
    refine X12.arraylength hx (by rw [e12]; exact Ar_14.1) (State.isArrayOf_alike hZ.alike Ar_14.2.1) (g := (mkF m 6 #[.val (.ref aa1), .val (.ref aa2), .val (.ref aa3), .val (.int pp4), .val (.int (2 : Int32))] [(.ref aa1), (.int (2 : Int32))])) rfl rfl (hb hby d1_6) _ ?_
    rw [len_of Sz_14 Nn_14]
    refine XS.icmpYes X12.here hx rfl (pc0 := 7) (pc' := 28) rfl (hb hby d1_7) rfl (flt hc7_3).2.1 (by decide) (by decide) ?_
    refine XS.aloadN X12.here hx rfl (hb hby d1_28) rfl rfl ?_
    jvm_step X12.here [X12.here.top, hx, (hb hby d1_29), X12.method', Bd.returns, Value.isRef, FieldType.isReference]
    first | (intro acts; rw [hr _ acts rfl rfl rfl]) | rw [hr _ _ rfl rfl rfl]
    exact Steps.refl _
  · show Q1_2 Z aa1 aa2 aa3 pp4 ki kb kp vb vp j0 j1 z0 z1 h0 n0 _ T12.heap _
    rw [e12]
    exact ⟨rfl, N12, K12, V12⟩
theorem ef_1_3 (m : MethodId) (x0 : Addr) (x1 : Addr) (x2 : Addr) (x3 : Int32) : entryFrame m #[(.ref x0), (.ref x1), (.ref x2), (.int x3)] 5 = mkF m 0 #[.val (.ref x0), .val (.ref x1), .val (.ref x2), .val (.int x3), .unset] [] := by first | (simp [entryFrame, mkF, argsToLocals, Value.category]; done) | rfl
def Q1_3 (Z : State) (aa1 : Addr) (aa2 : Addr) (aa3 : Addr) (pp4 : Int32) (ki : ClassId) (kb : ClassId) (kp : ClassId) (vb : List Value) (vp : List Value) (j0 : Int32) (j1 : Int32) (j2 : Int32) (z0 : UInt64) (z1 : UInt64) (z2 : UInt64) (h0 : Heap) (n0 : Nat) (v : Option Value) (h : Heap) (L : List Loc) : Prop := v = some (.ref aa3) ∧ Fr n0 L ∧ Keep h0 h [aa3] ∧ (Arv Z h aa3 kp .double (8 : Int32) (List.set (List.set (List.set vp (pp4 + (0 : Int32)).toNatClampNeg (.double z0)) (pp4 + (1 : Int32)).toNatClampNeg (.double z1)) (pp4 + (2 : Int32)).toNatClampNeg (.double z2)) (.double (0 : UInt64)))
set_option maxRecDepth 65536 in
set_option maxHeartbeats 40000000 in
theorem rm1_3 (l : Launch) (Z : State) (a0 : Array Value) (hw : ∀ d ∈ tables_1, d.before a0 Z = true) (ws : List Jvm.Cond) (aa1 : Addr) (aa2 : Addr) (aa3 : Addr) (pp4 : Int32) (ki : ClassId) (kb : ClassId) (kp : ClassId) (vb : List Value) (vp : List Value) (j0 : Int32) (j1 : Int32) (j2 : Int32) (z0 : UInt64) (z1 : UInt64) (z2 : UInt64) (h0 : Heap) (n0 : Nat) (Z0 : n0 ≤ h0.size) (V_aa1 : Arv Z h0 aa1 ki .int (3 : Int32) [(.int j0), (.int j1), (.int j2)] (.int (0 : Int32))) (V_aa2 : Arv Z h0 aa2 kb .double (4 : Int32) vb (.double (0 : UInt64))) (V_aa3 : Arv Z h0 aa3 kp .double (8 : Int32) vp (.double (0 : UInt64))) (g_aa3 : n0 ≤ aa3) (ne_aa1_aa3 : aa1 ≠ aa3) (ne_aa2_aa3 : aa2 ≠ aa3) (hl : (vp : List Value).length = 8) (hj0 : ¬ j0 < (0 : Int32) ∧ j0 < (4 : Int32)) (hj1 : ¬ j1 < (0 : Int32) ∧ j1 < (4 : Int32)) (hj2 : ¬ j2 < (0 : Int32) ∧ j2 < (4 : Int32)) (hz0 : (vb : List Value).getD (j0).toNatClampNeg (.double (0 : UInt64)) = .double z0) (hz1 : (vb : List Value).getD (j1).toNatClampNeg (.double (0 : UInt64)) = .double z1) (hz2 : (vb : List Value).getD (j2).toNatClampNeg (.double (0 : UInt64)) = .double z2) (ho0 : ¬ (pp4 + (0 : Int32)) < (0 : Int32) ∧ (pp4 + (0 : Int32)) < (8 : Int32)) (ho1 : ¬ (pp4 + (1 : Int32)) < (0 : Int32) ∧ (pp4 + (1 : Int32)) < (8 : Int32)) (ho2 : ¬ (pp4 + (2 : Int32)) < (0 : Int32) ∧ (pp4 + (2 : Int32)) < (8 : Int32)) :
    MetFree l (⟨"com/example/splitgrain/splitgrain/parse/ChartItems", "gather", "([I[D[DI)[D"⟩ : MethodName) (head1 (Jvm.Cond.code (⟨"com/example/splitgrain/splitgrain/parse/ChartItems", "gather", "([I[D[DI)[D"⟩ : MethodName) prog_31_method_7_code 5 (some (.array .double)) :: ws) ({ frames := 0, cells := 0, slots := 0, locals := 0 } : Room)) (fun a U => a = #[(.ref aa1), (.ref aa2), (.ref aa3), (.int pp4)] ∧ Z.Warmed39 U.vm ∧ U.heap = h0) (fun _ _ _ _ _ => True) (fun _ U o U' => ∃ v L, o = .returned v ∧ Q1_3 Z aa1 aa2 aa3 pp4 ki kb kp vb vp j0 j1 j2 z0 z1 z2 h0 n0 v U'.heap L ∧ FrameEnd U o U' L ({ frames := 0, cells := 0, slots := 0, locals := 0 } : Room).cells ({ frames := 0, cells := 0, slots := 0, locals := 0 } : Room).slots) := by
  refine MetFree.of_bodySF (plainFor_of_name pn_com_example_splitgrain_splitgrain_parse_ChartItems) hisR ?_
  intro p e s m args below meth c s₁ Bd hml0 hP hK
  obtain ⟨rfl, hZ, hh⟩ := hP
  have hx := Bd.exec
  have hby := Bd.bytes
  have hml : c.maxLocals = 5 := hml0
  have hown : s.vm.findClass "com/example/splitgrain/splitgrain/parse/ChartItems" = some m.cls := findClass_of_methodNamed Bd.named
  have hnm := (name_of_methodNamed Bd.named Bd.method).1
  have X0 : Stand p l e ({ frames := 0, cells := 0, slots := 0, locals := 0 } : Room) s m #[(.ref aa1), (.ref aa2), (.ref aa3), (.int pp4)] below meth c s₁ [] 0 0 := Stand.of_body Bd
  have e0 : s₁.heap = h0 := by rw [← hh, Bd.state]; rfl
  have N0 := Fr.nil n0
  have pre0 : ∀ t, Steps p.tables e below (s₁.setTop (mkF m 0 #[.val (.ref aa1), .val (.ref aa2), .val (.ref aa3), .val (.int pp4), .unset] [])) t → Steps p.tables e below (s₁.setTop (entryFrame m #[(.ref aa1), (.ref aa2), (.ref aa3), (.int pp4)] 5)) t := fun t k => castTop (ef_1_3 m aa1 aa2 aa3 pp4) k
  obtain ⟨cl_1, Ar_1, -, Sz_1, Nn_1, -, -⟩ := id V_aa1
  have hc7 : (0 : Int32) < (3 : Int32) := by decide
  obtain ⟨cl_2, Ar_2, qq_2, Sz_2, Nn_2, Hh_2, Gg_2⟩ := id V_aa1
  have hin_2 : ¬ ((0 : Int32) < 0 ∨ cl_2.slots.size ≤ ((0 : Int32)).toNatClampNeg) := inb_of Sz_2 ⟨by decide, by decide⟩
  have hat_2 : cl_2.slots[((0 : Int32)).toNatClampNeg]? = some (.int j0) := Has.at Hh_2 hin_2 rfl
  obtain ⟨cl_3, Ar_3, qq_3, Sz_3, Nn_3, Hh_3, Gg_3⟩ := id V_aa2
  have hin_3 : ¬ (j0 < 0 ∨ cl_3.slots.size ≤ (j0).toNatClampNeg) := inb_of Sz_3 hj0
  have hat_3 : cl_3.slots[(j0).toNatClampNeg]? = some (.double z0) := Has.at Hh_3 hin_3 hz0
  obtain ⟨cl_4, Ar_4, qq_4, Sz_4, Nn_4, Hh_4, Gg_4⟩ := id V_aa3
  have hin_4 : ¬ ((pp4 + (0 : Int32)) < 0 ∨ cl_4.slots.size ≤ ((pp4 + (0 : Int32))).toNatClampNeg) := inb_of Sz_4 ho0
  obtain ⟨T5, h5, X5, e5, W5, st5⟩ := stD X0 hx hZ e0 Ar_4 (j := (pp4 + (0 : Int32))) hin_4 (g := (mkF m 21 #[.val (.ref aa1), .val (.ref aa2), .val (.ref aa3), .val (.int pp4), .val (.int (0 : Int32))] [(.double z0), (.int (pp4 + (0 : Int32))), (.ref aa3)])) rfl rfl (hb hby d1_21)
  have N5 := Fr.snoc X5 N0 g_aa3
  have Z5 : n0 ≤ h5.size := Nat.le_trans Z0 (Keep.of_wr W5).1
  have K5 : Keep h0 h5 [aa3] := (Keep.refl h0 [aa3]).wr W5 (Or.inl (List.mem_of_getElem? (i := 0) rfl))
  have V5 : Arv Z h5 aa3 kp .double (8 : Int32) (List.set vp ((pp4 + (0 : Int32))).toNatClampNeg (.double z0)) (.double (0 : UInt64)) := Arv.set Ar_4 qq_4 Sz_4 Nn_4 Hh_4 Gg_4 rfl W5 ((pp4 + (0 : Int32))).toNatClampNeg rfl (by first | (rw [hl]; exact own_ltI (k := 8) (by decide) ho0) | (simp only [List.length_set]; rw [hl]; exact own_ltI (k := 8) (by decide) ho0))
  have V_6 : Arv Z h5 aa1 ki .int (3 : Int32) [(.int j0), (.int j1), (.int j2)] (.int (0 : Int32)) := (V_aa1.other W5 ne_aa1_aa3)
  obtain ⟨cl_7, Ar_7, -, Sz_7, Nn_7, -, -⟩ := id V_6
  have hc7_2 : (1 : Int32) < (3 : Int32) := by decide
  obtain ⟨cl_8, Ar_8, qq_8, Sz_8, Nn_8, Hh_8, Gg_8⟩ := id V_6
  have hin_8 : ¬ ((1 : Int32) < 0 ∨ cl_8.slots.size ≤ ((1 : Int32)).toNatClampNeg) := inb_of Sz_8 ⟨by decide, by decide⟩
  have hat_8 : cl_8.slots[((1 : Int32)).toNatClampNeg]? = some (.int j1) := Has.at Hh_8 hin_8 rfl
  have V_9 : Arv Z h5 aa2 kb .double (4 : Int32) vb (.double (0 : UInt64)) := (V_aa2.other W5 ne_aa2_aa3)
  obtain ⟨cl_10, Ar_10, qq_10, Sz_10, Nn_10, Hh_10, Gg_10⟩ := id V_9
  have hin_10 : ¬ (j1 < 0 ∨ cl_10.slots.size ≤ (j1).toNatClampNeg) := inb_of Sz_10 hj1
  have hat_10 : cl_10.slots[(j1).toNatClampNeg]? = some (.double z1) := Has.at Hh_10 hin_10 hz1
  obtain ⟨cl_11, Ar_11, qq_11, Sz_11, Nn_11, Hh_11, Gg_11⟩ := id V5
  have hin_11 : ¬ ((pp4 + (1 : Int32)) < 0 ∨ cl_11.slots.size ≤ ((pp4 + (1 : Int32))).toNatClampNeg) := inb_of Sz_11 ho1
  obtain ⟨T12, h12, X12, e12, W12, st12⟩ := stD X5 hx hZ e5 Ar_11 (j := (pp4 + (1 : Int32))) hin_11 (g := (mkF m 21 #[.val (.ref aa1), .val (.ref aa2), .val (.ref aa3), .val (.int pp4), .val (.int (1 : Int32))] [(.double z1), (.int (pp4 + (1 : Int32))), (.ref aa3)])) rfl rfl (hb hby d1_21)
  have N12 := Fr.snoc X12 N5 g_aa3
  have Z12 : n0 ≤ h12.size := Nat.le_trans Z5 (Keep.of_wr W12).1
  have K12 : Keep h0 h12 [aa3] := K5.wr W12 (Or.inl (List.mem_of_getElem? (i := 0) rfl))
  have V12 : Arv Z h12 aa3 kp .double (8 : Int32) (List.set (List.set vp ((pp4 + (0 : Int32))).toNatClampNeg (.double z0)) ((pp4 + (1 : Int32))).toNatClampNeg (.double z1)) (.double (0 : UInt64)) := Arv.set Ar_11 qq_11 Sz_11 Nn_11 Hh_11 Gg_11 rfl W12 ((pp4 + (1 : Int32))).toNatClampNeg rfl (by first | (rw [hl]; exact own_ltI (k := 8) (by decide) ho1) | (simp only [List.length_set]; rw [hl]; exact own_ltI (k := 8) (by decide) ho1))
  have V_13 : Arv Z h12 aa1 ki .int (3 : Int32) [(.int j0), (.int j1), (.int j2)] (.int (0 : Int32)) := (V_6.other W12 ne_aa1_aa3)
  obtain ⟨cl_14, Ar_14, -, Sz_14, Nn_14, -, -⟩ := id V_13
  have hc7_3 : (2 : Int32) < (3 : Int32) := by decide
  obtain ⟨cl_15, Ar_15, qq_15, Sz_15, Nn_15, Hh_15, Gg_15⟩ := id V_13
  have hin_15 : ¬ ((2 : Int32) < 0 ∨ cl_15.slots.size ≤ ((2 : Int32)).toNatClampNeg) := inb_of Sz_15 ⟨by decide, by decide⟩
  have hat_15 : cl_15.slots[((2 : Int32)).toNatClampNeg]? = some (.int j2) := Has.at Hh_15 hin_15 (show ([(.int j0), (.int j1), (.int j2)] : List Value).getD 2 (.int (0 : Int32)) = (.int j2) from rfl)
  have V_16 : Arv Z h12 aa2 kb .double (4 : Int32) vb (.double (0 : UInt64)) := (V_9.other W12 ne_aa2_aa3)
  obtain ⟨cl_17, Ar_17, qq_17, Sz_17, Nn_17, Hh_17, Gg_17⟩ := id V_16
  have hin_17 : ¬ (j2 < 0 ∨ cl_17.slots.size ≤ (j2).toNatClampNeg) := inb_of Sz_17 hj2
  have hat_17 : cl_17.slots[(j2).toNatClampNeg]? = some (.double z2) := Has.at Hh_17 hin_17 hz2
  obtain ⟨cl_18, Ar_18, qq_18, Sz_18, Nn_18, Hh_18, Gg_18⟩ := id V12
  have hin_18 : ¬ ((pp4 + (2 : Int32)) < 0 ∨ cl_18.slots.size ≤ ((pp4 + (2 : Int32))).toNatClampNeg) := inb_of Sz_18 ho2
  obtain ⟨T19, h19, X19, e19, W19, st19⟩ := stD X12 hx hZ e12 Ar_18 (j := (pp4 + (2 : Int32))) hin_18 (g := (mkF m 21 #[.val (.ref aa1), .val (.ref aa2), .val (.ref aa3), .val (.int pp4), .val (.int (2 : Int32))] [(.double z2), (.int (pp4 + (2 : Int32))), (.ref aa3)])) rfl rfl (hb hby d1_21)
  have N19 := Fr.snoc X19 N12 g_aa3
  have Z19 : n0 ≤ h19.size := Nat.le_trans Z12 (Keep.of_wr W19).1
  have K19 : Keep h0 h19 [aa3] := K12.wr W19 (Or.inl (List.mem_of_getElem? (i := 0) rfl))
  have V19 : Arv Z h19 aa3 kp .double (8 : Int32) (List.set (List.set (List.set vp ((pp4 + (0 : Int32))).toNatClampNeg (.double z0)) ((pp4 + (1 : Int32))).toNatClampNeg (.double z1)) ((pp4 + (2 : Int32))).toNatClampNeg (.double z2)) (.double (0 : UInt64)) := Arv.set Ar_18 qq_18 Sz_18 Nn_18 Hh_18 Gg_18 rfl W19 ((pp4 + (2 : Int32))).toNatClampNeg rfl (by first | (rw [hl]; exact own_ltI (k := 8) (by decide) ho2) | (simp only [List.length_set]; rw [hl]; exact own_ltI (k := 8) (by decide) ho2))
  have V_20 : Arv Z h19 aa1 ki .int (3 : Int32) [(.int j0), (.int j1), (.int j2)] (.int (0 : Int32)) := (V_13.other W19 ne_aa1_aa3)
  obtain ⟨cl_21, Ar_21, -, Sz_21, Nn_21, -, -⟩ := id V_20
  have hc7_4 : ¬ ((3 : Int32) < (3 : Int32)) := by decide
  obtain ⟨fs, hr, hrun, hended, hW, hsame⟩ := X19.leave (v := some (.ref aa3)) (fun h => by rw [Bd.returns] at h; cases h)
  refine ⟨_, _, pre0 _ ?_, hrun, hended, _, _, rfl, ?_, ⟨_, rfl⟩, hW, hsame.mono (by decide) (by decide)⟩
  · show Steps p.tables e below (s₁.setTop (mkF m 0 #[.val (.ref aa1), .val (.ref aa2), .val (.ref aa3), .val (.int pp4), .unset] [])) _
    refine XS.iconst X0.here hx rfl (hb hby d1_0) ?_
    refine XS.istore X0.here hx rfl (hb hby d1_1) rfl (l' := #[.val (.ref aa1), .val (.ref aa2), .val (.ref aa3), .val (.int pp4), .val (.int (0 : Int32))]) rfl ?_
    refine XS.iload X0.here hx rfl (hb hby d1_3) rfl ?_
    refine XS.aloadN X0.here hx rfl (hb hby d1_5) rfl rfl ?_
    refine X0.arraylength hx (by rw [e0]; exact Ar_1.1) (State.isArrayOf_alike hZ.alike Ar_1.2.1) (g := (mkF m 6 #[.val (.ref aa1), .val (.ref aa2), .val (.ref aa3), .val (.int pp4), .val (.int (0 : Int32))] [(.ref aa1), (.int (0 : Int32))])) rfl rfl (hb hby d1_6) _ ?_
    rw [len_of Sz_1 Nn_1]
    refine XS.icmpNo X0.here hx rfl (hb hby d1_7) rfl (tlt hc7).2.1 ?_
    refine XS.aloadN X0.here hx rfl (hb hby d1_10) rfl rfl ?_
    refine XS.iloadN X0.here hx rfl (hb hby d1_11) rfl ?_
    refine XS.iload X0.here hx rfl (hb hby d1_12) rfl ?_
    refine XS.iadd X0.here hx rfl (hb hby d1_14) rfl ?_
    refine XS.aloadN X0.here hx rfl (hb hby d1_15) rfl rfl ?_
    refine XS.aloadN X0.here hx rfl (hb hby d1_16) rfl rfl ?_
    refine XS.iload X0.here hx rfl (hb hby d1_17) rfl ?_
    refine X0.iaload hx (j := (0 : Int32)) (v := (.int j0)) (by rw [e0]; exact Ar_2.1) (State.isArrayOf_alike hZ.alike Ar_2.2.1) Ar_2.2.2 hin_2 hat_2 (g := (mkF m 19 #[.val (.ref aa1), .val (.ref aa2), .val (.ref aa3), .val (.int pp4), .val (.int (0 : Int32))] [(.int (0 : Int32)), (.ref aa1), (.ref aa2), (.int (pp4 + (0 : Int32))), (.ref aa3)])) rfl rfl (hb hby d1_19) _ ?_
    refine X0.daload hx (j := j0) (v := (.double z0)) (by rw [e0]; exact Ar_3.1) (State.isArrayOf_alike hZ.alike Ar_3.2.1) Ar_3.2.2 hin_3 hat_3 (g := (mkF m 20 #[.val (.ref aa1), .val (.ref aa2), .val (.ref aa3), .val (.int pp4), .val (.int (0 : Int32))] [(.int j0), (.ref aa2), (.int (pp4 + (0 : Int32))), (.ref aa3)])) rfl rfl (hb hby d1_20) _ ?_
    refine st5 _ ?_
    refine XS.iinc X5.here hx rfl (hb hby d1_22) rfl (l' := #[.val (.ref aa1), .val (.ref aa2), .val (.ref aa3), .val (.int pp4), .val (.int (1 : Int32))]) rfl ?_
    refine XS.goto X5.here hx rfl (pc0 := 25) (pc' := 3) rfl (hb hby d1_25) (by decide) (by decide) ?_
    refine XS.iload X5.here hx rfl (hb hby d1_3) rfl ?_
    refine XS.aloadN X5.here hx rfl (hb hby d1_5) rfl rfl ?_
    refine X5.arraylength hx (by rw [e5]; exact Ar_7.1) (State.isArrayOf_alike hZ.alike Ar_7.2.1) (g := (mkF m 6 #[.val (.ref aa1), .val (.ref aa2), .val (.ref aa3), .val (.int pp4), .val (.int (1 : Int32))] [(.ref aa1), (.int (1 : Int32))])) rfl rfl (hb hby d1_6) _ ?_
    rw [len_of Sz_7 Nn_7]
    refine XS.icmpNo X5.here hx rfl (hb hby d1_7) rfl (tlt hc7_2).2.1 ?_
    refine XS.aloadN X5.here hx rfl (hb hby d1_10) rfl rfl ?_
    refine XS.iloadN X5.here hx rfl (hb hby d1_11) rfl ?_
    refine XS.iload X5.here hx rfl (hb hby d1_12) rfl ?_
    refine XS.iadd X5.here hx rfl (hb hby d1_14) rfl ?_
    refine XS.aloadN X5.here hx rfl (hb hby d1_15) rfl rfl ?_
    refine XS.aloadN X5.here hx rfl (hb hby d1_16) rfl rfl ?_
    refine XS.iload X5.here hx rfl (hb hby d1_17) rfl ?_
    refine X5.iaload hx (j := (1 : Int32)) (v := (.int j1)) (by rw [e5]; exact Ar_8.1) (State.isArrayOf_alike hZ.alike Ar_8.2.1) Ar_8.2.2 hin_8 hat_8 (g := (mkF m 19 #[.val (.ref aa1), .val (.ref aa2), .val (.ref aa3), .val (.int pp4), .val (.int (1 : Int32))] [(.int (1 : Int32)), (.ref aa1), (.ref aa2), (.int (pp4 + (1 : Int32))), (.ref aa3)])) rfl rfl (hb hby d1_19) _ ?_
    refine X5.daload hx (j := j1) (v := (.double z1)) (by rw [e5]; exact Ar_10.1) (State.isArrayOf_alike hZ.alike Ar_10.2.1) Ar_10.2.2 hin_10 hat_10 (g := (mkF m 20 #[.val (.ref aa1), .val (.ref aa2), .val (.ref aa3), .val (.int pp4), .val (.int (1 : Int32))] [(.int j1), (.ref aa2), (.int (pp4 + (1 : Int32))), (.ref aa3)])) rfl rfl (hb hby d1_20) _ ?_
    refine st12 _ ?_
    refine XS.iinc X12.here hx rfl (hb hby d1_22) rfl (l' := #[.val (.ref aa1), .val (.ref aa2), .val (.ref aa3), .val (.int pp4), .val (.int (2 : Int32))]) rfl ?_
    refine XS.goto X12.here hx rfl (pc0 := 25) (pc' := 3) rfl (hb hby d1_25) (by decide) (by decide) ?_
    refine XS.iload X12.here hx rfl (hb hby d1_3) rfl ?_
    refine XS.aloadN X12.here hx rfl (hb hby d1_5) rfl rfl ?_
    refine X12.arraylength hx (by rw [e12]; exact Ar_14.1) (State.isArrayOf_alike hZ.alike Ar_14.2.1) (g := (mkF m 6 #[.val (.ref aa1), .val (.ref aa2), .val (.ref aa3), .val (.int pp4), .val (.int (2 : Int32))] [(.ref aa1), (.int (2 : Int32))])) rfl rfl (hb hby d1_6) _ ?_
    rw [len_of Sz_14 Nn_14]
    refine XS.icmpNo X12.here hx rfl (hb hby d1_7) rfl (tlt hc7_3).2.1 ?_
    refine XS.aloadN X12.here hx rfl (hb hby d1_10) rfl rfl ?_
    refine XS.iloadN X12.here hx rfl (hb hby d1_11) rfl ?_
    refine XS.iload X12.here hx rfl (hb hby d1_12) rfl ?_
    refine XS.iadd X12.here hx rfl (hb hby d1_14) rfl ?_
    refine XS.aloadN X12.here hx rfl (hb hby d1_15) rfl rfl ?_
    refine XS.aloadN X12.here hx rfl (hb hby d1_16) rfl rfl ?_
    refine XS.iload X12.here hx rfl (hb hby d1_17) rfl ?_
    refine X12.iaload hx (j := (2 : Int32)) (v := (.int j2)) (by rw [e12]; exact Ar_15.1) (State.isArrayOf_alike hZ.alike Ar_15.2.1) Ar_15.2.2 hin_15 hat_15 (g := (mkF m 19 #[.val (.ref aa1), .val (.ref aa2), .val (.ref aa3), .val (.int pp4), .val (.int (2 : Int32))] [(.int (2 : Int32)), (.ref aa1), (.ref aa2), (.int (pp4 + (2 : Int32))), (.ref aa3)])) rfl rfl (hb hby d1_19) _ ?_
    refine X12.daload hx (j := j2) (v := (.double z2)) (by rw [e12]; exact Ar_17.1) (State.isArrayOf_alike hZ.alike Ar_17.2.1) Ar_17.2.2 hin_17 hat_17 (g := (mkF m 20 #[.val (.ref aa1), .val (.ref aa2), .val (.ref aa3), .val (.int pp4), .val (.int (2 : Int32))] [(.int j2), (.ref aa2), (.int (pp4 + (2 : Int32))), (.ref aa3)])) rfl rfl (hb hby d1_20) _ ?_
    refine st19 _ ?_
    refine XS.iinc X19.here hx rfl (hb hby d1_22) rfl (l' := #[.val (.ref aa1), .val (.ref aa2), .val (.ref aa3), .val (.int pp4), .val (.int (3 : Int32))]) rfl ?_
    refine XS.goto X19.here hx rfl (pc0 := 25) (pc' := 3) rfl (hb hby d1_25) (by decide) (by decide) ?_
    refine XS.iload X19.here hx rfl (hb hby d1_3) rfl ?_
    refine XS.aloadN X19.here hx rfl (hb hby d1_5) rfl rfl ?_
    refine X19.arraylength hx (by rw [e19]; exact Ar_21.1) (State.isArrayOf_alike hZ.alike Ar_21.2.1) (g := (mkF m 6 #[.val (.ref aa1), .val (.ref aa2), .val (.ref aa3), .val (.int pp4), .val (.int (3 : Int32))] [(.ref aa1), (.int (3 : Int32))])) rfl rfl (hb hby d1_6) _ ?_
    rw [len_of Sz_21 Nn_21]
    refine XS.icmpYes X19.here hx rfl (pc0 := 7) (pc' := 28) rfl (hb hby d1_7) rfl (flt hc7_4).2.1 (by decide) (by decide) ?_
    refine XS.aloadN X19.here hx rfl (hb hby d1_28) rfl rfl ?_
    jvm_step X19.here [X19.here.top, hx, (hb hby d1_29), X19.method', Bd.returns, Value.isRef, FieldType.isReference]
    first | (intro acts; rw [hr _ acts rfl rfl rfl]) | rw [hr _ _ rfl rfl rfl]
    exact Steps.refl _
  · show Q1_3 Z aa1 aa2 aa3 pp4 ki kb kp vb vp j0 j1 j2 z0 z1 z2 h0 n0 _ T19.heap _
    rw [e19]
    exact ⟨rfl, N19, K19, V19⟩
theorem pn_com_example_splitgrain_splitgrain_parse_ChartItemsGatherPinLaw : plainName "com/example/splitgrain/splitgrain/parse/ChartItemsGatherPinLaw" = true := by first | (simp [plainName, overriddenIn]; done) | decide +kernel
theorem d2_0 : decode method_3_code 0 = .ok (.iload_n 1, 1) := by decide +kernel
theorem d2_1 : decode method_3_code 1 = .ok (.iload_n 2, 1) := by decide +kernel
theorem d2_2 : decode method_3_code 2 = .ok (.isub, 1) := by decide +kernel
theorem d2_3 : decode method_3_code 3 = .ok (.istore 8, 2) := by decide +kernel
theorem d2_5 : decode method_3_code 5 = .ok (.iload 8, 2) := by decide +kernel
theorem d2_7 : decode method_3_code 7 = .ok (.ifCond .lt 9, 3) := by decide +kernel
theorem d2_10 : decode method_3_code 10 = .ok (.iload 8, 2) := by decide +kernel
theorem d2_12 : decode method_3_code 12 = .ok (.iload_n 3, 1) := by decide +kernel
theorem d2_13 : decode method_3_code 13 = .ok (.if_icmp .lt 13, 3) := by decide +kernel
theorem d2_16 : decode method_3_code 16 = .ok (.iload_n 1, 1) := by decide +kernel
theorem d2_17 : decode method_3_code 17 = .ok (.iconst 1, 1) := by decide +kernel
theorem d2_18 : decode method_3_code 18 = .ok (.iadd, 1) := by decide +kernel
theorem d2_19 : decode method_3_code 19 = .ok (.ineg, 1) := by decide +kernel
theorem d2_20 : decode method_3_code 20 = .ok (.i2d, 1) := by decide +kernel
theorem d2_21 : decode method_3_code 21 = .ok (.dstore 9, 2) := by decide +kernel
theorem d2_23 : decode method_3_code 23 = .ok (.goto 41, 3) := by decide +kernel
theorem d2_26 : decode method_3_code 26 = .ok (.iload 8, 2) := by decide +kernel
theorem d2_28 : decode method_3_code 28 = .ok (.ifCond .ne 13, 3) := by decide +kernel
theorem d2_31 : decode method_3_code 31 = .ok (.aload 7, 2) := by decide +kernel
theorem d2_33 : decode method_3_code 33 = .ok (.iload 4, 2) := by decide +kernel
theorem d2_35 : decode method_3_code 35 = .ok (.daload, 1) := by decide +kernel
theorem d2_36 : decode method_3_code 36 = .ok (.dstore 9, 2) := by decide +kernel
theorem d2_38 : decode method_3_code 38 = .ok (.goto 26, 3) := by decide +kernel
theorem d2_41 : decode method_3_code 41 = .ok (.iload 8, 2) := by decide +kernel
theorem d2_43 : decode method_3_code 43 = .ok (.iconst 1, 1) := by decide +kernel
theorem d2_44 : decode method_3_code 44 = .ok (.if_icmp .ne 13, 3) := by decide +kernel
theorem d2_47 : decode method_3_code 47 = .ok (.aload 7, 2) := by decide +kernel
theorem d2_49 : decode method_3_code 49 = .ok (.iload 5, 2) := by decide +kernel
theorem d2_51 : decode method_3_code 51 = .ok (.daload, 1) := by decide +kernel
theorem d2_52 : decode method_3_code 52 = .ok (.dstore 9, 2) := by decide +kernel
theorem d2_54 : decode method_3_code 54 = .ok (.goto 10, 3) := by decide +kernel
theorem d2_57 : decode method_3_code 57 = .ok (.aload 7, 2) := by decide +kernel
theorem d2_59 : decode method_3_code 59 = .ok (.iload 6, 2) := by decide +kernel
theorem d2_61 : decode method_3_code 61 = .ok (.daload, 1) := by decide +kernel
theorem d2_62 : decode method_3_code 62 = .ok (.dstore 9, 2) := by decide +kernel
theorem d2_64 : decode method_3_code 64 = .ok (.aload_n 0, 1) := by decide +kernel
theorem d2_65 : decode method_3_code 65 = .ok (.iload_n 1, 1) := by decide +kernel
theorem d2_66 : decode method_3_code 66 = .ok (.daload, 1) := by decide +kernel
theorem d2_67 : decode method_3_code 67 = .ok (.dload 9, 2) := by decide +kernel
theorem d2_69 : decode method_3_code 69 = .ok (.dcmp .l, 1) := by decide +kernel
theorem d2_70 : decode method_3_code 70 = .ok (.ifCond .ne 7, 3) := by decide +kernel
theorem d2_73 : decode method_3_code 73 = .ok (.iconst 1, 1) := by decide +kernel
theorem d2_74 : decode method_3_code 74 = .ok (.goto 4, 3) := by decide +kernel
theorem d2_78 : decode method_3_code 78 = .ok (.ireturn, 1) := by decide +kernel
theorem ef_2 (m : MethodId) (x0 : Addr) (x1 : Int32) (x2 : Int32) (x3 : Int32) (x4 : Int32) (x5 : Int32) (x6 : Int32) (x7 : Addr) : entryFrame m #[(.ref x0), (.int x1), (.int x2), (.int x3), (.int x4), (.int x5), (.int x6), (.ref x7)] 11 = mkF m 0 #[.val (.ref x0), .val (.int x1), .val (.int x2), .val (.int x3), .val (.int x4), .val (.int x5), .val (.int x6), .val (.ref x7), .unset, .unset, .unset] [] := by first | (simp [entryFrame, mkF, argsToLocals, Value.category]; done) | rfl
def Q2 (Z : State) (aa1 : Addr) (pp2 : Int32) (pp3 : Int32) (pp4 : Int32) (pp5 : Int32) (pp6 : Int32) (pp7 : Int32) (aa8 : Addr) (kp : ClassId) (kb : ClassId) (vp : List Value) (vb : List Value) (xx : UInt64) (h0 : Heap) (n0 : Nat) (v : Option Value) (h : Heap) (L : List Loc) : Prop := v = some (.int (1 : Int32)) ∧ Fr n0 L ∧ h = h0
set_option maxRecDepth 65536 in
set_option maxHeartbeats 40000000 in
theorem rm2 (l : Launch) (Z : State) (a0 : Array Value) (hw : ∀ d ∈ tables_1, d.before a0 Z = true) (ws : List Jvm.Cond) (aa1 : Addr) (pp2 : Int32) (pp3 : Int32) (pp4 : Int32) (pp5 : Int32) (pp6 : Int32) (pp7 : Int32) (aa8 : Addr) (kp : ClassId) (kb : ClassId) (vp : List Value) (vb : List Value) (xx : UInt64) (h0 : Heap) (n0 : Nat) (Z0 : n0 ≤ h0.size) (V_aa1 : Arv Z h0 aa1 kp .double (8 : Int32) vp (.double (0 : UInt64))) (V_aa8 : Arv Z h0 aa8 kb .double (4 : Int32) vb (.double (0 : UInt64))) (hi : ¬ pp2 < (0 : Int32) ∧ pp2 < (8 : Int32)) (hp0 : ¬ pp5 < (0 : Int32) ∧ pp5 < (4 : Int32)) (hp1 : ¬ pp6 < (0 : Int32) ∧ pp6 < (4 : Int32)) (hp2 : ¬ pp7 < (0 : Int32) ∧ pp7 < (4 : Int32)) (hxx : (vp : List Value).getD (pp2).toNatClampNeg (.double (0 : UInt64)) = .double xx) (hnn : Jvm.Free.Fl.NoNaN64 xx) (hout : (pp2 - pp3) < (0 : Int32) ∨ ¬ (pp2 - pp3) < pp4 → FP.i2d (-(pp2 + (1 : Int32))) = xx) (hs0 : ¬ (pp2 - pp3) < (0 : Int32) → (pp2 - pp3) < pp4 → (pp2 - pp3) = (0 : Int32) → (vb : List Value).getD (pp5).toNatClampNeg (.double (0 : UInt64)) = .double xx) (hs1 : ¬ (pp2 - pp3) < (0 : Int32) → (pp2 - pp3) < pp4 → ¬ (pp2 - pp3) = (0 : Int32) → (pp2 - pp3) = (1 : Int32) → (vb : List Value).getD (pp6).toNatClampNeg (.double (0 : UInt64)) = .double xx) (hs2 : ¬ (pp2 - pp3) < (0 : Int32) → (pp2 - pp3) < pp4 → ¬ (pp2 - pp3) = (0 : Int32) → ¬ (pp2 - pp3) = (1 : Int32) → (vb : List Value).getD (pp7).toNatClampNeg (.double (0 : UInt64)) = .double xx) :
    MetFree l (⟨"com/example/splitgrain/splitgrain/parse/ChartItemsGatherPinLaw", "check", "([DIIIIII[D)Z"⟩ : MethodName) (head1 (Jvm.Cond.code (⟨"com/example/splitgrain/splitgrain/parse/ChartItemsGatherPinLaw", "check", "([DIIIIII[D)Z"⟩ : MethodName) method_3_code 11 (some .boolean) :: ws) ({ frames := 0, cells := 0, slots := 0, locals := 0 } : Room)) (fun a U => a = #[(.ref aa1), (.int pp2), (.int pp3), (.int pp4), (.int pp5), (.int pp6), (.int pp7), (.ref aa8)] ∧ Z.Warmed39 U.vm ∧ U.heap = h0) (fun _ _ _ _ _ => True) (fun _ U o U' => ∃ v L, o = .returned v ∧ Q2 Z aa1 pp2 pp3 pp4 pp5 pp6 pp7 aa8 kp kb vp vb xx h0 n0 v U'.heap L ∧ FrameEnd U o U' L ({ frames := 0, cells := 0, slots := 0, locals := 0 } : Room).cells ({ frames := 0, cells := 0, slots := 0, locals := 0 } : Room).slots) := by
  refine MetFree.of_bodySF (plainFor_of_name pn_com_example_splitgrain_splitgrain_parse_ChartItemsGatherPinLaw) hisR ?_
  intro p e s m args below meth c s₁ Bd hml0 hP hK
  obtain ⟨rfl, hZ, hh⟩ := hP
  have hx := Bd.exec
  have hby := Bd.bytes
  have hml : c.maxLocals = 11 := hml0
  have hown : s.vm.findClass "com/example/splitgrain/splitgrain/parse/ChartItemsGatherPinLaw" = some m.cls := findClass_of_methodNamed Bd.named
  have hnm := (name_of_methodNamed Bd.named Bd.method).1
  have X0 : Stand p l e ({ frames := 0, cells := 0, slots := 0, locals := 0 } : Room) s m #[(.ref aa1), (.int pp2), (.int pp3), (.int pp4), (.int pp5), (.int pp6), (.int pp7), (.ref aa8)] below meth c s₁ [] 0 0 := Stand.of_body Bd
  have e0 : s₁.heap = h0 := by rw [← hh, Bd.state]; rfl
  have N0 := Fr.nil n0
  have pre0 : ∀ t, Steps p.tables e below (s₁.setTop (mkF m 0 #[.val (.ref aa1), .val (.int pp2), .val (.int pp3), .val (.int pp4), .val (.int pp5), .val (.int pp6), .val (.int pp7), .val (.ref aa8), .unset, .unset, .unset] [])) t → Steps p.tables e below (s₁.setTop (entryFrame m #[(.ref aa1), (.int pp2), (.int pp3), (.int pp4), (.int pp5), (.int pp6), (.int pp7), (.ref aa8)] 11)) t := fun t k => castTop (ef_2 m aa1 pp2 pp3 pp4 pp5 pp6 pp7 aa8) k
  obtain ⟨T1, L1, X1, e1, N1, pre1⟩ : ∃ (T' : State) (L' : List Loc), Stand p l e ({ frames := 0, cells := 0, slots := 0, locals := 0 } : Room) s m #[(.ref aa1), (.int pp2), (.int pp3), (.int pp4), (.int pp5), (.int pp6), (.int pp7), (.ref aa8)] below meth c T' L' 0 0 ∧ T'.heap = h0 ∧ Fr n0 L' ∧ ∀ t, Steps p.tables e below (T'.setTop (mkF m 64 #[.val (.ref aa1), .val (.int pp2), .val (.int pp3), .val (.int pp4), .val (.int pp5), .val (.int pp6), .val (.int pp7), .val (.ref aa8), .val (.int (pp2 - pp3)), .val (.double xx), .second] [])) t → Steps p.tables e below (s₁.setTop (entryFrame m #[(.ref aa1), (.int pp2), (.int pp3), (.int pp4), (.int pp5), (.int pp6), (.int pp7), (.ref aa8)] 11)) t := by
    have pre2 : ∀ t, Steps p.tables e below (s₁.setTop (mkF m 7 #[.val (.ref aa1), .val (.int pp2), .val (.int pp3), .val (.int pp4), .val (.int pp5), .val (.int pp6), .val (.int pp7), .val (.ref aa8), .val (.int (pp2 - pp3)), .unset, .unset] [(.int (pp2 - pp3))])) t → Steps p.tables e below (s₁.setTop (entryFrame m #[(.ref aa1), (.int pp2), (.int pp3), (.int pp4), (.int pp5), (.int pp6), (.int pp7), (.ref aa8)] 11)) t := fun t kt => pre0 t (by
      refine XS.iloadN X0.here hx rfl (hb hby d2_0) rfl ?_
      refine XS.iloadN X0.here hx rfl (hb hby d2_1) rfl ?_
      refine XS.isub X0.here hx rfl (hb hby d2_2) rfl ?_
      refine XS.istore X0.here hx rfl (hb hby d2_3) rfl (l' := #[.val (.ref aa1), .val (.int pp2), .val (.int pp3), .val (.int pp4), .val (.int pp5), .val (.int pp6), .val (.int pp7), .val (.ref aa8), .val (.int (pp2 - pp3)), .unset, .unset]) rfl ?_
      refine XS.iload X0.here hx rfl (hb hby d2_5) rfl ?_
      exact kt)
    by_cases hc7 : (pp2 - pp3) < (0 : Int32)
    · skip
      exact ⟨_, _, X0, e0, N0, fun t kt => pre2 t (by
          refine XS.ifYes X0.here hx rfl (pc0 := 7) (pc' := 16) rfl (hb hby d2_7) rfl ((if0 _ _).trans (tlt hc7).1) (by decide) (by decide) ?_
          refine XS.iloadN X0.here hx rfl (hb hby d2_16) rfl ?_
          refine XS.iconst X0.here hx rfl (hb hby d2_17) ?_
          refine XS.iadd X0.here hx rfl (hb hby d2_18) rfl ?_
          refine XS.ineg X0.here hx rfl (hb hby d2_19) rfl ?_
          refine XS.i2dS X0.here hx rfl (hb hby d2_20) rfl (v := xx) (hout (Or.inl hc7)) ?_
          refine XS.dstore X0.here hx rfl (hb hby d2_21) rfl (l' := #[.val (.ref aa1), .val (.int pp2), .val (.int pp3), .val (.int pp4), .val (.int pp5), .val (.int pp6), .val (.int pp7), .val (.ref aa8), .val (.int (pp2 - pp3)), .val (.double xx), .second]) rfl ?_
          refine XS.goto X0.here hx rfl (pc0 := 23) (pc' := 64) rfl (hb hby d2_23) (by decide) (by decide) ?_
          exact kt)⟩
    · skip
      have pre3 : ∀ t, Steps p.tables e below (s₁.setTop (mkF m 13 #[.val (.ref aa1), .val (.int pp2), .val (.int pp3), .val (.int pp4), .val (.int pp5), .val (.int pp6), .val (.int pp7), .val (.ref aa8), .val (.int (pp2 - pp3)), .unset, .unset] [(.int pp4), (.int (pp2 - pp3))])) t → Steps p.tables e below (s₁.setTop (entryFrame m #[(.ref aa1), (.int pp2), (.int pp3), (.int pp4), (.int pp5), (.int pp6), (.int pp7), (.ref aa8)] 11)) t := fun t kt => pre2 t (by
        refine XS.ifNo X0.here hx rfl (hb hby d2_7) rfl ((if0 _ _).trans (flt hc7).1) ?_
        refine XS.iload X0.here hx rfl (hb hby d2_10) rfl ?_
        refine XS.iloadN X0.here hx rfl (hb hby d2_12) rfl ?_
        exact kt)
      by_cases hc13 : (pp2 - pp3) < pp4
      · skip
        have pre4 : ∀ t, Steps p.tables e below (s₁.setTop (mkF m 28 #[.val (.ref aa1), .val (.int pp2), .val (.int pp3), .val (.int pp4), .val (.int pp5), .val (.int pp6), .val (.int pp7), .val (.ref aa8), .val (.int (pp2 - pp3)), .unset, .unset] [(.int (pp2 - pp3))])) t → Steps p.tables e below (s₁.setTop (entryFrame m #[(.ref aa1), (.int pp2), (.int pp3), (.int pp4), (.int pp5), (.int pp6), (.int pp7), (.ref aa8)] 11)) t := fun t kt => pre3 t (by
          refine XS.icmpYes X0.here hx rfl (pc0 := 13) (pc' := 26) rfl (hb hby d2_13) rfl (tlt hc13).1 (by decide) (by decide) ?_
          refine XS.iload X0.here hx rfl (hb hby d2_26) rfl ?_
          exact kt)
        by_cases hc28 : (pp2 - pp3) = (0 : Int32)
        · skip
          obtain ⟨cl_5, Ar_5, qq_5, Sz_5, Nn_5, Hh_5, Gg_5⟩ := id V_aa8
          have hin_5 : ¬ (pp5 < 0 ∨ cl_5.slots.size ≤ (pp5).toNatClampNeg) := inb_of Sz_5 hp0
          have hat_5 : cl_5.slots[(pp5).toNatClampNeg]? = some (.double xx) := Has.at Hh_5 hin_5 (hs0 hc7 hc13 hc28)
          exact ⟨_, _, X0, e0, N0, fun t kt => pre4 t (by
              refine XS.ifNo X0.here hx rfl (hb hby d2_28) rfl ((if0 _ _).trans (teq hc28).2) ?_
              refine XS.aload X0.here hx rfl (hb hby d2_31) rfl rfl ?_
              refine XS.iload X0.here hx rfl (hb hby d2_33) rfl ?_
              refine X0.daload hx (j := pp5) (v := (.double xx)) (by rw [e0]; exact Ar_5.1) (State.isArrayOf_alike hZ.alike Ar_5.2.1) Ar_5.2.2 hin_5 hat_5 (g := (mkF m 35 #[.val (.ref aa1), .val (.int pp2), .val (.int pp3), .val (.int pp4), .val (.int pp5), .val (.int pp6), .val (.int pp7), .val (.ref aa8), .val (.int (pp2 - pp3)), .unset, .unset] [(.int pp5), (.ref aa8)])) rfl rfl (hb hby d2_35) _ ?_
              refine XS.dstore X0.here hx rfl (hb hby d2_36) rfl (l' := #[.val (.ref aa1), .val (.int pp2), .val (.int pp3), .val (.int pp4), .val (.int pp5), .val (.int pp6), .val (.int pp7), .val (.ref aa8), .val (.int (pp2 - pp3)), .val (.double xx), .second]) rfl ?_
              refine XS.goto X0.here hx rfl (pc0 := 38) (pc' := 64) rfl (hb hby d2_38) (by decide) (by decide) ?_
              exact kt)⟩
        · skip
          have pre6 : ∀ t, Steps p.tables e below (s₁.setTop (mkF m 44 #[.val (.ref aa1), .val (.int pp2), .val (.int pp3), .val (.int pp4), .val (.int pp5), .val (.int pp6), .val (.int pp7), .val (.ref aa8), .val (.int (pp2 - pp3)), .unset, .unset] [(.int (1 : Int32)), (.int (pp2 - pp3))])) t → Steps p.tables e below (s₁.setTop (entryFrame m #[(.ref aa1), (.int pp2), (.int pp3), (.int pp4), (.int pp5), (.int pp6), (.int pp7), (.ref aa8)] 11)) t := fun t kt => pre4 t (by
            refine XS.ifYes X0.here hx rfl (pc0 := 28) (pc' := 41) rfl (hb hby d2_28) rfl ((if0 _ _).trans (feq hc28).2) (by decide) (by decide) ?_
            refine XS.iload X0.here hx rfl (hb hby d2_41) rfl ?_
            refine XS.iconst X0.here hx rfl (hb hby d2_43) ?_
            exact kt)
          by_cases hc44 : (pp2 - pp3) = (1 : Int32)
          · skip
            obtain ⟨cl_7, Ar_7, qq_7, Sz_7, Nn_7, Hh_7, Gg_7⟩ := id V_aa8
            have hin_7 : ¬ (pp6 < 0 ∨ cl_7.slots.size ≤ (pp6).toNatClampNeg) := inb_of Sz_7 hp1
            have hat_7 : cl_7.slots[(pp6).toNatClampNeg]? = some (.double xx) := Has.at Hh_7 hin_7 (hs1 hc7 hc13 hc28 hc44)
            exact ⟨_, _, X0, e0, N0, fun t kt => pre6 t (by
                refine XS.icmpNo X0.here hx rfl (hb hby d2_44) rfl (teq hc44).2 ?_
                refine XS.aload X0.here hx rfl (hb hby d2_47) rfl rfl ?_
                refine XS.iload X0.here hx rfl (hb hby d2_49) rfl ?_
                refine X0.daload hx (j := pp6) (v := (.double xx)) (by rw [e0]; exact Ar_7.1) (State.isArrayOf_alike hZ.alike Ar_7.2.1) Ar_7.2.2 hin_7 hat_7 (g := (mkF m 51 #[.val (.ref aa1), .val (.int pp2), .val (.int pp3), .val (.int pp4), .val (.int pp5), .val (.int pp6), .val (.int pp7), .val (.ref aa8), .val (.int (pp2 - pp3)), .unset, .unset] [(.int pp6), (.ref aa8)])) rfl rfl (hb hby d2_51) _ ?_
                refine XS.dstore X0.here hx rfl (hb hby d2_52) rfl (l' := #[.val (.ref aa1), .val (.int pp2), .val (.int pp3), .val (.int pp4), .val (.int pp5), .val (.int pp6), .val (.int pp7), .val (.ref aa8), .val (.int (pp2 - pp3)), .val (.double xx), .second]) rfl ?_
                refine XS.goto X0.here hx rfl (pc0 := 54) (pc' := 64) rfl (hb hby d2_54) (by decide) (by decide) ?_
                exact kt)⟩
          · skip
            obtain ⟨cl_8, Ar_8, qq_8, Sz_8, Nn_8, Hh_8, Gg_8⟩ := id V_aa8
            have hin_8 : ¬ (pp7 < 0 ∨ cl_8.slots.size ≤ (pp7).toNatClampNeg) := inb_of Sz_8 hp2
            have hat_8 : cl_8.slots[(pp7).toNatClampNeg]? = some (.double xx) := Has.at Hh_8 hin_8 (hs2 hc7 hc13 hc28 hc44)
            exact ⟨_, _, X0, e0, N0, fun t kt => pre6 t (by
                refine XS.icmpYes X0.here hx rfl (pc0 := 44) (pc' := 57) rfl (hb hby d2_44) rfl (feq hc44).2 (by decide) (by decide) ?_
                refine XS.aload X0.here hx rfl (hb hby d2_57) rfl rfl ?_
                refine XS.iload X0.here hx rfl (hb hby d2_59) rfl ?_
                refine X0.daload hx (j := pp7) (v := (.double xx)) (by rw [e0]; exact Ar_8.1) (State.isArrayOf_alike hZ.alike Ar_8.2.1) Ar_8.2.2 hin_8 hat_8 (g := (mkF m 61 #[.val (.ref aa1), .val (.int pp2), .val (.int pp3), .val (.int pp4), .val (.int pp5), .val (.int pp6), .val (.int pp7), .val (.ref aa8), .val (.int (pp2 - pp3)), .unset, .unset] [(.int pp7), (.ref aa8)])) rfl rfl (hb hby d2_61) _ ?_
                refine XS.dstore X0.here hx rfl (hb hby d2_62) rfl (l' := #[.val (.ref aa1), .val (.int pp2), .val (.int pp3), .val (.int pp4), .val (.int pp5), .val (.int pp6), .val (.int pp7), .val (.ref aa8), .val (.int (pp2 - pp3)), .val (.double xx), .second]) rfl ?_
                exact kt)⟩
      · skip
        exact ⟨_, _, X0, e0, N0, fun t kt => pre3 t (by
            refine XS.icmpNo X0.here hx rfl (hb hby d2_13) rfl (flt hc13).1 ?_
            refine XS.iloadN X0.here hx rfl (hb hby d2_16) rfl ?_
            refine XS.iconst X0.here hx rfl (hb hby d2_17) ?_
            refine XS.iadd X0.here hx rfl (hb hby d2_18) rfl ?_
            refine XS.ineg X0.here hx rfl (hb hby d2_19) rfl ?_
            refine XS.i2dS X0.here hx rfl (hb hby d2_20) rfl (v := xx) (hout (Or.inr hc13)) ?_
            refine XS.dstore X0.here hx rfl (hb hby d2_21) rfl (l' := #[.val (.ref aa1), .val (.int pp2), .val (.int pp3), .val (.int pp4), .val (.int pp5), .val (.int pp6), .val (.int pp7), .val (.ref aa8), .val (.int (pp2 - pp3)), .val (.double xx), .second]) rfl ?_
            refine XS.goto X0.here hx rfl (pc0 := 23) (pc' := 64) rfl (hb hby d2_23) (by decide) (by decide) ?_
            exact kt)⟩
  obtain ⟨cl_9, Ar_9, qq_9, Sz_9, Nn_9, Hh_9, Gg_9⟩ := id V_aa1
  have hin_9 : ¬ (pp2 < 0 ∨ cl_9.slots.size ≤ (pp2).toNatClampNeg) := inb_of Sz_9 hi
  have hat_9 : cl_9.slots[(pp2).toNatClampNeg]? = some (.double xx) := Has.at Hh_9 hin_9 hxx
  have hc70 : (0 : Int32) = (0 : Int32) := by decide
  obtain ⟨fs, hr, hrun, hended, hW, hsame⟩ := X1.leave (v := some (.int (1 : Int32))) (fun h => by rw [Bd.returns] at h; cases h)
  refine ⟨_, _, pre1 _ ?_, hrun, hended, _, _, rfl, ?_, ⟨_, rfl⟩, hW, hsame.mono (by decide) (by decide)⟩
  · show Steps p.tables e below (T1.setTop (mkF m 64 #[.val (.ref aa1), .val (.int pp2), .val (.int pp3), .val (.int pp4), .val (.int pp5), .val (.int pp6), .val (.int pp7), .val (.ref aa8), .val (.int (pp2 - pp3)), .val (.double xx), .second] [])) _
    refine XS.aloadN X1.here hx rfl (hb hby d2_64) rfl rfl ?_
    refine XS.iloadN X1.here hx rfl (hb hby d2_65) rfl ?_
    refine X1.daload hx (j := pp2) (v := (.double xx)) (by rw [e1]; exact Ar_9.1) (State.isArrayOf_alike hZ.alike Ar_9.2.1) Ar_9.2.2 hin_9 hat_9 (g := (mkF m 66 #[.val (.ref aa1), .val (.int pp2), .val (.int pp3), .val (.int pp4), .val (.int pp5), .val (.int pp6), .val (.int pp7), .val (.ref aa8), .val (.int (pp2 - pp3)), .val (.double xx), .second] [(.int pp2), (.ref aa1)])) rfl rfl (hb hby d2_66) _ ?_
    refine XS.dload X1.here hx rfl (hb hby d2_67) rfl ?_
    refine XS.dcmpS X1.here hx rfl (hb hby d2_69) rfl (v := (0 : Int32)) (dcmpV_self hnn _) ?_
    refine XS.ifNo X1.here hx rfl (hb hby d2_70) rfl ((if0 _ _).trans (teq hc70).2) ?_
    refine XS.iconst X1.here hx rfl (hb hby d2_73) ?_
    refine XS.goto X1.here hx rfl (pc0 := 74) (pc' := 78) rfl (hb hby d2_74) (by decide) (by decide) ?_
    exact retN X1 hx (t := .boolean) Bd.returns (by simp) (hb hby d2_78) hr
  · show Q2 Z aa1 pp2 pp3 pp4 pp5 pp6 pp7 aa8 kp kb vp vb xx h0 n0 _ T1.heap _
    rw [e1]
    exact ⟨rfl, N1, rfl⟩
theorem own_no0 {r : Int32} (h : ¬ r < (0 : Int32)) (g : r < (0 : Int32)) (_ : ¬ r = (0 : Int32)) (_ : ¬ r = (1 : Int32)) : False := h g
theorem own_no1 {r : Int32} (h : ¬ r < (0 : Int32)) (g : r < (1 : Int32)) (n0 : ¬ r = (0 : Int32)) (n1 : ¬ r = (1 : Int32)) : False := by
  have e1 : (1 : Int32).toInt = 1 := by decide
  rw [Int32.lt_iff_toInt_lt, own_e0] at h
  rw [Int32.lt_iff_toInt_lt, e1] at g
  rw [← Int32.toInt_inj, own_e0] at n0
  omega
theorem own_no2 {r : Int32} (h : ¬ r < (0 : Int32)) (g : r < (2 : Int32)) (n0 : ¬ r = (0 : Int32)) (n1 : ¬ r = (1 : Int32)) : False := by
  have e1 : (1 : Int32).toInt = 1 := by decide
  have e2 : (2 : Int32).toInt = 2 := by decide
  rw [Int32.lt_iff_toInt_lt, own_e0] at h
  rw [Int32.lt_iff_toInt_lt, e2] at g
  rw [← Int32.toInt_inj, own_e0] at n0
  rw [← Int32.toInt_inj, e1] at n1
  omega
theorem pd__28__5b_I_5b_D_5b_DI_29__5b_D : parseMethodDescriptor "([I[D[DI)[D" = some ⟨[(.array .int), (.array .double), (.array .double), .int], some (.array .double)⟩ := by decide +kernel
theorem pd__28__5b_DIIIIII_5b_D_29_Z : parseMethodDescriptor "([DIIIIII[D)Z" = some ⟨[(.array .double), .int, .int, .int, .int, .int, .int, (.array .double)], some .boolean⟩ := by decide +kernel
theorem ef_0 (m : MethodId) (x0 : Int32) (x1 : Int32) (x2 : Int32) (x3 : Int64) : entryFrame m #[(.int x0), (.int x1), (.int x2), (.long x3)] maxLocals = mkF m 0 #[.val (.int x0), .val (.int x1), .val (.int x2), .val (.long x3), .second, .unset, .unset, .unset, .unset, .unset, .unset, .unset, .unset, .unset, .unset] [] := by first | (simp [entryFrame, mkF, argsToLocals, Value.category, maxLocals]; done) | rfl
def Q0 (Z : State) (pp1 : Int32) (pp2 : Int32) (pp3 : Int32) (qq4 : Int64) (h0 : Heap) (n0 : Nat) (v : Option Value) (h : Heap) (L : List Loc) : Prop := v = some (.int 1) ∧ Fr n0 L
set_option maxRecDepth 65536 in
set_option maxHeartbeats 40000000 in
theorem rm0 (l : Launch) (Z : State) (a0 : Array Value) (hw : ∀ d ∈ tables_1, d.before a0 Z = true) (ws : List Jvm.Cond) (pp1 : Int32) (pp2 : Int32) (pp3 : Int32) (qq4 : Int64) (h0 : Heap) (n0 : Nat) (Z0 : n0 ≤ h0.size) :
    MetFree l x (head1 (Jvm.Cond.code x code maxLocals ret :: ws) room_1) (fun a U => a = #[(.int pp1), (.int pp2), (.int pp3), (.long qq4)] ∧ Z.Warmed39 U.vm ∧ U.heap = h0) (fun _ _ _ _ _ => True) (fun _ U o U' => ∃ v L, o = .returned v ∧ Q0 Z pp1 pp2 pp3 qq4 h0 n0 v U'.heap L ∧ FrameEnd U o U' L room_1.cells room_1.slots) := by
  refine MetFree.of_bodySF (plainFor_of_name pn_com_example_splitgrain_splitgrain_parse_ChartItemsGatherPinLaw) hisR ?_
  intro p e s m args below meth c s₁ Bd hml0 hP hK
  obtain ⟨rfl, hZ, hh⟩ := hP
  have hx := Bd.exec
  have hby := Bd.bytes
  have hml : c.maxLocals = 15 := hml0
  have hown : s.vm.findClass "com/example/splitgrain/splitgrain/parse/ChartItemsGatherPinLaw" = some m.cls := findClass_of_methodNamed Bd.named
  have hnm := (name_of_methodNamed Bd.named Bd.method).1
  have X0 : Stand p l e room_1 s m #[(.int pp1), (.int pp2), (.int pp3), (.long qq4)] below meth c s₁ [] 0 0 := Stand.of_body Bd
  have e0 : s₁.heap = h0 := by rw [← hh, Bd.state]; rfl
  have N0 := Fr.nil n0
  have pre0 : ∀ t, Steps p.tables e below (s₁.setTop (mkF m 0 #[.val (.int pp1), .val (.int pp2), .val (.int pp3), .val (.long qq4), .second, .unset, .unset, .unset, .unset, .unset, .unset, .unset, .unset, .unset, .unset] [])) t → Steps p.tables e below (s₁.setTop (entryFrame m #[(.int pp1), (.int pp2), (.int pp3), (.long qq4)] maxLocals)) t := fun t k => castTop (ef_0 m pp1 pp2 pp3 qq4) k
  have pre1 : ∀ t, Steps p.tables e below (s₁.setTop (mkF m 5 #[.val (.int pp1), .val (.int pp2), .val (.int pp3), .val (.long qq4), .second, .val (.int (pp1 &&& (3 : Int32))), .unset, .unset, .unset, .unset, .unset, .unset, .unset, .unset, .unset] [])) t → Steps p.tables e below (s₁.setTop (entryFrame m #[(.int pp1), (.int pp2), (.int pp3), (.long qq4)] maxLocals)) t := fun t kt => pre0 t (by
    refine XS.iloadN X0.here hx rfl (hb hby at_0) rfl ?_
    refine XS.iconst X0.here hx rfl (hb hby at_1) ?_
    refine XS.iand X0.here hx rfl (hb hby at_2) rfl ?_
    refine XS.istore X0.here hx rfl (hb hby at_3) rfl (l' := #[.val (.int pp1), .val (.int pp2), .val (.int pp3), .val (.long qq4), .second, .val (.int (pp1 &&& (3 : Int32))), .unset, .unset, .unset, .unset, .unset, .unset, .unset, .unset, .unset]) rfl ?_
    exact kt)
  obtain ⟨nn, h_nn, pre2⟩ : ∃ (nn : Int32), (¬ nn < (0 : Int32) ∧ nn < (4 : Int32)) ∧ ∀ t, Steps p.tables e below (s₁.setTop (mkF m 5 #[.val (.int pp1), .val (.int pp2), .val (.int pp3), .val (.long qq4), .second, .val (.int nn), .unset, .unset, .unset, .unset, .unset, .unset, .unset, .unset, .unset] [])) t → Steps p.tables e below (s₁.setTop (entryFrame m #[(.int pp1), (.int pp2), (.int pp3), (.long qq4)] maxLocals)) t := ⟨(pp1 &&& (3 : Int32)), own_m4 _, pre1⟩
  rcases own_four h_nn with rfl | rfl | rfl | rfl
  · skip
    have hc14 : (9 : Int32) ≠ (0 : Int32) := (by decide)
    have pre3 : ∀ t, Steps p.tables e below (s₁.setTop (mkF m 36 #[.val (.int pp1), .val (.int pp2), .val (.int pp3), .val (.long qq4), .second, .val (.int (0 : Int32)), .val (.int ((pp2 &&& (2147483647 : Int32)) % (9 : Int32))), .val (.int (pp3 &&& (3 : Int32))), .val (.int (((pp3.toUInt32 >>> ((2 : Int32) &&& 31).toUInt32).toInt32) &&& (3 : Int32))), .val (.int (((pp3.toUInt32 >>> ((4 : Int32) &&& 31).toUInt32).toInt32) &&& (3 : Int32))), .unset, .unset, .unset, .unset, .unset] [])) t → Steps p.tables e below (s₁.setTop (entryFrame m #[(.int pp1), (.int pp2), (.int pp3), (.long qq4)] maxLocals)) t := fun t kt => pre2 t (by
      refine XS.iloadN X0.here hx rfl (hb hby at_5) rfl ?_
      refine X0.ldcInt hx hown (mvT hZ (hw _ (List.mem_of_getElem? (i := 0) rfl))) (g := (mkF m 6 #[.val (.int pp1), .val (.int pp2), .val (.int pp3), .val (.long qq4), .second, .val (.int (0 : Int32)), .unset, .unset, .unset, .unset, .unset, .unset, .unset, .unset, .unset] [(.int pp2)])) rfl (hb hby at_6) _ ?_
      refine XS.iand X0.here hx rfl (hb hby at_8) rfl ?_
      refine XS.bipush X0.here hx rfl (hb hby at_9) ?_
      refine XS.iload X0.here hx rfl (hb hby at_11) rfl ?_
      refine XS.isub X0.here hx rfl (hb hby at_13) rfl ?_
      refine iremM (g := (mkF m 14 #[.val (.int pp1), .val (.int pp2), .val (.int pp3), .val (.long qq4), .second, .val (.int (0 : Int32)), .unset, .unset, .unset, .unset, .unset, .unset, .unset, .unset, .unset] [(.int (9 : Int32)), (.int (pp2 &&& (2147483647 : Int32)))])) X0 hx rfl (hb hby at_14) rfl hc14 ?_
      refine XS.istore X0.here hx rfl (hb hby at_15) rfl (l' := #[.val (.int pp1), .val (.int pp2), .val (.int pp3), .val (.long qq4), .second, .val (.int (0 : Int32)), .val (.int ((pp2 &&& (2147483647 : Int32)) % (9 : Int32))), .unset, .unset, .unset, .unset, .unset, .unset, .unset, .unset]) rfl ?_
      refine XS.iloadN X0.here hx rfl (hb hby at_17) rfl ?_
      refine XS.iconst X0.here hx rfl (hb hby at_18) ?_
      refine XS.iand X0.here hx rfl (hb hby at_19) rfl ?_
      refine XS.istore X0.here hx rfl (hb hby at_20) rfl (l' := #[.val (.int pp1), .val (.int pp2), .val (.int pp3), .val (.long qq4), .second, .val (.int (0 : Int32)), .val (.int ((pp2 &&& (2147483647 : Int32)) % (9 : Int32))), .val (.int (pp3 &&& (3 : Int32))), .unset, .unset, .unset, .unset, .unset, .unset, .unset]) rfl ?_
      refine XS.iloadN X0.here hx rfl (hb hby at_22) rfl ?_
      refine XS.iconst X0.here hx rfl (hb hby at_23) ?_
      refine XS.iushr X0.here hx rfl (hb hby at_24) rfl ?_
      refine XS.iconst X0.here hx rfl (hb hby at_25) ?_
      refine XS.iand X0.here hx rfl (hb hby at_26) rfl ?_
      refine XS.istore X0.here hx rfl (hb hby at_27) rfl (l' := #[.val (.int pp1), .val (.int pp2), .val (.int pp3), .val (.long qq4), .second, .val (.int (0 : Int32)), .val (.int ((pp2 &&& (2147483647 : Int32)) % (9 : Int32))), .val (.int (pp3 &&& (3 : Int32))), .val (.int (((pp3.toUInt32 >>> ((2 : Int32) &&& 31).toUInt32).toInt32) &&& (3 : Int32))), .unset, .unset, .unset, .unset, .unset, .unset]) rfl ?_
      refine XS.iloadN X0.here hx rfl (hb hby at_29) rfl ?_
      refine XS.iconst X0.here hx rfl (hb hby at_30) ?_
      refine XS.iushr X0.here hx rfl (hb hby at_31) rfl ?_
      refine XS.iconst X0.here hx rfl (hb hby at_32) ?_
      refine XS.iand X0.here hx rfl (hb hby at_33) rfl ?_
      refine XS.istore X0.here hx rfl (hb hby at_34) rfl (l' := #[.val (.int pp1), .val (.int pp2), .val (.int pp3), .val (.long qq4), .second, .val (.int (0 : Int32)), .val (.int ((pp2 &&& (2147483647 : Int32)) % (9 : Int32))), .val (.int (pp3 &&& (3 : Int32))), .val (.int (((pp3.toUInt32 >>> ((2 : Int32) &&& 31).toUInt32).toInt32) &&& (3 : Int32))), .val (.int (((pp3.toUInt32 >>> ((4 : Int32) &&& 31).toUInt32).toInt32) &&& (3 : Int32))), .unset, .unset, .unset, .unset, .unset]) rfl ?_
      exact kt)
    obtain ⟨of, p0, p1, p2, h_of, h_p0, h_p1, h_p2, pre4⟩ : ∃ (of : Int32) (p0 : Int32) (p1 : Int32) (p2 : Int32), (0 ≤ of.toInt ∧ of.toInt < 9) ∧ (¬ p0 < (0 : Int32) ∧ p0 < (4 : Int32)) ∧ (¬ p1 < (0 : Int32) ∧ p1 < (4 : Int32)) ∧ (¬ p2 < (0 : Int32) ∧ p2 < (4 : Int32)) ∧ ∀ t, Steps p.tables e below (s₁.setTop (mkF m 36 #[.val (.int pp1), .val (.int pp2), .val (.int pp3), .val (.long qq4), .second, .val (.int (0 : Int32)), .val (.int of), .val (.int p0), .val (.int p1), .val (.int p2), .unset, .unset, .unset, .unset, .unset] [])) t → Steps p.tables e below (s₁.setTop (entryFrame m #[(.int pp1), (.int pp2), (.int pp3), (.long qq4)] maxLocals)) t := ⟨((pp2 &&& (2147483647 : Int32)) % (9 : Int32)), (pp3 &&& (3 : Int32)), (((pp3.toUInt32 >>> ((2 : Int32) &&& 31).toUInt32).toInt32) &&& (3 : Int32)), (((pp3.toUInt32 >>> ((4 : Int32) &&& 31).toUInt32).toInt32) &&& (3 : Int32)), own_off (k := 9) (by decide) (by decide), own_m4 _, own_m4 _, own_m4 _, pre3⟩
    obtain ⟨T5, h5, k5, X5, e5, E5, A5, st5⟩ := newP X0 hx hZ (hw _ (List.mem_of_getElem? (i := 1) rfl)) e0 (g := (mkF m 37 #[.val (.int pp1), .val (.int pp2), .val (.int pp3), .val (.long qq4), .second, .val (.int (0 : Int32)), .val (.int of), .val (.int p0), .val (.int p1), .val (.int p2), .unset, .unset, .unset, .unset, .unset] [(.int (4 : Int32))])) rfl (hb hby at_37) rfl (by decide) (cap := 4) (by decide) (by decide) (by decide) (by decide)
    obtain ⟨b5, g5⟩ : ∃ z, z = h0.size := ⟨_, rfl⟩
    rw [← g5] at A5 st5
    have g_b5 : n0 ≤ b5 := Nat.le_trans Z0 (Nat.le_of_eq g5.symm)
    have Z5 : n0 ≤ h5.size := Nat.le_trans Z0 E5.1
    have V5 : Arv Z h5 b5 k5 .double (4 : Int32) [(.double (0 : UInt64)), (.double (0 : UInt64)), (.double (0 : UInt64)), (.double (0 : UInt64))] (.double (0 : UInt64)) := (Arv.new A5 (by decide)).pad (pad_rep [] (.double (0 : UInt64)) 4)
    have pre6 : ∀ t, Steps p.tables e below (T5.setTop (mkF m 50 #[.val (.int pp1), .val (.int pp2), .val (.int pp3), .val (.long qq4), .second, .val (.int (0 : Int32)), .val (.int of), .val (.int p0), .val (.int p1), .val (.int p2), .val (.ref b5), .unset, .unset, .unset, .unset] [(.double (FP.l2d (qq4 &&& (255 : Int64)))), (.int (0 : Int32)), (.ref b5)])) t → Steps p.tables e below (s₁.setTop (entryFrame m #[(.int pp1), (.int pp2), (.int pp3), (.long qq4)] maxLocals)) t := fun t kt => pre4 t (by
      refine XS.iconst X0.here hx rfl (hb hby at_36) ?_
      refine st5 _ ?_
      refine XS.astore X5.here hx rfl (hb hby at_39) rfl rfl (l' := #[.val (.int pp1), .val (.int pp2), .val (.int pp3), .val (.long qq4), .second, .val (.int (0 : Int32)), .val (.int of), .val (.int p0), .val (.int p1), .val (.int p2), .val (.ref b5), .unset, .unset, .unset, .unset]) rfl ?_
      refine XS.aload X5.here hx rfl (hb hby at_41) rfl rfl ?_
      refine XS.iconst X5.here hx rfl (hb hby at_43) ?_
      refine XS.lloadN X5.here hx rfl (hb hby at_44) rfl ?_
      refine X5.ldc2Long hx hown (mvT hZ (hw _ (List.mem_of_getElem? (i := 2) rfl))) (g := (mkF m 45 #[.val (.int pp1), .val (.int pp2), .val (.int pp3), .val (.long qq4), .second, .val (.int (0 : Int32)), .val (.int of), .val (.int p0), .val (.int p1), .val (.int p2), .val (.ref b5), .unset, .unset, .unset, .unset] [(.long qq4), (.int (0 : Int32)), (.ref b5)])) rfl (hb hby at_45) _ ?_
      refine XS.land X5.here hx rfl (hb hby at_48) rfl ?_
      refine XS.l2dS X5.here hx rfl (hb hby at_49) rfl (v := (FP.l2d (qq4 &&& (255 : Int64)))) rfl ?_
      exact kt)
    obtain ⟨y0, h_y0, pre7⟩ : ∃ (y0 : UInt64), (Jvm.Free.Fl.NoNaN64 y0) ∧ ∀ t, Steps p.tables e below (T5.setTop (mkF m 50 #[.val (.int pp1), .val (.int pp2), .val (.int pp3), .val (.long qq4), .second, .val (.int (0 : Int32)), .val (.int of), .val (.int p0), .val (.int p1), .val (.int p2), .val (.ref b5), .unset, .unset, .unset, .unset] [(.double y0), (.int (0 : Int32)), (.ref b5)])) t → Steps p.tables e below (s₁.setTop (entryFrame m #[(.int pp1), (.int pp2), (.int pp3), (.long qq4)] maxLocals)) t := ⟨(FP.l2d (qq4 &&& (255 : Int64))), nn_w rfl, pre6⟩
    obtain ⟨cl_8, Ar_8, qq_8, Sz_8, Nn_8, Hh_8, Gg_8⟩ := id V5
    have hin_8 : ¬ ((0 : Int32) < 0 ∨ cl_8.slots.size ≤ ((0 : Int32)).toNatClampNeg) := inb_of Sz_8 ⟨by decide, by decide⟩
    obtain ⟨T9, h9, X9, e9, W9, st9⟩ := stD X5 hx hZ e5 Ar_8 (j := (0 : Int32)) hin_8 (g := (mkF m 50 #[.val (.int pp1), .val (.int pp2), .val (.int pp3), .val (.long qq4), .second, .val (.int (0 : Int32)), .val (.int of), .val (.int p0), .val (.int p1), .val (.int p2), .val (.ref b5), .unset, .unset, .unset, .unset] [(.double y0), (.int (0 : Int32)), (.ref b5)])) rfl rfl (hb hby at_50)
    have N9 := Fr.snoc X9 N0 g_b5
    have Z9 : n0 ≤ h9.size := Nat.le_trans Z5 (Keep.of_wr W9).1
    have V9 : Arv Z h9 b5 k5 .double (4 : Int32) [(.double y0), (.double (0 : UInt64)), (.double (0 : UInt64)), (.double (0 : UInt64))] (.double (0 : UInt64)) := Arv.set Ar_8 qq_8 Sz_8 Nn_8 Hh_8 Gg_8 rfl W9 0 rfl (Nat.le_of_ble_eq_true rfl)
    have pre10 : ∀ t, Steps p.tables e below (T9.setTop (mkF m 67 #[.val (.int pp1), .val (.int pp2), .val (.int pp3), .val (.long qq4), .second, .val (.int (0 : Int32)), .val (.int of), .val (.int p0), .val (.int p1), .val (.int p2), .val (.ref b5), .unset, .unset, .unset, .unset] [(.double (FP.l2d ((1000 : Int64) + (((qq4.toUInt64 >>> ((8 : Int32) &&& 0x3f).toInt64.toUInt64).toInt64) &&& (255 : Int64))))), (.int (1 : Int32)), (.ref b5)])) t → Steps p.tables e below (s₁.setTop (entryFrame m #[(.int pp1), (.int pp2), (.int pp3), (.long qq4)] maxLocals)) t := fun t kt => pre7 t (by
      refine st9 _ ?_
      refine XS.aload X9.here hx rfl (hb hby at_51) rfl rfl ?_
      refine XS.iconst X9.here hx rfl (hb hby at_53) ?_
      refine X9.ldc2Long hx hown (mvT hZ (hw _ (List.mem_of_getElem? (i := 3) rfl))) (g := (mkF m 54 #[.val (.int pp1), .val (.int pp2), .val (.int pp3), .val (.long qq4), .second, .val (.int (0 : Int32)), .val (.int of), .val (.int p0), .val (.int p1), .val (.int p2), .val (.ref b5), .unset, .unset, .unset, .unset] [(.int (1 : Int32)), (.ref b5)])) rfl (hb hby at_54) _ ?_
      refine XS.lloadN X9.here hx rfl (hb hby at_57) rfl ?_
      refine XS.bipush X9.here hx rfl (hb hby at_58) ?_
      refine XS.lushr X9.here hx rfl (hb hby at_60) rfl ?_
      refine X9.ldc2Long hx hown (mvT hZ (hw _ (List.mem_of_getElem? (i := 2) rfl))) (g := (mkF m 61 #[.val (.int pp1), .val (.int pp2), .val (.int pp3), .val (.long qq4), .second, .val (.int (0 : Int32)), .val (.int of), .val (.int p0), .val (.int p1), .val (.int p2), .val (.ref b5), .unset, .unset, .unset, .unset] [(.long ((qq4.toUInt64 >>> ((8 : Int32) &&& 0x3f).toInt64.toUInt64).toInt64)), (.long (1000 : Int64)), (.int (1 : Int32)), (.ref b5)])) rfl (hb hby at_61) _ ?_
      refine XS.land X9.here hx rfl (hb hby at_64) rfl ?_
      refine XS.ladd X9.here hx rfl (hb hby at_65) rfl ?_
      refine XS.l2dS X9.here hx rfl (hb hby at_66) rfl (v := (FP.l2d ((1000 : Int64) + (((qq4.toUInt64 >>> ((8 : Int32) &&& 0x3f).toInt64.toUInt64).toInt64) &&& (255 : Int64))))) rfl ?_
      exact kt)
    obtain ⟨y1, h_y1, pre11⟩ : ∃ (y1 : UInt64), (Jvm.Free.Fl.NoNaN64 y1) ∧ ∀ t, Steps p.tables e below (T9.setTop (mkF m 67 #[.val (.int pp1), .val (.int pp2), .val (.int pp3), .val (.long qq4), .second, .val (.int (0 : Int32)), .val (.int of), .val (.int p0), .val (.int p1), .val (.int p2), .val (.ref b5), .unset, .unset, .unset, .unset] [(.double y1), (.int (1 : Int32)), (.ref b5)])) t → Steps p.tables e below (s₁.setTop (entryFrame m #[(.int pp1), (.int pp2), (.int pp3), (.long qq4)] maxLocals)) t := ⟨(FP.l2d ((1000 : Int64) + (((qq4.toUInt64 >>> ((8 : Int32) &&& 0x3f).toInt64.toUInt64).toInt64) &&& (255 : Int64)))), nn_w rfl, pre10⟩
    obtain ⟨cl_12, Ar_12, qq_12, Sz_12, Nn_12, Hh_12, Gg_12⟩ := id V9
    have hin_12 : ¬ ((1 : Int32) < 0 ∨ cl_12.slots.size ≤ ((1 : Int32)).toNatClampNeg) := inb_of Sz_12 ⟨by decide, by decide⟩
    obtain ⟨T13, h13, X13, e13, W13, st13⟩ := stD X9 hx hZ e9 Ar_12 (j := (1 : Int32)) hin_12 (g := (mkF m 67 #[.val (.int pp1), .val (.int pp2), .val (.int pp3), .val (.long qq4), .second, .val (.int (0 : Int32)), .val (.int of), .val (.int p0), .val (.int p1), .val (.int p2), .val (.ref b5), .unset, .unset, .unset, .unset] [(.double y1), (.int (1 : Int32)), (.ref b5)])) rfl rfl (hb hby at_67)
    have N13 := Fr.snoc X13 N9 g_b5
    have Z13 : n0 ≤ h13.size := Nat.le_trans Z9 (Keep.of_wr W13).1
    have V13 : Arv Z h13 b5 k5 .double (4 : Int32) [(.double y0), (.double y1), (.double (0 : UInt64)), (.double (0 : UInt64))] (.double (0 : UInt64)) := Arv.set Ar_12 qq_12 Sz_12 Nn_12 Hh_12 Gg_12 rfl W13 1 rfl (Nat.le_of_ble_eq_true rfl)
    have pre14 : ∀ t, Steps p.tables e below (T13.setTop (mkF m 84 #[.val (.int pp1), .val (.int pp2), .val (.int pp3), .val (.long qq4), .second, .val (.int (0 : Int32)), .val (.int of), .val (.int p0), .val (.int p1), .val (.int p2), .val (.ref b5), .unset, .unset, .unset, .unset] [(.double (FP.l2d ((2000 : Int64) + (((qq4.toUInt64 >>> ((16 : Int32) &&& 0x3f).toInt64.toUInt64).toInt64) &&& (255 : Int64))))), (.int (2 : Int32)), (.ref b5)])) t → Steps p.tables e below (s₁.setTop (entryFrame m #[(.int pp1), (.int pp2), (.int pp3), (.long qq4)] maxLocals)) t := fun t kt => pre11 t (by
      refine st13 _ ?_
      refine XS.aload X13.here hx rfl (hb hby at_68) rfl rfl ?_
      refine XS.iconst X13.here hx rfl (hb hby at_70) ?_
      refine X13.ldc2Long hx hown (mvT hZ (hw _ (List.mem_of_getElem? (i := 4) rfl))) (g := (mkF m 71 #[.val (.int pp1), .val (.int pp2), .val (.int pp3), .val (.long qq4), .second, .val (.int (0 : Int32)), .val (.int of), .val (.int p0), .val (.int p1), .val (.int p2), .val (.ref b5), .unset, .unset, .unset, .unset] [(.int (2 : Int32)), (.ref b5)])) rfl (hb hby at_71) _ ?_
      refine XS.lloadN X13.here hx rfl (hb hby at_74) rfl ?_
      refine XS.bipush X13.here hx rfl (hb hby at_75) ?_
      refine XS.lushr X13.here hx rfl (hb hby at_77) rfl ?_
      refine X13.ldc2Long hx hown (mvT hZ (hw _ (List.mem_of_getElem? (i := 2) rfl))) (g := (mkF m 78 #[.val (.int pp1), .val (.int pp2), .val (.int pp3), .val (.long qq4), .second, .val (.int (0 : Int32)), .val (.int of), .val (.int p0), .val (.int p1), .val (.int p2), .val (.ref b5), .unset, .unset, .unset, .unset] [(.long ((qq4.toUInt64 >>> ((16 : Int32) &&& 0x3f).toInt64.toUInt64).toInt64)), (.long (2000 : Int64)), (.int (2 : Int32)), (.ref b5)])) rfl (hb hby at_78) _ ?_
      refine XS.land X13.here hx rfl (hb hby at_81) rfl ?_
      refine XS.ladd X13.here hx rfl (hb hby at_82) rfl ?_
      refine XS.l2dS X13.here hx rfl (hb hby at_83) rfl (v := (FP.l2d ((2000 : Int64) + (((qq4.toUInt64 >>> ((16 : Int32) &&& 0x3f).toInt64.toUInt64).toInt64) &&& (255 : Int64))))) rfl ?_
      exact kt)
    obtain ⟨y2, h_y2, pre15⟩ : ∃ (y2 : UInt64), (Jvm.Free.Fl.NoNaN64 y2) ∧ ∀ t, Steps p.tables e below (T13.setTop (mkF m 84 #[.val (.int pp1), .val (.int pp2), .val (.int pp3), .val (.long qq4), .second, .val (.int (0 : Int32)), .val (.int of), .val (.int p0), .val (.int p1), .val (.int p2), .val (.ref b5), .unset, .unset, .unset, .unset] [(.double y2), (.int (2 : Int32)), (.ref b5)])) t → Steps p.tables e below (s₁.setTop (entryFrame m #[(.int pp1), (.int pp2), (.int pp3), (.long qq4)] maxLocals)) t := ⟨(FP.l2d ((2000 : Int64) + (((qq4.toUInt64 >>> ((16 : Int32) &&& 0x3f).toInt64.toUInt64).toInt64) &&& (255 : Int64)))), nn_w rfl, pre14⟩
    obtain ⟨cl_16, Ar_16, qq_16, Sz_16, Nn_16, Hh_16, Gg_16⟩ := id V13
    have hin_16 : ¬ ((2 : Int32) < 0 ∨ cl_16.slots.size ≤ ((2 : Int32)).toNatClampNeg) := inb_of Sz_16 ⟨by decide, by decide⟩
    obtain ⟨T17, h17, X17, e17, W17, st17⟩ := stD X13 hx hZ e13 Ar_16 (j := (2 : Int32)) hin_16 (g := (mkF m 84 #[.val (.int pp1), .val (.int pp2), .val (.int pp3), .val (.long qq4), .second, .val (.int (0 : Int32)), .val (.int of), .val (.int p0), .val (.int p1), .val (.int p2), .val (.ref b5), .unset, .unset, .unset, .unset] [(.double y2), (.int (2 : Int32)), (.ref b5)])) rfl rfl (hb hby at_84)
    have N17 := Fr.snoc X17 N13 g_b5
    have Z17 : n0 ≤ h17.size := Nat.le_trans Z13 (Keep.of_wr W17).1
    have V17 : Arv Z h17 b5 k5 .double (4 : Int32) [(.double y0), (.double y1), (.double y2), (.double (0 : UInt64))] (.double (0 : UInt64)) := Arv.set Ar_16 qq_16 Sz_16 Nn_16 Hh_16 Gg_16 rfl W17 2 rfl (Nat.le_of_ble_eq_true rfl)
    have pre18 : ∀ t, Steps p.tables e below (T17.setTop (mkF m 101 #[.val (.int pp1), .val (.int pp2), .val (.int pp3), .val (.long qq4), .second, .val (.int (0 : Int32)), .val (.int of), .val (.int p0), .val (.int p1), .val (.int p2), .val (.ref b5), .unset, .unset, .unset, .unset] [(.double (FP.l2d ((3000 : Int64) + (((qq4.toUInt64 >>> ((24 : Int32) &&& 0x3f).toInt64.toUInt64).toInt64) &&& (255 : Int64))))), (.int (3 : Int32)), (.ref b5)])) t → Steps p.tables e below (s₁.setTop (entryFrame m #[(.int pp1), (.int pp2), (.int pp3), (.long qq4)] maxLocals)) t := fun t kt => pre15 t (by
      refine st17 _ ?_
      refine XS.aload X17.here hx rfl (hb hby at_85) rfl rfl ?_
      refine XS.iconst X17.here hx rfl (hb hby at_87) ?_
      refine X17.ldc2Long hx hown (mvT hZ (hw _ (List.mem_of_getElem? (i := 5) rfl))) (g := (mkF m 88 #[.val (.int pp1), .val (.int pp2), .val (.int pp3), .val (.long qq4), .second, .val (.int (0 : Int32)), .val (.int of), .val (.int p0), .val (.int p1), .val (.int p2), .val (.ref b5), .unset, .unset, .unset, .unset] [(.int (3 : Int32)), (.ref b5)])) rfl (hb hby at_88) _ ?_
      refine XS.lloadN X17.here hx rfl (hb hby at_91) rfl ?_
      refine XS.bipush X17.here hx rfl (hb hby at_92) ?_
      refine XS.lushr X17.here hx rfl (hb hby at_94) rfl ?_
      refine X17.ldc2Long hx hown (mvT hZ (hw _ (List.mem_of_getElem? (i := 2) rfl))) (g := (mkF m 95 #[.val (.int pp1), .val (.int pp2), .val (.int pp3), .val (.long qq4), .second, .val (.int (0 : Int32)), .val (.int of), .val (.int p0), .val (.int p1), .val (.int p2), .val (.ref b5), .unset, .unset, .unset, .unset] [(.long ((qq4.toUInt64 >>> ((24 : Int32) &&& 0x3f).toInt64.toUInt64).toInt64)), (.long (3000 : Int64)), (.int (3 : Int32)), (.ref b5)])) rfl (hb hby at_95) _ ?_
      refine XS.land X17.here hx rfl (hb hby at_98) rfl ?_
      refine XS.ladd X17.here hx rfl (hb hby at_99) rfl ?_
      refine XS.l2dS X17.here hx rfl (hb hby at_100) rfl (v := (FP.l2d ((3000 : Int64) + (((qq4.toUInt64 >>> ((24 : Int32) &&& 0x3f).toInt64.toUInt64).toInt64) &&& (255 : Int64))))) rfl ?_
      exact kt)
    obtain ⟨y3, h_y3, pre19⟩ : ∃ (y3 : UInt64), (Jvm.Free.Fl.NoNaN64 y3) ∧ ∀ t, Steps p.tables e below (T17.setTop (mkF m 101 #[.val (.int pp1), .val (.int pp2), .val (.int pp3), .val (.long qq4), .second, .val (.int (0 : Int32)), .val (.int of), .val (.int p0), .val (.int p1), .val (.int p2), .val (.ref b5), .unset, .unset, .unset, .unset] [(.double y3), (.int (3 : Int32)), (.ref b5)])) t → Steps p.tables e below (s₁.setTop (entryFrame m #[(.int pp1), (.int pp2), (.int pp3), (.long qq4)] maxLocals)) t := ⟨(FP.l2d ((3000 : Int64) + (((qq4.toUInt64 >>> ((24 : Int32) &&& 0x3f).toInt64.toUInt64).toInt64) &&& (255 : Int64)))), nn_w rfl, pre18⟩
    obtain ⟨cl_20, Ar_20, qq_20, Sz_20, Nn_20, Hh_20, Gg_20⟩ := id V17
    have hin_20 : ¬ ((3 : Int32) < 0 ∨ cl_20.slots.size ≤ ((3 : Int32)).toNatClampNeg) := inb_of Sz_20 ⟨by decide, by decide⟩
    obtain ⟨T21, h21, X21, e21, W21, st21⟩ := stD X17 hx hZ e17 Ar_20 (j := (3 : Int32)) hin_20 (g := (mkF m 101 #[.val (.int pp1), .val (.int pp2), .val (.int pp3), .val (.long qq4), .second, .val (.int (0 : Int32)), .val (.int of), .val (.int p0), .val (.int p1), .val (.int p2), .val (.ref b5), .unset, .unset, .unset, .unset] [(.double y3), (.int (3 : Int32)), (.ref b5)])) rfl rfl (hb hby at_101)
    have N21 := Fr.snoc X21 N17 g_b5
    have Z21 : n0 ≤ h21.size := Nat.le_trans Z17 (Keep.of_wr W21).1
    have V21 : Arv Z h21 b5 k5 .double (4 : Int32) [(.double y0), (.double y1), (.double y2), (.double y3)] (.double (0 : UInt64)) := Arv.set Ar_20 qq_20 Sz_20 Nn_20 Hh_20 Gg_20 rfl W21 3 rfl (Nat.le_of_ble_eq_true rfl)
    obtain ⟨T22, h22, k22, X22, e22, E22, A22, st22⟩ := newP X21 hx hZ (hw _ (List.mem_of_getElem? (i := 6) rfl)) e21 (g := (mkF m 104 #[.val (.int pp1), .val (.int pp2), .val (.int pp3), .val (.long qq4), .second, .val (.int (0 : Int32)), .val (.int of), .val (.int p0), .val (.int p1), .val (.int p2), .val (.ref b5), .unset, .unset, .unset, .unset] [(.int (0 : Int32))])) rfl (hb hby at_104) rfl (by decide) (cap := 0) (by decide) (by decide) (by decide) (by decide)
    obtain ⟨b22, g22⟩ : ∃ z, z = h21.size := ⟨_, rfl⟩
    rw [← g22] at A22 st22
    have g_b22 : n0 ≤ b22 := Nat.le_trans Z21 (Nat.le_of_eq g22.symm)
    have Z22 : n0 ≤ h22.size := Nat.le_trans Z21 E22.1
    have V22 : Arv Z h22 b22 k22 .int (0 : Int32) [] (.int (0 : Int32)) := (Arv.new A22 (by decide)).pad (pad_rep [] (.int (0 : Int32)) 0)
    have hc110 : ¬ ((0 : Int32) < (0 : Int32)) := by decide
    have hc122 : ¬ ((1 : Int32) < (0 : Int32)) := by decide
    have hc134 : ¬ ((2 : Int32) < (0 : Int32)) := by decide
    obtain ⟨T23, h23, k23, X23, e23, E23, A23, st23⟩ := newP X22 hx hZ (hw _ (List.mem_of_getElem? (i := 1) rfl)) e22 (g := (mkF m 145 #[.val (.int pp1), .val (.int pp2), .val (.int pp3), .val (.long qq4), .second, .val (.int (0 : Int32)), .val (.int of), .val (.int p0), .val (.int p1), .val (.int p2), .val (.ref b5), .val (.ref b22), .unset, .unset, .unset] [(.int (8 : Int32))])) rfl (hb hby at_145) rfl (by decide) (cap := 8) (by decide) (by decide) (by decide) (by decide)
    obtain ⟨b23, g23⟩ : ∃ z, z = h22.size := ⟨_, rfl⟩
    rw [← g23] at A23 st23
    have g_b23 : n0 ≤ b23 := Nat.le_trans Z22 (Nat.le_of_eq g23.symm)
    have Z23 : n0 ≤ h23.size := Nat.le_trans Z22 E23.1
    have V23 : Arv Z h23 b23 k23 .double (8 : Int32) [(.double (0 : UInt64)), (.double (0 : UInt64)), (.double (0 : UInt64)), (.double (0 : UInt64)), (.double (0 : UInt64)), (.double (0 : UInt64)), (.double (0 : UInt64)), (.double (0 : UInt64))] (.double (0 : UInt64)) := (Arv.new A23 (by decide)).pad (pad_rep [] (.double (0 : UInt64)) 8)
    obtain ⟨cl_24, Ar_24, qq_24, Sz_24, Nn_24, Hh_24, Gg_24⟩ := id V23
    have hin_24 : ¬ ((0 : Int32) < 0 ∨ cl_24.slots.size ≤ ((0 : Int32)).toNatClampNeg) := inb_of Sz_24 ⟨by decide, by decide⟩
    obtain ⟨T25, h25, X25, e25, W25, st25⟩ := stD X23 hx hZ e23 Ar_24 (j := (0 : Int32)) hin_24 (g := (mkF m 155 #[.val (.int pp1), .val (.int pp2), .val (.int pp3), .val (.long qq4), .second, .val (.int (0 : Int32)), .val (.int of), .val (.int p0), .val (.int p1), .val (.int p2), .val (.ref b5), .val (.ref b22), .val (.ref b23), .unset, .unset] [(.double (13830554455654793216 : UInt64)), (.int (0 : Int32)), (.ref b23)])) rfl rfl (hb hby at_155)
    have N25 := Fr.snoc X25 N21 g_b23
    have Z25 : n0 ≤ h25.size := Nat.le_trans Z23 (Keep.of_wr W25).1
    have V25 : Arv Z h25 b23 k23 .double (8 : Int32) [(.double (13830554455654793216 : UInt64)), (.double (0 : UInt64)), (.double (0 : UInt64)), (.double (0 : UInt64)), (.double (0 : UInt64)), (.double (0 : UInt64)), (.double (0 : UInt64)), (.double (0 : UInt64))] (.double (0 : UInt64)) := Arv.set Ar_24 qq_24 Sz_24 Nn_24 Hh_24 Gg_24 rfl W25 0 rfl (Nat.le_of_ble_eq_true rfl)
    obtain ⟨cl_26, Ar_26, qq_26, Sz_26, Nn_26, Hh_26, Gg_26⟩ := id V25
    have hin_26 : ¬ ((1 : Int32) < 0 ∨ cl_26.slots.size ≤ ((1 : Int32)).toNatClampNeg) := inb_of Sz_26 ⟨by decide, by decide⟩
    obtain ⟨T27, h27, X27, e27, W27, st27⟩ := stD X25 hx hZ e25 Ar_26 (j := (1 : Int32)) hin_26 (g := (mkF m 162 #[.val (.int pp1), .val (.int pp2), .val (.int pp3), .val (.long qq4), .second, .val (.int (0 : Int32)), .val (.int of), .val (.int p0), .val (.int p1), .val (.int p2), .val (.ref b5), .val (.ref b22), .val (.ref b23), .unset, .unset] [(.double (13835058055282163712 : UInt64)), (.int (1 : Int32)), (.ref b23)])) rfl rfl (hb hby at_162)
    have N27 := Fr.snoc X27 N25 g_b23
    have Z27 : n0 ≤ h27.size := Nat.le_trans Z25 (Keep.of_wr W27).1
    have V27 : Arv Z h27 b23 k23 .double (8 : Int32) [(.double (13830554455654793216 : UInt64)), (.double (13835058055282163712 : UInt64)), (.double (0 : UInt64)), (.double (0 : UInt64)), (.double (0 : UInt64)), (.double (0 : UInt64)), (.double (0 : UInt64)), (.double (0 : UInt64))] (.double (0 : UInt64)) := Arv.set Ar_26 qq_26 Sz_26 Nn_26 Hh_26 Gg_26 rfl W27 1 rfl (Nat.le_of_ble_eq_true rfl)
    obtain ⟨cl_28, Ar_28, qq_28, Sz_28, Nn_28, Hh_28, Gg_28⟩ := id V27
    have hin_28 : ¬ ((2 : Int32) < 0 ∨ cl_28.slots.size ≤ ((2 : Int32)).toNatClampNeg) := inb_of Sz_28 ⟨by decide, by decide⟩
    obtain ⟨T29, h29, X29, e29, W29, st29⟩ := stD X27 hx hZ e27 Ar_28 (j := (2 : Int32)) hin_28 (g := (mkF m 169 #[.val (.int pp1), .val (.int pp2), .val (.int pp3), .val (.long qq4), .second, .val (.int (0 : Int32)), .val (.int of), .val (.int p0), .val (.int p1), .val (.int p2), .val (.ref b5), .val (.ref b22), .val (.ref b23), .unset, .unset] [(.double (13837309855095848960 : UInt64)), (.int (2 : Int32)), (.ref b23)])) rfl rfl (hb hby at_169)
    have N29 := Fr.snoc X29 N27 g_b23
    have Z29 : n0 ≤ h29.size := Nat.le_trans Z27 (Keep.of_wr W29).1
    have V29 : Arv Z h29 b23 k23 .double (8 : Int32) [(.double (13830554455654793216 : UInt64)), (.double (13835058055282163712 : UInt64)), (.double (13837309855095848960 : UInt64)), (.double (0 : UInt64)), (.double (0 : UInt64)), (.double (0 : UInt64)), (.double (0 : UInt64)), (.double (0 : UInt64))] (.double (0 : UInt64)) := Arv.set Ar_28 qq_28 Sz_28 Nn_28 Hh_28 Gg_28 rfl W29 2 rfl (Nat.le_of_ble_eq_true rfl)
    obtain ⟨cl_30, Ar_30, qq_30, Sz_30, Nn_30, Hh_30, Gg_30⟩ := id V29
    have hin_30 : ¬ ((3 : Int32) < 0 ∨ cl_30.slots.size ≤ ((3 : Int32)).toNatClampNeg) := inb_of Sz_30 ⟨by decide, by decide⟩
    obtain ⟨T31, h31, X31, e31, W31, st31⟩ := stD X29 hx hZ e29 Ar_30 (j := (3 : Int32)) hin_30 (g := (mkF m 176 #[.val (.int pp1), .val (.int pp2), .val (.int pp3), .val (.long qq4), .second, .val (.int (0 : Int32)), .val (.int of), .val (.int p0), .val (.int p1), .val (.int p2), .val (.ref b5), .val (.ref b22), .val (.ref b23), .unset, .unset] [(.double (13839561654909534208 : UInt64)), (.int (3 : Int32)), (.ref b23)])) rfl rfl (hb hby at_176)
    have N31 := Fr.snoc X31 N29 g_b23
    have Z31 : n0 ≤ h31.size := Nat.le_trans Z29 (Keep.of_wr W31).1
    have V31 : Arv Z h31 b23 k23 .double (8 : Int32) [(.double (13830554455654793216 : UInt64)), (.double (13835058055282163712 : UInt64)), (.double (13837309855095848960 : UInt64)), (.double (13839561654909534208 : UInt64)), (.double (0 : UInt64)), (.double (0 : UInt64)), (.double (0 : UInt64)), (.double (0 : UInt64))] (.double (0 : UInt64)) := Arv.set Ar_30 qq_30 Sz_30 Nn_30 Hh_30 Gg_30 rfl W31 3 rfl (Nat.le_of_ble_eq_true rfl)
    obtain ⟨cl_32, Ar_32, qq_32, Sz_32, Nn_32, Hh_32, Gg_32⟩ := id V31
    have hin_32 : ¬ ((4 : Int32) < 0 ∨ cl_32.slots.size ≤ ((4 : Int32)).toNatClampNeg) := inb_of Sz_32 ⟨by decide, by decide⟩
    obtain ⟨T33, h33, X33, e33, W33, st33⟩ := stD X31 hx hZ e31 Ar_32 (j := (4 : Int32)) hin_32 (g := (mkF m 183 #[.val (.int pp1), .val (.int pp2), .val (.int pp3), .val (.long qq4), .second, .val (.int (0 : Int32)), .val (.int of), .val (.int p0), .val (.int p1), .val (.int p2), .val (.ref b5), .val (.ref b22), .val (.ref b23), .unset, .unset] [(.double (13840687554816376832 : UInt64)), (.int (4 : Int32)), (.ref b23)])) rfl rfl (hb hby at_183)
    have N33 := Fr.snoc X33 N31 g_b23
    have Z33 : n0 ≤ h33.size := Nat.le_trans Z31 (Keep.of_wr W33).1
    have V33 : Arv Z h33 b23 k23 .double (8 : Int32) [(.double (13830554455654793216 : UInt64)), (.double (13835058055282163712 : UInt64)), (.double (13837309855095848960 : UInt64)), (.double (13839561654909534208 : UInt64)), (.double (13840687554816376832 : UInt64)), (.double (0 : UInt64)), (.double (0 : UInt64)), (.double (0 : UInt64))] (.double (0 : UInt64)) := Arv.set Ar_32 qq_32 Sz_32 Nn_32 Hh_32 Gg_32 rfl W33 4 rfl (Nat.le_of_ble_eq_true rfl)
    obtain ⟨cl_34, Ar_34, qq_34, Sz_34, Nn_34, Hh_34, Gg_34⟩ := id V33
    have hin_34 : ¬ ((5 : Int32) < 0 ∨ cl_34.slots.size ≤ ((5 : Int32)).toNatClampNeg) := inb_of Sz_34 ⟨by decide, by decide⟩
    obtain ⟨T35, h35, X35, e35, W35, st35⟩ := stD X33 hx hZ e33 Ar_34 (j := (5 : Int32)) hin_34 (g := (mkF m 190 #[.val (.int pp1), .val (.int pp2), .val (.int pp3), .val (.long qq4), .second, .val (.int (0 : Int32)), .val (.int of), .val (.int p0), .val (.int p1), .val (.int p2), .val (.ref b5), .val (.ref b22), .val (.ref b23), .unset, .unset] [(.double (13841813454723219456 : UInt64)), (.int (5 : Int32)), (.ref b23)])) rfl rfl (hb hby at_190)
    have N35 := Fr.snoc X35 N33 g_b23
    have Z35 : n0 ≤ h35.size := Nat.le_trans Z33 (Keep.of_wr W35).1
    have V35 : Arv Z h35 b23 k23 .double (8 : Int32) [(.double (13830554455654793216 : UInt64)), (.double (13835058055282163712 : UInt64)), (.double (13837309855095848960 : UInt64)), (.double (13839561654909534208 : UInt64)), (.double (13840687554816376832 : UInt64)), (.double (13841813454723219456 : UInt64)), (.double (0 : UInt64)), (.double (0 : UInt64))] (.double (0 : UInt64)) := Arv.set Ar_34 qq_34 Sz_34 Nn_34 Hh_34 Gg_34 rfl W35 5 rfl (Nat.le_of_ble_eq_true rfl)
    obtain ⟨cl_36, Ar_36, qq_36, Sz_36, Nn_36, Hh_36, Gg_36⟩ := id V35
    have hin_36 : ¬ ((6 : Int32) < 0 ∨ cl_36.slots.size ≤ ((6 : Int32)).toNatClampNeg) := inb_of Sz_36 ⟨by decide, by decide⟩
    obtain ⟨T37, h37, X37, e37, W37, st37⟩ := stD X35 hx hZ e35 Ar_36 (j := (6 : Int32)) hin_36 (g := (mkF m 198 #[.val (.int pp1), .val (.int pp2), .val (.int pp3), .val (.long qq4), .second, .val (.int (0 : Int32)), .val (.int of), .val (.int p0), .val (.int p1), .val (.int p2), .val (.ref b5), .val (.ref b22), .val (.ref b23), .unset, .unset] [(.double (13842939354630062080 : UInt64)), (.int (6 : Int32)), (.ref b23)])) rfl rfl (hb hby at_198)
    have N37 := Fr.snoc X37 N35 g_b23
    have Z37 : n0 ≤ h37.size := Nat.le_trans Z35 (Keep.of_wr W37).1
    have V37 : Arv Z h37 b23 k23 .double (8 : Int32) [(.double (13830554455654793216 : UInt64)), (.double (13835058055282163712 : UInt64)), (.double (13837309855095848960 : UInt64)), (.double (13839561654909534208 : UInt64)), (.double (13840687554816376832 : UInt64)), (.double (13841813454723219456 : UInt64)), (.double (13842939354630062080 : UInt64)), (.double (0 : UInt64))] (.double (0 : UInt64)) := Arv.set Ar_36 qq_36 Sz_36 Nn_36 Hh_36 Gg_36 rfl W37 6 rfl (Nat.le_of_ble_eq_true rfl)
    obtain ⟨cl_38, Ar_38, qq_38, Sz_38, Nn_38, Hh_38, Gg_38⟩ := id V37
    have hin_38 : ¬ ((7 : Int32) < 0 ∨ cl_38.slots.size ≤ ((7 : Int32)).toNatClampNeg) := inb_of Sz_38 ⟨by decide, by decide⟩
    obtain ⟨T39, h39, X39, e39, W39, st39⟩ := stD X37 hx hZ e37 Ar_38 (j := (7 : Int32)) hin_38 (g := (mkF m 206 #[.val (.int pp1), .val (.int pp2), .val (.int pp3), .val (.long qq4), .second, .val (.int (0 : Int32)), .val (.int of), .val (.int p0), .val (.int p1), .val (.int p2), .val (.ref b5), .val (.ref b22), .val (.ref b23), .unset, .unset] [(.double (13844065254536904704 : UInt64)), (.int (7 : Int32)), (.ref b23)])) rfl rfl (hb hby at_206)
    have N39 := Fr.snoc X39 N37 g_b23
    have Z39 : n0 ≤ h39.size := Nat.le_trans Z37 (Keep.of_wr W39).1
    have V39 : Arv Z h39 b23 k23 .double (8 : Int32) [(.double (13830554455654793216 : UInt64)), (.double (13835058055282163712 : UInt64)), (.double (13837309855095848960 : UInt64)), (.double (13839561654909534208 : UInt64)), (.double (13840687554816376832 : UInt64)), (.double (13841813454723219456 : UInt64)), (.double (13842939354630062080 : UInt64)), (.double (13844065254536904704 : UInt64))] (.double (0 : UInt64)) := Arv.set Ar_38 qq_38 Sz_38 Nn_38 Hh_38 Gg_38 rfl W39 7 rfl (Nat.le_of_ble_eq_true rfl)
    have V_40 : Arv Z h39 b22 k22 .int (0 : Int32) [] (.int (0 : Int32)) := (((((((((V22.ext E23).other W25 (Nat.ne_of_lt (Nat.lt_of_lt_of_le V22.lt (Nat.le_of_eq g23.symm)))).other W27 (Nat.ne_of_lt (Nat.lt_of_lt_of_le V22.lt (Nat.le_of_eq g23.symm)))).other W29 (Nat.ne_of_lt (Nat.lt_of_lt_of_le V22.lt (Nat.le_of_eq g23.symm)))).other W31 (Nat.ne_of_lt (Nat.lt_of_lt_of_le V22.lt (Nat.le_of_eq g23.symm)))).other W33 (Nat.ne_of_lt (Nat.lt_of_lt_of_le V22.lt (Nat.le_of_eq g23.symm)))).other W35 (Nat.ne_of_lt (Nat.lt_of_lt_of_le V22.lt (Nat.le_of_eq g23.symm)))).other W37 (Nat.ne_of_lt (Nat.lt_of_lt_of_le V22.lt (Nat.le_of_eq g23.symm)))).other W39 (Nat.ne_of_lt (Nat.lt_of_lt_of_le V22.lt (Nat.le_of_eq g23.symm))))
    have V_41 : Arv Z h39 b5 k5 .double (4 : Int32) [(.double y0), (.double y1), (.double y2), (.double y3)] (.double (0 : UInt64)) := ((((((((((V21.ext E22).ext E23).other W25 (Nat.ne_of_lt (Nat.lt_of_lt_of_le (V21.ext E22).lt (Nat.le_of_eq g23.symm)))).other W27 (Nat.ne_of_lt (Nat.lt_of_lt_of_le (V21.ext E22).lt (Nat.le_of_eq g23.symm)))).other W29 (Nat.ne_of_lt (Nat.lt_of_lt_of_le (V21.ext E22).lt (Nat.le_of_eq g23.symm)))).other W31 (Nat.ne_of_lt (Nat.lt_of_lt_of_le (V21.ext E22).lt (Nat.le_of_eq g23.symm)))).other W33 (Nat.ne_of_lt (Nat.lt_of_lt_of_le (V21.ext E22).lt (Nat.le_of_eq g23.symm)))).other W35 (Nat.ne_of_lt (Nat.lt_of_lt_of_le (V21.ext E22).lt (Nat.le_of_eq g23.symm)))).other W37 (Nat.ne_of_lt (Nat.lt_of_lt_of_le (V21.ext E22).lt (Nat.le_of_eq g23.symm)))).other W39 (Nat.ne_of_lt (Nat.lt_of_lt_of_le (V21.ext E22).lt (Nat.le_of_eq g23.symm))))
    obtain ⟨_, _, ⟨T42, L42, k42, n42⟩, -, X42, ⟨Lc42, hQ42, l42, y42, z42⟩, st42⟩ := Jvm.LawKit.callS X39 hx (y := (⟨"com/example/splitgrain/splitgrain/parse/ChartItems", "gather", "([I[D[DI)[D"⟩ : MethodName)) hown (mvT hZ (hw _ (List.mem_of_getElem? (i := 15) rfl))) (mvT hZ (hw _ (List.mem_of_getElem? (i := 16) rfl))) (mvT hZ (hw _ (List.mem_of_getElem? (i := 17) rfl))) (mvT hZ (hw _ (List.mem_of_getElem? (i := 18) rfl))) (by decide) (backOf (W := 0) (rm1_0 l Z a0 hw [] b22 b5 b23 of k22 k5 k23 [(.double y0), (.double y1), (.double y2), (.double y3)] [(.double (13830554455654793216 : UInt64)), (.double (13835058055282163712 : UInt64)), (.double (13837309855095848960 : UInt64)), (.double (13839561654909534208 : UInt64)), (.double (13840687554816376832 : UInt64)), (.double (13841813454723219456 : UInt64)), (.double (13842939354630062080 : UInt64)), (.double (13844065254536904704 : UInt64))] h39 n0 Z39 V_40 V_41 V39 g_b23 (Nat.ne_of_lt (Nat.lt_of_lt_of_le V22.lt (Nat.le_of_eq g23.symm))) (Nat.ne_of_lt (Nat.lt_of_lt_of_le (V21.ext E22).lt (Nat.le_of_eq g23.symm))) (show ([(.double (13830554455654793216 : UInt64)), (.double (13835058055282163712 : UInt64)), (.double (13837309855095848960 : UInt64)), (.double (13839561654909534208 : UInt64)), (.double (13840687554816376832 : UInt64)), (.double (13841813454723219456 : UInt64)), (.double (13842939354630062080 : UInt64)), (.double (13844065254536904704 : UInt64))] : List Value).length = 8 from rfl)) hZ (hw _ (List.mem_of_getElem? (i := 18) rfl)) (hw _ (List.mem_of_getElem? (i := 17) rfl)) (by decide) (by decide)) (g := (mkF m 215 #[.val (.int pp1), .val (.int pp2), .val (.int pp3), .val (.long qq4), .second, .val (.int (0 : Int32)), .val (.int of), .val (.int p0), .val (.int p1), .val (.int p2), .val (.ref b5), .val (.ref b22), .val (.ref b23), .unset, .unset] [(.int of), (.ref b23), (.ref b5), (.ref b22)])) rfl (by rw [hml]; rfl) (argsL := [(.ref b22), (.ref b5), (.ref b23), (.int of)]) (rest := []) (lenOf pd__28__5b_I_5b_D_5b_DI_29__5b_D rfl) rfl (by show 2 * 0 + _ ≤ _; exact Nat.le_of_eq rfl) (hb hby at_215) (fun _ _ => ⟨rfl, e39, (by decide : 3 + 0 ≤ _), (by decide : 12 + 0 ≤ _)⟩)
    dsimp only [Pt.U, Pt.locs, Pt.cells, Pt.slots] at X42 l42 y42 z42 st42 hQ42
    subst y42 z42
    obtain ⟨rfl, N42q, K42c, R42_0⟩ := hQ42
    have N42 : Fr n0 L42 := by rw [l42]; exact Fr.app N39 N42q
    have Z42 : n0 ≤ T42.heap.size := Nat.le_trans Z39 K42c.1
    change Stand _ _ _ _ _ _ _ _ _ _ _ _ 3 12 at X42
    have hc236 : ¬ ((1 : Int32) = (0 : Int32)) := by decide
    have V_43 : Arv Z T42.heap b5 k5 .double (4 : Int32) [(.double y0), (.double y1), (.double y2), (.double y3)] (.double (0 : UInt64)) := (V_41.keep K42c (ninS (Nat.ne_of_lt (Nat.lt_of_lt_of_le (V21.ext E22).lt (Nat.le_of_eq g23.symm))) nin0))
    obtain ⟨_, _, ⟨T44, L44, k44, n44⟩, -, X44, ⟨Lc44, hQ44, l44, y44, z44⟩, st44⟩ := Jvm.LawKit.callS X42 hx (y := (⟨"com/example/splitgrain/splitgrain/parse/ChartItemsGatherPinLaw", "check", "([DIIIIII[D)Z"⟩ : MethodName)) hown (mvT hZ (hw _ (List.mem_of_getElem? (i := 19) rfl))) (mvT hZ (hw _ (List.mem_of_getElem? (i := 20) rfl))) (mvT hZ (hw _ (List.mem_of_getElem? (i := 21) rfl))) (mvT hZ (hw _ (List.mem_of_getElem? (i := 22) rfl))) (by decide) (backOf (W := 0) (rm2 l Z a0 hw [] b23 (0 : Int32) of (0 : Int32) p0 p1 p2 b5 k23 k5 [(.double (13830554455654793216 : UInt64)), (.double (13835058055282163712 : UInt64)), (.double (13837309855095848960 : UInt64)), (.double (13839561654909534208 : UInt64)), (.double (13840687554816376832 : UInt64)), (.double (13841813454723219456 : UInt64)), (.double (13842939354630062080 : UInt64)), (.double (13844065254536904704 : UInt64))] [(.double y0), (.double y1), (.double y2), (.double y3)] (13830554455654793216 : UInt64) T42.heap n0 Z42 R42_0 V_43 (show ¬ (0 : Int32) < (0 : Int32) ∧ (0 : Int32) < (8 : Int32) from ⟨by decide, by decide⟩) (show ¬ p0 < (0 : Int32) ∧ p0 < (4 : Int32) from h_p0) (show ¬ p1 < (0 : Int32) ∧ p1 < (4 : Int32) from h_p1) (show ¬ p2 < (0 : Int32) ∧ p2 < (4 : Int32) from h_p2) (show ([(.double (13830554455654793216 : UInt64)), (.double (13835058055282163712 : UInt64)), (.double (13837309855095848960 : UInt64)), (.double (13839561654909534208 : UInt64)), (.double (13840687554816376832 : UInt64)), (.double (13841813454723219456 : UInt64)), (.double (13842939354630062080 : UInt64)), (.double (13844065254536904704 : UInt64))] : List Value).getD ((0 : Int32)).toNatClampNeg (.double (0 : UInt64)) = .double (13830554455654793216 : UInt64) from (show ([(.double (13830554455654793216 : UInt64)), (.double (13835058055282163712 : UInt64)), (.double (13837309855095848960 : UInt64)), (.double (13839561654909534208 : UInt64)), (.double (13840687554816376832 : UInt64)), (.double (13841813454723219456 : UInt64)), (.double (13842939354630062080 : UInt64)), (.double (13844065254536904704 : UInt64))] : List Value).getD 0 (.double (0 : UInt64)) = .double (13830554455654793216 : UInt64) from rfl)) (show Jvm.Free.Fl.NoNaN64 (13830554455654793216 : UInt64) from (by unfold Jvm.Free.Fl.NoNaN64; decide)) (show ((0 : Int32) - of) < (0 : Int32) ∨ ¬ ((0 : Int32) - of) < (0 : Int32) → FP.i2d (-((0 : Int32) + (1 : Int32))) = (13830554455654793216 : UInt64) from fun h => (show FP.i2d _ = (13830554455654793216 : UInt64) by decide +kernel).trans (own_out0 of _  _ h)) (show ¬ ((0 : Int32) - of) < (0 : Int32) → ((0 : Int32) - of) < (0 : Int32) → ((0 : Int32) - of) = (0 : Int32) → ([(.double y0), (.double y1), (.double y2), (.double y3)] : List Value).getD (p0).toNatClampNeg (.double (0 : UInt64)) = .double (13830554455654793216 : UInt64) from fun a b _ => absurd b a) (show ¬ ((0 : Int32) - of) < (0 : Int32) → ((0 : Int32) - of) < (0 : Int32) → ¬ ((0 : Int32) - of) = (0 : Int32) → ((0 : Int32) - of) = (1 : Int32) → ([(.double y0), (.double y1), (.double y2), (.double y3)] : List Value).getD (p1).toNatClampNeg (.double (0 : UInt64)) = .double (13830554455654793216 : UInt64) from fun a b c0 c1 => absurd b (by rw [c1]; decide)) (show ¬ ((0 : Int32) - of) < (0 : Int32) → ((0 : Int32) - of) < (0 : Int32) → ¬ ((0 : Int32) - of) = (0 : Int32) → ¬ ((0 : Int32) - of) = (1 : Int32) → ([(.double y0), (.double y1), (.double y2), (.double y3)] : List Value).getD (p2).toNatClampNeg (.double (0 : UInt64)) = .double (13830554455654793216 : UInt64) from fun a b c0 c1 => (own_no0 a b c0 c1).elim)) hZ (hw _ (List.mem_of_getElem? (i := 22) rfl)) (hw _ (List.mem_of_getElem? (i := 21) rfl)) (by decide) (by decide)) (g := (mkF m 254 #[.val (.int pp1), .val (.int pp2), .val (.int pp3), .val (.long qq4), .second, .val (.int (0 : Int32)), .val (.int of), .val (.int p0), .val (.int p1), .val (.int p2), .val (.ref b5), .val (.ref b22), .val (.ref b23), .val (.ref b23), .val (.int (1 : Int32))] [(.ref b5), (.int p2), (.int p1), (.int p0), (.int (0 : Int32)), (.int of), (.int (0 : Int32)), (.ref b23)])) rfl (by rw [hml]; rfl) (argsL := [(.ref b23), (.int (0 : Int32)), (.int of), (.int (0 : Int32)), (.int p0), (.int p1), (.int p2), (.ref b5)]) (rest := []) (lenOf pd__28__5b_DIIIIII_5b_D_29_Z rfl) rfl (by show 2 * 0 + _ ≤ _; exact Nat.le_of_eq rfl) (hb hby at_254) (fun _ _ => ⟨rfl, rfl, (by decide : 3 + 0 ≤ _), (by decide : 12 + 0 ≤ _)⟩)
    dsimp only [Pt.U, Pt.locs, Pt.cells, Pt.slots] at X44 l44 y44 z44 st44 hQ44
    subst y44 z44
    obtain ⟨rfl, N44q, e44⟩ := hQ44
    have N44 : Fr n0 L44 := by rw [l44]; exact Fr.app N42 N44q
    change Stand _ _ _ _ _ _ _ _ _ _ _ _ 3 12 at X44
    have hc257 : ¬ ((1 : Int32) = (0 : Int32)) := by decide
    have hc269 : ¬ ((1 : Int32) = (0 : Int32)) := by decide
    obtain ⟨_, _, ⟨T45, L45, k45, n45⟩, -, X45, ⟨Lc45, hQ45, l45, y45, z45⟩, st45⟩ := Jvm.LawKit.callS X44 hx (y := (⟨"com/example/splitgrain/splitgrain/parse/ChartItemsGatherPinLaw", "check", "([DIIIIII[D)Z"⟩ : MethodName)) hown (mvT hZ (hw _ (List.mem_of_getElem? (i := 19) rfl))) (mvT hZ (hw _ (List.mem_of_getElem? (i := 20) rfl))) (mvT hZ (hw _ (List.mem_of_getElem? (i := 21) rfl))) (mvT hZ (hw _ (List.mem_of_getElem? (i := 22) rfl))) (by decide) (backOf (W := 0) (rm2 l Z a0 hw [] b23 (1 : Int32) of (0 : Int32) p0 p1 p2 b5 k23 k5 [(.double (13830554455654793216 : UInt64)), (.double (13835058055282163712 : UInt64)), (.double (13837309855095848960 : UInt64)), (.double (13839561654909534208 : UInt64)), (.double (13840687554816376832 : UInt64)), (.double (13841813454723219456 : UInt64)), (.double (13842939354630062080 : UInt64)), (.double (13844065254536904704 : UInt64))] [(.double y0), (.double y1), (.double y2), (.double y3)] (13835058055282163712 : UInt64) T42.heap n0 Z42 R42_0 V_43 (show ¬ (1 : Int32) < (0 : Int32) ∧ (1 : Int32) < (8 : Int32) from ⟨by decide, by decide⟩) (show ¬ p0 < (0 : Int32) ∧ p0 < (4 : Int32) from h_p0) (show ¬ p1 < (0 : Int32) ∧ p1 < (4 : Int32) from h_p1) (show ¬ p2 < (0 : Int32) ∧ p2 < (4 : Int32) from h_p2) (show ([(.double (13830554455654793216 : UInt64)), (.double (13835058055282163712 : UInt64)), (.double (13837309855095848960 : UInt64)), (.double (13839561654909534208 : UInt64)), (.double (13840687554816376832 : UInt64)), (.double (13841813454723219456 : UInt64)), (.double (13842939354630062080 : UInt64)), (.double (13844065254536904704 : UInt64))] : List Value).getD ((1 : Int32)).toNatClampNeg (.double (0 : UInt64)) = .double (13835058055282163712 : UInt64) from (show ([(.double (13830554455654793216 : UInt64)), (.double (13835058055282163712 : UInt64)), (.double (13837309855095848960 : UInt64)), (.double (13839561654909534208 : UInt64)), (.double (13840687554816376832 : UInt64)), (.double (13841813454723219456 : UInt64)), (.double (13842939354630062080 : UInt64)), (.double (13844065254536904704 : UInt64))] : List Value).getD 1 (.double (0 : UInt64)) = .double (13835058055282163712 : UInt64) from rfl)) (show Jvm.Free.Fl.NoNaN64 (13835058055282163712 : UInt64) from (by unfold Jvm.Free.Fl.NoNaN64; decide)) (show ((1 : Int32) - of) < (0 : Int32) ∨ ¬ ((1 : Int32) - of) < (0 : Int32) → FP.i2d (-((1 : Int32) + (1 : Int32))) = (13835058055282163712 : UInt64) from fun h => (show FP.i2d _ = (13835058055282163712 : UInt64) by decide +kernel).trans (own_out0 of _  _ h)) (show ¬ ((1 : Int32) - of) < (0 : Int32) → ((1 : Int32) - of) < (0 : Int32) → ((1 : Int32) - of) = (0 : Int32) → ([(.double y0), (.double y1), (.double y2), (.double y3)] : List Value).getD (p0).toNatClampNeg (.double (0 : UInt64)) = .double (13835058055282163712 : UInt64) from fun a b _ => absurd b a) (show ¬ ((1 : Int32) - of) < (0 : Int32) → ((1 : Int32) - of) < (0 : Int32) → ¬ ((1 : Int32) - of) = (0 : Int32) → ((1 : Int32) - of) = (1 : Int32) → ([(.double y0), (.double y1), (.double y2), (.double y3)] : List Value).getD (p1).toNatClampNeg (.double (0 : UInt64)) = .double (13835058055282163712 : UInt64) from fun a b c0 c1 => absurd b (by rw [c1]; decide)) (show ¬ ((1 : Int32) - of) < (0 : Int32) → ((1 : Int32) - of) < (0 : Int32) → ¬ ((1 : Int32) - of) = (0 : Int32) → ¬ ((1 : Int32) - of) = (1 : Int32) → ([(.double y0), (.double y1), (.double y2), (.double y3)] : List Value).getD (p2).toNatClampNeg (.double (0 : UInt64)) = .double (13835058055282163712 : UInt64) from fun a b c0 c1 => (own_no0 a b c0 c1).elim)) hZ (hw _ (List.mem_of_getElem? (i := 22) rfl)) (hw _ (List.mem_of_getElem? (i := 21) rfl)) (by decide) (by decide)) (g := (mkF m 287 #[.val (.int pp1), .val (.int pp2), .val (.int pp3), .val (.long qq4), .second, .val (.int (0 : Int32)), .val (.int of), .val (.int p0), .val (.int p1), .val (.int p2), .val (.ref b5), .val (.ref b22), .val (.ref b23), .val (.ref b23), .val (.int (1 : Int32))] [(.ref b5), (.int p2), (.int p1), (.int p0), (.int (0 : Int32)), (.int of), (.int (1 : Int32)), (.ref b23)])) rfl (by rw [hml]; rfl) (argsL := [(.ref b23), (.int (1 : Int32)), (.int of), (.int (0 : Int32)), (.int p0), (.int p1), (.int p2), (.ref b5)]) (rest := []) (lenOf pd__28__5b_DIIIIII_5b_D_29_Z rfl) rfl (by show 2 * 0 + _ ≤ _; exact Nat.le_of_eq rfl) (hb hby at_287) (fun _ _ => ⟨rfl, e44, (by decide : 3 + 0 ≤ _), (by decide : 12 + 0 ≤ _)⟩)
    dsimp only [Pt.U, Pt.locs, Pt.cells, Pt.slots] at X45 l45 y45 z45 st45 hQ45
    subst y45 z45
    obtain ⟨rfl, N45q, e45⟩ := hQ45
    have N45 : Fr n0 L45 := by rw [l45]; exact Fr.app N44 N45q
    change Stand _ _ _ _ _ _ _ _ _ _ _ _ 3 12 at X45
    have hc290 : ¬ ((1 : Int32) = (0 : Int32)) := by decide
    have hc302 : ¬ ((1 : Int32) = (0 : Int32)) := by decide
    obtain ⟨_, _, ⟨T46, L46, k46, n46⟩, -, X46, ⟨Lc46, hQ46, l46, y46, z46⟩, st46⟩ := Jvm.LawKit.callS X45 hx (y := (⟨"com/example/splitgrain/splitgrain/parse/ChartItemsGatherPinLaw", "check", "([DIIIIII[D)Z"⟩ : MethodName)) hown (mvT hZ (hw _ (List.mem_of_getElem? (i := 19) rfl))) (mvT hZ (hw _ (List.mem_of_getElem? (i := 20) rfl))) (mvT hZ (hw _ (List.mem_of_getElem? (i := 21) rfl))) (mvT hZ (hw _ (List.mem_of_getElem? (i := 22) rfl))) (by decide) (backOf (W := 0) (rm2 l Z a0 hw [] b23 (2 : Int32) of (0 : Int32) p0 p1 p2 b5 k23 k5 [(.double (13830554455654793216 : UInt64)), (.double (13835058055282163712 : UInt64)), (.double (13837309855095848960 : UInt64)), (.double (13839561654909534208 : UInt64)), (.double (13840687554816376832 : UInt64)), (.double (13841813454723219456 : UInt64)), (.double (13842939354630062080 : UInt64)), (.double (13844065254536904704 : UInt64))] [(.double y0), (.double y1), (.double y2), (.double y3)] (13837309855095848960 : UInt64) T42.heap n0 Z42 R42_0 V_43 (show ¬ (2 : Int32) < (0 : Int32) ∧ (2 : Int32) < (8 : Int32) from ⟨by decide, by decide⟩) (show ¬ p0 < (0 : Int32) ∧ p0 < (4 : Int32) from h_p0) (show ¬ p1 < (0 : Int32) ∧ p1 < (4 : Int32) from h_p1) (show ¬ p2 < (0 : Int32) ∧ p2 < (4 : Int32) from h_p2) (show ([(.double (13830554455654793216 : UInt64)), (.double (13835058055282163712 : UInt64)), (.double (13837309855095848960 : UInt64)), (.double (13839561654909534208 : UInt64)), (.double (13840687554816376832 : UInt64)), (.double (13841813454723219456 : UInt64)), (.double (13842939354630062080 : UInt64)), (.double (13844065254536904704 : UInt64))] : List Value).getD ((2 : Int32)).toNatClampNeg (.double (0 : UInt64)) = .double (13837309855095848960 : UInt64) from (show ([(.double (13830554455654793216 : UInt64)), (.double (13835058055282163712 : UInt64)), (.double (13837309855095848960 : UInt64)), (.double (13839561654909534208 : UInt64)), (.double (13840687554816376832 : UInt64)), (.double (13841813454723219456 : UInt64)), (.double (13842939354630062080 : UInt64)), (.double (13844065254536904704 : UInt64))] : List Value).getD 2 (.double (0 : UInt64)) = .double (13837309855095848960 : UInt64) from rfl)) (show Jvm.Free.Fl.NoNaN64 (13837309855095848960 : UInt64) from (by unfold Jvm.Free.Fl.NoNaN64; decide)) (show ((2 : Int32) - of) < (0 : Int32) ∨ ¬ ((2 : Int32) - of) < (0 : Int32) → FP.i2d (-((2 : Int32) + (1 : Int32))) = (13837309855095848960 : UInt64) from fun h => (show FP.i2d _ = (13837309855095848960 : UInt64) by decide +kernel).trans (own_out0 of _  _ h)) (show ¬ ((2 : Int32) - of) < (0 : Int32) → ((2 : Int32) - of) < (0 : Int32) → ((2 : Int32) - of) = (0 : Int32) → ([(.double y0), (.double y1), (.double y2), (.double y3)] : List Value).getD (p0).toNatClampNeg (.double (0 : UInt64)) = .double (13837309855095848960 : UInt64) from fun a b _ => absurd b a) (show ¬ ((2 : Int32) - of) < (0 : Int32) → ((2 : Int32) - of) < (0 : Int32) → ¬ ((2 : Int32) - of) = (0 : Int32) → ((2 : Int32) - of) = (1 : Int32) → ([(.double y0), (.double y1), (.double y2), (.double y3)] : List Value).getD (p1).toNatClampNeg (.double (0 : UInt64)) = .double (13837309855095848960 : UInt64) from fun a b c0 c1 => absurd b (by rw [c1]; decide)) (show ¬ ((2 : Int32) - of) < (0 : Int32) → ((2 : Int32) - of) < (0 : Int32) → ¬ ((2 : Int32) - of) = (0 : Int32) → ¬ ((2 : Int32) - of) = (1 : Int32) → ([(.double y0), (.double y1), (.double y2), (.double y3)] : List Value).getD (p2).toNatClampNeg (.double (0 : UInt64)) = .double (13837309855095848960 : UInt64) from fun a b c0 c1 => (own_no0 a b c0 c1).elim)) hZ (hw _ (List.mem_of_getElem? (i := 22) rfl)) (hw _ (List.mem_of_getElem? (i := 21) rfl)) (by decide) (by decide)) (g := (mkF m 320 #[.val (.int pp1), .val (.int pp2), .val (.int pp3), .val (.long qq4), .second, .val (.int (0 : Int32)), .val (.int of), .val (.int p0), .val (.int p1), .val (.int p2), .val (.ref b5), .val (.ref b22), .val (.ref b23), .val (.ref b23), .val (.int (1 : Int32))] [(.ref b5), (.int p2), (.int p1), (.int p0), (.int (0 : Int32)), (.int of), (.int (2 : Int32)), (.ref b23)])) rfl (by rw [hml]; rfl) (argsL := [(.ref b23), (.int (2 : Int32)), (.int of), (.int (0 : Int32)), (.int p0), (.int p1), (.int p2), (.ref b5)]) (rest := []) (lenOf pd__28__5b_DIIIIII_5b_D_29_Z rfl) rfl (by show 2 * 0 + _ ≤ _; exact Nat.le_of_eq rfl) (hb hby at_320) (fun _ _ => ⟨rfl, e45, (by decide : 3 + 0 ≤ _), (by decide : 12 + 0 ≤ _)⟩)
    dsimp only [Pt.U, Pt.locs, Pt.cells, Pt.slots] at X46 l46 y46 z46 st46 hQ46
    subst y46 z46
    obtain ⟨rfl, N46q, e46⟩ := hQ46
    have N46 : Fr n0 L46 := by rw [l46]; exact Fr.app N45 N46q
    change Stand _ _ _ _ _ _ _ _ _ _ _ _ 3 12 at X46
    have hc323 : ¬ ((1 : Int32) = (0 : Int32)) := by decide
    have hc335 : ¬ ((1 : Int32) = (0 : Int32)) := by decide
    obtain ⟨_, _, ⟨T47, L47, k47, n47⟩, -, X47, ⟨Lc47, hQ47, l47, y47, z47⟩, st47⟩ := Jvm.LawKit.callS X46 hx (y := (⟨"com/example/splitgrain/splitgrain/parse/ChartItemsGatherPinLaw", "check", "([DIIIIII[D)Z"⟩ : MethodName)) hown (mvT hZ (hw _ (List.mem_of_getElem? (i := 19) rfl))) (mvT hZ (hw _ (List.mem_of_getElem? (i := 20) rfl))) (mvT hZ (hw _ (List.mem_of_getElem? (i := 21) rfl))) (mvT hZ (hw _ (List.mem_of_getElem? (i := 22) rfl))) (by decide) (backOf (W := 0) (rm2 l Z a0 hw [] b23 (3 : Int32) of (0 : Int32) p0 p1 p2 b5 k23 k5 [(.double (13830554455654793216 : UInt64)), (.double (13835058055282163712 : UInt64)), (.double (13837309855095848960 : UInt64)), (.double (13839561654909534208 : UInt64)), (.double (13840687554816376832 : UInt64)), (.double (13841813454723219456 : UInt64)), (.double (13842939354630062080 : UInt64)), (.double (13844065254536904704 : UInt64))] [(.double y0), (.double y1), (.double y2), (.double y3)] (13839561654909534208 : UInt64) T42.heap n0 Z42 R42_0 V_43 (show ¬ (3 : Int32) < (0 : Int32) ∧ (3 : Int32) < (8 : Int32) from ⟨by decide, by decide⟩) (show ¬ p0 < (0 : Int32) ∧ p0 < (4 : Int32) from h_p0) (show ¬ p1 < (0 : Int32) ∧ p1 < (4 : Int32) from h_p1) (show ¬ p2 < (0 : Int32) ∧ p2 < (4 : Int32) from h_p2) (show ([(.double (13830554455654793216 : UInt64)), (.double (13835058055282163712 : UInt64)), (.double (13837309855095848960 : UInt64)), (.double (13839561654909534208 : UInt64)), (.double (13840687554816376832 : UInt64)), (.double (13841813454723219456 : UInt64)), (.double (13842939354630062080 : UInt64)), (.double (13844065254536904704 : UInt64))] : List Value).getD ((3 : Int32)).toNatClampNeg (.double (0 : UInt64)) = .double (13839561654909534208 : UInt64) from (show ([(.double (13830554455654793216 : UInt64)), (.double (13835058055282163712 : UInt64)), (.double (13837309855095848960 : UInt64)), (.double (13839561654909534208 : UInt64)), (.double (13840687554816376832 : UInt64)), (.double (13841813454723219456 : UInt64)), (.double (13842939354630062080 : UInt64)), (.double (13844065254536904704 : UInt64))] : List Value).getD 3 (.double (0 : UInt64)) = .double (13839561654909534208 : UInt64) from rfl)) (show Jvm.Free.Fl.NoNaN64 (13839561654909534208 : UInt64) from (by unfold Jvm.Free.Fl.NoNaN64; decide)) (show ((3 : Int32) - of) < (0 : Int32) ∨ ¬ ((3 : Int32) - of) < (0 : Int32) → FP.i2d (-((3 : Int32) + (1 : Int32))) = (13839561654909534208 : UInt64) from fun h => (show FP.i2d _ = (13839561654909534208 : UInt64) by decide +kernel).trans (own_out0 of _  _ h)) (show ¬ ((3 : Int32) - of) < (0 : Int32) → ((3 : Int32) - of) < (0 : Int32) → ((3 : Int32) - of) = (0 : Int32) → ([(.double y0), (.double y1), (.double y2), (.double y3)] : List Value).getD (p0).toNatClampNeg (.double (0 : UInt64)) = .double (13839561654909534208 : UInt64) from fun a b _ => absurd b a) (show ¬ ((3 : Int32) - of) < (0 : Int32) → ((3 : Int32) - of) < (0 : Int32) → ¬ ((3 : Int32) - of) = (0 : Int32) → ((3 : Int32) - of) = (1 : Int32) → ([(.double y0), (.double y1), (.double y2), (.double y3)] : List Value).getD (p1).toNatClampNeg (.double (0 : UInt64)) = .double (13839561654909534208 : UInt64) from fun a b c0 c1 => absurd b (by rw [c1]; decide)) (show ¬ ((3 : Int32) - of) < (0 : Int32) → ((3 : Int32) - of) < (0 : Int32) → ¬ ((3 : Int32) - of) = (0 : Int32) → ¬ ((3 : Int32) - of) = (1 : Int32) → ([(.double y0), (.double y1), (.double y2), (.double y3)] : List Value).getD (p2).toNatClampNeg (.double (0 : UInt64)) = .double (13839561654909534208 : UInt64) from fun a b c0 c1 => (own_no0 a b c0 c1).elim)) hZ (hw _ (List.mem_of_getElem? (i := 22) rfl)) (hw _ (List.mem_of_getElem? (i := 21) rfl)) (by decide) (by decide)) (g := (mkF m 353 #[.val (.int pp1), .val (.int pp2), .val (.int pp3), .val (.long qq4), .second, .val (.int (0 : Int32)), .val (.int of), .val (.int p0), .val (.int p1), .val (.int p2), .val (.ref b5), .val (.ref b22), .val (.ref b23), .val (.ref b23), .val (.int (1 : Int32))] [(.ref b5), (.int p2), (.int p1), (.int p0), (.int (0 : Int32)), (.int of), (.int (3 : Int32)), (.ref b23)])) rfl (by rw [hml]; rfl) (argsL := [(.ref b23), (.int (3 : Int32)), (.int of), (.int (0 : Int32)), (.int p0), (.int p1), (.int p2), (.ref b5)]) (rest := []) (lenOf pd__28__5b_DIIIIII_5b_D_29_Z rfl) rfl (by show 2 * 0 + _ ≤ _; exact Nat.le_of_eq rfl) (hb hby at_353) (fun _ _ => ⟨rfl, e46, (by decide : 3 + 0 ≤ _), (by decide : 12 + 0 ≤ _)⟩)
    dsimp only [Pt.U, Pt.locs, Pt.cells, Pt.slots] at X47 l47 y47 z47 st47 hQ47
    subst y47 z47
    obtain ⟨rfl, N47q, e47⟩ := hQ47
    have N47 : Fr n0 L47 := by rw [l47]; exact Fr.app N46 N47q
    change Stand _ _ _ _ _ _ _ _ _ _ _ _ 3 12 at X47
    have hc356 : ¬ ((1 : Int32) = (0 : Int32)) := by decide
    have hc368 : ¬ ((1 : Int32) = (0 : Int32)) := by decide
    obtain ⟨_, _, ⟨T48, L48, k48, n48⟩, -, X48, ⟨Lc48, hQ48, l48, y48, z48⟩, st48⟩ := Jvm.LawKit.callS X47 hx (y := (⟨"com/example/splitgrain/splitgrain/parse/ChartItemsGatherPinLaw", "check", "([DIIIIII[D)Z"⟩ : MethodName)) hown (mvT hZ (hw _ (List.mem_of_getElem? (i := 19) rfl))) (mvT hZ (hw _ (List.mem_of_getElem? (i := 20) rfl))) (mvT hZ (hw _ (List.mem_of_getElem? (i := 21) rfl))) (mvT hZ (hw _ (List.mem_of_getElem? (i := 22) rfl))) (by decide) (backOf (W := 0) (rm2 l Z a0 hw [] b23 (4 : Int32) of (0 : Int32) p0 p1 p2 b5 k23 k5 [(.double (13830554455654793216 : UInt64)), (.double (13835058055282163712 : UInt64)), (.double (13837309855095848960 : UInt64)), (.double (13839561654909534208 : UInt64)), (.double (13840687554816376832 : UInt64)), (.double (13841813454723219456 : UInt64)), (.double (13842939354630062080 : UInt64)), (.double (13844065254536904704 : UInt64))] [(.double y0), (.double y1), (.double y2), (.double y3)] (13840687554816376832 : UInt64) T42.heap n0 Z42 R42_0 V_43 (show ¬ (4 : Int32) < (0 : Int32) ∧ (4 : Int32) < (8 : Int32) from ⟨by decide, by decide⟩) (show ¬ p0 < (0 : Int32) ∧ p0 < (4 : Int32) from h_p0) (show ¬ p1 < (0 : Int32) ∧ p1 < (4 : Int32) from h_p1) (show ¬ p2 < (0 : Int32) ∧ p2 < (4 : Int32) from h_p2) (show ([(.double (13830554455654793216 : UInt64)), (.double (13835058055282163712 : UInt64)), (.double (13837309855095848960 : UInt64)), (.double (13839561654909534208 : UInt64)), (.double (13840687554816376832 : UInt64)), (.double (13841813454723219456 : UInt64)), (.double (13842939354630062080 : UInt64)), (.double (13844065254536904704 : UInt64))] : List Value).getD ((4 : Int32)).toNatClampNeg (.double (0 : UInt64)) = .double (13840687554816376832 : UInt64) from (show ([(.double (13830554455654793216 : UInt64)), (.double (13835058055282163712 : UInt64)), (.double (13837309855095848960 : UInt64)), (.double (13839561654909534208 : UInt64)), (.double (13840687554816376832 : UInt64)), (.double (13841813454723219456 : UInt64)), (.double (13842939354630062080 : UInt64)), (.double (13844065254536904704 : UInt64))] : List Value).getD 4 (.double (0 : UInt64)) = .double (13840687554816376832 : UInt64) from rfl)) (show Jvm.Free.Fl.NoNaN64 (13840687554816376832 : UInt64) from (by unfold Jvm.Free.Fl.NoNaN64; decide)) (show ((4 : Int32) - of) < (0 : Int32) ∨ ¬ ((4 : Int32) - of) < (0 : Int32) → FP.i2d (-((4 : Int32) + (1 : Int32))) = (13840687554816376832 : UInt64) from fun h => (show FP.i2d _ = (13840687554816376832 : UInt64) by decide +kernel).trans (own_out0 of _  _ h)) (show ¬ ((4 : Int32) - of) < (0 : Int32) → ((4 : Int32) - of) < (0 : Int32) → ((4 : Int32) - of) = (0 : Int32) → ([(.double y0), (.double y1), (.double y2), (.double y3)] : List Value).getD (p0).toNatClampNeg (.double (0 : UInt64)) = .double (13840687554816376832 : UInt64) from fun a b _ => absurd b a) (show ¬ ((4 : Int32) - of) < (0 : Int32) → ((4 : Int32) - of) < (0 : Int32) → ¬ ((4 : Int32) - of) = (0 : Int32) → ((4 : Int32) - of) = (1 : Int32) → ([(.double y0), (.double y1), (.double y2), (.double y3)] : List Value).getD (p1).toNatClampNeg (.double (0 : UInt64)) = .double (13840687554816376832 : UInt64) from fun a b c0 c1 => absurd b (by rw [c1]; decide)) (show ¬ ((4 : Int32) - of) < (0 : Int32) → ((4 : Int32) - of) < (0 : Int32) → ¬ ((4 : Int32) - of) = (0 : Int32) → ¬ ((4 : Int32) - of) = (1 : Int32) → ([(.double y0), (.double y1), (.double y2), (.double y3)] : List Value).getD (p2).toNatClampNeg (.double (0 : UInt64)) = .double (13840687554816376832 : UInt64) from fun a b c0 c1 => (own_no0 a b c0 c1).elim)) hZ (hw _ (List.mem_of_getElem? (i := 22) rfl)) (hw _ (List.mem_of_getElem? (i := 21) rfl)) (by decide) (by decide)) (g := (mkF m 386 #[.val (.int pp1), .val (.int pp2), .val (.int pp3), .val (.long qq4), .second, .val (.int (0 : Int32)), .val (.int of), .val (.int p0), .val (.int p1), .val (.int p2), .val (.ref b5), .val (.ref b22), .val (.ref b23), .val (.ref b23), .val (.int (1 : Int32))] [(.ref b5), (.int p2), (.int p1), (.int p0), (.int (0 : Int32)), (.int of), (.int (4 : Int32)), (.ref b23)])) rfl (by rw [hml]; rfl) (argsL := [(.ref b23), (.int (4 : Int32)), (.int of), (.int (0 : Int32)), (.int p0), (.int p1), (.int p2), (.ref b5)]) (rest := []) (lenOf pd__28__5b_DIIIIII_5b_D_29_Z rfl) rfl (by show 2 * 0 + _ ≤ _; exact Nat.le_of_eq rfl) (hb hby at_386) (fun _ _ => ⟨rfl, e47, (by decide : 3 + 0 ≤ _), (by decide : 12 + 0 ≤ _)⟩)
    dsimp only [Pt.U, Pt.locs, Pt.cells, Pt.slots] at X48 l48 y48 z48 st48 hQ48
    subst y48 z48
    obtain ⟨rfl, N48q, e48⟩ := hQ48
    have N48 : Fr n0 L48 := by rw [l48]; exact Fr.app N47 N48q
    change Stand _ _ _ _ _ _ _ _ _ _ _ _ 3 12 at X48
    have hc389 : ¬ ((1 : Int32) = (0 : Int32)) := by decide
    have hc401 : ¬ ((1 : Int32) = (0 : Int32)) := by decide
    obtain ⟨_, _, ⟨T49, L49, k49, n49⟩, -, X49, ⟨Lc49, hQ49, l49, y49, z49⟩, st49⟩ := Jvm.LawKit.callS X48 hx (y := (⟨"com/example/splitgrain/splitgrain/parse/ChartItemsGatherPinLaw", "check", "([DIIIIII[D)Z"⟩ : MethodName)) hown (mvT hZ (hw _ (List.mem_of_getElem? (i := 19) rfl))) (mvT hZ (hw _ (List.mem_of_getElem? (i := 20) rfl))) (mvT hZ (hw _ (List.mem_of_getElem? (i := 21) rfl))) (mvT hZ (hw _ (List.mem_of_getElem? (i := 22) rfl))) (by decide) (backOf (W := 0) (rm2 l Z a0 hw [] b23 (5 : Int32) of (0 : Int32) p0 p1 p2 b5 k23 k5 [(.double (13830554455654793216 : UInt64)), (.double (13835058055282163712 : UInt64)), (.double (13837309855095848960 : UInt64)), (.double (13839561654909534208 : UInt64)), (.double (13840687554816376832 : UInt64)), (.double (13841813454723219456 : UInt64)), (.double (13842939354630062080 : UInt64)), (.double (13844065254536904704 : UInt64))] [(.double y0), (.double y1), (.double y2), (.double y3)] (13841813454723219456 : UInt64) T42.heap n0 Z42 R42_0 V_43 (show ¬ (5 : Int32) < (0 : Int32) ∧ (5 : Int32) < (8 : Int32) from ⟨by decide, by decide⟩) (show ¬ p0 < (0 : Int32) ∧ p0 < (4 : Int32) from h_p0) (show ¬ p1 < (0 : Int32) ∧ p1 < (4 : Int32) from h_p1) (show ¬ p2 < (0 : Int32) ∧ p2 < (4 : Int32) from h_p2) (show ([(.double (13830554455654793216 : UInt64)), (.double (13835058055282163712 : UInt64)), (.double (13837309855095848960 : UInt64)), (.double (13839561654909534208 : UInt64)), (.double (13840687554816376832 : UInt64)), (.double (13841813454723219456 : UInt64)), (.double (13842939354630062080 : UInt64)), (.double (13844065254536904704 : UInt64))] : List Value).getD ((5 : Int32)).toNatClampNeg (.double (0 : UInt64)) = .double (13841813454723219456 : UInt64) from (show ([(.double (13830554455654793216 : UInt64)), (.double (13835058055282163712 : UInt64)), (.double (13837309855095848960 : UInt64)), (.double (13839561654909534208 : UInt64)), (.double (13840687554816376832 : UInt64)), (.double (13841813454723219456 : UInt64)), (.double (13842939354630062080 : UInt64)), (.double (13844065254536904704 : UInt64))] : List Value).getD 5 (.double (0 : UInt64)) = .double (13841813454723219456 : UInt64) from rfl)) (show Jvm.Free.Fl.NoNaN64 (13841813454723219456 : UInt64) from (by unfold Jvm.Free.Fl.NoNaN64; decide)) (show ((5 : Int32) - of) < (0 : Int32) ∨ ¬ ((5 : Int32) - of) < (0 : Int32) → FP.i2d (-((5 : Int32) + (1 : Int32))) = (13841813454723219456 : UInt64) from fun h => (show FP.i2d _ = (13841813454723219456 : UInt64) by decide +kernel).trans (own_out0 of _  _ h)) (show ¬ ((5 : Int32) - of) < (0 : Int32) → ((5 : Int32) - of) < (0 : Int32) → ((5 : Int32) - of) = (0 : Int32) → ([(.double y0), (.double y1), (.double y2), (.double y3)] : List Value).getD (p0).toNatClampNeg (.double (0 : UInt64)) = .double (13841813454723219456 : UInt64) from fun a b _ => absurd b a) (show ¬ ((5 : Int32) - of) < (0 : Int32) → ((5 : Int32) - of) < (0 : Int32) → ¬ ((5 : Int32) - of) = (0 : Int32) → ((5 : Int32) - of) = (1 : Int32) → ([(.double y0), (.double y1), (.double y2), (.double y3)] : List Value).getD (p1).toNatClampNeg (.double (0 : UInt64)) = .double (13841813454723219456 : UInt64) from fun a b c0 c1 => absurd b (by rw [c1]; decide)) (show ¬ ((5 : Int32) - of) < (0 : Int32) → ((5 : Int32) - of) < (0 : Int32) → ¬ ((5 : Int32) - of) = (0 : Int32) → ¬ ((5 : Int32) - of) = (1 : Int32) → ([(.double y0), (.double y1), (.double y2), (.double y3)] : List Value).getD (p2).toNatClampNeg (.double (0 : UInt64)) = .double (13841813454723219456 : UInt64) from fun a b c0 c1 => (own_no0 a b c0 c1).elim)) hZ (hw _ (List.mem_of_getElem? (i := 22) rfl)) (hw _ (List.mem_of_getElem? (i := 21) rfl)) (by decide) (by decide)) (g := (mkF m 419 #[.val (.int pp1), .val (.int pp2), .val (.int pp3), .val (.long qq4), .second, .val (.int (0 : Int32)), .val (.int of), .val (.int p0), .val (.int p1), .val (.int p2), .val (.ref b5), .val (.ref b22), .val (.ref b23), .val (.ref b23), .val (.int (1 : Int32))] [(.ref b5), (.int p2), (.int p1), (.int p0), (.int (0 : Int32)), (.int of), (.int (5 : Int32)), (.ref b23)])) rfl (by rw [hml]; rfl) (argsL := [(.ref b23), (.int (5 : Int32)), (.int of), (.int (0 : Int32)), (.int p0), (.int p1), (.int p2), (.ref b5)]) (rest := []) (lenOf pd__28__5b_DIIIIII_5b_D_29_Z rfl) rfl (by show 2 * 0 + _ ≤ _; exact Nat.le_of_eq rfl) (hb hby at_419) (fun _ _ => ⟨rfl, e48, (by decide : 3 + 0 ≤ _), (by decide : 12 + 0 ≤ _)⟩)
    dsimp only [Pt.U, Pt.locs, Pt.cells, Pt.slots] at X49 l49 y49 z49 st49 hQ49
    subst y49 z49
    obtain ⟨rfl, N49q, e49⟩ := hQ49
    have N49 : Fr n0 L49 := by rw [l49]; exact Fr.app N48 N49q
    change Stand _ _ _ _ _ _ _ _ _ _ _ _ 3 12 at X49
    have hc422 : ¬ ((1 : Int32) = (0 : Int32)) := by decide
    have hc434 : ¬ ((1 : Int32) = (0 : Int32)) := by decide
    obtain ⟨_, _, ⟨T50, L50, k50, n50⟩, -, X50, ⟨Lc50, hQ50, l50, y50, z50⟩, st50⟩ := Jvm.LawKit.callS X49 hx (y := (⟨"com/example/splitgrain/splitgrain/parse/ChartItemsGatherPinLaw", "check", "([DIIIIII[D)Z"⟩ : MethodName)) hown (mvT hZ (hw _ (List.mem_of_getElem? (i := 19) rfl))) (mvT hZ (hw _ (List.mem_of_getElem? (i := 20) rfl))) (mvT hZ (hw _ (List.mem_of_getElem? (i := 21) rfl))) (mvT hZ (hw _ (List.mem_of_getElem? (i := 22) rfl))) (by decide) (backOf (W := 0) (rm2 l Z a0 hw [] b23 (6 : Int32) of (0 : Int32) p0 p1 p2 b5 k23 k5 [(.double (13830554455654793216 : UInt64)), (.double (13835058055282163712 : UInt64)), (.double (13837309855095848960 : UInt64)), (.double (13839561654909534208 : UInt64)), (.double (13840687554816376832 : UInt64)), (.double (13841813454723219456 : UInt64)), (.double (13842939354630062080 : UInt64)), (.double (13844065254536904704 : UInt64))] [(.double y0), (.double y1), (.double y2), (.double y3)] (13842939354630062080 : UInt64) T42.heap n0 Z42 R42_0 V_43 (show ¬ (6 : Int32) < (0 : Int32) ∧ (6 : Int32) < (8 : Int32) from ⟨by decide, by decide⟩) (show ¬ p0 < (0 : Int32) ∧ p0 < (4 : Int32) from h_p0) (show ¬ p1 < (0 : Int32) ∧ p1 < (4 : Int32) from h_p1) (show ¬ p2 < (0 : Int32) ∧ p2 < (4 : Int32) from h_p2) (show ([(.double (13830554455654793216 : UInt64)), (.double (13835058055282163712 : UInt64)), (.double (13837309855095848960 : UInt64)), (.double (13839561654909534208 : UInt64)), (.double (13840687554816376832 : UInt64)), (.double (13841813454723219456 : UInt64)), (.double (13842939354630062080 : UInt64)), (.double (13844065254536904704 : UInt64))] : List Value).getD ((6 : Int32)).toNatClampNeg (.double (0 : UInt64)) = .double (13842939354630062080 : UInt64) from (show ([(.double (13830554455654793216 : UInt64)), (.double (13835058055282163712 : UInt64)), (.double (13837309855095848960 : UInt64)), (.double (13839561654909534208 : UInt64)), (.double (13840687554816376832 : UInt64)), (.double (13841813454723219456 : UInt64)), (.double (13842939354630062080 : UInt64)), (.double (13844065254536904704 : UInt64))] : List Value).getD 6 (.double (0 : UInt64)) = .double (13842939354630062080 : UInt64) from rfl)) (show Jvm.Free.Fl.NoNaN64 (13842939354630062080 : UInt64) from (by unfold Jvm.Free.Fl.NoNaN64; decide)) (show ((6 : Int32) - of) < (0 : Int32) ∨ ¬ ((6 : Int32) - of) < (0 : Int32) → FP.i2d (-((6 : Int32) + (1 : Int32))) = (13842939354630062080 : UInt64) from fun h => (show FP.i2d _ = (13842939354630062080 : UInt64) by decide +kernel).trans (own_out0 of _  _ h)) (show ¬ ((6 : Int32) - of) < (0 : Int32) → ((6 : Int32) - of) < (0 : Int32) → ((6 : Int32) - of) = (0 : Int32) → ([(.double y0), (.double y1), (.double y2), (.double y3)] : List Value).getD (p0).toNatClampNeg (.double (0 : UInt64)) = .double (13842939354630062080 : UInt64) from fun a b _ => absurd b a) (show ¬ ((6 : Int32) - of) < (0 : Int32) → ((6 : Int32) - of) < (0 : Int32) → ¬ ((6 : Int32) - of) = (0 : Int32) → ((6 : Int32) - of) = (1 : Int32) → ([(.double y0), (.double y1), (.double y2), (.double y3)] : List Value).getD (p1).toNatClampNeg (.double (0 : UInt64)) = .double (13842939354630062080 : UInt64) from fun a b c0 c1 => absurd b (by rw [c1]; decide)) (show ¬ ((6 : Int32) - of) < (0 : Int32) → ((6 : Int32) - of) < (0 : Int32) → ¬ ((6 : Int32) - of) = (0 : Int32) → ¬ ((6 : Int32) - of) = (1 : Int32) → ([(.double y0), (.double y1), (.double y2), (.double y3)] : List Value).getD (p2).toNatClampNeg (.double (0 : UInt64)) = .double (13842939354630062080 : UInt64) from fun a b c0 c1 => (own_no0 a b c0 c1).elim)) hZ (hw _ (List.mem_of_getElem? (i := 22) rfl)) (hw _ (List.mem_of_getElem? (i := 21) rfl)) (by decide) (by decide)) (g := (mkF m 453 #[.val (.int pp1), .val (.int pp2), .val (.int pp3), .val (.long qq4), .second, .val (.int (0 : Int32)), .val (.int of), .val (.int p0), .val (.int p1), .val (.int p2), .val (.ref b5), .val (.ref b22), .val (.ref b23), .val (.ref b23), .val (.int (1 : Int32))] [(.ref b5), (.int p2), (.int p1), (.int p0), (.int (0 : Int32)), (.int of), (.int (6 : Int32)), (.ref b23)])) rfl (by rw [hml]; rfl) (argsL := [(.ref b23), (.int (6 : Int32)), (.int of), (.int (0 : Int32)), (.int p0), (.int p1), (.int p2), (.ref b5)]) (rest := []) (lenOf pd__28__5b_DIIIIII_5b_D_29_Z rfl) rfl (by show 2 * 0 + _ ≤ _; exact Nat.le_of_eq rfl) (hb hby at_453) (fun _ _ => ⟨rfl, e49, (by decide : 3 + 0 ≤ _), (by decide : 12 + 0 ≤ _)⟩)
    dsimp only [Pt.U, Pt.locs, Pt.cells, Pt.slots] at X50 l50 y50 z50 st50 hQ50
    subst y50 z50
    obtain ⟨rfl, N50q, e50⟩ := hQ50
    have N50 : Fr n0 L50 := by rw [l50]; exact Fr.app N49 N50q
    change Stand _ _ _ _ _ _ _ _ _ _ _ _ 3 12 at X50
    have hc456 : ¬ ((1 : Int32) = (0 : Int32)) := by decide
    have hc468 : ¬ ((1 : Int32) = (0 : Int32)) := by decide
    obtain ⟨_, _, ⟨T51, L51, k51, n51⟩, -, X51, ⟨Lc51, hQ51, l51, y51, z51⟩, st51⟩ := Jvm.LawKit.callS X50 hx (y := (⟨"com/example/splitgrain/splitgrain/parse/ChartItemsGatherPinLaw", "check", "([DIIIIII[D)Z"⟩ : MethodName)) hown (mvT hZ (hw _ (List.mem_of_getElem? (i := 19) rfl))) (mvT hZ (hw _ (List.mem_of_getElem? (i := 20) rfl))) (mvT hZ (hw _ (List.mem_of_getElem? (i := 21) rfl))) (mvT hZ (hw _ (List.mem_of_getElem? (i := 22) rfl))) (by decide) (backOf (W := 0) (rm2 l Z a0 hw [] b23 (7 : Int32) of (0 : Int32) p0 p1 p2 b5 k23 k5 [(.double (13830554455654793216 : UInt64)), (.double (13835058055282163712 : UInt64)), (.double (13837309855095848960 : UInt64)), (.double (13839561654909534208 : UInt64)), (.double (13840687554816376832 : UInt64)), (.double (13841813454723219456 : UInt64)), (.double (13842939354630062080 : UInt64)), (.double (13844065254536904704 : UInt64))] [(.double y0), (.double y1), (.double y2), (.double y3)] (13844065254536904704 : UInt64) T42.heap n0 Z42 R42_0 V_43 (show ¬ (7 : Int32) < (0 : Int32) ∧ (7 : Int32) < (8 : Int32) from ⟨by decide, by decide⟩) (show ¬ p0 < (0 : Int32) ∧ p0 < (4 : Int32) from h_p0) (show ¬ p1 < (0 : Int32) ∧ p1 < (4 : Int32) from h_p1) (show ¬ p2 < (0 : Int32) ∧ p2 < (4 : Int32) from h_p2) (show ([(.double (13830554455654793216 : UInt64)), (.double (13835058055282163712 : UInt64)), (.double (13837309855095848960 : UInt64)), (.double (13839561654909534208 : UInt64)), (.double (13840687554816376832 : UInt64)), (.double (13841813454723219456 : UInt64)), (.double (13842939354630062080 : UInt64)), (.double (13844065254536904704 : UInt64))] : List Value).getD ((7 : Int32)).toNatClampNeg (.double (0 : UInt64)) = .double (13844065254536904704 : UInt64) from (show ([(.double (13830554455654793216 : UInt64)), (.double (13835058055282163712 : UInt64)), (.double (13837309855095848960 : UInt64)), (.double (13839561654909534208 : UInt64)), (.double (13840687554816376832 : UInt64)), (.double (13841813454723219456 : UInt64)), (.double (13842939354630062080 : UInt64)), (.double (13844065254536904704 : UInt64))] : List Value).getD 7 (.double (0 : UInt64)) = .double (13844065254536904704 : UInt64) from rfl)) (show Jvm.Free.Fl.NoNaN64 (13844065254536904704 : UInt64) from (by unfold Jvm.Free.Fl.NoNaN64; decide)) (show ((7 : Int32) - of) < (0 : Int32) ∨ ¬ ((7 : Int32) - of) < (0 : Int32) → FP.i2d (-((7 : Int32) + (1 : Int32))) = (13844065254536904704 : UInt64) from fun h => (show FP.i2d _ = (13844065254536904704 : UInt64) by decide +kernel).trans (own_out0 of _  _ h)) (show ¬ ((7 : Int32) - of) < (0 : Int32) → ((7 : Int32) - of) < (0 : Int32) → ((7 : Int32) - of) = (0 : Int32) → ([(.double y0), (.double y1), (.double y2), (.double y3)] : List Value).getD (p0).toNatClampNeg (.double (0 : UInt64)) = .double (13844065254536904704 : UInt64) from fun a b _ => absurd b a) (show ¬ ((7 : Int32) - of) < (0 : Int32) → ((7 : Int32) - of) < (0 : Int32) → ¬ ((7 : Int32) - of) = (0 : Int32) → ((7 : Int32) - of) = (1 : Int32) → ([(.double y0), (.double y1), (.double y2), (.double y3)] : List Value).getD (p1).toNatClampNeg (.double (0 : UInt64)) = .double (13844065254536904704 : UInt64) from fun a b c0 c1 => absurd b (by rw [c1]; decide)) (show ¬ ((7 : Int32) - of) < (0 : Int32) → ((7 : Int32) - of) < (0 : Int32) → ¬ ((7 : Int32) - of) = (0 : Int32) → ¬ ((7 : Int32) - of) = (1 : Int32) → ([(.double y0), (.double y1), (.double y2), (.double y3)] : List Value).getD (p2).toNatClampNeg (.double (0 : UInt64)) = .double (13844065254536904704 : UInt64) from fun a b c0 c1 => (own_no0 a b c0 c1).elim)) hZ (hw _ (List.mem_of_getElem? (i := 22) rfl)) (hw _ (List.mem_of_getElem? (i := 21) rfl)) (by decide) (by decide)) (g := (mkF m 487 #[.val (.int pp1), .val (.int pp2), .val (.int pp3), .val (.long qq4), .second, .val (.int (0 : Int32)), .val (.int of), .val (.int p0), .val (.int p1), .val (.int p2), .val (.ref b5), .val (.ref b22), .val (.ref b23), .val (.ref b23), .val (.int (1 : Int32))] [(.ref b5), (.int p2), (.int p1), (.int p0), (.int (0 : Int32)), (.int of), (.int (7 : Int32)), (.ref b23)])) rfl (by rw [hml]; rfl) (argsL := [(.ref b23), (.int (7 : Int32)), (.int of), (.int (0 : Int32)), (.int p0), (.int p1), (.int p2), (.ref b5)]) (rest := []) (lenOf pd__28__5b_DIIIIII_5b_D_29_Z rfl) rfl (by show 2 * 0 + _ ≤ _; exact Nat.le_of_eq rfl) (hb hby at_487) (fun _ _ => ⟨rfl, e50, (by decide : 3 + 0 ≤ _), (by decide : 12 + 0 ≤ _)⟩)
    dsimp only [Pt.U, Pt.locs, Pt.cells, Pt.slots] at X51 l51 y51 z51 st51 hQ51
    subst y51 z51
    obtain ⟨rfl, N51q, e51⟩ := hQ51
    have N51 : Fr n0 L51 := by rw [l51]; exact Fr.app N50 N51q
    change Stand _ _ _ _ _ _ _ _ _ _ _ _ 3 12 at X51
    have hc490 : ¬ ((1 : Int32) = (0 : Int32)) := by decide
    obtain ⟨fs, hr, hrun, hended, hW, hsame⟩ := X51.leave (v := some (.int (1 : Int32))) (fun h => by rw [Bd.returns] at h; cases h)
    refine ⟨_, _, pre19 _ ?_, hrun, hended, _, _, rfl, ?_, ⟨_, rfl⟩, hW, hsame.mono (by decide) (by decide)⟩
    · show Steps p.tables e below (T17.setTop (mkF m 101 #[.val (.int pp1), .val (.int pp2), .val (.int pp3), .val (.long qq4), .second, .val (.int (0 : Int32)), .val (.int of), .val (.int p0), .val (.int p1), .val (.int p2), .val (.ref b5), .unset, .unset, .unset, .unset] [(.double y3), (.int (3 : Int32)), (.ref b5)])) _
      refine st21 _ ?_
      refine XS.iload X21.here hx rfl (hb hby at_102) rfl ?_
      refine st22 _ ?_
      refine XS.astore X22.here hx rfl (hb hby at_106) rfl rfl (l' := #[.val (.int pp1), .val (.int pp2), .val (.int pp3), .val (.long qq4), .second, .val (.int (0 : Int32)), .val (.int of), .val (.int p0), .val (.int p1), .val (.int p2), .val (.ref b5), .val (.ref b22), .unset, .unset, .unset]) rfl ?_
      refine XS.iload X22.here hx rfl (hb hby at_108) rfl ?_
      refine XS.ifYes X22.here hx rfl (pc0 := 110) (pc' := 119) rfl (hb hby at_110) rfl ((if0 _ _).trans (flt hc110).2.2.2) (by decide) (by decide) ?_
      refine XS.iload X22.here hx rfl (hb hby at_119) rfl ?_
      refine XS.iconst X22.here hx rfl (hb hby at_121) ?_
      refine XS.icmpYes X22.here hx rfl (pc0 := 122) (pc' := 131) rfl (hb hby at_122) rfl (flt hc122).2.2.2 (by decide) (by decide) ?_
      refine XS.iload X22.here hx rfl (hb hby at_131) rfl ?_
      refine XS.iconst X22.here hx rfl (hb hby at_133) ?_
      refine XS.icmpYes X22.here hx rfl (pc0 := 134) (pc' := 143) rfl (hb hby at_134) rfl (flt hc134).2.2.2 (by decide) (by decide) ?_
      refine XS.bipush X22.here hx rfl (hb hby at_143) ?_
      refine st23 _ ?_
      refine XS.astore X23.here hx rfl (hb hby at_147) rfl rfl (l' := #[.val (.int pp1), .val (.int pp2), .val (.int pp3), .val (.long qq4), .second, .val (.int (0 : Int32)), .val (.int of), .val (.int p0), .val (.int p1), .val (.int p2), .val (.ref b5), .val (.ref b22), .val (.ref b23), .unset, .unset]) rfl ?_
      refine XS.aload X23.here hx rfl (hb hby at_149) rfl rfl ?_
      refine XS.iconst X23.here hx rfl (hb hby at_151) ?_
      refine X23.ldc2DoubleC hx hown (mvT hZ (hw _ (List.mem_of_getElem? (i := 7) rfl))) (g := (mkF m 152 #[.val (.int pp1), .val (.int pp2), .val (.int pp3), .val (.long qq4), .second, .val (.int (0 : Int32)), .val (.int of), .val (.int p0), .val (.int p1), .val (.int p2), .val (.ref b5), .val (.ref b22), .val (.ref b23), .unset, .unset] [(.int (0 : Int32)), (.ref b23)])) rfl (hb hby at_152) _ ?_
      refine st25 _ ?_
      refine XS.aload X25.here hx rfl (hb hby at_156) rfl rfl ?_
      refine XS.iconst X25.here hx rfl (hb hby at_158) ?_
      refine X25.ldc2DoubleC hx hown (mvT hZ (hw _ (List.mem_of_getElem? (i := 8) rfl))) (g := (mkF m 159 #[.val (.int pp1), .val (.int pp2), .val (.int pp3), .val (.long qq4), .second, .val (.int (0 : Int32)), .val (.int of), .val (.int p0), .val (.int p1), .val (.int p2), .val (.ref b5), .val (.ref b22), .val (.ref b23), .unset, .unset] [(.int (1 : Int32)), (.ref b23)])) rfl (hb hby at_159) _ ?_
      refine st27 _ ?_
      refine XS.aload X27.here hx rfl (hb hby at_163) rfl rfl ?_
      refine XS.iconst X27.here hx rfl (hb hby at_165) ?_
      refine X27.ldc2DoubleC hx hown (mvT hZ (hw _ (List.mem_of_getElem? (i := 9) rfl))) (g := (mkF m 166 #[.val (.int pp1), .val (.int pp2), .val (.int pp3), .val (.long qq4), .second, .val (.int (0 : Int32)), .val (.int of), .val (.int p0), .val (.int p1), .val (.int p2), .val (.ref b5), .val (.ref b22), .val (.ref b23), .unset, .unset] [(.int (2 : Int32)), (.ref b23)])) rfl (hb hby at_166) _ ?_
      refine st29 _ ?_
      refine XS.aload X29.here hx rfl (hb hby at_170) rfl rfl ?_
      refine XS.iconst X29.here hx rfl (hb hby at_172) ?_
      refine X29.ldc2DoubleC hx hown (mvT hZ (hw _ (List.mem_of_getElem? (i := 10) rfl))) (g := (mkF m 173 #[.val (.int pp1), .val (.int pp2), .val (.int pp3), .val (.long qq4), .second, .val (.int (0 : Int32)), .val (.int of), .val (.int p0), .val (.int p1), .val (.int p2), .val (.ref b5), .val (.ref b22), .val (.ref b23), .unset, .unset] [(.int (3 : Int32)), (.ref b23)])) rfl (hb hby at_173) _ ?_
      refine st31 _ ?_
      refine XS.aload X31.here hx rfl (hb hby at_177) rfl rfl ?_
      refine XS.iconst X31.here hx rfl (hb hby at_179) ?_
      refine X31.ldc2DoubleC hx hown (mvT hZ (hw _ (List.mem_of_getElem? (i := 11) rfl))) (g := (mkF m 180 #[.val (.int pp1), .val (.int pp2), .val (.int pp3), .val (.long qq4), .second, .val (.int (0 : Int32)), .val (.int of), .val (.int p0), .val (.int p1), .val (.int p2), .val (.ref b5), .val (.ref b22), .val (.ref b23), .unset, .unset] [(.int (4 : Int32)), (.ref b23)])) rfl (hb hby at_180) _ ?_
      refine st33 _ ?_
      refine XS.aload X33.here hx rfl (hb hby at_184) rfl rfl ?_
      refine XS.iconst X33.here hx rfl (hb hby at_186) ?_
      refine X33.ldc2DoubleC hx hown (mvT hZ (hw _ (List.mem_of_getElem? (i := 12) rfl))) (g := (mkF m 187 #[.val (.int pp1), .val (.int pp2), .val (.int pp3), .val (.long qq4), .second, .val (.int (0 : Int32)), .val (.int of), .val (.int p0), .val (.int p1), .val (.int p2), .val (.ref b5), .val (.ref b22), .val (.ref b23), .unset, .unset] [(.int (5 : Int32)), (.ref b23)])) rfl (hb hby at_187) _ ?_
      refine st35 _ ?_
      refine XS.aload X35.here hx rfl (hb hby at_191) rfl rfl ?_
      refine XS.bipush X35.here hx rfl (hb hby at_193) ?_
      refine X35.ldc2DoubleC hx hown (mvT hZ (hw _ (List.mem_of_getElem? (i := 13) rfl))) (g := (mkF m 195 #[.val (.int pp1), .val (.int pp2), .val (.int pp3), .val (.long qq4), .second, .val (.int (0 : Int32)), .val (.int of), .val (.int p0), .val (.int p1), .val (.int p2), .val (.ref b5), .val (.ref b22), .val (.ref b23), .unset, .unset] [(.int (6 : Int32)), (.ref b23)])) rfl (hb hby at_195) _ ?_
      refine st37 _ ?_
      refine XS.aload X37.here hx rfl (hb hby at_199) rfl rfl ?_
      refine XS.bipush X37.here hx rfl (hb hby at_201) ?_
      refine X37.ldc2DoubleC hx hown (mvT hZ (hw _ (List.mem_of_getElem? (i := 14) rfl))) (g := (mkF m 203 #[.val (.int pp1), .val (.int pp2), .val (.int pp3), .val (.long qq4), .second, .val (.int (0 : Int32)), .val (.int of), .val (.int p0), .val (.int p1), .val (.int p2), .val (.ref b5), .val (.ref b22), .val (.ref b23), .unset, .unset] [(.int (7 : Int32)), (.ref b23)])) rfl (hb hby at_203) _ ?_
      refine st39 _ ?_
      refine XS.aload X39.here hx rfl (hb hby at_207) rfl rfl ?_
      refine XS.aload X39.here hx rfl (hb hby at_209) rfl rfl ?_
      refine XS.aload X39.here hx rfl (hb hby at_211) rfl rfl ?_
      refine XS.iload X39.here hx rfl (hb hby at_213) rfl ?_
      refine st42 _ ?_
      refine XS.astore X42.here hx rfl (hb hby at_218) rfl rfl (l' := #[.val (.int pp1), .val (.int pp2), .val (.int pp3), .val (.long qq4), .second, .val (.int (0 : Int32)), .val (.int of), .val (.int p0), .val (.int p1), .val (.int p2), .val (.ref b5), .val (.ref b22), .val (.ref b23), .val (.ref b23), .unset]) rfl ?_
      refine XS.aload X42.here hx rfl (hb hby at_220) rfl rfl ?_
      refine XS.aload X42.here hx rfl (hb hby at_222) rfl rfl ?_
      refine Jvm.RoadKit.acmp (g := (mkF m 224 #[.val (.int pp1), .val (.int pp2), .val (.int pp3), .val (.long qq4), .second, .val (.int (0 : Int32)), .val (.int of), .val (.int p0), .val (.int p1), .val (.int p2), .val (.ref b5), .val (.ref b22), .val (.ref b23), .val (.ref b23), .unset] [(.ref b23), (.ref b23)])) X42 hx rfl rfl rfl (pc0 := 224) (pc' := 227) (same := true) rfl (hb hby at_224) rfl (decide_eq_true rfl) (by decide) (by decide) ?_
      refine XS.iconst X42.here hx rfl (hb hby at_227) ?_
      refine XS.goto X42.here hx rfl (pc0 := 228) (pc' := 232) rfl (hb hby at_228) (by decide) (by decide) ?_
      refine XS.istore X42.here hx rfl (hb hby at_232) rfl (l' := #[.val (.int pp1), .val (.int pp2), .val (.int pp3), .val (.long qq4), .second, .val (.int (0 : Int32)), .val (.int of), .val (.int p0), .val (.int p1), .val (.int p2), .val (.ref b5), .val (.ref b22), .val (.ref b23), .val (.ref b23), .val (.int (1 : Int32))]) rfl ?_
      refine XS.iload X42.here hx rfl (hb hby at_234) rfl ?_
      refine XS.ifNo X42.here hx rfl (hb hby at_236) rfl ((if0 _ _).trans (feq hc236).1) ?_
      refine XS.aload X42.here hx rfl (hb hby at_239) rfl rfl ?_
      refine XS.iconst X42.here hx rfl (hb hby at_241) ?_
      refine XS.iload X42.here hx rfl (hb hby at_242) rfl ?_
      refine XS.iload X42.here hx rfl (hb hby at_244) rfl ?_
      refine XS.iload X42.here hx rfl (hb hby at_246) rfl ?_
      refine XS.iload X42.here hx rfl (hb hby at_248) rfl ?_
      refine XS.iload X42.here hx rfl (hb hby at_250) rfl ?_
      refine XS.aload X42.here hx rfl (hb hby at_252) rfl rfl ?_
      refine st44 _ ?_
      refine XS.ifNo X44.here hx rfl (hb hby at_257) rfl ((if0 _ _).trans (feq hc257).1) ?_
      refine XS.iconst X44.here hx rfl (hb hby at_260) ?_
      refine XS.goto X44.here hx rfl (pc0 := 261) (pc' := 265) rfl (hb hby at_261) (by decide) (by decide) ?_
      refine XS.istore X44.here hx rfl (hb hby at_265) rfl (l' := #[.val (.int pp1), .val (.int pp2), .val (.int pp3), .val (.long qq4), .second, .val (.int (0 : Int32)), .val (.int of), .val (.int p0), .val (.int p1), .val (.int p2), .val (.ref b5), .val (.ref b22), .val (.ref b23), .val (.ref b23), .val (.int (1 : Int32))]) rfl ?_
      refine XS.iload X44.here hx rfl (hb hby at_267) rfl ?_
      refine XS.ifNo X44.here hx rfl (hb hby at_269) rfl ((if0 _ _).trans (feq hc269).1) ?_
      refine XS.aload X44.here hx rfl (hb hby at_272) rfl rfl ?_
      refine XS.iconst X44.here hx rfl (hb hby at_274) ?_
      refine XS.iload X44.here hx rfl (hb hby at_275) rfl ?_
      refine XS.iload X44.here hx rfl (hb hby at_277) rfl ?_
      refine XS.iload X44.here hx rfl (hb hby at_279) rfl ?_
      refine XS.iload X44.here hx rfl (hb hby at_281) rfl ?_
      refine XS.iload X44.here hx rfl (hb hby at_283) rfl ?_
      refine XS.aload X44.here hx rfl (hb hby at_285) rfl rfl ?_
      refine st45 _ ?_
      refine XS.ifNo X45.here hx rfl (hb hby at_290) rfl ((if0 _ _).trans (feq hc290).1) ?_
      refine XS.iconst X45.here hx rfl (hb hby at_293) ?_
      refine XS.goto X45.here hx rfl (pc0 := 294) (pc' := 298) rfl (hb hby at_294) (by decide) (by decide) ?_
      refine XS.istore X45.here hx rfl (hb hby at_298) rfl (l' := #[.val (.int pp1), .val (.int pp2), .val (.int pp3), .val (.long qq4), .second, .val (.int (0 : Int32)), .val (.int of), .val (.int p0), .val (.int p1), .val (.int p2), .val (.ref b5), .val (.ref b22), .val (.ref b23), .val (.ref b23), .val (.int (1 : Int32))]) rfl ?_
      refine XS.iload X45.here hx rfl (hb hby at_300) rfl ?_
      refine XS.ifNo X45.here hx rfl (hb hby at_302) rfl ((if0 _ _).trans (feq hc302).1) ?_
      refine XS.aload X45.here hx rfl (hb hby at_305) rfl rfl ?_
      refine XS.iconst X45.here hx rfl (hb hby at_307) ?_
      refine XS.iload X45.here hx rfl (hb hby at_308) rfl ?_
      refine XS.iload X45.here hx rfl (hb hby at_310) rfl ?_
      refine XS.iload X45.here hx rfl (hb hby at_312) rfl ?_
      refine XS.iload X45.here hx rfl (hb hby at_314) rfl ?_
      refine XS.iload X45.here hx rfl (hb hby at_316) rfl ?_
      refine XS.aload X45.here hx rfl (hb hby at_318) rfl rfl ?_
      refine st46 _ ?_
      refine XS.ifNo X46.here hx rfl (hb hby at_323) rfl ((if0 _ _).trans (feq hc323).1) ?_
      refine XS.iconst X46.here hx rfl (hb hby at_326) ?_
      refine XS.goto X46.here hx rfl (pc0 := 327) (pc' := 331) rfl (hb hby at_327) (by decide) (by decide) ?_
      refine XS.istore X46.here hx rfl (hb hby at_331) rfl (l' := #[.val (.int pp1), .val (.int pp2), .val (.int pp3), .val (.long qq4), .second, .val (.int (0 : Int32)), .val (.int of), .val (.int p0), .val (.int p1), .val (.int p2), .val (.ref b5), .val (.ref b22), .val (.ref b23), .val (.ref b23), .val (.int (1 : Int32))]) rfl ?_
      refine XS.iload X46.here hx rfl (hb hby at_333) rfl ?_
      refine XS.ifNo X46.here hx rfl (hb hby at_335) rfl ((if0 _ _).trans (feq hc335).1) ?_
      refine XS.aload X46.here hx rfl (hb hby at_338) rfl rfl ?_
      refine XS.iconst X46.here hx rfl (hb hby at_340) ?_
      refine XS.iload X46.here hx rfl (hb hby at_341) rfl ?_
      refine XS.iload X46.here hx rfl (hb hby at_343) rfl ?_
      refine XS.iload X46.here hx rfl (hb hby at_345) rfl ?_
      refine XS.iload X46.here hx rfl (hb hby at_347) rfl ?_
      refine XS.iload X46.here hx rfl (hb hby at_349) rfl ?_
      refine XS.aload X46.here hx rfl (hb hby at_351) rfl rfl ?_
      refine st47 _ ?_
      refine XS.ifNo X47.here hx rfl (hb hby at_356) rfl ((if0 _ _).trans (feq hc356).1) ?_
      refine XS.iconst X47.here hx rfl (hb hby at_359) ?_
      refine XS.goto X47.here hx rfl (pc0 := 360) (pc' := 364) rfl (hb hby at_360) (by decide) (by decide) ?_
      refine XS.istore X47.here hx rfl (hb hby at_364) rfl (l' := #[.val (.int pp1), .val (.int pp2), .val (.int pp3), .val (.long qq4), .second, .val (.int (0 : Int32)), .val (.int of), .val (.int p0), .val (.int p1), .val (.int p2), .val (.ref b5), .val (.ref b22), .val (.ref b23), .val (.ref b23), .val (.int (1 : Int32))]) rfl ?_
      refine XS.iload X47.here hx rfl (hb hby at_366) rfl ?_
      refine XS.ifNo X47.here hx rfl (hb hby at_368) rfl ((if0 _ _).trans (feq hc368).1) ?_
      refine XS.aload X47.here hx rfl (hb hby at_371) rfl rfl ?_
      refine XS.iconst X47.here hx rfl (hb hby at_373) ?_
      refine XS.iload X47.here hx rfl (hb hby at_374) rfl ?_
      refine XS.iload X47.here hx rfl (hb hby at_376) rfl ?_
      refine XS.iload X47.here hx rfl (hb hby at_378) rfl ?_
      refine XS.iload X47.here hx rfl (hb hby at_380) rfl ?_
      refine XS.iload X47.here hx rfl (hb hby at_382) rfl ?_
      refine XS.aload X47.here hx rfl (hb hby at_384) rfl rfl ?_
      refine st48 _ ?_
      refine XS.ifNo X48.here hx rfl (hb hby at_389) rfl ((if0 _ _).trans (feq hc389).1) ?_
      refine XS.iconst X48.here hx rfl (hb hby at_392) ?_
      refine XS.goto X48.here hx rfl (pc0 := 393) (pc' := 397) rfl (hb hby at_393) (by decide) (by decide) ?_
      refine XS.istore X48.here hx rfl (hb hby at_397) rfl (l' := #[.val (.int pp1), .val (.int pp2), .val (.int pp3), .val (.long qq4), .second, .val (.int (0 : Int32)), .val (.int of), .val (.int p0), .val (.int p1), .val (.int p2), .val (.ref b5), .val (.ref b22), .val (.ref b23), .val (.ref b23), .val (.int (1 : Int32))]) rfl ?_
      refine XS.iload X48.here hx rfl (hb hby at_399) rfl ?_
      refine XS.ifNo X48.here hx rfl (hb hby at_401) rfl ((if0 _ _).trans (feq hc401).1) ?_
      refine XS.aload X48.here hx rfl (hb hby at_404) rfl rfl ?_
      refine XS.iconst X48.here hx rfl (hb hby at_406) ?_
      refine XS.iload X48.here hx rfl (hb hby at_407) rfl ?_
      refine XS.iload X48.here hx rfl (hb hby at_409) rfl ?_
      refine XS.iload X48.here hx rfl (hb hby at_411) rfl ?_
      refine XS.iload X48.here hx rfl (hb hby at_413) rfl ?_
      refine XS.iload X48.here hx rfl (hb hby at_415) rfl ?_
      refine XS.aload X48.here hx rfl (hb hby at_417) rfl rfl ?_
      refine st49 _ ?_
      refine XS.ifNo X49.here hx rfl (hb hby at_422) rfl ((if0 _ _).trans (feq hc422).1) ?_
      refine XS.iconst X49.here hx rfl (hb hby at_425) ?_
      refine XS.goto X49.here hx rfl (pc0 := 426) (pc' := 430) rfl (hb hby at_426) (by decide) (by decide) ?_
      refine XS.istore X49.here hx rfl (hb hby at_430) rfl (l' := #[.val (.int pp1), .val (.int pp2), .val (.int pp3), .val (.long qq4), .second, .val (.int (0 : Int32)), .val (.int of), .val (.int p0), .val (.int p1), .val (.int p2), .val (.ref b5), .val (.ref b22), .val (.ref b23), .val (.ref b23), .val (.int (1 : Int32))]) rfl ?_
      refine XS.iload X49.here hx rfl (hb hby at_432) rfl ?_
      refine XS.ifNo X49.here hx rfl (hb hby at_434) rfl ((if0 _ _).trans (feq hc434).1) ?_
      refine XS.aload X49.here hx rfl (hb hby at_437) rfl rfl ?_
      refine XS.bipush X49.here hx rfl (hb hby at_439) ?_
      refine XS.iload X49.here hx rfl (hb hby at_441) rfl ?_
      refine XS.iload X49.here hx rfl (hb hby at_443) rfl ?_
      refine XS.iload X49.here hx rfl (hb hby at_445) rfl ?_
      refine XS.iload X49.here hx rfl (hb hby at_447) rfl ?_
      refine XS.iload X49.here hx rfl (hb hby at_449) rfl ?_
      refine XS.aload X49.here hx rfl (hb hby at_451) rfl rfl ?_
      refine st50 _ ?_
      refine XS.ifNo X50.here hx rfl (hb hby at_456) rfl ((if0 _ _).trans (feq hc456).1) ?_
      refine XS.iconst X50.here hx rfl (hb hby at_459) ?_
      refine XS.goto X50.here hx rfl (pc0 := 460) (pc' := 464) rfl (hb hby at_460) (by decide) (by decide) ?_
      refine XS.istore X50.here hx rfl (hb hby at_464) rfl (l' := #[.val (.int pp1), .val (.int pp2), .val (.int pp3), .val (.long qq4), .second, .val (.int (0 : Int32)), .val (.int of), .val (.int p0), .val (.int p1), .val (.int p2), .val (.ref b5), .val (.ref b22), .val (.ref b23), .val (.ref b23), .val (.int (1 : Int32))]) rfl ?_
      refine XS.iload X50.here hx rfl (hb hby at_466) rfl ?_
      refine XS.ifNo X50.here hx rfl (hb hby at_468) rfl ((if0 _ _).trans (feq hc468).1) ?_
      refine XS.aload X50.here hx rfl (hb hby at_471) rfl rfl ?_
      refine XS.bipush X50.here hx rfl (hb hby at_473) ?_
      refine XS.iload X50.here hx rfl (hb hby at_475) rfl ?_
      refine XS.iload X50.here hx rfl (hb hby at_477) rfl ?_
      refine XS.iload X50.here hx rfl (hb hby at_479) rfl ?_
      refine XS.iload X50.here hx rfl (hb hby at_481) rfl ?_
      refine XS.iload X50.here hx rfl (hb hby at_483) rfl ?_
      refine XS.aload X50.here hx rfl (hb hby at_485) rfl rfl ?_
      refine st51 _ ?_
      refine XS.ifNo X51.here hx rfl (hb hby at_490) rfl ((if0 _ _).trans (feq hc490).1) ?_
      refine XS.iconst X51.here hx rfl (hb hby at_493) ?_
      refine XS.goto X51.here hx rfl (pc0 := 494) (pc' := 498) rfl (hb hby at_494) (by decide) (by decide) ?_
      refine XS.istore X51.here hx rfl (hb hby at_498) rfl (l' := #[.val (.int pp1), .val (.int pp2), .val (.int pp3), .val (.long qq4), .second, .val (.int (0 : Int32)), .val (.int of), .val (.int p0), .val (.int p1), .val (.int p2), .val (.ref b5), .val (.ref b22), .val (.ref b23), .val (.ref b23), .val (.int (1 : Int32))]) rfl ?_
      refine XS.iload X51.here hx rfl (hb hby at_500) rfl ?_
      exact retN X51 hx (t := .boolean) Bd.returns (by simp) (hb hby at_502) hr
    · show Q0 Z pp1 pp2 pp3 qq4 h0 n0 _ T51.heap _
      rw [e51]
      exact ⟨rfl, N51⟩
  · skip
    have hc14_2 : (8 : Int32) ≠ (0 : Int32) := (by decide)
    have pre52 : ∀ t, Steps p.tables e below (s₁.setTop (mkF m 36 #[.val (.int pp1), .val (.int pp2), .val (.int pp3), .val (.long qq4), .second, .val (.int (1 : Int32)), .val (.int ((pp2 &&& (2147483647 : Int32)) % (8 : Int32))), .val (.int (pp3 &&& (3 : Int32))), .val (.int (((pp3.toUInt32 >>> ((2 : Int32) &&& 31).toUInt32).toInt32) &&& (3 : Int32))), .val (.int (((pp3.toUInt32 >>> ((4 : Int32) &&& 31).toUInt32).toInt32) &&& (3 : Int32))), .unset, .unset, .unset, .unset, .unset] [])) t → Steps p.tables e below (s₁.setTop (entryFrame m #[(.int pp1), (.int pp2), (.int pp3), (.long qq4)] maxLocals)) t := fun t kt => pre2 t (by
      refine XS.iloadN X0.here hx rfl (hb hby at_5) rfl ?_
      refine X0.ldcInt hx hown (mvT hZ (hw _ (List.mem_of_getElem? (i := 0) rfl))) (g := (mkF m 6 #[.val (.int pp1), .val (.int pp2), .val (.int pp3), .val (.long qq4), .second, .val (.int (1 : Int32)), .unset, .unset, .unset, .unset, .unset, .unset, .unset, .unset, .unset] [(.int pp2)])) rfl (hb hby at_6) _ ?_
      refine XS.iand X0.here hx rfl (hb hby at_8) rfl ?_
      refine XS.bipush X0.here hx rfl (hb hby at_9) ?_
      refine XS.iload X0.here hx rfl (hb hby at_11) rfl ?_
      refine XS.isub X0.here hx rfl (hb hby at_13) rfl ?_
      refine iremM (g := (mkF m 14 #[.val (.int pp1), .val (.int pp2), .val (.int pp3), .val (.long qq4), .second, .val (.int (1 : Int32)), .unset, .unset, .unset, .unset, .unset, .unset, .unset, .unset, .unset] [(.int (8 : Int32)), (.int (pp2 &&& (2147483647 : Int32)))])) X0 hx rfl (hb hby at_14) rfl hc14_2 ?_
      refine XS.istore X0.here hx rfl (hb hby at_15) rfl (l' := #[.val (.int pp1), .val (.int pp2), .val (.int pp3), .val (.long qq4), .second, .val (.int (1 : Int32)), .val (.int ((pp2 &&& (2147483647 : Int32)) % (8 : Int32))), .unset, .unset, .unset, .unset, .unset, .unset, .unset, .unset]) rfl ?_
      refine XS.iloadN X0.here hx rfl (hb hby at_17) rfl ?_
      refine XS.iconst X0.here hx rfl (hb hby at_18) ?_
      refine XS.iand X0.here hx rfl (hb hby at_19) rfl ?_
      refine XS.istore X0.here hx rfl (hb hby at_20) rfl (l' := #[.val (.int pp1), .val (.int pp2), .val (.int pp3), .val (.long qq4), .second, .val (.int (1 : Int32)), .val (.int ((pp2 &&& (2147483647 : Int32)) % (8 : Int32))), .val (.int (pp3 &&& (3 : Int32))), .unset, .unset, .unset, .unset, .unset, .unset, .unset]) rfl ?_
      refine XS.iloadN X0.here hx rfl (hb hby at_22) rfl ?_
      refine XS.iconst X0.here hx rfl (hb hby at_23) ?_
      refine XS.iushr X0.here hx rfl (hb hby at_24) rfl ?_
      refine XS.iconst X0.here hx rfl (hb hby at_25) ?_
      refine XS.iand X0.here hx rfl (hb hby at_26) rfl ?_
      refine XS.istore X0.here hx rfl (hb hby at_27) rfl (l' := #[.val (.int pp1), .val (.int pp2), .val (.int pp3), .val (.long qq4), .second, .val (.int (1 : Int32)), .val (.int ((pp2 &&& (2147483647 : Int32)) % (8 : Int32))), .val (.int (pp3 &&& (3 : Int32))), .val (.int (((pp3.toUInt32 >>> ((2 : Int32) &&& 31).toUInt32).toInt32) &&& (3 : Int32))), .unset, .unset, .unset, .unset, .unset, .unset]) rfl ?_
      refine XS.iloadN X0.here hx rfl (hb hby at_29) rfl ?_
      refine XS.iconst X0.here hx rfl (hb hby at_30) ?_
      refine XS.iushr X0.here hx rfl (hb hby at_31) rfl ?_
      refine XS.iconst X0.here hx rfl (hb hby at_32) ?_
      refine XS.iand X0.here hx rfl (hb hby at_33) rfl ?_
      refine XS.istore X0.here hx rfl (hb hby at_34) rfl (l' := #[.val (.int pp1), .val (.int pp2), .val (.int pp3), .val (.long qq4), .second, .val (.int (1 : Int32)), .val (.int ((pp2 &&& (2147483647 : Int32)) % (8 : Int32))), .val (.int (pp3 &&& (3 : Int32))), .val (.int (((pp3.toUInt32 >>> ((2 : Int32) &&& 31).toUInt32).toInt32) &&& (3 : Int32))), .val (.int (((pp3.toUInt32 >>> ((4 : Int32) &&& 31).toUInt32).toInt32) &&& (3 : Int32))), .unset, .unset, .unset, .unset, .unset]) rfl ?_
      exact kt)
    obtain ⟨of, p0, p1, p2, h_of, h_p0, h_p1, h_p2, pre53⟩ : ∃ (of : Int32) (p0 : Int32) (p1 : Int32) (p2 : Int32), (0 ≤ of.toInt ∧ of.toInt < 8) ∧ (¬ p0 < (0 : Int32) ∧ p0 < (4 : Int32)) ∧ (¬ p1 < (0 : Int32) ∧ p1 < (4 : Int32)) ∧ (¬ p2 < (0 : Int32) ∧ p2 < (4 : Int32)) ∧ ∀ t, Steps p.tables e below (s₁.setTop (mkF m 36 #[.val (.int pp1), .val (.int pp2), .val (.int pp3), .val (.long qq4), .second, .val (.int (1 : Int32)), .val (.int of), .val (.int p0), .val (.int p1), .val (.int p2), .unset, .unset, .unset, .unset, .unset] [])) t → Steps p.tables e below (s₁.setTop (entryFrame m #[(.int pp1), (.int pp2), (.int pp3), (.long qq4)] maxLocals)) t := ⟨((pp2 &&& (2147483647 : Int32)) % (8 : Int32)), (pp3 &&& (3 : Int32)), (((pp3.toUInt32 >>> ((2 : Int32) &&& 31).toUInt32).toInt32) &&& (3 : Int32)), (((pp3.toUInt32 >>> ((4 : Int32) &&& 31).toUInt32).toInt32) &&& (3 : Int32)), own_off (k := 8) (by decide) (by decide), own_m4 _, own_m4 _, own_m4 _, pre52⟩
    obtain ⟨T54, h54, k54, X54, e54, E54, A54, st54⟩ := newP X0 hx hZ (hw _ (List.mem_of_getElem? (i := 1) rfl)) e0 (g := (mkF m 37 #[.val (.int pp1), .val (.int pp2), .val (.int pp3), .val (.long qq4), .second, .val (.int (1 : Int32)), .val (.int of), .val (.int p0), .val (.int p1), .val (.int p2), .unset, .unset, .unset, .unset, .unset] [(.int (4 : Int32))])) rfl (hb hby at_37) rfl (by decide) (cap := 4) (by decide) (by decide) (by decide) (by decide)
    obtain ⟨b54, g54⟩ : ∃ z, z = h0.size := ⟨_, rfl⟩
    rw [← g54] at A54 st54
    have g_b54 : n0 ≤ b54 := Nat.le_trans Z0 (Nat.le_of_eq g54.symm)
    have Z54 : n0 ≤ h54.size := Nat.le_trans Z0 E54.1
    have V54 : Arv Z h54 b54 k54 .double (4 : Int32) [(.double (0 : UInt64)), (.double (0 : UInt64)), (.double (0 : UInt64)), (.double (0 : UInt64))] (.double (0 : UInt64)) := (Arv.new A54 (by decide)).pad (pad_rep [] (.double (0 : UInt64)) 4)
    have pre55 : ∀ t, Steps p.tables e below (T54.setTop (mkF m 50 #[.val (.int pp1), .val (.int pp2), .val (.int pp3), .val (.long qq4), .second, .val (.int (1 : Int32)), .val (.int of), .val (.int p0), .val (.int p1), .val (.int p2), .val (.ref b54), .unset, .unset, .unset, .unset] [(.double (FP.l2d (qq4 &&& (255 : Int64)))), (.int (0 : Int32)), (.ref b54)])) t → Steps p.tables e below (s₁.setTop (entryFrame m #[(.int pp1), (.int pp2), (.int pp3), (.long qq4)] maxLocals)) t := fun t kt => pre53 t (by
      refine XS.iconst X0.here hx rfl (hb hby at_36) ?_
      refine st54 _ ?_
      refine XS.astore X54.here hx rfl (hb hby at_39) rfl rfl (l' := #[.val (.int pp1), .val (.int pp2), .val (.int pp3), .val (.long qq4), .second, .val (.int (1 : Int32)), .val (.int of), .val (.int p0), .val (.int p1), .val (.int p2), .val (.ref b54), .unset, .unset, .unset, .unset]) rfl ?_
      refine XS.aload X54.here hx rfl (hb hby at_41) rfl rfl ?_
      refine XS.iconst X54.here hx rfl (hb hby at_43) ?_
      refine XS.lloadN X54.here hx rfl (hb hby at_44) rfl ?_
      refine X54.ldc2Long hx hown (mvT hZ (hw _ (List.mem_of_getElem? (i := 2) rfl))) (g := (mkF m 45 #[.val (.int pp1), .val (.int pp2), .val (.int pp3), .val (.long qq4), .second, .val (.int (1 : Int32)), .val (.int of), .val (.int p0), .val (.int p1), .val (.int p2), .val (.ref b54), .unset, .unset, .unset, .unset] [(.long qq4), (.int (0 : Int32)), (.ref b54)])) rfl (hb hby at_45) _ ?_
      refine XS.land X54.here hx rfl (hb hby at_48) rfl ?_
      refine XS.l2dS X54.here hx rfl (hb hby at_49) rfl (v := (FP.l2d (qq4 &&& (255 : Int64)))) rfl ?_
      exact kt)
    obtain ⟨y0, h_y0, pre56⟩ : ∃ (y0 : UInt64), (Jvm.Free.Fl.NoNaN64 y0) ∧ ∀ t, Steps p.tables e below (T54.setTop (mkF m 50 #[.val (.int pp1), .val (.int pp2), .val (.int pp3), .val (.long qq4), .second, .val (.int (1 : Int32)), .val (.int of), .val (.int p0), .val (.int p1), .val (.int p2), .val (.ref b54), .unset, .unset, .unset, .unset] [(.double y0), (.int (0 : Int32)), (.ref b54)])) t → Steps p.tables e below (s₁.setTop (entryFrame m #[(.int pp1), (.int pp2), (.int pp3), (.long qq4)] maxLocals)) t := ⟨(FP.l2d (qq4 &&& (255 : Int64))), nn_w rfl, pre55⟩
    obtain ⟨cl_57, Ar_57, qq_57, Sz_57, Nn_57, Hh_57, Gg_57⟩ := id V54
    have hin_57 : ¬ ((0 : Int32) < 0 ∨ cl_57.slots.size ≤ ((0 : Int32)).toNatClampNeg) := inb_of Sz_57 ⟨by decide, by decide⟩
    obtain ⟨T58, h58, X58, e58, W58, st58⟩ := stD X54 hx hZ e54 Ar_57 (j := (0 : Int32)) hin_57 (g := (mkF m 50 #[.val (.int pp1), .val (.int pp2), .val (.int pp3), .val (.long qq4), .second, .val (.int (1 : Int32)), .val (.int of), .val (.int p0), .val (.int p1), .val (.int p2), .val (.ref b54), .unset, .unset, .unset, .unset] [(.double y0), (.int (0 : Int32)), (.ref b54)])) rfl rfl (hb hby at_50)
    have N58 := Fr.snoc X58 N0 g_b54
    have Z58 : n0 ≤ h58.size := Nat.le_trans Z54 (Keep.of_wr W58).1
    have V58 : Arv Z h58 b54 k54 .double (4 : Int32) [(.double y0), (.double (0 : UInt64)), (.double (0 : UInt64)), (.double (0 : UInt64))] (.double (0 : UInt64)) := Arv.set Ar_57 qq_57 Sz_57 Nn_57 Hh_57 Gg_57 rfl W58 0 rfl (Nat.le_of_ble_eq_true rfl)
    have pre59 : ∀ t, Steps p.tables e below (T58.setTop (mkF m 67 #[.val (.int pp1), .val (.int pp2), .val (.int pp3), .val (.long qq4), .second, .val (.int (1 : Int32)), .val (.int of), .val (.int p0), .val (.int p1), .val (.int p2), .val (.ref b54), .unset, .unset, .unset, .unset] [(.double (FP.l2d ((1000 : Int64) + (((qq4.toUInt64 >>> ((8 : Int32) &&& 0x3f).toInt64.toUInt64).toInt64) &&& (255 : Int64))))), (.int (1 : Int32)), (.ref b54)])) t → Steps p.tables e below (s₁.setTop (entryFrame m #[(.int pp1), (.int pp2), (.int pp3), (.long qq4)] maxLocals)) t := fun t kt => pre56 t (by
      refine st58 _ ?_
      refine XS.aload X58.here hx rfl (hb hby at_51) rfl rfl ?_
      refine XS.iconst X58.here hx rfl (hb hby at_53) ?_
      refine X58.ldc2Long hx hown (mvT hZ (hw _ (List.mem_of_getElem? (i := 3) rfl))) (g := (mkF m 54 #[.val (.int pp1), .val (.int pp2), .val (.int pp3), .val (.long qq4), .second, .val (.int (1 : Int32)), .val (.int of), .val (.int p0), .val (.int p1), .val (.int p2), .val (.ref b54), .unset, .unset, .unset, .unset] [(.int (1 : Int32)), (.ref b54)])) rfl (hb hby at_54) _ ?_
      refine XS.lloadN X58.here hx rfl (hb hby at_57) rfl ?_
      refine XS.bipush X58.here hx rfl (hb hby at_58) ?_
      refine XS.lushr X58.here hx rfl (hb hby at_60) rfl ?_
      refine X58.ldc2Long hx hown (mvT hZ (hw _ (List.mem_of_getElem? (i := 2) rfl))) (g := (mkF m 61 #[.val (.int pp1), .val (.int pp2), .val (.int pp3), .val (.long qq4), .second, .val (.int (1 : Int32)), .val (.int of), .val (.int p0), .val (.int p1), .val (.int p2), .val (.ref b54), .unset, .unset, .unset, .unset] [(.long ((qq4.toUInt64 >>> ((8 : Int32) &&& 0x3f).toInt64.toUInt64).toInt64)), (.long (1000 : Int64)), (.int (1 : Int32)), (.ref b54)])) rfl (hb hby at_61) _ ?_
      refine XS.land X58.here hx rfl (hb hby at_64) rfl ?_
      refine XS.ladd X58.here hx rfl (hb hby at_65) rfl ?_
      refine XS.l2dS X58.here hx rfl (hb hby at_66) rfl (v := (FP.l2d ((1000 : Int64) + (((qq4.toUInt64 >>> ((8 : Int32) &&& 0x3f).toInt64.toUInt64).toInt64) &&& (255 : Int64))))) rfl ?_
      exact kt)
    obtain ⟨y1, h_y1, pre60⟩ : ∃ (y1 : UInt64), (Jvm.Free.Fl.NoNaN64 y1) ∧ ∀ t, Steps p.tables e below (T58.setTop (mkF m 67 #[.val (.int pp1), .val (.int pp2), .val (.int pp3), .val (.long qq4), .second, .val (.int (1 : Int32)), .val (.int of), .val (.int p0), .val (.int p1), .val (.int p2), .val (.ref b54), .unset, .unset, .unset, .unset] [(.double y1), (.int (1 : Int32)), (.ref b54)])) t → Steps p.tables e below (s₁.setTop (entryFrame m #[(.int pp1), (.int pp2), (.int pp3), (.long qq4)] maxLocals)) t := ⟨(FP.l2d ((1000 : Int64) + (((qq4.toUInt64 >>> ((8 : Int32) &&& 0x3f).toInt64.toUInt64).toInt64) &&& (255 : Int64)))), nn_w rfl, pre59⟩
    obtain ⟨cl_61, Ar_61, qq_61, Sz_61, Nn_61, Hh_61, Gg_61⟩ := id V58
    have hin_61 : ¬ ((1 : Int32) < 0 ∨ cl_61.slots.size ≤ ((1 : Int32)).toNatClampNeg) := inb_of Sz_61 ⟨by decide, by decide⟩
    obtain ⟨T62, h62, X62, e62, W62, st62⟩ := stD X58 hx hZ e58 Ar_61 (j := (1 : Int32)) hin_61 (g := (mkF m 67 #[.val (.int pp1), .val (.int pp2), .val (.int pp3), .val (.long qq4), .second, .val (.int (1 : Int32)), .val (.int of), .val (.int p0), .val (.int p1), .val (.int p2), .val (.ref b54), .unset, .unset, .unset, .unset] [(.double y1), (.int (1 : Int32)), (.ref b54)])) rfl rfl (hb hby at_67)
    have N62 := Fr.snoc X62 N58 g_b54
    have Z62 : n0 ≤ h62.size := Nat.le_trans Z58 (Keep.of_wr W62).1
    have V62 : Arv Z h62 b54 k54 .double (4 : Int32) [(.double y0), (.double y1), (.double (0 : UInt64)), (.double (0 : UInt64))] (.double (0 : UInt64)) := Arv.set Ar_61 qq_61 Sz_61 Nn_61 Hh_61 Gg_61 rfl W62 1 rfl (Nat.le_of_ble_eq_true rfl)
    have pre63 : ∀ t, Steps p.tables e below (T62.setTop (mkF m 84 #[.val (.int pp1), .val (.int pp2), .val (.int pp3), .val (.long qq4), .second, .val (.int (1 : Int32)), .val (.int of), .val (.int p0), .val (.int p1), .val (.int p2), .val (.ref b54), .unset, .unset, .unset, .unset] [(.double (FP.l2d ((2000 : Int64) + (((qq4.toUInt64 >>> ((16 : Int32) &&& 0x3f).toInt64.toUInt64).toInt64) &&& (255 : Int64))))), (.int (2 : Int32)), (.ref b54)])) t → Steps p.tables e below (s₁.setTop (entryFrame m #[(.int pp1), (.int pp2), (.int pp3), (.long qq4)] maxLocals)) t := fun t kt => pre60 t (by
      refine st62 _ ?_
      refine XS.aload X62.here hx rfl (hb hby at_68) rfl rfl ?_
      refine XS.iconst X62.here hx rfl (hb hby at_70) ?_
      refine X62.ldc2Long hx hown (mvT hZ (hw _ (List.mem_of_getElem? (i := 4) rfl))) (g := (mkF m 71 #[.val (.int pp1), .val (.int pp2), .val (.int pp3), .val (.long qq4), .second, .val (.int (1 : Int32)), .val (.int of), .val (.int p0), .val (.int p1), .val (.int p2), .val (.ref b54), .unset, .unset, .unset, .unset] [(.int (2 : Int32)), (.ref b54)])) rfl (hb hby at_71) _ ?_
      refine XS.lloadN X62.here hx rfl (hb hby at_74) rfl ?_
      refine XS.bipush X62.here hx rfl (hb hby at_75) ?_
      refine XS.lushr X62.here hx rfl (hb hby at_77) rfl ?_
      refine X62.ldc2Long hx hown (mvT hZ (hw _ (List.mem_of_getElem? (i := 2) rfl))) (g := (mkF m 78 #[.val (.int pp1), .val (.int pp2), .val (.int pp3), .val (.long qq4), .second, .val (.int (1 : Int32)), .val (.int of), .val (.int p0), .val (.int p1), .val (.int p2), .val (.ref b54), .unset, .unset, .unset, .unset] [(.long ((qq4.toUInt64 >>> ((16 : Int32) &&& 0x3f).toInt64.toUInt64).toInt64)), (.long (2000 : Int64)), (.int (2 : Int32)), (.ref b54)])) rfl (hb hby at_78) _ ?_
      refine XS.land X62.here hx rfl (hb hby at_81) rfl ?_
      refine XS.ladd X62.here hx rfl (hb hby at_82) rfl ?_
      refine XS.l2dS X62.here hx rfl (hb hby at_83) rfl (v := (FP.l2d ((2000 : Int64) + (((qq4.toUInt64 >>> ((16 : Int32) &&& 0x3f).toInt64.toUInt64).toInt64) &&& (255 : Int64))))) rfl ?_
      exact kt)
    obtain ⟨y2, h_y2, pre64⟩ : ∃ (y2 : UInt64), (Jvm.Free.Fl.NoNaN64 y2) ∧ ∀ t, Steps p.tables e below (T62.setTop (mkF m 84 #[.val (.int pp1), .val (.int pp2), .val (.int pp3), .val (.long qq4), .second, .val (.int (1 : Int32)), .val (.int of), .val (.int p0), .val (.int p1), .val (.int p2), .val (.ref b54), .unset, .unset, .unset, .unset] [(.double y2), (.int (2 : Int32)), (.ref b54)])) t → Steps p.tables e below (s₁.setTop (entryFrame m #[(.int pp1), (.int pp2), (.int pp3), (.long qq4)] maxLocals)) t := ⟨(FP.l2d ((2000 : Int64) + (((qq4.toUInt64 >>> ((16 : Int32) &&& 0x3f).toInt64.toUInt64).toInt64) &&& (255 : Int64)))), nn_w rfl, pre63⟩
    obtain ⟨cl_65, Ar_65, qq_65, Sz_65, Nn_65, Hh_65, Gg_65⟩ := id V62
    have hin_65 : ¬ ((2 : Int32) < 0 ∨ cl_65.slots.size ≤ ((2 : Int32)).toNatClampNeg) := inb_of Sz_65 ⟨by decide, by decide⟩
    obtain ⟨T66, h66, X66, e66, W66, st66⟩ := stD X62 hx hZ e62 Ar_65 (j := (2 : Int32)) hin_65 (g := (mkF m 84 #[.val (.int pp1), .val (.int pp2), .val (.int pp3), .val (.long qq4), .second, .val (.int (1 : Int32)), .val (.int of), .val (.int p0), .val (.int p1), .val (.int p2), .val (.ref b54), .unset, .unset, .unset, .unset] [(.double y2), (.int (2 : Int32)), (.ref b54)])) rfl rfl (hb hby at_84)
    have N66 := Fr.snoc X66 N62 g_b54
    have Z66 : n0 ≤ h66.size := Nat.le_trans Z62 (Keep.of_wr W66).1
    have V66 : Arv Z h66 b54 k54 .double (4 : Int32) [(.double y0), (.double y1), (.double y2), (.double (0 : UInt64))] (.double (0 : UInt64)) := Arv.set Ar_65 qq_65 Sz_65 Nn_65 Hh_65 Gg_65 rfl W66 2 rfl (Nat.le_of_ble_eq_true rfl)
    have pre67 : ∀ t, Steps p.tables e below (T66.setTop (mkF m 101 #[.val (.int pp1), .val (.int pp2), .val (.int pp3), .val (.long qq4), .second, .val (.int (1 : Int32)), .val (.int of), .val (.int p0), .val (.int p1), .val (.int p2), .val (.ref b54), .unset, .unset, .unset, .unset] [(.double (FP.l2d ((3000 : Int64) + (((qq4.toUInt64 >>> ((24 : Int32) &&& 0x3f).toInt64.toUInt64).toInt64) &&& (255 : Int64))))), (.int (3 : Int32)), (.ref b54)])) t → Steps p.tables e below (s₁.setTop (entryFrame m #[(.int pp1), (.int pp2), (.int pp3), (.long qq4)] maxLocals)) t := fun t kt => pre64 t (by
      refine st66 _ ?_
      refine XS.aload X66.here hx rfl (hb hby at_85) rfl rfl ?_
      refine XS.iconst X66.here hx rfl (hb hby at_87) ?_
      refine X66.ldc2Long hx hown (mvT hZ (hw _ (List.mem_of_getElem? (i := 5) rfl))) (g := (mkF m 88 #[.val (.int pp1), .val (.int pp2), .val (.int pp3), .val (.long qq4), .second, .val (.int (1 : Int32)), .val (.int of), .val (.int p0), .val (.int p1), .val (.int p2), .val (.ref b54), .unset, .unset, .unset, .unset] [(.int (3 : Int32)), (.ref b54)])) rfl (hb hby at_88) _ ?_
      refine XS.lloadN X66.here hx rfl (hb hby at_91) rfl ?_
      refine XS.bipush X66.here hx rfl (hb hby at_92) ?_
      refine XS.lushr X66.here hx rfl (hb hby at_94) rfl ?_
      refine X66.ldc2Long hx hown (mvT hZ (hw _ (List.mem_of_getElem? (i := 2) rfl))) (g := (mkF m 95 #[.val (.int pp1), .val (.int pp2), .val (.int pp3), .val (.long qq4), .second, .val (.int (1 : Int32)), .val (.int of), .val (.int p0), .val (.int p1), .val (.int p2), .val (.ref b54), .unset, .unset, .unset, .unset] [(.long ((qq4.toUInt64 >>> ((24 : Int32) &&& 0x3f).toInt64.toUInt64).toInt64)), (.long (3000 : Int64)), (.int (3 : Int32)), (.ref b54)])) rfl (hb hby at_95) _ ?_
      refine XS.land X66.here hx rfl (hb hby at_98) rfl ?_
      refine XS.ladd X66.here hx rfl (hb hby at_99) rfl ?_
      refine XS.l2dS X66.here hx rfl (hb hby at_100) rfl (v := (FP.l2d ((3000 : Int64) + (((qq4.toUInt64 >>> ((24 : Int32) &&& 0x3f).toInt64.toUInt64).toInt64) &&& (255 : Int64))))) rfl ?_
      exact kt)
    obtain ⟨y3, h_y3, pre68⟩ : ∃ (y3 : UInt64), (Jvm.Free.Fl.NoNaN64 y3) ∧ ∀ t, Steps p.tables e below (T66.setTop (mkF m 101 #[.val (.int pp1), .val (.int pp2), .val (.int pp3), .val (.long qq4), .second, .val (.int (1 : Int32)), .val (.int of), .val (.int p0), .val (.int p1), .val (.int p2), .val (.ref b54), .unset, .unset, .unset, .unset] [(.double y3), (.int (3 : Int32)), (.ref b54)])) t → Steps p.tables e below (s₁.setTop (entryFrame m #[(.int pp1), (.int pp2), (.int pp3), (.long qq4)] maxLocals)) t := ⟨(FP.l2d ((3000 : Int64) + (((qq4.toUInt64 >>> ((24 : Int32) &&& 0x3f).toInt64.toUInt64).toInt64) &&& (255 : Int64)))), nn_w rfl, pre67⟩
    have ho0 : ¬ (of + (0 : Int32)) < (0 : Int32) ∧ (of + (0 : Int32)) < (8 : Int32) := (own_offk (0 : Int32) (J := 0) (k := 8) (by decide) h_of (by decide) (by decide)).resolve_right (by decide)
    obtain ⟨cl_69, Ar_69, qq_69, Sz_69, Nn_69, Hh_69, Gg_69⟩ := id V66
    have hin_69 : ¬ ((3 : Int32) < 0 ∨ cl_69.slots.size ≤ ((3 : Int32)).toNatClampNeg) := inb_of Sz_69 ⟨by decide, by decide⟩
    obtain ⟨T70, h70, X70, e70, W70, st70⟩ := stD X66 hx hZ e66 Ar_69 (j := (3 : Int32)) hin_69 (g := (mkF m 101 #[.val (.int pp1), .val (.int pp2), .val (.int pp3), .val (.long qq4), .second, .val (.int (1 : Int32)), .val (.int of), .val (.int p0), .val (.int p1), .val (.int p2), .val (.ref b54), .unset, .unset, .unset, .unset] [(.double y3), (.int (3 : Int32)), (.ref b54)])) rfl rfl (hb hby at_101)
    have N70 := Fr.snoc X70 N66 g_b54
    have Z70 : n0 ≤ h70.size := Nat.le_trans Z66 (Keep.of_wr W70).1
    have V70 : Arv Z h70 b54 k54 .double (4 : Int32) [(.double y0), (.double y1), (.double y2), (.double y3)] (.double (0 : UInt64)) := Arv.set Ar_69 qq_69 Sz_69 Nn_69 Hh_69 Gg_69 rfl W70 3 rfl (Nat.le_of_ble_eq_true rfl)
    obtain ⟨T71, h71, k71, X71, e71, E71, A71, st71⟩ := newP X70 hx hZ (hw _ (List.mem_of_getElem? (i := 6) rfl)) e70 (g := (mkF m 104 #[.val (.int pp1), .val (.int pp2), .val (.int pp3), .val (.long qq4), .second, .val (.int (1 : Int32)), .val (.int of), .val (.int p0), .val (.int p1), .val (.int p2), .val (.ref b54), .unset, .unset, .unset, .unset] [(.int (1 : Int32))])) rfl (hb hby at_104) rfl (by decide) (cap := 1) (by decide) (by decide) (by decide) (by decide)
    obtain ⟨b71, g71⟩ : ∃ z, z = h70.size := ⟨_, rfl⟩
    rw [← g71] at A71 st71
    have g_b71 : n0 ≤ b71 := Nat.le_trans Z70 (Nat.le_of_eq g71.symm)
    have Z71 : n0 ≤ h71.size := Nat.le_trans Z70 E71.1
    have V71 : Arv Z h71 b71 k71 .int (1 : Int32) [(.int (0 : Int32))] (.int (0 : Int32)) := (Arv.new A71 (by decide)).pad (pad_rep [] (.int (0 : Int32)) 1)
    have hc110_2 : (0 : Int32) < (1 : Int32) := by decide
    obtain ⟨cl_72, Ar_72, qq_72, Sz_72, Nn_72, Hh_72, Gg_72⟩ := id V71
    have hin_72 : ¬ ((0 : Int32) < 0 ∨ cl_72.slots.size ≤ ((0 : Int32)).toNatClampNeg) := inb_of Sz_72 ⟨by decide, by decide⟩
    obtain ⟨T73, h73, X73, e73, W73, st73⟩ := stI X71 hx hZ e71 Ar_72 (j := (0 : Int32)) hin_72 (g := (mkF m 118 #[.val (.int pp1), .val (.int pp2), .val (.int pp3), .val (.long qq4), .second, .val (.int (1 : Int32)), .val (.int of), .val (.int p0), .val (.int p1), .val (.int p2), .val (.ref b54), .val (.ref b71), .unset, .unset, .unset] [(.int p0), (.int (0 : Int32)), (.ref b71)])) rfl rfl (hb hby at_118)
    have N73 := Fr.snoc X73 N70 g_b71
    have Z73 : n0 ≤ h73.size := Nat.le_trans Z71 (Keep.of_wr W73).1
    have V73 : Arv Z h73 b71 k71 .int (1 : Int32) [(.int p0)] (.int (0 : Int32)) := Arv.set Ar_72 qq_72 Sz_72 Nn_72 Hh_72 Gg_72 rfl W73 0 rfl (Nat.le_of_ble_eq_true rfl)
    have hc122_2 : ¬ ((1 : Int32) < (1 : Int32)) := by decide
    have hc134_2 : ¬ ((2 : Int32) < (1 : Int32)) := by decide
    obtain ⟨T74, h74, k74, X74, e74, E74, A74, st74⟩ := newP X73 hx hZ (hw _ (List.mem_of_getElem? (i := 1) rfl)) e73 (g := (mkF m 145 #[.val (.int pp1), .val (.int pp2), .val (.int pp3), .val (.long qq4), .second, .val (.int (1 : Int32)), .val (.int of), .val (.int p0), .val (.int p1), .val (.int p2), .val (.ref b54), .val (.ref b71), .unset, .unset, .unset] [(.int (8 : Int32))])) rfl (hb hby at_145) rfl (by decide) (cap := 8) (by decide) (by decide) (by decide) (by decide)
    obtain ⟨b74, g74⟩ : ∃ z, z = h73.size := ⟨_, rfl⟩
    rw [← g74] at A74 st74
    have g_b74 : n0 ≤ b74 := Nat.le_trans Z73 (Nat.le_of_eq g74.symm)
    have Z74 : n0 ≤ h74.size := Nat.le_trans Z73 E74.1
    have V74 : Arv Z h74 b74 k74 .double (8 : Int32) [(.double (0 : UInt64)), (.double (0 : UInt64)), (.double (0 : UInt64)), (.double (0 : UInt64)), (.double (0 : UInt64)), (.double (0 : UInt64)), (.double (0 : UInt64)), (.double (0 : UInt64))] (.double (0 : UInt64)) := (Arv.new A74 (by decide)).pad (pad_rep [] (.double (0 : UInt64)) 8)
    obtain ⟨cl_75, Ar_75, qq_75, Sz_75, Nn_75, Hh_75, Gg_75⟩ := id V74
    have hin_75 : ¬ ((0 : Int32) < 0 ∨ cl_75.slots.size ≤ ((0 : Int32)).toNatClampNeg) := inb_of Sz_75 ⟨by decide, by decide⟩
    obtain ⟨T76, h76, X76, e76, W76, st76⟩ := stD X74 hx hZ e74 Ar_75 (j := (0 : Int32)) hin_75 (g := (mkF m 155 #[.val (.int pp1), .val (.int pp2), .val (.int pp3), .val (.long qq4), .second, .val (.int (1 : Int32)), .val (.int of), .val (.int p0), .val (.int p1), .val (.int p2), .val (.ref b54), .val (.ref b71), .val (.ref b74), .unset, .unset] [(.double (13830554455654793216 : UInt64)), (.int (0 : Int32)), (.ref b74)])) rfl rfl (hb hby at_155)
    have N76 := Fr.snoc X76 N73 g_b74
    have Z76 : n0 ≤ h76.size := Nat.le_trans Z74 (Keep.of_wr W76).1
    have V76 : Arv Z h76 b74 k74 .double (8 : Int32) [(.double (13830554455654793216 : UInt64)), (.double (0 : UInt64)), (.double (0 : UInt64)), (.double (0 : UInt64)), (.double (0 : UInt64)), (.double (0 : UInt64)), (.double (0 : UInt64)), (.double (0 : UInt64))] (.double (0 : UInt64)) := Arv.set Ar_75 qq_75 Sz_75 Nn_75 Hh_75 Gg_75 rfl W76 0 rfl (Nat.le_of_ble_eq_true rfl)
    obtain ⟨cl_77, Ar_77, qq_77, Sz_77, Nn_77, Hh_77, Gg_77⟩ := id V76
    have hin_77 : ¬ ((1 : Int32) < 0 ∨ cl_77.slots.size ≤ ((1 : Int32)).toNatClampNeg) := inb_of Sz_77 ⟨by decide, by decide⟩
    obtain ⟨T78, h78, X78, e78, W78, st78⟩ := stD X76 hx hZ e76 Ar_77 (j := (1 : Int32)) hin_77 (g := (mkF m 162 #[.val (.int pp1), .val (.int pp2), .val (.int pp3), .val (.long qq4), .second, .val (.int (1 : Int32)), .val (.int of), .val (.int p0), .val (.int p1), .val (.int p2), .val (.ref b54), .val (.ref b71), .val (.ref b74), .unset, .unset] [(.double (13835058055282163712 : UInt64)), (.int (1 : Int32)), (.ref b74)])) rfl rfl (hb hby at_162)
    have N78 := Fr.snoc X78 N76 g_b74
    have Z78 : n0 ≤ h78.size := Nat.le_trans Z76 (Keep.of_wr W78).1
    have V78 : Arv Z h78 b74 k74 .double (8 : Int32) [(.double (13830554455654793216 : UInt64)), (.double (13835058055282163712 : UInt64)), (.double (0 : UInt64)), (.double (0 : UInt64)), (.double (0 : UInt64)), (.double (0 : UInt64)), (.double (0 : UInt64)), (.double (0 : UInt64))] (.double (0 : UInt64)) := Arv.set Ar_77 qq_77 Sz_77 Nn_77 Hh_77 Gg_77 rfl W78 1 rfl (Nat.le_of_ble_eq_true rfl)
    obtain ⟨cl_79, Ar_79, qq_79, Sz_79, Nn_79, Hh_79, Gg_79⟩ := id V78
    have hin_79 : ¬ ((2 : Int32) < 0 ∨ cl_79.slots.size ≤ ((2 : Int32)).toNatClampNeg) := inb_of Sz_79 ⟨by decide, by decide⟩
    obtain ⟨T80, h80, X80, e80, W80, st80⟩ := stD X78 hx hZ e78 Ar_79 (j := (2 : Int32)) hin_79 (g := (mkF m 169 #[.val (.int pp1), .val (.int pp2), .val (.int pp3), .val (.long qq4), .second, .val (.int (1 : Int32)), .val (.int of), .val (.int p0), .val (.int p1), .val (.int p2), .val (.ref b54), .val (.ref b71), .val (.ref b74), .unset, .unset] [(.double (13837309855095848960 : UInt64)), (.int (2 : Int32)), (.ref b74)])) rfl rfl (hb hby at_169)
    have N80 := Fr.snoc X80 N78 g_b74
    have Z80 : n0 ≤ h80.size := Nat.le_trans Z78 (Keep.of_wr W80).1
    have V80 : Arv Z h80 b74 k74 .double (8 : Int32) [(.double (13830554455654793216 : UInt64)), (.double (13835058055282163712 : UInt64)), (.double (13837309855095848960 : UInt64)), (.double (0 : UInt64)), (.double (0 : UInt64)), (.double (0 : UInt64)), (.double (0 : UInt64)), (.double (0 : UInt64))] (.double (0 : UInt64)) := Arv.set Ar_79 qq_79 Sz_79 Nn_79 Hh_79 Gg_79 rfl W80 2 rfl (Nat.le_of_ble_eq_true rfl)
    obtain ⟨cl_81, Ar_81, qq_81, Sz_81, Nn_81, Hh_81, Gg_81⟩ := id V80
    have hin_81 : ¬ ((3 : Int32) < 0 ∨ cl_81.slots.size ≤ ((3 : Int32)).toNatClampNeg) := inb_of Sz_81 ⟨by decide, by decide⟩
    obtain ⟨T82, h82, X82, e82, W82, st82⟩ := stD X80 hx hZ e80 Ar_81 (j := (3 : Int32)) hin_81 (g := (mkF m 176 #[.val (.int pp1), .val (.int pp2), .val (.int pp3), .val (.long qq4), .second, .val (.int (1 : Int32)), .val (.int of), .val (.int p0), .val (.int p1), .val (.int p2), .val (.ref b54), .val (.ref b71), .val (.ref b74), .unset, .unset] [(.double (13839561654909534208 : UInt64)), (.int (3 : Int32)), (.ref b74)])) rfl rfl (hb hby at_176)
    have N82 := Fr.snoc X82 N80 g_b74
    have Z82 : n0 ≤ h82.size := Nat.le_trans Z80 (Keep.of_wr W82).1
    have V82 : Arv Z h82 b74 k74 .double (8 : Int32) [(.double (13830554455654793216 : UInt64)), (.double (13835058055282163712 : UInt64)), (.double (13837309855095848960 : UInt64)), (.double (13839561654909534208 : UInt64)), (.double (0 : UInt64)), (.double (0 : UInt64)), (.double (0 : UInt64)), (.double (0 : UInt64))] (.double (0 : UInt64)) := Arv.set Ar_81 qq_81 Sz_81 Nn_81 Hh_81 Gg_81 rfl W82 3 rfl (Nat.le_of_ble_eq_true rfl)
    obtain ⟨cl_83, Ar_83, qq_83, Sz_83, Nn_83, Hh_83, Gg_83⟩ := id V82
    have hin_83 : ¬ ((4 : Int32) < 0 ∨ cl_83.slots.size ≤ ((4 : Int32)).toNatClampNeg) := inb_of Sz_83 ⟨by decide, by decide⟩
    obtain ⟨T84, h84, X84, e84, W84, st84⟩ := stD X82 hx hZ e82 Ar_83 (j := (4 : Int32)) hin_83 (g := (mkF m 183 #[.val (.int pp1), .val (.int pp2), .val (.int pp3), .val (.long qq4), .second, .val (.int (1 : Int32)), .val (.int of), .val (.int p0), .val (.int p1), .val (.int p2), .val (.ref b54), .val (.ref b71), .val (.ref b74), .unset, .unset] [(.double (13840687554816376832 : UInt64)), (.int (4 : Int32)), (.ref b74)])) rfl rfl (hb hby at_183)
    have N84 := Fr.snoc X84 N82 g_b74
    have Z84 : n0 ≤ h84.size := Nat.le_trans Z82 (Keep.of_wr W84).1
    have V84 : Arv Z h84 b74 k74 .double (8 : Int32) [(.double (13830554455654793216 : UInt64)), (.double (13835058055282163712 : UInt64)), (.double (13837309855095848960 : UInt64)), (.double (13839561654909534208 : UInt64)), (.double (13840687554816376832 : UInt64)), (.double (0 : UInt64)), (.double (0 : UInt64)), (.double (0 : UInt64))] (.double (0 : UInt64)) := Arv.set Ar_83 qq_83 Sz_83 Nn_83 Hh_83 Gg_83 rfl W84 4 rfl (Nat.le_of_ble_eq_true rfl)
    obtain ⟨cl_85, Ar_85, qq_85, Sz_85, Nn_85, Hh_85, Gg_85⟩ := id V84
    have hin_85 : ¬ ((5 : Int32) < 0 ∨ cl_85.slots.size ≤ ((5 : Int32)).toNatClampNeg) := inb_of Sz_85 ⟨by decide, by decide⟩
    obtain ⟨T86, h86, X86, e86, W86, st86⟩ := stD X84 hx hZ e84 Ar_85 (j := (5 : Int32)) hin_85 (g := (mkF m 190 #[.val (.int pp1), .val (.int pp2), .val (.int pp3), .val (.long qq4), .second, .val (.int (1 : Int32)), .val (.int of), .val (.int p0), .val (.int p1), .val (.int p2), .val (.ref b54), .val (.ref b71), .val (.ref b74), .unset, .unset] [(.double (13841813454723219456 : UInt64)), (.int (5 : Int32)), (.ref b74)])) rfl rfl (hb hby at_190)
    have N86 := Fr.snoc X86 N84 g_b74
    have Z86 : n0 ≤ h86.size := Nat.le_trans Z84 (Keep.of_wr W86).1
    have V86 : Arv Z h86 b74 k74 .double (8 : Int32) [(.double (13830554455654793216 : UInt64)), (.double (13835058055282163712 : UInt64)), (.double (13837309855095848960 : UInt64)), (.double (13839561654909534208 : UInt64)), (.double (13840687554816376832 : UInt64)), (.double (13841813454723219456 : UInt64)), (.double (0 : UInt64)), (.double (0 : UInt64))] (.double (0 : UInt64)) := Arv.set Ar_85 qq_85 Sz_85 Nn_85 Hh_85 Gg_85 rfl W86 5 rfl (Nat.le_of_ble_eq_true rfl)
    obtain ⟨cl_87, Ar_87, qq_87, Sz_87, Nn_87, Hh_87, Gg_87⟩ := id V86
    have hin_87 : ¬ ((6 : Int32) < 0 ∨ cl_87.slots.size ≤ ((6 : Int32)).toNatClampNeg) := inb_of Sz_87 ⟨by decide, by decide⟩
    obtain ⟨T88, h88, X88, e88, W88, st88⟩ := stD X86 hx hZ e86 Ar_87 (j := (6 : Int32)) hin_87 (g := (mkF m 198 #[.val (.int pp1), .val (.int pp2), .val (.int pp3), .val (.long qq4), .second, .val (.int (1 : Int32)), .val (.int of), .val (.int p0), .val (.int p1), .val (.int p2), .val (.ref b54), .val (.ref b71), .val (.ref b74), .unset, .unset] [(.double (13842939354630062080 : UInt64)), (.int (6 : Int32)), (.ref b74)])) rfl rfl (hb hby at_198)
    have N88 := Fr.snoc X88 N86 g_b74
    have Z88 : n0 ≤ h88.size := Nat.le_trans Z86 (Keep.of_wr W88).1
    have V88 : Arv Z h88 b74 k74 .double (8 : Int32) [(.double (13830554455654793216 : UInt64)), (.double (13835058055282163712 : UInt64)), (.double (13837309855095848960 : UInt64)), (.double (13839561654909534208 : UInt64)), (.double (13840687554816376832 : UInt64)), (.double (13841813454723219456 : UInt64)), (.double (13842939354630062080 : UInt64)), (.double (0 : UInt64))] (.double (0 : UInt64)) := Arv.set Ar_87 qq_87 Sz_87 Nn_87 Hh_87 Gg_87 rfl W88 6 rfl (Nat.le_of_ble_eq_true rfl)
    obtain ⟨cl_89, Ar_89, qq_89, Sz_89, Nn_89, Hh_89, Gg_89⟩ := id V88
    have hin_89 : ¬ ((7 : Int32) < 0 ∨ cl_89.slots.size ≤ ((7 : Int32)).toNatClampNeg) := inb_of Sz_89 ⟨by decide, by decide⟩
    obtain ⟨T90, h90, X90, e90, W90, st90⟩ := stD X88 hx hZ e88 Ar_89 (j := (7 : Int32)) hin_89 (g := (mkF m 206 #[.val (.int pp1), .val (.int pp2), .val (.int pp3), .val (.long qq4), .second, .val (.int (1 : Int32)), .val (.int of), .val (.int p0), .val (.int p1), .val (.int p2), .val (.ref b54), .val (.ref b71), .val (.ref b74), .unset, .unset] [(.double (13844065254536904704 : UInt64)), (.int (7 : Int32)), (.ref b74)])) rfl rfl (hb hby at_206)
    have N90 := Fr.snoc X90 N88 g_b74
    have Z90 : n0 ≤ h90.size := Nat.le_trans Z88 (Keep.of_wr W90).1
    have V90 : Arv Z h90 b74 k74 .double (8 : Int32) [(.double (13830554455654793216 : UInt64)), (.double (13835058055282163712 : UInt64)), (.double (13837309855095848960 : UInt64)), (.double (13839561654909534208 : UInt64)), (.double (13840687554816376832 : UInt64)), (.double (13841813454723219456 : UInt64)), (.double (13842939354630062080 : UInt64)), (.double (13844065254536904704 : UInt64))] (.double (0 : UInt64)) := Arv.set Ar_89 qq_89 Sz_89 Nn_89 Hh_89 Gg_89 rfl W90 7 rfl (Nat.le_of_ble_eq_true rfl)
    have V_91 : Arv Z h90 b71 k71 .int (1 : Int32) [(.int p0)] (.int (0 : Int32)) := (((((((((V73.ext E74).other W76 (Nat.ne_of_lt (Nat.lt_of_lt_of_le V73.lt (Nat.le_of_eq g74.symm)))).other W78 (Nat.ne_of_lt (Nat.lt_of_lt_of_le V73.lt (Nat.le_of_eq g74.symm)))).other W80 (Nat.ne_of_lt (Nat.lt_of_lt_of_le V73.lt (Nat.le_of_eq g74.symm)))).other W82 (Nat.ne_of_lt (Nat.lt_of_lt_of_le V73.lt (Nat.le_of_eq g74.symm)))).other W84 (Nat.ne_of_lt (Nat.lt_of_lt_of_le V73.lt (Nat.le_of_eq g74.symm)))).other W86 (Nat.ne_of_lt (Nat.lt_of_lt_of_le V73.lt (Nat.le_of_eq g74.symm)))).other W88 (Nat.ne_of_lt (Nat.lt_of_lt_of_le V73.lt (Nat.le_of_eq g74.symm)))).other W90 (Nat.ne_of_lt (Nat.lt_of_lt_of_le V73.lt (Nat.le_of_eq g74.symm))))
    have V_92 : Arv Z h90 b54 k54 .double (4 : Int32) [(.double y0), (.double y1), (.double y2), (.double y3)] (.double (0 : UInt64)) := (((((((((((V70.ext E71).other W73 (Nat.ne_of_lt (Nat.lt_of_lt_of_le V70.lt (Nat.le_of_eq g71.symm)))).ext E74).other W76 (Nat.ne_of_lt (Nat.lt_of_lt_of_le ((V70.ext E71).other W73 (Nat.ne_of_lt (Nat.lt_of_lt_of_le V70.lt (Nat.le_of_eq g71.symm)))).lt (Nat.le_of_eq g74.symm)))).other W78 (Nat.ne_of_lt (Nat.lt_of_lt_of_le ((V70.ext E71).other W73 (Nat.ne_of_lt (Nat.lt_of_lt_of_le V70.lt (Nat.le_of_eq g71.symm)))).lt (Nat.le_of_eq g74.symm)))).other W80 (Nat.ne_of_lt (Nat.lt_of_lt_of_le ((V70.ext E71).other W73 (Nat.ne_of_lt (Nat.lt_of_lt_of_le V70.lt (Nat.le_of_eq g71.symm)))).lt (Nat.le_of_eq g74.symm)))).other W82 (Nat.ne_of_lt (Nat.lt_of_lt_of_le ((V70.ext E71).other W73 (Nat.ne_of_lt (Nat.lt_of_lt_of_le V70.lt (Nat.le_of_eq g71.symm)))).lt (Nat.le_of_eq g74.symm)))).other W84 (Nat.ne_of_lt (Nat.lt_of_lt_of_le ((V70.ext E71).other W73 (Nat.ne_of_lt (Nat.lt_of_lt_of_le V70.lt (Nat.le_of_eq g71.symm)))).lt (Nat.le_of_eq g74.symm)))).other W86 (Nat.ne_of_lt (Nat.lt_of_lt_of_le ((V70.ext E71).other W73 (Nat.ne_of_lt (Nat.lt_of_lt_of_le V70.lt (Nat.le_of_eq g71.symm)))).lt (Nat.le_of_eq g74.symm)))).other W88 (Nat.ne_of_lt (Nat.lt_of_lt_of_le ((V70.ext E71).other W73 (Nat.ne_of_lt (Nat.lt_of_lt_of_le V70.lt (Nat.le_of_eq g71.symm)))).lt (Nat.le_of_eq g74.symm)))).other W90 (Nat.ne_of_lt (Nat.lt_of_lt_of_le ((V70.ext E71).other W73 (Nat.ne_of_lt (Nat.lt_of_lt_of_le V70.lt (Nat.le_of_eq g71.symm)))).lt (Nat.le_of_eq g74.symm))))
    obtain ⟨_, _, ⟨T93, L93, k93, n93⟩, -, X93, ⟨Lc93, hQ93, l93, y93, z93⟩, st93⟩ := Jvm.LawKit.callS X90 hx (y := (⟨"com/example/splitgrain/splitgrain/parse/ChartItems", "gather", "([I[D[DI)[D"⟩ : MethodName)) hown (mvT hZ (hw _ (List.mem_of_getElem? (i := 15) rfl))) (mvT hZ (hw _ (List.mem_of_getElem? (i := 16) rfl))) (mvT hZ (hw _ (List.mem_of_getElem? (i := 17) rfl))) (mvT hZ (hw _ (List.mem_of_getElem? (i := 18) rfl))) (by decide) (backOf (W := 0) (rm1_1 l Z a0 hw [] b71 b54 b74 of k71 k54 k74 [(.double y0), (.double y1), (.double y2), (.double y3)] [(.double (13830554455654793216 : UInt64)), (.double (13835058055282163712 : UInt64)), (.double (13837309855095848960 : UInt64)), (.double (13839561654909534208 : UInt64)), (.double (13840687554816376832 : UInt64)), (.double (13841813454723219456 : UInt64)), (.double (13842939354630062080 : UInt64)), (.double (13844065254536904704 : UInt64))] p0 (own_pick p0 y0 y1 y2 y3) h90 n0 Z90 V_91 V_92 V90 g_b74 (Nat.ne_of_lt (Nat.lt_of_lt_of_le V73.lt (Nat.le_of_eq g74.symm))) (Nat.ne_of_lt (Nat.lt_of_lt_of_le ((V70.ext E71).other W73 (Nat.ne_of_lt (Nat.lt_of_lt_of_le V70.lt (Nat.le_of_eq g71.symm)))).lt (Nat.le_of_eq g74.symm))) (show ([(.double (13830554455654793216 : UInt64)), (.double (13835058055282163712 : UInt64)), (.double (13837309855095848960 : UInt64)), (.double (13839561654909534208 : UInt64)), (.double (13840687554816376832 : UInt64)), (.double (13841813454723219456 : UInt64)), (.double (13842939354630062080 : UInt64)), (.double (13844065254536904704 : UInt64))] : List Value).length = 8 from rfl) (show ¬ p0 < (0 : Int32) ∧ p0 < (4 : Int32) from h_p0) (show ([(.double y0), (.double y1), (.double y2), (.double y3)] : List Value).getD (p0).toNatClampNeg (.double (0 : UInt64)) = .double (own_pick p0 y0 y1 y2 y3) from (own_pickAt _ _ _ _ _ h_p0)) (show ¬ (of + (0 : Int32)) < (0 : Int32) ∧ (of + (0 : Int32)) < (8 : Int32) from ho0)) hZ (hw _ (List.mem_of_getElem? (i := 18) rfl)) (hw _ (List.mem_of_getElem? (i := 17) rfl)) (by decide) (by decide)) (g := (mkF m 215 #[.val (.int pp1), .val (.int pp2), .val (.int pp3), .val (.long qq4), .second, .val (.int (1 : Int32)), .val (.int of), .val (.int p0), .val (.int p1), .val (.int p2), .val (.ref b54), .val (.ref b71), .val (.ref b74), .unset, .unset] [(.int of), (.ref b74), (.ref b54), (.ref b71)])) rfl (by rw [hml]; rfl) (argsL := [(.ref b71), (.ref b54), (.ref b74), (.int of)]) (rest := []) (lenOf pd__28__5b_I_5b_D_5b_DI_29__5b_D rfl) rfl (by show 2 * 0 + _ ≤ _; exact Nat.le_of_eq rfl) (hb hby at_215) (fun _ _ => ⟨rfl, e90, (by decide : 3 + 0 ≤ _), (by decide : 13 + 0 ≤ _)⟩)
    dsimp only [Pt.U, Pt.locs, Pt.cells, Pt.slots] at X93 l93 y93 z93 st93 hQ93
    subst y93 z93
    obtain ⟨rfl, N93q, K93c, R93_0⟩ := hQ93
    have N93 : Fr n0 L93 := by rw [l93]; exact Fr.app N90 N93q
    have Z93 : n0 ≤ T93.heap.size := Nat.le_trans Z90 K93c.1
    change Stand _ _ _ _ _ _ _ _ _ _ _ _ 3 13 at X93
    have hc236_2 : ¬ ((1 : Int32) = (0 : Int32)) := by decide
    have V_94 : Arv Z T93.heap b54 k54 .double (4 : Int32) [(.double y0), (.double y1), (.double y2), (.double y3)] (.double (0 : UInt64)) := (V_92.keep K93c (ninS (Nat.ne_of_lt (Nat.lt_of_lt_of_le ((V70.ext E71).other W73 (Nat.ne_of_lt (Nat.lt_of_lt_of_le V70.lt (Nat.le_of_eq g71.symm)))).lt (Nat.le_of_eq g74.symm))) nin0))
    obtain ⟨_, _, ⟨T95, L95, k95, n95⟩, -, X95, ⟨Lc95, hQ95, l95, y95, z95⟩, st95⟩ := Jvm.LawKit.callS X93 hx (y := (⟨"com/example/splitgrain/splitgrain/parse/ChartItemsGatherPinLaw", "check", "([DIIIIII[D)Z"⟩ : MethodName)) hown (mvT hZ (hw _ (List.mem_of_getElem? (i := 19) rfl))) (mvT hZ (hw _ (List.mem_of_getElem? (i := 20) rfl))) (mvT hZ (hw _ (List.mem_of_getElem? (i := 21) rfl))) (mvT hZ (hw _ (List.mem_of_getElem? (i := 22) rfl))) (by decide) (backOf (W := 0) (rm2 l Z a0 hw [] b74 (0 : Int32) of (1 : Int32) p0 p1 p2 b54 k74 k54 (List.set [(.double (13830554455654793216 : UInt64)), (.double (13835058055282163712 : UInt64)), (.double (13837309855095848960 : UInt64)), (.double (13839561654909534208 : UInt64)), (.double (13840687554816376832 : UInt64)), (.double (13841813454723219456 : UInt64)), (.double (13842939354630062080 : UInt64)), (.double (13844065254536904704 : UInt64))] (of + (0 : Int32)).toNatClampNeg (.double (own_pick p0 y0 y1 y2 y3))) [(.double y0), (.double y1), (.double y2), (.double y3)] (if (of + (0 : Int32)) = (0 : Int32) then (own_pick p0 y0 y1 y2 y3) else (13830554455654793216 : UInt64)) T93.heap n0 Z93 R93_0 V_94 (show ¬ (0 : Int32) < (0 : Int32) ∧ (0 : Int32) < (8 : Int32) from ⟨by decide, by decide⟩) (show ¬ p0 < (0 : Int32) ∧ p0 < (4 : Int32) from h_p0) (show ¬ p1 < (0 : Int32) ∧ p1 < (4 : Int32) from h_p1) (show ¬ p2 < (0 : Int32) ∧ p2 < (4 : Int32) from h_p2) (show ((List.set [(.double (13830554455654793216 : UInt64)), (.double (13835058055282163712 : UInt64)), (.double (13837309855095848960 : UInt64)), (.double (13839561654909534208 : UInt64)), (.double (13840687554816376832 : UInt64)), (.double (13841813454723219456 : UInt64)), (.double (13842939354630062080 : UInt64)), (.double (13844065254536904704 : UInt64))] (of + (0 : Int32)).toNatClampNeg (.double (own_pick p0 y0 y1 y2 y3))) : List Value).getD ((0 : Int32)).toNatClampNeg (.double (0 : UInt64)) = .double (if (of + (0 : Int32)) = (0 : Int32) then (own_pick p0 y0 y1 y2 y3) else (13830554455654793216 : UInt64)) from (own_gsD rfl ho0 ⟨by decide, by decide⟩ (show ([(.double (13830554455654793216 : UInt64)), (.double (13835058055282163712 : UInt64)), (.double (13837309855095848960 : UInt64)), (.double (13839561654909534208 : UInt64)), (.double (13840687554816376832 : UInt64)), (.double (13841813454723219456 : UInt64)), (.double (13842939354630062080 : UInt64)), (.double (13844065254536904704 : UInt64))] : List Value).getD 0 (.double (0 : UInt64)) = .double (13830554455654793216 : UInt64) from rfl))) (show Jvm.Free.Fl.NoNaN64 (if (of + (0 : Int32)) = (0 : Int32) then (own_pick p0 y0 y1 y2 y3) else (13830554455654793216 : UInt64)) from (own_ifn (own_pickN h_y0 h_y1 h_y2 h_y3) (by unfold Jvm.Free.Fl.NoNaN64; decide))) (show ((0 : Int32) - of) < (0 : Int32) ∨ ¬ ((0 : Int32) - of) < (1 : Int32) → FP.i2d (-((0 : Int32) + (1 : Int32))) = (if (of + (0 : Int32)) = (0 : Int32) then (own_pick p0 y0 y1 y2 y3) else (13830554455654793216 : UInt64)) from fun h => (show FP.i2d _ = (13830554455654793216 : UInt64) by decide +kernel).trans (own_out1 of _ _ _ h)) (show ¬ ((0 : Int32) - of) < (0 : Int32) → ((0 : Int32) - of) < (1 : Int32) → ((0 : Int32) - of) = (0 : Int32) → ([(.double y0), (.double y1), (.double y2), (.double y3)] : List Value).getD (p0).toNatClampNeg (.double (0 : UInt64)) = .double (if (of + (0 : Int32)) = (0 : Int32) then (own_pick p0 y0 y1 y2 y3) else (13830554455654793216 : UInt64)) from fun a b c0 => (own_pickAt _ _ _ _ _ h_p0).trans (congrArg Value.double (own_hit1_0 of _ _ _ c0))) (show ¬ ((0 : Int32) - of) < (0 : Int32) → ((0 : Int32) - of) < (1 : Int32) → ¬ ((0 : Int32) - of) = (0 : Int32) → ((0 : Int32) - of) = (1 : Int32) → ([(.double y0), (.double y1), (.double y2), (.double y3)] : List Value).getD (p1).toNatClampNeg (.double (0 : UInt64)) = .double (if (of + (0 : Int32)) = (0 : Int32) then (own_pick p0 y0 y1 y2 y3) else (13830554455654793216 : UInt64)) from fun a b c0 c1 => absurd b (by rw [c1]; decide)) (show ¬ ((0 : Int32) - of) < (0 : Int32) → ((0 : Int32) - of) < (1 : Int32) → ¬ ((0 : Int32) - of) = (0 : Int32) → ¬ ((0 : Int32) - of) = (1 : Int32) → ([(.double y0), (.double y1), (.double y2), (.double y3)] : List Value).getD (p2).toNatClampNeg (.double (0 : UInt64)) = .double (if (of + (0 : Int32)) = (0 : Int32) then (own_pick p0 y0 y1 y2 y3) else (13830554455654793216 : UInt64)) from fun a b c0 c1 => (own_no1 a b c0 c1).elim)) hZ (hw _ (List.mem_of_getElem? (i := 22) rfl)) (hw _ (List.mem_of_getElem? (i := 21) rfl)) (by decide) (by decide)) (g := (mkF m 254 #[.val (.int pp1), .val (.int pp2), .val (.int pp3), .val (.long qq4), .second, .val (.int (1 : Int32)), .val (.int of), .val (.int p0), .val (.int p1), .val (.int p2), .val (.ref b54), .val (.ref b71), .val (.ref b74), .val (.ref b74), .val (.int (1 : Int32))] [(.ref b54), (.int p2), (.int p1), (.int p0), (.int (1 : Int32)), (.int of), (.int (0 : Int32)), (.ref b74)])) rfl (by rw [hml]; rfl) (argsL := [(.ref b74), (.int (0 : Int32)), (.int of), (.int (1 : Int32)), (.int p0), (.int p1), (.int p2), (.ref b54)]) (rest := []) (lenOf pd__28__5b_DIIIIII_5b_D_29_Z rfl) rfl (by show 2 * 0 + _ ≤ _; exact Nat.le_of_eq rfl) (hb hby at_254) (fun _ _ => ⟨rfl, rfl, (by decide : 3 + 0 ≤ _), (by decide : 13 + 0 ≤ _)⟩)
    dsimp only [Pt.U, Pt.locs, Pt.cells, Pt.slots] at X95 l95 y95 z95 st95 hQ95
    subst y95 z95
    obtain ⟨rfl, N95q, e95⟩ := hQ95
    have N95 : Fr n0 L95 := by rw [l95]; exact Fr.app N93 N95q
    change Stand _ _ _ _ _ _ _ _ _ _ _ _ 3 13 at X95
    have hc257_2 : ¬ ((1 : Int32) = (0 : Int32)) := by decide
    have hc269_2 : ¬ ((1 : Int32) = (0 : Int32)) := by decide
    obtain ⟨_, _, ⟨T96, L96, k96, n96⟩, -, X96, ⟨Lc96, hQ96, l96, y96, z96⟩, st96⟩ := Jvm.LawKit.callS X95 hx (y := (⟨"com/example/splitgrain/splitgrain/parse/ChartItemsGatherPinLaw", "check", "([DIIIIII[D)Z"⟩ : MethodName)) hown (mvT hZ (hw _ (List.mem_of_getElem? (i := 19) rfl))) (mvT hZ (hw _ (List.mem_of_getElem? (i := 20) rfl))) (mvT hZ (hw _ (List.mem_of_getElem? (i := 21) rfl))) (mvT hZ (hw _ (List.mem_of_getElem? (i := 22) rfl))) (by decide) (backOf (W := 0) (rm2 l Z a0 hw [] b74 (1 : Int32) of (1 : Int32) p0 p1 p2 b54 k74 k54 (List.set [(.double (13830554455654793216 : UInt64)), (.double (13835058055282163712 : UInt64)), (.double (13837309855095848960 : UInt64)), (.double (13839561654909534208 : UInt64)), (.double (13840687554816376832 : UInt64)), (.double (13841813454723219456 : UInt64)), (.double (13842939354630062080 : UInt64)), (.double (13844065254536904704 : UInt64))] (of + (0 : Int32)).toNatClampNeg (.double (own_pick p0 y0 y1 y2 y3))) [(.double y0), (.double y1), (.double y2), (.double y3)] (if (of + (0 : Int32)) = (1 : Int32) then (own_pick p0 y0 y1 y2 y3) else (13835058055282163712 : UInt64)) T93.heap n0 Z93 R93_0 V_94 (show ¬ (1 : Int32) < (0 : Int32) ∧ (1 : Int32) < (8 : Int32) from ⟨by decide, by decide⟩) (show ¬ p0 < (0 : Int32) ∧ p0 < (4 : Int32) from h_p0) (show ¬ p1 < (0 : Int32) ∧ p1 < (4 : Int32) from h_p1) (show ¬ p2 < (0 : Int32) ∧ p2 < (4 : Int32) from h_p2) (show ((List.set [(.double (13830554455654793216 : UInt64)), (.double (13835058055282163712 : UInt64)), (.double (13837309855095848960 : UInt64)), (.double (13839561654909534208 : UInt64)), (.double (13840687554816376832 : UInt64)), (.double (13841813454723219456 : UInt64)), (.double (13842939354630062080 : UInt64)), (.double (13844065254536904704 : UInt64))] (of + (0 : Int32)).toNatClampNeg (.double (own_pick p0 y0 y1 y2 y3))) : List Value).getD ((1 : Int32)).toNatClampNeg (.double (0 : UInt64)) = .double (if (of + (0 : Int32)) = (1 : Int32) then (own_pick p0 y0 y1 y2 y3) else (13835058055282163712 : UInt64)) from (own_gsD rfl ho0 ⟨by decide, by decide⟩ (show ([(.double (13830554455654793216 : UInt64)), (.double (13835058055282163712 : UInt64)), (.double (13837309855095848960 : UInt64)), (.double (13839561654909534208 : UInt64)), (.double (13840687554816376832 : UInt64)), (.double (13841813454723219456 : UInt64)), (.double (13842939354630062080 : UInt64)), (.double (13844065254536904704 : UInt64))] : List Value).getD 1 (.double (0 : UInt64)) = .double (13835058055282163712 : UInt64) from rfl))) (show Jvm.Free.Fl.NoNaN64 (if (of + (0 : Int32)) = (1 : Int32) then (own_pick p0 y0 y1 y2 y3) else (13835058055282163712 : UInt64)) from (own_ifn (own_pickN h_y0 h_y1 h_y2 h_y3) (by unfold Jvm.Free.Fl.NoNaN64; decide))) (show ((1 : Int32) - of) < (0 : Int32) ∨ ¬ ((1 : Int32) - of) < (1 : Int32) → FP.i2d (-((1 : Int32) + (1 : Int32))) = (if (of + (0 : Int32)) = (1 : Int32) then (own_pick p0 y0 y1 y2 y3) else (13835058055282163712 : UInt64)) from fun h => (show FP.i2d _ = (13835058055282163712 : UInt64) by decide +kernel).trans (own_out1 of _ _ _ h)) (show ¬ ((1 : Int32) - of) < (0 : Int32) → ((1 : Int32) - of) < (1 : Int32) → ((1 : Int32) - of) = (0 : Int32) → ([(.double y0), (.double y1), (.double y2), (.double y3)] : List Value).getD (p0).toNatClampNeg (.double (0 : UInt64)) = .double (if (of + (0 : Int32)) = (1 : Int32) then (own_pick p0 y0 y1 y2 y3) else (13835058055282163712 : UInt64)) from fun a b c0 => (own_pickAt _ _ _ _ _ h_p0).trans (congrArg Value.double (own_hit1_0 of _ _ _ c0))) (show ¬ ((1 : Int32) - of) < (0 : Int32) → ((1 : Int32) - of) < (1 : Int32) → ¬ ((1 : Int32) - of) = (0 : Int32) → ((1 : Int32) - of) = (1 : Int32) → ([(.double y0), (.double y1), (.double y2), (.double y3)] : List Value).getD (p1).toNatClampNeg (.double (0 : UInt64)) = .double (if (of + (0 : Int32)) = (1 : Int32) then (own_pick p0 y0 y1 y2 y3) else (13835058055282163712 : UInt64)) from fun a b c0 c1 => absurd b (by rw [c1]; decide)) (show ¬ ((1 : Int32) - of) < (0 : Int32) → ((1 : Int32) - of) < (1 : Int32) → ¬ ((1 : Int32) - of) = (0 : Int32) → ¬ ((1 : Int32) - of) = (1 : Int32) → ([(.double y0), (.double y1), (.double y2), (.double y3)] : List Value).getD (p2).toNatClampNeg (.double (0 : UInt64)) = .double (if (of + (0 : Int32)) = (1 : Int32) then (own_pick p0 y0 y1 y2 y3) else (13835058055282163712 : UInt64)) from fun a b c0 c1 => (own_no1 a b c0 c1).elim)) hZ (hw _ (List.mem_of_getElem? (i := 22) rfl)) (hw _ (List.mem_of_getElem? (i := 21) rfl)) (by decide) (by decide)) (g := (mkF m 287 #[.val (.int pp1), .val (.int pp2), .val (.int pp3), .val (.long qq4), .second, .val (.int (1 : Int32)), .val (.int of), .val (.int p0), .val (.int p1), .val (.int p2), .val (.ref b54), .val (.ref b71), .val (.ref b74), .val (.ref b74), .val (.int (1 : Int32))] [(.ref b54), (.int p2), (.int p1), (.int p0), (.int (1 : Int32)), (.int of), (.int (1 : Int32)), (.ref b74)])) rfl (by rw [hml]; rfl) (argsL := [(.ref b74), (.int (1 : Int32)), (.int of), (.int (1 : Int32)), (.int p0), (.int p1), (.int p2), (.ref b54)]) (rest := []) (lenOf pd__28__5b_DIIIIII_5b_D_29_Z rfl) rfl (by show 2 * 0 + _ ≤ _; exact Nat.le_of_eq rfl) (hb hby at_287) (fun _ _ => ⟨rfl, e95, (by decide : 3 + 0 ≤ _), (by decide : 13 + 0 ≤ _)⟩)
    dsimp only [Pt.U, Pt.locs, Pt.cells, Pt.slots] at X96 l96 y96 z96 st96 hQ96
    subst y96 z96
    obtain ⟨rfl, N96q, e96⟩ := hQ96
    have N96 : Fr n0 L96 := by rw [l96]; exact Fr.app N95 N96q
    change Stand _ _ _ _ _ _ _ _ _ _ _ _ 3 13 at X96
    have hc290_2 : ¬ ((1 : Int32) = (0 : Int32)) := by decide
    have hc302_2 : ¬ ((1 : Int32) = (0 : Int32)) := by decide
    obtain ⟨_, _, ⟨T97, L97, k97, n97⟩, -, X97, ⟨Lc97, hQ97, l97, y97, z97⟩, st97⟩ := Jvm.LawKit.callS X96 hx (y := (⟨"com/example/splitgrain/splitgrain/parse/ChartItemsGatherPinLaw", "check", "([DIIIIII[D)Z"⟩ : MethodName)) hown (mvT hZ (hw _ (List.mem_of_getElem? (i := 19) rfl))) (mvT hZ (hw _ (List.mem_of_getElem? (i := 20) rfl))) (mvT hZ (hw _ (List.mem_of_getElem? (i := 21) rfl))) (mvT hZ (hw _ (List.mem_of_getElem? (i := 22) rfl))) (by decide) (backOf (W := 0) (rm2 l Z a0 hw [] b74 (2 : Int32) of (1 : Int32) p0 p1 p2 b54 k74 k54 (List.set [(.double (13830554455654793216 : UInt64)), (.double (13835058055282163712 : UInt64)), (.double (13837309855095848960 : UInt64)), (.double (13839561654909534208 : UInt64)), (.double (13840687554816376832 : UInt64)), (.double (13841813454723219456 : UInt64)), (.double (13842939354630062080 : UInt64)), (.double (13844065254536904704 : UInt64))] (of + (0 : Int32)).toNatClampNeg (.double (own_pick p0 y0 y1 y2 y3))) [(.double y0), (.double y1), (.double y2), (.double y3)] (if (of + (0 : Int32)) = (2 : Int32) then (own_pick p0 y0 y1 y2 y3) else (13837309855095848960 : UInt64)) T93.heap n0 Z93 R93_0 V_94 (show ¬ (2 : Int32) < (0 : Int32) ∧ (2 : Int32) < (8 : Int32) from ⟨by decide, by decide⟩) (show ¬ p0 < (0 : Int32) ∧ p0 < (4 : Int32) from h_p0) (show ¬ p1 < (0 : Int32) ∧ p1 < (4 : Int32) from h_p1) (show ¬ p2 < (0 : Int32) ∧ p2 < (4 : Int32) from h_p2) (show ((List.set [(.double (13830554455654793216 : UInt64)), (.double (13835058055282163712 : UInt64)), (.double (13837309855095848960 : UInt64)), (.double (13839561654909534208 : UInt64)), (.double (13840687554816376832 : UInt64)), (.double (13841813454723219456 : UInt64)), (.double (13842939354630062080 : UInt64)), (.double (13844065254536904704 : UInt64))] (of + (0 : Int32)).toNatClampNeg (.double (own_pick p0 y0 y1 y2 y3))) : List Value).getD ((2 : Int32)).toNatClampNeg (.double (0 : UInt64)) = .double (if (of + (0 : Int32)) = (2 : Int32) then (own_pick p0 y0 y1 y2 y3) else (13837309855095848960 : UInt64)) from (own_gsD rfl ho0 ⟨by decide, by decide⟩ (show ([(.double (13830554455654793216 : UInt64)), (.double (13835058055282163712 : UInt64)), (.double (13837309855095848960 : UInt64)), (.double (13839561654909534208 : UInt64)), (.double (13840687554816376832 : UInt64)), (.double (13841813454723219456 : UInt64)), (.double (13842939354630062080 : UInt64)), (.double (13844065254536904704 : UInt64))] : List Value).getD 2 (.double (0 : UInt64)) = .double (13837309855095848960 : UInt64) from rfl))) (show Jvm.Free.Fl.NoNaN64 (if (of + (0 : Int32)) = (2 : Int32) then (own_pick p0 y0 y1 y2 y3) else (13837309855095848960 : UInt64)) from (own_ifn (own_pickN h_y0 h_y1 h_y2 h_y3) (by unfold Jvm.Free.Fl.NoNaN64; decide))) (show ((2 : Int32) - of) < (0 : Int32) ∨ ¬ ((2 : Int32) - of) < (1 : Int32) → FP.i2d (-((2 : Int32) + (1 : Int32))) = (if (of + (0 : Int32)) = (2 : Int32) then (own_pick p0 y0 y1 y2 y3) else (13837309855095848960 : UInt64)) from fun h => (show FP.i2d _ = (13837309855095848960 : UInt64) by decide +kernel).trans (own_out1 of _ _ _ h)) (show ¬ ((2 : Int32) - of) < (0 : Int32) → ((2 : Int32) - of) < (1 : Int32) → ((2 : Int32) - of) = (0 : Int32) → ([(.double y0), (.double y1), (.double y2), (.double y3)] : List Value).getD (p0).toNatClampNeg (.double (0 : UInt64)) = .double (if (of + (0 : Int32)) = (2 : Int32) then (own_pick p0 y0 y1 y2 y3) else (13837309855095848960 : UInt64)) from fun a b c0 => (own_pickAt _ _ _ _ _ h_p0).trans (congrArg Value.double (own_hit1_0 of _ _ _ c0))) (show ¬ ((2 : Int32) - of) < (0 : Int32) → ((2 : Int32) - of) < (1 : Int32) → ¬ ((2 : Int32) - of) = (0 : Int32) → ((2 : Int32) - of) = (1 : Int32) → ([(.double y0), (.double y1), (.double y2), (.double y3)] : List Value).getD (p1).toNatClampNeg (.double (0 : UInt64)) = .double (if (of + (0 : Int32)) = (2 : Int32) then (own_pick p0 y0 y1 y2 y3) else (13837309855095848960 : UInt64)) from fun a b c0 c1 => absurd b (by rw [c1]; decide)) (show ¬ ((2 : Int32) - of) < (0 : Int32) → ((2 : Int32) - of) < (1 : Int32) → ¬ ((2 : Int32) - of) = (0 : Int32) → ¬ ((2 : Int32) - of) = (1 : Int32) → ([(.double y0), (.double y1), (.double y2), (.double y3)] : List Value).getD (p2).toNatClampNeg (.double (0 : UInt64)) = .double (if (of + (0 : Int32)) = (2 : Int32) then (own_pick p0 y0 y1 y2 y3) else (13837309855095848960 : UInt64)) from fun a b c0 c1 => (own_no1 a b c0 c1).elim)) hZ (hw _ (List.mem_of_getElem? (i := 22) rfl)) (hw _ (List.mem_of_getElem? (i := 21) rfl)) (by decide) (by decide)) (g := (mkF m 320 #[.val (.int pp1), .val (.int pp2), .val (.int pp3), .val (.long qq4), .second, .val (.int (1 : Int32)), .val (.int of), .val (.int p0), .val (.int p1), .val (.int p2), .val (.ref b54), .val (.ref b71), .val (.ref b74), .val (.ref b74), .val (.int (1 : Int32))] [(.ref b54), (.int p2), (.int p1), (.int p0), (.int (1 : Int32)), (.int of), (.int (2 : Int32)), (.ref b74)])) rfl (by rw [hml]; rfl) (argsL := [(.ref b74), (.int (2 : Int32)), (.int of), (.int (1 : Int32)), (.int p0), (.int p1), (.int p2), (.ref b54)]) (rest := []) (lenOf pd__28__5b_DIIIIII_5b_D_29_Z rfl) rfl (by show 2 * 0 + _ ≤ _; exact Nat.le_of_eq rfl) (hb hby at_320) (fun _ _ => ⟨rfl, e96, (by decide : 3 + 0 ≤ _), (by decide : 13 + 0 ≤ _)⟩)
    dsimp only [Pt.U, Pt.locs, Pt.cells, Pt.slots] at X97 l97 y97 z97 st97 hQ97
    subst y97 z97
    obtain ⟨rfl, N97q, e97⟩ := hQ97
    have N97 : Fr n0 L97 := by rw [l97]; exact Fr.app N96 N97q
    change Stand _ _ _ _ _ _ _ _ _ _ _ _ 3 13 at X97
    have hc323_2 : ¬ ((1 : Int32) = (0 : Int32)) := by decide
    have hc335_2 : ¬ ((1 : Int32) = (0 : Int32)) := by decide
    obtain ⟨_, _, ⟨T98, L98, k98, n98⟩, -, X98, ⟨Lc98, hQ98, l98, y98, z98⟩, st98⟩ := Jvm.LawKit.callS X97 hx (y := (⟨"com/example/splitgrain/splitgrain/parse/ChartItemsGatherPinLaw", "check", "([DIIIIII[D)Z"⟩ : MethodName)) hown (mvT hZ (hw _ (List.mem_of_getElem? (i := 19) rfl))) (mvT hZ (hw _ (List.mem_of_getElem? (i := 20) rfl))) (mvT hZ (hw _ (List.mem_of_getElem? (i := 21) rfl))) (mvT hZ (hw _ (List.mem_of_getElem? (i := 22) rfl))) (by decide) (backOf (W := 0) (rm2 l Z a0 hw [] b74 (3 : Int32) of (1 : Int32) p0 p1 p2 b54 k74 k54 (List.set [(.double (13830554455654793216 : UInt64)), (.double (13835058055282163712 : UInt64)), (.double (13837309855095848960 : UInt64)), (.double (13839561654909534208 : UInt64)), (.double (13840687554816376832 : UInt64)), (.double (13841813454723219456 : UInt64)), (.double (13842939354630062080 : UInt64)), (.double (13844065254536904704 : UInt64))] (of + (0 : Int32)).toNatClampNeg (.double (own_pick p0 y0 y1 y2 y3))) [(.double y0), (.double y1), (.double y2), (.double y3)] (if (of + (0 : Int32)) = (3 : Int32) then (own_pick p0 y0 y1 y2 y3) else (13839561654909534208 : UInt64)) T93.heap n0 Z93 R93_0 V_94 (show ¬ (3 : Int32) < (0 : Int32) ∧ (3 : Int32) < (8 : Int32) from ⟨by decide, by decide⟩) (show ¬ p0 < (0 : Int32) ∧ p0 < (4 : Int32) from h_p0) (show ¬ p1 < (0 : Int32) ∧ p1 < (4 : Int32) from h_p1) (show ¬ p2 < (0 : Int32) ∧ p2 < (4 : Int32) from h_p2) (show ((List.set [(.double (13830554455654793216 : UInt64)), (.double (13835058055282163712 : UInt64)), (.double (13837309855095848960 : UInt64)), (.double (13839561654909534208 : UInt64)), (.double (13840687554816376832 : UInt64)), (.double (13841813454723219456 : UInt64)), (.double (13842939354630062080 : UInt64)), (.double (13844065254536904704 : UInt64))] (of + (0 : Int32)).toNatClampNeg (.double (own_pick p0 y0 y1 y2 y3))) : List Value).getD ((3 : Int32)).toNatClampNeg (.double (0 : UInt64)) = .double (if (of + (0 : Int32)) = (3 : Int32) then (own_pick p0 y0 y1 y2 y3) else (13839561654909534208 : UInt64)) from (own_gsD rfl ho0 ⟨by decide, by decide⟩ (show ([(.double (13830554455654793216 : UInt64)), (.double (13835058055282163712 : UInt64)), (.double (13837309855095848960 : UInt64)), (.double (13839561654909534208 : UInt64)), (.double (13840687554816376832 : UInt64)), (.double (13841813454723219456 : UInt64)), (.double (13842939354630062080 : UInt64)), (.double (13844065254536904704 : UInt64))] : List Value).getD 3 (.double (0 : UInt64)) = .double (13839561654909534208 : UInt64) from rfl))) (show Jvm.Free.Fl.NoNaN64 (if (of + (0 : Int32)) = (3 : Int32) then (own_pick p0 y0 y1 y2 y3) else (13839561654909534208 : UInt64)) from (own_ifn (own_pickN h_y0 h_y1 h_y2 h_y3) (by unfold Jvm.Free.Fl.NoNaN64; decide))) (show ((3 : Int32) - of) < (0 : Int32) ∨ ¬ ((3 : Int32) - of) < (1 : Int32) → FP.i2d (-((3 : Int32) + (1 : Int32))) = (if (of + (0 : Int32)) = (3 : Int32) then (own_pick p0 y0 y1 y2 y3) else (13839561654909534208 : UInt64)) from fun h => (show FP.i2d _ = (13839561654909534208 : UInt64) by decide +kernel).trans (own_out1 of _ _ _ h)) (show ¬ ((3 : Int32) - of) < (0 : Int32) → ((3 : Int32) - of) < (1 : Int32) → ((3 : Int32) - of) = (0 : Int32) → ([(.double y0), (.double y1), (.double y2), (.double y3)] : List Value).getD (p0).toNatClampNeg (.double (0 : UInt64)) = .double (if (of + (0 : Int32)) = (3 : Int32) then (own_pick p0 y0 y1 y2 y3) else (13839561654909534208 : UInt64)) from fun a b c0 => (own_pickAt _ _ _ _ _ h_p0).trans (congrArg Value.double (own_hit1_0 of _ _ _ c0))) (show ¬ ((3 : Int32) - of) < (0 : Int32) → ((3 : Int32) - of) < (1 : Int32) → ¬ ((3 : Int32) - of) = (0 : Int32) → ((3 : Int32) - of) = (1 : Int32) → ([(.double y0), (.double y1), (.double y2), (.double y3)] : List Value).getD (p1).toNatClampNeg (.double (0 : UInt64)) = .double (if (of + (0 : Int32)) = (3 : Int32) then (own_pick p0 y0 y1 y2 y3) else (13839561654909534208 : UInt64)) from fun a b c0 c1 => absurd b (by rw [c1]; decide)) (show ¬ ((3 : Int32) - of) < (0 : Int32) → ((3 : Int32) - of) < (1 : Int32) → ¬ ((3 : Int32) - of) = (0 : Int32) → ¬ ((3 : Int32) - of) = (1 : Int32) → ([(.double y0), (.double y1), (.double y2), (.double y3)] : List Value).getD (p2).toNatClampNeg (.double (0 : UInt64)) = .double (if (of + (0 : Int32)) = (3 : Int32) then (own_pick p0 y0 y1 y2 y3) else (13839561654909534208 : UInt64)) from fun a b c0 c1 => (own_no1 a b c0 c1).elim)) hZ (hw _ (List.mem_of_getElem? (i := 22) rfl)) (hw _ (List.mem_of_getElem? (i := 21) rfl)) (by decide) (by decide)) (g := (mkF m 353 #[.val (.int pp1), .val (.int pp2), .val (.int pp3), .val (.long qq4), .second, .val (.int (1 : Int32)), .val (.int of), .val (.int p0), .val (.int p1), .val (.int p2), .val (.ref b54), .val (.ref b71), .val (.ref b74), .val (.ref b74), .val (.int (1 : Int32))] [(.ref b54), (.int p2), (.int p1), (.int p0), (.int (1 : Int32)), (.int of), (.int (3 : Int32)), (.ref b74)])) rfl (by rw [hml]; rfl) (argsL := [(.ref b74), (.int (3 : Int32)), (.int of), (.int (1 : Int32)), (.int p0), (.int p1), (.int p2), (.ref b54)]) (rest := []) (lenOf pd__28__5b_DIIIIII_5b_D_29_Z rfl) rfl (by show 2 * 0 + _ ≤ _; exact Nat.le_of_eq rfl) (hb hby at_353) (fun _ _ => ⟨rfl, e97, (by decide : 3 + 0 ≤ _), (by decide : 13 + 0 ≤ _)⟩)
    dsimp only [Pt.U, Pt.locs, Pt.cells, Pt.slots] at X98 l98 y98 z98 st98 hQ98
    subst y98 z98
    obtain ⟨rfl, N98q, e98⟩ := hQ98
    have N98 : Fr n0 L98 := by rw [l98]; exact Fr.app N97 N98q
    change Stand _ _ _ _ _ _ _ _ _ _ _ _ 3 13 at X98
    have hc356_2 : ¬ ((1 : Int32) = (0 : Int32)) := by decide
    have hc368_2 : ¬ ((1 : Int32) = (0 : Int32)) := by decide
    obtain ⟨_, _, ⟨T99, L99, k99, n99⟩, -, X99, ⟨Lc99, hQ99, l99, y99, z99⟩, st99⟩ := Jvm.LawKit.callS X98 hx (y := (⟨"com/example/splitgrain/splitgrain/parse/ChartItemsGatherPinLaw", "check", "([DIIIIII[D)Z"⟩ : MethodName)) hown (mvT hZ (hw _ (List.mem_of_getElem? (i := 19) rfl))) (mvT hZ (hw _ (List.mem_of_getElem? (i := 20) rfl))) (mvT hZ (hw _ (List.mem_of_getElem? (i := 21) rfl))) (mvT hZ (hw _ (List.mem_of_getElem? (i := 22) rfl))) (by decide) (backOf (W := 0) (rm2 l Z a0 hw [] b74 (4 : Int32) of (1 : Int32) p0 p1 p2 b54 k74 k54 (List.set [(.double (13830554455654793216 : UInt64)), (.double (13835058055282163712 : UInt64)), (.double (13837309855095848960 : UInt64)), (.double (13839561654909534208 : UInt64)), (.double (13840687554816376832 : UInt64)), (.double (13841813454723219456 : UInt64)), (.double (13842939354630062080 : UInt64)), (.double (13844065254536904704 : UInt64))] (of + (0 : Int32)).toNatClampNeg (.double (own_pick p0 y0 y1 y2 y3))) [(.double y0), (.double y1), (.double y2), (.double y3)] (if (of + (0 : Int32)) = (4 : Int32) then (own_pick p0 y0 y1 y2 y3) else (13840687554816376832 : UInt64)) T93.heap n0 Z93 R93_0 V_94 (show ¬ (4 : Int32) < (0 : Int32) ∧ (4 : Int32) < (8 : Int32) from ⟨by decide, by decide⟩) (show ¬ p0 < (0 : Int32) ∧ p0 < (4 : Int32) from h_p0) (show ¬ p1 < (0 : Int32) ∧ p1 < (4 : Int32) from h_p1) (show ¬ p2 < (0 : Int32) ∧ p2 < (4 : Int32) from h_p2) (show ((List.set [(.double (13830554455654793216 : UInt64)), (.double (13835058055282163712 : UInt64)), (.double (13837309855095848960 : UInt64)), (.double (13839561654909534208 : UInt64)), (.double (13840687554816376832 : UInt64)), (.double (13841813454723219456 : UInt64)), (.double (13842939354630062080 : UInt64)), (.double (13844065254536904704 : UInt64))] (of + (0 : Int32)).toNatClampNeg (.double (own_pick p0 y0 y1 y2 y3))) : List Value).getD ((4 : Int32)).toNatClampNeg (.double (0 : UInt64)) = .double (if (of + (0 : Int32)) = (4 : Int32) then (own_pick p0 y0 y1 y2 y3) else (13840687554816376832 : UInt64)) from (own_gsD rfl ho0 ⟨by decide, by decide⟩ (show ([(.double (13830554455654793216 : UInt64)), (.double (13835058055282163712 : UInt64)), (.double (13837309855095848960 : UInt64)), (.double (13839561654909534208 : UInt64)), (.double (13840687554816376832 : UInt64)), (.double (13841813454723219456 : UInt64)), (.double (13842939354630062080 : UInt64)), (.double (13844065254536904704 : UInt64))] : List Value).getD 4 (.double (0 : UInt64)) = .double (13840687554816376832 : UInt64) from rfl))) (show Jvm.Free.Fl.NoNaN64 (if (of + (0 : Int32)) = (4 : Int32) then (own_pick p0 y0 y1 y2 y3) else (13840687554816376832 : UInt64)) from (own_ifn (own_pickN h_y0 h_y1 h_y2 h_y3) (by unfold Jvm.Free.Fl.NoNaN64; decide))) (show ((4 : Int32) - of) < (0 : Int32) ∨ ¬ ((4 : Int32) - of) < (1 : Int32) → FP.i2d (-((4 : Int32) + (1 : Int32))) = (if (of + (0 : Int32)) = (4 : Int32) then (own_pick p0 y0 y1 y2 y3) else (13840687554816376832 : UInt64)) from fun h => (show FP.i2d _ = (13840687554816376832 : UInt64) by decide +kernel).trans (own_out1 of _ _ _ h)) (show ¬ ((4 : Int32) - of) < (0 : Int32) → ((4 : Int32) - of) < (1 : Int32) → ((4 : Int32) - of) = (0 : Int32) → ([(.double y0), (.double y1), (.double y2), (.double y3)] : List Value).getD (p0).toNatClampNeg (.double (0 : UInt64)) = .double (if (of + (0 : Int32)) = (4 : Int32) then (own_pick p0 y0 y1 y2 y3) else (13840687554816376832 : UInt64)) from fun a b c0 => (own_pickAt _ _ _ _ _ h_p0).trans (congrArg Value.double (own_hit1_0 of _ _ _ c0))) (show ¬ ((4 : Int32) - of) < (0 : Int32) → ((4 : Int32) - of) < (1 : Int32) → ¬ ((4 : Int32) - of) = (0 : Int32) → ((4 : Int32) - of) = (1 : Int32) → ([(.double y0), (.double y1), (.double y2), (.double y3)] : List Value).getD (p1).toNatClampNeg (.double (0 : UInt64)) = .double (if (of + (0 : Int32)) = (4 : Int32) then (own_pick p0 y0 y1 y2 y3) else (13840687554816376832 : UInt64)) from fun a b c0 c1 => absurd b (by rw [c1]; decide)) (show ¬ ((4 : Int32) - of) < (0 : Int32) → ((4 : Int32) - of) < (1 : Int32) → ¬ ((4 : Int32) - of) = (0 : Int32) → ¬ ((4 : Int32) - of) = (1 : Int32) → ([(.double y0), (.double y1), (.double y2), (.double y3)] : List Value).getD (p2).toNatClampNeg (.double (0 : UInt64)) = .double (if (of + (0 : Int32)) = (4 : Int32) then (own_pick p0 y0 y1 y2 y3) else (13840687554816376832 : UInt64)) from fun a b c0 c1 => (own_no1 a b c0 c1).elim)) hZ (hw _ (List.mem_of_getElem? (i := 22) rfl)) (hw _ (List.mem_of_getElem? (i := 21) rfl)) (by decide) (by decide)) (g := (mkF m 386 #[.val (.int pp1), .val (.int pp2), .val (.int pp3), .val (.long qq4), .second, .val (.int (1 : Int32)), .val (.int of), .val (.int p0), .val (.int p1), .val (.int p2), .val (.ref b54), .val (.ref b71), .val (.ref b74), .val (.ref b74), .val (.int (1 : Int32))] [(.ref b54), (.int p2), (.int p1), (.int p0), (.int (1 : Int32)), (.int of), (.int (4 : Int32)), (.ref b74)])) rfl (by rw [hml]; rfl) (argsL := [(.ref b74), (.int (4 : Int32)), (.int of), (.int (1 : Int32)), (.int p0), (.int p1), (.int p2), (.ref b54)]) (rest := []) (lenOf pd__28__5b_DIIIIII_5b_D_29_Z rfl) rfl (by show 2 * 0 + _ ≤ _; exact Nat.le_of_eq rfl) (hb hby at_386) (fun _ _ => ⟨rfl, e98, (by decide : 3 + 0 ≤ _), (by decide : 13 + 0 ≤ _)⟩)
    dsimp only [Pt.U, Pt.locs, Pt.cells, Pt.slots] at X99 l99 y99 z99 st99 hQ99
    subst y99 z99
    obtain ⟨rfl, N99q, e99⟩ := hQ99
    have N99 : Fr n0 L99 := by rw [l99]; exact Fr.app N98 N99q
    change Stand _ _ _ _ _ _ _ _ _ _ _ _ 3 13 at X99
    have hc389_2 : ¬ ((1 : Int32) = (0 : Int32)) := by decide
    have hc401_2 : ¬ ((1 : Int32) = (0 : Int32)) := by decide
    obtain ⟨_, _, ⟨T100, L100, k100, n100⟩, -, X100, ⟨Lc100, hQ100, l100, y100, z100⟩, st100⟩ := Jvm.LawKit.callS X99 hx (y := (⟨"com/example/splitgrain/splitgrain/parse/ChartItemsGatherPinLaw", "check", "([DIIIIII[D)Z"⟩ : MethodName)) hown (mvT hZ (hw _ (List.mem_of_getElem? (i := 19) rfl))) (mvT hZ (hw _ (List.mem_of_getElem? (i := 20) rfl))) (mvT hZ (hw _ (List.mem_of_getElem? (i := 21) rfl))) (mvT hZ (hw _ (List.mem_of_getElem? (i := 22) rfl))) (by decide) (backOf (W := 0) (rm2 l Z a0 hw [] b74 (5 : Int32) of (1 : Int32) p0 p1 p2 b54 k74 k54 (List.set [(.double (13830554455654793216 : UInt64)), (.double (13835058055282163712 : UInt64)), (.double (13837309855095848960 : UInt64)), (.double (13839561654909534208 : UInt64)), (.double (13840687554816376832 : UInt64)), (.double (13841813454723219456 : UInt64)), (.double (13842939354630062080 : UInt64)), (.double (13844065254536904704 : UInt64))] (of + (0 : Int32)).toNatClampNeg (.double (own_pick p0 y0 y1 y2 y3))) [(.double y0), (.double y1), (.double y2), (.double y3)] (if (of + (0 : Int32)) = (5 : Int32) then (own_pick p0 y0 y1 y2 y3) else (13841813454723219456 : UInt64)) T93.heap n0 Z93 R93_0 V_94 (show ¬ (5 : Int32) < (0 : Int32) ∧ (5 : Int32) < (8 : Int32) from ⟨by decide, by decide⟩) (show ¬ p0 < (0 : Int32) ∧ p0 < (4 : Int32) from h_p0) (show ¬ p1 < (0 : Int32) ∧ p1 < (4 : Int32) from h_p1) (show ¬ p2 < (0 : Int32) ∧ p2 < (4 : Int32) from h_p2) (show ((List.set [(.double (13830554455654793216 : UInt64)), (.double (13835058055282163712 : UInt64)), (.double (13837309855095848960 : UInt64)), (.double (13839561654909534208 : UInt64)), (.double (13840687554816376832 : UInt64)), (.double (13841813454723219456 : UInt64)), (.double (13842939354630062080 : UInt64)), (.double (13844065254536904704 : UInt64))] (of + (0 : Int32)).toNatClampNeg (.double (own_pick p0 y0 y1 y2 y3))) : List Value).getD ((5 : Int32)).toNatClampNeg (.double (0 : UInt64)) = .double (if (of + (0 : Int32)) = (5 : Int32) then (own_pick p0 y0 y1 y2 y3) else (13841813454723219456 : UInt64)) from (own_gsD rfl ho0 ⟨by decide, by decide⟩ (show ([(.double (13830554455654793216 : UInt64)), (.double (13835058055282163712 : UInt64)), (.double (13837309855095848960 : UInt64)), (.double (13839561654909534208 : UInt64)), (.double (13840687554816376832 : UInt64)), (.double (13841813454723219456 : UInt64)), (.double (13842939354630062080 : UInt64)), (.double (13844065254536904704 : UInt64))] : List Value).getD 5 (.double (0 : UInt64)) = .double (13841813454723219456 : UInt64) from rfl))) (show Jvm.Free.Fl.NoNaN64 (if (of + (0 : Int32)) = (5 : Int32) then (own_pick p0 y0 y1 y2 y3) else (13841813454723219456 : UInt64)) from (own_ifn (own_pickN h_y0 h_y1 h_y2 h_y3) (by unfold Jvm.Free.Fl.NoNaN64; decide))) (show ((5 : Int32) - of) < (0 : Int32) ∨ ¬ ((5 : Int32) - of) < (1 : Int32) → FP.i2d (-((5 : Int32) + (1 : Int32))) = (if (of + (0 : Int32)) = (5 : Int32) then (own_pick p0 y0 y1 y2 y3) else (13841813454723219456 : UInt64)) from fun h => (show FP.i2d _ = (13841813454723219456 : UInt64) by decide +kernel).trans (own_out1 of _ _ _ h)) (show ¬ ((5 : Int32) - of) < (0 : Int32) → ((5 : Int32) - of) < (1 : Int32) → ((5 : Int32) - of) = (0 : Int32) → ([(.double y0), (.double y1), (.double y2), (.double y3)] : List Value).getD (p0).toNatClampNeg (.double (0 : UInt64)) = .double (if (of + (0 : Int32)) = (5 : Int32) then (own_pick p0 y0 y1 y2 y3) else (13841813454723219456 : UInt64)) from fun a b c0 => (own_pickAt _ _ _ _ _ h_p0).trans (congrArg Value.double (own_hit1_0 of _ _ _ c0))) (show ¬ ((5 : Int32) - of) < (0 : Int32) → ((5 : Int32) - of) < (1 : Int32) → ¬ ((5 : Int32) - of) = (0 : Int32) → ((5 : Int32) - of) = (1 : Int32) → ([(.double y0), (.double y1), (.double y2), (.double y3)] : List Value).getD (p1).toNatClampNeg (.double (0 : UInt64)) = .double (if (of + (0 : Int32)) = (5 : Int32) then (own_pick p0 y0 y1 y2 y3) else (13841813454723219456 : UInt64)) from fun a b c0 c1 => absurd b (by rw [c1]; decide)) (show ¬ ((5 : Int32) - of) < (0 : Int32) → ((5 : Int32) - of) < (1 : Int32) → ¬ ((5 : Int32) - of) = (0 : Int32) → ¬ ((5 : Int32) - of) = (1 : Int32) → ([(.double y0), (.double y1), (.double y2), (.double y3)] : List Value).getD (p2).toNatClampNeg (.double (0 : UInt64)) = .double (if (of + (0 : Int32)) = (5 : Int32) then (own_pick p0 y0 y1 y2 y3) else (13841813454723219456 : UInt64)) from fun a b c0 c1 => (own_no1 a b c0 c1).elim)) hZ (hw _ (List.mem_of_getElem? (i := 22) rfl)) (hw _ (List.mem_of_getElem? (i := 21) rfl)) (by decide) (by decide)) (g := (mkF m 419 #[.val (.int pp1), .val (.int pp2), .val (.int pp3), .val (.long qq4), .second, .val (.int (1 : Int32)), .val (.int of), .val (.int p0), .val (.int p1), .val (.int p2), .val (.ref b54), .val (.ref b71), .val (.ref b74), .val (.ref b74), .val (.int (1 : Int32))] [(.ref b54), (.int p2), (.int p1), (.int p0), (.int (1 : Int32)), (.int of), (.int (5 : Int32)), (.ref b74)])) rfl (by rw [hml]; rfl) (argsL := [(.ref b74), (.int (5 : Int32)), (.int of), (.int (1 : Int32)), (.int p0), (.int p1), (.int p2), (.ref b54)]) (rest := []) (lenOf pd__28__5b_DIIIIII_5b_D_29_Z rfl) rfl (by show 2 * 0 + _ ≤ _; exact Nat.le_of_eq rfl) (hb hby at_419) (fun _ _ => ⟨rfl, e99, (by decide : 3 + 0 ≤ _), (by decide : 13 + 0 ≤ _)⟩)
    dsimp only [Pt.U, Pt.locs, Pt.cells, Pt.slots] at X100 l100 y100 z100 st100 hQ100
    subst y100 z100
    obtain ⟨rfl, N100q, e100⟩ := hQ100
    have N100 : Fr n0 L100 := by rw [l100]; exact Fr.app N99 N100q
    change Stand _ _ _ _ _ _ _ _ _ _ _ _ 3 13 at X100
    have hc422_2 : ¬ ((1 : Int32) = (0 : Int32)) := by decide
    have hc434_2 : ¬ ((1 : Int32) = (0 : Int32)) := by decide
    obtain ⟨_, _, ⟨T101, L101, k101, n101⟩, -, X101, ⟨Lc101, hQ101, l101, y101, z101⟩, st101⟩ := Jvm.LawKit.callS X100 hx (y := (⟨"com/example/splitgrain/splitgrain/parse/ChartItemsGatherPinLaw", "check", "([DIIIIII[D)Z"⟩ : MethodName)) hown (mvT hZ (hw _ (List.mem_of_getElem? (i := 19) rfl))) (mvT hZ (hw _ (List.mem_of_getElem? (i := 20) rfl))) (mvT hZ (hw _ (List.mem_of_getElem? (i := 21) rfl))) (mvT hZ (hw _ (List.mem_of_getElem? (i := 22) rfl))) (by decide) (backOf (W := 0) (rm2 l Z a0 hw [] b74 (6 : Int32) of (1 : Int32) p0 p1 p2 b54 k74 k54 (List.set [(.double (13830554455654793216 : UInt64)), (.double (13835058055282163712 : UInt64)), (.double (13837309855095848960 : UInt64)), (.double (13839561654909534208 : UInt64)), (.double (13840687554816376832 : UInt64)), (.double (13841813454723219456 : UInt64)), (.double (13842939354630062080 : UInt64)), (.double (13844065254536904704 : UInt64))] (of + (0 : Int32)).toNatClampNeg (.double (own_pick p0 y0 y1 y2 y3))) [(.double y0), (.double y1), (.double y2), (.double y3)] (if (of + (0 : Int32)) = (6 : Int32) then (own_pick p0 y0 y1 y2 y3) else (13842939354630062080 : UInt64)) T93.heap n0 Z93 R93_0 V_94 (show ¬ (6 : Int32) < (0 : Int32) ∧ (6 : Int32) < (8 : Int32) from ⟨by decide, by decide⟩) (show ¬ p0 < (0 : Int32) ∧ p0 < (4 : Int32) from h_p0) (show ¬ p1 < (0 : Int32) ∧ p1 < (4 : Int32) from h_p1) (show ¬ p2 < (0 : Int32) ∧ p2 < (4 : Int32) from h_p2) (show ((List.set [(.double (13830554455654793216 : UInt64)), (.double (13835058055282163712 : UInt64)), (.double (13837309855095848960 : UInt64)), (.double (13839561654909534208 : UInt64)), (.double (13840687554816376832 : UInt64)), (.double (13841813454723219456 : UInt64)), (.double (13842939354630062080 : UInt64)), (.double (13844065254536904704 : UInt64))] (of + (0 : Int32)).toNatClampNeg (.double (own_pick p0 y0 y1 y2 y3))) : List Value).getD ((6 : Int32)).toNatClampNeg (.double (0 : UInt64)) = .double (if (of + (0 : Int32)) = (6 : Int32) then (own_pick p0 y0 y1 y2 y3) else (13842939354630062080 : UInt64)) from (own_gsD rfl ho0 ⟨by decide, by decide⟩ (show ([(.double (13830554455654793216 : UInt64)), (.double (13835058055282163712 : UInt64)), (.double (13837309855095848960 : UInt64)), (.double (13839561654909534208 : UInt64)), (.double (13840687554816376832 : UInt64)), (.double (13841813454723219456 : UInt64)), (.double (13842939354630062080 : UInt64)), (.double (13844065254536904704 : UInt64))] : List Value).getD 6 (.double (0 : UInt64)) = .double (13842939354630062080 : UInt64) from rfl))) (show Jvm.Free.Fl.NoNaN64 (if (of + (0 : Int32)) = (6 : Int32) then (own_pick p0 y0 y1 y2 y3) else (13842939354630062080 : UInt64)) from (own_ifn (own_pickN h_y0 h_y1 h_y2 h_y3) (by unfold Jvm.Free.Fl.NoNaN64; decide))) (show ((6 : Int32) - of) < (0 : Int32) ∨ ¬ ((6 : Int32) - of) < (1 : Int32) → FP.i2d (-((6 : Int32) + (1 : Int32))) = (if (of + (0 : Int32)) = (6 : Int32) then (own_pick p0 y0 y1 y2 y3) else (13842939354630062080 : UInt64)) from fun h => (show FP.i2d _ = (13842939354630062080 : UInt64) by decide +kernel).trans (own_out1 of _ _ _ h)) (show ¬ ((6 : Int32) - of) < (0 : Int32) → ((6 : Int32) - of) < (1 : Int32) → ((6 : Int32) - of) = (0 : Int32) → ([(.double y0), (.double y1), (.double y2), (.double y3)] : List Value).getD (p0).toNatClampNeg (.double (0 : UInt64)) = .double (if (of + (0 : Int32)) = (6 : Int32) then (own_pick p0 y0 y1 y2 y3) else (13842939354630062080 : UInt64)) from fun a b c0 => (own_pickAt _ _ _ _ _ h_p0).trans (congrArg Value.double (own_hit1_0 of _ _ _ c0))) (show ¬ ((6 : Int32) - of) < (0 : Int32) → ((6 : Int32) - of) < (1 : Int32) → ¬ ((6 : Int32) - of) = (0 : Int32) → ((6 : Int32) - of) = (1 : Int32) → ([(.double y0), (.double y1), (.double y2), (.double y3)] : List Value).getD (p1).toNatClampNeg (.double (0 : UInt64)) = .double (if (of + (0 : Int32)) = (6 : Int32) then (own_pick p0 y0 y1 y2 y3) else (13842939354630062080 : UInt64)) from fun a b c0 c1 => absurd b (by rw [c1]; decide)) (show ¬ ((6 : Int32) - of) < (0 : Int32) → ((6 : Int32) - of) < (1 : Int32) → ¬ ((6 : Int32) - of) = (0 : Int32) → ¬ ((6 : Int32) - of) = (1 : Int32) → ([(.double y0), (.double y1), (.double y2), (.double y3)] : List Value).getD (p2).toNatClampNeg (.double (0 : UInt64)) = .double (if (of + (0 : Int32)) = (6 : Int32) then (own_pick p0 y0 y1 y2 y3) else (13842939354630062080 : UInt64)) from fun a b c0 c1 => (own_no1 a b c0 c1).elim)) hZ (hw _ (List.mem_of_getElem? (i := 22) rfl)) (hw _ (List.mem_of_getElem? (i := 21) rfl)) (by decide) (by decide)) (g := (mkF m 453 #[.val (.int pp1), .val (.int pp2), .val (.int pp3), .val (.long qq4), .second, .val (.int (1 : Int32)), .val (.int of), .val (.int p0), .val (.int p1), .val (.int p2), .val (.ref b54), .val (.ref b71), .val (.ref b74), .val (.ref b74), .val (.int (1 : Int32))] [(.ref b54), (.int p2), (.int p1), (.int p0), (.int (1 : Int32)), (.int of), (.int (6 : Int32)), (.ref b74)])) rfl (by rw [hml]; rfl) (argsL := [(.ref b74), (.int (6 : Int32)), (.int of), (.int (1 : Int32)), (.int p0), (.int p1), (.int p2), (.ref b54)]) (rest := []) (lenOf pd__28__5b_DIIIIII_5b_D_29_Z rfl) rfl (by show 2 * 0 + _ ≤ _; exact Nat.le_of_eq rfl) (hb hby at_453) (fun _ _ => ⟨rfl, e100, (by decide : 3 + 0 ≤ _), (by decide : 13 + 0 ≤ _)⟩)
    dsimp only [Pt.U, Pt.locs, Pt.cells, Pt.slots] at X101 l101 y101 z101 st101 hQ101
    subst y101 z101
    obtain ⟨rfl, N101q, e101⟩ := hQ101
    have N101 : Fr n0 L101 := by rw [l101]; exact Fr.app N100 N101q
    change Stand _ _ _ _ _ _ _ _ _ _ _ _ 3 13 at X101
    have hc456_2 : ¬ ((1 : Int32) = (0 : Int32)) := by decide
    have hc468_2 : ¬ ((1 : Int32) = (0 : Int32)) := by decide
    obtain ⟨_, _, ⟨T102, L102, k102, n102⟩, -, X102, ⟨Lc102, hQ102, l102, y102, z102⟩, st102⟩ := Jvm.LawKit.callS X101 hx (y := (⟨"com/example/splitgrain/splitgrain/parse/ChartItemsGatherPinLaw", "check", "([DIIIIII[D)Z"⟩ : MethodName)) hown (mvT hZ (hw _ (List.mem_of_getElem? (i := 19) rfl))) (mvT hZ (hw _ (List.mem_of_getElem? (i := 20) rfl))) (mvT hZ (hw _ (List.mem_of_getElem? (i := 21) rfl))) (mvT hZ (hw _ (List.mem_of_getElem? (i := 22) rfl))) (by decide) (backOf (W := 0) (rm2 l Z a0 hw [] b74 (7 : Int32) of (1 : Int32) p0 p1 p2 b54 k74 k54 (List.set [(.double (13830554455654793216 : UInt64)), (.double (13835058055282163712 : UInt64)), (.double (13837309855095848960 : UInt64)), (.double (13839561654909534208 : UInt64)), (.double (13840687554816376832 : UInt64)), (.double (13841813454723219456 : UInt64)), (.double (13842939354630062080 : UInt64)), (.double (13844065254536904704 : UInt64))] (of + (0 : Int32)).toNatClampNeg (.double (own_pick p0 y0 y1 y2 y3))) [(.double y0), (.double y1), (.double y2), (.double y3)] (if (of + (0 : Int32)) = (7 : Int32) then (own_pick p0 y0 y1 y2 y3) else (13844065254536904704 : UInt64)) T93.heap n0 Z93 R93_0 V_94 (show ¬ (7 : Int32) < (0 : Int32) ∧ (7 : Int32) < (8 : Int32) from ⟨by decide, by decide⟩) (show ¬ p0 < (0 : Int32) ∧ p0 < (4 : Int32) from h_p0) (show ¬ p1 < (0 : Int32) ∧ p1 < (4 : Int32) from h_p1) (show ¬ p2 < (0 : Int32) ∧ p2 < (4 : Int32) from h_p2) (show ((List.set [(.double (13830554455654793216 : UInt64)), (.double (13835058055282163712 : UInt64)), (.double (13837309855095848960 : UInt64)), (.double (13839561654909534208 : UInt64)), (.double (13840687554816376832 : UInt64)), (.double (13841813454723219456 : UInt64)), (.double (13842939354630062080 : UInt64)), (.double (13844065254536904704 : UInt64))] (of + (0 : Int32)).toNatClampNeg (.double (own_pick p0 y0 y1 y2 y3))) : List Value).getD ((7 : Int32)).toNatClampNeg (.double (0 : UInt64)) = .double (if (of + (0 : Int32)) = (7 : Int32) then (own_pick p0 y0 y1 y2 y3) else (13844065254536904704 : UInt64)) from (own_gsD rfl ho0 ⟨by decide, by decide⟩ (show ([(.double (13830554455654793216 : UInt64)), (.double (13835058055282163712 : UInt64)), (.double (13837309855095848960 : UInt64)), (.double (13839561654909534208 : UInt64)), (.double (13840687554816376832 : UInt64)), (.double (13841813454723219456 : UInt64)), (.double (13842939354630062080 : UInt64)), (.double (13844065254536904704 : UInt64))] : List Value).getD 7 (.double (0 : UInt64)) = .double (13844065254536904704 : UInt64) from rfl))) (show Jvm.Free.Fl.NoNaN64 (if (of + (0 : Int32)) = (7 : Int32) then (own_pick p0 y0 y1 y2 y3) else (13844065254536904704 : UInt64)) from (own_ifn (own_pickN h_y0 h_y1 h_y2 h_y3) (by unfold Jvm.Free.Fl.NoNaN64; decide))) (show ((7 : Int32) - of) < (0 : Int32) ∨ ¬ ((7 : Int32) - of) < (1 : Int32) → FP.i2d (-((7 : Int32) + (1 : Int32))) = (if (of + (0 : Int32)) = (7 : Int32) then (own_pick p0 y0 y1 y2 y3) else (13844065254536904704 : UInt64)) from fun h => (show FP.i2d _ = (13844065254536904704 : UInt64) by decide +kernel).trans (own_out1 of _ _ _ h)) (show ¬ ((7 : Int32) - of) < (0 : Int32) → ((7 : Int32) - of) < (1 : Int32) → ((7 : Int32) - of) = (0 : Int32) → ([(.double y0), (.double y1), (.double y2), (.double y3)] : List Value).getD (p0).toNatClampNeg (.double (0 : UInt64)) = .double (if (of + (0 : Int32)) = (7 : Int32) then (own_pick p0 y0 y1 y2 y3) else (13844065254536904704 : UInt64)) from fun a b c0 => (own_pickAt _ _ _ _ _ h_p0).trans (congrArg Value.double (own_hit1_0 of _ _ _ c0))) (show ¬ ((7 : Int32) - of) < (0 : Int32) → ((7 : Int32) - of) < (1 : Int32) → ¬ ((7 : Int32) - of) = (0 : Int32) → ((7 : Int32) - of) = (1 : Int32) → ([(.double y0), (.double y1), (.double y2), (.double y3)] : List Value).getD (p1).toNatClampNeg (.double (0 : UInt64)) = .double (if (of + (0 : Int32)) = (7 : Int32) then (own_pick p0 y0 y1 y2 y3) else (13844065254536904704 : UInt64)) from fun a b c0 c1 => absurd b (by rw [c1]; decide)) (show ¬ ((7 : Int32) - of) < (0 : Int32) → ((7 : Int32) - of) < (1 : Int32) → ¬ ((7 : Int32) - of) = (0 : Int32) → ¬ ((7 : Int32) - of) = (1 : Int32) → ([(.double y0), (.double y1), (.double y2), (.double y3)] : List Value).getD (p2).toNatClampNeg (.double (0 : UInt64)) = .double (if (of + (0 : Int32)) = (7 : Int32) then (own_pick p0 y0 y1 y2 y3) else (13844065254536904704 : UInt64)) from fun a b c0 c1 => (own_no1 a b c0 c1).elim)) hZ (hw _ (List.mem_of_getElem? (i := 22) rfl)) (hw _ (List.mem_of_getElem? (i := 21) rfl)) (by decide) (by decide)) (g := (mkF m 487 #[.val (.int pp1), .val (.int pp2), .val (.int pp3), .val (.long qq4), .second, .val (.int (1 : Int32)), .val (.int of), .val (.int p0), .val (.int p1), .val (.int p2), .val (.ref b54), .val (.ref b71), .val (.ref b74), .val (.ref b74), .val (.int (1 : Int32))] [(.ref b54), (.int p2), (.int p1), (.int p0), (.int (1 : Int32)), (.int of), (.int (7 : Int32)), (.ref b74)])) rfl (by rw [hml]; rfl) (argsL := [(.ref b74), (.int (7 : Int32)), (.int of), (.int (1 : Int32)), (.int p0), (.int p1), (.int p2), (.ref b54)]) (rest := []) (lenOf pd__28__5b_DIIIIII_5b_D_29_Z rfl) rfl (by show 2 * 0 + _ ≤ _; exact Nat.le_of_eq rfl) (hb hby at_487) (fun _ _ => ⟨rfl, e101, (by decide : 3 + 0 ≤ _), (by decide : 13 + 0 ≤ _)⟩)
    dsimp only [Pt.U, Pt.locs, Pt.cells, Pt.slots] at X102 l102 y102 z102 st102 hQ102
    subst y102 z102
    obtain ⟨rfl, N102q, e102⟩ := hQ102
    have N102 : Fr n0 L102 := by rw [l102]; exact Fr.app N101 N102q
    change Stand _ _ _ _ _ _ _ _ _ _ _ _ 3 13 at X102
    have hc490_2 : ¬ ((1 : Int32) = (0 : Int32)) := by decide
    obtain ⟨fs, hr, hrun, hended, hW, hsame⟩ := X102.leave (v := some (.int (1 : Int32))) (fun h => by rw [Bd.returns] at h; cases h)
    refine ⟨_, _, pre68 _ ?_, hrun, hended, _, _, rfl, ?_, ⟨_, rfl⟩, hW, hsame.mono (by decide) (by decide)⟩
    · show Steps p.tables e below (T66.setTop (mkF m 101 #[.val (.int pp1), .val (.int pp2), .val (.int pp3), .val (.long qq4), .second, .val (.int (1 : Int32)), .val (.int of), .val (.int p0), .val (.int p1), .val (.int p2), .val (.ref b54), .unset, .unset, .unset, .unset] [(.double y3), (.int (3 : Int32)), (.ref b54)])) _
      refine st70 _ ?_
      refine XS.iload X70.here hx rfl (hb hby at_102) rfl ?_
      refine st71 _ ?_
      refine XS.astore X71.here hx rfl (hb hby at_106) rfl rfl (l' := #[.val (.int pp1), .val (.int pp2), .val (.int pp3), .val (.long qq4), .second, .val (.int (1 : Int32)), .val (.int of), .val (.int p0), .val (.int p1), .val (.int p2), .val (.ref b54), .val (.ref b71), .unset, .unset, .unset]) rfl ?_
      refine XS.iload X71.here hx rfl (hb hby at_108) rfl ?_
      refine XS.ifNo X71.here hx rfl (hb hby at_110) rfl ((if0 _ _).trans (tlt hc110_2).2.2.2) ?_
      refine XS.aload X71.here hx rfl (hb hby at_113) rfl rfl ?_
      refine XS.iconst X71.here hx rfl (hb hby at_115) ?_
      refine XS.iload X71.here hx rfl (hb hby at_116) rfl ?_
      refine st73 _ ?_
      refine XS.iload X73.here hx rfl (hb hby at_119) rfl ?_
      refine XS.iconst X73.here hx rfl (hb hby at_121) ?_
      refine XS.icmpYes X73.here hx rfl (pc0 := 122) (pc' := 131) rfl (hb hby at_122) rfl (flt hc122_2).2.2.2 (by decide) (by decide) ?_
      refine XS.iload X73.here hx rfl (hb hby at_131) rfl ?_
      refine XS.iconst X73.here hx rfl (hb hby at_133) ?_
      refine XS.icmpYes X73.here hx rfl (pc0 := 134) (pc' := 143) rfl (hb hby at_134) rfl (flt hc134_2).2.2.2 (by decide) (by decide) ?_
      refine XS.bipush X73.here hx rfl (hb hby at_143) ?_
      refine st74 _ ?_
      refine XS.astore X74.here hx rfl (hb hby at_147) rfl rfl (l' := #[.val (.int pp1), .val (.int pp2), .val (.int pp3), .val (.long qq4), .second, .val (.int (1 : Int32)), .val (.int of), .val (.int p0), .val (.int p1), .val (.int p2), .val (.ref b54), .val (.ref b71), .val (.ref b74), .unset, .unset]) rfl ?_
      refine XS.aload X74.here hx rfl (hb hby at_149) rfl rfl ?_
      refine XS.iconst X74.here hx rfl (hb hby at_151) ?_
      refine X74.ldc2DoubleC hx hown (mvT hZ (hw _ (List.mem_of_getElem? (i := 7) rfl))) (g := (mkF m 152 #[.val (.int pp1), .val (.int pp2), .val (.int pp3), .val (.long qq4), .second, .val (.int (1 : Int32)), .val (.int of), .val (.int p0), .val (.int p1), .val (.int p2), .val (.ref b54), .val (.ref b71), .val (.ref b74), .unset, .unset] [(.int (0 : Int32)), (.ref b74)])) rfl (hb hby at_152) _ ?_
      refine st76 _ ?_
      refine XS.aload X76.here hx rfl (hb hby at_156) rfl rfl ?_
      refine XS.iconst X76.here hx rfl (hb hby at_158) ?_
      refine X76.ldc2DoubleC hx hown (mvT hZ (hw _ (List.mem_of_getElem? (i := 8) rfl))) (g := (mkF m 159 #[.val (.int pp1), .val (.int pp2), .val (.int pp3), .val (.long qq4), .second, .val (.int (1 : Int32)), .val (.int of), .val (.int p0), .val (.int p1), .val (.int p2), .val (.ref b54), .val (.ref b71), .val (.ref b74), .unset, .unset] [(.int (1 : Int32)), (.ref b74)])) rfl (hb hby at_159) _ ?_
      refine st78 _ ?_
      refine XS.aload X78.here hx rfl (hb hby at_163) rfl rfl ?_
      refine XS.iconst X78.here hx rfl (hb hby at_165) ?_
      refine X78.ldc2DoubleC hx hown (mvT hZ (hw _ (List.mem_of_getElem? (i := 9) rfl))) (g := (mkF m 166 #[.val (.int pp1), .val (.int pp2), .val (.int pp3), .val (.long qq4), .second, .val (.int (1 : Int32)), .val (.int of), .val (.int p0), .val (.int p1), .val (.int p2), .val (.ref b54), .val (.ref b71), .val (.ref b74), .unset, .unset] [(.int (2 : Int32)), (.ref b74)])) rfl (hb hby at_166) _ ?_
      refine st80 _ ?_
      refine XS.aload X80.here hx rfl (hb hby at_170) rfl rfl ?_
      refine XS.iconst X80.here hx rfl (hb hby at_172) ?_
      refine X80.ldc2DoubleC hx hown (mvT hZ (hw _ (List.mem_of_getElem? (i := 10) rfl))) (g := (mkF m 173 #[.val (.int pp1), .val (.int pp2), .val (.int pp3), .val (.long qq4), .second, .val (.int (1 : Int32)), .val (.int of), .val (.int p0), .val (.int p1), .val (.int p2), .val (.ref b54), .val (.ref b71), .val (.ref b74), .unset, .unset] [(.int (3 : Int32)), (.ref b74)])) rfl (hb hby at_173) _ ?_
      refine st82 _ ?_
      refine XS.aload X82.here hx rfl (hb hby at_177) rfl rfl ?_
      refine XS.iconst X82.here hx rfl (hb hby at_179) ?_
      refine X82.ldc2DoubleC hx hown (mvT hZ (hw _ (List.mem_of_getElem? (i := 11) rfl))) (g := (mkF m 180 #[.val (.int pp1), .val (.int pp2), .val (.int pp3), .val (.long qq4), .second, .val (.int (1 : Int32)), .val (.int of), .val (.int p0), .val (.int p1), .val (.int p2), .val (.ref b54), .val (.ref b71), .val (.ref b74), .unset, .unset] [(.int (4 : Int32)), (.ref b74)])) rfl (hb hby at_180) _ ?_
      refine st84 _ ?_
      refine XS.aload X84.here hx rfl (hb hby at_184) rfl rfl ?_
      refine XS.iconst X84.here hx rfl (hb hby at_186) ?_
      refine X84.ldc2DoubleC hx hown (mvT hZ (hw _ (List.mem_of_getElem? (i := 12) rfl))) (g := (mkF m 187 #[.val (.int pp1), .val (.int pp2), .val (.int pp3), .val (.long qq4), .second, .val (.int (1 : Int32)), .val (.int of), .val (.int p0), .val (.int p1), .val (.int p2), .val (.ref b54), .val (.ref b71), .val (.ref b74), .unset, .unset] [(.int (5 : Int32)), (.ref b74)])) rfl (hb hby at_187) _ ?_
      refine st86 _ ?_
      refine XS.aload X86.here hx rfl (hb hby at_191) rfl rfl ?_
      refine XS.bipush X86.here hx rfl (hb hby at_193) ?_
      refine X86.ldc2DoubleC hx hown (mvT hZ (hw _ (List.mem_of_getElem? (i := 13) rfl))) (g := (mkF m 195 #[.val (.int pp1), .val (.int pp2), .val (.int pp3), .val (.long qq4), .second, .val (.int (1 : Int32)), .val (.int of), .val (.int p0), .val (.int p1), .val (.int p2), .val (.ref b54), .val (.ref b71), .val (.ref b74), .unset, .unset] [(.int (6 : Int32)), (.ref b74)])) rfl (hb hby at_195) _ ?_
      refine st88 _ ?_
      refine XS.aload X88.here hx rfl (hb hby at_199) rfl rfl ?_
      refine XS.bipush X88.here hx rfl (hb hby at_201) ?_
      refine X88.ldc2DoubleC hx hown (mvT hZ (hw _ (List.mem_of_getElem? (i := 14) rfl))) (g := (mkF m 203 #[.val (.int pp1), .val (.int pp2), .val (.int pp3), .val (.long qq4), .second, .val (.int (1 : Int32)), .val (.int of), .val (.int p0), .val (.int p1), .val (.int p2), .val (.ref b54), .val (.ref b71), .val (.ref b74), .unset, .unset] [(.int (7 : Int32)), (.ref b74)])) rfl (hb hby at_203) _ ?_
      refine st90 _ ?_
      refine XS.aload X90.here hx rfl (hb hby at_207) rfl rfl ?_
      refine XS.aload X90.here hx rfl (hb hby at_209) rfl rfl ?_
      refine XS.aload X90.here hx rfl (hb hby at_211) rfl rfl ?_
      refine XS.iload X90.here hx rfl (hb hby at_213) rfl ?_
      refine st93 _ ?_
      refine XS.astore X93.here hx rfl (hb hby at_218) rfl rfl (l' := #[.val (.int pp1), .val (.int pp2), .val (.int pp3), .val (.long qq4), .second, .val (.int (1 : Int32)), .val (.int of), .val (.int p0), .val (.int p1), .val (.int p2), .val (.ref b54), .val (.ref b71), .val (.ref b74), .val (.ref b74), .unset]) rfl ?_
      refine XS.aload X93.here hx rfl (hb hby at_220) rfl rfl ?_
      refine XS.aload X93.here hx rfl (hb hby at_222) rfl rfl ?_
      refine Jvm.RoadKit.acmp (g := (mkF m 224 #[.val (.int pp1), .val (.int pp2), .val (.int pp3), .val (.long qq4), .second, .val (.int (1 : Int32)), .val (.int of), .val (.int p0), .val (.int p1), .val (.int p2), .val (.ref b54), .val (.ref b71), .val (.ref b74), .val (.ref b74), .unset] [(.ref b74), (.ref b74)])) X93 hx rfl rfl rfl (pc0 := 224) (pc' := 227) (same := true) rfl (hb hby at_224) rfl (decide_eq_true rfl) (by decide) (by decide) ?_
      refine XS.iconst X93.here hx rfl (hb hby at_227) ?_
      refine XS.goto X93.here hx rfl (pc0 := 228) (pc' := 232) rfl (hb hby at_228) (by decide) (by decide) ?_
      refine XS.istore X93.here hx rfl (hb hby at_232) rfl (l' := #[.val (.int pp1), .val (.int pp2), .val (.int pp3), .val (.long qq4), .second, .val (.int (1 : Int32)), .val (.int of), .val (.int p0), .val (.int p1), .val (.int p2), .val (.ref b54), .val (.ref b71), .val (.ref b74), .val (.ref b74), .val (.int (1 : Int32))]) rfl ?_
      refine XS.iload X93.here hx rfl (hb hby at_234) rfl ?_
      refine XS.ifNo X93.here hx rfl (hb hby at_236) rfl ((if0 _ _).trans (feq hc236_2).1) ?_
      refine XS.aload X93.here hx rfl (hb hby at_239) rfl rfl ?_
      refine XS.iconst X93.here hx rfl (hb hby at_241) ?_
      refine XS.iload X93.here hx rfl (hb hby at_242) rfl ?_
      refine XS.iload X93.here hx rfl (hb hby at_244) rfl ?_
      refine XS.iload X93.here hx rfl (hb hby at_246) rfl ?_
      refine XS.iload X93.here hx rfl (hb hby at_248) rfl ?_
      refine XS.iload X93.here hx rfl (hb hby at_250) rfl ?_
      refine XS.aload X93.here hx rfl (hb hby at_252) rfl rfl ?_
      refine st95 _ ?_
      refine XS.ifNo X95.here hx rfl (hb hby at_257) rfl ((if0 _ _).trans (feq hc257_2).1) ?_
      refine XS.iconst X95.here hx rfl (hb hby at_260) ?_
      refine XS.goto X95.here hx rfl (pc0 := 261) (pc' := 265) rfl (hb hby at_261) (by decide) (by decide) ?_
      refine XS.istore X95.here hx rfl (hb hby at_265) rfl (l' := #[.val (.int pp1), .val (.int pp2), .val (.int pp3), .val (.long qq4), .second, .val (.int (1 : Int32)), .val (.int of), .val (.int p0), .val (.int p1), .val (.int p2), .val (.ref b54), .val (.ref b71), .val (.ref b74), .val (.ref b74), .val (.int (1 : Int32))]) rfl ?_
      refine XS.iload X95.here hx rfl (hb hby at_267) rfl ?_
      refine XS.ifNo X95.here hx rfl (hb hby at_269) rfl ((if0 _ _).trans (feq hc269_2).1) ?_
      refine XS.aload X95.here hx rfl (hb hby at_272) rfl rfl ?_
      refine XS.iconst X95.here hx rfl (hb hby at_274) ?_
      refine XS.iload X95.here hx rfl (hb hby at_275) rfl ?_
      refine XS.iload X95.here hx rfl (hb hby at_277) rfl ?_
      refine XS.iload X95.here hx rfl (hb hby at_279) rfl ?_
      refine XS.iload X95.here hx rfl (hb hby at_281) rfl ?_
      refine XS.iload X95.here hx rfl (hb hby at_283) rfl ?_
      refine XS.aload X95.here hx rfl (hb hby at_285) rfl rfl ?_
      refine st96 _ ?_
      refine XS.ifNo X96.here hx rfl (hb hby at_290) rfl ((if0 _ _).trans (feq hc290_2).1) ?_
      refine XS.iconst X96.here hx rfl (hb hby at_293) ?_
      refine XS.goto X96.here hx rfl (pc0 := 294) (pc' := 298) rfl (hb hby at_294) (by decide) (by decide) ?_
      refine XS.istore X96.here hx rfl (hb hby at_298) rfl (l' := #[.val (.int pp1), .val (.int pp2), .val (.int pp3), .val (.long qq4), .second, .val (.int (1 : Int32)), .val (.int of), .val (.int p0), .val (.int p1), .val (.int p2), .val (.ref b54), .val (.ref b71), .val (.ref b74), .val (.ref b74), .val (.int (1 : Int32))]) rfl ?_
      refine XS.iload X96.here hx rfl (hb hby at_300) rfl ?_
      refine XS.ifNo X96.here hx rfl (hb hby at_302) rfl ((if0 _ _).trans (feq hc302_2).1) ?_
      refine XS.aload X96.here hx rfl (hb hby at_305) rfl rfl ?_
      refine XS.iconst X96.here hx rfl (hb hby at_307) ?_
      refine XS.iload X96.here hx rfl (hb hby at_308) rfl ?_
      refine XS.iload X96.here hx rfl (hb hby at_310) rfl ?_
      refine XS.iload X96.here hx rfl (hb hby at_312) rfl ?_
      refine XS.iload X96.here hx rfl (hb hby at_314) rfl ?_
      refine XS.iload X96.here hx rfl (hb hby at_316) rfl ?_
      refine XS.aload X96.here hx rfl (hb hby at_318) rfl rfl ?_
      refine st97 _ ?_
      refine XS.ifNo X97.here hx rfl (hb hby at_323) rfl ((if0 _ _).trans (feq hc323_2).1) ?_
      refine XS.iconst X97.here hx rfl (hb hby at_326) ?_
      refine XS.goto X97.here hx rfl (pc0 := 327) (pc' := 331) rfl (hb hby at_327) (by decide) (by decide) ?_
      refine XS.istore X97.here hx rfl (hb hby at_331) rfl (l' := #[.val (.int pp1), .val (.int pp2), .val (.int pp3), .val (.long qq4), .second, .val (.int (1 : Int32)), .val (.int of), .val (.int p0), .val (.int p1), .val (.int p2), .val (.ref b54), .val (.ref b71), .val (.ref b74), .val (.ref b74), .val (.int (1 : Int32))]) rfl ?_
      refine XS.iload X97.here hx rfl (hb hby at_333) rfl ?_
      refine XS.ifNo X97.here hx rfl (hb hby at_335) rfl ((if0 _ _).trans (feq hc335_2).1) ?_
      refine XS.aload X97.here hx rfl (hb hby at_338) rfl rfl ?_
      refine XS.iconst X97.here hx rfl (hb hby at_340) ?_
      refine XS.iload X97.here hx rfl (hb hby at_341) rfl ?_
      refine XS.iload X97.here hx rfl (hb hby at_343) rfl ?_
      refine XS.iload X97.here hx rfl (hb hby at_345) rfl ?_
      refine XS.iload X97.here hx rfl (hb hby at_347) rfl ?_
      refine XS.iload X97.here hx rfl (hb hby at_349) rfl ?_
      refine XS.aload X97.here hx rfl (hb hby at_351) rfl rfl ?_
      refine st98 _ ?_
      refine XS.ifNo X98.here hx rfl (hb hby at_356) rfl ((if0 _ _).trans (feq hc356_2).1) ?_
      refine XS.iconst X98.here hx rfl (hb hby at_359) ?_
      refine XS.goto X98.here hx rfl (pc0 := 360) (pc' := 364) rfl (hb hby at_360) (by decide) (by decide) ?_
      refine XS.istore X98.here hx rfl (hb hby at_364) rfl (l' := #[.val (.int pp1), .val (.int pp2), .val (.int pp3), .val (.long qq4), .second, .val (.int (1 : Int32)), .val (.int of), .val (.int p0), .val (.int p1), .val (.int p2), .val (.ref b54), .val (.ref b71), .val (.ref b74), .val (.ref b74), .val (.int (1 : Int32))]) rfl ?_
      refine XS.iload X98.here hx rfl (hb hby at_366) rfl ?_
      refine XS.ifNo X98.here hx rfl (hb hby at_368) rfl ((if0 _ _).trans (feq hc368_2).1) ?_
      refine XS.aload X98.here hx rfl (hb hby at_371) rfl rfl ?_
      refine XS.iconst X98.here hx rfl (hb hby at_373) ?_
      refine XS.iload X98.here hx rfl (hb hby at_374) rfl ?_
      refine XS.iload X98.here hx rfl (hb hby at_376) rfl ?_
      refine XS.iload X98.here hx rfl (hb hby at_378) rfl ?_
      refine XS.iload X98.here hx rfl (hb hby at_380) rfl ?_
      refine XS.iload X98.here hx rfl (hb hby at_382) rfl ?_
      refine XS.aload X98.here hx rfl (hb hby at_384) rfl rfl ?_
      refine st99 _ ?_
      refine XS.ifNo X99.here hx rfl (hb hby at_389) rfl ((if0 _ _).trans (feq hc389_2).1) ?_
      refine XS.iconst X99.here hx rfl (hb hby at_392) ?_
      refine XS.goto X99.here hx rfl (pc0 := 393) (pc' := 397) rfl (hb hby at_393) (by decide) (by decide) ?_
      refine XS.istore X99.here hx rfl (hb hby at_397) rfl (l' := #[.val (.int pp1), .val (.int pp2), .val (.int pp3), .val (.long qq4), .second, .val (.int (1 : Int32)), .val (.int of), .val (.int p0), .val (.int p1), .val (.int p2), .val (.ref b54), .val (.ref b71), .val (.ref b74), .val (.ref b74), .val (.int (1 : Int32))]) rfl ?_
      refine XS.iload X99.here hx rfl (hb hby at_399) rfl ?_
      refine XS.ifNo X99.here hx rfl (hb hby at_401) rfl ((if0 _ _).trans (feq hc401_2).1) ?_
      refine XS.aload X99.here hx rfl (hb hby at_404) rfl rfl ?_
      refine XS.iconst X99.here hx rfl (hb hby at_406) ?_
      refine XS.iload X99.here hx rfl (hb hby at_407) rfl ?_
      refine XS.iload X99.here hx rfl (hb hby at_409) rfl ?_
      refine XS.iload X99.here hx rfl (hb hby at_411) rfl ?_
      refine XS.iload X99.here hx rfl (hb hby at_413) rfl ?_
      refine XS.iload X99.here hx rfl (hb hby at_415) rfl ?_
      refine XS.aload X99.here hx rfl (hb hby at_417) rfl rfl ?_
      refine st100 _ ?_
      refine XS.ifNo X100.here hx rfl (hb hby at_422) rfl ((if0 _ _).trans (feq hc422_2).1) ?_
      refine XS.iconst X100.here hx rfl (hb hby at_425) ?_
      refine XS.goto X100.here hx rfl (pc0 := 426) (pc' := 430) rfl (hb hby at_426) (by decide) (by decide) ?_
      refine XS.istore X100.here hx rfl (hb hby at_430) rfl (l' := #[.val (.int pp1), .val (.int pp2), .val (.int pp3), .val (.long qq4), .second, .val (.int (1 : Int32)), .val (.int of), .val (.int p0), .val (.int p1), .val (.int p2), .val (.ref b54), .val (.ref b71), .val (.ref b74), .val (.ref b74), .val (.int (1 : Int32))]) rfl ?_
      refine XS.iload X100.here hx rfl (hb hby at_432) rfl ?_
      refine XS.ifNo X100.here hx rfl (hb hby at_434) rfl ((if0 _ _).trans (feq hc434_2).1) ?_
      refine XS.aload X100.here hx rfl (hb hby at_437) rfl rfl ?_
      refine XS.bipush X100.here hx rfl (hb hby at_439) ?_
      refine XS.iload X100.here hx rfl (hb hby at_441) rfl ?_
      refine XS.iload X100.here hx rfl (hb hby at_443) rfl ?_
      refine XS.iload X100.here hx rfl (hb hby at_445) rfl ?_
      refine XS.iload X100.here hx rfl (hb hby at_447) rfl ?_
      refine XS.iload X100.here hx rfl (hb hby at_449) rfl ?_
      refine XS.aload X100.here hx rfl (hb hby at_451) rfl rfl ?_
      refine st101 _ ?_
      refine XS.ifNo X101.here hx rfl (hb hby at_456) rfl ((if0 _ _).trans (feq hc456_2).1) ?_
      refine XS.iconst X101.here hx rfl (hb hby at_459) ?_
      refine XS.goto X101.here hx rfl (pc0 := 460) (pc' := 464) rfl (hb hby at_460) (by decide) (by decide) ?_
      refine XS.istore X101.here hx rfl (hb hby at_464) rfl (l' := #[.val (.int pp1), .val (.int pp2), .val (.int pp3), .val (.long qq4), .second, .val (.int (1 : Int32)), .val (.int of), .val (.int p0), .val (.int p1), .val (.int p2), .val (.ref b54), .val (.ref b71), .val (.ref b74), .val (.ref b74), .val (.int (1 : Int32))]) rfl ?_
      refine XS.iload X101.here hx rfl (hb hby at_466) rfl ?_
      refine XS.ifNo X101.here hx rfl (hb hby at_468) rfl ((if0 _ _).trans (feq hc468_2).1) ?_
      refine XS.aload X101.here hx rfl (hb hby at_471) rfl rfl ?_
      refine XS.bipush X101.here hx rfl (hb hby at_473) ?_
      refine XS.iload X101.here hx rfl (hb hby at_475) rfl ?_
      refine XS.iload X101.here hx rfl (hb hby at_477) rfl ?_
      refine XS.iload X101.here hx rfl (hb hby at_479) rfl ?_
      refine XS.iload X101.here hx rfl (hb hby at_481) rfl ?_
      refine XS.iload X101.here hx rfl (hb hby at_483) rfl ?_
      refine XS.aload X101.here hx rfl (hb hby at_485) rfl rfl ?_
      refine st102 _ ?_
      refine XS.ifNo X102.here hx rfl (hb hby at_490) rfl ((if0 _ _).trans (feq hc490_2).1) ?_
      refine XS.iconst X102.here hx rfl (hb hby at_493) ?_
      refine XS.goto X102.here hx rfl (pc0 := 494) (pc' := 498) rfl (hb hby at_494) (by decide) (by decide) ?_
      refine XS.istore X102.here hx rfl (hb hby at_498) rfl (l' := #[.val (.int pp1), .val (.int pp2), .val (.int pp3), .val (.long qq4), .second, .val (.int (1 : Int32)), .val (.int of), .val (.int p0), .val (.int p1), .val (.int p2), .val (.ref b54), .val (.ref b71), .val (.ref b74), .val (.ref b74), .val (.int (1 : Int32))]) rfl ?_
      refine XS.iload X102.here hx rfl (hb hby at_500) rfl ?_
      exact retN X102 hx (t := .boolean) Bd.returns (by simp) (hb hby at_502) hr
    · show Q0 Z pp1 pp2 pp3 qq4 h0 n0 _ T102.heap _
      rw [e102]
      exact ⟨rfl, N102⟩
  · skip
    have hc14_3 : (7 : Int32) ≠ (0 : Int32) := (by decide)
    have pre103 : ∀ t, Steps p.tables e below (s₁.setTop (mkF m 36 #[.val (.int pp1), .val (.int pp2), .val (.int pp3), .val (.long qq4), .second, .val (.int (2 : Int32)), .val (.int ((pp2 &&& (2147483647 : Int32)) % (7 : Int32))), .val (.int (pp3 &&& (3 : Int32))), .val (.int (((pp3.toUInt32 >>> ((2 : Int32) &&& 31).toUInt32).toInt32) &&& (3 : Int32))), .val (.int (((pp3.toUInt32 >>> ((4 : Int32) &&& 31).toUInt32).toInt32) &&& (3 : Int32))), .unset, .unset, .unset, .unset, .unset] [])) t → Steps p.tables e below (s₁.setTop (entryFrame m #[(.int pp1), (.int pp2), (.int pp3), (.long qq4)] maxLocals)) t := fun t kt => pre2 t (by
      refine XS.iloadN X0.here hx rfl (hb hby at_5) rfl ?_
      refine X0.ldcInt hx hown (mvT hZ (hw _ (List.mem_of_getElem? (i := 0) rfl))) (g := (mkF m 6 #[.val (.int pp1), .val (.int pp2), .val (.int pp3), .val (.long qq4), .second, .val (.int (2 : Int32)), .unset, .unset, .unset, .unset, .unset, .unset, .unset, .unset, .unset] [(.int pp2)])) rfl (hb hby at_6) _ ?_
      refine XS.iand X0.here hx rfl (hb hby at_8) rfl ?_
      refine XS.bipush X0.here hx rfl (hb hby at_9) ?_
      refine XS.iload X0.here hx rfl (hb hby at_11) rfl ?_
      refine XS.isub X0.here hx rfl (hb hby at_13) rfl ?_
      refine iremM (g := (mkF m 14 #[.val (.int pp1), .val (.int pp2), .val (.int pp3), .val (.long qq4), .second, .val (.int (2 : Int32)), .unset, .unset, .unset, .unset, .unset, .unset, .unset, .unset, .unset] [(.int (7 : Int32)), (.int (pp2 &&& (2147483647 : Int32)))])) X0 hx rfl (hb hby at_14) rfl hc14_3 ?_
      refine XS.istore X0.here hx rfl (hb hby at_15) rfl (l' := #[.val (.int pp1), .val (.int pp2), .val (.int pp3), .val (.long qq4), .second, .val (.int (2 : Int32)), .val (.int ((pp2 &&& (2147483647 : Int32)) % (7 : Int32))), .unset, .unset, .unset, .unset, .unset, .unset, .unset, .unset]) rfl ?_
      refine XS.iloadN X0.here hx rfl (hb hby at_17) rfl ?_
      refine XS.iconst X0.here hx rfl (hb hby at_18) ?_
      refine XS.iand X0.here hx rfl (hb hby at_19) rfl ?_
      refine XS.istore X0.here hx rfl (hb hby at_20) rfl (l' := #[.val (.int pp1), .val (.int pp2), .val (.int pp3), .val (.long qq4), .second, .val (.int (2 : Int32)), .val (.int ((pp2 &&& (2147483647 : Int32)) % (7 : Int32))), .val (.int (pp3 &&& (3 : Int32))), .unset, .unset, .unset, .unset, .unset, .unset, .unset]) rfl ?_
      refine XS.iloadN X0.here hx rfl (hb hby at_22) rfl ?_
      refine XS.iconst X0.here hx rfl (hb hby at_23) ?_
      refine XS.iushr X0.here hx rfl (hb hby at_24) rfl ?_
      refine XS.iconst X0.here hx rfl (hb hby at_25) ?_
      refine XS.iand X0.here hx rfl (hb hby at_26) rfl ?_
      refine XS.istore X0.here hx rfl (hb hby at_27) rfl (l' := #[.val (.int pp1), .val (.int pp2), .val (.int pp3), .val (.long qq4), .second, .val (.int (2 : Int32)), .val (.int ((pp2 &&& (2147483647 : Int32)) % (7 : Int32))), .val (.int (pp3 &&& (3 : Int32))), .val (.int (((pp3.toUInt32 >>> ((2 : Int32) &&& 31).toUInt32).toInt32) &&& (3 : Int32))), .unset, .unset, .unset, .unset, .unset, .unset]) rfl ?_
      refine XS.iloadN X0.here hx rfl (hb hby at_29) rfl ?_
      refine XS.iconst X0.here hx rfl (hb hby at_30) ?_
      refine XS.iushr X0.here hx rfl (hb hby at_31) rfl ?_
      refine XS.iconst X0.here hx rfl (hb hby at_32) ?_
      refine XS.iand X0.here hx rfl (hb hby at_33) rfl ?_
      refine XS.istore X0.here hx rfl (hb hby at_34) rfl (l' := #[.val (.int pp1), .val (.int pp2), .val (.int pp3), .val (.long qq4), .second, .val (.int (2 : Int32)), .val (.int ((pp2 &&& (2147483647 : Int32)) % (7 : Int32))), .val (.int (pp3 &&& (3 : Int32))), .val (.int (((pp3.toUInt32 >>> ((2 : Int32) &&& 31).toUInt32).toInt32) &&& (3 : Int32))), .val (.int (((pp3.toUInt32 >>> ((4 : Int32) &&& 31).toUInt32).toInt32) &&& (3 : Int32))), .unset, .unset, .unset, .unset, .unset]) rfl ?_
      exact kt)
    obtain ⟨of, p0, p1, p2, h_of, h_p0, h_p1, h_p2, pre104⟩ : ∃ (of : Int32) (p0 : Int32) (p1 : Int32) (p2 : Int32), (0 ≤ of.toInt ∧ of.toInt < 7) ∧ (¬ p0 < (0 : Int32) ∧ p0 < (4 : Int32)) ∧ (¬ p1 < (0 : Int32) ∧ p1 < (4 : Int32)) ∧ (¬ p2 < (0 : Int32) ∧ p2 < (4 : Int32)) ∧ ∀ t, Steps p.tables e below (s₁.setTop (mkF m 36 #[.val (.int pp1), .val (.int pp2), .val (.int pp3), .val (.long qq4), .second, .val (.int (2 : Int32)), .val (.int of), .val (.int p0), .val (.int p1), .val (.int p2), .unset, .unset, .unset, .unset, .unset] [])) t → Steps p.tables e below (s₁.setTop (entryFrame m #[(.int pp1), (.int pp2), (.int pp3), (.long qq4)] maxLocals)) t := ⟨((pp2 &&& (2147483647 : Int32)) % (7 : Int32)), (pp3 &&& (3 : Int32)), (((pp3.toUInt32 >>> ((2 : Int32) &&& 31).toUInt32).toInt32) &&& (3 : Int32)), (((pp3.toUInt32 >>> ((4 : Int32) &&& 31).toUInt32).toInt32) &&& (3 : Int32)), own_off (k := 7) (by decide) (by decide), own_m4 _, own_m4 _, own_m4 _, pre103⟩
    obtain ⟨T105, h105, k105, X105, e105, E105, A105, st105⟩ := newP X0 hx hZ (hw _ (List.mem_of_getElem? (i := 1) rfl)) e0 (g := (mkF m 37 #[.val (.int pp1), .val (.int pp2), .val (.int pp3), .val (.long qq4), .second, .val (.int (2 : Int32)), .val (.int of), .val (.int p0), .val (.int p1), .val (.int p2), .unset, .unset, .unset, .unset, .unset] [(.int (4 : Int32))])) rfl (hb hby at_37) rfl (by decide) (cap := 4) (by decide) (by decide) (by decide) (by decide)
    obtain ⟨b105, g105⟩ : ∃ z, z = h0.size := ⟨_, rfl⟩
    rw [← g105] at A105 st105
    have g_b105 : n0 ≤ b105 := Nat.le_trans Z0 (Nat.le_of_eq g105.symm)
    have Z105 : n0 ≤ h105.size := Nat.le_trans Z0 E105.1
    have V105 : Arv Z h105 b105 k105 .double (4 : Int32) [(.double (0 : UInt64)), (.double (0 : UInt64)), (.double (0 : UInt64)), (.double (0 : UInt64))] (.double (0 : UInt64)) := (Arv.new A105 (by decide)).pad (pad_rep [] (.double (0 : UInt64)) 4)
    have pre106 : ∀ t, Steps p.tables e below (T105.setTop (mkF m 50 #[.val (.int pp1), .val (.int pp2), .val (.int pp3), .val (.long qq4), .second, .val (.int (2 : Int32)), .val (.int of), .val (.int p0), .val (.int p1), .val (.int p2), .val (.ref b105), .unset, .unset, .unset, .unset] [(.double (FP.l2d (qq4 &&& (255 : Int64)))), (.int (0 : Int32)), (.ref b105)])) t → Steps p.tables e below (s₁.setTop (entryFrame m #[(.int pp1), (.int pp2), (.int pp3), (.long qq4)] maxLocals)) t := fun t kt => pre104 t (by
      refine XS.iconst X0.here hx rfl (hb hby at_36) ?_
      refine st105 _ ?_
      refine XS.astore X105.here hx rfl (hb hby at_39) rfl rfl (l' := #[.val (.int pp1), .val (.int pp2), .val (.int pp3), .val (.long qq4), .second, .val (.int (2 : Int32)), .val (.int of), .val (.int p0), .val (.int p1), .val (.int p2), .val (.ref b105), .unset, .unset, .unset, .unset]) rfl ?_
      refine XS.aload X105.here hx rfl (hb hby at_41) rfl rfl ?_
      refine XS.iconst X105.here hx rfl (hb hby at_43) ?_
      refine XS.lloadN X105.here hx rfl (hb hby at_44) rfl ?_
      refine X105.ldc2Long hx hown (mvT hZ (hw _ (List.mem_of_getElem? (i := 2) rfl))) (g := (mkF m 45 #[.val (.int pp1), .val (.int pp2), .val (.int pp3), .val (.long qq4), .second, .val (.int (2 : Int32)), .val (.int of), .val (.int p0), .val (.int p1), .val (.int p2), .val (.ref b105), .unset, .unset, .unset, .unset] [(.long qq4), (.int (0 : Int32)), (.ref b105)])) rfl (hb hby at_45) _ ?_
      refine XS.land X105.here hx rfl (hb hby at_48) rfl ?_
      refine XS.l2dS X105.here hx rfl (hb hby at_49) rfl (v := (FP.l2d (qq4 &&& (255 : Int64)))) rfl ?_
      exact kt)
    obtain ⟨y0, h_y0, pre107⟩ : ∃ (y0 : UInt64), (Jvm.Free.Fl.NoNaN64 y0) ∧ ∀ t, Steps p.tables e below (T105.setTop (mkF m 50 #[.val (.int pp1), .val (.int pp2), .val (.int pp3), .val (.long qq4), .second, .val (.int (2 : Int32)), .val (.int of), .val (.int p0), .val (.int p1), .val (.int p2), .val (.ref b105), .unset, .unset, .unset, .unset] [(.double y0), (.int (0 : Int32)), (.ref b105)])) t → Steps p.tables e below (s₁.setTop (entryFrame m #[(.int pp1), (.int pp2), (.int pp3), (.long qq4)] maxLocals)) t := ⟨(FP.l2d (qq4 &&& (255 : Int64))), nn_w rfl, pre106⟩
    obtain ⟨cl_108, Ar_108, qq_108, Sz_108, Nn_108, Hh_108, Gg_108⟩ := id V105
    have hin_108 : ¬ ((0 : Int32) < 0 ∨ cl_108.slots.size ≤ ((0 : Int32)).toNatClampNeg) := inb_of Sz_108 ⟨by decide, by decide⟩
    obtain ⟨T109, h109, X109, e109, W109, st109⟩ := stD X105 hx hZ e105 Ar_108 (j := (0 : Int32)) hin_108 (g := (mkF m 50 #[.val (.int pp1), .val (.int pp2), .val (.int pp3), .val (.long qq4), .second, .val (.int (2 : Int32)), .val (.int of), .val (.int p0), .val (.int p1), .val (.int p2), .val (.ref b105), .unset, .unset, .unset, .unset] [(.double y0), (.int (0 : Int32)), (.ref b105)])) rfl rfl (hb hby at_50)
    have N109 := Fr.snoc X109 N0 g_b105
    have Z109 : n0 ≤ h109.size := Nat.le_trans Z105 (Keep.of_wr W109).1
    have V109 : Arv Z h109 b105 k105 .double (4 : Int32) [(.double y0), (.double (0 : UInt64)), (.double (0 : UInt64)), (.double (0 : UInt64))] (.double (0 : UInt64)) := Arv.set Ar_108 qq_108 Sz_108 Nn_108 Hh_108 Gg_108 rfl W109 0 rfl (Nat.le_of_ble_eq_true rfl)
    have pre110 : ∀ t, Steps p.tables e below (T109.setTop (mkF m 67 #[.val (.int pp1), .val (.int pp2), .val (.int pp3), .val (.long qq4), .second, .val (.int (2 : Int32)), .val (.int of), .val (.int p0), .val (.int p1), .val (.int p2), .val (.ref b105), .unset, .unset, .unset, .unset] [(.double (FP.l2d ((1000 : Int64) + (((qq4.toUInt64 >>> ((8 : Int32) &&& 0x3f).toInt64.toUInt64).toInt64) &&& (255 : Int64))))), (.int (1 : Int32)), (.ref b105)])) t → Steps p.tables e below (s₁.setTop (entryFrame m #[(.int pp1), (.int pp2), (.int pp3), (.long qq4)] maxLocals)) t := fun t kt => pre107 t (by
      refine st109 _ ?_
      refine XS.aload X109.here hx rfl (hb hby at_51) rfl rfl ?_
      refine XS.iconst X109.here hx rfl (hb hby at_53) ?_
      refine X109.ldc2Long hx hown (mvT hZ (hw _ (List.mem_of_getElem? (i := 3) rfl))) (g := (mkF m 54 #[.val (.int pp1), .val (.int pp2), .val (.int pp3), .val (.long qq4), .second, .val (.int (2 : Int32)), .val (.int of), .val (.int p0), .val (.int p1), .val (.int p2), .val (.ref b105), .unset, .unset, .unset, .unset] [(.int (1 : Int32)), (.ref b105)])) rfl (hb hby at_54) _ ?_
      refine XS.lloadN X109.here hx rfl (hb hby at_57) rfl ?_
      refine XS.bipush X109.here hx rfl (hb hby at_58) ?_
      refine XS.lushr X109.here hx rfl (hb hby at_60) rfl ?_
      refine X109.ldc2Long hx hown (mvT hZ (hw _ (List.mem_of_getElem? (i := 2) rfl))) (g := (mkF m 61 #[.val (.int pp1), .val (.int pp2), .val (.int pp3), .val (.long qq4), .second, .val (.int (2 : Int32)), .val (.int of), .val (.int p0), .val (.int p1), .val (.int p2), .val (.ref b105), .unset, .unset, .unset, .unset] [(.long ((qq4.toUInt64 >>> ((8 : Int32) &&& 0x3f).toInt64.toUInt64).toInt64)), (.long (1000 : Int64)), (.int (1 : Int32)), (.ref b105)])) rfl (hb hby at_61) _ ?_
      refine XS.land X109.here hx rfl (hb hby at_64) rfl ?_
      refine XS.ladd X109.here hx rfl (hb hby at_65) rfl ?_
      refine XS.l2dS X109.here hx rfl (hb hby at_66) rfl (v := (FP.l2d ((1000 : Int64) + (((qq4.toUInt64 >>> ((8 : Int32) &&& 0x3f).toInt64.toUInt64).toInt64) &&& (255 : Int64))))) rfl ?_
      exact kt)
    obtain ⟨y1, h_y1, pre111⟩ : ∃ (y1 : UInt64), (Jvm.Free.Fl.NoNaN64 y1) ∧ ∀ t, Steps p.tables e below (T109.setTop (mkF m 67 #[.val (.int pp1), .val (.int pp2), .val (.int pp3), .val (.long qq4), .second, .val (.int (2 : Int32)), .val (.int of), .val (.int p0), .val (.int p1), .val (.int p2), .val (.ref b105), .unset, .unset, .unset, .unset] [(.double y1), (.int (1 : Int32)), (.ref b105)])) t → Steps p.tables e below (s₁.setTop (entryFrame m #[(.int pp1), (.int pp2), (.int pp3), (.long qq4)] maxLocals)) t := ⟨(FP.l2d ((1000 : Int64) + (((qq4.toUInt64 >>> ((8 : Int32) &&& 0x3f).toInt64.toUInt64).toInt64) &&& (255 : Int64)))), nn_w rfl, pre110⟩
    obtain ⟨cl_112, Ar_112, qq_112, Sz_112, Nn_112, Hh_112, Gg_112⟩ := id V109
    have hin_112 : ¬ ((1 : Int32) < 0 ∨ cl_112.slots.size ≤ ((1 : Int32)).toNatClampNeg) := inb_of Sz_112 ⟨by decide, by decide⟩
    obtain ⟨T113, h113, X113, e113, W113, st113⟩ := stD X109 hx hZ e109 Ar_112 (j := (1 : Int32)) hin_112 (g := (mkF m 67 #[.val (.int pp1), .val (.int pp2), .val (.int pp3), .val (.long qq4), .second, .val (.int (2 : Int32)), .val (.int of), .val (.int p0), .val (.int p1), .val (.int p2), .val (.ref b105), .unset, .unset, .unset, .unset] [(.double y1), (.int (1 : Int32)), (.ref b105)])) rfl rfl (hb hby at_67)
    have N113 := Fr.snoc X113 N109 g_b105
    have Z113 : n0 ≤ h113.size := Nat.le_trans Z109 (Keep.of_wr W113).1
    have V113 : Arv Z h113 b105 k105 .double (4 : Int32) [(.double y0), (.double y1), (.double (0 : UInt64)), (.double (0 : UInt64))] (.double (0 : UInt64)) := Arv.set Ar_112 qq_112 Sz_112 Nn_112 Hh_112 Gg_112 rfl W113 1 rfl (Nat.le_of_ble_eq_true rfl)
    have pre114 : ∀ t, Steps p.tables e below (T113.setTop (mkF m 84 #[.val (.int pp1), .val (.int pp2), .val (.int pp3), .val (.long qq4), .second, .val (.int (2 : Int32)), .val (.int of), .val (.int p0), .val (.int p1), .val (.int p2), .val (.ref b105), .unset, .unset, .unset, .unset] [(.double (FP.l2d ((2000 : Int64) + (((qq4.toUInt64 >>> ((16 : Int32) &&& 0x3f).toInt64.toUInt64).toInt64) &&& (255 : Int64))))), (.int (2 : Int32)), (.ref b105)])) t → Steps p.tables e below (s₁.setTop (entryFrame m #[(.int pp1), (.int pp2), (.int pp3), (.long qq4)] maxLocals)) t := fun t kt => pre111 t (by
      refine st113 _ ?_
      refine XS.aload X113.here hx rfl (hb hby at_68) rfl rfl ?_
      refine XS.iconst X113.here hx rfl (hb hby at_70) ?_
      refine X113.ldc2Long hx hown (mvT hZ (hw _ (List.mem_of_getElem? (i := 4) rfl))) (g := (mkF m 71 #[.val (.int pp1), .val (.int pp2), .val (.int pp3), .val (.long qq4), .second, .val (.int (2 : Int32)), .val (.int of), .val (.int p0), .val (.int p1), .val (.int p2), .val (.ref b105), .unset, .unset, .unset, .unset] [(.int (2 : Int32)), (.ref b105)])) rfl (hb hby at_71) _ ?_
      refine XS.lloadN X113.here hx rfl (hb hby at_74) rfl ?_
      refine XS.bipush X113.here hx rfl (hb hby at_75) ?_
      refine XS.lushr X113.here hx rfl (hb hby at_77) rfl ?_
      refine X113.ldc2Long hx hown (mvT hZ (hw _ (List.mem_of_getElem? (i := 2) rfl))) (g := (mkF m 78 #[.val (.int pp1), .val (.int pp2), .val (.int pp3), .val (.long qq4), .second, .val (.int (2 : Int32)), .val (.int of), .val (.int p0), .val (.int p1), .val (.int p2), .val (.ref b105), .unset, .unset, .unset, .unset] [(.long ((qq4.toUInt64 >>> ((16 : Int32) &&& 0x3f).toInt64.toUInt64).toInt64)), (.long (2000 : Int64)), (.int (2 : Int32)), (.ref b105)])) rfl (hb hby at_78) _ ?_
      refine XS.land X113.here hx rfl (hb hby at_81) rfl ?_
      refine XS.ladd X113.here hx rfl (hb hby at_82) rfl ?_
      refine XS.l2dS X113.here hx rfl (hb hby at_83) rfl (v := (FP.l2d ((2000 : Int64) + (((qq4.toUInt64 >>> ((16 : Int32) &&& 0x3f).toInt64.toUInt64).toInt64) &&& (255 : Int64))))) rfl ?_
      exact kt)
    obtain ⟨y2, h_y2, pre115⟩ : ∃ (y2 : UInt64), (Jvm.Free.Fl.NoNaN64 y2) ∧ ∀ t, Steps p.tables e below (T113.setTop (mkF m 84 #[.val (.int pp1), .val (.int pp2), .val (.int pp3), .val (.long qq4), .second, .val (.int (2 : Int32)), .val (.int of), .val (.int p0), .val (.int p1), .val (.int p2), .val (.ref b105), .unset, .unset, .unset, .unset] [(.double y2), (.int (2 : Int32)), (.ref b105)])) t → Steps p.tables e below (s₁.setTop (entryFrame m #[(.int pp1), (.int pp2), (.int pp3), (.long qq4)] maxLocals)) t := ⟨(FP.l2d ((2000 : Int64) + (((qq4.toUInt64 >>> ((16 : Int32) &&& 0x3f).toInt64.toUInt64).toInt64) &&& (255 : Int64)))), nn_w rfl, pre114⟩
    obtain ⟨cl_116, Ar_116, qq_116, Sz_116, Nn_116, Hh_116, Gg_116⟩ := id V113
    have hin_116 : ¬ ((2 : Int32) < 0 ∨ cl_116.slots.size ≤ ((2 : Int32)).toNatClampNeg) := inb_of Sz_116 ⟨by decide, by decide⟩
    obtain ⟨T117, h117, X117, e117, W117, st117⟩ := stD X113 hx hZ e113 Ar_116 (j := (2 : Int32)) hin_116 (g := (mkF m 84 #[.val (.int pp1), .val (.int pp2), .val (.int pp3), .val (.long qq4), .second, .val (.int (2 : Int32)), .val (.int of), .val (.int p0), .val (.int p1), .val (.int p2), .val (.ref b105), .unset, .unset, .unset, .unset] [(.double y2), (.int (2 : Int32)), (.ref b105)])) rfl rfl (hb hby at_84)
    have N117 := Fr.snoc X117 N113 g_b105
    have Z117 : n0 ≤ h117.size := Nat.le_trans Z113 (Keep.of_wr W117).1
    have V117 : Arv Z h117 b105 k105 .double (4 : Int32) [(.double y0), (.double y1), (.double y2), (.double (0 : UInt64))] (.double (0 : UInt64)) := Arv.set Ar_116 qq_116 Sz_116 Nn_116 Hh_116 Gg_116 rfl W117 2 rfl (Nat.le_of_ble_eq_true rfl)
    have pre118 : ∀ t, Steps p.tables e below (T117.setTop (mkF m 101 #[.val (.int pp1), .val (.int pp2), .val (.int pp3), .val (.long qq4), .second, .val (.int (2 : Int32)), .val (.int of), .val (.int p0), .val (.int p1), .val (.int p2), .val (.ref b105), .unset, .unset, .unset, .unset] [(.double (FP.l2d ((3000 : Int64) + (((qq4.toUInt64 >>> ((24 : Int32) &&& 0x3f).toInt64.toUInt64).toInt64) &&& (255 : Int64))))), (.int (3 : Int32)), (.ref b105)])) t → Steps p.tables e below (s₁.setTop (entryFrame m #[(.int pp1), (.int pp2), (.int pp3), (.long qq4)] maxLocals)) t := fun t kt => pre115 t (by
      refine st117 _ ?_
      refine XS.aload X117.here hx rfl (hb hby at_85) rfl rfl ?_
      refine XS.iconst X117.here hx rfl (hb hby at_87) ?_
      refine X117.ldc2Long hx hown (mvT hZ (hw _ (List.mem_of_getElem? (i := 5) rfl))) (g := (mkF m 88 #[.val (.int pp1), .val (.int pp2), .val (.int pp3), .val (.long qq4), .second, .val (.int (2 : Int32)), .val (.int of), .val (.int p0), .val (.int p1), .val (.int p2), .val (.ref b105), .unset, .unset, .unset, .unset] [(.int (3 : Int32)), (.ref b105)])) rfl (hb hby at_88) _ ?_
      refine XS.lloadN X117.here hx rfl (hb hby at_91) rfl ?_
      refine XS.bipush X117.here hx rfl (hb hby at_92) ?_
      refine XS.lushr X117.here hx rfl (hb hby at_94) rfl ?_
      refine X117.ldc2Long hx hown (mvT hZ (hw _ (List.mem_of_getElem? (i := 2) rfl))) (g := (mkF m 95 #[.val (.int pp1), .val (.int pp2), .val (.int pp3), .val (.long qq4), .second, .val (.int (2 : Int32)), .val (.int of), .val (.int p0), .val (.int p1), .val (.int p2), .val (.ref b105), .unset, .unset, .unset, .unset] [(.long ((qq4.toUInt64 >>> ((24 : Int32) &&& 0x3f).toInt64.toUInt64).toInt64)), (.long (3000 : Int64)), (.int (3 : Int32)), (.ref b105)])) rfl (hb hby at_95) _ ?_
      refine XS.land X117.here hx rfl (hb hby at_98) rfl ?_
      refine XS.ladd X117.here hx rfl (hb hby at_99) rfl ?_
      refine XS.l2dS X117.here hx rfl (hb hby at_100) rfl (v := (FP.l2d ((3000 : Int64) + (((qq4.toUInt64 >>> ((24 : Int32) &&& 0x3f).toInt64.toUInt64).toInt64) &&& (255 : Int64))))) rfl ?_
      exact kt)
    obtain ⟨y3, h_y3, pre119⟩ : ∃ (y3 : UInt64), (Jvm.Free.Fl.NoNaN64 y3) ∧ ∀ t, Steps p.tables e below (T117.setTop (mkF m 101 #[.val (.int pp1), .val (.int pp2), .val (.int pp3), .val (.long qq4), .second, .val (.int (2 : Int32)), .val (.int of), .val (.int p0), .val (.int p1), .val (.int p2), .val (.ref b105), .unset, .unset, .unset, .unset] [(.double y3), (.int (3 : Int32)), (.ref b105)])) t → Steps p.tables e below (s₁.setTop (entryFrame m #[(.int pp1), (.int pp2), (.int pp3), (.long qq4)] maxLocals)) t := ⟨(FP.l2d ((3000 : Int64) + (((qq4.toUInt64 >>> ((24 : Int32) &&& 0x3f).toInt64.toUInt64).toInt64) &&& (255 : Int64)))), nn_w rfl, pre118⟩
    have ho0 : ¬ (of + (0 : Int32)) < (0 : Int32) ∧ (of + (0 : Int32)) < (8 : Int32) := (own_offk (0 : Int32) (J := 0) (k := 7) (by decide) h_of (by decide) (by decide)).resolve_right (by decide)
    have ho1 : ¬ (of + (1 : Int32)) < (0 : Int32) ∧ (of + (1 : Int32)) < (8 : Int32) := (own_offk (1 : Int32) (J := 1) (k := 7) (by decide) h_of (by decide) (by decide)).resolve_right (by decide)
    obtain ⟨cl_120, Ar_120, qq_120, Sz_120, Nn_120, Hh_120, Gg_120⟩ := id V117
    have hin_120 : ¬ ((3 : Int32) < 0 ∨ cl_120.slots.size ≤ ((3 : Int32)).toNatClampNeg) := inb_of Sz_120 ⟨by decide, by decide⟩
    obtain ⟨T121, h121, X121, e121, W121, st121⟩ := stD X117 hx hZ e117 Ar_120 (j := (3 : Int32)) hin_120 (g := (mkF m 101 #[.val (.int pp1), .val (.int pp2), .val (.int pp3), .val (.long qq4), .second, .val (.int (2 : Int32)), .val (.int of), .val (.int p0), .val (.int p1), .val (.int p2), .val (.ref b105), .unset, .unset, .unset, .unset] [(.double y3), (.int (3 : Int32)), (.ref b105)])) rfl rfl (hb hby at_101)
    have N121 := Fr.snoc X121 N117 g_b105
    have Z121 : n0 ≤ h121.size := Nat.le_trans Z117 (Keep.of_wr W121).1
    have V121 : Arv Z h121 b105 k105 .double (4 : Int32) [(.double y0), (.double y1), (.double y2), (.double y3)] (.double (0 : UInt64)) := Arv.set Ar_120 qq_120 Sz_120 Nn_120 Hh_120 Gg_120 rfl W121 3 rfl (Nat.le_of_ble_eq_true rfl)
    obtain ⟨T122, h122, k122, X122, e122, E122, A122, st122⟩ := newP X121 hx hZ (hw _ (List.mem_of_getElem? (i := 6) rfl)) e121 (g := (mkF m 104 #[.val (.int pp1), .val (.int pp2), .val (.int pp3), .val (.long qq4), .second, .val (.int (2 : Int32)), .val (.int of), .val (.int p0), .val (.int p1), .val (.int p2), .val (.ref b105), .unset, .unset, .unset, .unset] [(.int (2 : Int32))])) rfl (hb hby at_104) rfl (by decide) (cap := 2) (by decide) (by decide) (by decide) (by decide)
    obtain ⟨b122, g122⟩ : ∃ z, z = h121.size := ⟨_, rfl⟩
    rw [← g122] at A122 st122
    have g_b122 : n0 ≤ b122 := Nat.le_trans Z121 (Nat.le_of_eq g122.symm)
    have Z122 : n0 ≤ h122.size := Nat.le_trans Z121 E122.1
    have V122 : Arv Z h122 b122 k122 .int (2 : Int32) [(.int (0 : Int32)), (.int (0 : Int32))] (.int (0 : Int32)) := (Arv.new A122 (by decide)).pad (pad_rep [] (.int (0 : Int32)) 2)
    have hc110_3 : (0 : Int32) < (2 : Int32) := by decide
    obtain ⟨cl_123, Ar_123, qq_123, Sz_123, Nn_123, Hh_123, Gg_123⟩ := id V122
    have hin_123 : ¬ ((0 : Int32) < 0 ∨ cl_123.slots.size ≤ ((0 : Int32)).toNatClampNeg) := inb_of Sz_123 ⟨by decide, by decide⟩
    obtain ⟨T124, h124, X124, e124, W124, st124⟩ := stI X122 hx hZ e122 Ar_123 (j := (0 : Int32)) hin_123 (g := (mkF m 118 #[.val (.int pp1), .val (.int pp2), .val (.int pp3), .val (.long qq4), .second, .val (.int (2 : Int32)), .val (.int of), .val (.int p0), .val (.int p1), .val (.int p2), .val (.ref b105), .val (.ref b122), .unset, .unset, .unset] [(.int p0), (.int (0 : Int32)), (.ref b122)])) rfl rfl (hb hby at_118)
    have N124 := Fr.snoc X124 N121 g_b122
    have Z124 : n0 ≤ h124.size := Nat.le_trans Z122 (Keep.of_wr W124).1
    have V124 : Arv Z h124 b122 k122 .int (2 : Int32) [(.int p0), (.int (0 : Int32))] (.int (0 : Int32)) := Arv.set Ar_123 qq_123 Sz_123 Nn_123 Hh_123 Gg_123 rfl W124 0 rfl (Nat.le_of_ble_eq_true rfl)
    have hc122_3 : (1 : Int32) < (2 : Int32) := by decide
    obtain ⟨cl_125, Ar_125, qq_125, Sz_125, Nn_125, Hh_125, Gg_125⟩ := id V124
    have hin_125 : ¬ ((1 : Int32) < 0 ∨ cl_125.slots.size ≤ ((1 : Int32)).toNatClampNeg) := inb_of Sz_125 ⟨by decide, by decide⟩
    obtain ⟨T126, h126, X126, e126, W126, st126⟩ := stI X124 hx hZ e124 Ar_125 (j := (1 : Int32)) hin_125 (g := (mkF m 130 #[.val (.int pp1), .val (.int pp2), .val (.int pp3), .val (.long qq4), .second, .val (.int (2 : Int32)), .val (.int of), .val (.int p0), .val (.int p1), .val (.int p2), .val (.ref b105), .val (.ref b122), .unset, .unset, .unset] [(.int p1), (.int (1 : Int32)), (.ref b122)])) rfl rfl (hb hby at_130)
    have N126 := Fr.snoc X126 N124 g_b122
    have Z126 : n0 ≤ h126.size := Nat.le_trans Z124 (Keep.of_wr W126).1
    have V126 : Arv Z h126 b122 k122 .int (2 : Int32) [(.int p0), (.int p1)] (.int (0 : Int32)) := Arv.set Ar_125 qq_125 Sz_125 Nn_125 Hh_125 Gg_125 rfl W126 1 rfl (Nat.le_of_ble_eq_true rfl)
    have hc134_3 : ¬ ((2 : Int32) < (2 : Int32)) := by decide
    obtain ⟨T127, h127, k127, X127, e127, E127, A127, st127⟩ := newP X126 hx hZ (hw _ (List.mem_of_getElem? (i := 1) rfl)) e126 (g := (mkF m 145 #[.val (.int pp1), .val (.int pp2), .val (.int pp3), .val (.long qq4), .second, .val (.int (2 : Int32)), .val (.int of), .val (.int p0), .val (.int p1), .val (.int p2), .val (.ref b105), .val (.ref b122), .unset, .unset, .unset] [(.int (8 : Int32))])) rfl (hb hby at_145) rfl (by decide) (cap := 8) (by decide) (by decide) (by decide) (by decide)
    obtain ⟨b127, g127⟩ : ∃ z, z = h126.size := ⟨_, rfl⟩
    rw [← g127] at A127 st127
    have g_b127 : n0 ≤ b127 := Nat.le_trans Z126 (Nat.le_of_eq g127.symm)
    have Z127 : n0 ≤ h127.size := Nat.le_trans Z126 E127.1
    have V127 : Arv Z h127 b127 k127 .double (8 : Int32) [(.double (0 : UInt64)), (.double (0 : UInt64)), (.double (0 : UInt64)), (.double (0 : UInt64)), (.double (0 : UInt64)), (.double (0 : UInt64)), (.double (0 : UInt64)), (.double (0 : UInt64))] (.double (0 : UInt64)) := (Arv.new A127 (by decide)).pad (pad_rep [] (.double (0 : UInt64)) 8)
    obtain ⟨cl_128, Ar_128, qq_128, Sz_128, Nn_128, Hh_128, Gg_128⟩ := id V127
    have hin_128 : ¬ ((0 : Int32) < 0 ∨ cl_128.slots.size ≤ ((0 : Int32)).toNatClampNeg) := inb_of Sz_128 ⟨by decide, by decide⟩
    obtain ⟨T129, h129, X129, e129, W129, st129⟩ := stD X127 hx hZ e127 Ar_128 (j := (0 : Int32)) hin_128 (g := (mkF m 155 #[.val (.int pp1), .val (.int pp2), .val (.int pp3), .val (.long qq4), .second, .val (.int (2 : Int32)), .val (.int of), .val (.int p0), .val (.int p1), .val (.int p2), .val (.ref b105), .val (.ref b122), .val (.ref b127), .unset, .unset] [(.double (13830554455654793216 : UInt64)), (.int (0 : Int32)), (.ref b127)])) rfl rfl (hb hby at_155)
    have N129 := Fr.snoc X129 N126 g_b127
    have Z129 : n0 ≤ h129.size := Nat.le_trans Z127 (Keep.of_wr W129).1
    have V129 : Arv Z h129 b127 k127 .double (8 : Int32) [(.double (13830554455654793216 : UInt64)), (.double (0 : UInt64)), (.double (0 : UInt64)), (.double (0 : UInt64)), (.double (0 : UInt64)), (.double (0 : UInt64)), (.double (0 : UInt64)), (.double (0 : UInt64))] (.double (0 : UInt64)) := Arv.set Ar_128 qq_128 Sz_128 Nn_128 Hh_128 Gg_128 rfl W129 0 rfl (Nat.le_of_ble_eq_true rfl)
    obtain ⟨cl_130, Ar_130, qq_130, Sz_130, Nn_130, Hh_130, Gg_130⟩ := id V129
    have hin_130 : ¬ ((1 : Int32) < 0 ∨ cl_130.slots.size ≤ ((1 : Int32)).toNatClampNeg) := inb_of Sz_130 ⟨by decide, by decide⟩
    obtain ⟨T131, h131, X131, e131, W131, st131⟩ := stD X129 hx hZ e129 Ar_130 (j := (1 : Int32)) hin_130 (g := (mkF m 162 #[.val (.int pp1), .val (.int pp2), .val (.int pp3), .val (.long qq4), .second, .val (.int (2 : Int32)), .val (.int of), .val (.int p0), .val (.int p1), .val (.int p2), .val (.ref b105), .val (.ref b122), .val (.ref b127), .unset, .unset] [(.double (13835058055282163712 : UInt64)), (.int (1 : Int32)), (.ref b127)])) rfl rfl (hb hby at_162)
    have N131 := Fr.snoc X131 N129 g_b127
    have Z131 : n0 ≤ h131.size := Nat.le_trans Z129 (Keep.of_wr W131).1
    have V131 : Arv Z h131 b127 k127 .double (8 : Int32) [(.double (13830554455654793216 : UInt64)), (.double (13835058055282163712 : UInt64)), (.double (0 : UInt64)), (.double (0 : UInt64)), (.double (0 : UInt64)), (.double (0 : UInt64)), (.double (0 : UInt64)), (.double (0 : UInt64))] (.double (0 : UInt64)) := Arv.set Ar_130 qq_130 Sz_130 Nn_130 Hh_130 Gg_130 rfl W131 1 rfl (Nat.le_of_ble_eq_true rfl)
    obtain ⟨cl_132, Ar_132, qq_132, Sz_132, Nn_132, Hh_132, Gg_132⟩ := id V131
    have hin_132 : ¬ ((2 : Int32) < 0 ∨ cl_132.slots.size ≤ ((2 : Int32)).toNatClampNeg) := inb_of Sz_132 ⟨by decide, by decide⟩
    obtain ⟨T133, h133, X133, e133, W133, st133⟩ := stD X131 hx hZ e131 Ar_132 (j := (2 : Int32)) hin_132 (g := (mkF m 169 #[.val (.int pp1), .val (.int pp2), .val (.int pp3), .val (.long qq4), .second, .val (.int (2 : Int32)), .val (.int of), .val (.int p0), .val (.int p1), .val (.int p2), .val (.ref b105), .val (.ref b122), .val (.ref b127), .unset, .unset] [(.double (13837309855095848960 : UInt64)), (.int (2 : Int32)), (.ref b127)])) rfl rfl (hb hby at_169)
    have N133 := Fr.snoc X133 N131 g_b127
    have Z133 : n0 ≤ h133.size := Nat.le_trans Z131 (Keep.of_wr W133).1
    have V133 : Arv Z h133 b127 k127 .double (8 : Int32) [(.double (13830554455654793216 : UInt64)), (.double (13835058055282163712 : UInt64)), (.double (13837309855095848960 : UInt64)), (.double (0 : UInt64)), (.double (0 : UInt64)), (.double (0 : UInt64)), (.double (0 : UInt64)), (.double (0 : UInt64))] (.double (0 : UInt64)) := Arv.set Ar_132 qq_132 Sz_132 Nn_132 Hh_132 Gg_132 rfl W133 2 rfl (Nat.le_of_ble_eq_true rfl)
    obtain ⟨cl_134, Ar_134, qq_134, Sz_134, Nn_134, Hh_134, Gg_134⟩ := id V133
    have hin_134 : ¬ ((3 : Int32) < 0 ∨ cl_134.slots.size ≤ ((3 : Int32)).toNatClampNeg) := inb_of Sz_134 ⟨by decide, by decide⟩
    obtain ⟨T135, h135, X135, e135, W135, st135⟩ := stD X133 hx hZ e133 Ar_134 (j := (3 : Int32)) hin_134 (g := (mkF m 176 #[.val (.int pp1), .val (.int pp2), .val (.int pp3), .val (.long qq4), .second, .val (.int (2 : Int32)), .val (.int of), .val (.int p0), .val (.int p1), .val (.int p2), .val (.ref b105), .val (.ref b122), .val (.ref b127), .unset, .unset] [(.double (13839561654909534208 : UInt64)), (.int (3 : Int32)), (.ref b127)])) rfl rfl (hb hby at_176)
    have N135 := Fr.snoc X135 N133 g_b127
    have Z135 : n0 ≤ h135.size := Nat.le_trans Z133 (Keep.of_wr W135).1
    have V135 : Arv Z h135 b127 k127 .double (8 : Int32) [(.double (13830554455654793216 : UInt64)), (.double (13835058055282163712 : UInt64)), (.double (13837309855095848960 : UInt64)), (.double (13839561654909534208 : UInt64)), (.double (0 : UInt64)), (.double (0 : UInt64)), (.double (0 : UInt64)), (.double (0 : UInt64))] (.double (0 : UInt64)) := Arv.set Ar_134 qq_134 Sz_134 Nn_134 Hh_134 Gg_134 rfl W135 3 rfl (Nat.le_of_ble_eq_true rfl)
    obtain ⟨cl_136, Ar_136, qq_136, Sz_136, Nn_136, Hh_136, Gg_136⟩ := id V135
    have hin_136 : ¬ ((4 : Int32) < 0 ∨ cl_136.slots.size ≤ ((4 : Int32)).toNatClampNeg) := inb_of Sz_136 ⟨by decide, by decide⟩
    obtain ⟨T137, h137, X137, e137, W137, st137⟩ := stD X135 hx hZ e135 Ar_136 (j := (4 : Int32)) hin_136 (g := (mkF m 183 #[.val (.int pp1), .val (.int pp2), .val (.int pp3), .val (.long qq4), .second, .val (.int (2 : Int32)), .val (.int of), .val (.int p0), .val (.int p1), .val (.int p2), .val (.ref b105), .val (.ref b122), .val (.ref b127), .unset, .unset] [(.double (13840687554816376832 : UInt64)), (.int (4 : Int32)), (.ref b127)])) rfl rfl (hb hby at_183)
    have N137 := Fr.snoc X137 N135 g_b127
    have Z137 : n0 ≤ h137.size := Nat.le_trans Z135 (Keep.of_wr W137).1
    have V137 : Arv Z h137 b127 k127 .double (8 : Int32) [(.double (13830554455654793216 : UInt64)), (.double (13835058055282163712 : UInt64)), (.double (13837309855095848960 : UInt64)), (.double (13839561654909534208 : UInt64)), (.double (13840687554816376832 : UInt64)), (.double (0 : UInt64)), (.double (0 : UInt64)), (.double (0 : UInt64))] (.double (0 : UInt64)) := Arv.set Ar_136 qq_136 Sz_136 Nn_136 Hh_136 Gg_136 rfl W137 4 rfl (Nat.le_of_ble_eq_true rfl)
    obtain ⟨cl_138, Ar_138, qq_138, Sz_138, Nn_138, Hh_138, Gg_138⟩ := id V137
    have hin_138 : ¬ ((5 : Int32) < 0 ∨ cl_138.slots.size ≤ ((5 : Int32)).toNatClampNeg) := inb_of Sz_138 ⟨by decide, by decide⟩
    obtain ⟨T139, h139, X139, e139, W139, st139⟩ := stD X137 hx hZ e137 Ar_138 (j := (5 : Int32)) hin_138 (g := (mkF m 190 #[.val (.int pp1), .val (.int pp2), .val (.int pp3), .val (.long qq4), .second, .val (.int (2 : Int32)), .val (.int of), .val (.int p0), .val (.int p1), .val (.int p2), .val (.ref b105), .val (.ref b122), .val (.ref b127), .unset, .unset] [(.double (13841813454723219456 : UInt64)), (.int (5 : Int32)), (.ref b127)])) rfl rfl (hb hby at_190)
    have N139 := Fr.snoc X139 N137 g_b127
    have Z139 : n0 ≤ h139.size := Nat.le_trans Z137 (Keep.of_wr W139).1
    have V139 : Arv Z h139 b127 k127 .double (8 : Int32) [(.double (13830554455654793216 : UInt64)), (.double (13835058055282163712 : UInt64)), (.double (13837309855095848960 : UInt64)), (.double (13839561654909534208 : UInt64)), (.double (13840687554816376832 : UInt64)), (.double (13841813454723219456 : UInt64)), (.double (0 : UInt64)), (.double (0 : UInt64))] (.double (0 : UInt64)) := Arv.set Ar_138 qq_138 Sz_138 Nn_138 Hh_138 Gg_138 rfl W139 5 rfl (Nat.le_of_ble_eq_true rfl)
    obtain ⟨cl_140, Ar_140, qq_140, Sz_140, Nn_140, Hh_140, Gg_140⟩ := id V139
    have hin_140 : ¬ ((6 : Int32) < 0 ∨ cl_140.slots.size ≤ ((6 : Int32)).toNatClampNeg) := inb_of Sz_140 ⟨by decide, by decide⟩
    obtain ⟨T141, h141, X141, e141, W141, st141⟩ := stD X139 hx hZ e139 Ar_140 (j := (6 : Int32)) hin_140 (g := (mkF m 198 #[.val (.int pp1), .val (.int pp2), .val (.int pp3), .val (.long qq4), .second, .val (.int (2 : Int32)), .val (.int of), .val (.int p0), .val (.int p1), .val (.int p2), .val (.ref b105), .val (.ref b122), .val (.ref b127), .unset, .unset] [(.double (13842939354630062080 : UInt64)), (.int (6 : Int32)), (.ref b127)])) rfl rfl (hb hby at_198)
    have N141 := Fr.snoc X141 N139 g_b127
    have Z141 : n0 ≤ h141.size := Nat.le_trans Z139 (Keep.of_wr W141).1
    have V141 : Arv Z h141 b127 k127 .double (8 : Int32) [(.double (13830554455654793216 : UInt64)), (.double (13835058055282163712 : UInt64)), (.double (13837309855095848960 : UInt64)), (.double (13839561654909534208 : UInt64)), (.double (13840687554816376832 : UInt64)), (.double (13841813454723219456 : UInt64)), (.double (13842939354630062080 : UInt64)), (.double (0 : UInt64))] (.double (0 : UInt64)) := Arv.set Ar_140 qq_140 Sz_140 Nn_140 Hh_140 Gg_140 rfl W141 6 rfl (Nat.le_of_ble_eq_true rfl)
    obtain ⟨cl_142, Ar_142, qq_142, Sz_142, Nn_142, Hh_142, Gg_142⟩ := id V141
    have hin_142 : ¬ ((7 : Int32) < 0 ∨ cl_142.slots.size ≤ ((7 : Int32)).toNatClampNeg) := inb_of Sz_142 ⟨by decide, by decide⟩
    obtain ⟨T143, h143, X143, e143, W143, st143⟩ := stD X141 hx hZ e141 Ar_142 (j := (7 : Int32)) hin_142 (g := (mkF m 206 #[.val (.int pp1), .val (.int pp2), .val (.int pp3), .val (.long qq4), .second, .val (.int (2 : Int32)), .val (.int of), .val (.int p0), .val (.int p1), .val (.int p2), .val (.ref b105), .val (.ref b122), .val (.ref b127), .unset, .unset] [(.double (13844065254536904704 : UInt64)), (.int (7 : Int32)), (.ref b127)])) rfl rfl (hb hby at_206)
    have N143 := Fr.snoc X143 N141 g_b127
    have Z143 : n0 ≤ h143.size := Nat.le_trans Z141 (Keep.of_wr W143).1
    have V143 : Arv Z h143 b127 k127 .double (8 : Int32) [(.double (13830554455654793216 : UInt64)), (.double (13835058055282163712 : UInt64)), (.double (13837309855095848960 : UInt64)), (.double (13839561654909534208 : UInt64)), (.double (13840687554816376832 : UInt64)), (.double (13841813454723219456 : UInt64)), (.double (13842939354630062080 : UInt64)), (.double (13844065254536904704 : UInt64))] (.double (0 : UInt64)) := Arv.set Ar_142 qq_142 Sz_142 Nn_142 Hh_142 Gg_142 rfl W143 7 rfl (Nat.le_of_ble_eq_true rfl)
    have V_144 : Arv Z h143 b122 k122 .int (2 : Int32) [(.int p0), (.int p1)] (.int (0 : Int32)) := (((((((((V126.ext E127).other W129 (Nat.ne_of_lt (Nat.lt_of_lt_of_le V126.lt (Nat.le_of_eq g127.symm)))).other W131 (Nat.ne_of_lt (Nat.lt_of_lt_of_le V126.lt (Nat.le_of_eq g127.symm)))).other W133 (Nat.ne_of_lt (Nat.lt_of_lt_of_le V126.lt (Nat.le_of_eq g127.symm)))).other W135 (Nat.ne_of_lt (Nat.lt_of_lt_of_le V126.lt (Nat.le_of_eq g127.symm)))).other W137 (Nat.ne_of_lt (Nat.lt_of_lt_of_le V126.lt (Nat.le_of_eq g127.symm)))).other W139 (Nat.ne_of_lt (Nat.lt_of_lt_of_le V126.lt (Nat.le_of_eq g127.symm)))).other W141 (Nat.ne_of_lt (Nat.lt_of_lt_of_le V126.lt (Nat.le_of_eq g127.symm)))).other W143 (Nat.ne_of_lt (Nat.lt_of_lt_of_le V126.lt (Nat.le_of_eq g127.symm))))
    have V_145 : Arv Z h143 b105 k105 .double (4 : Int32) [(.double y0), (.double y1), (.double y2), (.double y3)] (.double (0 : UInt64)) := ((((((((((((V121.ext E122).other W124 (Nat.ne_of_lt (Nat.lt_of_lt_of_le V121.lt (Nat.le_of_eq g122.symm)))).other W126 (Nat.ne_of_lt (Nat.lt_of_lt_of_le V121.lt (Nat.le_of_eq g122.symm)))).ext E127).other W129 (Nat.ne_of_lt (Nat.lt_of_lt_of_le (((V121.ext E122).other W124 (Nat.ne_of_lt (Nat.lt_of_lt_of_le V121.lt (Nat.le_of_eq g122.symm)))).other W126 (Nat.ne_of_lt (Nat.lt_of_lt_of_le V121.lt (Nat.le_of_eq g122.symm)))).lt (Nat.le_of_eq g127.symm)))).other W131 (Nat.ne_of_lt (Nat.lt_of_lt_of_le (((V121.ext E122).other W124 (Nat.ne_of_lt (Nat.lt_of_lt_of_le V121.lt (Nat.le_of_eq g122.symm)))).other W126 (Nat.ne_of_lt (Nat.lt_of_lt_of_le V121.lt (Nat.le_of_eq g122.symm)))).lt (Nat.le_of_eq g127.symm)))).other W133 (Nat.ne_of_lt (Nat.lt_of_lt_of_le (((V121.ext E122).other W124 (Nat.ne_of_lt (Nat.lt_of_lt_of_le V121.lt (Nat.le_of_eq g122.symm)))).other W126 (Nat.ne_of_lt (Nat.lt_of_lt_of_le V121.lt (Nat.le_of_eq g122.symm)))).lt (Nat.le_of_eq g127.symm)))).other W135 (Nat.ne_of_lt (Nat.lt_of_lt_of_le (((V121.ext E122).other W124 (Nat.ne_of_lt (Nat.lt_of_lt_of_le V121.lt (Nat.le_of_eq g122.symm)))).other W126 (Nat.ne_of_lt (Nat.lt_of_lt_of_le V121.lt (Nat.le_of_eq g122.symm)))).lt (Nat.le_of_eq g127.symm)))).other W137 (Nat.ne_of_lt (Nat.lt_of_lt_of_le (((V121.ext E122).other W124 (Nat.ne_of_lt (Nat.lt_of_lt_of_le V121.lt (Nat.le_of_eq g122.symm)))).other W126 (Nat.ne_of_lt (Nat.lt_of_lt_of_le V121.lt (Nat.le_of_eq g122.symm)))).lt (Nat.le_of_eq g127.symm)))).other W139 (Nat.ne_of_lt (Nat.lt_of_lt_of_le (((V121.ext E122).other W124 (Nat.ne_of_lt (Nat.lt_of_lt_of_le V121.lt (Nat.le_of_eq g122.symm)))).other W126 (Nat.ne_of_lt (Nat.lt_of_lt_of_le V121.lt (Nat.le_of_eq g122.symm)))).lt (Nat.le_of_eq g127.symm)))).other W141 (Nat.ne_of_lt (Nat.lt_of_lt_of_le (((V121.ext E122).other W124 (Nat.ne_of_lt (Nat.lt_of_lt_of_le V121.lt (Nat.le_of_eq g122.symm)))).other W126 (Nat.ne_of_lt (Nat.lt_of_lt_of_le V121.lt (Nat.le_of_eq g122.symm)))).lt (Nat.le_of_eq g127.symm)))).other W143 (Nat.ne_of_lt (Nat.lt_of_lt_of_le (((V121.ext E122).other W124 (Nat.ne_of_lt (Nat.lt_of_lt_of_le V121.lt (Nat.le_of_eq g122.symm)))).other W126 (Nat.ne_of_lt (Nat.lt_of_lt_of_le V121.lt (Nat.le_of_eq g122.symm)))).lt (Nat.le_of_eq g127.symm))))
    obtain ⟨_, _, ⟨T146, L146, k146, n146⟩, -, X146, ⟨Lc146, hQ146, l146, y146, z146⟩, st146⟩ := Jvm.LawKit.callS X143 hx (y := (⟨"com/example/splitgrain/splitgrain/parse/ChartItems", "gather", "([I[D[DI)[D"⟩ : MethodName)) hown (mvT hZ (hw _ (List.mem_of_getElem? (i := 15) rfl))) (mvT hZ (hw _ (List.mem_of_getElem? (i := 16) rfl))) (mvT hZ (hw _ (List.mem_of_getElem? (i := 17) rfl))) (mvT hZ (hw _ (List.mem_of_getElem? (i := 18) rfl))) (by decide) (backOf (W := 0) (rm1_2 l Z a0 hw [] b122 b105 b127 of k122 k105 k127 [(.double y0), (.double y1), (.double y2), (.double y3)] [(.double (13830554455654793216 : UInt64)), (.double (13835058055282163712 : UInt64)), (.double (13837309855095848960 : UInt64)), (.double (13839561654909534208 : UInt64)), (.double (13840687554816376832 : UInt64)), (.double (13841813454723219456 : UInt64)), (.double (13842939354630062080 : UInt64)), (.double (13844065254536904704 : UInt64))] p0 p1 (own_pick p0 y0 y1 y2 y3) (own_pick p1 y0 y1 y2 y3) h143 n0 Z143 V_144 V_145 V143 g_b127 (Nat.ne_of_lt (Nat.lt_of_lt_of_le V126.lt (Nat.le_of_eq g127.symm))) (Nat.ne_of_lt (Nat.lt_of_lt_of_le (((V121.ext E122).other W124 (Nat.ne_of_lt (Nat.lt_of_lt_of_le V121.lt (Nat.le_of_eq g122.symm)))).other W126 (Nat.ne_of_lt (Nat.lt_of_lt_of_le V121.lt (Nat.le_of_eq g122.symm)))).lt (Nat.le_of_eq g127.symm))) (show ([(.double (13830554455654793216 : UInt64)), (.double (13835058055282163712 : UInt64)), (.double (13837309855095848960 : UInt64)), (.double (13839561654909534208 : UInt64)), (.double (13840687554816376832 : UInt64)), (.double (13841813454723219456 : UInt64)), (.double (13842939354630062080 : UInt64)), (.double (13844065254536904704 : UInt64))] : List Value).length = 8 from rfl) (show ¬ p0 < (0 : Int32) ∧ p0 < (4 : Int32) from h_p0) (show ¬ p1 < (0 : Int32) ∧ p1 < (4 : Int32) from h_p1) (show ([(.double y0), (.double y1), (.double y2), (.double y3)] : List Value).getD (p0).toNatClampNeg (.double (0 : UInt64)) = .double (own_pick p0 y0 y1 y2 y3) from (own_pickAt _ _ _ _ _ h_p0)) (show ([(.double y0), (.double y1), (.double y2), (.double y3)] : List Value).getD (p1).toNatClampNeg (.double (0 : UInt64)) = .double (own_pick p1 y0 y1 y2 y3) from (own_pickAt _ _ _ _ _ h_p1)) (show ¬ (of + (0 : Int32)) < (0 : Int32) ∧ (of + (0 : Int32)) < (8 : Int32) from ho0) (show ¬ (of + (1 : Int32)) < (0 : Int32) ∧ (of + (1 : Int32)) < (8 : Int32) from ho1)) hZ (hw _ (List.mem_of_getElem? (i := 18) rfl)) (hw _ (List.mem_of_getElem? (i := 17) rfl)) (by decide) (by decide)) (g := (mkF m 215 #[.val (.int pp1), .val (.int pp2), .val (.int pp3), .val (.long qq4), .second, .val (.int (2 : Int32)), .val (.int of), .val (.int p0), .val (.int p1), .val (.int p2), .val (.ref b105), .val (.ref b122), .val (.ref b127), .unset, .unset] [(.int of), (.ref b127), (.ref b105), (.ref b122)])) rfl (by rw [hml]; rfl) (argsL := [(.ref b122), (.ref b105), (.ref b127), (.int of)]) (rest := []) (lenOf pd__28__5b_I_5b_D_5b_DI_29__5b_D rfl) rfl (by show 2 * 0 + _ ≤ _; exact Nat.le_of_eq rfl) (hb hby at_215) (fun _ _ => ⟨rfl, e143, (by decide : 3 + 0 ≤ _), (by decide : 14 + 0 ≤ _)⟩)
    dsimp only [Pt.U, Pt.locs, Pt.cells, Pt.slots] at X146 l146 y146 z146 st146 hQ146
    subst y146 z146
    obtain ⟨rfl, N146q, K146c, R146_0⟩ := hQ146
    have N146 : Fr n0 L146 := by rw [l146]; exact Fr.app N143 N146q
    have Z146 : n0 ≤ T146.heap.size := Nat.le_trans Z143 K146c.1
    change Stand _ _ _ _ _ _ _ _ _ _ _ _ 3 14 at X146
    have hc236_3 : ¬ ((1 : Int32) = (0 : Int32)) := by decide
    have V_147 : Arv Z T146.heap b105 k105 .double (4 : Int32) [(.double y0), (.double y1), (.double y2), (.double y3)] (.double (0 : UInt64)) := (V_145.keep K146c (ninS (Nat.ne_of_lt (Nat.lt_of_lt_of_le (((V121.ext E122).other W124 (Nat.ne_of_lt (Nat.lt_of_lt_of_le V121.lt (Nat.le_of_eq g122.symm)))).other W126 (Nat.ne_of_lt (Nat.lt_of_lt_of_le V121.lt (Nat.le_of_eq g122.symm)))).lt (Nat.le_of_eq g127.symm))) nin0))
    obtain ⟨_, _, ⟨T148, L148, k148, n148⟩, -, X148, ⟨Lc148, hQ148, l148, y148, z148⟩, st148⟩ := Jvm.LawKit.callS X146 hx (y := (⟨"com/example/splitgrain/splitgrain/parse/ChartItemsGatherPinLaw", "check", "([DIIIIII[D)Z"⟩ : MethodName)) hown (mvT hZ (hw _ (List.mem_of_getElem? (i := 19) rfl))) (mvT hZ (hw _ (List.mem_of_getElem? (i := 20) rfl))) (mvT hZ (hw _ (List.mem_of_getElem? (i := 21) rfl))) (mvT hZ (hw _ (List.mem_of_getElem? (i := 22) rfl))) (by decide) (backOf (W := 0) (rm2 l Z a0 hw [] b127 (0 : Int32) of (2 : Int32) p0 p1 p2 b105 k127 k105 (List.set (List.set [(.double (13830554455654793216 : UInt64)), (.double (13835058055282163712 : UInt64)), (.double (13837309855095848960 : UInt64)), (.double (13839561654909534208 : UInt64)), (.double (13840687554816376832 : UInt64)), (.double (13841813454723219456 : UInt64)), (.double (13842939354630062080 : UInt64)), (.double (13844065254536904704 : UInt64))] (of + (0 : Int32)).toNatClampNeg (.double (own_pick p0 y0 y1 y2 y3))) (of + (1 : Int32)).toNatClampNeg (.double (own_pick p1 y0 y1 y2 y3))) [(.double y0), (.double y1), (.double y2), (.double y3)] (if (of + (1 : Int32)) = (0 : Int32) then (own_pick p1 y0 y1 y2 y3) else (if (of + (0 : Int32)) = (0 : Int32) then (own_pick p0 y0 y1 y2 y3) else (13830554455654793216 : UInt64))) T146.heap n0 Z146 R146_0 V_147 (show ¬ (0 : Int32) < (0 : Int32) ∧ (0 : Int32) < (8 : Int32) from ⟨by decide, by decide⟩) (show ¬ p0 < (0 : Int32) ∧ p0 < (4 : Int32) from h_p0) (show ¬ p1 < (0 : Int32) ∧ p1 < (4 : Int32) from h_p1) (show ¬ p2 < (0 : Int32) ∧ p2 < (4 : Int32) from h_p2) (show ((List.set (List.set [(.double (13830554455654793216 : UInt64)), (.double (13835058055282163712 : UInt64)), (.double (13837309855095848960 : UInt64)), (.double (13839561654909534208 : UInt64)), (.double (13840687554816376832 : UInt64)), (.double (13841813454723219456 : UInt64)), (.double (13842939354630062080 : UInt64)), (.double (13844065254536904704 : UInt64))] (of + (0 : Int32)).toNatClampNeg (.double (own_pick p0 y0 y1 y2 y3))) (of + (1 : Int32)).toNatClampNeg (.double (own_pick p1 y0 y1 y2 y3))) : List Value).getD ((0 : Int32)).toNatClampNeg (.double (0 : UInt64)) = .double (if (of + (1 : Int32)) = (0 : Int32) then (own_pick p1 y0 y1 y2 y3) else (if (of + (0 : Int32)) = (0 : Int32) then (own_pick p0 y0 y1 y2 y3) else (13830554455654793216 : UInt64))) from (own_gsD (by simp only [List.length_set]; rfl) ho1 ⟨by decide, by decide⟩ (own_gsD rfl ho0 ⟨by decide, by decide⟩ (show ([(.double (13830554455654793216 : UInt64)), (.double (13835058055282163712 : UInt64)), (.double (13837309855095848960 : UInt64)), (.double (13839561654909534208 : UInt64)), (.double (13840687554816376832 : UInt64)), (.double (13841813454723219456 : UInt64)), (.double (13842939354630062080 : UInt64)), (.double (13844065254536904704 : UInt64))] : List Value).getD 0 (.double (0 : UInt64)) = .double (13830554455654793216 : UInt64) from rfl)))) (show Jvm.Free.Fl.NoNaN64 (if (of + (1 : Int32)) = (0 : Int32) then (own_pick p1 y0 y1 y2 y3) else (if (of + (0 : Int32)) = (0 : Int32) then (own_pick p0 y0 y1 y2 y3) else (13830554455654793216 : UInt64))) from (own_ifn (own_pickN h_y0 h_y1 h_y2 h_y3) (own_ifn (own_pickN h_y0 h_y1 h_y2 h_y3) (by unfold Jvm.Free.Fl.NoNaN64; decide)))) (show ((0 : Int32) - of) < (0 : Int32) ∨ ¬ ((0 : Int32) - of) < (2 : Int32) → FP.i2d (-((0 : Int32) + (1 : Int32))) = (if (of + (1 : Int32)) = (0 : Int32) then (own_pick p1 y0 y1 y2 y3) else (if (of + (0 : Int32)) = (0 : Int32) then (own_pick p0 y0 y1 y2 y3) else (13830554455654793216 : UInt64))) from fun h => (show FP.i2d _ = (13830554455654793216 : UInt64) by decide +kernel).trans (own_out2 of _ _ _ _ h)) (show ¬ ((0 : Int32) - of) < (0 : Int32) → ((0 : Int32) - of) < (2 : Int32) → ((0 : Int32) - of) = (0 : Int32) → ([(.double y0), (.double y1), (.double y2), (.double y3)] : List Value).getD (p0).toNatClampNeg (.double (0 : UInt64)) = .double (if (of + (1 : Int32)) = (0 : Int32) then (own_pick p1 y0 y1 y2 y3) else (if (of + (0 : Int32)) = (0 : Int32) then (own_pick p0 y0 y1 y2 y3) else (13830554455654793216 : UInt64))) from fun a b c0 => (own_pickAt _ _ _ _ _ h_p0).trans (congrArg Value.double (own_hit2_0 of _ _ _ _ c0))) (show ¬ ((0 : Int32) - of) < (0 : Int32) → ((0 : Int32) - of) < (2 : Int32) → ¬ ((0 : Int32) - of) = (0 : Int32) → ((0 : Int32) - of) = (1 : Int32) → ([(.double y0), (.double y1), (.double y2), (.double y3)] : List Value).getD (p1).toNatClampNeg (.double (0 : UInt64)) = .double (if (of + (1 : Int32)) = (0 : Int32) then (own_pick p1 y0 y1 y2 y3) else (if (of + (0 : Int32)) = (0 : Int32) then (own_pick p0 y0 y1 y2 y3) else (13830554455654793216 : UInt64))) from fun a b _ c1 => (own_pickAt _ _ _ _ _ h_p1).trans (congrArg Value.double (own_hit2_1 of _ _ _ _ c1))) (show ¬ ((0 : Int32) - of) < (0 : Int32) → ((0 : Int32) - of) < (2 : Int32) → ¬ ((0 : Int32) - of) = (0 : Int32) → ¬ ((0 : Int32) - of) = (1 : Int32) → ([(.double y0), (.double y1), (.double y2), (.double y3)] : List Value).getD (p2).toNatClampNeg (.double (0 : UInt64)) = .double (if (of + (1 : Int32)) = (0 : Int32) then (own_pick p1 y0 y1 y2 y3) else (if (of + (0 : Int32)) = (0 : Int32) then (own_pick p0 y0 y1 y2 y3) else (13830554455654793216 : UInt64))) from fun a b c0 c1 => (own_no2 a b c0 c1).elim)) hZ (hw _ (List.mem_of_getElem? (i := 22) rfl)) (hw _ (List.mem_of_getElem? (i := 21) rfl)) (by decide) (by decide)) (g := (mkF m 254 #[.val (.int pp1), .val (.int pp2), .val (.int pp3), .val (.long qq4), .second, .val (.int (2 : Int32)), .val (.int of), .val (.int p0), .val (.int p1), .val (.int p2), .val (.ref b105), .val (.ref b122), .val (.ref b127), .val (.ref b127), .val (.int (1 : Int32))] [(.ref b105), (.int p2), (.int p1), (.int p0), (.int (2 : Int32)), (.int of), (.int (0 : Int32)), (.ref b127)])) rfl (by rw [hml]; rfl) (argsL := [(.ref b127), (.int (0 : Int32)), (.int of), (.int (2 : Int32)), (.int p0), (.int p1), (.int p2), (.ref b105)]) (rest := []) (lenOf pd__28__5b_DIIIIII_5b_D_29_Z rfl) rfl (by show 2 * 0 + _ ≤ _; exact Nat.le_of_eq rfl) (hb hby at_254) (fun _ _ => ⟨rfl, rfl, (by decide : 3 + 0 ≤ _), (by decide : 14 + 0 ≤ _)⟩)
    dsimp only [Pt.U, Pt.locs, Pt.cells, Pt.slots] at X148 l148 y148 z148 st148 hQ148
    subst y148 z148
    obtain ⟨rfl, N148q, e148⟩ := hQ148
    have N148 : Fr n0 L148 := by rw [l148]; exact Fr.app N146 N148q
    change Stand _ _ _ _ _ _ _ _ _ _ _ _ 3 14 at X148
    have hc257_3 : ¬ ((1 : Int32) = (0 : Int32)) := by decide
    have hc269_3 : ¬ ((1 : Int32) = (0 : Int32)) := by decide
    obtain ⟨_, _, ⟨T149, L149, k149, n149⟩, -, X149, ⟨Lc149, hQ149, l149, y149, z149⟩, st149⟩ := Jvm.LawKit.callS X148 hx (y := (⟨"com/example/splitgrain/splitgrain/parse/ChartItemsGatherPinLaw", "check", "([DIIIIII[D)Z"⟩ : MethodName)) hown (mvT hZ (hw _ (List.mem_of_getElem? (i := 19) rfl))) (mvT hZ (hw _ (List.mem_of_getElem? (i := 20) rfl))) (mvT hZ (hw _ (List.mem_of_getElem? (i := 21) rfl))) (mvT hZ (hw _ (List.mem_of_getElem? (i := 22) rfl))) (by decide) (backOf (W := 0) (rm2 l Z a0 hw [] b127 (1 : Int32) of (2 : Int32) p0 p1 p2 b105 k127 k105 (List.set (List.set [(.double (13830554455654793216 : UInt64)), (.double (13835058055282163712 : UInt64)), (.double (13837309855095848960 : UInt64)), (.double (13839561654909534208 : UInt64)), (.double (13840687554816376832 : UInt64)), (.double (13841813454723219456 : UInt64)), (.double (13842939354630062080 : UInt64)), (.double (13844065254536904704 : UInt64))] (of + (0 : Int32)).toNatClampNeg (.double (own_pick p0 y0 y1 y2 y3))) (of + (1 : Int32)).toNatClampNeg (.double (own_pick p1 y0 y1 y2 y3))) [(.double y0), (.double y1), (.double y2), (.double y3)] (if (of + (1 : Int32)) = (1 : Int32) then (own_pick p1 y0 y1 y2 y3) else (if (of + (0 : Int32)) = (1 : Int32) then (own_pick p0 y0 y1 y2 y3) else (13835058055282163712 : UInt64))) T146.heap n0 Z146 R146_0 V_147 (show ¬ (1 : Int32) < (0 : Int32) ∧ (1 : Int32) < (8 : Int32) from ⟨by decide, by decide⟩) (show ¬ p0 < (0 : Int32) ∧ p0 < (4 : Int32) from h_p0) (show ¬ p1 < (0 : Int32) ∧ p1 < (4 : Int32) from h_p1) (show ¬ p2 < (0 : Int32) ∧ p2 < (4 : Int32) from h_p2) (show ((List.set (List.set [(.double (13830554455654793216 : UInt64)), (.double (13835058055282163712 : UInt64)), (.double (13837309855095848960 : UInt64)), (.double (13839561654909534208 : UInt64)), (.double (13840687554816376832 : UInt64)), (.double (13841813454723219456 : UInt64)), (.double (13842939354630062080 : UInt64)), (.double (13844065254536904704 : UInt64))] (of + (0 : Int32)).toNatClampNeg (.double (own_pick p0 y0 y1 y2 y3))) (of + (1 : Int32)).toNatClampNeg (.double (own_pick p1 y0 y1 y2 y3))) : List Value).getD ((1 : Int32)).toNatClampNeg (.double (0 : UInt64)) = .double (if (of + (1 : Int32)) = (1 : Int32) then (own_pick p1 y0 y1 y2 y3) else (if (of + (0 : Int32)) = (1 : Int32) then (own_pick p0 y0 y1 y2 y3) else (13835058055282163712 : UInt64))) from (own_gsD (by simp only [List.length_set]; rfl) ho1 ⟨by decide, by decide⟩ (own_gsD rfl ho0 ⟨by decide, by decide⟩ (show ([(.double (13830554455654793216 : UInt64)), (.double (13835058055282163712 : UInt64)), (.double (13837309855095848960 : UInt64)), (.double (13839561654909534208 : UInt64)), (.double (13840687554816376832 : UInt64)), (.double (13841813454723219456 : UInt64)), (.double (13842939354630062080 : UInt64)), (.double (13844065254536904704 : UInt64))] : List Value).getD 1 (.double (0 : UInt64)) = .double (13835058055282163712 : UInt64) from rfl)))) (show Jvm.Free.Fl.NoNaN64 (if (of + (1 : Int32)) = (1 : Int32) then (own_pick p1 y0 y1 y2 y3) else (if (of + (0 : Int32)) = (1 : Int32) then (own_pick p0 y0 y1 y2 y3) else (13835058055282163712 : UInt64))) from (own_ifn (own_pickN h_y0 h_y1 h_y2 h_y3) (own_ifn (own_pickN h_y0 h_y1 h_y2 h_y3) (by unfold Jvm.Free.Fl.NoNaN64; decide)))) (show ((1 : Int32) - of) < (0 : Int32) ∨ ¬ ((1 : Int32) - of) < (2 : Int32) → FP.i2d (-((1 : Int32) + (1 : Int32))) = (if (of + (1 : Int32)) = (1 : Int32) then (own_pick p1 y0 y1 y2 y3) else (if (of + (0 : Int32)) = (1 : Int32) then (own_pick p0 y0 y1 y2 y3) else (13835058055282163712 : UInt64))) from fun h => (show FP.i2d _ = (13835058055282163712 : UInt64) by decide +kernel).trans (own_out2 of _ _ _ _ h)) (show ¬ ((1 : Int32) - of) < (0 : Int32) → ((1 : Int32) - of) < (2 : Int32) → ((1 : Int32) - of) = (0 : Int32) → ([(.double y0), (.double y1), (.double y2), (.double y3)] : List Value).getD (p0).toNatClampNeg (.double (0 : UInt64)) = .double (if (of + (1 : Int32)) = (1 : Int32) then (own_pick p1 y0 y1 y2 y3) else (if (of + (0 : Int32)) = (1 : Int32) then (own_pick p0 y0 y1 y2 y3) else (13835058055282163712 : UInt64))) from fun a b c0 => (own_pickAt _ _ _ _ _ h_p0).trans (congrArg Value.double (own_hit2_0 of _ _ _ _ c0))) (show ¬ ((1 : Int32) - of) < (0 : Int32) → ((1 : Int32) - of) < (2 : Int32) → ¬ ((1 : Int32) - of) = (0 : Int32) → ((1 : Int32) - of) = (1 : Int32) → ([(.double y0), (.double y1), (.double y2), (.double y3)] : List Value).getD (p1).toNatClampNeg (.double (0 : UInt64)) = .double (if (of + (1 : Int32)) = (1 : Int32) then (own_pick p1 y0 y1 y2 y3) else (if (of + (0 : Int32)) = (1 : Int32) then (own_pick p0 y0 y1 y2 y3) else (13835058055282163712 : UInt64))) from fun a b _ c1 => (own_pickAt _ _ _ _ _ h_p1).trans (congrArg Value.double (own_hit2_1 of _ _ _ _ c1))) (show ¬ ((1 : Int32) - of) < (0 : Int32) → ((1 : Int32) - of) < (2 : Int32) → ¬ ((1 : Int32) - of) = (0 : Int32) → ¬ ((1 : Int32) - of) = (1 : Int32) → ([(.double y0), (.double y1), (.double y2), (.double y3)] : List Value).getD (p2).toNatClampNeg (.double (0 : UInt64)) = .double (if (of + (1 : Int32)) = (1 : Int32) then (own_pick p1 y0 y1 y2 y3) else (if (of + (0 : Int32)) = (1 : Int32) then (own_pick p0 y0 y1 y2 y3) else (13835058055282163712 : UInt64))) from fun a b c0 c1 => (own_no2 a b c0 c1).elim)) hZ (hw _ (List.mem_of_getElem? (i := 22) rfl)) (hw _ (List.mem_of_getElem? (i := 21) rfl)) (by decide) (by decide)) (g := (mkF m 287 #[.val (.int pp1), .val (.int pp2), .val (.int pp3), .val (.long qq4), .second, .val (.int (2 : Int32)), .val (.int of), .val (.int p0), .val (.int p1), .val (.int p2), .val (.ref b105), .val (.ref b122), .val (.ref b127), .val (.ref b127), .val (.int (1 : Int32))] [(.ref b105), (.int p2), (.int p1), (.int p0), (.int (2 : Int32)), (.int of), (.int (1 : Int32)), (.ref b127)])) rfl (by rw [hml]; rfl) (argsL := [(.ref b127), (.int (1 : Int32)), (.int of), (.int (2 : Int32)), (.int p0), (.int p1), (.int p2), (.ref b105)]) (rest := []) (lenOf pd__28__5b_DIIIIII_5b_D_29_Z rfl) rfl (by show 2 * 0 + _ ≤ _; exact Nat.le_of_eq rfl) (hb hby at_287) (fun _ _ => ⟨rfl, e148, (by decide : 3 + 0 ≤ _), (by decide : 14 + 0 ≤ _)⟩)
    dsimp only [Pt.U, Pt.locs, Pt.cells, Pt.slots] at X149 l149 y149 z149 st149 hQ149
    subst y149 z149
    obtain ⟨rfl, N149q, e149⟩ := hQ149
    have N149 : Fr n0 L149 := by rw [l149]; exact Fr.app N148 N149q
    change Stand _ _ _ _ _ _ _ _ _ _ _ _ 3 14 at X149
    have hc290_3 : ¬ ((1 : Int32) = (0 : Int32)) := by decide
    have hc302_3 : ¬ ((1 : Int32) = (0 : Int32)) := by decide
    obtain ⟨_, _, ⟨T150, L150, k150, n150⟩, -, X150, ⟨Lc150, hQ150, l150, y150, z150⟩, st150⟩ := Jvm.LawKit.callS X149 hx (y := (⟨"com/example/splitgrain/splitgrain/parse/ChartItemsGatherPinLaw", "check", "([DIIIIII[D)Z"⟩ : MethodName)) hown (mvT hZ (hw _ (List.mem_of_getElem? (i := 19) rfl))) (mvT hZ (hw _ (List.mem_of_getElem? (i := 20) rfl))) (mvT hZ (hw _ (List.mem_of_getElem? (i := 21) rfl))) (mvT hZ (hw _ (List.mem_of_getElem? (i := 22) rfl))) (by decide) (backOf (W := 0) (rm2 l Z a0 hw [] b127 (2 : Int32) of (2 : Int32) p0 p1 p2 b105 k127 k105 (List.set (List.set [(.double (13830554455654793216 : UInt64)), (.double (13835058055282163712 : UInt64)), (.double (13837309855095848960 : UInt64)), (.double (13839561654909534208 : UInt64)), (.double (13840687554816376832 : UInt64)), (.double (13841813454723219456 : UInt64)), (.double (13842939354630062080 : UInt64)), (.double (13844065254536904704 : UInt64))] (of + (0 : Int32)).toNatClampNeg (.double (own_pick p0 y0 y1 y2 y3))) (of + (1 : Int32)).toNatClampNeg (.double (own_pick p1 y0 y1 y2 y3))) [(.double y0), (.double y1), (.double y2), (.double y3)] (if (of + (1 : Int32)) = (2 : Int32) then (own_pick p1 y0 y1 y2 y3) else (if (of + (0 : Int32)) = (2 : Int32) then (own_pick p0 y0 y1 y2 y3) else (13837309855095848960 : UInt64))) T146.heap n0 Z146 R146_0 V_147 (show ¬ (2 : Int32) < (0 : Int32) ∧ (2 : Int32) < (8 : Int32) from ⟨by decide, by decide⟩) (show ¬ p0 < (0 : Int32) ∧ p0 < (4 : Int32) from h_p0) (show ¬ p1 < (0 : Int32) ∧ p1 < (4 : Int32) from h_p1) (show ¬ p2 < (0 : Int32) ∧ p2 < (4 : Int32) from h_p2) (show ((List.set (List.set [(.double (13830554455654793216 : UInt64)), (.double (13835058055282163712 : UInt64)), (.double (13837309855095848960 : UInt64)), (.double (13839561654909534208 : UInt64)), (.double (13840687554816376832 : UInt64)), (.double (13841813454723219456 : UInt64)), (.double (13842939354630062080 : UInt64)), (.double (13844065254536904704 : UInt64))] (of + (0 : Int32)).toNatClampNeg (.double (own_pick p0 y0 y1 y2 y3))) (of + (1 : Int32)).toNatClampNeg (.double (own_pick p1 y0 y1 y2 y3))) : List Value).getD ((2 : Int32)).toNatClampNeg (.double (0 : UInt64)) = .double (if (of + (1 : Int32)) = (2 : Int32) then (own_pick p1 y0 y1 y2 y3) else (if (of + (0 : Int32)) = (2 : Int32) then (own_pick p0 y0 y1 y2 y3) else (13837309855095848960 : UInt64))) from (own_gsD (by simp only [List.length_set]; rfl) ho1 ⟨by decide, by decide⟩ (own_gsD rfl ho0 ⟨by decide, by decide⟩ (show ([(.double (13830554455654793216 : UInt64)), (.double (13835058055282163712 : UInt64)), (.double (13837309855095848960 : UInt64)), (.double (13839561654909534208 : UInt64)), (.double (13840687554816376832 : UInt64)), (.double (13841813454723219456 : UInt64)), (.double (13842939354630062080 : UInt64)), (.double (13844065254536904704 : UInt64))] : List Value).getD 2 (.double (0 : UInt64)) = .double (13837309855095848960 : UInt64) from rfl)))) (show Jvm.Free.Fl.NoNaN64 (if (of + (1 : Int32)) = (2 : Int32) then (own_pick p1 y0 y1 y2 y3) else (if (of + (0 : Int32)) = (2 : Int32) then (own_pick p0 y0 y1 y2 y3) else (13837309855095848960 : UInt64))) from (own_ifn (own_pickN h_y0 h_y1 h_y2 h_y3) (own_ifn (own_pickN h_y0 h_y1 h_y2 h_y3) (by unfold Jvm.Free.Fl.NoNaN64; decide)))) (show ((2 : Int32) - of) < (0 : Int32) ∨ ¬ ((2 : Int32) - of) < (2 : Int32) → FP.i2d (-((2 : Int32) + (1 : Int32))) = (if (of + (1 : Int32)) = (2 : Int32) then (own_pick p1 y0 y1 y2 y3) else (if (of + (0 : Int32)) = (2 : Int32) then (own_pick p0 y0 y1 y2 y3) else (13837309855095848960 : UInt64))) from fun h => (show FP.i2d _ = (13837309855095848960 : UInt64) by decide +kernel).trans (own_out2 of _ _ _ _ h)) (show ¬ ((2 : Int32) - of) < (0 : Int32) → ((2 : Int32) - of) < (2 : Int32) → ((2 : Int32) - of) = (0 : Int32) → ([(.double y0), (.double y1), (.double y2), (.double y3)] : List Value).getD (p0).toNatClampNeg (.double (0 : UInt64)) = .double (if (of + (1 : Int32)) = (2 : Int32) then (own_pick p1 y0 y1 y2 y3) else (if (of + (0 : Int32)) = (2 : Int32) then (own_pick p0 y0 y1 y2 y3) else (13837309855095848960 : UInt64))) from fun a b c0 => (own_pickAt _ _ _ _ _ h_p0).trans (congrArg Value.double (own_hit2_0 of _ _ _ _ c0))) (show ¬ ((2 : Int32) - of) < (0 : Int32) → ((2 : Int32) - of) < (2 : Int32) → ¬ ((2 : Int32) - of) = (0 : Int32) → ((2 : Int32) - of) = (1 : Int32) → ([(.double y0), (.double y1), (.double y2), (.double y3)] : List Value).getD (p1).toNatClampNeg (.double (0 : UInt64)) = .double (if (of + (1 : Int32)) = (2 : Int32) then (own_pick p1 y0 y1 y2 y3) else (if (of + (0 : Int32)) = (2 : Int32) then (own_pick p0 y0 y1 y2 y3) else (13837309855095848960 : UInt64))) from fun a b _ c1 => (own_pickAt _ _ _ _ _ h_p1).trans (congrArg Value.double (own_hit2_1 of _ _ _ _ c1))) (show ¬ ((2 : Int32) - of) < (0 : Int32) → ((2 : Int32) - of) < (2 : Int32) → ¬ ((2 : Int32) - of) = (0 : Int32) → ¬ ((2 : Int32) - of) = (1 : Int32) → ([(.double y0), (.double y1), (.double y2), (.double y3)] : List Value).getD (p2).toNatClampNeg (.double (0 : UInt64)) = .double (if (of + (1 : Int32)) = (2 : Int32) then (own_pick p1 y0 y1 y2 y3) else (if (of + (0 : Int32)) = (2 : Int32) then (own_pick p0 y0 y1 y2 y3) else (13837309855095848960 : UInt64))) from fun a b c0 c1 => (own_no2 a b c0 c1).elim)) hZ (hw _ (List.mem_of_getElem? (i := 22) rfl)) (hw _ (List.mem_of_getElem? (i := 21) rfl)) (by decide) (by decide)) (g := (mkF m 320 #[.val (.int pp1), .val (.int pp2), .val (.int pp3), .val (.long qq4), .second, .val (.int (2 : Int32)), .val (.int of), .val (.int p0), .val (.int p1), .val (.int p2), .val (.ref b105), .val (.ref b122), .val (.ref b127), .val (.ref b127), .val (.int (1 : Int32))] [(.ref b105), (.int p2), (.int p1), (.int p0), (.int (2 : Int32)), (.int of), (.int (2 : Int32)), (.ref b127)])) rfl (by rw [hml]; rfl) (argsL := [(.ref b127), (.int (2 : Int32)), (.int of), (.int (2 : Int32)), (.int p0), (.int p1), (.int p2), (.ref b105)]) (rest := []) (lenOf pd__28__5b_DIIIIII_5b_D_29_Z rfl) rfl (by show 2 * 0 + _ ≤ _; exact Nat.le_of_eq rfl) (hb hby at_320) (fun _ _ => ⟨rfl, e149, (by decide : 3 + 0 ≤ _), (by decide : 14 + 0 ≤ _)⟩)
    dsimp only [Pt.U, Pt.locs, Pt.cells, Pt.slots] at X150 l150 y150 z150 st150 hQ150
    subst y150 z150
    obtain ⟨rfl, N150q, e150⟩ := hQ150
    have N150 : Fr n0 L150 := by rw [l150]; exact Fr.app N149 N150q
    change Stand _ _ _ _ _ _ _ _ _ _ _ _ 3 14 at X150
    have hc323_3 : ¬ ((1 : Int32) = (0 : Int32)) := by decide
    have hc335_3 : ¬ ((1 : Int32) = (0 : Int32)) := by decide
    obtain ⟨_, _, ⟨T151, L151, k151, n151⟩, -, X151, ⟨Lc151, hQ151, l151, y151, z151⟩, st151⟩ := Jvm.LawKit.callS X150 hx (y := (⟨"com/example/splitgrain/splitgrain/parse/ChartItemsGatherPinLaw", "check", "([DIIIIII[D)Z"⟩ : MethodName)) hown (mvT hZ (hw _ (List.mem_of_getElem? (i := 19) rfl))) (mvT hZ (hw _ (List.mem_of_getElem? (i := 20) rfl))) (mvT hZ (hw _ (List.mem_of_getElem? (i := 21) rfl))) (mvT hZ (hw _ (List.mem_of_getElem? (i := 22) rfl))) (by decide) (backOf (W := 0) (rm2 l Z a0 hw [] b127 (3 : Int32) of (2 : Int32) p0 p1 p2 b105 k127 k105 (List.set (List.set [(.double (13830554455654793216 : UInt64)), (.double (13835058055282163712 : UInt64)), (.double (13837309855095848960 : UInt64)), (.double (13839561654909534208 : UInt64)), (.double (13840687554816376832 : UInt64)), (.double (13841813454723219456 : UInt64)), (.double (13842939354630062080 : UInt64)), (.double (13844065254536904704 : UInt64))] (of + (0 : Int32)).toNatClampNeg (.double (own_pick p0 y0 y1 y2 y3))) (of + (1 : Int32)).toNatClampNeg (.double (own_pick p1 y0 y1 y2 y3))) [(.double y0), (.double y1), (.double y2), (.double y3)] (if (of + (1 : Int32)) = (3 : Int32) then (own_pick p1 y0 y1 y2 y3) else (if (of + (0 : Int32)) = (3 : Int32) then (own_pick p0 y0 y1 y2 y3) else (13839561654909534208 : UInt64))) T146.heap n0 Z146 R146_0 V_147 (show ¬ (3 : Int32) < (0 : Int32) ∧ (3 : Int32) < (8 : Int32) from ⟨by decide, by decide⟩) (show ¬ p0 < (0 : Int32) ∧ p0 < (4 : Int32) from h_p0) (show ¬ p1 < (0 : Int32) ∧ p1 < (4 : Int32) from h_p1) (show ¬ p2 < (0 : Int32) ∧ p2 < (4 : Int32) from h_p2) (show ((List.set (List.set [(.double (13830554455654793216 : UInt64)), (.double (13835058055282163712 : UInt64)), (.double (13837309855095848960 : UInt64)), (.double (13839561654909534208 : UInt64)), (.double (13840687554816376832 : UInt64)), (.double (13841813454723219456 : UInt64)), (.double (13842939354630062080 : UInt64)), (.double (13844065254536904704 : UInt64))] (of + (0 : Int32)).toNatClampNeg (.double (own_pick p0 y0 y1 y2 y3))) (of + (1 : Int32)).toNatClampNeg (.double (own_pick p1 y0 y1 y2 y3))) : List Value).getD ((3 : Int32)).toNatClampNeg (.double (0 : UInt64)) = .double (if (of + (1 : Int32)) = (3 : Int32) then (own_pick p1 y0 y1 y2 y3) else (if (of + (0 : Int32)) = (3 : Int32) then (own_pick p0 y0 y1 y2 y3) else (13839561654909534208 : UInt64))) from (own_gsD (by simp only [List.length_set]; rfl) ho1 ⟨by decide, by decide⟩ (own_gsD rfl ho0 ⟨by decide, by decide⟩ (show ([(.double (13830554455654793216 : UInt64)), (.double (13835058055282163712 : UInt64)), (.double (13837309855095848960 : UInt64)), (.double (13839561654909534208 : UInt64)), (.double (13840687554816376832 : UInt64)), (.double (13841813454723219456 : UInt64)), (.double (13842939354630062080 : UInt64)), (.double (13844065254536904704 : UInt64))] : List Value).getD 3 (.double (0 : UInt64)) = .double (13839561654909534208 : UInt64) from rfl)))) (show Jvm.Free.Fl.NoNaN64 (if (of + (1 : Int32)) = (3 : Int32) then (own_pick p1 y0 y1 y2 y3) else (if (of + (0 : Int32)) = (3 : Int32) then (own_pick p0 y0 y1 y2 y3) else (13839561654909534208 : UInt64))) from (own_ifn (own_pickN h_y0 h_y1 h_y2 h_y3) (own_ifn (own_pickN h_y0 h_y1 h_y2 h_y3) (by unfold Jvm.Free.Fl.NoNaN64; decide)))) (show ((3 : Int32) - of) < (0 : Int32) ∨ ¬ ((3 : Int32) - of) < (2 : Int32) → FP.i2d (-((3 : Int32) + (1 : Int32))) = (if (of + (1 : Int32)) = (3 : Int32) then (own_pick p1 y0 y1 y2 y3) else (if (of + (0 : Int32)) = (3 : Int32) then (own_pick p0 y0 y1 y2 y3) else (13839561654909534208 : UInt64))) from fun h => (show FP.i2d _ = (13839561654909534208 : UInt64) by decide +kernel).trans (own_out2 of _ _ _ _ h)) (show ¬ ((3 : Int32) - of) < (0 : Int32) → ((3 : Int32) - of) < (2 : Int32) → ((3 : Int32) - of) = (0 : Int32) → ([(.double y0), (.double y1), (.double y2), (.double y3)] : List Value).getD (p0).toNatClampNeg (.double (0 : UInt64)) = .double (if (of + (1 : Int32)) = (3 : Int32) then (own_pick p1 y0 y1 y2 y3) else (if (of + (0 : Int32)) = (3 : Int32) then (own_pick p0 y0 y1 y2 y3) else (13839561654909534208 : UInt64))) from fun a b c0 => (own_pickAt _ _ _ _ _ h_p0).trans (congrArg Value.double (own_hit2_0 of _ _ _ _ c0))) (show ¬ ((3 : Int32) - of) < (0 : Int32) → ((3 : Int32) - of) < (2 : Int32) → ¬ ((3 : Int32) - of) = (0 : Int32) → ((3 : Int32) - of) = (1 : Int32) → ([(.double y0), (.double y1), (.double y2), (.double y3)] : List Value).getD (p1).toNatClampNeg (.double (0 : UInt64)) = .double (if (of + (1 : Int32)) = (3 : Int32) then (own_pick p1 y0 y1 y2 y3) else (if (of + (0 : Int32)) = (3 : Int32) then (own_pick p0 y0 y1 y2 y3) else (13839561654909534208 : UInt64))) from fun a b _ c1 => (own_pickAt _ _ _ _ _ h_p1).trans (congrArg Value.double (own_hit2_1 of _ _ _ _ c1))) (show ¬ ((3 : Int32) - of) < (0 : Int32) → ((3 : Int32) - of) < (2 : Int32) → ¬ ((3 : Int32) - of) = (0 : Int32) → ¬ ((3 : Int32) - of) = (1 : Int32) → ([(.double y0), (.double y1), (.double y2), (.double y3)] : List Value).getD (p2).toNatClampNeg (.double (0 : UInt64)) = .double (if (of + (1 : Int32)) = (3 : Int32) then (own_pick p1 y0 y1 y2 y3) else (if (of + (0 : Int32)) = (3 : Int32) then (own_pick p0 y0 y1 y2 y3) else (13839561654909534208 : UInt64))) from fun a b c0 c1 => (own_no2 a b c0 c1).elim)) hZ (hw _ (List.mem_of_getElem? (i := 22) rfl)) (hw _ (List.mem_of_getElem? (i := 21) rfl)) (by decide) (by decide)) (g := (mkF m 353 #[.val (.int pp1), .val (.int pp2), .val (.int pp3), .val (.long qq4), .second, .val (.int (2 : Int32)), .val (.int of), .val (.int p0), .val (.int p1), .val (.int p2), .val (.ref b105), .val (.ref b122), .val (.ref b127), .val (.ref b127), .val (.int (1 : Int32))] [(.ref b105), (.int p2), (.int p1), (.int p0), (.int (2 : Int32)), (.int of), (.int (3 : Int32)), (.ref b127)])) rfl (by rw [hml]; rfl) (argsL := [(.ref b127), (.int (3 : Int32)), (.int of), (.int (2 : Int32)), (.int p0), (.int p1), (.int p2), (.ref b105)]) (rest := []) (lenOf pd__28__5b_DIIIIII_5b_D_29_Z rfl) rfl (by show 2 * 0 + _ ≤ _; exact Nat.le_of_eq rfl) (hb hby at_353) (fun _ _ => ⟨rfl, e150, (by decide : 3 + 0 ≤ _), (by decide : 14 + 0 ≤ _)⟩)
    dsimp only [Pt.U, Pt.locs, Pt.cells, Pt.slots] at X151 l151 y151 z151 st151 hQ151
    subst y151 z151
    obtain ⟨rfl, N151q, e151⟩ := hQ151
    have N151 : Fr n0 L151 := by rw [l151]; exact Fr.app N150 N151q
    change Stand _ _ _ _ _ _ _ _ _ _ _ _ 3 14 at X151
    have hc356_3 : ¬ ((1 : Int32) = (0 : Int32)) := by decide
    have hc368_3 : ¬ ((1 : Int32) = (0 : Int32)) := by decide
    obtain ⟨_, _, ⟨T152, L152, k152, n152⟩, -, X152, ⟨Lc152, hQ152, l152, y152, z152⟩, st152⟩ := Jvm.LawKit.callS X151 hx (y := (⟨"com/example/splitgrain/splitgrain/parse/ChartItemsGatherPinLaw", "check", "([DIIIIII[D)Z"⟩ : MethodName)) hown (mvT hZ (hw _ (List.mem_of_getElem? (i := 19) rfl))) (mvT hZ (hw _ (List.mem_of_getElem? (i := 20) rfl))) (mvT hZ (hw _ (List.mem_of_getElem? (i := 21) rfl))) (mvT hZ (hw _ (List.mem_of_getElem? (i := 22) rfl))) (by decide) (backOf (W := 0) (rm2 l Z a0 hw [] b127 (4 : Int32) of (2 : Int32) p0 p1 p2 b105 k127 k105 (List.set (List.set [(.double (13830554455654793216 : UInt64)), (.double (13835058055282163712 : UInt64)), (.double (13837309855095848960 : UInt64)), (.double (13839561654909534208 : UInt64)), (.double (13840687554816376832 : UInt64)), (.double (13841813454723219456 : UInt64)), (.double (13842939354630062080 : UInt64)), (.double (13844065254536904704 : UInt64))] (of + (0 : Int32)).toNatClampNeg (.double (own_pick p0 y0 y1 y2 y3))) (of + (1 : Int32)).toNatClampNeg (.double (own_pick p1 y0 y1 y2 y3))) [(.double y0), (.double y1), (.double y2), (.double y3)] (if (of + (1 : Int32)) = (4 : Int32) then (own_pick p1 y0 y1 y2 y3) else (if (of + (0 : Int32)) = (4 : Int32) then (own_pick p0 y0 y1 y2 y3) else (13840687554816376832 : UInt64))) T146.heap n0 Z146 R146_0 V_147 (show ¬ (4 : Int32) < (0 : Int32) ∧ (4 : Int32) < (8 : Int32) from ⟨by decide, by decide⟩) (show ¬ p0 < (0 : Int32) ∧ p0 < (4 : Int32) from h_p0) (show ¬ p1 < (0 : Int32) ∧ p1 < (4 : Int32) from h_p1) (show ¬ p2 < (0 : Int32) ∧ p2 < (4 : Int32) from h_p2) (show ((List.set (List.set [(.double (13830554455654793216 : UInt64)), (.double (13835058055282163712 : UInt64)), (.double (13837309855095848960 : UInt64)), (.double (13839561654909534208 : UInt64)), (.double (13840687554816376832 : UInt64)), (.double (13841813454723219456 : UInt64)), (.double (13842939354630062080 : UInt64)), (.double (13844065254536904704 : UInt64))] (of + (0 : Int32)).toNatClampNeg (.double (own_pick p0 y0 y1 y2 y3))) (of + (1 : Int32)).toNatClampNeg (.double (own_pick p1 y0 y1 y2 y3))) : List Value).getD ((4 : Int32)).toNatClampNeg (.double (0 : UInt64)) = .double (if (of + (1 : Int32)) = (4 : Int32) then (own_pick p1 y0 y1 y2 y3) else (if (of + (0 : Int32)) = (4 : Int32) then (own_pick p0 y0 y1 y2 y3) else (13840687554816376832 : UInt64))) from (own_gsD (by simp only [List.length_set]; rfl) ho1 ⟨by decide, by decide⟩ (own_gsD rfl ho0 ⟨by decide, by decide⟩ (show ([(.double (13830554455654793216 : UInt64)), (.double (13835058055282163712 : UInt64)), (.double (13837309855095848960 : UInt64)), (.double (13839561654909534208 : UInt64)), (.double (13840687554816376832 : UInt64)), (.double (13841813454723219456 : UInt64)), (.double (13842939354630062080 : UInt64)), (.double (13844065254536904704 : UInt64))] : List Value).getD 4 (.double (0 : UInt64)) = .double (13840687554816376832 : UInt64) from rfl)))) (show Jvm.Free.Fl.NoNaN64 (if (of + (1 : Int32)) = (4 : Int32) then (own_pick p1 y0 y1 y2 y3) else (if (of + (0 : Int32)) = (4 : Int32) then (own_pick p0 y0 y1 y2 y3) else (13840687554816376832 : UInt64))) from (own_ifn (own_pickN h_y0 h_y1 h_y2 h_y3) (own_ifn (own_pickN h_y0 h_y1 h_y2 h_y3) (by unfold Jvm.Free.Fl.NoNaN64; decide)))) (show ((4 : Int32) - of) < (0 : Int32) ∨ ¬ ((4 : Int32) - of) < (2 : Int32) → FP.i2d (-((4 : Int32) + (1 : Int32))) = (if (of + (1 : Int32)) = (4 : Int32) then (own_pick p1 y0 y1 y2 y3) else (if (of + (0 : Int32)) = (4 : Int32) then (own_pick p0 y0 y1 y2 y3) else (13840687554816376832 : UInt64))) from fun h => (show FP.i2d _ = (13840687554816376832 : UInt64) by decide +kernel).trans (own_out2 of _ _ _ _ h)) (show ¬ ((4 : Int32) - of) < (0 : Int32) → ((4 : Int32) - of) < (2 : Int32) → ((4 : Int32) - of) = (0 : Int32) → ([(.double y0), (.double y1), (.double y2), (.double y3)] : List Value).getD (p0).toNatClampNeg (.double (0 : UInt64)) = .double (if (of + (1 : Int32)) = (4 : Int32) then (own_pick p1 y0 y1 y2 y3) else (if (of + (0 : Int32)) = (4 : Int32) then (own_pick p0 y0 y1 y2 y3) else (13840687554816376832 : UInt64))) from fun a b c0 => (own_pickAt _ _ _ _ _ h_p0).trans (congrArg Value.double (own_hit2_0 of _ _ _ _ c0))) (show ¬ ((4 : Int32) - of) < (0 : Int32) → ((4 : Int32) - of) < (2 : Int32) → ¬ ((4 : Int32) - of) = (0 : Int32) → ((4 : Int32) - of) = (1 : Int32) → ([(.double y0), (.double y1), (.double y2), (.double y3)] : List Value).getD (p1).toNatClampNeg (.double (0 : UInt64)) = .double (if (of + (1 : Int32)) = (4 : Int32) then (own_pick p1 y0 y1 y2 y3) else (if (of + (0 : Int32)) = (4 : Int32) then (own_pick p0 y0 y1 y2 y3) else (13840687554816376832 : UInt64))) from fun a b _ c1 => (own_pickAt _ _ _ _ _ h_p1).trans (congrArg Value.double (own_hit2_1 of _ _ _ _ c1))) (show ¬ ((4 : Int32) - of) < (0 : Int32) → ((4 : Int32) - of) < (2 : Int32) → ¬ ((4 : Int32) - of) = (0 : Int32) → ¬ ((4 : Int32) - of) = (1 : Int32) → ([(.double y0), (.double y1), (.double y2), (.double y3)] : List Value).getD (p2).toNatClampNeg (.double (0 : UInt64)) = .double (if (of + (1 : Int32)) = (4 : Int32) then (own_pick p1 y0 y1 y2 y3) else (if (of + (0 : Int32)) = (4 : Int32) then (own_pick p0 y0 y1 y2 y3) else (13840687554816376832 : UInt64))) from fun a b c0 c1 => (own_no2 a b c0 c1).elim)) hZ (hw _ (List.mem_of_getElem? (i := 22) rfl)) (hw _ (List.mem_of_getElem? (i := 21) rfl)) (by decide) (by decide)) (g := (mkF m 386 #[.val (.int pp1), .val (.int pp2), .val (.int pp3), .val (.long qq4), .second, .val (.int (2 : Int32)), .val (.int of), .val (.int p0), .val (.int p1), .val (.int p2), .val (.ref b105), .val (.ref b122), .val (.ref b127), .val (.ref b127), .val (.int (1 : Int32))] [(.ref b105), (.int p2), (.int p1), (.int p0), (.int (2 : Int32)), (.int of), (.int (4 : Int32)), (.ref b127)])) rfl (by rw [hml]; rfl) (argsL := [(.ref b127), (.int (4 : Int32)), (.int of), (.int (2 : Int32)), (.int p0), (.int p1), (.int p2), (.ref b105)]) (rest := []) (lenOf pd__28__5b_DIIIIII_5b_D_29_Z rfl) rfl (by show 2 * 0 + _ ≤ _; exact Nat.le_of_eq rfl) (hb hby at_386) (fun _ _ => ⟨rfl, e151, (by decide : 3 + 0 ≤ _), (by decide : 14 + 0 ≤ _)⟩)
    dsimp only [Pt.U, Pt.locs, Pt.cells, Pt.slots] at X152 l152 y152 z152 st152 hQ152
    subst y152 z152
    obtain ⟨rfl, N152q, e152⟩ := hQ152
    have N152 : Fr n0 L152 := by rw [l152]; exact Fr.app N151 N152q
    change Stand _ _ _ _ _ _ _ _ _ _ _ _ 3 14 at X152
    have hc389_3 : ¬ ((1 : Int32) = (0 : Int32)) := by decide
    have hc401_3 : ¬ ((1 : Int32) = (0 : Int32)) := by decide
    obtain ⟨_, _, ⟨T153, L153, k153, n153⟩, -, X153, ⟨Lc153, hQ153, l153, y153, z153⟩, st153⟩ := Jvm.LawKit.callS X152 hx (y := (⟨"com/example/splitgrain/splitgrain/parse/ChartItemsGatherPinLaw", "check", "([DIIIIII[D)Z"⟩ : MethodName)) hown (mvT hZ (hw _ (List.mem_of_getElem? (i := 19) rfl))) (mvT hZ (hw _ (List.mem_of_getElem? (i := 20) rfl))) (mvT hZ (hw _ (List.mem_of_getElem? (i := 21) rfl))) (mvT hZ (hw _ (List.mem_of_getElem? (i := 22) rfl))) (by decide) (backOf (W := 0) (rm2 l Z a0 hw [] b127 (5 : Int32) of (2 : Int32) p0 p1 p2 b105 k127 k105 (List.set (List.set [(.double (13830554455654793216 : UInt64)), (.double (13835058055282163712 : UInt64)), (.double (13837309855095848960 : UInt64)), (.double (13839561654909534208 : UInt64)), (.double (13840687554816376832 : UInt64)), (.double (13841813454723219456 : UInt64)), (.double (13842939354630062080 : UInt64)), (.double (13844065254536904704 : UInt64))] (of + (0 : Int32)).toNatClampNeg (.double (own_pick p0 y0 y1 y2 y3))) (of + (1 : Int32)).toNatClampNeg (.double (own_pick p1 y0 y1 y2 y3))) [(.double y0), (.double y1), (.double y2), (.double y3)] (if (of + (1 : Int32)) = (5 : Int32) then (own_pick p1 y0 y1 y2 y3) else (if (of + (0 : Int32)) = (5 : Int32) then (own_pick p0 y0 y1 y2 y3) else (13841813454723219456 : UInt64))) T146.heap n0 Z146 R146_0 V_147 (show ¬ (5 : Int32) < (0 : Int32) ∧ (5 : Int32) < (8 : Int32) from ⟨by decide, by decide⟩) (show ¬ p0 < (0 : Int32) ∧ p0 < (4 : Int32) from h_p0) (show ¬ p1 < (0 : Int32) ∧ p1 < (4 : Int32) from h_p1) (show ¬ p2 < (0 : Int32) ∧ p2 < (4 : Int32) from h_p2) (show ((List.set (List.set [(.double (13830554455654793216 : UInt64)), (.double (13835058055282163712 : UInt64)), (.double (13837309855095848960 : UInt64)), (.double (13839561654909534208 : UInt64)), (.double (13840687554816376832 : UInt64)), (.double (13841813454723219456 : UInt64)), (.double (13842939354630062080 : UInt64)), (.double (13844065254536904704 : UInt64))] (of + (0 : Int32)).toNatClampNeg (.double (own_pick p0 y0 y1 y2 y3))) (of + (1 : Int32)).toNatClampNeg (.double (own_pick p1 y0 y1 y2 y3))) : List Value).getD ((5 : Int32)).toNatClampNeg (.double (0 : UInt64)) = .double (if (of + (1 : Int32)) = (5 : Int32) then (own_pick p1 y0 y1 y2 y3) else (if (of + (0 : Int32)) = (5 : Int32) then (own_pick p0 y0 y1 y2 y3) else (13841813454723219456 : UInt64))) from (own_gsD (by simp only [List.length_set]; rfl) ho1 ⟨by decide, by decide⟩ (own_gsD rfl ho0 ⟨by decide, by decide⟩ (show ([(.double (13830554455654793216 : UInt64)), (.double (13835058055282163712 : UInt64)), (.double (13837309855095848960 : UInt64)), (.double (13839561654909534208 : UInt64)), (.double (13840687554816376832 : UInt64)), (.double (13841813454723219456 : UInt64)), (.double (13842939354630062080 : UInt64)), (.double (13844065254536904704 : UInt64))] : List Value).getD 5 (.double (0 : UInt64)) = .double (13841813454723219456 : UInt64) from rfl)))) (show Jvm.Free.Fl.NoNaN64 (if (of + (1 : Int32)) = (5 : Int32) then (own_pick p1 y0 y1 y2 y3) else (if (of + (0 : Int32)) = (5 : Int32) then (own_pick p0 y0 y1 y2 y3) else (13841813454723219456 : UInt64))) from (own_ifn (own_pickN h_y0 h_y1 h_y2 h_y3) (own_ifn (own_pickN h_y0 h_y1 h_y2 h_y3) (by unfold Jvm.Free.Fl.NoNaN64; decide)))) (show ((5 : Int32) - of) < (0 : Int32) ∨ ¬ ((5 : Int32) - of) < (2 : Int32) → FP.i2d (-((5 : Int32) + (1 : Int32))) = (if (of + (1 : Int32)) = (5 : Int32) then (own_pick p1 y0 y1 y2 y3) else (if (of + (0 : Int32)) = (5 : Int32) then (own_pick p0 y0 y1 y2 y3) else (13841813454723219456 : UInt64))) from fun h => (show FP.i2d _ = (13841813454723219456 : UInt64) by decide +kernel).trans (own_out2 of _ _ _ _ h)) (show ¬ ((5 : Int32) - of) < (0 : Int32) → ((5 : Int32) - of) < (2 : Int32) → ((5 : Int32) - of) = (0 : Int32) → ([(.double y0), (.double y1), (.double y2), (.double y3)] : List Value).getD (p0).toNatClampNeg (.double (0 : UInt64)) = .double (if (of + (1 : Int32)) = (5 : Int32) then (own_pick p1 y0 y1 y2 y3) else (if (of + (0 : Int32)) = (5 : Int32) then (own_pick p0 y0 y1 y2 y3) else (13841813454723219456 : UInt64))) from fun a b c0 => (own_pickAt _ _ _ _ _ h_p0).trans (congrArg Value.double (own_hit2_0 of _ _ _ _ c0))) (show ¬ ((5 : Int32) - of) < (0 : Int32) → ((5 : Int32) - of) < (2 : Int32) → ¬ ((5 : Int32) - of) = (0 : Int32) → ((5 : Int32) - of) = (1 : Int32) → ([(.double y0), (.double y1), (.double y2), (.double y3)] : List Value).getD (p1).toNatClampNeg (.double (0 : UInt64)) = .double (if (of + (1 : Int32)) = (5 : Int32) then (own_pick p1 y0 y1 y2 y3) else (if (of + (0 : Int32)) = (5 : Int32) then (own_pick p0 y0 y1 y2 y3) else (13841813454723219456 : UInt64))) from fun a b _ c1 => (own_pickAt _ _ _ _ _ h_p1).trans (congrArg Value.double (own_hit2_1 of _ _ _ _ c1))) (show ¬ ((5 : Int32) - of) < (0 : Int32) → ((5 : Int32) - of) < (2 : Int32) → ¬ ((5 : Int32) - of) = (0 : Int32) → ¬ ((5 : Int32) - of) = (1 : Int32) → ([(.double y0), (.double y1), (.double y2), (.double y3)] : List Value).getD (p2).toNatClampNeg (.double (0 : UInt64)) = .double (if (of + (1 : Int32)) = (5 : Int32) then (own_pick p1 y0 y1 y2 y3) else (if (of + (0 : Int32)) = (5 : Int32) then (own_pick p0 y0 y1 y2 y3) else (13841813454723219456 : UInt64))) from fun a b c0 c1 => (own_no2 a b c0 c1).elim)) hZ (hw _ (List.mem_of_getElem? (i := 22) rfl)) (hw _ (List.mem_of_getElem? (i := 21) rfl)) (by decide) (by decide)) (g := (mkF m 419 #[.val (.int pp1), .val (.int pp2), .val (.int pp3), .val (.long qq4), .second, .val (.int (2 : Int32)), .val (.int of), .val (.int p0), .val (.int p1), .val (.int p2), .val (.ref b105), .val (.ref b122), .val (.ref b127), .val (.ref b127), .val (.int (1 : Int32))] [(.ref b105), (.int p2), (.int p1), (.int p0), (.int (2 : Int32)), (.int of), (.int (5 : Int32)), (.ref b127)])) rfl (by rw [hml]; rfl) (argsL := [(.ref b127), (.int (5 : Int32)), (.int of), (.int (2 : Int32)), (.int p0), (.int p1), (.int p2), (.ref b105)]) (rest := []) (lenOf pd__28__5b_DIIIIII_5b_D_29_Z rfl) rfl (by show 2 * 0 + _ ≤ _; exact Nat.le_of_eq rfl) (hb hby at_419) (fun _ _ => ⟨rfl, e152, (by decide : 3 + 0 ≤ _), (by decide : 14 + 0 ≤ _)⟩)
    dsimp only [Pt.U, Pt.locs, Pt.cells, Pt.slots] at X153 l153 y153 z153 st153 hQ153
    subst y153 z153
    obtain ⟨rfl, N153q, e153⟩ := hQ153
    have N153 : Fr n0 L153 := by rw [l153]; exact Fr.app N152 N153q
    change Stand _ _ _ _ _ _ _ _ _ _ _ _ 3 14 at X153
    have hc422_3 : ¬ ((1 : Int32) = (0 : Int32)) := by decide
    have hc434_3 : ¬ ((1 : Int32) = (0 : Int32)) := by decide
    obtain ⟨_, _, ⟨T154, L154, k154, n154⟩, -, X154, ⟨Lc154, hQ154, l154, y154, z154⟩, st154⟩ := Jvm.LawKit.callS X153 hx (y := (⟨"com/example/splitgrain/splitgrain/parse/ChartItemsGatherPinLaw", "check", "([DIIIIII[D)Z"⟩ : MethodName)) hown (mvT hZ (hw _ (List.mem_of_getElem? (i := 19) rfl))) (mvT hZ (hw _ (List.mem_of_getElem? (i := 20) rfl))) (mvT hZ (hw _ (List.mem_of_getElem? (i := 21) rfl))) (mvT hZ (hw _ (List.mem_of_getElem? (i := 22) rfl))) (by decide) (backOf (W := 0) (rm2 l Z a0 hw [] b127 (6 : Int32) of (2 : Int32) p0 p1 p2 b105 k127 k105 (List.set (List.set [(.double (13830554455654793216 : UInt64)), (.double (13835058055282163712 : UInt64)), (.double (13837309855095848960 : UInt64)), (.double (13839561654909534208 : UInt64)), (.double (13840687554816376832 : UInt64)), (.double (13841813454723219456 : UInt64)), (.double (13842939354630062080 : UInt64)), (.double (13844065254536904704 : UInt64))] (of + (0 : Int32)).toNatClampNeg (.double (own_pick p0 y0 y1 y2 y3))) (of + (1 : Int32)).toNatClampNeg (.double (own_pick p1 y0 y1 y2 y3))) [(.double y0), (.double y1), (.double y2), (.double y3)] (if (of + (1 : Int32)) = (6 : Int32) then (own_pick p1 y0 y1 y2 y3) else (if (of + (0 : Int32)) = (6 : Int32) then (own_pick p0 y0 y1 y2 y3) else (13842939354630062080 : UInt64))) T146.heap n0 Z146 R146_0 V_147 (show ¬ (6 : Int32) < (0 : Int32) ∧ (6 : Int32) < (8 : Int32) from ⟨by decide, by decide⟩) (show ¬ p0 < (0 : Int32) ∧ p0 < (4 : Int32) from h_p0) (show ¬ p1 < (0 : Int32) ∧ p1 < (4 : Int32) from h_p1) (show ¬ p2 < (0 : Int32) ∧ p2 < (4 : Int32) from h_p2) (show ((List.set (List.set [(.double (13830554455654793216 : UInt64)), (.double (13835058055282163712 : UInt64)), (.double (13837309855095848960 : UInt64)), (.double (13839561654909534208 : UInt64)), (.double (13840687554816376832 : UInt64)), (.double (13841813454723219456 : UInt64)), (.double (13842939354630062080 : UInt64)), (.double (13844065254536904704 : UInt64))] (of + (0 : Int32)).toNatClampNeg (.double (own_pick p0 y0 y1 y2 y3))) (of + (1 : Int32)).toNatClampNeg (.double (own_pick p1 y0 y1 y2 y3))) : List Value).getD ((6 : Int32)).toNatClampNeg (.double (0 : UInt64)) = .double (if (of + (1 : Int32)) = (6 : Int32) then (own_pick p1 y0 y1 y2 y3) else (if (of + (0 : Int32)) = (6 : Int32) then (own_pick p0 y0 y1 y2 y3) else (13842939354630062080 : UInt64))) from (own_gsD (by simp only [List.length_set]; rfl) ho1 ⟨by decide, by decide⟩ (own_gsD rfl ho0 ⟨by decide, by decide⟩ (show ([(.double (13830554455654793216 : UInt64)), (.double (13835058055282163712 : UInt64)), (.double (13837309855095848960 : UInt64)), (.double (13839561654909534208 : UInt64)), (.double (13840687554816376832 : UInt64)), (.double (13841813454723219456 : UInt64)), (.double (13842939354630062080 : UInt64)), (.double (13844065254536904704 : UInt64))] : List Value).getD 6 (.double (0 : UInt64)) = .double (13842939354630062080 : UInt64) from rfl)))) (show Jvm.Free.Fl.NoNaN64 (if (of + (1 : Int32)) = (6 : Int32) then (own_pick p1 y0 y1 y2 y3) else (if (of + (0 : Int32)) = (6 : Int32) then (own_pick p0 y0 y1 y2 y3) else (13842939354630062080 : UInt64))) from (own_ifn (own_pickN h_y0 h_y1 h_y2 h_y3) (own_ifn (own_pickN h_y0 h_y1 h_y2 h_y3) (by unfold Jvm.Free.Fl.NoNaN64; decide)))) (show ((6 : Int32) - of) < (0 : Int32) ∨ ¬ ((6 : Int32) - of) < (2 : Int32) → FP.i2d (-((6 : Int32) + (1 : Int32))) = (if (of + (1 : Int32)) = (6 : Int32) then (own_pick p1 y0 y1 y2 y3) else (if (of + (0 : Int32)) = (6 : Int32) then (own_pick p0 y0 y1 y2 y3) else (13842939354630062080 : UInt64))) from fun h => (show FP.i2d _ = (13842939354630062080 : UInt64) by decide +kernel).trans (own_out2 of _ _ _ _ h)) (show ¬ ((6 : Int32) - of) < (0 : Int32) → ((6 : Int32) - of) < (2 : Int32) → ((6 : Int32) - of) = (0 : Int32) → ([(.double y0), (.double y1), (.double y2), (.double y3)] : List Value).getD (p0).toNatClampNeg (.double (0 : UInt64)) = .double (if (of + (1 : Int32)) = (6 : Int32) then (own_pick p1 y0 y1 y2 y3) else (if (of + (0 : Int32)) = (6 : Int32) then (own_pick p0 y0 y1 y2 y3) else (13842939354630062080 : UInt64))) from fun a b c0 => (own_pickAt _ _ _ _ _ h_p0).trans (congrArg Value.double (own_hit2_0 of _ _ _ _ c0))) (show ¬ ((6 : Int32) - of) < (0 : Int32) → ((6 : Int32) - of) < (2 : Int32) → ¬ ((6 : Int32) - of) = (0 : Int32) → ((6 : Int32) - of) = (1 : Int32) → ([(.double y0), (.double y1), (.double y2), (.double y3)] : List Value).getD (p1).toNatClampNeg (.double (0 : UInt64)) = .double (if (of + (1 : Int32)) = (6 : Int32) then (own_pick p1 y0 y1 y2 y3) else (if (of + (0 : Int32)) = (6 : Int32) then (own_pick p0 y0 y1 y2 y3) else (13842939354630062080 : UInt64))) from fun a b _ c1 => (own_pickAt _ _ _ _ _ h_p1).trans (congrArg Value.double (own_hit2_1 of _ _ _ _ c1))) (show ¬ ((6 : Int32) - of) < (0 : Int32) → ((6 : Int32) - of) < (2 : Int32) → ¬ ((6 : Int32) - of) = (0 : Int32) → ¬ ((6 : Int32) - of) = (1 : Int32) → ([(.double y0), (.double y1), (.double y2), (.double y3)] : List Value).getD (p2).toNatClampNeg (.double (0 : UInt64)) = .double (if (of + (1 : Int32)) = (6 : Int32) then (own_pick p1 y0 y1 y2 y3) else (if (of + (0 : Int32)) = (6 : Int32) then (own_pick p0 y0 y1 y2 y3) else (13842939354630062080 : UInt64))) from fun a b c0 c1 => (own_no2 a b c0 c1).elim)) hZ (hw _ (List.mem_of_getElem? (i := 22) rfl)) (hw _ (List.mem_of_getElem? (i := 21) rfl)) (by decide) (by decide)) (g := (mkF m 453 #[.val (.int pp1), .val (.int pp2), .val (.int pp3), .val (.long qq4), .second, .val (.int (2 : Int32)), .val (.int of), .val (.int p0), .val (.int p1), .val (.int p2), .val (.ref b105), .val (.ref b122), .val (.ref b127), .val (.ref b127), .val (.int (1 : Int32))] [(.ref b105), (.int p2), (.int p1), (.int p0), (.int (2 : Int32)), (.int of), (.int (6 : Int32)), (.ref b127)])) rfl (by rw [hml]; rfl) (argsL := [(.ref b127), (.int (6 : Int32)), (.int of), (.int (2 : Int32)), (.int p0), (.int p1), (.int p2), (.ref b105)]) (rest := []) (lenOf pd__28__5b_DIIIIII_5b_D_29_Z rfl) rfl (by show 2 * 0 + _ ≤ _; exact Nat.le_of_eq rfl) (hb hby at_453) (fun _ _ => ⟨rfl, e153, (by decide : 3 + 0 ≤ _), (by decide : 14 + 0 ≤ _)⟩)
    dsimp only [Pt.U, Pt.locs, Pt.cells, Pt.slots] at X154 l154 y154 z154 st154 hQ154
    subst y154 z154
    obtain ⟨rfl, N154q, e154⟩ := hQ154
    have N154 : Fr n0 L154 := by rw [l154]; exact Fr.app N153 N154q
    change Stand _ _ _ _ _ _ _ _ _ _ _ _ 3 14 at X154
    have hc456_3 : ¬ ((1 : Int32) = (0 : Int32)) := by decide
    have hc468_3 : ¬ ((1 : Int32) = (0 : Int32)) := by decide
    obtain ⟨_, _, ⟨T155, L155, k155, n155⟩, -, X155, ⟨Lc155, hQ155, l155, y155, z155⟩, st155⟩ := Jvm.LawKit.callS X154 hx (y := (⟨"com/example/splitgrain/splitgrain/parse/ChartItemsGatherPinLaw", "check", "([DIIIIII[D)Z"⟩ : MethodName)) hown (mvT hZ (hw _ (List.mem_of_getElem? (i := 19) rfl))) (mvT hZ (hw _ (List.mem_of_getElem? (i := 20) rfl))) (mvT hZ (hw _ (List.mem_of_getElem? (i := 21) rfl))) (mvT hZ (hw _ (List.mem_of_getElem? (i := 22) rfl))) (by decide) (backOf (W := 0) (rm2 l Z a0 hw [] b127 (7 : Int32) of (2 : Int32) p0 p1 p2 b105 k127 k105 (List.set (List.set [(.double (13830554455654793216 : UInt64)), (.double (13835058055282163712 : UInt64)), (.double (13837309855095848960 : UInt64)), (.double (13839561654909534208 : UInt64)), (.double (13840687554816376832 : UInt64)), (.double (13841813454723219456 : UInt64)), (.double (13842939354630062080 : UInt64)), (.double (13844065254536904704 : UInt64))] (of + (0 : Int32)).toNatClampNeg (.double (own_pick p0 y0 y1 y2 y3))) (of + (1 : Int32)).toNatClampNeg (.double (own_pick p1 y0 y1 y2 y3))) [(.double y0), (.double y1), (.double y2), (.double y3)] (if (of + (1 : Int32)) = (7 : Int32) then (own_pick p1 y0 y1 y2 y3) else (if (of + (0 : Int32)) = (7 : Int32) then (own_pick p0 y0 y1 y2 y3) else (13844065254536904704 : UInt64))) T146.heap n0 Z146 R146_0 V_147 (show ¬ (7 : Int32) < (0 : Int32) ∧ (7 : Int32) < (8 : Int32) from ⟨by decide, by decide⟩) (show ¬ p0 < (0 : Int32) ∧ p0 < (4 : Int32) from h_p0) (show ¬ p1 < (0 : Int32) ∧ p1 < (4 : Int32) from h_p1) (show ¬ p2 < (0 : Int32) ∧ p2 < (4 : Int32) from h_p2) (show ((List.set (List.set [(.double (13830554455654793216 : UInt64)), (.double (13835058055282163712 : UInt64)), (.double (13837309855095848960 : UInt64)), (.double (13839561654909534208 : UInt64)), (.double (13840687554816376832 : UInt64)), (.double (13841813454723219456 : UInt64)), (.double (13842939354630062080 : UInt64)), (.double (13844065254536904704 : UInt64))] (of + (0 : Int32)).toNatClampNeg (.double (own_pick p0 y0 y1 y2 y3))) (of + (1 : Int32)).toNatClampNeg (.double (own_pick p1 y0 y1 y2 y3))) : List Value).getD ((7 : Int32)).toNatClampNeg (.double (0 : UInt64)) = .double (if (of + (1 : Int32)) = (7 : Int32) then (own_pick p1 y0 y1 y2 y3) else (if (of + (0 : Int32)) = (7 : Int32) then (own_pick p0 y0 y1 y2 y3) else (13844065254536904704 : UInt64))) from (own_gsD (by simp only [List.length_set]; rfl) ho1 ⟨by decide, by decide⟩ (own_gsD rfl ho0 ⟨by decide, by decide⟩ (show ([(.double (13830554455654793216 : UInt64)), (.double (13835058055282163712 : UInt64)), (.double (13837309855095848960 : UInt64)), (.double (13839561654909534208 : UInt64)), (.double (13840687554816376832 : UInt64)), (.double (13841813454723219456 : UInt64)), (.double (13842939354630062080 : UInt64)), (.double (13844065254536904704 : UInt64))] : List Value).getD 7 (.double (0 : UInt64)) = .double (13844065254536904704 : UInt64) from rfl)))) (show Jvm.Free.Fl.NoNaN64 (if (of + (1 : Int32)) = (7 : Int32) then (own_pick p1 y0 y1 y2 y3) else (if (of + (0 : Int32)) = (7 : Int32) then (own_pick p0 y0 y1 y2 y3) else (13844065254536904704 : UInt64))) from (own_ifn (own_pickN h_y0 h_y1 h_y2 h_y3) (own_ifn (own_pickN h_y0 h_y1 h_y2 h_y3) (by unfold Jvm.Free.Fl.NoNaN64; decide)))) (show ((7 : Int32) - of) < (0 : Int32) ∨ ¬ ((7 : Int32) - of) < (2 : Int32) → FP.i2d (-((7 : Int32) + (1 : Int32))) = (if (of + (1 : Int32)) = (7 : Int32) then (own_pick p1 y0 y1 y2 y3) else (if (of + (0 : Int32)) = (7 : Int32) then (own_pick p0 y0 y1 y2 y3) else (13844065254536904704 : UInt64))) from fun h => (show FP.i2d _ = (13844065254536904704 : UInt64) by decide +kernel).trans (own_out2 of _ _ _ _ h)) (show ¬ ((7 : Int32) - of) < (0 : Int32) → ((7 : Int32) - of) < (2 : Int32) → ((7 : Int32) - of) = (0 : Int32) → ([(.double y0), (.double y1), (.double y2), (.double y3)] : List Value).getD (p0).toNatClampNeg (.double (0 : UInt64)) = .double (if (of + (1 : Int32)) = (7 : Int32) then (own_pick p1 y0 y1 y2 y3) else (if (of + (0 : Int32)) = (7 : Int32) then (own_pick p0 y0 y1 y2 y3) else (13844065254536904704 : UInt64))) from fun a b c0 => (own_pickAt _ _ _ _ _ h_p0).trans (congrArg Value.double (own_hit2_0 of _ _ _ _ c0))) (show ¬ ((7 : Int32) - of) < (0 : Int32) → ((7 : Int32) - of) < (2 : Int32) → ¬ ((7 : Int32) - of) = (0 : Int32) → ((7 : Int32) - of) = (1 : Int32) → ([(.double y0), (.double y1), (.double y2), (.double y3)] : List Value).getD (p1).toNatClampNeg (.double (0 : UInt64)) = .double (if (of + (1 : Int32)) = (7 : Int32) then (own_pick p1 y0 y1 y2 y3) else (if (of + (0 : Int32)) = (7 : Int32) then (own_pick p0 y0 y1 y2 y3) else (13844065254536904704 : UInt64))) from fun a b _ c1 => (own_pickAt _ _ _ _ _ h_p1).trans (congrArg Value.double (own_hit2_1 of _ _ _ _ c1))) (show ¬ ((7 : Int32) - of) < (0 : Int32) → ((7 : Int32) - of) < (2 : Int32) → ¬ ((7 : Int32) - of) = (0 : Int32) → ¬ ((7 : Int32) - of) = (1 : Int32) → ([(.double y0), (.double y1), (.double y2), (.double y3)] : List Value).getD (p2).toNatClampNeg (.double (0 : UInt64)) = .double (if (of + (1 : Int32)) = (7 : Int32) then (own_pick p1 y0 y1 y2 y3) else (if (of + (0 : Int32)) = (7 : Int32) then (own_pick p0 y0 y1 y2 y3) else (13844065254536904704 : UInt64))) from fun a b c0 c1 => (own_no2 a b c0 c1).elim)) hZ (hw _ (List.mem_of_getElem? (i := 22) rfl)) (hw _ (List.mem_of_getElem? (i := 21) rfl)) (by decide) (by decide)) (g := (mkF m 487 #[.val (.int pp1), .val (.int pp2), .val (.int pp3), .val (.long qq4), .second, .val (.int (2 : Int32)), .val (.int of), .val (.int p0), .val (.int p1), .val (.int p2), .val (.ref b105), .val (.ref b122), .val (.ref b127), .val (.ref b127), .val (.int (1 : Int32))] [(.ref b105), (.int p2), (.int p1), (.int p0), (.int (2 : Int32)), (.int of), (.int (7 : Int32)), (.ref b127)])) rfl (by rw [hml]; rfl) (argsL := [(.ref b127), (.int (7 : Int32)), (.int of), (.int (2 : Int32)), (.int p0), (.int p1), (.int p2), (.ref b105)]) (rest := []) (lenOf pd__28__5b_DIIIIII_5b_D_29_Z rfl) rfl (by show 2 * 0 + _ ≤ _; exact Nat.le_of_eq rfl) (hb hby at_487) (fun _ _ => ⟨rfl, e154, (by decide : 3 + 0 ≤ _), (by decide : 14 + 0 ≤ _)⟩)
    dsimp only [Pt.U, Pt.locs, Pt.cells, Pt.slots] at X155 l155 y155 z155 st155 hQ155
    subst y155 z155
    obtain ⟨rfl, N155q, e155⟩ := hQ155
    have N155 : Fr n0 L155 := by rw [l155]; exact Fr.app N154 N155q
    change Stand _ _ _ _ _ _ _ _ _ _ _ _ 3 14 at X155
    have hc490_3 : ¬ ((1 : Int32) = (0 : Int32)) := by decide
    obtain ⟨fs, hr, hrun, hended, hW, hsame⟩ := X155.leave (v := some (.int (1 : Int32))) (fun h => by rw [Bd.returns] at h; cases h)
    refine ⟨_, _, pre119 _ ?_, hrun, hended, _, _, rfl, ?_, ⟨_, rfl⟩, hW, hsame.mono (by decide) (by decide)⟩
    · show Steps p.tables e below (T117.setTop (mkF m 101 #[.val (.int pp1), .val (.int pp2), .val (.int pp3), .val (.long qq4), .second, .val (.int (2 : Int32)), .val (.int of), .val (.int p0), .val (.int p1), .val (.int p2), .val (.ref b105), .unset, .unset, .unset, .unset] [(.double y3), (.int (3 : Int32)), (.ref b105)])) _
      refine st121 _ ?_
      refine XS.iload X121.here hx rfl (hb hby at_102) rfl ?_
      refine st122 _ ?_
      refine XS.astore X122.here hx rfl (hb hby at_106) rfl rfl (l' := #[.val (.int pp1), .val (.int pp2), .val (.int pp3), .val (.long qq4), .second, .val (.int (2 : Int32)), .val (.int of), .val (.int p0), .val (.int p1), .val (.int p2), .val (.ref b105), .val (.ref b122), .unset, .unset, .unset]) rfl ?_
      refine XS.iload X122.here hx rfl (hb hby at_108) rfl ?_
      refine XS.ifNo X122.here hx rfl (hb hby at_110) rfl ((if0 _ _).trans (tlt hc110_3).2.2.2) ?_
      refine XS.aload X122.here hx rfl (hb hby at_113) rfl rfl ?_
      refine XS.iconst X122.here hx rfl (hb hby at_115) ?_
      refine XS.iload X122.here hx rfl (hb hby at_116) rfl ?_
      refine st124 _ ?_
      refine XS.iload X124.here hx rfl (hb hby at_119) rfl ?_
      refine XS.iconst X124.here hx rfl (hb hby at_121) ?_
      refine XS.icmpNo X124.here hx rfl (hb hby at_122) rfl (tlt hc122_3).2.2.2 ?_
      refine XS.aload X124.here hx rfl (hb hby at_125) rfl rfl ?_
      refine XS.iconst X124.here hx rfl (hb hby at_127) ?_
      refine XS.iload X124.here hx rfl (hb hby at_128) rfl ?_
      refine st126 _ ?_
      refine XS.iload X126.here hx rfl (hb hby at_131) rfl ?_
      refine XS.iconst X126.here hx rfl (hb hby at_133) ?_
      refine XS.icmpYes X126.here hx rfl (pc0 := 134) (pc' := 143) rfl (hb hby at_134) rfl (flt hc134_3).2.2.2 (by decide) (by decide) ?_
      refine XS.bipush X126.here hx rfl (hb hby at_143) ?_
      refine st127 _ ?_
      refine XS.astore X127.here hx rfl (hb hby at_147) rfl rfl (l' := #[.val (.int pp1), .val (.int pp2), .val (.int pp3), .val (.long qq4), .second, .val (.int (2 : Int32)), .val (.int of), .val (.int p0), .val (.int p1), .val (.int p2), .val (.ref b105), .val (.ref b122), .val (.ref b127), .unset, .unset]) rfl ?_
      refine XS.aload X127.here hx rfl (hb hby at_149) rfl rfl ?_
      refine XS.iconst X127.here hx rfl (hb hby at_151) ?_
      refine X127.ldc2DoubleC hx hown (mvT hZ (hw _ (List.mem_of_getElem? (i := 7) rfl))) (g := (mkF m 152 #[.val (.int pp1), .val (.int pp2), .val (.int pp3), .val (.long qq4), .second, .val (.int (2 : Int32)), .val (.int of), .val (.int p0), .val (.int p1), .val (.int p2), .val (.ref b105), .val (.ref b122), .val (.ref b127), .unset, .unset] [(.int (0 : Int32)), (.ref b127)])) rfl (hb hby at_152) _ ?_
      refine st129 _ ?_
      refine XS.aload X129.here hx rfl (hb hby at_156) rfl rfl ?_
      refine XS.iconst X129.here hx rfl (hb hby at_158) ?_
      refine X129.ldc2DoubleC hx hown (mvT hZ (hw _ (List.mem_of_getElem? (i := 8) rfl))) (g := (mkF m 159 #[.val (.int pp1), .val (.int pp2), .val (.int pp3), .val (.long qq4), .second, .val (.int (2 : Int32)), .val (.int of), .val (.int p0), .val (.int p1), .val (.int p2), .val (.ref b105), .val (.ref b122), .val (.ref b127), .unset, .unset] [(.int (1 : Int32)), (.ref b127)])) rfl (hb hby at_159) _ ?_
      refine st131 _ ?_
      refine XS.aload X131.here hx rfl (hb hby at_163) rfl rfl ?_
      refine XS.iconst X131.here hx rfl (hb hby at_165) ?_
      refine X131.ldc2DoubleC hx hown (mvT hZ (hw _ (List.mem_of_getElem? (i := 9) rfl))) (g := (mkF m 166 #[.val (.int pp1), .val (.int pp2), .val (.int pp3), .val (.long qq4), .second, .val (.int (2 : Int32)), .val (.int of), .val (.int p0), .val (.int p1), .val (.int p2), .val (.ref b105), .val (.ref b122), .val (.ref b127), .unset, .unset] [(.int (2 : Int32)), (.ref b127)])) rfl (hb hby at_166) _ ?_
      refine st133 _ ?_
      refine XS.aload X133.here hx rfl (hb hby at_170) rfl rfl ?_
      refine XS.iconst X133.here hx rfl (hb hby at_172) ?_
      refine X133.ldc2DoubleC hx hown (mvT hZ (hw _ (List.mem_of_getElem? (i := 10) rfl))) (g := (mkF m 173 #[.val (.int pp1), .val (.int pp2), .val (.int pp3), .val (.long qq4), .second, .val (.int (2 : Int32)), .val (.int of), .val (.int p0), .val (.int p1), .val (.int p2), .val (.ref b105), .val (.ref b122), .val (.ref b127), .unset, .unset] [(.int (3 : Int32)), (.ref b127)])) rfl (hb hby at_173) _ ?_
      refine st135 _ ?_
      refine XS.aload X135.here hx rfl (hb hby at_177) rfl rfl ?_
      refine XS.iconst X135.here hx rfl (hb hby at_179) ?_
      refine X135.ldc2DoubleC hx hown (mvT hZ (hw _ (List.mem_of_getElem? (i := 11) rfl))) (g := (mkF m 180 #[.val (.int pp1), .val (.int pp2), .val (.int pp3), .val (.long qq4), .second, .val (.int (2 : Int32)), .val (.int of), .val (.int p0), .val (.int p1), .val (.int p2), .val (.ref b105), .val (.ref b122), .val (.ref b127), .unset, .unset] [(.int (4 : Int32)), (.ref b127)])) rfl (hb hby at_180) _ ?_
      refine st137 _ ?_
      refine XS.aload X137.here hx rfl (hb hby at_184) rfl rfl ?_
      refine XS.iconst X137.here hx rfl (hb hby at_186) ?_
      refine X137.ldc2DoubleC hx hown (mvT hZ (hw _ (List.mem_of_getElem? (i := 12) rfl))) (g := (mkF m 187 #[.val (.int pp1), .val (.int pp2), .val (.int pp3), .val (.long qq4), .second, .val (.int (2 : Int32)), .val (.int of), .val (.int p0), .val (.int p1), .val (.int p2), .val (.ref b105), .val (.ref b122), .val (.ref b127), .unset, .unset] [(.int (5 : Int32)), (.ref b127)])) rfl (hb hby at_187) _ ?_
      refine st139 _ ?_
      refine XS.aload X139.here hx rfl (hb hby at_191) rfl rfl ?_
      refine XS.bipush X139.here hx rfl (hb hby at_193) ?_
      refine X139.ldc2DoubleC hx hown (mvT hZ (hw _ (List.mem_of_getElem? (i := 13) rfl))) (g := (mkF m 195 #[.val (.int pp1), .val (.int pp2), .val (.int pp3), .val (.long qq4), .second, .val (.int (2 : Int32)), .val (.int of), .val (.int p0), .val (.int p1), .val (.int p2), .val (.ref b105), .val (.ref b122), .val (.ref b127), .unset, .unset] [(.int (6 : Int32)), (.ref b127)])) rfl (hb hby at_195) _ ?_
      refine st141 _ ?_
      refine XS.aload X141.here hx rfl (hb hby at_199) rfl rfl ?_
      refine XS.bipush X141.here hx rfl (hb hby at_201) ?_
      refine X141.ldc2DoubleC hx hown (mvT hZ (hw _ (List.mem_of_getElem? (i := 14) rfl))) (g := (mkF m 203 #[.val (.int pp1), .val (.int pp2), .val (.int pp3), .val (.long qq4), .second, .val (.int (2 : Int32)), .val (.int of), .val (.int p0), .val (.int p1), .val (.int p2), .val (.ref b105), .val (.ref b122), .val (.ref b127), .unset, .unset] [(.int (7 : Int32)), (.ref b127)])) rfl (hb hby at_203) _ ?_
      refine st143 _ ?_
      refine XS.aload X143.here hx rfl (hb hby at_207) rfl rfl ?_
      refine XS.aload X143.here hx rfl (hb hby at_209) rfl rfl ?_
      refine XS.aload X143.here hx rfl (hb hby at_211) rfl rfl ?_
      refine XS.iload X143.here hx rfl (hb hby at_213) rfl ?_
      refine st146 _ ?_
      refine XS.astore X146.here hx rfl (hb hby at_218) rfl rfl (l' := #[.val (.int pp1), .val (.int pp2), .val (.int pp3), .val (.long qq4), .second, .val (.int (2 : Int32)), .val (.int of), .val (.int p0), .val (.int p1), .val (.int p2), .val (.ref b105), .val (.ref b122), .val (.ref b127), .val (.ref b127), .unset]) rfl ?_
      refine XS.aload X146.here hx rfl (hb hby at_220) rfl rfl ?_
      refine XS.aload X146.here hx rfl (hb hby at_222) rfl rfl ?_
      refine Jvm.RoadKit.acmp (g := (mkF m 224 #[.val (.int pp1), .val (.int pp2), .val (.int pp3), .val (.long qq4), .second, .val (.int (2 : Int32)), .val (.int of), .val (.int p0), .val (.int p1), .val (.int p2), .val (.ref b105), .val (.ref b122), .val (.ref b127), .val (.ref b127), .unset] [(.ref b127), (.ref b127)])) X146 hx rfl rfl rfl (pc0 := 224) (pc' := 227) (same := true) rfl (hb hby at_224) rfl (decide_eq_true rfl) (by decide) (by decide) ?_
      refine XS.iconst X146.here hx rfl (hb hby at_227) ?_
      refine XS.goto X146.here hx rfl (pc0 := 228) (pc' := 232) rfl (hb hby at_228) (by decide) (by decide) ?_
      refine XS.istore X146.here hx rfl (hb hby at_232) rfl (l' := #[.val (.int pp1), .val (.int pp2), .val (.int pp3), .val (.long qq4), .second, .val (.int (2 : Int32)), .val (.int of), .val (.int p0), .val (.int p1), .val (.int p2), .val (.ref b105), .val (.ref b122), .val (.ref b127), .val (.ref b127), .val (.int (1 : Int32))]) rfl ?_
      refine XS.iload X146.here hx rfl (hb hby at_234) rfl ?_
      refine XS.ifNo X146.here hx rfl (hb hby at_236) rfl ((if0 _ _).trans (feq hc236_3).1) ?_
      refine XS.aload X146.here hx rfl (hb hby at_239) rfl rfl ?_
      refine XS.iconst X146.here hx rfl (hb hby at_241) ?_
      refine XS.iload X146.here hx rfl (hb hby at_242) rfl ?_
      refine XS.iload X146.here hx rfl (hb hby at_244) rfl ?_
      refine XS.iload X146.here hx rfl (hb hby at_246) rfl ?_
      refine XS.iload X146.here hx rfl (hb hby at_248) rfl ?_
      refine XS.iload X146.here hx rfl (hb hby at_250) rfl ?_
      refine XS.aload X146.here hx rfl (hb hby at_252) rfl rfl ?_
      refine st148 _ ?_
      refine XS.ifNo X148.here hx rfl (hb hby at_257) rfl ((if0 _ _).trans (feq hc257_3).1) ?_
      refine XS.iconst X148.here hx rfl (hb hby at_260) ?_
      refine XS.goto X148.here hx rfl (pc0 := 261) (pc' := 265) rfl (hb hby at_261) (by decide) (by decide) ?_
      refine XS.istore X148.here hx rfl (hb hby at_265) rfl (l' := #[.val (.int pp1), .val (.int pp2), .val (.int pp3), .val (.long qq4), .second, .val (.int (2 : Int32)), .val (.int of), .val (.int p0), .val (.int p1), .val (.int p2), .val (.ref b105), .val (.ref b122), .val (.ref b127), .val (.ref b127), .val (.int (1 : Int32))]) rfl ?_
      refine XS.iload X148.here hx rfl (hb hby at_267) rfl ?_
      refine XS.ifNo X148.here hx rfl (hb hby at_269) rfl ((if0 _ _).trans (feq hc269_3).1) ?_
      refine XS.aload X148.here hx rfl (hb hby at_272) rfl rfl ?_
      refine XS.iconst X148.here hx rfl (hb hby at_274) ?_
      refine XS.iload X148.here hx rfl (hb hby at_275) rfl ?_
      refine XS.iload X148.here hx rfl (hb hby at_277) rfl ?_
      refine XS.iload X148.here hx rfl (hb hby at_279) rfl ?_
      refine XS.iload X148.here hx rfl (hb hby at_281) rfl ?_
      refine XS.iload X148.here hx rfl (hb hby at_283) rfl ?_
      refine XS.aload X148.here hx rfl (hb hby at_285) rfl rfl ?_
      refine st149 _ ?_
      refine XS.ifNo X149.here hx rfl (hb hby at_290) rfl ((if0 _ _).trans (feq hc290_3).1) ?_
      refine XS.iconst X149.here hx rfl (hb hby at_293) ?_
      refine XS.goto X149.here hx rfl (pc0 := 294) (pc' := 298) rfl (hb hby at_294) (by decide) (by decide) ?_
      refine XS.istore X149.here hx rfl (hb hby at_298) rfl (l' := #[.val (.int pp1), .val (.int pp2), .val (.int pp3), .val (.long qq4), .second, .val (.int (2 : Int32)), .val (.int of), .val (.int p0), .val (.int p1), .val (.int p2), .val (.ref b105), .val (.ref b122), .val (.ref b127), .val (.ref b127), .val (.int (1 : Int32))]) rfl ?_
      refine XS.iload X149.here hx rfl (hb hby at_300) rfl ?_
      refine XS.ifNo X149.here hx rfl (hb hby at_302) rfl ((if0 _ _).trans (feq hc302_3).1) ?_
      refine XS.aload X149.here hx rfl (hb hby at_305) rfl rfl ?_
      refine XS.iconst X149.here hx rfl (hb hby at_307) ?_
      refine XS.iload X149.here hx rfl (hb hby at_308) rfl ?_
      refine XS.iload X149.here hx rfl (hb hby at_310) rfl ?_
      refine XS.iload X149.here hx rfl (hb hby at_312) rfl ?_
      refine XS.iload X149.here hx rfl (hb hby at_314) rfl ?_
      refine XS.iload X149.here hx rfl (hb hby at_316) rfl ?_
      refine XS.aload X149.here hx rfl (hb hby at_318) rfl rfl ?_
      refine st150 _ ?_
      refine XS.ifNo X150.here hx rfl (hb hby at_323) rfl ((if0 _ _).trans (feq hc323_3).1) ?_
      refine XS.iconst X150.here hx rfl (hb hby at_326) ?_
      refine XS.goto X150.here hx rfl (pc0 := 327) (pc' := 331) rfl (hb hby at_327) (by decide) (by decide) ?_
      refine XS.istore X150.here hx rfl (hb hby at_331) rfl (l' := #[.val (.int pp1), .val (.int pp2), .val (.int pp3), .val (.long qq4), .second, .val (.int (2 : Int32)), .val (.int of), .val (.int p0), .val (.int p1), .val (.int p2), .val (.ref b105), .val (.ref b122), .val (.ref b127), .val (.ref b127), .val (.int (1 : Int32))]) rfl ?_
      refine XS.iload X150.here hx rfl (hb hby at_333) rfl ?_
      refine XS.ifNo X150.here hx rfl (hb hby at_335) rfl ((if0 _ _).trans (feq hc335_3).1) ?_
      refine XS.aload X150.here hx rfl (hb hby at_338) rfl rfl ?_
      refine XS.iconst X150.here hx rfl (hb hby at_340) ?_
      refine XS.iload X150.here hx rfl (hb hby at_341) rfl ?_
      refine XS.iload X150.here hx rfl (hb hby at_343) rfl ?_
      refine XS.iload X150.here hx rfl (hb hby at_345) rfl ?_
      refine XS.iload X150.here hx rfl (hb hby at_347) rfl ?_
      refine XS.iload X150.here hx rfl (hb hby at_349) rfl ?_
      refine XS.aload X150.here hx rfl (hb hby at_351) rfl rfl ?_
      refine st151 _ ?_
      refine XS.ifNo X151.here hx rfl (hb hby at_356) rfl ((if0 _ _).trans (feq hc356_3).1) ?_
      refine XS.iconst X151.here hx rfl (hb hby at_359) ?_
      refine XS.goto X151.here hx rfl (pc0 := 360) (pc' := 364) rfl (hb hby at_360) (by decide) (by decide) ?_
      refine XS.istore X151.here hx rfl (hb hby at_364) rfl (l' := #[.val (.int pp1), .val (.int pp2), .val (.int pp3), .val (.long qq4), .second, .val (.int (2 : Int32)), .val (.int of), .val (.int p0), .val (.int p1), .val (.int p2), .val (.ref b105), .val (.ref b122), .val (.ref b127), .val (.ref b127), .val (.int (1 : Int32))]) rfl ?_
      refine XS.iload X151.here hx rfl (hb hby at_366) rfl ?_
      refine XS.ifNo X151.here hx rfl (hb hby at_368) rfl ((if0 _ _).trans (feq hc368_3).1) ?_
      refine XS.aload X151.here hx rfl (hb hby at_371) rfl rfl ?_
      refine XS.iconst X151.here hx rfl (hb hby at_373) ?_
      refine XS.iload X151.here hx rfl (hb hby at_374) rfl ?_
      refine XS.iload X151.here hx rfl (hb hby at_376) rfl ?_
      refine XS.iload X151.here hx rfl (hb hby at_378) rfl ?_
      refine XS.iload X151.here hx rfl (hb hby at_380) rfl ?_
      refine XS.iload X151.here hx rfl (hb hby at_382) rfl ?_
      refine XS.aload X151.here hx rfl (hb hby at_384) rfl rfl ?_
      refine st152 _ ?_
      refine XS.ifNo X152.here hx rfl (hb hby at_389) rfl ((if0 _ _).trans (feq hc389_3).1) ?_
      refine XS.iconst X152.here hx rfl (hb hby at_392) ?_
      refine XS.goto X152.here hx rfl (pc0 := 393) (pc' := 397) rfl (hb hby at_393) (by decide) (by decide) ?_
      refine XS.istore X152.here hx rfl (hb hby at_397) rfl (l' := #[.val (.int pp1), .val (.int pp2), .val (.int pp3), .val (.long qq4), .second, .val (.int (2 : Int32)), .val (.int of), .val (.int p0), .val (.int p1), .val (.int p2), .val (.ref b105), .val (.ref b122), .val (.ref b127), .val (.ref b127), .val (.int (1 : Int32))]) rfl ?_
      refine XS.iload X152.here hx rfl (hb hby at_399) rfl ?_
      refine XS.ifNo X152.here hx rfl (hb hby at_401) rfl ((if0 _ _).trans (feq hc401_3).1) ?_
      refine XS.aload X152.here hx rfl (hb hby at_404) rfl rfl ?_
      refine XS.iconst X152.here hx rfl (hb hby at_406) ?_
      refine XS.iload X152.here hx rfl (hb hby at_407) rfl ?_
      refine XS.iload X152.here hx rfl (hb hby at_409) rfl ?_
      refine XS.iload X152.here hx rfl (hb hby at_411) rfl ?_
      refine XS.iload X152.here hx rfl (hb hby at_413) rfl ?_
      refine XS.iload X152.here hx rfl (hb hby at_415) rfl ?_
      refine XS.aload X152.here hx rfl (hb hby at_417) rfl rfl ?_
      refine st153 _ ?_
      refine XS.ifNo X153.here hx rfl (hb hby at_422) rfl ((if0 _ _).trans (feq hc422_3).1) ?_
      refine XS.iconst X153.here hx rfl (hb hby at_425) ?_
      refine XS.goto X153.here hx rfl (pc0 := 426) (pc' := 430) rfl (hb hby at_426) (by decide) (by decide) ?_
      refine XS.istore X153.here hx rfl (hb hby at_430) rfl (l' := #[.val (.int pp1), .val (.int pp2), .val (.int pp3), .val (.long qq4), .second, .val (.int (2 : Int32)), .val (.int of), .val (.int p0), .val (.int p1), .val (.int p2), .val (.ref b105), .val (.ref b122), .val (.ref b127), .val (.ref b127), .val (.int (1 : Int32))]) rfl ?_
      refine XS.iload X153.here hx rfl (hb hby at_432) rfl ?_
      refine XS.ifNo X153.here hx rfl (hb hby at_434) rfl ((if0 _ _).trans (feq hc434_3).1) ?_
      refine XS.aload X153.here hx rfl (hb hby at_437) rfl rfl ?_
      refine XS.bipush X153.here hx rfl (hb hby at_439) ?_
      refine XS.iload X153.here hx rfl (hb hby at_441) rfl ?_
      refine XS.iload X153.here hx rfl (hb hby at_443) rfl ?_
      refine XS.iload X153.here hx rfl (hb hby at_445) rfl ?_
      refine XS.iload X153.here hx rfl (hb hby at_447) rfl ?_
      refine XS.iload X153.here hx rfl (hb hby at_449) rfl ?_
      refine XS.aload X153.here hx rfl (hb hby at_451) rfl rfl ?_
      refine st154 _ ?_
      refine XS.ifNo X154.here hx rfl (hb hby at_456) rfl ((if0 _ _).trans (feq hc456_3).1) ?_
      refine XS.iconst X154.here hx rfl (hb hby at_459) ?_
      refine XS.goto X154.here hx rfl (pc0 := 460) (pc' := 464) rfl (hb hby at_460) (by decide) (by decide) ?_
      refine XS.istore X154.here hx rfl (hb hby at_464) rfl (l' := #[.val (.int pp1), .val (.int pp2), .val (.int pp3), .val (.long qq4), .second, .val (.int (2 : Int32)), .val (.int of), .val (.int p0), .val (.int p1), .val (.int p2), .val (.ref b105), .val (.ref b122), .val (.ref b127), .val (.ref b127), .val (.int (1 : Int32))]) rfl ?_
      refine XS.iload X154.here hx rfl (hb hby at_466) rfl ?_
      refine XS.ifNo X154.here hx rfl (hb hby at_468) rfl ((if0 _ _).trans (feq hc468_3).1) ?_
      refine XS.aload X154.here hx rfl (hb hby at_471) rfl rfl ?_
      refine XS.bipush X154.here hx rfl (hb hby at_473) ?_
      refine XS.iload X154.here hx rfl (hb hby at_475) rfl ?_
      refine XS.iload X154.here hx rfl (hb hby at_477) rfl ?_
      refine XS.iload X154.here hx rfl (hb hby at_479) rfl ?_
      refine XS.iload X154.here hx rfl (hb hby at_481) rfl ?_
      refine XS.iload X154.here hx rfl (hb hby at_483) rfl ?_
      refine XS.aload X154.here hx rfl (hb hby at_485) rfl rfl ?_
      refine st155 _ ?_
      refine XS.ifNo X155.here hx rfl (hb hby at_490) rfl ((if0 _ _).trans (feq hc490_3).1) ?_
      refine XS.iconst X155.here hx rfl (hb hby at_493) ?_
      refine XS.goto X155.here hx rfl (pc0 := 494) (pc' := 498) rfl (hb hby at_494) (by decide) (by decide) ?_
      refine XS.istore X155.here hx rfl (hb hby at_498) rfl (l' := #[.val (.int pp1), .val (.int pp2), .val (.int pp3), .val (.long qq4), .second, .val (.int (2 : Int32)), .val (.int of), .val (.int p0), .val (.int p1), .val (.int p2), .val (.ref b105), .val (.ref b122), .val (.ref b127), .val (.ref b127), .val (.int (1 : Int32))]) rfl ?_
      refine XS.iload X155.here hx rfl (hb hby at_500) rfl ?_
      exact retN X155 hx (t := .boolean) Bd.returns (by simp) (hb hby at_502) hr
    · show Q0 Z pp1 pp2 pp3 qq4 h0 n0 _ T155.heap _
      rw [e155]
      exact ⟨rfl, N155⟩
  · skip
    have hc14_4 : (6 : Int32) ≠ (0 : Int32) := (by decide)
    have pre156 : ∀ t, Steps p.tables e below (s₁.setTop (mkF m 36 #[.val (.int pp1), .val (.int pp2), .val (.int pp3), .val (.long qq4), .second, .val (.int (3 : Int32)), .val (.int ((pp2 &&& (2147483647 : Int32)) % (6 : Int32))), .val (.int (pp3 &&& (3 : Int32))), .val (.int (((pp3.toUInt32 >>> ((2 : Int32) &&& 31).toUInt32).toInt32) &&& (3 : Int32))), .val (.int (((pp3.toUInt32 >>> ((4 : Int32) &&& 31).toUInt32).toInt32) &&& (3 : Int32))), .unset, .unset, .unset, .unset, .unset] [])) t → Steps p.tables e below (s₁.setTop (entryFrame m #[(.int pp1), (.int pp2), (.int pp3), (.long qq4)] maxLocals)) t := fun t kt => pre2 t (by
      refine XS.iloadN X0.here hx rfl (hb hby at_5) rfl ?_
      refine X0.ldcInt hx hown (mvT hZ (hw _ (List.mem_of_getElem? (i := 0) rfl))) (g := (mkF m 6 #[.val (.int pp1), .val (.int pp2), .val (.int pp3), .val (.long qq4), .second, .val (.int (3 : Int32)), .unset, .unset, .unset, .unset, .unset, .unset, .unset, .unset, .unset] [(.int pp2)])) rfl (hb hby at_6) _ ?_
      refine XS.iand X0.here hx rfl (hb hby at_8) rfl ?_
      refine XS.bipush X0.here hx rfl (hb hby at_9) ?_
      refine XS.iload X0.here hx rfl (hb hby at_11) rfl ?_
      refine XS.isub X0.here hx rfl (hb hby at_13) rfl ?_
      refine iremM (g := (mkF m 14 #[.val (.int pp1), .val (.int pp2), .val (.int pp3), .val (.long qq4), .second, .val (.int (3 : Int32)), .unset, .unset, .unset, .unset, .unset, .unset, .unset, .unset, .unset] [(.int (6 : Int32)), (.int (pp2 &&& (2147483647 : Int32)))])) X0 hx rfl (hb hby at_14) rfl hc14_4 ?_
      refine XS.istore X0.here hx rfl (hb hby at_15) rfl (l' := #[.val (.int pp1), .val (.int pp2), .val (.int pp3), .val (.long qq4), .second, .val (.int (3 : Int32)), .val (.int ((pp2 &&& (2147483647 : Int32)) % (6 : Int32))), .unset, .unset, .unset, .unset, .unset, .unset, .unset, .unset]) rfl ?_
      refine XS.iloadN X0.here hx rfl (hb hby at_17) rfl ?_
      refine XS.iconst X0.here hx rfl (hb hby at_18) ?_
      refine XS.iand X0.here hx rfl (hb hby at_19) rfl ?_
      refine XS.istore X0.here hx rfl (hb hby at_20) rfl (l' := #[.val (.int pp1), .val (.int pp2), .val (.int pp3), .val (.long qq4), .second, .val (.int (3 : Int32)), .val (.int ((pp2 &&& (2147483647 : Int32)) % (6 : Int32))), .val (.int (pp3 &&& (3 : Int32))), .unset, .unset, .unset, .unset, .unset, .unset, .unset]) rfl ?_
      refine XS.iloadN X0.here hx rfl (hb hby at_22) rfl ?_
      refine XS.iconst X0.here hx rfl (hb hby at_23) ?_
      refine XS.iushr X0.here hx rfl (hb hby at_24) rfl ?_
      refine XS.iconst X0.here hx rfl (hb hby at_25) ?_
      refine XS.iand X0.here hx rfl (hb hby at_26) rfl ?_
      refine XS.istore X0.here hx rfl (hb hby at_27) rfl (l' := #[.val (.int pp1), .val (.int pp2), .val (.int pp3), .val (.long qq4), .second, .val (.int (3 : Int32)), .val (.int ((pp2 &&& (2147483647 : Int32)) % (6 : Int32))), .val (.int (pp3 &&& (3 : Int32))), .val (.int (((pp3.toUInt32 >>> ((2 : Int32) &&& 31).toUInt32).toInt32) &&& (3 : Int32))), .unset, .unset, .unset, .unset, .unset, .unset]) rfl ?_
      refine XS.iloadN X0.here hx rfl (hb hby at_29) rfl ?_
      refine XS.iconst X0.here hx rfl (hb hby at_30) ?_
      refine XS.iushr X0.here hx rfl (hb hby at_31) rfl ?_
      refine XS.iconst X0.here hx rfl (hb hby at_32) ?_
      refine XS.iand X0.here hx rfl (hb hby at_33) rfl ?_
      refine XS.istore X0.here hx rfl (hb hby at_34) rfl (l' := #[.val (.int pp1), .val (.int pp2), .val (.int pp3), .val (.long qq4), .second, .val (.int (3 : Int32)), .val (.int ((pp2 &&& (2147483647 : Int32)) % (6 : Int32))), .val (.int (pp3 &&& (3 : Int32))), .val (.int (((pp3.toUInt32 >>> ((2 : Int32) &&& 31).toUInt32).toInt32) &&& (3 : Int32))), .val (.int (((pp3.toUInt32 >>> ((4 : Int32) &&& 31).toUInt32).toInt32) &&& (3 : Int32))), .unset, .unset, .unset, .unset, .unset]) rfl ?_
      exact kt)
    obtain ⟨of, p0, p1, p2, h_of, h_p0, h_p1, h_p2, pre157⟩ : ∃ (of : Int32) (p0 : Int32) (p1 : Int32) (p2 : Int32), (0 ≤ of.toInt ∧ of.toInt < 6) ∧ (¬ p0 < (0 : Int32) ∧ p0 < (4 : Int32)) ∧ (¬ p1 < (0 : Int32) ∧ p1 < (4 : Int32)) ∧ (¬ p2 < (0 : Int32) ∧ p2 < (4 : Int32)) ∧ ∀ t, Steps p.tables e below (s₁.setTop (mkF m 36 #[.val (.int pp1), .val (.int pp2), .val (.int pp3), .val (.long qq4), .second, .val (.int (3 : Int32)), .val (.int of), .val (.int p0), .val (.int p1), .val (.int p2), .unset, .unset, .unset, .unset, .unset] [])) t → Steps p.tables e below (s₁.setTop (entryFrame m #[(.int pp1), (.int pp2), (.int pp3), (.long qq4)] maxLocals)) t := ⟨((pp2 &&& (2147483647 : Int32)) % (6 : Int32)), (pp3 &&& (3 : Int32)), (((pp3.toUInt32 >>> ((2 : Int32) &&& 31).toUInt32).toInt32) &&& (3 : Int32)), (((pp3.toUInt32 >>> ((4 : Int32) &&& 31).toUInt32).toInt32) &&& (3 : Int32)), own_off (k := 6) (by decide) (by decide), own_m4 _, own_m4 _, own_m4 _, pre156⟩
    obtain ⟨T158, h158, k158, X158, e158, E158, A158, st158⟩ := newP X0 hx hZ (hw _ (List.mem_of_getElem? (i := 1) rfl)) e0 (g := (mkF m 37 #[.val (.int pp1), .val (.int pp2), .val (.int pp3), .val (.long qq4), .second, .val (.int (3 : Int32)), .val (.int of), .val (.int p0), .val (.int p1), .val (.int p2), .unset, .unset, .unset, .unset, .unset] [(.int (4 : Int32))])) rfl (hb hby at_37) rfl (by decide) (cap := 4) (by decide) (by decide) (by decide) (by decide)
    obtain ⟨b158, g158⟩ : ∃ z, z = h0.size := ⟨_, rfl⟩
    rw [← g158] at A158 st158
    have g_b158 : n0 ≤ b158 := Nat.le_trans Z0 (Nat.le_of_eq g158.symm)
    have Z158 : n0 ≤ h158.size := Nat.le_trans Z0 E158.1
    have V158 : Arv Z h158 b158 k158 .double (4 : Int32) [(.double (0 : UInt64)), (.double (0 : UInt64)), (.double (0 : UInt64)), (.double (0 : UInt64))] (.double (0 : UInt64)) := (Arv.new A158 (by decide)).pad (pad_rep [] (.double (0 : UInt64)) 4)
    have pre159 : ∀ t, Steps p.tables e below (T158.setTop (mkF m 50 #[.val (.int pp1), .val (.int pp2), .val (.int pp3), .val (.long qq4), .second, .val (.int (3 : Int32)), .val (.int of), .val (.int p0), .val (.int p1), .val (.int p2), .val (.ref b158), .unset, .unset, .unset, .unset] [(.double (FP.l2d (qq4 &&& (255 : Int64)))), (.int (0 : Int32)), (.ref b158)])) t → Steps p.tables e below (s₁.setTop (entryFrame m #[(.int pp1), (.int pp2), (.int pp3), (.long qq4)] maxLocals)) t := fun t kt => pre157 t (by
      refine XS.iconst X0.here hx rfl (hb hby at_36) ?_
      refine st158 _ ?_
      refine XS.astore X158.here hx rfl (hb hby at_39) rfl rfl (l' := #[.val (.int pp1), .val (.int pp2), .val (.int pp3), .val (.long qq4), .second, .val (.int (3 : Int32)), .val (.int of), .val (.int p0), .val (.int p1), .val (.int p2), .val (.ref b158), .unset, .unset, .unset, .unset]) rfl ?_
      refine XS.aload X158.here hx rfl (hb hby at_41) rfl rfl ?_
      refine XS.iconst X158.here hx rfl (hb hby at_43) ?_
      refine XS.lloadN X158.here hx rfl (hb hby at_44) rfl ?_
      refine X158.ldc2Long hx hown (mvT hZ (hw _ (List.mem_of_getElem? (i := 2) rfl))) (g := (mkF m 45 #[.val (.int pp1), .val (.int pp2), .val (.int pp3), .val (.long qq4), .second, .val (.int (3 : Int32)), .val (.int of), .val (.int p0), .val (.int p1), .val (.int p2), .val (.ref b158), .unset, .unset, .unset, .unset] [(.long qq4), (.int (0 : Int32)), (.ref b158)])) rfl (hb hby at_45) _ ?_
      refine XS.land X158.here hx rfl (hb hby at_48) rfl ?_
      refine XS.l2dS X158.here hx rfl (hb hby at_49) rfl (v := (FP.l2d (qq4 &&& (255 : Int64)))) rfl ?_
      exact kt)
    obtain ⟨y0, h_y0, pre160⟩ : ∃ (y0 : UInt64), (Jvm.Free.Fl.NoNaN64 y0) ∧ ∀ t, Steps p.tables e below (T158.setTop (mkF m 50 #[.val (.int pp1), .val (.int pp2), .val (.int pp3), .val (.long qq4), .second, .val (.int (3 : Int32)), .val (.int of), .val (.int p0), .val (.int p1), .val (.int p2), .val (.ref b158), .unset, .unset, .unset, .unset] [(.double y0), (.int (0 : Int32)), (.ref b158)])) t → Steps p.tables e below (s₁.setTop (entryFrame m #[(.int pp1), (.int pp2), (.int pp3), (.long qq4)] maxLocals)) t := ⟨(FP.l2d (qq4 &&& (255 : Int64))), nn_w rfl, pre159⟩
    obtain ⟨cl_161, Ar_161, qq_161, Sz_161, Nn_161, Hh_161, Gg_161⟩ := id V158
    have hin_161 : ¬ ((0 : Int32) < 0 ∨ cl_161.slots.size ≤ ((0 : Int32)).toNatClampNeg) := inb_of Sz_161 ⟨by decide, by decide⟩
    obtain ⟨T162, h162, X162, e162, W162, st162⟩ := stD X158 hx hZ e158 Ar_161 (j := (0 : Int32)) hin_161 (g := (mkF m 50 #[.val (.int pp1), .val (.int pp2), .val (.int pp3), .val (.long qq4), .second, .val (.int (3 : Int32)), .val (.int of), .val (.int p0), .val (.int p1), .val (.int p2), .val (.ref b158), .unset, .unset, .unset, .unset] [(.double y0), (.int (0 : Int32)), (.ref b158)])) rfl rfl (hb hby at_50)
    have N162 := Fr.snoc X162 N0 g_b158
    have Z162 : n0 ≤ h162.size := Nat.le_trans Z158 (Keep.of_wr W162).1
    have V162 : Arv Z h162 b158 k158 .double (4 : Int32) [(.double y0), (.double (0 : UInt64)), (.double (0 : UInt64)), (.double (0 : UInt64))] (.double (0 : UInt64)) := Arv.set Ar_161 qq_161 Sz_161 Nn_161 Hh_161 Gg_161 rfl W162 0 rfl (Nat.le_of_ble_eq_true rfl)
    have pre163 : ∀ t, Steps p.tables e below (T162.setTop (mkF m 67 #[.val (.int pp1), .val (.int pp2), .val (.int pp3), .val (.long qq4), .second, .val (.int (3 : Int32)), .val (.int of), .val (.int p0), .val (.int p1), .val (.int p2), .val (.ref b158), .unset, .unset, .unset, .unset] [(.double (FP.l2d ((1000 : Int64) + (((qq4.toUInt64 >>> ((8 : Int32) &&& 0x3f).toInt64.toUInt64).toInt64) &&& (255 : Int64))))), (.int (1 : Int32)), (.ref b158)])) t → Steps p.tables e below (s₁.setTop (entryFrame m #[(.int pp1), (.int pp2), (.int pp3), (.long qq4)] maxLocals)) t := fun t kt => pre160 t (by
      refine st162 _ ?_
      refine XS.aload X162.here hx rfl (hb hby at_51) rfl rfl ?_
      refine XS.iconst X162.here hx rfl (hb hby at_53) ?_
      refine X162.ldc2Long hx hown (mvT hZ (hw _ (List.mem_of_getElem? (i := 3) rfl))) (g := (mkF m 54 #[.val (.int pp1), .val (.int pp2), .val (.int pp3), .val (.long qq4), .second, .val (.int (3 : Int32)), .val (.int of), .val (.int p0), .val (.int p1), .val (.int p2), .val (.ref b158), .unset, .unset, .unset, .unset] [(.int (1 : Int32)), (.ref b158)])) rfl (hb hby at_54) _ ?_
      refine XS.lloadN X162.here hx rfl (hb hby at_57) rfl ?_
      refine XS.bipush X162.here hx rfl (hb hby at_58) ?_
      refine XS.lushr X162.here hx rfl (hb hby at_60) rfl ?_
      refine X162.ldc2Long hx hown (mvT hZ (hw _ (List.mem_of_getElem? (i := 2) rfl))) (g := (mkF m 61 #[.val (.int pp1), .val (.int pp2), .val (.int pp3), .val (.long qq4), .second, .val (.int (3 : Int32)), .val (.int of), .val (.int p0), .val (.int p1), .val (.int p2), .val (.ref b158), .unset, .unset, .unset, .unset] [(.long ((qq4.toUInt64 >>> ((8 : Int32) &&& 0x3f).toInt64.toUInt64).toInt64)), (.long (1000 : Int64)), (.int (1 : Int32)), (.ref b158)])) rfl (hb hby at_61) _ ?_
      refine XS.land X162.here hx rfl (hb hby at_64) rfl ?_
      refine XS.ladd X162.here hx rfl (hb hby at_65) rfl ?_
      refine XS.l2dS X162.here hx rfl (hb hby at_66) rfl (v := (FP.l2d ((1000 : Int64) + (((qq4.toUInt64 >>> ((8 : Int32) &&& 0x3f).toInt64.toUInt64).toInt64) &&& (255 : Int64))))) rfl ?_
      exact kt)
    obtain ⟨y1, h_y1, pre164⟩ : ∃ (y1 : UInt64), (Jvm.Free.Fl.NoNaN64 y1) ∧ ∀ t, Steps p.tables e below (T162.setTop (mkF m 67 #[.val (.int pp1), .val (.int pp2), .val (.int pp3), .val (.long qq4), .second, .val (.int (3 : Int32)), .val (.int of), .val (.int p0), .val (.int p1), .val (.int p2), .val (.ref b158), .unset, .unset, .unset, .unset] [(.double y1), (.int (1 : Int32)), (.ref b158)])) t → Steps p.tables e below (s₁.setTop (entryFrame m #[(.int pp1), (.int pp2), (.int pp3), (.long qq4)] maxLocals)) t := ⟨(FP.l2d ((1000 : Int64) + (((qq4.toUInt64 >>> ((8 : Int32) &&& 0x3f).toInt64.toUInt64).toInt64) &&& (255 : Int64)))), nn_w rfl, pre163⟩
    obtain ⟨cl_165, Ar_165, qq_165, Sz_165, Nn_165, Hh_165, Gg_165⟩ := id V162
    have hin_165 : ¬ ((1 : Int32) < 0 ∨ cl_165.slots.size ≤ ((1 : Int32)).toNatClampNeg) := inb_of Sz_165 ⟨by decide, by decide⟩
    obtain ⟨T166, h166, X166, e166, W166, st166⟩ := stD X162 hx hZ e162 Ar_165 (j := (1 : Int32)) hin_165 (g := (mkF m 67 #[.val (.int pp1), .val (.int pp2), .val (.int pp3), .val (.long qq4), .second, .val (.int (3 : Int32)), .val (.int of), .val (.int p0), .val (.int p1), .val (.int p2), .val (.ref b158), .unset, .unset, .unset, .unset] [(.double y1), (.int (1 : Int32)), (.ref b158)])) rfl rfl (hb hby at_67)
    have N166 := Fr.snoc X166 N162 g_b158
    have Z166 : n0 ≤ h166.size := Nat.le_trans Z162 (Keep.of_wr W166).1
    have V166 : Arv Z h166 b158 k158 .double (4 : Int32) [(.double y0), (.double y1), (.double (0 : UInt64)), (.double (0 : UInt64))] (.double (0 : UInt64)) := Arv.set Ar_165 qq_165 Sz_165 Nn_165 Hh_165 Gg_165 rfl W166 1 rfl (Nat.le_of_ble_eq_true rfl)
    have pre167 : ∀ t, Steps p.tables e below (T166.setTop (mkF m 84 #[.val (.int pp1), .val (.int pp2), .val (.int pp3), .val (.long qq4), .second, .val (.int (3 : Int32)), .val (.int of), .val (.int p0), .val (.int p1), .val (.int p2), .val (.ref b158), .unset, .unset, .unset, .unset] [(.double (FP.l2d ((2000 : Int64) + (((qq4.toUInt64 >>> ((16 : Int32) &&& 0x3f).toInt64.toUInt64).toInt64) &&& (255 : Int64))))), (.int (2 : Int32)), (.ref b158)])) t → Steps p.tables e below (s₁.setTop (entryFrame m #[(.int pp1), (.int pp2), (.int pp3), (.long qq4)] maxLocals)) t := fun t kt => pre164 t (by
      refine st166 _ ?_
      refine XS.aload X166.here hx rfl (hb hby at_68) rfl rfl ?_
      refine XS.iconst X166.here hx rfl (hb hby at_70) ?_
      refine X166.ldc2Long hx hown (mvT hZ (hw _ (List.mem_of_getElem? (i := 4) rfl))) (g := (mkF m 71 #[.val (.int pp1), .val (.int pp2), .val (.int pp3), .val (.long qq4), .second, .val (.int (3 : Int32)), .val (.int of), .val (.int p0), .val (.int p1), .val (.int p2), .val (.ref b158), .unset, .unset, .unset, .unset] [(.int (2 : Int32)), (.ref b158)])) rfl (hb hby at_71) _ ?_
      refine XS.lloadN X166.here hx rfl (hb hby at_74) rfl ?_
      refine XS.bipush X166.here hx rfl (hb hby at_75) ?_
      refine XS.lushr X166.here hx rfl (hb hby at_77) rfl ?_
      refine X166.ldc2Long hx hown (mvT hZ (hw _ (List.mem_of_getElem? (i := 2) rfl))) (g := (mkF m 78 #[.val (.int pp1), .val (.int pp2), .val (.int pp3), .val (.long qq4), .second, .val (.int (3 : Int32)), .val (.int of), .val (.int p0), .val (.int p1), .val (.int p2), .val (.ref b158), .unset, .unset, .unset, .unset] [(.long ((qq4.toUInt64 >>> ((16 : Int32) &&& 0x3f).toInt64.toUInt64).toInt64)), (.long (2000 : Int64)), (.int (2 : Int32)), (.ref b158)])) rfl (hb hby at_78) _ ?_
      refine XS.land X166.here hx rfl (hb hby at_81) rfl ?_
      refine XS.ladd X166.here hx rfl (hb hby at_82) rfl ?_
      refine XS.l2dS X166.here hx rfl (hb hby at_83) rfl (v := (FP.l2d ((2000 : Int64) + (((qq4.toUInt64 >>> ((16 : Int32) &&& 0x3f).toInt64.toUInt64).toInt64) &&& (255 : Int64))))) rfl ?_
      exact kt)
    obtain ⟨y2, h_y2, pre168⟩ : ∃ (y2 : UInt64), (Jvm.Free.Fl.NoNaN64 y2) ∧ ∀ t, Steps p.tables e below (T166.setTop (mkF m 84 #[.val (.int pp1), .val (.int pp2), .val (.int pp3), .val (.long qq4), .second, .val (.int (3 : Int32)), .val (.int of), .val (.int p0), .val (.int p1), .val (.int p2), .val (.ref b158), .unset, .unset, .unset, .unset] [(.double y2), (.int (2 : Int32)), (.ref b158)])) t → Steps p.tables e below (s₁.setTop (entryFrame m #[(.int pp1), (.int pp2), (.int pp3), (.long qq4)] maxLocals)) t := ⟨(FP.l2d ((2000 : Int64) + (((qq4.toUInt64 >>> ((16 : Int32) &&& 0x3f).toInt64.toUInt64).toInt64) &&& (255 : Int64)))), nn_w rfl, pre167⟩
    obtain ⟨cl_169, Ar_169, qq_169, Sz_169, Nn_169, Hh_169, Gg_169⟩ := id V166
    have hin_169 : ¬ ((2 : Int32) < 0 ∨ cl_169.slots.size ≤ ((2 : Int32)).toNatClampNeg) := inb_of Sz_169 ⟨by decide, by decide⟩
    obtain ⟨T170, h170, X170, e170, W170, st170⟩ := stD X166 hx hZ e166 Ar_169 (j := (2 : Int32)) hin_169 (g := (mkF m 84 #[.val (.int pp1), .val (.int pp2), .val (.int pp3), .val (.long qq4), .second, .val (.int (3 : Int32)), .val (.int of), .val (.int p0), .val (.int p1), .val (.int p2), .val (.ref b158), .unset, .unset, .unset, .unset] [(.double y2), (.int (2 : Int32)), (.ref b158)])) rfl rfl (hb hby at_84)
    have N170 := Fr.snoc X170 N166 g_b158
    have Z170 : n0 ≤ h170.size := Nat.le_trans Z166 (Keep.of_wr W170).1
    have V170 : Arv Z h170 b158 k158 .double (4 : Int32) [(.double y0), (.double y1), (.double y2), (.double (0 : UInt64))] (.double (0 : UInt64)) := Arv.set Ar_169 qq_169 Sz_169 Nn_169 Hh_169 Gg_169 rfl W170 2 rfl (Nat.le_of_ble_eq_true rfl)
    have pre171 : ∀ t, Steps p.tables e below (T170.setTop (mkF m 101 #[.val (.int pp1), .val (.int pp2), .val (.int pp3), .val (.long qq4), .second, .val (.int (3 : Int32)), .val (.int of), .val (.int p0), .val (.int p1), .val (.int p2), .val (.ref b158), .unset, .unset, .unset, .unset] [(.double (FP.l2d ((3000 : Int64) + (((qq4.toUInt64 >>> ((24 : Int32) &&& 0x3f).toInt64.toUInt64).toInt64) &&& (255 : Int64))))), (.int (3 : Int32)), (.ref b158)])) t → Steps p.tables e below (s₁.setTop (entryFrame m #[(.int pp1), (.int pp2), (.int pp3), (.long qq4)] maxLocals)) t := fun t kt => pre168 t (by
      refine st170 _ ?_
      refine XS.aload X170.here hx rfl (hb hby at_85) rfl rfl ?_
      refine XS.iconst X170.here hx rfl (hb hby at_87) ?_
      refine X170.ldc2Long hx hown (mvT hZ (hw _ (List.mem_of_getElem? (i := 5) rfl))) (g := (mkF m 88 #[.val (.int pp1), .val (.int pp2), .val (.int pp3), .val (.long qq4), .second, .val (.int (3 : Int32)), .val (.int of), .val (.int p0), .val (.int p1), .val (.int p2), .val (.ref b158), .unset, .unset, .unset, .unset] [(.int (3 : Int32)), (.ref b158)])) rfl (hb hby at_88) _ ?_
      refine XS.lloadN X170.here hx rfl (hb hby at_91) rfl ?_
      refine XS.bipush X170.here hx rfl (hb hby at_92) ?_
      refine XS.lushr X170.here hx rfl (hb hby at_94) rfl ?_
      refine X170.ldc2Long hx hown (mvT hZ (hw _ (List.mem_of_getElem? (i := 2) rfl))) (g := (mkF m 95 #[.val (.int pp1), .val (.int pp2), .val (.int pp3), .val (.long qq4), .second, .val (.int (3 : Int32)), .val (.int of), .val (.int p0), .val (.int p1), .val (.int p2), .val (.ref b158), .unset, .unset, .unset, .unset] [(.long ((qq4.toUInt64 >>> ((24 : Int32) &&& 0x3f).toInt64.toUInt64).toInt64)), (.long (3000 : Int64)), (.int (3 : Int32)), (.ref b158)])) rfl (hb hby at_95) _ ?_
      refine XS.land X170.here hx rfl (hb hby at_98) rfl ?_
      refine XS.ladd X170.here hx rfl (hb hby at_99) rfl ?_
      refine XS.l2dS X170.here hx rfl (hb hby at_100) rfl (v := (FP.l2d ((3000 : Int64) + (((qq4.toUInt64 >>> ((24 : Int32) &&& 0x3f).toInt64.toUInt64).toInt64) &&& (255 : Int64))))) rfl ?_
      exact kt)
    obtain ⟨y3, h_y3, pre172⟩ : ∃ (y3 : UInt64), (Jvm.Free.Fl.NoNaN64 y3) ∧ ∀ t, Steps p.tables e below (T170.setTop (mkF m 101 #[.val (.int pp1), .val (.int pp2), .val (.int pp3), .val (.long qq4), .second, .val (.int (3 : Int32)), .val (.int of), .val (.int p0), .val (.int p1), .val (.int p2), .val (.ref b158), .unset, .unset, .unset, .unset] [(.double y3), (.int (3 : Int32)), (.ref b158)])) t → Steps p.tables e below (s₁.setTop (entryFrame m #[(.int pp1), (.int pp2), (.int pp3), (.long qq4)] maxLocals)) t := ⟨(FP.l2d ((3000 : Int64) + (((qq4.toUInt64 >>> ((24 : Int32) &&& 0x3f).toInt64.toUInt64).toInt64) &&& (255 : Int64)))), nn_w rfl, pre171⟩
    have ho0 : ¬ (of + (0 : Int32)) < (0 : Int32) ∧ (of + (0 : Int32)) < (8 : Int32) := (own_offk (0 : Int32) (J := 0) (k := 6) (by decide) h_of (by decide) (by decide)).resolve_right (by decide)
    have ho1 : ¬ (of + (1 : Int32)) < (0 : Int32) ∧ (of + (1 : Int32)) < (8 : Int32) := (own_offk (1 : Int32) (J := 1) (k := 6) (by decide) h_of (by decide) (by decide)).resolve_right (by decide)
    have ho2 : ¬ (of + (2 : Int32)) < (0 : Int32) ∧ (of + (2 : Int32)) < (8 : Int32) := (own_offk (2 : Int32) (J := 2) (k := 6) (by decide) h_of (by decide) (by decide)).resolve_right (by decide)
    obtain ⟨cl_173, Ar_173, qq_173, Sz_173, Nn_173, Hh_173, Gg_173⟩ := id V170
    have hin_173 : ¬ ((3 : Int32) < 0 ∨ cl_173.slots.size ≤ ((3 : Int32)).toNatClampNeg) := inb_of Sz_173 ⟨by decide, by decide⟩
    obtain ⟨T174, h174, X174, e174, W174, st174⟩ := stD X170 hx hZ e170 Ar_173 (j := (3 : Int32)) hin_173 (g := (mkF m 101 #[.val (.int pp1), .val (.int pp2), .val (.int pp3), .val (.long qq4), .second, .val (.int (3 : Int32)), .val (.int of), .val (.int p0), .val (.int p1), .val (.int p2), .val (.ref b158), .unset, .unset, .unset, .unset] [(.double y3), (.int (3 : Int32)), (.ref b158)])) rfl rfl (hb hby at_101)
    have N174 := Fr.snoc X174 N170 g_b158
    have Z174 : n0 ≤ h174.size := Nat.le_trans Z170 (Keep.of_wr W174).1
    have V174 : Arv Z h174 b158 k158 .double (4 : Int32) [(.double y0), (.double y1), (.double y2), (.double y3)] (.double (0 : UInt64)) := Arv.set Ar_173 qq_173 Sz_173 Nn_173 Hh_173 Gg_173 rfl W174 3 rfl (Nat.le_of_ble_eq_true rfl)
    obtain ⟨T175, h175, k175, X175, e175, E175, A175, st175⟩ := newP X174 hx hZ (hw _ (List.mem_of_getElem? (i := 6) rfl)) e174 (g := (mkF m 104 #[.val (.int pp1), .val (.int pp2), .val (.int pp3), .val (.long qq4), .second, .val (.int (3 : Int32)), .val (.int of), .val (.int p0), .val (.int p1), .val (.int p2), .val (.ref b158), .unset, .unset, .unset, .unset] [(.int (3 : Int32))])) rfl (hb hby at_104) rfl (by decide) (cap := 3) (by decide) (by decide) (by decide) (by decide)
    obtain ⟨b175, g175⟩ : ∃ z, z = h174.size := ⟨_, rfl⟩
    rw [← g175] at A175 st175
    have g_b175 : n0 ≤ b175 := Nat.le_trans Z174 (Nat.le_of_eq g175.symm)
    have Z175 : n0 ≤ h175.size := Nat.le_trans Z174 E175.1
    have V175 : Arv Z h175 b175 k175 .int (3 : Int32) [(.int (0 : Int32)), (.int (0 : Int32)), (.int (0 : Int32))] (.int (0 : Int32)) := (Arv.new A175 (by decide)).pad (pad_rep [] (.int (0 : Int32)) 3)
    have hc110_4 : (0 : Int32) < (3 : Int32) := by decide
    obtain ⟨cl_176, Ar_176, qq_176, Sz_176, Nn_176, Hh_176, Gg_176⟩ := id V175
    have hin_176 : ¬ ((0 : Int32) < 0 ∨ cl_176.slots.size ≤ ((0 : Int32)).toNatClampNeg) := inb_of Sz_176 ⟨by decide, by decide⟩
    obtain ⟨T177, h177, X177, e177, W177, st177⟩ := stI X175 hx hZ e175 Ar_176 (j := (0 : Int32)) hin_176 (g := (mkF m 118 #[.val (.int pp1), .val (.int pp2), .val (.int pp3), .val (.long qq4), .second, .val (.int (3 : Int32)), .val (.int of), .val (.int p0), .val (.int p1), .val (.int p2), .val (.ref b158), .val (.ref b175), .unset, .unset, .unset] [(.int p0), (.int (0 : Int32)), (.ref b175)])) rfl rfl (hb hby at_118)
    have N177 := Fr.snoc X177 N174 g_b175
    have Z177 : n0 ≤ h177.size := Nat.le_trans Z175 (Keep.of_wr W177).1
    have V177 : Arv Z h177 b175 k175 .int (3 : Int32) [(.int p0), (.int (0 : Int32)), (.int (0 : Int32))] (.int (0 : Int32)) := Arv.set Ar_176 qq_176 Sz_176 Nn_176 Hh_176 Gg_176 rfl W177 0 rfl (Nat.le_of_ble_eq_true rfl)
    have hc122_4 : (1 : Int32) < (3 : Int32) := by decide
    obtain ⟨cl_178, Ar_178, qq_178, Sz_178, Nn_178, Hh_178, Gg_178⟩ := id V177
    have hin_178 : ¬ ((1 : Int32) < 0 ∨ cl_178.slots.size ≤ ((1 : Int32)).toNatClampNeg) := inb_of Sz_178 ⟨by decide, by decide⟩
    obtain ⟨T179, h179, X179, e179, W179, st179⟩ := stI X177 hx hZ e177 Ar_178 (j := (1 : Int32)) hin_178 (g := (mkF m 130 #[.val (.int pp1), .val (.int pp2), .val (.int pp3), .val (.long qq4), .second, .val (.int (3 : Int32)), .val (.int of), .val (.int p0), .val (.int p1), .val (.int p2), .val (.ref b158), .val (.ref b175), .unset, .unset, .unset] [(.int p1), (.int (1 : Int32)), (.ref b175)])) rfl rfl (hb hby at_130)
    have N179 := Fr.snoc X179 N177 g_b175
    have Z179 : n0 ≤ h179.size := Nat.le_trans Z177 (Keep.of_wr W179).1
    have V179 : Arv Z h179 b175 k175 .int (3 : Int32) [(.int p0), (.int p1), (.int (0 : Int32))] (.int (0 : Int32)) := Arv.set Ar_178 qq_178 Sz_178 Nn_178 Hh_178 Gg_178 rfl W179 1 rfl (Nat.le_of_ble_eq_true rfl)
    have hc134_4 : (2 : Int32) < (3 : Int32) := by decide
    obtain ⟨cl_180, Ar_180, qq_180, Sz_180, Nn_180, Hh_180, Gg_180⟩ := id V179
    have hin_180 : ¬ ((2 : Int32) < 0 ∨ cl_180.slots.size ≤ ((2 : Int32)).toNatClampNeg) := inb_of Sz_180 ⟨by decide, by decide⟩
    obtain ⟨T181, h181, X181, e181, W181, st181⟩ := stI X179 hx hZ e179 Ar_180 (j := (2 : Int32)) hin_180 (g := (mkF m 142 #[.val (.int pp1), .val (.int pp2), .val (.int pp3), .val (.long qq4), .second, .val (.int (3 : Int32)), .val (.int of), .val (.int p0), .val (.int p1), .val (.int p2), .val (.ref b158), .val (.ref b175), .unset, .unset, .unset] [(.int p2), (.int (2 : Int32)), (.ref b175)])) rfl rfl (hb hby at_142)
    have N181 := Fr.snoc X181 N179 g_b175
    have Z181 : n0 ≤ h181.size := Nat.le_trans Z179 (Keep.of_wr W181).1
    have V181 : Arv Z h181 b175 k175 .int (3 : Int32) [(.int p0), (.int p1), (.int p2)] (.int (0 : Int32)) := Arv.set Ar_180 qq_180 Sz_180 Nn_180 Hh_180 Gg_180 rfl W181 2 rfl (Nat.le_of_ble_eq_true rfl)
    obtain ⟨T182, h182, k182, X182, e182, E182, A182, st182⟩ := newP X181 hx hZ (hw _ (List.mem_of_getElem? (i := 1) rfl)) e181 (g := (mkF m 145 #[.val (.int pp1), .val (.int pp2), .val (.int pp3), .val (.long qq4), .second, .val (.int (3 : Int32)), .val (.int of), .val (.int p0), .val (.int p1), .val (.int p2), .val (.ref b158), .val (.ref b175), .unset, .unset, .unset] [(.int (8 : Int32))])) rfl (hb hby at_145) rfl (by decide) (cap := 8) (by decide) (by decide) (by decide) (by decide)
    obtain ⟨b182, g182⟩ : ∃ z, z = h181.size := ⟨_, rfl⟩
    rw [← g182] at A182 st182
    have g_b182 : n0 ≤ b182 := Nat.le_trans Z181 (Nat.le_of_eq g182.symm)
    have Z182 : n0 ≤ h182.size := Nat.le_trans Z181 E182.1
    have V182 : Arv Z h182 b182 k182 .double (8 : Int32) [(.double (0 : UInt64)), (.double (0 : UInt64)), (.double (0 : UInt64)), (.double (0 : UInt64)), (.double (0 : UInt64)), (.double (0 : UInt64)), (.double (0 : UInt64)), (.double (0 : UInt64))] (.double (0 : UInt64)) := (Arv.new A182 (by decide)).pad (pad_rep [] (.double (0 : UInt64)) 8)
    obtain ⟨cl_183, Ar_183, qq_183, Sz_183, Nn_183, Hh_183, Gg_183⟩ := id V182
    have hin_183 : ¬ ((0 : Int32) < 0 ∨ cl_183.slots.size ≤ ((0 : Int32)).toNatClampNeg) := inb_of Sz_183 ⟨by decide, by decide⟩
    obtain ⟨T184, h184, X184, e184, W184, st184⟩ := stD X182 hx hZ e182 Ar_183 (j := (0 : Int32)) hin_183 (g := (mkF m 155 #[.val (.int pp1), .val (.int pp2), .val (.int pp3), .val (.long qq4), .second, .val (.int (3 : Int32)), .val (.int of), .val (.int p0), .val (.int p1), .val (.int p2), .val (.ref b158), .val (.ref b175), .val (.ref b182), .unset, .unset] [(.double (13830554455654793216 : UInt64)), (.int (0 : Int32)), (.ref b182)])) rfl rfl (hb hby at_155)
    have N184 := Fr.snoc X184 N181 g_b182
    have Z184 : n0 ≤ h184.size := Nat.le_trans Z182 (Keep.of_wr W184).1
    have V184 : Arv Z h184 b182 k182 .double (8 : Int32) [(.double (13830554455654793216 : UInt64)), (.double (0 : UInt64)), (.double (0 : UInt64)), (.double (0 : UInt64)), (.double (0 : UInt64)), (.double (0 : UInt64)), (.double (0 : UInt64)), (.double (0 : UInt64))] (.double (0 : UInt64)) := Arv.set Ar_183 qq_183 Sz_183 Nn_183 Hh_183 Gg_183 rfl W184 0 rfl (Nat.le_of_ble_eq_true rfl)
    obtain ⟨cl_185, Ar_185, qq_185, Sz_185, Nn_185, Hh_185, Gg_185⟩ := id V184
    have hin_185 : ¬ ((1 : Int32) < 0 ∨ cl_185.slots.size ≤ ((1 : Int32)).toNatClampNeg) := inb_of Sz_185 ⟨by decide, by decide⟩
    obtain ⟨T186, h186, X186, e186, W186, st186⟩ := stD X184 hx hZ e184 Ar_185 (j := (1 : Int32)) hin_185 (g := (mkF m 162 #[.val (.int pp1), .val (.int pp2), .val (.int pp3), .val (.long qq4), .second, .val (.int (3 : Int32)), .val (.int of), .val (.int p0), .val (.int p1), .val (.int p2), .val (.ref b158), .val (.ref b175), .val (.ref b182), .unset, .unset] [(.double (13835058055282163712 : UInt64)), (.int (1 : Int32)), (.ref b182)])) rfl rfl (hb hby at_162)
    have N186 := Fr.snoc X186 N184 g_b182
    have Z186 : n0 ≤ h186.size := Nat.le_trans Z184 (Keep.of_wr W186).1
    have V186 : Arv Z h186 b182 k182 .double (8 : Int32) [(.double (13830554455654793216 : UInt64)), (.double (13835058055282163712 : UInt64)), (.double (0 : UInt64)), (.double (0 : UInt64)), (.double (0 : UInt64)), (.double (0 : UInt64)), (.double (0 : UInt64)), (.double (0 : UInt64))] (.double (0 : UInt64)) := Arv.set Ar_185 qq_185 Sz_185 Nn_185 Hh_185 Gg_185 rfl W186 1 rfl (Nat.le_of_ble_eq_true rfl)
    obtain ⟨cl_187, Ar_187, qq_187, Sz_187, Nn_187, Hh_187, Gg_187⟩ := id V186
    have hin_187 : ¬ ((2 : Int32) < 0 ∨ cl_187.slots.size ≤ ((2 : Int32)).toNatClampNeg) := inb_of Sz_187 ⟨by decide, by decide⟩
    obtain ⟨T188, h188, X188, e188, W188, st188⟩ := stD X186 hx hZ e186 Ar_187 (j := (2 : Int32)) hin_187 (g := (mkF m 169 #[.val (.int pp1), .val (.int pp2), .val (.int pp3), .val (.long qq4), .second, .val (.int (3 : Int32)), .val (.int of), .val (.int p0), .val (.int p1), .val (.int p2), .val (.ref b158), .val (.ref b175), .val (.ref b182), .unset, .unset] [(.double (13837309855095848960 : UInt64)), (.int (2 : Int32)), (.ref b182)])) rfl rfl (hb hby at_169)
    have N188 := Fr.snoc X188 N186 g_b182
    have Z188 : n0 ≤ h188.size := Nat.le_trans Z186 (Keep.of_wr W188).1
    have V188 : Arv Z h188 b182 k182 .double (8 : Int32) [(.double (13830554455654793216 : UInt64)), (.double (13835058055282163712 : UInt64)), (.double (13837309855095848960 : UInt64)), (.double (0 : UInt64)), (.double (0 : UInt64)), (.double (0 : UInt64)), (.double (0 : UInt64)), (.double (0 : UInt64))] (.double (0 : UInt64)) := Arv.set Ar_187 qq_187 Sz_187 Nn_187 Hh_187 Gg_187 rfl W188 2 rfl (Nat.le_of_ble_eq_true rfl)
    obtain ⟨cl_189, Ar_189, qq_189, Sz_189, Nn_189, Hh_189, Gg_189⟩ := id V188
    have hin_189 : ¬ ((3 : Int32) < 0 ∨ cl_189.slots.size ≤ ((3 : Int32)).toNatClampNeg) := inb_of Sz_189 ⟨by decide, by decide⟩
    obtain ⟨T190, h190, X190, e190, W190, st190⟩ := stD X188 hx hZ e188 Ar_189 (j := (3 : Int32)) hin_189 (g := (mkF m 176 #[.val (.int pp1), .val (.int pp2), .val (.int pp3), .val (.long qq4), .second, .val (.int (3 : Int32)), .val (.int of), .val (.int p0), .val (.int p1), .val (.int p2), .val (.ref b158), .val (.ref b175), .val (.ref b182), .unset, .unset] [(.double (13839561654909534208 : UInt64)), (.int (3 : Int32)), (.ref b182)])) rfl rfl (hb hby at_176)
    have N190 := Fr.snoc X190 N188 g_b182
    have Z190 : n0 ≤ h190.size := Nat.le_trans Z188 (Keep.of_wr W190).1
    have V190 : Arv Z h190 b182 k182 .double (8 : Int32) [(.double (13830554455654793216 : UInt64)), (.double (13835058055282163712 : UInt64)), (.double (13837309855095848960 : UInt64)), (.double (13839561654909534208 : UInt64)), (.double (0 : UInt64)), (.double (0 : UInt64)), (.double (0 : UInt64)), (.double (0 : UInt64))] (.double (0 : UInt64)) := Arv.set Ar_189 qq_189 Sz_189 Nn_189 Hh_189 Gg_189 rfl W190 3 rfl (Nat.le_of_ble_eq_true rfl)
    obtain ⟨cl_191, Ar_191, qq_191, Sz_191, Nn_191, Hh_191, Gg_191⟩ := id V190
    have hin_191 : ¬ ((4 : Int32) < 0 ∨ cl_191.slots.size ≤ ((4 : Int32)).toNatClampNeg) := inb_of Sz_191 ⟨by decide, by decide⟩
    obtain ⟨T192, h192, X192, e192, W192, st192⟩ := stD X190 hx hZ e190 Ar_191 (j := (4 : Int32)) hin_191 (g := (mkF m 183 #[.val (.int pp1), .val (.int pp2), .val (.int pp3), .val (.long qq4), .second, .val (.int (3 : Int32)), .val (.int of), .val (.int p0), .val (.int p1), .val (.int p2), .val (.ref b158), .val (.ref b175), .val (.ref b182), .unset, .unset] [(.double (13840687554816376832 : UInt64)), (.int (4 : Int32)), (.ref b182)])) rfl rfl (hb hby at_183)
    have N192 := Fr.snoc X192 N190 g_b182
    have Z192 : n0 ≤ h192.size := Nat.le_trans Z190 (Keep.of_wr W192).1
    have V192 : Arv Z h192 b182 k182 .double (8 : Int32) [(.double (13830554455654793216 : UInt64)), (.double (13835058055282163712 : UInt64)), (.double (13837309855095848960 : UInt64)), (.double (13839561654909534208 : UInt64)), (.double (13840687554816376832 : UInt64)), (.double (0 : UInt64)), (.double (0 : UInt64)), (.double (0 : UInt64))] (.double (0 : UInt64)) := Arv.set Ar_191 qq_191 Sz_191 Nn_191 Hh_191 Gg_191 rfl W192 4 rfl (Nat.le_of_ble_eq_true rfl)
    obtain ⟨cl_193, Ar_193, qq_193, Sz_193, Nn_193, Hh_193, Gg_193⟩ := id V192
    have hin_193 : ¬ ((5 : Int32) < 0 ∨ cl_193.slots.size ≤ ((5 : Int32)).toNatClampNeg) := inb_of Sz_193 ⟨by decide, by decide⟩
    obtain ⟨T194, h194, X194, e194, W194, st194⟩ := stD X192 hx hZ e192 Ar_193 (j := (5 : Int32)) hin_193 (g := (mkF m 190 #[.val (.int pp1), .val (.int pp2), .val (.int pp3), .val (.long qq4), .second, .val (.int (3 : Int32)), .val (.int of), .val (.int p0), .val (.int p1), .val (.int p2), .val (.ref b158), .val (.ref b175), .val (.ref b182), .unset, .unset] [(.double (13841813454723219456 : UInt64)), (.int (5 : Int32)), (.ref b182)])) rfl rfl (hb hby at_190)
    have N194 := Fr.snoc X194 N192 g_b182
    have Z194 : n0 ≤ h194.size := Nat.le_trans Z192 (Keep.of_wr W194).1
    have V194 : Arv Z h194 b182 k182 .double (8 : Int32) [(.double (13830554455654793216 : UInt64)), (.double (13835058055282163712 : UInt64)), (.double (13837309855095848960 : UInt64)), (.double (13839561654909534208 : UInt64)), (.double (13840687554816376832 : UInt64)), (.double (13841813454723219456 : UInt64)), (.double (0 : UInt64)), (.double (0 : UInt64))] (.double (0 : UInt64)) := Arv.set Ar_193 qq_193 Sz_193 Nn_193 Hh_193 Gg_193 rfl W194 5 rfl (Nat.le_of_ble_eq_true rfl)
    obtain ⟨cl_195, Ar_195, qq_195, Sz_195, Nn_195, Hh_195, Gg_195⟩ := id V194
    have hin_195 : ¬ ((6 : Int32) < 0 ∨ cl_195.slots.size ≤ ((6 : Int32)).toNatClampNeg) := inb_of Sz_195 ⟨by decide, by decide⟩
    obtain ⟨T196, h196, X196, e196, W196, st196⟩ := stD X194 hx hZ e194 Ar_195 (j := (6 : Int32)) hin_195 (g := (mkF m 198 #[.val (.int pp1), .val (.int pp2), .val (.int pp3), .val (.long qq4), .second, .val (.int (3 : Int32)), .val (.int of), .val (.int p0), .val (.int p1), .val (.int p2), .val (.ref b158), .val (.ref b175), .val (.ref b182), .unset, .unset] [(.double (13842939354630062080 : UInt64)), (.int (6 : Int32)), (.ref b182)])) rfl rfl (hb hby at_198)
    have N196 := Fr.snoc X196 N194 g_b182
    have Z196 : n0 ≤ h196.size := Nat.le_trans Z194 (Keep.of_wr W196).1
    have V196 : Arv Z h196 b182 k182 .double (8 : Int32) [(.double (13830554455654793216 : UInt64)), (.double (13835058055282163712 : UInt64)), (.double (13837309855095848960 : UInt64)), (.double (13839561654909534208 : UInt64)), (.double (13840687554816376832 : UInt64)), (.double (13841813454723219456 : UInt64)), (.double (13842939354630062080 : UInt64)), (.double (0 : UInt64))] (.double (0 : UInt64)) := Arv.set Ar_195 qq_195 Sz_195 Nn_195 Hh_195 Gg_195 rfl W196 6 rfl (Nat.le_of_ble_eq_true rfl)
    obtain ⟨cl_197, Ar_197, qq_197, Sz_197, Nn_197, Hh_197, Gg_197⟩ := id V196
    have hin_197 : ¬ ((7 : Int32) < 0 ∨ cl_197.slots.size ≤ ((7 : Int32)).toNatClampNeg) := inb_of Sz_197 ⟨by decide, by decide⟩
    obtain ⟨T198, h198, X198, e198, W198, st198⟩ := stD X196 hx hZ e196 Ar_197 (j := (7 : Int32)) hin_197 (g := (mkF m 206 #[.val (.int pp1), .val (.int pp2), .val (.int pp3), .val (.long qq4), .second, .val (.int (3 : Int32)), .val (.int of), .val (.int p0), .val (.int p1), .val (.int p2), .val (.ref b158), .val (.ref b175), .val (.ref b182), .unset, .unset] [(.double (13844065254536904704 : UInt64)), (.int (7 : Int32)), (.ref b182)])) rfl rfl (hb hby at_206)
    have N198 := Fr.snoc X198 N196 g_b182
    have Z198 : n0 ≤ h198.size := Nat.le_trans Z196 (Keep.of_wr W198).1
    have V198 : Arv Z h198 b182 k182 .double (8 : Int32) [(.double (13830554455654793216 : UInt64)), (.double (13835058055282163712 : UInt64)), (.double (13837309855095848960 : UInt64)), (.double (13839561654909534208 : UInt64)), (.double (13840687554816376832 : UInt64)), (.double (13841813454723219456 : UInt64)), (.double (13842939354630062080 : UInt64)), (.double (13844065254536904704 : UInt64))] (.double (0 : UInt64)) := Arv.set Ar_197 qq_197 Sz_197 Nn_197 Hh_197 Gg_197 rfl W198 7 rfl (Nat.le_of_ble_eq_true rfl)
    have V_199 : Arv Z h198 b175 k175 .int (3 : Int32) [(.int p0), (.int p1), (.int p2)] (.int (0 : Int32)) := (((((((((V181.ext E182).other W184 (Nat.ne_of_lt (Nat.lt_of_lt_of_le V181.lt (Nat.le_of_eq g182.symm)))).other W186 (Nat.ne_of_lt (Nat.lt_of_lt_of_le V181.lt (Nat.le_of_eq g182.symm)))).other W188 (Nat.ne_of_lt (Nat.lt_of_lt_of_le V181.lt (Nat.le_of_eq g182.symm)))).other W190 (Nat.ne_of_lt (Nat.lt_of_lt_of_le V181.lt (Nat.le_of_eq g182.symm)))).other W192 (Nat.ne_of_lt (Nat.lt_of_lt_of_le V181.lt (Nat.le_of_eq g182.symm)))).other W194 (Nat.ne_of_lt (Nat.lt_of_lt_of_le V181.lt (Nat.le_of_eq g182.symm)))).other W196 (Nat.ne_of_lt (Nat.lt_of_lt_of_le V181.lt (Nat.le_of_eq g182.symm)))).other W198 (Nat.ne_of_lt (Nat.lt_of_lt_of_le V181.lt (Nat.le_of_eq g182.symm))))
    have V_200 : Arv Z h198 b158 k158 .double (4 : Int32) [(.double y0), (.double y1), (.double y2), (.double y3)] (.double (0 : UInt64)) := (((((((((((((V174.ext E175).other W177 (Nat.ne_of_lt (Nat.lt_of_lt_of_le V174.lt (Nat.le_of_eq g175.symm)))).other W179 (Nat.ne_of_lt (Nat.lt_of_lt_of_le V174.lt (Nat.le_of_eq g175.symm)))).other W181 (Nat.ne_of_lt (Nat.lt_of_lt_of_le V174.lt (Nat.le_of_eq g175.symm)))).ext E182).other W184 (Nat.ne_of_lt (Nat.lt_of_lt_of_le ((((V174.ext E175).other W177 (Nat.ne_of_lt (Nat.lt_of_lt_of_le V174.lt (Nat.le_of_eq g175.symm)))).other W179 (Nat.ne_of_lt (Nat.lt_of_lt_of_le V174.lt (Nat.le_of_eq g175.symm)))).other W181 (Nat.ne_of_lt (Nat.lt_of_lt_of_le V174.lt (Nat.le_of_eq g175.symm)))).lt (Nat.le_of_eq g182.symm)))).other W186 (Nat.ne_of_lt (Nat.lt_of_lt_of_le ((((V174.ext E175).other W177 (Nat.ne_of_lt (Nat.lt_of_lt_of_le V174.lt (Nat.le_of_eq g175.symm)))).other W179 (Nat.ne_of_lt (Nat.lt_of_lt_of_le V174.lt (Nat.le_of_eq g175.symm)))).other W181 (Nat.ne_of_lt (Nat.lt_of_lt_of_le V174.lt (Nat.le_of_eq g175.symm)))).lt (Nat.le_of_eq g182.symm)))).other W188 (Nat.ne_of_lt (Nat.lt_of_lt_of_le ((((V174.ext E175).other W177 (Nat.ne_of_lt (Nat.lt_of_lt_of_le V174.lt (Nat.le_of_eq g175.symm)))).other W179 (Nat.ne_of_lt (Nat.lt_of_lt_of_le V174.lt (Nat.le_of_eq g175.symm)))).other W181 (Nat.ne_of_lt (Nat.lt_of_lt_of_le V174.lt (Nat.le_of_eq g175.symm)))).lt (Nat.le_of_eq g182.symm)))).other W190 (Nat.ne_of_lt (Nat.lt_of_lt_of_le ((((V174.ext E175).other W177 (Nat.ne_of_lt (Nat.lt_of_lt_of_le V174.lt (Nat.le_of_eq g175.symm)))).other W179 (Nat.ne_of_lt (Nat.lt_of_lt_of_le V174.lt (Nat.le_of_eq g175.symm)))).other W181 (Nat.ne_of_lt (Nat.lt_of_lt_of_le V174.lt (Nat.le_of_eq g175.symm)))).lt (Nat.le_of_eq g182.symm)))).other W192 (Nat.ne_of_lt (Nat.lt_of_lt_of_le ((((V174.ext E175).other W177 (Nat.ne_of_lt (Nat.lt_of_lt_of_le V174.lt (Nat.le_of_eq g175.symm)))).other W179 (Nat.ne_of_lt (Nat.lt_of_lt_of_le V174.lt (Nat.le_of_eq g175.symm)))).other W181 (Nat.ne_of_lt (Nat.lt_of_lt_of_le V174.lt (Nat.le_of_eq g175.symm)))).lt (Nat.le_of_eq g182.symm)))).other W194 (Nat.ne_of_lt (Nat.lt_of_lt_of_le ((((V174.ext E175).other W177 (Nat.ne_of_lt (Nat.lt_of_lt_of_le V174.lt (Nat.le_of_eq g175.symm)))).other W179 (Nat.ne_of_lt (Nat.lt_of_lt_of_le V174.lt (Nat.le_of_eq g175.symm)))).other W181 (Nat.ne_of_lt (Nat.lt_of_lt_of_le V174.lt (Nat.le_of_eq g175.symm)))).lt (Nat.le_of_eq g182.symm)))).other W196 (Nat.ne_of_lt (Nat.lt_of_lt_of_le ((((V174.ext E175).other W177 (Nat.ne_of_lt (Nat.lt_of_lt_of_le V174.lt (Nat.le_of_eq g175.symm)))).other W179 (Nat.ne_of_lt (Nat.lt_of_lt_of_le V174.lt (Nat.le_of_eq g175.symm)))).other W181 (Nat.ne_of_lt (Nat.lt_of_lt_of_le V174.lt (Nat.le_of_eq g175.symm)))).lt (Nat.le_of_eq g182.symm)))).other W198 (Nat.ne_of_lt (Nat.lt_of_lt_of_le ((((V174.ext E175).other W177 (Nat.ne_of_lt (Nat.lt_of_lt_of_le V174.lt (Nat.le_of_eq g175.symm)))).other W179 (Nat.ne_of_lt (Nat.lt_of_lt_of_le V174.lt (Nat.le_of_eq g175.symm)))).other W181 (Nat.ne_of_lt (Nat.lt_of_lt_of_le V174.lt (Nat.le_of_eq g175.symm)))).lt (Nat.le_of_eq g182.symm))))
    obtain ⟨_, _, ⟨T201, L201, k201, n201⟩, -, X201, ⟨Lc201, hQ201, l201, y201, z201⟩, st201⟩ := Jvm.LawKit.callS X198 hx (y := (⟨"com/example/splitgrain/splitgrain/parse/ChartItems", "gather", "([I[D[DI)[D"⟩ : MethodName)) hown (mvT hZ (hw _ (List.mem_of_getElem? (i := 15) rfl))) (mvT hZ (hw _ (List.mem_of_getElem? (i := 16) rfl))) (mvT hZ (hw _ (List.mem_of_getElem? (i := 17) rfl))) (mvT hZ (hw _ (List.mem_of_getElem? (i := 18) rfl))) (by decide) (backOf (W := 0) (rm1_3 l Z a0 hw [] b175 b158 b182 of k175 k158 k182 [(.double y0), (.double y1), (.double y2), (.double y3)] [(.double (13830554455654793216 : UInt64)), (.double (13835058055282163712 : UInt64)), (.double (13837309855095848960 : UInt64)), (.double (13839561654909534208 : UInt64)), (.double (13840687554816376832 : UInt64)), (.double (13841813454723219456 : UInt64)), (.double (13842939354630062080 : UInt64)), (.double (13844065254536904704 : UInt64))] p0 p1 p2 (own_pick p0 y0 y1 y2 y3) (own_pick p1 y0 y1 y2 y3) (own_pick p2 y0 y1 y2 y3) h198 n0 Z198 V_199 V_200 V198 g_b182 (Nat.ne_of_lt (Nat.lt_of_lt_of_le V181.lt (Nat.le_of_eq g182.symm))) (Nat.ne_of_lt (Nat.lt_of_lt_of_le ((((V174.ext E175).other W177 (Nat.ne_of_lt (Nat.lt_of_lt_of_le V174.lt (Nat.le_of_eq g175.symm)))).other W179 (Nat.ne_of_lt (Nat.lt_of_lt_of_le V174.lt (Nat.le_of_eq g175.symm)))).other W181 (Nat.ne_of_lt (Nat.lt_of_lt_of_le V174.lt (Nat.le_of_eq g175.symm)))).lt (Nat.le_of_eq g182.symm))) (show ([(.double (13830554455654793216 : UInt64)), (.double (13835058055282163712 : UInt64)), (.double (13837309855095848960 : UInt64)), (.double (13839561654909534208 : UInt64)), (.double (13840687554816376832 : UInt64)), (.double (13841813454723219456 : UInt64)), (.double (13842939354630062080 : UInt64)), (.double (13844065254536904704 : UInt64))] : List Value).length = 8 from rfl) (show ¬ p0 < (0 : Int32) ∧ p0 < (4 : Int32) from h_p0) (show ¬ p1 < (0 : Int32) ∧ p1 < (4 : Int32) from h_p1) (show ¬ p2 < (0 : Int32) ∧ p2 < (4 : Int32) from h_p2) (show ([(.double y0), (.double y1), (.double y2), (.double y3)] : List Value).getD (p0).toNatClampNeg (.double (0 : UInt64)) = .double (own_pick p0 y0 y1 y2 y3) from (own_pickAt _ _ _ _ _ h_p0)) (show ([(.double y0), (.double y1), (.double y2), (.double y3)] : List Value).getD (p1).toNatClampNeg (.double (0 : UInt64)) = .double (own_pick p1 y0 y1 y2 y3) from (own_pickAt _ _ _ _ _ h_p1)) (show ([(.double y0), (.double y1), (.double y2), (.double y3)] : List Value).getD (p2).toNatClampNeg (.double (0 : UInt64)) = .double (own_pick p2 y0 y1 y2 y3) from (own_pickAt _ _ _ _ _ h_p2)) (show ¬ (of + (0 : Int32)) < (0 : Int32) ∧ (of + (0 : Int32)) < (8 : Int32) from ho0) (show ¬ (of + (1 : Int32)) < (0 : Int32) ∧ (of + (1 : Int32)) < (8 : Int32) from ho1) (show ¬ (of + (2 : Int32)) < (0 : Int32) ∧ (of + (2 : Int32)) < (8 : Int32) from ho2)) hZ (hw _ (List.mem_of_getElem? (i := 18) rfl)) (hw _ (List.mem_of_getElem? (i := 17) rfl)) (by decide) (by decide)) (g := (mkF m 215 #[.val (.int pp1), .val (.int pp2), .val (.int pp3), .val (.long qq4), .second, .val (.int (3 : Int32)), .val (.int of), .val (.int p0), .val (.int p1), .val (.int p2), .val (.ref b158), .val (.ref b175), .val (.ref b182), .unset, .unset] [(.int of), (.ref b182), (.ref b158), (.ref b175)])) rfl (by rw [hml]; rfl) (argsL := [(.ref b175), (.ref b158), (.ref b182), (.int of)]) (rest := []) (lenOf pd__28__5b_I_5b_D_5b_DI_29__5b_D rfl) rfl (by show 2 * 0 + _ ≤ _; exact Nat.le_of_eq rfl) (hb hby at_215) (fun _ _ => ⟨rfl, e198, (by decide : 3 + 0 ≤ _), (by decide : 15 + 0 ≤ _)⟩)
    dsimp only [Pt.U, Pt.locs, Pt.cells, Pt.slots] at X201 l201 y201 z201 st201 hQ201
    subst y201 z201
    obtain ⟨rfl, N201q, K201c, R201_0⟩ := hQ201
    have N201 : Fr n0 L201 := by rw [l201]; exact Fr.app N198 N201q
    have Z201 : n0 ≤ T201.heap.size := Nat.le_trans Z198 K201c.1
    change Stand _ _ _ _ _ _ _ _ _ _ _ _ 3 15 at X201
    have hc236_4 : ¬ ((1 : Int32) = (0 : Int32)) := by decide
    have V_202 : Arv Z T201.heap b158 k158 .double (4 : Int32) [(.double y0), (.double y1), (.double y2), (.double y3)] (.double (0 : UInt64)) := (V_200.keep K201c (ninS (Nat.ne_of_lt (Nat.lt_of_lt_of_le ((((V174.ext E175).other W177 (Nat.ne_of_lt (Nat.lt_of_lt_of_le V174.lt (Nat.le_of_eq g175.symm)))).other W179 (Nat.ne_of_lt (Nat.lt_of_lt_of_le V174.lt (Nat.le_of_eq g175.symm)))).other W181 (Nat.ne_of_lt (Nat.lt_of_lt_of_le V174.lt (Nat.le_of_eq g175.symm)))).lt (Nat.le_of_eq g182.symm))) nin0))
    obtain ⟨_, _, ⟨T203, L203, k203, n203⟩, -, X203, ⟨Lc203, hQ203, l203, y203, z203⟩, st203⟩ := Jvm.LawKit.callS X201 hx (y := (⟨"com/example/splitgrain/splitgrain/parse/ChartItemsGatherPinLaw", "check", "([DIIIIII[D)Z"⟩ : MethodName)) hown (mvT hZ (hw _ (List.mem_of_getElem? (i := 19) rfl))) (mvT hZ (hw _ (List.mem_of_getElem? (i := 20) rfl))) (mvT hZ (hw _ (List.mem_of_getElem? (i := 21) rfl))) (mvT hZ (hw _ (List.mem_of_getElem? (i := 22) rfl))) (by decide) (backOf (W := 0) (rm2 l Z a0 hw [] b182 (0 : Int32) of (3 : Int32) p0 p1 p2 b158 k182 k158 (List.set (List.set (List.set [(.double (13830554455654793216 : UInt64)), (.double (13835058055282163712 : UInt64)), (.double (13837309855095848960 : UInt64)), (.double (13839561654909534208 : UInt64)), (.double (13840687554816376832 : UInt64)), (.double (13841813454723219456 : UInt64)), (.double (13842939354630062080 : UInt64)), (.double (13844065254536904704 : UInt64))] (of + (0 : Int32)).toNatClampNeg (.double (own_pick p0 y0 y1 y2 y3))) (of + (1 : Int32)).toNatClampNeg (.double (own_pick p1 y0 y1 y2 y3))) (of + (2 : Int32)).toNatClampNeg (.double (own_pick p2 y0 y1 y2 y3))) [(.double y0), (.double y1), (.double y2), (.double y3)] (if (of + (2 : Int32)) = (0 : Int32) then (own_pick p2 y0 y1 y2 y3) else (if (of + (1 : Int32)) = (0 : Int32) then (own_pick p1 y0 y1 y2 y3) else (if (of + (0 : Int32)) = (0 : Int32) then (own_pick p0 y0 y1 y2 y3) else (13830554455654793216 : UInt64)))) T201.heap n0 Z201 R201_0 V_202 (show ¬ (0 : Int32) < (0 : Int32) ∧ (0 : Int32) < (8 : Int32) from ⟨by decide, by decide⟩) (show ¬ p0 < (0 : Int32) ∧ p0 < (4 : Int32) from h_p0) (show ¬ p1 < (0 : Int32) ∧ p1 < (4 : Int32) from h_p1) (show ¬ p2 < (0 : Int32) ∧ p2 < (4 : Int32) from h_p2) (show ((List.set (List.set (List.set [(.double (13830554455654793216 : UInt64)), (.double (13835058055282163712 : UInt64)), (.double (13837309855095848960 : UInt64)), (.double (13839561654909534208 : UInt64)), (.double (13840687554816376832 : UInt64)), (.double (13841813454723219456 : UInt64)), (.double (13842939354630062080 : UInt64)), (.double (13844065254536904704 : UInt64))] (of + (0 : Int32)).toNatClampNeg (.double (own_pick p0 y0 y1 y2 y3))) (of + (1 : Int32)).toNatClampNeg (.double (own_pick p1 y0 y1 y2 y3))) (of + (2 : Int32)).toNatClampNeg (.double (own_pick p2 y0 y1 y2 y3))) : List Value).getD ((0 : Int32)).toNatClampNeg (.double (0 : UInt64)) = .double (if (of + (2 : Int32)) = (0 : Int32) then (own_pick p2 y0 y1 y2 y3) else (if (of + (1 : Int32)) = (0 : Int32) then (own_pick p1 y0 y1 y2 y3) else (if (of + (0 : Int32)) = (0 : Int32) then (own_pick p0 y0 y1 y2 y3) else (13830554455654793216 : UInt64)))) from (own_gsD (by simp only [List.length_set]; rfl) ho2 ⟨by decide, by decide⟩ (own_gsD (by simp only [List.length_set]; rfl) ho1 ⟨by decide, by decide⟩ (own_gsD rfl ho0 ⟨by decide, by decide⟩ (show ([(.double (13830554455654793216 : UInt64)), (.double (13835058055282163712 : UInt64)), (.double (13837309855095848960 : UInt64)), (.double (13839561654909534208 : UInt64)), (.double (13840687554816376832 : UInt64)), (.double (13841813454723219456 : UInt64)), (.double (13842939354630062080 : UInt64)), (.double (13844065254536904704 : UInt64))] : List Value).getD 0 (.double (0 : UInt64)) = .double (13830554455654793216 : UInt64) from rfl))))) (show Jvm.Free.Fl.NoNaN64 (if (of + (2 : Int32)) = (0 : Int32) then (own_pick p2 y0 y1 y2 y3) else (if (of + (1 : Int32)) = (0 : Int32) then (own_pick p1 y0 y1 y2 y3) else (if (of + (0 : Int32)) = (0 : Int32) then (own_pick p0 y0 y1 y2 y3) else (13830554455654793216 : UInt64)))) from (own_ifn (own_pickN h_y0 h_y1 h_y2 h_y3) (own_ifn (own_pickN h_y0 h_y1 h_y2 h_y3) (own_ifn (own_pickN h_y0 h_y1 h_y2 h_y3) (by unfold Jvm.Free.Fl.NoNaN64; decide))))) (show ((0 : Int32) - of) < (0 : Int32) ∨ ¬ ((0 : Int32) - of) < (3 : Int32) → FP.i2d (-((0 : Int32) + (1 : Int32))) = (if (of + (2 : Int32)) = (0 : Int32) then (own_pick p2 y0 y1 y2 y3) else (if (of + (1 : Int32)) = (0 : Int32) then (own_pick p1 y0 y1 y2 y3) else (if (of + (0 : Int32)) = (0 : Int32) then (own_pick p0 y0 y1 y2 y3) else (13830554455654793216 : UInt64)))) from fun h => (show FP.i2d _ = (13830554455654793216 : UInt64) by decide +kernel).trans (own_out3 of _ _ _ _ _ h)) (show ¬ ((0 : Int32) - of) < (0 : Int32) → ((0 : Int32) - of) < (3 : Int32) → ((0 : Int32) - of) = (0 : Int32) → ([(.double y0), (.double y1), (.double y2), (.double y3)] : List Value).getD (p0).toNatClampNeg (.double (0 : UInt64)) = .double (if (of + (2 : Int32)) = (0 : Int32) then (own_pick p2 y0 y1 y2 y3) else (if (of + (1 : Int32)) = (0 : Int32) then (own_pick p1 y0 y1 y2 y3) else (if (of + (0 : Int32)) = (0 : Int32) then (own_pick p0 y0 y1 y2 y3) else (13830554455654793216 : UInt64)))) from fun a b c0 => (own_pickAt _ _ _ _ _ h_p0).trans (congrArg Value.double (own_hit3_0 of _ _ _ _ _ c0))) (show ¬ ((0 : Int32) - of) < (0 : Int32) → ((0 : Int32) - of) < (3 : Int32) → ¬ ((0 : Int32) - of) = (0 : Int32) → ((0 : Int32) - of) = (1 : Int32) → ([(.double y0), (.double y1), (.double y2), (.double y3)] : List Value).getD (p1).toNatClampNeg (.double (0 : UInt64)) = .double (if (of + (2 : Int32)) = (0 : Int32) then (own_pick p2 y0 y1 y2 y3) else (if (of + (1 : Int32)) = (0 : Int32) then (own_pick p1 y0 y1 y2 y3) else (if (of + (0 : Int32)) = (0 : Int32) then (own_pick p0 y0 y1 y2 y3) else (13830554455654793216 : UInt64)))) from fun a b _ c1 => (own_pickAt _ _ _ _ _ h_p1).trans (congrArg Value.double (own_hit3_1 of _ _ _ _ _ c1))) (show ¬ ((0 : Int32) - of) < (0 : Int32) → ((0 : Int32) - of) < (3 : Int32) → ¬ ((0 : Int32) - of) = (0 : Int32) → ¬ ((0 : Int32) - of) = (1 : Int32) → ([(.double y0), (.double y1), (.double y2), (.double y3)] : List Value).getD (p2).toNatClampNeg (.double (0 : UInt64)) = .double (if (of + (2 : Int32)) = (0 : Int32) then (own_pick p2 y0 y1 y2 y3) else (if (of + (1 : Int32)) = (0 : Int32) then (own_pick p1 y0 y1 y2 y3) else (if (of + (0 : Int32)) = (0 : Int32) then (own_pick p0 y0 y1 y2 y3) else (13830554455654793216 : UInt64)))) from fun a b c0 c1 => (own_pickAt _ _ _ _ _ h_p2).trans (congrArg Value.double (own_hit3_2 of _ _ _ _ _ (own_two a b c0 c1))))) hZ (hw _ (List.mem_of_getElem? (i := 22) rfl)) (hw _ (List.mem_of_getElem? (i := 21) rfl)) (by decide) (by decide)) (g := (mkF m 254 #[.val (.int pp1), .val (.int pp2), .val (.int pp3), .val (.long qq4), .second, .val (.int (3 : Int32)), .val (.int of), .val (.int p0), .val (.int p1), .val (.int p2), .val (.ref b158), .val (.ref b175), .val (.ref b182), .val (.ref b182), .val (.int (1 : Int32))] [(.ref b158), (.int p2), (.int p1), (.int p0), (.int (3 : Int32)), (.int of), (.int (0 : Int32)), (.ref b182)])) rfl (by rw [hml]; rfl) (argsL := [(.ref b182), (.int (0 : Int32)), (.int of), (.int (3 : Int32)), (.int p0), (.int p1), (.int p2), (.ref b158)]) (rest := []) (lenOf pd__28__5b_DIIIIII_5b_D_29_Z rfl) rfl (by show 2 * 0 + _ ≤ _; exact Nat.le_of_eq rfl) (hb hby at_254) (fun _ _ => ⟨rfl, rfl, (by decide : 3 + 0 ≤ _), (by decide : 15 + 0 ≤ _)⟩)
    dsimp only [Pt.U, Pt.locs, Pt.cells, Pt.slots] at X203 l203 y203 z203 st203 hQ203
    subst y203 z203
    obtain ⟨rfl, N203q, e203⟩ := hQ203
    have N203 : Fr n0 L203 := by rw [l203]; exact Fr.app N201 N203q
    change Stand _ _ _ _ _ _ _ _ _ _ _ _ 3 15 at X203
    have hc257_4 : ¬ ((1 : Int32) = (0 : Int32)) := by decide
    have hc269_4 : ¬ ((1 : Int32) = (0 : Int32)) := by decide
    obtain ⟨_, _, ⟨T204, L204, k204, n204⟩, -, X204, ⟨Lc204, hQ204, l204, y204, z204⟩, st204⟩ := Jvm.LawKit.callS X203 hx (y := (⟨"com/example/splitgrain/splitgrain/parse/ChartItemsGatherPinLaw", "check", "([DIIIIII[D)Z"⟩ : MethodName)) hown (mvT hZ (hw _ (List.mem_of_getElem? (i := 19) rfl))) (mvT hZ (hw _ (List.mem_of_getElem? (i := 20) rfl))) (mvT hZ (hw _ (List.mem_of_getElem? (i := 21) rfl))) (mvT hZ (hw _ (List.mem_of_getElem? (i := 22) rfl))) (by decide) (backOf (W := 0) (rm2 l Z a0 hw [] b182 (1 : Int32) of (3 : Int32) p0 p1 p2 b158 k182 k158 (List.set (List.set (List.set [(.double (13830554455654793216 : UInt64)), (.double (13835058055282163712 : UInt64)), (.double (13837309855095848960 : UInt64)), (.double (13839561654909534208 : UInt64)), (.double (13840687554816376832 : UInt64)), (.double (13841813454723219456 : UInt64)), (.double (13842939354630062080 : UInt64)), (.double (13844065254536904704 : UInt64))] (of + (0 : Int32)).toNatClampNeg (.double (own_pick p0 y0 y1 y2 y3))) (of + (1 : Int32)).toNatClampNeg (.double (own_pick p1 y0 y1 y2 y3))) (of + (2 : Int32)).toNatClampNeg (.double (own_pick p2 y0 y1 y2 y3))) [(.double y0), (.double y1), (.double y2), (.double y3)] (if (of + (2 : Int32)) = (1 : Int32) then (own_pick p2 y0 y1 y2 y3) else (if (of + (1 : Int32)) = (1 : Int32) then (own_pick p1 y0 y1 y2 y3) else (if (of + (0 : Int32)) = (1 : Int32) then (own_pick p0 y0 y1 y2 y3) else (13835058055282163712 : UInt64)))) T201.heap n0 Z201 R201_0 V_202 (show ¬ (1 : Int32) < (0 : Int32) ∧ (1 : Int32) < (8 : Int32) from ⟨by decide, by decide⟩) (show ¬ p0 < (0 : Int32) ∧ p0 < (4 : Int32) from h_p0) (show ¬ p1 < (0 : Int32) ∧ p1 < (4 : Int32) from h_p1) (show ¬ p2 < (0 : Int32) ∧ p2 < (4 : Int32) from h_p2) (show ((List.set (List.set (List.set [(.double (13830554455654793216 : UInt64)), (.double (13835058055282163712 : UInt64)), (.double (13837309855095848960 : UInt64)), (.double (13839561654909534208 : UInt64)), (.double (13840687554816376832 : UInt64)), (.double (13841813454723219456 : UInt64)), (.double (13842939354630062080 : UInt64)), (.double (13844065254536904704 : UInt64))] (of + (0 : Int32)).toNatClampNeg (.double (own_pick p0 y0 y1 y2 y3))) (of + (1 : Int32)).toNatClampNeg (.double (own_pick p1 y0 y1 y2 y3))) (of + (2 : Int32)).toNatClampNeg (.double (own_pick p2 y0 y1 y2 y3))) : List Value).getD ((1 : Int32)).toNatClampNeg (.double (0 : UInt64)) = .double (if (of + (2 : Int32)) = (1 : Int32) then (own_pick p2 y0 y1 y2 y3) else (if (of + (1 : Int32)) = (1 : Int32) then (own_pick p1 y0 y1 y2 y3) else (if (of + (0 : Int32)) = (1 : Int32) then (own_pick p0 y0 y1 y2 y3) else (13835058055282163712 : UInt64)))) from (own_gsD (by simp only [List.length_set]; rfl) ho2 ⟨by decide, by decide⟩ (own_gsD (by simp only [List.length_set]; rfl) ho1 ⟨by decide, by decide⟩ (own_gsD rfl ho0 ⟨by decide, by decide⟩ (show ([(.double (13830554455654793216 : UInt64)), (.double (13835058055282163712 : UInt64)), (.double (13837309855095848960 : UInt64)), (.double (13839561654909534208 : UInt64)), (.double (13840687554816376832 : UInt64)), (.double (13841813454723219456 : UInt64)), (.double (13842939354630062080 : UInt64)), (.double (13844065254536904704 : UInt64))] : List Value).getD 1 (.double (0 : UInt64)) = .double (13835058055282163712 : UInt64) from rfl))))) (show Jvm.Free.Fl.NoNaN64 (if (of + (2 : Int32)) = (1 : Int32) then (own_pick p2 y0 y1 y2 y3) else (if (of + (1 : Int32)) = (1 : Int32) then (own_pick p1 y0 y1 y2 y3) else (if (of + (0 : Int32)) = (1 : Int32) then (own_pick p0 y0 y1 y2 y3) else (13835058055282163712 : UInt64)))) from (own_ifn (own_pickN h_y0 h_y1 h_y2 h_y3) (own_ifn (own_pickN h_y0 h_y1 h_y2 h_y3) (own_ifn (own_pickN h_y0 h_y1 h_y2 h_y3) (by unfold Jvm.Free.Fl.NoNaN64; decide))))) (show ((1 : Int32) - of) < (0 : Int32) ∨ ¬ ((1 : Int32) - of) < (3 : Int32) → FP.i2d (-((1 : Int32) + (1 : Int32))) = (if (of + (2 : Int32)) = (1 : Int32) then (own_pick p2 y0 y1 y2 y3) else (if (of + (1 : Int32)) = (1 : Int32) then (own_pick p1 y0 y1 y2 y3) else (if (of + (0 : Int32)) = (1 : Int32) then (own_pick p0 y0 y1 y2 y3) else (13835058055282163712 : UInt64)))) from fun h => (show FP.i2d _ = (13835058055282163712 : UInt64) by decide +kernel).trans (own_out3 of _ _ _ _ _ h)) (show ¬ ((1 : Int32) - of) < (0 : Int32) → ((1 : Int32) - of) < (3 : Int32) → ((1 : Int32) - of) = (0 : Int32) → ([(.double y0), (.double y1), (.double y2), (.double y3)] : List Value).getD (p0).toNatClampNeg (.double (0 : UInt64)) = .double (if (of + (2 : Int32)) = (1 : Int32) then (own_pick p2 y0 y1 y2 y3) else (if (of + (1 : Int32)) = (1 : Int32) then (own_pick p1 y0 y1 y2 y3) else (if (of + (0 : Int32)) = (1 : Int32) then (own_pick p0 y0 y1 y2 y3) else (13835058055282163712 : UInt64)))) from fun a b c0 => (own_pickAt _ _ _ _ _ h_p0).trans (congrArg Value.double (own_hit3_0 of _ _ _ _ _ c0))) (show ¬ ((1 : Int32) - of) < (0 : Int32) → ((1 : Int32) - of) < (3 : Int32) → ¬ ((1 : Int32) - of) = (0 : Int32) → ((1 : Int32) - of) = (1 : Int32) → ([(.double y0), (.double y1), (.double y2), (.double y3)] : List Value).getD (p1).toNatClampNeg (.double (0 : UInt64)) = .double (if (of + (2 : Int32)) = (1 : Int32) then (own_pick p2 y0 y1 y2 y3) else (if (of + (1 : Int32)) = (1 : Int32) then (own_pick p1 y0 y1 y2 y3) else (if (of + (0 : Int32)) = (1 : Int32) then (own_pick p0 y0 y1 y2 y3) else (13835058055282163712 : UInt64)))) from fun a b _ c1 => (own_pickAt _ _ _ _ _ h_p1).trans (congrArg Value.double (own_hit3_1 of _ _ _ _ _ c1))) (show ¬ ((1 : Int32) - of) < (0 : Int32) → ((1 : Int32) - of) < (3 : Int32) → ¬ ((1 : Int32) - of) = (0 : Int32) → ¬ ((1 : Int32) - of) = (1 : Int32) → ([(.double y0), (.double y1), (.double y2), (.double y3)] : List Value).getD (p2).toNatClampNeg (.double (0 : UInt64)) = .double (if (of + (2 : Int32)) = (1 : Int32) then (own_pick p2 y0 y1 y2 y3) else (if (of + (1 : Int32)) = (1 : Int32) then (own_pick p1 y0 y1 y2 y3) else (if (of + (0 : Int32)) = (1 : Int32) then (own_pick p0 y0 y1 y2 y3) else (13835058055282163712 : UInt64)))) from fun a b c0 c1 => (own_pickAt _ _ _ _ _ h_p2).trans (congrArg Value.double (own_hit3_2 of _ _ _ _ _ (own_two a b c0 c1))))) hZ (hw _ (List.mem_of_getElem? (i := 22) rfl)) (hw _ (List.mem_of_getElem? (i := 21) rfl)) (by decide) (by decide)) (g := (mkF m 287 #[.val (.int pp1), .val (.int pp2), .val (.int pp3), .val (.long qq4), .second, .val (.int (3 : Int32)), .val (.int of), .val (.int p0), .val (.int p1), .val (.int p2), .val (.ref b158), .val (.ref b175), .val (.ref b182), .val (.ref b182), .val (.int (1 : Int32))] [(.ref b158), (.int p2), (.int p1), (.int p0), (.int (3 : Int32)), (.int of), (.int (1 : Int32)), (.ref b182)])) rfl (by rw [hml]; rfl) (argsL := [(.ref b182), (.int (1 : Int32)), (.int of), (.int (3 : Int32)), (.int p0), (.int p1), (.int p2), (.ref b158)]) (rest := []) (lenOf pd__28__5b_DIIIIII_5b_D_29_Z rfl) rfl (by show 2 * 0 + _ ≤ _; exact Nat.le_of_eq rfl) (hb hby at_287) (fun _ _ => ⟨rfl, e203, (by decide : 3 + 0 ≤ _), (by decide : 15 + 0 ≤ _)⟩)
    dsimp only [Pt.U, Pt.locs, Pt.cells, Pt.slots] at X204 l204 y204 z204 st204 hQ204
    subst y204 z204
    obtain ⟨rfl, N204q, e204⟩ := hQ204
    have N204 : Fr n0 L204 := by rw [l204]; exact Fr.app N203 N204q
    change Stand _ _ _ _ _ _ _ _ _ _ _ _ 3 15 at X204
    have hc290_4 : ¬ ((1 : Int32) = (0 : Int32)) := by decide
    have hc302_4 : ¬ ((1 : Int32) = (0 : Int32)) := by decide
    obtain ⟨_, _, ⟨T205, L205, k205, n205⟩, -, X205, ⟨Lc205, hQ205, l205, y205, z205⟩, st205⟩ := Jvm.LawKit.callS X204 hx (y := (⟨"com/example/splitgrain/splitgrain/parse/ChartItemsGatherPinLaw", "check", "([DIIIIII[D)Z"⟩ : MethodName)) hown (mvT hZ (hw _ (List.mem_of_getElem? (i := 19) rfl))) (mvT hZ (hw _ (List.mem_of_getElem? (i := 20) rfl))) (mvT hZ (hw _ (List.mem_of_getElem? (i := 21) rfl))) (mvT hZ (hw _ (List.mem_of_getElem? (i := 22) rfl))) (by decide) (backOf (W := 0) (rm2 l Z a0 hw [] b182 (2 : Int32) of (3 : Int32) p0 p1 p2 b158 k182 k158 (List.set (List.set (List.set [(.double (13830554455654793216 : UInt64)), (.double (13835058055282163712 : UInt64)), (.double (13837309855095848960 : UInt64)), (.double (13839561654909534208 : UInt64)), (.double (13840687554816376832 : UInt64)), (.double (13841813454723219456 : UInt64)), (.double (13842939354630062080 : UInt64)), (.double (13844065254536904704 : UInt64))] (of + (0 : Int32)).toNatClampNeg (.double (own_pick p0 y0 y1 y2 y3))) (of + (1 : Int32)).toNatClampNeg (.double (own_pick p1 y0 y1 y2 y3))) (of + (2 : Int32)).toNatClampNeg (.double (own_pick p2 y0 y1 y2 y3))) [(.double y0), (.double y1), (.double y2), (.double y3)] (if (of + (2 : Int32)) = (2 : Int32) then (own_pick p2 y0 y1 y2 y3) else (if (of + (1 : Int32)) = (2 : Int32) then (own_pick p1 y0 y1 y2 y3) else (if (of + (0 : Int32)) = (2 : Int32) then (own_pick p0 y0 y1 y2 y3) else (13837309855095848960 : UInt64)))) T201.heap n0 Z201 R201_0 V_202 (show ¬ (2 : Int32) < (0 : Int32) ∧ (2 : Int32) < (8 : Int32) from ⟨by decide, by decide⟩) (show ¬ p0 < (0 : Int32) ∧ p0 < (4 : Int32) from h_p0) (show ¬ p1 < (0 : Int32) ∧ p1 < (4 : Int32) from h_p1) (show ¬ p2 < (0 : Int32) ∧ p2 < (4 : Int32) from h_p2) (show ((List.set (List.set (List.set [(.double (13830554455654793216 : UInt64)), (.double (13835058055282163712 : UInt64)), (.double (13837309855095848960 : UInt64)), (.double (13839561654909534208 : UInt64)), (.double (13840687554816376832 : UInt64)), (.double (13841813454723219456 : UInt64)), (.double (13842939354630062080 : UInt64)), (.double (13844065254536904704 : UInt64))] (of + (0 : Int32)).toNatClampNeg (.double (own_pick p0 y0 y1 y2 y3))) (of + (1 : Int32)).toNatClampNeg (.double (own_pick p1 y0 y1 y2 y3))) (of + (2 : Int32)).toNatClampNeg (.double (own_pick p2 y0 y1 y2 y3))) : List Value).getD ((2 : Int32)).toNatClampNeg (.double (0 : UInt64)) = .double (if (of + (2 : Int32)) = (2 : Int32) then (own_pick p2 y0 y1 y2 y3) else (if (of + (1 : Int32)) = (2 : Int32) then (own_pick p1 y0 y1 y2 y3) else (if (of + (0 : Int32)) = (2 : Int32) then (own_pick p0 y0 y1 y2 y3) else (13837309855095848960 : UInt64)))) from (own_gsD (by simp only [List.length_set]; rfl) ho2 ⟨by decide, by decide⟩ (own_gsD (by simp only [List.length_set]; rfl) ho1 ⟨by decide, by decide⟩ (own_gsD rfl ho0 ⟨by decide, by decide⟩ (show ([(.double (13830554455654793216 : UInt64)), (.double (13835058055282163712 : UInt64)), (.double (13837309855095848960 : UInt64)), (.double (13839561654909534208 : UInt64)), (.double (13840687554816376832 : UInt64)), (.double (13841813454723219456 : UInt64)), (.double (13842939354630062080 : UInt64)), (.double (13844065254536904704 : UInt64))] : List Value).getD 2 (.double (0 : UInt64)) = .double (13837309855095848960 : UInt64) from rfl))))) (show Jvm.Free.Fl.NoNaN64 (if (of + (2 : Int32)) = (2 : Int32) then (own_pick p2 y0 y1 y2 y3) else (if (of + (1 : Int32)) = (2 : Int32) then (own_pick p1 y0 y1 y2 y3) else (if (of + (0 : Int32)) = (2 : Int32) then (own_pick p0 y0 y1 y2 y3) else (13837309855095848960 : UInt64)))) from (own_ifn (own_pickN h_y0 h_y1 h_y2 h_y3) (own_ifn (own_pickN h_y0 h_y1 h_y2 h_y3) (own_ifn (own_pickN h_y0 h_y1 h_y2 h_y3) (by unfold Jvm.Free.Fl.NoNaN64; decide))))) (show ((2 : Int32) - of) < (0 : Int32) ∨ ¬ ((2 : Int32) - of) < (3 : Int32) → FP.i2d (-((2 : Int32) + (1 : Int32))) = (if (of + (2 : Int32)) = (2 : Int32) then (own_pick p2 y0 y1 y2 y3) else (if (of + (1 : Int32)) = (2 : Int32) then (own_pick p1 y0 y1 y2 y3) else (if (of + (0 : Int32)) = (2 : Int32) then (own_pick p0 y0 y1 y2 y3) else (13837309855095848960 : UInt64)))) from fun h => (show FP.i2d _ = (13837309855095848960 : UInt64) by decide +kernel).trans (own_out3 of _ _ _ _ _ h)) (show ¬ ((2 : Int32) - of) < (0 : Int32) → ((2 : Int32) - of) < (3 : Int32) → ((2 : Int32) - of) = (0 : Int32) → ([(.double y0), (.double y1), (.double y2), (.double y3)] : List Value).getD (p0).toNatClampNeg (.double (0 : UInt64)) = .double (if (of + (2 : Int32)) = (2 : Int32) then (own_pick p2 y0 y1 y2 y3) else (if (of + (1 : Int32)) = (2 : Int32) then (own_pick p1 y0 y1 y2 y3) else (if (of + (0 : Int32)) = (2 : Int32) then (own_pick p0 y0 y1 y2 y3) else (13837309855095848960 : UInt64)))) from fun a b c0 => (own_pickAt _ _ _ _ _ h_p0).trans (congrArg Value.double (own_hit3_0 of _ _ _ _ _ c0))) (show ¬ ((2 : Int32) - of) < (0 : Int32) → ((2 : Int32) - of) < (3 : Int32) → ¬ ((2 : Int32) - of) = (0 : Int32) → ((2 : Int32) - of) = (1 : Int32) → ([(.double y0), (.double y1), (.double y2), (.double y3)] : List Value).getD (p1).toNatClampNeg (.double (0 : UInt64)) = .double (if (of + (2 : Int32)) = (2 : Int32) then (own_pick p2 y0 y1 y2 y3) else (if (of + (1 : Int32)) = (2 : Int32) then (own_pick p1 y0 y1 y2 y3) else (if (of + (0 : Int32)) = (2 : Int32) then (own_pick p0 y0 y1 y2 y3) else (13837309855095848960 : UInt64)))) from fun a b _ c1 => (own_pickAt _ _ _ _ _ h_p1).trans (congrArg Value.double (own_hit3_1 of _ _ _ _ _ c1))) (show ¬ ((2 : Int32) - of) < (0 : Int32) → ((2 : Int32) - of) < (3 : Int32) → ¬ ((2 : Int32) - of) = (0 : Int32) → ¬ ((2 : Int32) - of) = (1 : Int32) → ([(.double y0), (.double y1), (.double y2), (.double y3)] : List Value).getD (p2).toNatClampNeg (.double (0 : UInt64)) = .double (if (of + (2 : Int32)) = (2 : Int32) then (own_pick p2 y0 y1 y2 y3) else (if (of + (1 : Int32)) = (2 : Int32) then (own_pick p1 y0 y1 y2 y3) else (if (of + (0 : Int32)) = (2 : Int32) then (own_pick p0 y0 y1 y2 y3) else (13837309855095848960 : UInt64)))) from fun a b c0 c1 => (own_pickAt _ _ _ _ _ h_p2).trans (congrArg Value.double (own_hit3_2 of _ _ _ _ _ (own_two a b c0 c1))))) hZ (hw _ (List.mem_of_getElem? (i := 22) rfl)) (hw _ (List.mem_of_getElem? (i := 21) rfl)) (by decide) (by decide)) (g := (mkF m 320 #[.val (.int pp1), .val (.int pp2), .val (.int pp3), .val (.long qq4), .second, .val (.int (3 : Int32)), .val (.int of), .val (.int p0), .val (.int p1), .val (.int p2), .val (.ref b158), .val (.ref b175), .val (.ref b182), .val (.ref b182), .val (.int (1 : Int32))] [(.ref b158), (.int p2), (.int p1), (.int p0), (.int (3 : Int32)), (.int of), (.int (2 : Int32)), (.ref b182)])) rfl (by rw [hml]; rfl) (argsL := [(.ref b182), (.int (2 : Int32)), (.int of), (.int (3 : Int32)), (.int p0), (.int p1), (.int p2), (.ref b158)]) (rest := []) (lenOf pd__28__5b_DIIIIII_5b_D_29_Z rfl) rfl (by show 2 * 0 + _ ≤ _; exact Nat.le_of_eq rfl) (hb hby at_320) (fun _ _ => ⟨rfl, e204, (by decide : 3 + 0 ≤ _), (by decide : 15 + 0 ≤ _)⟩)
    dsimp only [Pt.U, Pt.locs, Pt.cells, Pt.slots] at X205 l205 y205 z205 st205 hQ205
    subst y205 z205
    obtain ⟨rfl, N205q, e205⟩ := hQ205
    have N205 : Fr n0 L205 := by rw [l205]; exact Fr.app N204 N205q
    change Stand _ _ _ _ _ _ _ _ _ _ _ _ 3 15 at X205
    have hc323_4 : ¬ ((1 : Int32) = (0 : Int32)) := by decide
    have hc335_4 : ¬ ((1 : Int32) = (0 : Int32)) := by decide
    obtain ⟨_, _, ⟨T206, L206, k206, n206⟩, -, X206, ⟨Lc206, hQ206, l206, y206, z206⟩, st206⟩ := Jvm.LawKit.callS X205 hx (y := (⟨"com/example/splitgrain/splitgrain/parse/ChartItemsGatherPinLaw", "check", "([DIIIIII[D)Z"⟩ : MethodName)) hown (mvT hZ (hw _ (List.mem_of_getElem? (i := 19) rfl))) (mvT hZ (hw _ (List.mem_of_getElem? (i := 20) rfl))) (mvT hZ (hw _ (List.mem_of_getElem? (i := 21) rfl))) (mvT hZ (hw _ (List.mem_of_getElem? (i := 22) rfl))) (by decide) (backOf (W := 0) (rm2 l Z a0 hw [] b182 (3 : Int32) of (3 : Int32) p0 p1 p2 b158 k182 k158 (List.set (List.set (List.set [(.double (13830554455654793216 : UInt64)), (.double (13835058055282163712 : UInt64)), (.double (13837309855095848960 : UInt64)), (.double (13839561654909534208 : UInt64)), (.double (13840687554816376832 : UInt64)), (.double (13841813454723219456 : UInt64)), (.double (13842939354630062080 : UInt64)), (.double (13844065254536904704 : UInt64))] (of + (0 : Int32)).toNatClampNeg (.double (own_pick p0 y0 y1 y2 y3))) (of + (1 : Int32)).toNatClampNeg (.double (own_pick p1 y0 y1 y2 y3))) (of + (2 : Int32)).toNatClampNeg (.double (own_pick p2 y0 y1 y2 y3))) [(.double y0), (.double y1), (.double y2), (.double y3)] (if (of + (2 : Int32)) = (3 : Int32) then (own_pick p2 y0 y1 y2 y3) else (if (of + (1 : Int32)) = (3 : Int32) then (own_pick p1 y0 y1 y2 y3) else (if (of + (0 : Int32)) = (3 : Int32) then (own_pick p0 y0 y1 y2 y3) else (13839561654909534208 : UInt64)))) T201.heap n0 Z201 R201_0 V_202 (show ¬ (3 : Int32) < (0 : Int32) ∧ (3 : Int32) < (8 : Int32) from ⟨by decide, by decide⟩) (show ¬ p0 < (0 : Int32) ∧ p0 < (4 : Int32) from h_p0) (show ¬ p1 < (0 : Int32) ∧ p1 < (4 : Int32) from h_p1) (show ¬ p2 < (0 : Int32) ∧ p2 < (4 : Int32) from h_p2) (show ((List.set (List.set (List.set [(.double (13830554455654793216 : UInt64)), (.double (13835058055282163712 : UInt64)), (.double (13837309855095848960 : UInt64)), (.double (13839561654909534208 : UInt64)), (.double (13840687554816376832 : UInt64)), (.double (13841813454723219456 : UInt64)), (.double (13842939354630062080 : UInt64)), (.double (13844065254536904704 : UInt64))] (of + (0 : Int32)).toNatClampNeg (.double (own_pick p0 y0 y1 y2 y3))) (of + (1 : Int32)).toNatClampNeg (.double (own_pick p1 y0 y1 y2 y3))) (of + (2 : Int32)).toNatClampNeg (.double (own_pick p2 y0 y1 y2 y3))) : List Value).getD ((3 : Int32)).toNatClampNeg (.double (0 : UInt64)) = .double (if (of + (2 : Int32)) = (3 : Int32) then (own_pick p2 y0 y1 y2 y3) else (if (of + (1 : Int32)) = (3 : Int32) then (own_pick p1 y0 y1 y2 y3) else (if (of + (0 : Int32)) = (3 : Int32) then (own_pick p0 y0 y1 y2 y3) else (13839561654909534208 : UInt64)))) from (own_gsD (by simp only [List.length_set]; rfl) ho2 ⟨by decide, by decide⟩ (own_gsD (by simp only [List.length_set]; rfl) ho1 ⟨by decide, by decide⟩ (own_gsD rfl ho0 ⟨by decide, by decide⟩ (show ([(.double (13830554455654793216 : UInt64)), (.double (13835058055282163712 : UInt64)), (.double (13837309855095848960 : UInt64)), (.double (13839561654909534208 : UInt64)), (.double (13840687554816376832 : UInt64)), (.double (13841813454723219456 : UInt64)), (.double (13842939354630062080 : UInt64)), (.double (13844065254536904704 : UInt64))] : List Value).getD 3 (.double (0 : UInt64)) = .double (13839561654909534208 : UInt64) from rfl))))) (show Jvm.Free.Fl.NoNaN64 (if (of + (2 : Int32)) = (3 : Int32) then (own_pick p2 y0 y1 y2 y3) else (if (of + (1 : Int32)) = (3 : Int32) then (own_pick p1 y0 y1 y2 y3) else (if (of + (0 : Int32)) = (3 : Int32) then (own_pick p0 y0 y1 y2 y3) else (13839561654909534208 : UInt64)))) from (own_ifn (own_pickN h_y0 h_y1 h_y2 h_y3) (own_ifn (own_pickN h_y0 h_y1 h_y2 h_y3) (own_ifn (own_pickN h_y0 h_y1 h_y2 h_y3) (by unfold Jvm.Free.Fl.NoNaN64; decide))))) (show ((3 : Int32) - of) < (0 : Int32) ∨ ¬ ((3 : Int32) - of) < (3 : Int32) → FP.i2d (-((3 : Int32) + (1 : Int32))) = (if (of + (2 : Int32)) = (3 : Int32) then (own_pick p2 y0 y1 y2 y3) else (if (of + (1 : Int32)) = (3 : Int32) then (own_pick p1 y0 y1 y2 y3) else (if (of + (0 : Int32)) = (3 : Int32) then (own_pick p0 y0 y1 y2 y3) else (13839561654909534208 : UInt64)))) from fun h => (show FP.i2d _ = (13839561654909534208 : UInt64) by decide +kernel).trans (own_out3 of _ _ _ _ _ h)) (show ¬ ((3 : Int32) - of) < (0 : Int32) → ((3 : Int32) - of) < (3 : Int32) → ((3 : Int32) - of) = (0 : Int32) → ([(.double y0), (.double y1), (.double y2), (.double y3)] : List Value).getD (p0).toNatClampNeg (.double (0 : UInt64)) = .double (if (of + (2 : Int32)) = (3 : Int32) then (own_pick p2 y0 y1 y2 y3) else (if (of + (1 : Int32)) = (3 : Int32) then (own_pick p1 y0 y1 y2 y3) else (if (of + (0 : Int32)) = (3 : Int32) then (own_pick p0 y0 y1 y2 y3) else (13839561654909534208 : UInt64)))) from fun a b c0 => (own_pickAt _ _ _ _ _ h_p0).trans (congrArg Value.double (own_hit3_0 of _ _ _ _ _ c0))) (show ¬ ((3 : Int32) - of) < (0 : Int32) → ((3 : Int32) - of) < (3 : Int32) → ¬ ((3 : Int32) - of) = (0 : Int32) → ((3 : Int32) - of) = (1 : Int32) → ([(.double y0), (.double y1), (.double y2), (.double y3)] : List Value).getD (p1).toNatClampNeg (.double (0 : UInt64)) = .double (if (of + (2 : Int32)) = (3 : Int32) then (own_pick p2 y0 y1 y2 y3) else (if (of + (1 : Int32)) = (3 : Int32) then (own_pick p1 y0 y1 y2 y3) else (if (of + (0 : Int32)) = (3 : Int32) then (own_pick p0 y0 y1 y2 y3) else (13839561654909534208 : UInt64)))) from fun a b _ c1 => (own_pickAt _ _ _ _ _ h_p1).trans (congrArg Value.double (own_hit3_1 of _ _ _ _ _ c1))) (show ¬ ((3 : Int32) - of) < (0 : Int32) → ((3 : Int32) - of) < (3 : Int32) → ¬ ((3 : Int32) - of) = (0 : Int32) → ¬ ((3 : Int32) - of) = (1 : Int32) → ([(.double y0), (.double y1), (.double y2), (.double y3)] : List Value).getD (p2).toNatClampNeg (.double (0 : UInt64)) = .double (if (of + (2 : Int32)) = (3 : Int32) then (own_pick p2 y0 y1 y2 y3) else (if (of + (1 : Int32)) = (3 : Int32) then (own_pick p1 y0 y1 y2 y3) else (if (of + (0 : Int32)) = (3 : Int32) then (own_pick p0 y0 y1 y2 y3) else (13839561654909534208 : UInt64)))) from fun a b c0 c1 => (own_pickAt _ _ _ _ _ h_p2).trans (congrArg Value.double (own_hit3_2 of _ _ _ _ _ (own_two a b c0 c1))))) hZ (hw _ (List.mem_of_getElem? (i := 22) rfl)) (hw _ (List.mem_of_getElem? (i := 21) rfl)) (by decide) (by decide)) (g := (mkF m 353 #[.val (.int pp1), .val (.int pp2), .val (.int pp3), .val (.long qq4), .second, .val (.int (3 : Int32)), .val (.int of), .val (.int p0), .val (.int p1), .val (.int p2), .val (.ref b158), .val (.ref b175), .val (.ref b182), .val (.ref b182), .val (.int (1 : Int32))] [(.ref b158), (.int p2), (.int p1), (.int p0), (.int (3 : Int32)), (.int of), (.int (3 : Int32)), (.ref b182)])) rfl (by rw [hml]; rfl) (argsL := [(.ref b182), (.int (3 : Int32)), (.int of), (.int (3 : Int32)), (.int p0), (.int p1), (.int p2), (.ref b158)]) (rest := []) (lenOf pd__28__5b_DIIIIII_5b_D_29_Z rfl) rfl (by show 2 * 0 + _ ≤ _; exact Nat.le_of_eq rfl) (hb hby at_353) (fun _ _ => ⟨rfl, e205, (by decide : 3 + 0 ≤ _), (by decide : 15 + 0 ≤ _)⟩)
    dsimp only [Pt.U, Pt.locs, Pt.cells, Pt.slots] at X206 l206 y206 z206 st206 hQ206
    subst y206 z206
    obtain ⟨rfl, N206q, e206⟩ := hQ206
    have N206 : Fr n0 L206 := by rw [l206]; exact Fr.app N205 N206q
    change Stand _ _ _ _ _ _ _ _ _ _ _ _ 3 15 at X206
    have hc356_4 : ¬ ((1 : Int32) = (0 : Int32)) := by decide
    have hc368_4 : ¬ ((1 : Int32) = (0 : Int32)) := by decide
    obtain ⟨_, _, ⟨T207, L207, k207, n207⟩, -, X207, ⟨Lc207, hQ207, l207, y207, z207⟩, st207⟩ := Jvm.LawKit.callS X206 hx (y := (⟨"com/example/splitgrain/splitgrain/parse/ChartItemsGatherPinLaw", "check", "([DIIIIII[D)Z"⟩ : MethodName)) hown (mvT hZ (hw _ (List.mem_of_getElem? (i := 19) rfl))) (mvT hZ (hw _ (List.mem_of_getElem? (i := 20) rfl))) (mvT hZ (hw _ (List.mem_of_getElem? (i := 21) rfl))) (mvT hZ (hw _ (List.mem_of_getElem? (i := 22) rfl))) (by decide) (backOf (W := 0) (rm2 l Z a0 hw [] b182 (4 : Int32) of (3 : Int32) p0 p1 p2 b158 k182 k158 (List.set (List.set (List.set [(.double (13830554455654793216 : UInt64)), (.double (13835058055282163712 : UInt64)), (.double (13837309855095848960 : UInt64)), (.double (13839561654909534208 : UInt64)), (.double (13840687554816376832 : UInt64)), (.double (13841813454723219456 : UInt64)), (.double (13842939354630062080 : UInt64)), (.double (13844065254536904704 : UInt64))] (of + (0 : Int32)).toNatClampNeg (.double (own_pick p0 y0 y1 y2 y3))) (of + (1 : Int32)).toNatClampNeg (.double (own_pick p1 y0 y1 y2 y3))) (of + (2 : Int32)).toNatClampNeg (.double (own_pick p2 y0 y1 y2 y3))) [(.double y0), (.double y1), (.double y2), (.double y3)] (if (of + (2 : Int32)) = (4 : Int32) then (own_pick p2 y0 y1 y2 y3) else (if (of + (1 : Int32)) = (4 : Int32) then (own_pick p1 y0 y1 y2 y3) else (if (of + (0 : Int32)) = (4 : Int32) then (own_pick p0 y0 y1 y2 y3) else (13840687554816376832 : UInt64)))) T201.heap n0 Z201 R201_0 V_202 (show ¬ (4 : Int32) < (0 : Int32) ∧ (4 : Int32) < (8 : Int32) from ⟨by decide, by decide⟩) (show ¬ p0 < (0 : Int32) ∧ p0 < (4 : Int32) from h_p0) (show ¬ p1 < (0 : Int32) ∧ p1 < (4 : Int32) from h_p1) (show ¬ p2 < (0 : Int32) ∧ p2 < (4 : Int32) from h_p2) (show ((List.set (List.set (List.set [(.double (13830554455654793216 : UInt64)), (.double (13835058055282163712 : UInt64)), (.double (13837309855095848960 : UInt64)), (.double (13839561654909534208 : UInt64)), (.double (13840687554816376832 : UInt64)), (.double (13841813454723219456 : UInt64)), (.double (13842939354630062080 : UInt64)), (.double (13844065254536904704 : UInt64))] (of + (0 : Int32)).toNatClampNeg (.double (own_pick p0 y0 y1 y2 y3))) (of + (1 : Int32)).toNatClampNeg (.double (own_pick p1 y0 y1 y2 y3))) (of + (2 : Int32)).toNatClampNeg (.double (own_pick p2 y0 y1 y2 y3))) : List Value).getD ((4 : Int32)).toNatClampNeg (.double (0 : UInt64)) = .double (if (of + (2 : Int32)) = (4 : Int32) then (own_pick p2 y0 y1 y2 y3) else (if (of + (1 : Int32)) = (4 : Int32) then (own_pick p1 y0 y1 y2 y3) else (if (of + (0 : Int32)) = (4 : Int32) then (own_pick p0 y0 y1 y2 y3) else (13840687554816376832 : UInt64)))) from (own_gsD (by simp only [List.length_set]; rfl) ho2 ⟨by decide, by decide⟩ (own_gsD (by simp only [List.length_set]; rfl) ho1 ⟨by decide, by decide⟩ (own_gsD rfl ho0 ⟨by decide, by decide⟩ (show ([(.double (13830554455654793216 : UInt64)), (.double (13835058055282163712 : UInt64)), (.double (13837309855095848960 : UInt64)), (.double (13839561654909534208 : UInt64)), (.double (13840687554816376832 : UInt64)), (.double (13841813454723219456 : UInt64)), (.double (13842939354630062080 : UInt64)), (.double (13844065254536904704 : UInt64))] : List Value).getD 4 (.double (0 : UInt64)) = .double (13840687554816376832 : UInt64) from rfl))))) (show Jvm.Free.Fl.NoNaN64 (if (of + (2 : Int32)) = (4 : Int32) then (own_pick p2 y0 y1 y2 y3) else (if (of + (1 : Int32)) = (4 : Int32) then (own_pick p1 y0 y1 y2 y3) else (if (of + (0 : Int32)) = (4 : Int32) then (own_pick p0 y0 y1 y2 y3) else (13840687554816376832 : UInt64)))) from (own_ifn (own_pickN h_y0 h_y1 h_y2 h_y3) (own_ifn (own_pickN h_y0 h_y1 h_y2 h_y3) (own_ifn (own_pickN h_y0 h_y1 h_y2 h_y3) (by unfold Jvm.Free.Fl.NoNaN64; decide))))) (show ((4 : Int32) - of) < (0 : Int32) ∨ ¬ ((4 : Int32) - of) < (3 : Int32) → FP.i2d (-((4 : Int32) + (1 : Int32))) = (if (of + (2 : Int32)) = (4 : Int32) then (own_pick p2 y0 y1 y2 y3) else (if (of + (1 : Int32)) = (4 : Int32) then (own_pick p1 y0 y1 y2 y3) else (if (of + (0 : Int32)) = (4 : Int32) then (own_pick p0 y0 y1 y2 y3) else (13840687554816376832 : UInt64)))) from fun h => (show FP.i2d _ = (13840687554816376832 : UInt64) by decide +kernel).trans (own_out3 of _ _ _ _ _ h)) (show ¬ ((4 : Int32) - of) < (0 : Int32) → ((4 : Int32) - of) < (3 : Int32) → ((4 : Int32) - of) = (0 : Int32) → ([(.double y0), (.double y1), (.double y2), (.double y3)] : List Value).getD (p0).toNatClampNeg (.double (0 : UInt64)) = .double (if (of + (2 : Int32)) = (4 : Int32) then (own_pick p2 y0 y1 y2 y3) else (if (of + (1 : Int32)) = (4 : Int32) then (own_pick p1 y0 y1 y2 y3) else (if (of + (0 : Int32)) = (4 : Int32) then (own_pick p0 y0 y1 y2 y3) else (13840687554816376832 : UInt64)))) from fun a b c0 => (own_pickAt _ _ _ _ _ h_p0).trans (congrArg Value.double (own_hit3_0 of _ _ _ _ _ c0))) (show ¬ ((4 : Int32) - of) < (0 : Int32) → ((4 : Int32) - of) < (3 : Int32) → ¬ ((4 : Int32) - of) = (0 : Int32) → ((4 : Int32) - of) = (1 : Int32) → ([(.double y0), (.double y1), (.double y2), (.double y3)] : List Value).getD (p1).toNatClampNeg (.double (0 : UInt64)) = .double (if (of + (2 : Int32)) = (4 : Int32) then (own_pick p2 y0 y1 y2 y3) else (if (of + (1 : Int32)) = (4 : Int32) then (own_pick p1 y0 y1 y2 y3) else (if (of + (0 : Int32)) = (4 : Int32) then (own_pick p0 y0 y1 y2 y3) else (13840687554816376832 : UInt64)))) from fun a b _ c1 => (own_pickAt _ _ _ _ _ h_p1).trans (congrArg Value.double (own_hit3_1 of _ _ _ _ _ c1))) (show ¬ ((4 : Int32) - of) < (0 : Int32) → ((4 : Int32) - of) < (3 : Int32) → ¬ ((4 : Int32) - of) = (0 : Int32) → ¬ ((4 : Int32) - of) = (1 : Int32) → ([(.double y0), (.double y1), (.double y2), (.double y3)] : List Value).getD (p2).toNatClampNeg (.double (0 : UInt64)) = .double (if (of + (2 : Int32)) = (4 : Int32) then (own_pick p2 y0 y1 y2 y3) else (if (of + (1 : Int32)) = (4 : Int32) then (own_pick p1 y0 y1 y2 y3) else (if (of + (0 : Int32)) = (4 : Int32) then (own_pick p0 y0 y1 y2 y3) else (13840687554816376832 : UInt64)))) from fun a b c0 c1 => (own_pickAt _ _ _ _ _ h_p2).trans (congrArg Value.double (own_hit3_2 of _ _ _ _ _ (own_two a b c0 c1))))) hZ (hw _ (List.mem_of_getElem? (i := 22) rfl)) (hw _ (List.mem_of_getElem? (i := 21) rfl)) (by decide) (by decide)) (g := (mkF m 386 #[.val (.int pp1), .val (.int pp2), .val (.int pp3), .val (.long qq4), .second, .val (.int (3 : Int32)), .val (.int of), .val (.int p0), .val (.int p1), .val (.int p2), .val (.ref b158), .val (.ref b175), .val (.ref b182), .val (.ref b182), .val (.int (1 : Int32))] [(.ref b158), (.int p2), (.int p1), (.int p0), (.int (3 : Int32)), (.int of), (.int (4 : Int32)), (.ref b182)])) rfl (by rw [hml]; rfl) (argsL := [(.ref b182), (.int (4 : Int32)), (.int of), (.int (3 : Int32)), (.int p0), (.int p1), (.int p2), (.ref b158)]) (rest := []) (lenOf pd__28__5b_DIIIIII_5b_D_29_Z rfl) rfl (by show 2 * 0 + _ ≤ _; exact Nat.le_of_eq rfl) (hb hby at_386) (fun _ _ => ⟨rfl, e206, (by decide : 3 + 0 ≤ _), (by decide : 15 + 0 ≤ _)⟩)
    dsimp only [Pt.U, Pt.locs, Pt.cells, Pt.slots] at X207 l207 y207 z207 st207 hQ207
    subst y207 z207
    obtain ⟨rfl, N207q, e207⟩ := hQ207
    have N207 : Fr n0 L207 := by rw [l207]; exact Fr.app N206 N207q
    change Stand _ _ _ _ _ _ _ _ _ _ _ _ 3 15 at X207
    have hc389_4 : ¬ ((1 : Int32) = (0 : Int32)) := by decide
    have hc401_4 : ¬ ((1 : Int32) = (0 : Int32)) := by decide
    obtain ⟨_, _, ⟨T208, L208, k208, n208⟩, -, X208, ⟨Lc208, hQ208, l208, y208, z208⟩, st208⟩ := Jvm.LawKit.callS X207 hx (y := (⟨"com/example/splitgrain/splitgrain/parse/ChartItemsGatherPinLaw", "check", "([DIIIIII[D)Z"⟩ : MethodName)) hown (mvT hZ (hw _ (List.mem_of_getElem? (i := 19) rfl))) (mvT hZ (hw _ (List.mem_of_getElem? (i := 20) rfl))) (mvT hZ (hw _ (List.mem_of_getElem? (i := 21) rfl))) (mvT hZ (hw _ (List.mem_of_getElem? (i := 22) rfl))) (by decide) (backOf (W := 0) (rm2 l Z a0 hw [] b182 (5 : Int32) of (3 : Int32) p0 p1 p2 b158 k182 k158 (List.set (List.set (List.set [(.double (13830554455654793216 : UInt64)), (.double (13835058055282163712 : UInt64)), (.double (13837309855095848960 : UInt64)), (.double (13839561654909534208 : UInt64)), (.double (13840687554816376832 : UInt64)), (.double (13841813454723219456 : UInt64)), (.double (13842939354630062080 : UInt64)), (.double (13844065254536904704 : UInt64))] (of + (0 : Int32)).toNatClampNeg (.double (own_pick p0 y0 y1 y2 y3))) (of + (1 : Int32)).toNatClampNeg (.double (own_pick p1 y0 y1 y2 y3))) (of + (2 : Int32)).toNatClampNeg (.double (own_pick p2 y0 y1 y2 y3))) [(.double y0), (.double y1), (.double y2), (.double y3)] (if (of + (2 : Int32)) = (5 : Int32) then (own_pick p2 y0 y1 y2 y3) else (if (of + (1 : Int32)) = (5 : Int32) then (own_pick p1 y0 y1 y2 y3) else (if (of + (0 : Int32)) = (5 : Int32) then (own_pick p0 y0 y1 y2 y3) else (13841813454723219456 : UInt64)))) T201.heap n0 Z201 R201_0 V_202 (show ¬ (5 : Int32) < (0 : Int32) ∧ (5 : Int32) < (8 : Int32) from ⟨by decide, by decide⟩) (show ¬ p0 < (0 : Int32) ∧ p0 < (4 : Int32) from h_p0) (show ¬ p1 < (0 : Int32) ∧ p1 < (4 : Int32) from h_p1) (show ¬ p2 < (0 : Int32) ∧ p2 < (4 : Int32) from h_p2) (show ((List.set (List.set (List.set [(.double (13830554455654793216 : UInt64)), (.double (13835058055282163712 : UInt64)), (.double (13837309855095848960 : UInt64)), (.double (13839561654909534208 : UInt64)), (.double (13840687554816376832 : UInt64)), (.double (13841813454723219456 : UInt64)), (.double (13842939354630062080 : UInt64)), (.double (13844065254536904704 : UInt64))] (of + (0 : Int32)).toNatClampNeg (.double (own_pick p0 y0 y1 y2 y3))) (of + (1 : Int32)).toNatClampNeg (.double (own_pick p1 y0 y1 y2 y3))) (of + (2 : Int32)).toNatClampNeg (.double (own_pick p2 y0 y1 y2 y3))) : List Value).getD ((5 : Int32)).toNatClampNeg (.double (0 : UInt64)) = .double (if (of + (2 : Int32)) = (5 : Int32) then (own_pick p2 y0 y1 y2 y3) else (if (of + (1 : Int32)) = (5 : Int32) then (own_pick p1 y0 y1 y2 y3) else (if (of + (0 : Int32)) = (5 : Int32) then (own_pick p0 y0 y1 y2 y3) else (13841813454723219456 : UInt64)))) from (own_gsD (by simp only [List.length_set]; rfl) ho2 ⟨by decide, by decide⟩ (own_gsD (by simp only [List.length_set]; rfl) ho1 ⟨by decide, by decide⟩ (own_gsD rfl ho0 ⟨by decide, by decide⟩ (show ([(.double (13830554455654793216 : UInt64)), (.double (13835058055282163712 : UInt64)), (.double (13837309855095848960 : UInt64)), (.double (13839561654909534208 : UInt64)), (.double (13840687554816376832 : UInt64)), (.double (13841813454723219456 : UInt64)), (.double (13842939354630062080 : UInt64)), (.double (13844065254536904704 : UInt64))] : List Value).getD 5 (.double (0 : UInt64)) = .double (13841813454723219456 : UInt64) from rfl))))) (show Jvm.Free.Fl.NoNaN64 (if (of + (2 : Int32)) = (5 : Int32) then (own_pick p2 y0 y1 y2 y3) else (if (of + (1 : Int32)) = (5 : Int32) then (own_pick p1 y0 y1 y2 y3) else (if (of + (0 : Int32)) = (5 : Int32) then (own_pick p0 y0 y1 y2 y3) else (13841813454723219456 : UInt64)))) from (own_ifn (own_pickN h_y0 h_y1 h_y2 h_y3) (own_ifn (own_pickN h_y0 h_y1 h_y2 h_y3) (own_ifn (own_pickN h_y0 h_y1 h_y2 h_y3) (by unfold Jvm.Free.Fl.NoNaN64; decide))))) (show ((5 : Int32) - of) < (0 : Int32) ∨ ¬ ((5 : Int32) - of) < (3 : Int32) → FP.i2d (-((5 : Int32) + (1 : Int32))) = (if (of + (2 : Int32)) = (5 : Int32) then (own_pick p2 y0 y1 y2 y3) else (if (of + (1 : Int32)) = (5 : Int32) then (own_pick p1 y0 y1 y2 y3) else (if (of + (0 : Int32)) = (5 : Int32) then (own_pick p0 y0 y1 y2 y3) else (13841813454723219456 : UInt64)))) from fun h => (show FP.i2d _ = (13841813454723219456 : UInt64) by decide +kernel).trans (own_out3 of _ _ _ _ _ h)) (show ¬ ((5 : Int32) - of) < (0 : Int32) → ((5 : Int32) - of) < (3 : Int32) → ((5 : Int32) - of) = (0 : Int32) → ([(.double y0), (.double y1), (.double y2), (.double y3)] : List Value).getD (p0).toNatClampNeg (.double (0 : UInt64)) = .double (if (of + (2 : Int32)) = (5 : Int32) then (own_pick p2 y0 y1 y2 y3) else (if (of + (1 : Int32)) = (5 : Int32) then (own_pick p1 y0 y1 y2 y3) else (if (of + (0 : Int32)) = (5 : Int32) then (own_pick p0 y0 y1 y2 y3) else (13841813454723219456 : UInt64)))) from fun a b c0 => (own_pickAt _ _ _ _ _ h_p0).trans (congrArg Value.double (own_hit3_0 of _ _ _ _ _ c0))) (show ¬ ((5 : Int32) - of) < (0 : Int32) → ((5 : Int32) - of) < (3 : Int32) → ¬ ((5 : Int32) - of) = (0 : Int32) → ((5 : Int32) - of) = (1 : Int32) → ([(.double y0), (.double y1), (.double y2), (.double y3)] : List Value).getD (p1).toNatClampNeg (.double (0 : UInt64)) = .double (if (of + (2 : Int32)) = (5 : Int32) then (own_pick p2 y0 y1 y2 y3) else (if (of + (1 : Int32)) = (5 : Int32) then (own_pick p1 y0 y1 y2 y3) else (if (of + (0 : Int32)) = (5 : Int32) then (own_pick p0 y0 y1 y2 y3) else (13841813454723219456 : UInt64)))) from fun a b _ c1 => (own_pickAt _ _ _ _ _ h_p1).trans (congrArg Value.double (own_hit3_1 of _ _ _ _ _ c1))) (show ¬ ((5 : Int32) - of) < (0 : Int32) → ((5 : Int32) - of) < (3 : Int32) → ¬ ((5 : Int32) - of) = (0 : Int32) → ¬ ((5 : Int32) - of) = (1 : Int32) → ([(.double y0), (.double y1), (.double y2), (.double y3)] : List Value).getD (p2).toNatClampNeg (.double (0 : UInt64)) = .double (if (of + (2 : Int32)) = (5 : Int32) then (own_pick p2 y0 y1 y2 y3) else (if (of + (1 : Int32)) = (5 : Int32) then (own_pick p1 y0 y1 y2 y3) else (if (of + (0 : Int32)) = (5 : Int32) then (own_pick p0 y0 y1 y2 y3) else (13841813454723219456 : UInt64)))) from fun a b c0 c1 => (own_pickAt _ _ _ _ _ h_p2).trans (congrArg Value.double (own_hit3_2 of _ _ _ _ _ (own_two a b c0 c1))))) hZ (hw _ (List.mem_of_getElem? (i := 22) rfl)) (hw _ (List.mem_of_getElem? (i := 21) rfl)) (by decide) (by decide)) (g := (mkF m 419 #[.val (.int pp1), .val (.int pp2), .val (.int pp3), .val (.long qq4), .second, .val (.int (3 : Int32)), .val (.int of), .val (.int p0), .val (.int p1), .val (.int p2), .val (.ref b158), .val (.ref b175), .val (.ref b182), .val (.ref b182), .val (.int (1 : Int32))] [(.ref b158), (.int p2), (.int p1), (.int p0), (.int (3 : Int32)), (.int of), (.int (5 : Int32)), (.ref b182)])) rfl (by rw [hml]; rfl) (argsL := [(.ref b182), (.int (5 : Int32)), (.int of), (.int (3 : Int32)), (.int p0), (.int p1), (.int p2), (.ref b158)]) (rest := []) (lenOf pd__28__5b_DIIIIII_5b_D_29_Z rfl) rfl (by show 2 * 0 + _ ≤ _; exact Nat.le_of_eq rfl) (hb hby at_419) (fun _ _ => ⟨rfl, e207, (by decide : 3 + 0 ≤ _), (by decide : 15 + 0 ≤ _)⟩)
    dsimp only [Pt.U, Pt.locs, Pt.cells, Pt.slots] at X208 l208 y208 z208 st208 hQ208
    subst y208 z208
    obtain ⟨rfl, N208q, e208⟩ := hQ208
    have N208 : Fr n0 L208 := by rw [l208]; exact Fr.app N207 N208q
    change Stand _ _ _ _ _ _ _ _ _ _ _ _ 3 15 at X208
    have hc422_4 : ¬ ((1 : Int32) = (0 : Int32)) := by decide
    have hc434_4 : ¬ ((1 : Int32) = (0 : Int32)) := by decide
    obtain ⟨_, _, ⟨T209, L209, k209, n209⟩, -, X209, ⟨Lc209, hQ209, l209, y209, z209⟩, st209⟩ := Jvm.LawKit.callS X208 hx (y := (⟨"com/example/splitgrain/splitgrain/parse/ChartItemsGatherPinLaw", "check", "([DIIIIII[D)Z"⟩ : MethodName)) hown (mvT hZ (hw _ (List.mem_of_getElem? (i := 19) rfl))) (mvT hZ (hw _ (List.mem_of_getElem? (i := 20) rfl))) (mvT hZ (hw _ (List.mem_of_getElem? (i := 21) rfl))) (mvT hZ (hw _ (List.mem_of_getElem? (i := 22) rfl))) (by decide) (backOf (W := 0) (rm2 l Z a0 hw [] b182 (6 : Int32) of (3 : Int32) p0 p1 p2 b158 k182 k158 (List.set (List.set (List.set [(.double (13830554455654793216 : UInt64)), (.double (13835058055282163712 : UInt64)), (.double (13837309855095848960 : UInt64)), (.double (13839561654909534208 : UInt64)), (.double (13840687554816376832 : UInt64)), (.double (13841813454723219456 : UInt64)), (.double (13842939354630062080 : UInt64)), (.double (13844065254536904704 : UInt64))] (of + (0 : Int32)).toNatClampNeg (.double (own_pick p0 y0 y1 y2 y3))) (of + (1 : Int32)).toNatClampNeg (.double (own_pick p1 y0 y1 y2 y3))) (of + (2 : Int32)).toNatClampNeg (.double (own_pick p2 y0 y1 y2 y3))) [(.double y0), (.double y1), (.double y2), (.double y3)] (if (of + (2 : Int32)) = (6 : Int32) then (own_pick p2 y0 y1 y2 y3) else (if (of + (1 : Int32)) = (6 : Int32) then (own_pick p1 y0 y1 y2 y3) else (if (of + (0 : Int32)) = (6 : Int32) then (own_pick p0 y0 y1 y2 y3) else (13842939354630062080 : UInt64)))) T201.heap n0 Z201 R201_0 V_202 (show ¬ (6 : Int32) < (0 : Int32) ∧ (6 : Int32) < (8 : Int32) from ⟨by decide, by decide⟩) (show ¬ p0 < (0 : Int32) ∧ p0 < (4 : Int32) from h_p0) (show ¬ p1 < (0 : Int32) ∧ p1 < (4 : Int32) from h_p1) (show ¬ p2 < (0 : Int32) ∧ p2 < (4 : Int32) from h_p2) (show ((List.set (List.set (List.set [(.double (13830554455654793216 : UInt64)), (.double (13835058055282163712 : UInt64)), (.double (13837309855095848960 : UInt64)), (.double (13839561654909534208 : UInt64)), (.double (13840687554816376832 : UInt64)), (.double (13841813454723219456 : UInt64)), (.double (13842939354630062080 : UInt64)), (.double (13844065254536904704 : UInt64))] (of + (0 : Int32)).toNatClampNeg (.double (own_pick p0 y0 y1 y2 y3))) (of + (1 : Int32)).toNatClampNeg (.double (own_pick p1 y0 y1 y2 y3))) (of + (2 : Int32)).toNatClampNeg (.double (own_pick p2 y0 y1 y2 y3))) : List Value).getD ((6 : Int32)).toNatClampNeg (.double (0 : UInt64)) = .double (if (of + (2 : Int32)) = (6 : Int32) then (own_pick p2 y0 y1 y2 y3) else (if (of + (1 : Int32)) = (6 : Int32) then (own_pick p1 y0 y1 y2 y3) else (if (of + (0 : Int32)) = (6 : Int32) then (own_pick p0 y0 y1 y2 y3) else (13842939354630062080 : UInt64)))) from (own_gsD (by simp only [List.length_set]; rfl) ho2 ⟨by decide, by decide⟩ (own_gsD (by simp only [List.length_set]; rfl) ho1 ⟨by decide, by decide⟩ (own_gsD rfl ho0 ⟨by decide, by decide⟩ (show ([(.double (13830554455654793216 : UInt64)), (.double (13835058055282163712 : UInt64)), (.double (13837309855095848960 : UInt64)), (.double (13839561654909534208 : UInt64)), (.double (13840687554816376832 : UInt64)), (.double (13841813454723219456 : UInt64)), (.double (13842939354630062080 : UInt64)), (.double (13844065254536904704 : UInt64))] : List Value).getD 6 (.double (0 : UInt64)) = .double (13842939354630062080 : UInt64) from rfl))))) (show Jvm.Free.Fl.NoNaN64 (if (of + (2 : Int32)) = (6 : Int32) then (own_pick p2 y0 y1 y2 y3) else (if (of + (1 : Int32)) = (6 : Int32) then (own_pick p1 y0 y1 y2 y3) else (if (of + (0 : Int32)) = (6 : Int32) then (own_pick p0 y0 y1 y2 y3) else (13842939354630062080 : UInt64)))) from (own_ifn (own_pickN h_y0 h_y1 h_y2 h_y3) (own_ifn (own_pickN h_y0 h_y1 h_y2 h_y3) (own_ifn (own_pickN h_y0 h_y1 h_y2 h_y3) (by unfold Jvm.Free.Fl.NoNaN64; decide))))) (show ((6 : Int32) - of) < (0 : Int32) ∨ ¬ ((6 : Int32) - of) < (3 : Int32) → FP.i2d (-((6 : Int32) + (1 : Int32))) = (if (of + (2 : Int32)) = (6 : Int32) then (own_pick p2 y0 y1 y2 y3) else (if (of + (1 : Int32)) = (6 : Int32) then (own_pick p1 y0 y1 y2 y3) else (if (of + (0 : Int32)) = (6 : Int32) then (own_pick p0 y0 y1 y2 y3) else (13842939354630062080 : UInt64)))) from fun h => (show FP.i2d _ = (13842939354630062080 : UInt64) by decide +kernel).trans (own_out3 of _ _ _ _ _ h)) (show ¬ ((6 : Int32) - of) < (0 : Int32) → ((6 : Int32) - of) < (3 : Int32) → ((6 : Int32) - of) = (0 : Int32) → ([(.double y0), (.double y1), (.double y2), (.double y3)] : List Value).getD (p0).toNatClampNeg (.double (0 : UInt64)) = .double (if (of + (2 : Int32)) = (6 : Int32) then (own_pick p2 y0 y1 y2 y3) else (if (of + (1 : Int32)) = (6 : Int32) then (own_pick p1 y0 y1 y2 y3) else (if (of + (0 : Int32)) = (6 : Int32) then (own_pick p0 y0 y1 y2 y3) else (13842939354630062080 : UInt64)))) from fun a b c0 => (own_pickAt _ _ _ _ _ h_p0).trans (congrArg Value.double (own_hit3_0 of _ _ _ _ _ c0))) (show ¬ ((6 : Int32) - of) < (0 : Int32) → ((6 : Int32) - of) < (3 : Int32) → ¬ ((6 : Int32) - of) = (0 : Int32) → ((6 : Int32) - of) = (1 : Int32) → ([(.double y0), (.double y1), (.double y2), (.double y3)] : List Value).getD (p1).toNatClampNeg (.double (0 : UInt64)) = .double (if (of + (2 : Int32)) = (6 : Int32) then (own_pick p2 y0 y1 y2 y3) else (if (of + (1 : Int32)) = (6 : Int32) then (own_pick p1 y0 y1 y2 y3) else (if (of + (0 : Int32)) = (6 : Int32) then (own_pick p0 y0 y1 y2 y3) else (13842939354630062080 : UInt64)))) from fun a b _ c1 => (own_pickAt _ _ _ _ _ h_p1).trans (congrArg Value.double (own_hit3_1 of _ _ _ _ _ c1))) (show ¬ ((6 : Int32) - of) < (0 : Int32) → ((6 : Int32) - of) < (3 : Int32) → ¬ ((6 : Int32) - of) = (0 : Int32) → ¬ ((6 : Int32) - of) = (1 : Int32) → ([(.double y0), (.double y1), (.double y2), (.double y3)] : List Value).getD (p2).toNatClampNeg (.double (0 : UInt64)) = .double (if (of + (2 : Int32)) = (6 : Int32) then (own_pick p2 y0 y1 y2 y3) else (if (of + (1 : Int32)) = (6 : Int32) then (own_pick p1 y0 y1 y2 y3) else (if (of + (0 : Int32)) = (6 : Int32) then (own_pick p0 y0 y1 y2 y3) else (13842939354630062080 : UInt64)))) from fun a b c0 c1 => (own_pickAt _ _ _ _ _ h_p2).trans (congrArg Value.double (own_hit3_2 of _ _ _ _ _ (own_two a b c0 c1))))) hZ (hw _ (List.mem_of_getElem? (i := 22) rfl)) (hw _ (List.mem_of_getElem? (i := 21) rfl)) (by decide) (by decide)) (g := (mkF m 453 #[.val (.int pp1), .val (.int pp2), .val (.int pp3), .val (.long qq4), .second, .val (.int (3 : Int32)), .val (.int of), .val (.int p0), .val (.int p1), .val (.int p2), .val (.ref b158), .val (.ref b175), .val (.ref b182), .val (.ref b182), .val (.int (1 : Int32))] [(.ref b158), (.int p2), (.int p1), (.int p0), (.int (3 : Int32)), (.int of), (.int (6 : Int32)), (.ref b182)])) rfl (by rw [hml]; rfl) (argsL := [(.ref b182), (.int (6 : Int32)), (.int of), (.int (3 : Int32)), (.int p0), (.int p1), (.int p2), (.ref b158)]) (rest := []) (lenOf pd__28__5b_DIIIIII_5b_D_29_Z rfl) rfl (by show 2 * 0 + _ ≤ _; exact Nat.le_of_eq rfl) (hb hby at_453) (fun _ _ => ⟨rfl, e208, (by decide : 3 + 0 ≤ _), (by decide : 15 + 0 ≤ _)⟩)
    dsimp only [Pt.U, Pt.locs, Pt.cells, Pt.slots] at X209 l209 y209 z209 st209 hQ209
    subst y209 z209
    obtain ⟨rfl, N209q, e209⟩ := hQ209
    have N209 : Fr n0 L209 := by rw [l209]; exact Fr.app N208 N209q
    change Stand _ _ _ _ _ _ _ _ _ _ _ _ 3 15 at X209
    have hc456_4 : ¬ ((1 : Int32) = (0 : Int32)) := by decide
    have hc468_4 : ¬ ((1 : Int32) = (0 : Int32)) := by decide
    obtain ⟨_, _, ⟨T210, L210, k210, n210⟩, -, X210, ⟨Lc210, hQ210, l210, y210, z210⟩, st210⟩ := Jvm.LawKit.callS X209 hx (y := (⟨"com/example/splitgrain/splitgrain/parse/ChartItemsGatherPinLaw", "check", "([DIIIIII[D)Z"⟩ : MethodName)) hown (mvT hZ (hw _ (List.mem_of_getElem? (i := 19) rfl))) (mvT hZ (hw _ (List.mem_of_getElem? (i := 20) rfl))) (mvT hZ (hw _ (List.mem_of_getElem? (i := 21) rfl))) (mvT hZ (hw _ (List.mem_of_getElem? (i := 22) rfl))) (by decide) (backOf (W := 0) (rm2 l Z a0 hw [] b182 (7 : Int32) of (3 : Int32) p0 p1 p2 b158 k182 k158 (List.set (List.set (List.set [(.double (13830554455654793216 : UInt64)), (.double (13835058055282163712 : UInt64)), (.double (13837309855095848960 : UInt64)), (.double (13839561654909534208 : UInt64)), (.double (13840687554816376832 : UInt64)), (.double (13841813454723219456 : UInt64)), (.double (13842939354630062080 : UInt64)), (.double (13844065254536904704 : UInt64))] (of + (0 : Int32)).toNatClampNeg (.double (own_pick p0 y0 y1 y2 y3))) (of + (1 : Int32)).toNatClampNeg (.double (own_pick p1 y0 y1 y2 y3))) (of + (2 : Int32)).toNatClampNeg (.double (own_pick p2 y0 y1 y2 y3))) [(.double y0), (.double y1), (.double y2), (.double y3)] (if (of + (2 : Int32)) = (7 : Int32) then (own_pick p2 y0 y1 y2 y3) else (if (of + (1 : Int32)) = (7 : Int32) then (own_pick p1 y0 y1 y2 y3) else (if (of + (0 : Int32)) = (7 : Int32) then (own_pick p0 y0 y1 y2 y3) else (13844065254536904704 : UInt64)))) T201.heap n0 Z201 R201_0 V_202 (show ¬ (7 : Int32) < (0 : Int32) ∧ (7 : Int32) < (8 : Int32) from ⟨by decide, by decide⟩) (show ¬ p0 < (0 : Int32) ∧ p0 < (4 : Int32) from h_p0) (show ¬ p1 < (0 : Int32) ∧ p1 < (4 : Int32) from h_p1) (show ¬ p2 < (0 : Int32) ∧ p2 < (4 : Int32) from h_p2) (show ((List.set (List.set (List.set [(.double (13830554455654793216 : UInt64)), (.double (13835058055282163712 : UInt64)), (.double (13837309855095848960 : UInt64)), (.double (13839561654909534208 : UInt64)), (.double (13840687554816376832 : UInt64)), (.double (13841813454723219456 : UInt64)), (.double (13842939354630062080 : UInt64)), (.double (13844065254536904704 : UInt64))] (of + (0 : Int32)).toNatClampNeg (.double (own_pick p0 y0 y1 y2 y3))) (of + (1 : Int32)).toNatClampNeg (.double (own_pick p1 y0 y1 y2 y3))) (of + (2 : Int32)).toNatClampNeg (.double (own_pick p2 y0 y1 y2 y3))) : List Value).getD ((7 : Int32)).toNatClampNeg (.double (0 : UInt64)) = .double (if (of + (2 : Int32)) = (7 : Int32) then (own_pick p2 y0 y1 y2 y3) else (if (of + (1 : Int32)) = (7 : Int32) then (own_pick p1 y0 y1 y2 y3) else (if (of + (0 : Int32)) = (7 : Int32) then (own_pick p0 y0 y1 y2 y3) else (13844065254536904704 : UInt64)))) from (own_gsD (by simp only [List.length_set]; rfl) ho2 ⟨by decide, by decide⟩ (own_gsD (by simp only [List.length_set]; rfl) ho1 ⟨by decide, by decide⟩ (own_gsD rfl ho0 ⟨by decide, by decide⟩ (show ([(.double (13830554455654793216 : UInt64)), (.double (13835058055282163712 : UInt64)), (.double (13837309855095848960 : UInt64)), (.double (13839561654909534208 : UInt64)), (.double (13840687554816376832 : UInt64)), (.double (13841813454723219456 : UInt64)), (.double (13842939354630062080 : UInt64)), (.double (13844065254536904704 : UInt64))] : List Value).getD 7 (.double (0 : UInt64)) = .double (13844065254536904704 : UInt64) from rfl))))) (show Jvm.Free.Fl.NoNaN64 (if (of + (2 : Int32)) = (7 : Int32) then (own_pick p2 y0 y1 y2 y3) else (if (of + (1 : Int32)) = (7 : Int32) then (own_pick p1 y0 y1 y2 y3) else (if (of + (0 : Int32)) = (7 : Int32) then (own_pick p0 y0 y1 y2 y3) else (13844065254536904704 : UInt64)))) from (own_ifn (own_pickN h_y0 h_y1 h_y2 h_y3) (own_ifn (own_pickN h_y0 h_y1 h_y2 h_y3) (own_ifn (own_pickN h_y0 h_y1 h_y2 h_y3) (by unfold Jvm.Free.Fl.NoNaN64; decide))))) (show ((7 : Int32) - of) < (0 : Int32) ∨ ¬ ((7 : Int32) - of) < (3 : Int32) → FP.i2d (-((7 : Int32) + (1 : Int32))) = (if (of + (2 : Int32)) = (7 : Int32) then (own_pick p2 y0 y1 y2 y3) else (if (of + (1 : Int32)) = (7 : Int32) then (own_pick p1 y0 y1 y2 y3) else (if (of + (0 : Int32)) = (7 : Int32) then (own_pick p0 y0 y1 y2 y3) else (13844065254536904704 : UInt64)))) from fun h => (show FP.i2d _ = (13844065254536904704 : UInt64) by decide +kernel).trans (own_out3 of _ _ _ _ _ h)) (show ¬ ((7 : Int32) - of) < (0 : Int32) → ((7 : Int32) - of) < (3 : Int32) → ((7 : Int32) - of) = (0 : Int32) → ([(.double y0), (.double y1), (.double y2), (.double y3)] : List Value).getD (p0).toNatClampNeg (.double (0 : UInt64)) = .double (if (of + (2 : Int32)) = (7 : Int32) then (own_pick p2 y0 y1 y2 y3) else (if (of + (1 : Int32)) = (7 : Int32) then (own_pick p1 y0 y1 y2 y3) else (if (of + (0 : Int32)) = (7 : Int32) then (own_pick p0 y0 y1 y2 y3) else (13844065254536904704 : UInt64)))) from fun a b c0 => (own_pickAt _ _ _ _ _ h_p0).trans (congrArg Value.double (own_hit3_0 of _ _ _ _ _ c0))) (show ¬ ((7 : Int32) - of) < (0 : Int32) → ((7 : Int32) - of) < (3 : Int32) → ¬ ((7 : Int32) - of) = (0 : Int32) → ((7 : Int32) - of) = (1 : Int32) → ([(.double y0), (.double y1), (.double y2), (.double y3)] : List Value).getD (p1).toNatClampNeg (.double (0 : UInt64)) = .double (if (of + (2 : Int32)) = (7 : Int32) then (own_pick p2 y0 y1 y2 y3) else (if (of + (1 : Int32)) = (7 : Int32) then (own_pick p1 y0 y1 y2 y3) else (if (of + (0 : Int32)) = (7 : Int32) then (own_pick p0 y0 y1 y2 y3) else (13844065254536904704 : UInt64)))) from fun a b _ c1 => (own_pickAt _ _ _ _ _ h_p1).trans (congrArg Value.double (own_hit3_1 of _ _ _ _ _ c1))) (show ¬ ((7 : Int32) - of) < (0 : Int32) → ((7 : Int32) - of) < (3 : Int32) → ¬ ((7 : Int32) - of) = (0 : Int32) → ¬ ((7 : Int32) - of) = (1 : Int32) → ([(.double y0), (.double y1), (.double y2), (.double y3)] : List Value).getD (p2).toNatClampNeg (.double (0 : UInt64)) = .double (if (of + (2 : Int32)) = (7 : Int32) then (own_pick p2 y0 y1 y2 y3) else (if (of + (1 : Int32)) = (7 : Int32) then (own_pick p1 y0 y1 y2 y3) else (if (of + (0 : Int32)) = (7 : Int32) then (own_pick p0 y0 y1 y2 y3) else (13844065254536904704 : UInt64)))) from fun a b c0 c1 => (own_pickAt _ _ _ _ _ h_p2).trans (congrArg Value.double (own_hit3_2 of _ _ _ _ _ (own_two a b c0 c1))))) hZ (hw _ (List.mem_of_getElem? (i := 22) rfl)) (hw _ (List.mem_of_getElem? (i := 21) rfl)) (by decide) (by decide)) (g := (mkF m 487 #[.val (.int pp1), .val (.int pp2), .val (.int pp3), .val (.long qq4), .second, .val (.int (3 : Int32)), .val (.int of), .val (.int p0), .val (.int p1), .val (.int p2), .val (.ref b158), .val (.ref b175), .val (.ref b182), .val (.ref b182), .val (.int (1 : Int32))] [(.ref b158), (.int p2), (.int p1), (.int p0), (.int (3 : Int32)), (.int of), (.int (7 : Int32)), (.ref b182)])) rfl (by rw [hml]; rfl) (argsL := [(.ref b182), (.int (7 : Int32)), (.int of), (.int (3 : Int32)), (.int p0), (.int p1), (.int p2), (.ref b158)]) (rest := []) (lenOf pd__28__5b_DIIIIII_5b_D_29_Z rfl) rfl (by show 2 * 0 + _ ≤ _; exact Nat.le_of_eq rfl) (hb hby at_487) (fun _ _ => ⟨rfl, e209, (by decide : 3 + 0 ≤ _), (by decide : 15 + 0 ≤ _)⟩)
    dsimp only [Pt.U, Pt.locs, Pt.cells, Pt.slots] at X210 l210 y210 z210 st210 hQ210
    subst y210 z210
    obtain ⟨rfl, N210q, e210⟩ := hQ210
    have N210 : Fr n0 L210 := by rw [l210]; exact Fr.app N209 N210q
    change Stand _ _ _ _ _ _ _ _ _ _ _ _ 3 15 at X210
    have hc490_4 : ¬ ((1 : Int32) = (0 : Int32)) := by decide
    obtain ⟨fs, hr, hrun, hended, hW, hsame⟩ := X210.leave (v := some (.int (1 : Int32))) (fun h => by rw [Bd.returns] at h; cases h)
    refine ⟨_, _, pre172 _ ?_, hrun, hended, _, _, rfl, ?_, ⟨_, rfl⟩, hW, hsame.mono (by decide) (by decide)⟩
    · show Steps p.tables e below (T170.setTop (mkF m 101 #[.val (.int pp1), .val (.int pp2), .val (.int pp3), .val (.long qq4), .second, .val (.int (3 : Int32)), .val (.int of), .val (.int p0), .val (.int p1), .val (.int p2), .val (.ref b158), .unset, .unset, .unset, .unset] [(.double y3), (.int (3 : Int32)), (.ref b158)])) _
      refine st174 _ ?_
      refine XS.iload X174.here hx rfl (hb hby at_102) rfl ?_
      refine st175 _ ?_
      refine XS.astore X175.here hx rfl (hb hby at_106) rfl rfl (l' := #[.val (.int pp1), .val (.int pp2), .val (.int pp3), .val (.long qq4), .second, .val (.int (3 : Int32)), .val (.int of), .val (.int p0), .val (.int p1), .val (.int p2), .val (.ref b158), .val (.ref b175), .unset, .unset, .unset]) rfl ?_
      refine XS.iload X175.here hx rfl (hb hby at_108) rfl ?_
      refine XS.ifNo X175.here hx rfl (hb hby at_110) rfl ((if0 _ _).trans (tlt hc110_4).2.2.2) ?_
      refine XS.aload X175.here hx rfl (hb hby at_113) rfl rfl ?_
      refine XS.iconst X175.here hx rfl (hb hby at_115) ?_
      refine XS.iload X175.here hx rfl (hb hby at_116) rfl ?_
      refine st177 _ ?_
      refine XS.iload X177.here hx rfl (hb hby at_119) rfl ?_
      refine XS.iconst X177.here hx rfl (hb hby at_121) ?_
      refine XS.icmpNo X177.here hx rfl (hb hby at_122) rfl (tlt hc122_4).2.2.2 ?_
      refine XS.aload X177.here hx rfl (hb hby at_125) rfl rfl ?_
      refine XS.iconst X177.here hx rfl (hb hby at_127) ?_
      refine XS.iload X177.here hx rfl (hb hby at_128) rfl ?_
      refine st179 _ ?_
      refine XS.iload X179.here hx rfl (hb hby at_131) rfl ?_
      refine XS.iconst X179.here hx rfl (hb hby at_133) ?_
      refine XS.icmpNo X179.here hx rfl (hb hby at_134) rfl (tlt hc134_4).2.2.2 ?_
      refine XS.aload X179.here hx rfl (hb hby at_137) rfl rfl ?_
      refine XS.iconst X179.here hx rfl (hb hby at_139) ?_
      refine XS.iload X179.here hx rfl (hb hby at_140) rfl ?_
      refine st181 _ ?_
      refine XS.bipush X181.here hx rfl (hb hby at_143) ?_
      refine st182 _ ?_
      refine XS.astore X182.here hx rfl (hb hby at_147) rfl rfl (l' := #[.val (.int pp1), .val (.int pp2), .val (.int pp3), .val (.long qq4), .second, .val (.int (3 : Int32)), .val (.int of), .val (.int p0), .val (.int p1), .val (.int p2), .val (.ref b158), .val (.ref b175), .val (.ref b182), .unset, .unset]) rfl ?_
      refine XS.aload X182.here hx rfl (hb hby at_149) rfl rfl ?_
      refine XS.iconst X182.here hx rfl (hb hby at_151) ?_
      refine X182.ldc2DoubleC hx hown (mvT hZ (hw _ (List.mem_of_getElem? (i := 7) rfl))) (g := (mkF m 152 #[.val (.int pp1), .val (.int pp2), .val (.int pp3), .val (.long qq4), .second, .val (.int (3 : Int32)), .val (.int of), .val (.int p0), .val (.int p1), .val (.int p2), .val (.ref b158), .val (.ref b175), .val (.ref b182), .unset, .unset] [(.int (0 : Int32)), (.ref b182)])) rfl (hb hby at_152) _ ?_
      refine st184 _ ?_
      refine XS.aload X184.here hx rfl (hb hby at_156) rfl rfl ?_
      refine XS.iconst X184.here hx rfl (hb hby at_158) ?_
      refine X184.ldc2DoubleC hx hown (mvT hZ (hw _ (List.mem_of_getElem? (i := 8) rfl))) (g := (mkF m 159 #[.val (.int pp1), .val (.int pp2), .val (.int pp3), .val (.long qq4), .second, .val (.int (3 : Int32)), .val (.int of), .val (.int p0), .val (.int p1), .val (.int p2), .val (.ref b158), .val (.ref b175), .val (.ref b182), .unset, .unset] [(.int (1 : Int32)), (.ref b182)])) rfl (hb hby at_159) _ ?_
      refine st186 _ ?_
      refine XS.aload X186.here hx rfl (hb hby at_163) rfl rfl ?_
      refine XS.iconst X186.here hx rfl (hb hby at_165) ?_
      refine X186.ldc2DoubleC hx hown (mvT hZ (hw _ (List.mem_of_getElem? (i := 9) rfl))) (g := (mkF m 166 #[.val (.int pp1), .val (.int pp2), .val (.int pp3), .val (.long qq4), .second, .val (.int (3 : Int32)), .val (.int of), .val (.int p0), .val (.int p1), .val (.int p2), .val (.ref b158), .val (.ref b175), .val (.ref b182), .unset, .unset] [(.int (2 : Int32)), (.ref b182)])) rfl (hb hby at_166) _ ?_
      refine st188 _ ?_
      refine XS.aload X188.here hx rfl (hb hby at_170) rfl rfl ?_
      refine XS.iconst X188.here hx rfl (hb hby at_172) ?_
      refine X188.ldc2DoubleC hx hown (mvT hZ (hw _ (List.mem_of_getElem? (i := 10) rfl))) (g := (mkF m 173 #[.val (.int pp1), .val (.int pp2), .val (.int pp3), .val (.long qq4), .second, .val (.int (3 : Int32)), .val (.int of), .val (.int p0), .val (.int p1), .val (.int p2), .val (.ref b158), .val (.ref b175), .val (.ref b182), .unset, .unset] [(.int (3 : Int32)), (.ref b182)])) rfl (hb hby at_173) _ ?_
      refine st190 _ ?_
      refine XS.aload X190.here hx rfl (hb hby at_177) rfl rfl ?_
      refine XS.iconst X190.here hx rfl (hb hby at_179) ?_
      refine X190.ldc2DoubleC hx hown (mvT hZ (hw _ (List.mem_of_getElem? (i := 11) rfl))) (g := (mkF m 180 #[.val (.int pp1), .val (.int pp2), .val (.int pp3), .val (.long qq4), .second, .val (.int (3 : Int32)), .val (.int of), .val (.int p0), .val (.int p1), .val (.int p2), .val (.ref b158), .val (.ref b175), .val (.ref b182), .unset, .unset] [(.int (4 : Int32)), (.ref b182)])) rfl (hb hby at_180) _ ?_
      refine st192 _ ?_
      refine XS.aload X192.here hx rfl (hb hby at_184) rfl rfl ?_
      refine XS.iconst X192.here hx rfl (hb hby at_186) ?_
      refine X192.ldc2DoubleC hx hown (mvT hZ (hw _ (List.mem_of_getElem? (i := 12) rfl))) (g := (mkF m 187 #[.val (.int pp1), .val (.int pp2), .val (.int pp3), .val (.long qq4), .second, .val (.int (3 : Int32)), .val (.int of), .val (.int p0), .val (.int p1), .val (.int p2), .val (.ref b158), .val (.ref b175), .val (.ref b182), .unset, .unset] [(.int (5 : Int32)), (.ref b182)])) rfl (hb hby at_187) _ ?_
      refine st194 _ ?_
      refine XS.aload X194.here hx rfl (hb hby at_191) rfl rfl ?_
      refine XS.bipush X194.here hx rfl (hb hby at_193) ?_
      refine X194.ldc2DoubleC hx hown (mvT hZ (hw _ (List.mem_of_getElem? (i := 13) rfl))) (g := (mkF m 195 #[.val (.int pp1), .val (.int pp2), .val (.int pp3), .val (.long qq4), .second, .val (.int (3 : Int32)), .val (.int of), .val (.int p0), .val (.int p1), .val (.int p2), .val (.ref b158), .val (.ref b175), .val (.ref b182), .unset, .unset] [(.int (6 : Int32)), (.ref b182)])) rfl (hb hby at_195) _ ?_
      refine st196 _ ?_
      refine XS.aload X196.here hx rfl (hb hby at_199) rfl rfl ?_
      refine XS.bipush X196.here hx rfl (hb hby at_201) ?_
      refine X196.ldc2DoubleC hx hown (mvT hZ (hw _ (List.mem_of_getElem? (i := 14) rfl))) (g := (mkF m 203 #[.val (.int pp1), .val (.int pp2), .val (.int pp3), .val (.long qq4), .second, .val (.int (3 : Int32)), .val (.int of), .val (.int p0), .val (.int p1), .val (.int p2), .val (.ref b158), .val (.ref b175), .val (.ref b182), .unset, .unset] [(.int (7 : Int32)), (.ref b182)])) rfl (hb hby at_203) _ ?_
      refine st198 _ ?_
      refine XS.aload X198.here hx rfl (hb hby at_207) rfl rfl ?_
      refine XS.aload X198.here hx rfl (hb hby at_209) rfl rfl ?_
      refine XS.aload X198.here hx rfl (hb hby at_211) rfl rfl ?_
      refine XS.iload X198.here hx rfl (hb hby at_213) rfl ?_
      refine st201 _ ?_
      refine XS.astore X201.here hx rfl (hb hby at_218) rfl rfl (l' := #[.val (.int pp1), .val (.int pp2), .val (.int pp3), .val (.long qq4), .second, .val (.int (3 : Int32)), .val (.int of), .val (.int p0), .val (.int p1), .val (.int p2), .val (.ref b158), .val (.ref b175), .val (.ref b182), .val (.ref b182), .unset]) rfl ?_
      refine XS.aload X201.here hx rfl (hb hby at_220) rfl rfl ?_
      refine XS.aload X201.here hx rfl (hb hby at_222) rfl rfl ?_
      refine Jvm.RoadKit.acmp (g := (mkF m 224 #[.val (.int pp1), .val (.int pp2), .val (.int pp3), .val (.long qq4), .second, .val (.int (3 : Int32)), .val (.int of), .val (.int p0), .val (.int p1), .val (.int p2), .val (.ref b158), .val (.ref b175), .val (.ref b182), .val (.ref b182), .unset] [(.ref b182), (.ref b182)])) X201 hx rfl rfl rfl (pc0 := 224) (pc' := 227) (same := true) rfl (hb hby at_224) rfl (decide_eq_true rfl) (by decide) (by decide) ?_
      refine XS.iconst X201.here hx rfl (hb hby at_227) ?_
      refine XS.goto X201.here hx rfl (pc0 := 228) (pc' := 232) rfl (hb hby at_228) (by decide) (by decide) ?_
      refine XS.istore X201.here hx rfl (hb hby at_232) rfl (l' := #[.val (.int pp1), .val (.int pp2), .val (.int pp3), .val (.long qq4), .second, .val (.int (3 : Int32)), .val (.int of), .val (.int p0), .val (.int p1), .val (.int p2), .val (.ref b158), .val (.ref b175), .val (.ref b182), .val (.ref b182), .val (.int (1 : Int32))]) rfl ?_
      refine XS.iload X201.here hx rfl (hb hby at_234) rfl ?_
      refine XS.ifNo X201.here hx rfl (hb hby at_236) rfl ((if0 _ _).trans (feq hc236_4).1) ?_
      refine XS.aload X201.here hx rfl (hb hby at_239) rfl rfl ?_
      refine XS.iconst X201.here hx rfl (hb hby at_241) ?_
      refine XS.iload X201.here hx rfl (hb hby at_242) rfl ?_
      refine XS.iload X201.here hx rfl (hb hby at_244) rfl ?_
      refine XS.iload X201.here hx rfl (hb hby at_246) rfl ?_
      refine XS.iload X201.here hx rfl (hb hby at_248) rfl ?_
      refine XS.iload X201.here hx rfl (hb hby at_250) rfl ?_
      refine XS.aload X201.here hx rfl (hb hby at_252) rfl rfl ?_
      refine st203 _ ?_
      refine XS.ifNo X203.here hx rfl (hb hby at_257) rfl ((if0 _ _).trans (feq hc257_4).1) ?_
      refine XS.iconst X203.here hx rfl (hb hby at_260) ?_
      refine XS.goto X203.here hx rfl (pc0 := 261) (pc' := 265) rfl (hb hby at_261) (by decide) (by decide) ?_
      refine XS.istore X203.here hx rfl (hb hby at_265) rfl (l' := #[.val (.int pp1), .val (.int pp2), .val (.int pp3), .val (.long qq4), .second, .val (.int (3 : Int32)), .val (.int of), .val (.int p0), .val (.int p1), .val (.int p2), .val (.ref b158), .val (.ref b175), .val (.ref b182), .val (.ref b182), .val (.int (1 : Int32))]) rfl ?_
      refine XS.iload X203.here hx rfl (hb hby at_267) rfl ?_
      refine XS.ifNo X203.here hx rfl (hb hby at_269) rfl ((if0 _ _).trans (feq hc269_4).1) ?_
      refine XS.aload X203.here hx rfl (hb hby at_272) rfl rfl ?_
      refine XS.iconst X203.here hx rfl (hb hby at_274) ?_
      refine XS.iload X203.here hx rfl (hb hby at_275) rfl ?_
      refine XS.iload X203.here hx rfl (hb hby at_277) rfl ?_
      refine XS.iload X203.here hx rfl (hb hby at_279) rfl ?_
      refine XS.iload X203.here hx rfl (hb hby at_281) rfl ?_
      refine XS.iload X203.here hx rfl (hb hby at_283) rfl ?_
      refine XS.aload X203.here hx rfl (hb hby at_285) rfl rfl ?_
      refine st204 _ ?_
      refine XS.ifNo X204.here hx rfl (hb hby at_290) rfl ((if0 _ _).trans (feq hc290_4).1) ?_
      refine XS.iconst X204.here hx rfl (hb hby at_293) ?_
      refine XS.goto X204.here hx rfl (pc0 := 294) (pc' := 298) rfl (hb hby at_294) (by decide) (by decide) ?_
      refine XS.istore X204.here hx rfl (hb hby at_298) rfl (l' := #[.val (.int pp1), .val (.int pp2), .val (.int pp3), .val (.long qq4), .second, .val (.int (3 : Int32)), .val (.int of), .val (.int p0), .val (.int p1), .val (.int p2), .val (.ref b158), .val (.ref b175), .val (.ref b182), .val (.ref b182), .val (.int (1 : Int32))]) rfl ?_
      refine XS.iload X204.here hx rfl (hb hby at_300) rfl ?_
      refine XS.ifNo X204.here hx rfl (hb hby at_302) rfl ((if0 _ _).trans (feq hc302_4).1) ?_
      refine XS.aload X204.here hx rfl (hb hby at_305) rfl rfl ?_
      refine XS.iconst X204.here hx rfl (hb hby at_307) ?_
      refine XS.iload X204.here hx rfl (hb hby at_308) rfl ?_
      refine XS.iload X204.here hx rfl (hb hby at_310) rfl ?_
      refine XS.iload X204.here hx rfl (hb hby at_312) rfl ?_
      refine XS.iload X204.here hx rfl (hb hby at_314) rfl ?_
      refine XS.iload X204.here hx rfl (hb hby at_316) rfl ?_
      refine XS.aload X204.here hx rfl (hb hby at_318) rfl rfl ?_
      refine st205 _ ?_
      refine XS.ifNo X205.here hx rfl (hb hby at_323) rfl ((if0 _ _).trans (feq hc323_4).1) ?_
      refine XS.iconst X205.here hx rfl (hb hby at_326) ?_
      refine XS.goto X205.here hx rfl (pc0 := 327) (pc' := 331) rfl (hb hby at_327) (by decide) (by decide) ?_
      refine XS.istore X205.here hx rfl (hb hby at_331) rfl (l' := #[.val (.int pp1), .val (.int pp2), .val (.int pp3), .val (.long qq4), .second, .val (.int (3 : Int32)), .val (.int of), .val (.int p0), .val (.int p1), .val (.int p2), .val (.ref b158), .val (.ref b175), .val (.ref b182), .val (.ref b182), .val (.int (1 : Int32))]) rfl ?_
      refine XS.iload X205.here hx rfl (hb hby at_333) rfl ?_
      refine XS.ifNo X205.here hx rfl (hb hby at_335) rfl ((if0 _ _).trans (feq hc335_4).1) ?_
      refine XS.aload X205.here hx rfl (hb hby at_338) rfl rfl ?_
      refine XS.iconst X205.here hx rfl (hb hby at_340) ?_
      refine XS.iload X205.here hx rfl (hb hby at_341) rfl ?_
      refine XS.iload X205.here hx rfl (hb hby at_343) rfl ?_
      refine XS.iload X205.here hx rfl (hb hby at_345) rfl ?_
      refine XS.iload X205.here hx rfl (hb hby at_347) rfl ?_
      refine XS.iload X205.here hx rfl (hb hby at_349) rfl ?_
      refine XS.aload X205.here hx rfl (hb hby at_351) rfl rfl ?_
      refine st206 _ ?_
      refine XS.ifNo X206.here hx rfl (hb hby at_356) rfl ((if0 _ _).trans (feq hc356_4).1) ?_
      refine XS.iconst X206.here hx rfl (hb hby at_359) ?_
      refine XS.goto X206.here hx rfl (pc0 := 360) (pc' := 364) rfl (hb hby at_360) (by decide) (by decide) ?_
      refine XS.istore X206.here hx rfl (hb hby at_364) rfl (l' := #[.val (.int pp1), .val (.int pp2), .val (.int pp3), .val (.long qq4), .second, .val (.int (3 : Int32)), .val (.int of), .val (.int p0), .val (.int p1), .val (.int p2), .val (.ref b158), .val (.ref b175), .val (.ref b182), .val (.ref b182), .val (.int (1 : Int32))]) rfl ?_
      refine XS.iload X206.here hx rfl (hb hby at_366) rfl ?_
      refine XS.ifNo X206.here hx rfl (hb hby at_368) rfl ((if0 _ _).trans (feq hc368_4).1) ?_
      refine XS.aload X206.here hx rfl (hb hby at_371) rfl rfl ?_
      refine XS.iconst X206.here hx rfl (hb hby at_373) ?_
      refine XS.iload X206.here hx rfl (hb hby at_374) rfl ?_
      refine XS.iload X206.here hx rfl (hb hby at_376) rfl ?_
      refine XS.iload X206.here hx rfl (hb hby at_378) rfl ?_
      refine XS.iload X206.here hx rfl (hb hby at_380) rfl ?_
      refine XS.iload X206.here hx rfl (hb hby at_382) rfl ?_
      refine XS.aload X206.here hx rfl (hb hby at_384) rfl rfl ?_
      refine st207 _ ?_
      refine XS.ifNo X207.here hx rfl (hb hby at_389) rfl ((if0 _ _).trans (feq hc389_4).1) ?_
      refine XS.iconst X207.here hx rfl (hb hby at_392) ?_
      refine XS.goto X207.here hx rfl (pc0 := 393) (pc' := 397) rfl (hb hby at_393) (by decide) (by decide) ?_
      refine XS.istore X207.here hx rfl (hb hby at_397) rfl (l' := #[.val (.int pp1), .val (.int pp2), .val (.int pp3), .val (.long qq4), .second, .val (.int (3 : Int32)), .val (.int of), .val (.int p0), .val (.int p1), .val (.int p2), .val (.ref b158), .val (.ref b175), .val (.ref b182), .val (.ref b182), .val (.int (1 : Int32))]) rfl ?_
      refine XS.iload X207.here hx rfl (hb hby at_399) rfl ?_
      refine XS.ifNo X207.here hx rfl (hb hby at_401) rfl ((if0 _ _).trans (feq hc401_4).1) ?_
      refine XS.aload X207.here hx rfl (hb hby at_404) rfl rfl ?_
      refine XS.iconst X207.here hx rfl (hb hby at_406) ?_
      refine XS.iload X207.here hx rfl (hb hby at_407) rfl ?_
      refine XS.iload X207.here hx rfl (hb hby at_409) rfl ?_
      refine XS.iload X207.here hx rfl (hb hby at_411) rfl ?_
      refine XS.iload X207.here hx rfl (hb hby at_413) rfl ?_
      refine XS.iload X207.here hx rfl (hb hby at_415) rfl ?_
      refine XS.aload X207.here hx rfl (hb hby at_417) rfl rfl ?_
      refine st208 _ ?_
      refine XS.ifNo X208.here hx rfl (hb hby at_422) rfl ((if0 _ _).trans (feq hc422_4).1) ?_
      refine XS.iconst X208.here hx rfl (hb hby at_425) ?_
      refine XS.goto X208.here hx rfl (pc0 := 426) (pc' := 430) rfl (hb hby at_426) (by decide) (by decide) ?_
      refine XS.istore X208.here hx rfl (hb hby at_430) rfl (l' := #[.val (.int pp1), .val (.int pp2), .val (.int pp3), .val (.long qq4), .second, .val (.int (3 : Int32)), .val (.int of), .val (.int p0), .val (.int p1), .val (.int p2), .val (.ref b158), .val (.ref b175), .val (.ref b182), .val (.ref b182), .val (.int (1 : Int32))]) rfl ?_
      refine XS.iload X208.here hx rfl (hb hby at_432) rfl ?_
      refine XS.ifNo X208.here hx rfl (hb hby at_434) rfl ((if0 _ _).trans (feq hc434_4).1) ?_
      refine XS.aload X208.here hx rfl (hb hby at_437) rfl rfl ?_
      refine XS.bipush X208.here hx rfl (hb hby at_439) ?_
      refine XS.iload X208.here hx rfl (hb hby at_441) rfl ?_
      refine XS.iload X208.here hx rfl (hb hby at_443) rfl ?_
      refine XS.iload X208.here hx rfl (hb hby at_445) rfl ?_
      refine XS.iload X208.here hx rfl (hb hby at_447) rfl ?_
      refine XS.iload X208.here hx rfl (hb hby at_449) rfl ?_
      refine XS.aload X208.here hx rfl (hb hby at_451) rfl rfl ?_
      refine st209 _ ?_
      refine XS.ifNo X209.here hx rfl (hb hby at_456) rfl ((if0 _ _).trans (feq hc456_4).1) ?_
      refine XS.iconst X209.here hx rfl (hb hby at_459) ?_
      refine XS.goto X209.here hx rfl (pc0 := 460) (pc' := 464) rfl (hb hby at_460) (by decide) (by decide) ?_
      refine XS.istore X209.here hx rfl (hb hby at_464) rfl (l' := #[.val (.int pp1), .val (.int pp2), .val (.int pp3), .val (.long qq4), .second, .val (.int (3 : Int32)), .val (.int of), .val (.int p0), .val (.int p1), .val (.int p2), .val (.ref b158), .val (.ref b175), .val (.ref b182), .val (.ref b182), .val (.int (1 : Int32))]) rfl ?_
      refine XS.iload X209.here hx rfl (hb hby at_466) rfl ?_
      refine XS.ifNo X209.here hx rfl (hb hby at_468) rfl ((if0 _ _).trans (feq hc468_4).1) ?_
      refine XS.aload X209.here hx rfl (hb hby at_471) rfl rfl ?_
      refine XS.bipush X209.here hx rfl (hb hby at_473) ?_
      refine XS.iload X209.here hx rfl (hb hby at_475) rfl ?_
      refine XS.iload X209.here hx rfl (hb hby at_477) rfl ?_
      refine XS.iload X209.here hx rfl (hb hby at_479) rfl ?_
      refine XS.iload X209.here hx rfl (hb hby at_481) rfl ?_
      refine XS.iload X209.here hx rfl (hb hby at_483) rfl ?_
      refine XS.aload X209.here hx rfl (hb hby at_485) rfl rfl ?_
      refine st210 _ ?_
      refine XS.ifNo X210.here hx rfl (hb hby at_490) rfl ((if0 _ _).trans (feq hc490_4).1) ?_
      refine XS.iconst X210.here hx rfl (hb hby at_493) ?_
      refine XS.goto X210.here hx rfl (pc0 := 494) (pc' := 498) rfl (hb hby at_494) (by decide) (by decide) ?_
      refine XS.istore X210.here hx rfl (hb hby at_498) rfl (l' := #[.val (.int pp1), .val (.int pp2), .val (.int pp3), .val (.long qq4), .second, .val (.int (3 : Int32)), .val (.int of), .val (.int p0), .val (.int p1), .val (.int p2), .val (.ref b158), .val (.ref b175), .val (.ref b182), .val (.ref b182), .val (.int (1 : Int32))]) rfl ?_
      refine XS.iload X210.here hx rfl (hb hby at_500) rfl ?_
      exact retN X210 hx (t := .boolean) Bd.returns (by simp) (hb hby at_502) hr
    · show Q0 Z pp1 pp2 pp3 qq4 h0 n0 _ T210.heap _
      rw [e210]
      exact ⟨rfl, N210⟩
set_option maxRecDepth 65536 in
set_option maxHeartbeats 40000000 in
theorem comes_1 {Post : Tables → Env → Array Value → State → Outcome → State → Prop} (hpost : ∀ tb e args s v u, (limb_1_1.after args s (.returned v) u = true ∧ limb_1_2.after args s (.returned v) u = true ∧ True) → FrameEnd s (.returned v) u (Jvm.fieldLocs frame_1_writes args s ++ Jvm.arrayLocs frame_1_arrays args s ++ Jvm.staticLocs frame_1_statics s) 16 128 → Post tb e args s (.returned v) u) :
    ArmFor flags0 classFile x code maxLocals ret World_1 tables_1 room_1 Calls_1 rest_1 Pre_1 Post := by
  intro l hfl _ _ p e ha hc hk s m args below hf hA hF happ hP
  obtain ⟨hcalls, hrest, hpre⟩ := hP
  obtain ⟨-, -, -, hnamed, -, -, -, hat⟩ := (Spec.applies_iff hf).mp happ
  obtain ⟨hg, hn⟩ := and_e (Cond.before_iff.mp (show (Jvm.Cond.and given_1 narrow_1).before args s = true from hpre))
  obtain ⟨g1, g2⟩ := and_e hg
  obtain ⟨g3, g4⟩ := and_e g2
  obtain ⟨g5, g6⟩ := and_e g4
  obtain ⟨g7, g8⟩ := and_e g6
  obtain ⟨w0, w1, w2, w3, rfl⟩ : ∃ w0 w1 w2 w3 : Value, args = #[w0, w1, w2, w3] := by
    have hs : args.size = 4 := by simpa [Cond.value, given_1] using g1
    obtain ⟨L⟩ := args
    match L, hs with
    | [w0, w1, w2, w3], _ => exact ⟨w0, w1, w2, w3, rfl⟩
  have hw := fun d (hd : d ∈ tables_1) => atoms_spec (ws := Jvm.Cond.code x code maxLocals ret :: tables_1) hat d (List.mem_cons_of_mem _ hd)
  have hfit : Fit s := fun {y c} hc i hi => by
    obtain ⟨ha, rfl⟩ := Array.getElem?_eq_some_iff.mp hc
    have q := List.all_eq_true.mp ((Array.all_eq_true_iff_forall_mem.mp hF) _ (Array.getElem_mem ha)) i (List.mem_range.mpr hi)
    simpa [Array.getElem?_eq_getElem hi] using q
  obtain ⟨i0, ei0⟩ := is_v g3
  obtain rfl : w0 = (.int i0) := Option.some.inj ei0
  obtain ⟨i1, ei1⟩ := is_v g5
  obtain rfl : w1 = (.int i1) := Option.some.inj ei1
  obtain ⟨i2, ei2⟩ := is_v g7
  obtain rfl : w2 = (.int i2) := Option.some.inj ei2
  obtain ⟨i3, ei3⟩ := isL_v g8
  obtain rfl : w3 = (.long i3) := Option.some.inj ei3
  obtain ⟨n, o, h1, h2, h3, _, L, rfl, ⟨rfl, N⟩, hq⟩ := rm0 l s _ hw tables_1 i0 i1 i2 i3 s.heap s.heap.size (Nat.le_refl _)  p e ha hc hk s m _ below hf ((Spec.applies_iff_loose hf).mp happ).1 ⟨rfl, State.Warmed39.refl s, rfl⟩ trivial
  refine ⟨n, _, h1, h2, h3, hpost _ _ _ _ _ _ ⟨Cond.after_iff.mpr rfl, Cond.after_iff.mpr (eq_i res_at (Term.int_eval (1)) rfl), trivial⟩ ⟨hq.1, hq.2.1, (hq.2.2.sift fun y hy => Or.inr (N y hy)).mono (by decide) (by decide)⟩⟩
theorem main_1_1 : Claimed_1_1 := comes_1 fun _ _ _ _ _ _ h hF => ⟨h.1, hF⟩
theorem main_1_2 : Claimed_1_2 := comes_1 fun _ _ _ _ _ _ h hF => ⟨h.2.1, hF⟩
end Jvm.Pilot.@@N@@
namespace Jvm.Pilot.@@N@@
open Jvm Jvm.ClassFile Sem Op Lib Jvm.Free Jvm.Stand Jvm.Pilot.@@N@@.Jvm.D
/-! MADE BY PROGRAM (witnessworld.py) out of the Statement's table words and the real class files: 11 classes; the members and pool entries that the words name. The judged class is class 1, her method 1. -/
namespace start1
open Jvm.ClassFile
def u (s : String) : CpInfo := .utf8 (stringToUtf16 s)
/-- a pool by its gaps: so many unusable entries, then the entry; so many at the end -/
def gap : Nat → List CpInfo → List CpInfo
  | 0, r => r
  | n + 1, r => .unusable :: gap n r
def poolList (es : List (Nat × CpInfo)) (last : Nat) : List CpInfo := es.foldr (fun e r => gap e.1 (e.2 :: r)) (gap last [])
def pool (es : List (Nat × CpInfo)) (last : Nat) : Array CpInfo := ⟨poolList es last⟩
def fileOf (pool : Array CpInfo) (this : Nat) (attrs : Array Attribute := #[]) (ms : Array MethodInfo := #[]) (fl : Nat := 33) (sup : Nat := 0) (ifs : Array Nat := #[]) (fds : Array FieldInfo := #[]) : ClassFile where
  minorVersion := 0
  majorVersion := 65
  constantPool := pool
  accessFlags := fl
  thisClass := this
  superClass := sup
  interfaces := ifs
  fields := fds
  methods := ms
  attributes := attrs
def plain (name : String) (sup : Option ClassId) : Class where
  name := name
  kind := .ordinary
  loader := none
  accessFlags := 33
  super := sup
  interfaces := #[]
  cf := none
  fields := #[]
  methods := #[]
  instanceTypes := #[]
  staticTypes := #[]
  resolved := #[]
  callSites := []
  init := .initialized
  statics := none
  mirror := none

def pool0 : Array CpInfo := pool [(5, u "<init>"), (0, u "()V"), (1, .class_ 10), (1, u "java/lang/Object")] 113

def k0m0 : Method := { name := "<init>", desc := "()V", sig := { parameters := [], returnType := none }, accessFlags := 1, code := none }
/-- java/lang/Object -/
def k0 : Class := { plain "java/lang/Object" none with
  accessFlags := 33
  interfaces := #[]
  cf := some (fileOf pool0 8 #[] #[{ accessFlags := 1, nameIndex := 5, descriptorIndex := 6, attributes := #[] }] 33 0 #[] #[])
  fields := #[]
  methods := #[k0m0]
  instanceTypes := #[]
  staticTypes := #[]
  resolved := Array.replicate 124 none
  statics := none }

def pool1 : Array CpInfo := pool [(2, .class_ 4), (1, u "java/lang/Object"), (0, u "<init>"), (0, u "()V"), (0, .integer 2147483647), (0, .long 255), (1, .long 1000), (1, .long 2000), (1, .long 3000), (1, .double 13830554455654793216), (1, .double 13835058055282163712), (1, .double 13837309855095848960), (1, .double 13839561654909534208), (1, .double 13840687554816376832), (1, .double 13841813454723219456), (1, .double 13842939354630062080), (1, .double 13844065254536904704), (1, .methodref 33 34), (0, .class_ 35), (0, .nameAndType 36 37), (0, u "com/example/splitgrain/splitgrain/parse/ChartItems"), (0, u "gather"), (0, u "([I[D[DI)[D"), (0, .methodref 39 40), (0, .class_ 41), (0, .nameAndType 42 43), (0, u "com/example/splitgrain/splitgrain/parse/ChartItemsGatherPinLaw"), (0, u "check"), (0, u "([DIIIIII[D)Z"), (2, u "law"), (0, u "(IIIJ)Z")] 7

def k1m0 : Method := { name := "<init>", desc := "()V", sig := { parameters := [], returnType := none }, accessFlags := 1, code := none }
def k1c1 : Code := { maxStack := 8, maxLocals := 15, code := code, exceptionTable := #[], attributes := #[] }
def k1m1 : Method := { name := "law", desc := "(IIIJ)Z", sig := { parameters := [.int, .int, .int, .long], returnType := some .boolean }, accessFlags := 9, code := some k1c1 }
def k1c2 : Code := { maxStack := 4, maxLocals := 11, code := method_3_code, exceptionTable := #[], attributes := #[] }
def k1m2 : Method := { name := "check", desc := "([DIIIIII[D)Z", sig := { parameters := [(.array .double), .int, .int, .int, .int, .int, .int, (.array .double)], returnType := some .boolean }, accessFlags := 10, code := some k1c2 }
/-- com/example/splitgrain/splitgrain/parse/ChartItemsGatherPinLaw -/
def k1 : Class := { plain "com/example/splitgrain/splitgrain/parse/ChartItemsGatherPinLaw" (some 0) with
  accessFlags := 49
  interfaces := #[]
  cf := some (fileOf pool1 39 #[] #[{ accessFlags := 1, nameIndex := 5, descriptorIndex := 6, attributes := #[] }, { accessFlags := 9, nameIndex := 46, descriptorIndex := 47, attributes := #[] }, { accessFlags := 10, nameIndex := 42, descriptorIndex := 43, attributes := #[] }] 49 2 #[] #[])
  fields := #[]
  methods := #[k1m0, k1m1, k1m2]
  instanceTypes := #[]
  staticTypes := #[]
  resolved := Array.replicate 55 none
  statics := none }

def pool2 : Array CpInfo := pool [(2, .class_ 4), (1, u "java/lang/Object"), (3, .class_ 10), (1, u "com/example/splitgrain/splitgrain/parse/ChartItems"), (0, u "_items"), (0, u "[[I"), (2, u "_offsets"), (0, u "[I"), (43, u "gather"), (0, u "([I[D[DI)[D")] 5

def k2c0 : Code := { maxStack := 5, maxLocals := 5, code := prog_31_method_7_code, exceptionTable := #[], attributes := #[] }
def k2m0 : Method := { name := "gather", desc := "([I[D[DI)[D", sig := { parameters := [(.array .int), (.array .double), (.array .double), .int], returnType := some (.array .double) }, accessFlags := 8, code := some k2c0 }
/-- com/example/splitgrain/splitgrain/parse/ChartItems -/
def k2 : Class := { plain "com/example/splitgrain/splitgrain/parse/ChartItems" (some 0) with
  accessFlags := 48
  interfaces := #[]
  cf := some (fileOf pool2 8 #[] #[{ accessFlags := 8, nameIndex := 60, descriptorIndex := 61, attributes := #[] }] 48 2 #[] #[{ accessFlags := 18, nameIndex := 11, descriptorIndex := 12, attributes := #[] }, { accessFlags := 18, nameIndex := 15, descriptorIndex := 16, attributes := #[] }])
  fields := #[{ name := "_items", type := (.array (.array .int)), accessFlags := 18, slot := 0, constantValue := 0 }, { name := "_offsets", type := (.array .int), accessFlags := 18, slot := 1, constantValue := 0 }]
  methods := #[k2m0]
  instanceTypes := #[(.array (.array .int)), (.array .int)]
  staticTypes := #[]
  resolved := Array.replicate 67 none
  statics := none }

def pool3 : Array CpInfo := pool [(1, u "java/lang/Cloneable"), (0, .class_ 1), (0, u "java/lang/Object"), (0, .class_ 3)] 3

/-- java/lang/Cloneable -/
def k3 : Class := { plain "java/lang/Cloneable" (some 0) with
  accessFlags := 1537
  interfaces := #[]
  cf := some (fileOf pool3 2 #[] #[] 1537 4 #[] #[])
  fields := #[]
  methods := #[]
  instanceTypes := #[]
  staticTypes := #[]
  resolved := Array.replicate 8 none
  statics := none }

def pool4 : Array CpInfo := pool [(1, u "java/io/Serializable"), (0, .class_ 1), (0, u "java/lang/Object"), (0, .class_ 3)] 3

/-- java/io/Serializable -/
def k4 : Class := { plain "java/io/Serializable" (some 0) with
  accessFlags := 1537
  interfaces := #[]
  cf := some (fileOf pool4 2 #[] #[] 1537 4 #[] #[])
  fields := #[]
  methods := #[]
  instanceTypes := #[]
  staticTypes := #[]
  resolved := Array.replicate 8 none
  statics := none }

/-- the primitive byte -/
def k5 : Class := { plain "byte" none with kind := .primitive 'B', accessFlags := 0x411 }
/-- [B -/
def k6 : Class := { plain "[B" (some 0) with kind := .array 5 .byte, interfaces := #[3, 4], accessFlags := 1041 }

/-- the primitive double -/
def k7 : Class := { plain "double" none with kind := .primitive 'D', accessFlags := 0x411 }
/-- [D -/
def k8 : Class := { plain "[D" (some 0) with kind := .array 7 .double, interfaces := #[3, 4], accessFlags := 1041 }

/-- the primitive int -/
def k9 : Class := { plain "int" none with kind := .primitive 'I', accessFlags := 0x411 }
/-- [I -/
def k10 : Class := { plain "[I" (some 0) with kind := .array 9 .int, interfaces := #[3, 4], accessFlags := 1041 }

def heap : Heap := #[]
def classes : Array Class := #[k0, k1, k2, k3, k4, k5, k6, k7, k8, k9, k10]
def interned : List (Array UInt16 × Addr) := []
def slotsUsed : Nat := 0
def theMethod : MethodId := ⟨1, 1⟩
def args0 : Array Value := #[.int 1, .int 2, .int 3, .long 9]
def aboutOver (below : List Frame) : State where
  vm := { classes := classes, interned := interned.toArray }
  heap := heap
  slotsUsed := slotsUsed
  threads := #[{ frames := .invoking theMethod args0 :: below }]
def below0 : List Frame := [.native { method := ⟨0, 0⟩, args := #[] }]
def about1 : State := aboutOver below0
def p0 : Program := .bare "" "" ""
def e0 : Env := launch0.env 0 0 0
theorem w_frames : about1.frames = Frame.invoking theMethod args0 :: below0 := rfl
set_option maxRecDepth 65536 in
theorem w_args : argsFit about1.vm theMethod args0 = true := by decide +kernel
set_option maxRecDepth 65536 in
theorem w_heap : heapFits about1 = true := by decide +kernel
set_option maxRecDepth 65536 in
theorem w_runnable : about1.curStatus? = some .runnable := by decide +kernel
set_option maxRecDepth 65536 in
theorem w_alone : about1.alone = true := by decide +kernel
set_option maxRecDepth 65536 in
theorem w_named : about1.methodNamed? x = some theMethod := by decide +kernel
set_option maxRecDepth 65536 in
theorem w_hears : about1.hears theMethod below0 = true := by decide +kernel
set_option maxRecDepth 65536 in
theorem w_ripe : about1.ripe theMethod args0 below0 = true := by decide +kernel
theorem w_running : about1.status = .running := rfl
set_option maxRecDepth 65536 in
theorem w_room : about1.hasRoom e0.platform room_1 = true :=
  launch0.hasRoom_least _ room_1 (by decide +kernel) (by decide +kernel) (by decide +kernel) (by decide +kernel) (by decide +kernel) (by decide +kernel)
theorem allAtoms_all (ts : List Jvm.Cond) (a : Array Jvm.Value) (st : Jvm.State) : (allAtoms ts).before a st = ts.all (fun c => c.before a st) := by
  induction ts with
  | nil => rfl
  | cons c t ih =>
    show (Jvm.Cond.and c (allAtoms t)).before a st = _
    rw [Jvm.Cond.before_and, ih, List.all_cons]
def words1 : List Jvm.Cond := Jvm.Cond.code x code maxLocals ret :: tables_1
/-- a 'code' word, met by the world's own term for the bytes: nothing is compared byte by byte -/
theorem code_word {y : MethodName} {bytes : ByteArray} {mx : Nat} {rt : Option FieldType} {a : Array Value} {s : State} {m : MethodId} {meth : Method} {c : Code} (h1 : s.methodNamed? y = some m) (h2 : s.vm.method? m = some meth) (h3 : meth.code = some c) (h4 : c.code = bytes)
    (h5 : (c.maxLocals == mx && c.exceptionTable.isEmpty && decide (c.maxStack ≤ mostOperands) && decide (meth.sig.returnType = rt) && !meth.locks && decide (parseMethodDescriptor y.desc = some meth.sig)) = true) : (Jvm.Cond.code y bytes mx rt).before a s = true := by
  simp only [Bool.and_eq_true, beq_iff_eq, Bool.not_eq_true', decide_eq_true_eq] at h5
  obtain ⟨⟨⟨⟨⟨g1, g2⟩, g3⟩, g4⟩, g5⟩, g6⟩ := h5
  simp [Cond.before, Cond.holds, Cond.value, h1, h2, h3, h4, g1, g2, g3, g4, g5, g6]
def isCode : Jvm.Cond → Bool
  | .code _ _ _ _ => true
  | _ => false
theorem all_split {L : List Jvm.Cond} {P : Jvm.Cond → Bool} (h1 : L.all (fun c => isCode c || P c) = true) (h2 : ∀ c ∈ L.filter isCode, P c = true) : L.all P = true := by
  refine List.all_eq_true.mpr fun c hc => ?_
  have h := List.all_eq_true.mp h1 c hc
  rcases Bool.eq_false_or_eq_true (isCode c) with hi | hi
  · exact h2 c (List.mem_filter.mpr ⟨hc, hi⟩)
  · simpa [hi] using h
set_option maxRecDepth 65536 in
theorem w_c0 : (Jvm.Cond.code x code maxLocals ret).before args0 about1 = true := code_word (m := ⟨1, 1⟩) (meth := k1m1) (c := k1c1) (by decide +kernel) rfl rfl rfl (by decide +kernel)
set_option maxRecDepth 65536 in
theorem w_c1 : (Jvm.Cond.code ({ cls := "com/example/splitgrain/splitgrain/parse/ChartItems", name := "gather", desc := "([I[D[DI)[D" } : Jvm.MethodName) prog_31_method_7_code (5 : Nat) (Option.some (Jvm.ClassFile.FieldType.array Jvm.ClassFile.FieldType.double))).before args0 about1 = true := code_word (m := ⟨2, 0⟩) (meth := k2m0) (c := k2c0) (by decide +kernel) rfl rfl rfl (by decide +kernel)
set_option maxRecDepth 65536 in
theorem w_c2 : (Jvm.Cond.code ({ cls := "com/example/splitgrain/splitgrain/parse/ChartItemsGatherPinLaw", name := "check", desc := "([DIIIIII[D)Z" } : Jvm.MethodName) method_3_code (11 : Nat) (Option.some Jvm.ClassFile.FieldType.boolean)).before args0 about1 = true := code_word (m := ⟨1, 2⟩) (meth := k1m2) (c := k1c2) (by decide +kernel) rfl rfl rfl (by decide +kernel)
def codes1 : List Jvm.Cond := [Jvm.Cond.code x code maxLocals ret, Jvm.Cond.code ({ cls := "com/example/splitgrain/splitgrain/parse/ChartItems", name := "gather", desc := "([I[D[DI)[D" } : Jvm.MethodName) prog_31_method_7_code (5 : Nat) (Option.some (Jvm.ClassFile.FieldType.array Jvm.ClassFile.FieldType.double)), Jvm.Cond.code ({ cls := "com/example/splitgrain/splitgrain/parse/ChartItemsGatherPinLaw", name := "check", desc := "([DIIIIII[D)Z" } : Jvm.MethodName) method_3_code (11 : Nat) (Option.some Jvm.ClassFile.FieldType.boolean)]
set_option maxRecDepth 65536 in
theorem codes_eq : words1.filter isCode = codes1 := rfl
theorem w_codes : ∀ c ∈ words1.filter isCode, c.before args0 about1 = true := by
  rw [codes_eq]
  intro c hc
  simp only [codes1, List.mem_cons, List.not_mem_nil, or_false] at hc
  rcases hc with rfl | rfl | rfl
  · exact w_c0
  · exact w_c1
  · exact w_c2
set_option maxRecDepth 65536 in
theorem w_t1 : words1.all (fun c => isCode c || c.before args0 about1) = true := by decide +kernel
theorem w_tables : (allAtoms (Jvm.Cond.code x code maxLocals ret :: tables_1)).before args0 about1 = true := by
  rw [allAtoms_all]
  show words1.all (fun c => c.before args0 about1) = true
  refine all_split ?_ w_codes
  rw [w_t1]
set_option maxRecDepth 65536 in
theorem w_case : (Jvm.Cond.and given_1 narrow_1).before args0 about1 = true := by decide +kernel
theorem w_applies : (headSpec (Jvm.Cond.code x code maxLocals ret :: tables_1) room_1).applies x e0.platform about1 = true :=
  (Spec.applies_iff w_frames).mpr ⟨w_running, w_runnable, w_alone, w_named, w_hears, w_ripe, w_room, w_tables⟩
theorem atStart : AtStart classFile x code maxLocals ret World_1 tables_1 room_1 Calls_1 rest_1 Pre_1 launch0 p0 e0 about1 theMethod args0 below0 :=
  ⟨lists_1, trivial, launch0.admits_env _ _ _, launch0.least_env, fairChoices_fair.cas, fairChoices_fair.clock, w_frames, w_args, w_heap, w_applies, trivial, trivial, w_case⟩
end start1
theorem witness_1 : WitnessClaimed_1 := ⟨start1.p0, start1.e0, start1.about1, start1.theMethod, start1.args0, start1.below0, start1.atStart⟩
end Jvm.Pilot.@@N@@
