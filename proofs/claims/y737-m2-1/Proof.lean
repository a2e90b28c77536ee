import JvmDerived
import JvmDerived.Pilot.@@N@@Statement
import JvmDerived.Pilot.@@N@@Code
set_option linter.unusedVariables false
set_option linter.unusedSimpArgs false
namespace Jvm.RoadKit
open Sem ClassFile Op Lib Jvm.Stand Jvm.Free Jvm.LawKit
section New
variable {p : Program} {l : Launch} {e : Env} {R : Room} {s : State} {m : MethodId} {args : Array Value} {below : List Frame} {meth : Method} {c : Code} {T : State} {locs : List Loc} {cells slots : Nat}
theorem retI (X : Stand p l e R s m args below meth c T locs cells slots) (hx : p.tables.exec = Jvm.exec) {pc : Nat} {Ls : Array Slot} {z : Int32} {rest : List Value} (hret : meth.sig.returnType = some .int) (hd : decode c.code pc = .ok (.ireturn, 1)) {fs : List Frame}
    (hl : ∀ (f : JFrame) (acts : List Action), f.method = m → f.locked = none → f.entered = [] → (doReturn e (T.setTop f) acts (some (.int z))).1 = T.setFrames fs) : Steps p.tables e below (T.setTop (mkF m pc Ls (.int z :: rest))) (T.setFrames fs) := by
  have hm' : T.vm.method? m = some meth := X.method'
  have hn : narrow .int (.int z) = .int z := rfl
  show Steps p.tables e below (T.setTop { method := m, pc := pc, locals := Ls, stack := _ :: rest, locked := none }) _
  jvm_step X.here [X.here.top, hx, hd, hm', hret, hn]
  first | (intro acts; rw [hl _ acts rfl rfl rfl]) | rw [hl _ _ rfl rfl rfl]
  exact Steps.refl _
theorem retJ (X : Stand p l e R s m args below meth c T locs cells slots) (hx : p.tables.exec = Jvm.exec) {pc : Nat} {Ls : Array Slot} {z : Int64} {rest : List Value} (hret : meth.sig.returnType = some .long) (hd : decode c.code pc = .ok (.lreturn, 1)) {fs : List Frame}
    (hl : ∀ (f : JFrame) (acts : List Action), f.method = m → f.locked = none → f.entered = [] → (doReturn e (T.setTop f) acts (some (.long z))).1 = T.setFrames fs) : Steps p.tables e below (T.setTop (mkF m pc Ls (.long z :: rest))) (T.setFrames fs) := by
  have hm' : T.vm.method? m = some meth := X.method'
  have hn : narrow .long (.long z) = .long z := rfl
  show Steps p.tables e below (T.setTop { method := m, pc := pc, locals := Ls, stack := _ :: rest, locked := none }) _
  jvm_step X.here [X.here.top, hx, hd, hm', hret, hn]
  first | (intro acts; rw [hl _ acts rfl rfl rfl]) | rw [hl _ _ rfl rfl rfl]
  exact Steps.refl _
theorem retD (X : Stand p l e R s m args below meth c T locs cells slots) (hx : p.tables.exec = Jvm.exec) {pc : Nat} {Ls : Array Slot} {z : UInt64} {rest : List Value} (hret : meth.sig.returnType = some .double) (hd : decode c.code pc = .ok (.dreturn, 1)) {fs : List Frame}
    (hl : ∀ (f : JFrame) (acts : List Action), f.method = m → f.locked = none → f.entered = [] → (doReturn e (T.setTop f) acts (some (.double z))).1 = T.setFrames fs) : Steps p.tables e below (T.setTop (mkF m pc Ls (.double z :: rest))) (T.setFrames fs) := by
  have hm' : T.vm.method? m = some meth := X.method'
  have hn : narrow .double (.double z) = .double z := rfl
  show Steps p.tables e below (T.setTop { method := m, pc := pc, locals := Ls, stack := _ :: rest, locked := none }) _
  jvm_step X.here [X.here.top, hx, hd, hm', hret, hn]
  first | (intro acts; rw [hl _ acts rfl rfl rfl]) | rw [hl _ _ rfl rfl rfl]
  exact Steps.refl _
end New
end Jvm.RoadKit
@@BLOCK:NumsL.lean.txt@@
namespace Jvm.Pilot.@@N@@
open Jvm Jvm.ClassFile Sem Op Lib Jvm.Free Jvm.Stand Jvm.LawKit Jvm.RoadKit Bundle Jvm.Pilot.@@N@@.Jvm.D
theorem own_lt4 {j : Int32} (h : ¬ j < (0 : Int32) ∧ j < (4 : Int32)) : j.toNatClampNeg < 4 := by
  have := nat_of h.1
  have e0 : (0 : Int32).toInt = 0 := by decide
  have e4 : (4 : Int32).toInt = 4 := by decide
  rw [Int32.lt_iff_toInt_lt, Int32.lt_iff_toInt_lt, e0, e4] at h
  omega
theorem own_cl_inj {j k : Int32} (h : ¬ j < (0 : Int32)) (g : ¬ k < (0 : Int32)) (e : j.toNatClampNeg = k.toNatClampNeg) : j = k := by
  rw [← (back32 h).1, ← (back32 g).1, e]
theorem own_getset {vs : List Value} {j kk x y : Int32} {d : Value} (hl : vs.length = 4) (hj : ¬ j < (0 : Int32) ∧ j < (4 : Int32)) (hk : ¬ kk < (0 : Int32) ∧ kk < (4 : Int32)) (e : vs.getD kk.toNatClampNeg d = .int x) : (List.set vs j.toNatClampNeg (.int y)).getD kk.toNatClampNeg d = .int (if j = kk then y else x) := by
  have h1 := own_lt4 hj
  have h2 := own_lt4 hk
  by_cases q : j = kk
  · subst q
    rw [if_pos rfl, List.getD_eq_getElem?_getD, List.getElem?_set_self (by omega)]; rfl
  · rw [if_neg q, List.getD_eq_getElem?_getD, List.getElem?_set_ne (fun r => q (own_cl_inj hj.1 hk.1 r)), ← List.getD_eq_getElem?_getD, e]
theorem own_bnd (x : Int32) : ¬ (x &&& (3 : Int32)) < (0 : Int32) ∧ (x &&& (3 : Int32)) < (4 : Int32) := by
  have m := Jvm.Kit.i32_mask x 3 (k := 2) (by decide) (by decide)
  have e0 : (0 : Int32).toInt = 0 := by decide
  have e4 : (4 : Int32).toInt = 4 := by decide
  rw [Int32.lt_iff_toInt_lt, Int32.lt_iff_toInt_lt, m, e0, e4]; omega
theorem own_five (x : Int32) : (x &&& (7 : Int32)) % (5 : Int32) = (0 : Int32) ∨ (x &&& (7 : Int32)) % (5 : Int32) = (1 : Int32) ∨ (x &&& (7 : Int32)) % (5 : Int32) = (2 : Int32) ∨ (x &&& (7 : Int32)) % (5 : Int32) = (3 : Int32) ∨ (x &&& (7 : Int32)) % (5 : Int32) = (4 : Int32) := by
  have m := Jvm.Kit.i32_mask x 7 (k := 3) (by decide) (by decide)
  have q0 : 0 ≤ (x &&& (7 : Int32)).toInt := by rw [m]; omega
  have r := Jvm.Kit.i32_rem_nonneg (y := (5 : Int32)) q0
  have e : (5 : Int32).toInt = 5 := by decide
  rw [e] at r
  have e0 : (0 : Int32).toInt = 0 := by decide
  have e1 : (1 : Int32).toInt = 1 := by decide
  have e2 : (2 : Int32).toInt = 2 := by decide
  have e3 : (3 : Int32).toInt = 3 := by decide
  have e4 : (4 : Int32).toInt = 4 := by decide
  generalize (x &&& (7 : Int32)) % (5 : Int32) = z at r
  have b : z.toInt = 0 ∨ z.toInt = 1 ∨ z.toInt = 2 ∨ z.toInt = 3 ∨ z.toInt = 4 := by rw [r]; omega
  simp only [← Int32.toInt_inj, e0, e1, e2, e3, e4]
  exact b
theorem own_exa1 (k o i0 : Int32) (h : (if i0 = k then (1 : Int32) else (0 : Int32)) = (0 : Int32)) : o = (if i0 = k then (-1 : Int32) else o) := by
  revert h; by_cases h0 : i0 = k <;> simp [h0]
theorem own_exb1 (k o i0 : Int32) (h : ¬ (if i0 = k then (1 : Int32) else (0 : Int32)) = (0 : Int32)) : (-1 : Int32) = (if i0 = k then (-1 : Int32) else o) := by
  revert h; by_cases h0 : i0 = k <;> simp [h0]
theorem own_re1 (k o i0 : Int32) : (if i0 = k then (-1 : Int32) else o) = (if i0 = k then (-1 : Int32) else o) := by
  by_cases h0 : i0 = k <;> simp [h0]
theorem own_exa2 (k o i0 i1 : Int32) (h : (if i0 = k then (1 : Int32) else (if i1 = k then (1 : Int32) else (0 : Int32))) = (0 : Int32)) : o = (if i0 = k then (-1 : Int32) else (if i1 = k then (-1 : Int32) else o)) := by
  revert h; by_cases h0 : i0 = k <;> by_cases h1 : i1 = k <;> simp [h0, h1]
theorem own_exb2 (k o i0 i1 : Int32) (h : ¬ (if i0 = k then (1 : Int32) else (if i1 = k then (1 : Int32) else (0 : Int32))) = (0 : Int32)) : (-1 : Int32) = (if i0 = k then (-1 : Int32) else (if i1 = k then (-1 : Int32) else o)) := by
  revert h; by_cases h0 : i0 = k <;> by_cases h1 : i1 = k <;> simp [h0, h1]
theorem own_re2 (k o i0 i1 : Int32) : (if i1 = k then (-1 : Int32) else (if i0 = k then (-1 : Int32) else o)) = (if i0 = k then (-1 : Int32) else (if i1 = k then (-1 : Int32) else o)) := by
  by_cases h0 : i0 = k <;> by_cases h1 : i1 = k <;> simp [h0, h1]
theorem own_exa3 (k o i0 i1 i2 : Int32) (h : (if i0 = k then (1 : Int32) else (if i1 = k then (1 : Int32) else (if i2 = k then (1 : Int32) else (0 : Int32)))) = (0 : Int32)) : o = (if i0 = k then (-1 : Int32) else (if i1 = k then (-1 : Int32) else (if i2 = k then (-1 : Int32) else o))) := by
  revert h; by_cases h0 : i0 = k <;> by_cases h1 : i1 = k <;> by_cases h2 : i2 = k <;> simp [h0, h1, h2]
theorem own_exb3 (k o i0 i1 i2 : Int32) (h : ¬ (if i0 = k then (1 : Int32) else (if i1 = k then (1 : Int32) else (if i2 = k then (1 : Int32) else (0 : Int32)))) = (0 : Int32)) : (-1 : Int32) = (if i0 = k then (-1 : Int32) else (if i1 = k then (-1 : Int32) else (if i2 = k then (-1 : Int32) else o))) := by
  revert h; by_cases h0 : i0 = k <;> by_cases h1 : i1 = k <;> by_cases h2 : i2 = k <;> simp [h0, h1, h2]
theorem own_re3 (k o i0 i1 i2 : Int32) : (if i2 = k then (-1 : Int32) else (if i1 = k then (-1 : Int32) else (if i0 = k then (-1 : Int32) else o))) = (if i0 = k then (-1 : Int32) else (if i1 = k then (-1 : Int32) else (if i2 = k then (-1 : Int32) else o))) := by
  by_cases h0 : i0 = k <;> by_cases h1 : i1 = k <;> by_cases h2 : i2 = k <;> simp [h0, h1, h2]
theorem own_exa4 (k o i0 i1 i2 i3 : Int32) (h : (if i0 = k then (1 : Int32) else (if i1 = k then (1 : Int32) else (if i2 = k then (1 : Int32) else (if i3 = k then (1 : Int32) else (0 : Int32))))) = (0 : Int32)) : o = (if i0 = k then (-1 : Int32) else (if i1 = k then (-1 : Int32) else (if i2 = k then (-1 : Int32) else (if i3 = k then (-1 : Int32) else o)))) := by
  revert h; by_cases h0 : i0 = k <;> by_cases h1 : i1 = k <;> by_cases h2 : i2 = k <;> by_cases h3 : i3 = k <;> simp [h0, h1, h2, h3]
theorem own_exb4 (k o i0 i1 i2 i3 : Int32) (h : ¬ (if i0 = k then (1 : Int32) else (if i1 = k then (1 : Int32) else (if i2 = k then (1 : Int32) else (if i3 = k then (1 : Int32) else (0 : Int32))))) = (0 : Int32)) : (-1 : Int32) = (if i0 = k then (-1 : Int32) else (if i1 = k then (-1 : Int32) else (if i2 = k then (-1 : Int32) else (if i3 = k then (-1 : Int32) else o)))) := by
  revert h; by_cases h0 : i0 = k <;> by_cases h1 : i1 = k <;> by_cases h2 : i2 = k <;> by_cases h3 : i3 = k <;> simp [h0, h1, h2, h3]
theorem own_re4 (k o i0 i1 i2 i3 : Int32) : (if i3 = k then (-1 : Int32) else (if i2 = k then (-1 : Int32) else (if i1 = k then (-1 : Int32) else (if i0 = k then (-1 : Int32) else o)))) = (if i0 = k then (-1 : Int32) else (if i1 = k then (-1 : Int32) else (if i2 = k then (-1 : Int32) else (if i3 = k then (-1 : Int32) else o)))) := by
  by_cases h0 : i0 = k <;> by_cases h1 : i1 = k <;> by_cases h2 : i2 = k <;> by_cases h3 : i3 = k <;> simp [h0, h1, h2, h3]
theorem pn_com_example_splitgrain_splitgrain_parse_ChartItemsClearPlacesPinLaw : plainName "com/example/splitgrain/splitgrain/parse/ChartItemsClearPlacesPinLaw" = true := by first | (simp [plainName, overriddenIn]; done) | decide +kernel
theorem d3_0 : decode method_3_code 0 = .ok (.iload_n 1, 1) := by decide +kernel
theorem d3_1 : decode method_3_code 1 = .ok (.ifCond .le 8, 3) := by decide +kernel
theorem d3_9 : decode method_3_code 9 = .ok (.iload_n 1, 1) := by decide +kernel
theorem d3_10 : decode method_3_code 10 = .ok (.iconst 1, 1) := by decide +kernel
theorem d3_11 : decode method_3_code 11 = .ok (.if_icmp .le 8, 3) := by decide +kernel
theorem d3_19 : decode method_3_code 19 = .ok (.iload_n 1, 1) := by decide +kernel
theorem d3_20 : decode method_3_code 20 = .ok (.iconst 2, 1) := by decide +kernel
theorem d3_21 : decode method_3_code 21 = .ok (.if_icmp .le 9, 3) := by decide +kernel
theorem d3_30 : decode method_3_code 30 = .ok (.iload_n 1, 1) := by decide +kernel
theorem d3_31 : decode method_3_code 31 = .ok (.iconst 3, 1) := by decide +kernel
theorem d3_32 : decode method_3_code 32 = .ok (.if_icmp .le 13, 3) := by decide +kernel
theorem d3_45 : decode method_3_code 45 = .ok (.iconst 0, 1) := by decide +kernel
theorem d3_46 : decode method_3_code 46 = .ok (.ireturn, 1) := by decide +kernel
theorem ef_3_0 (m : MethodId) (x0 : Int32) (x2 : Int32) (x3 : Int32) (x4 : Int32) (x5 : Int32) : entryFrame m #[(.int x0), (.int (0 : Int32)), (.int x2), (.int x3), (.int x4), (.int x5)] 6 = mkF m 0 #[.val (.int x0), .val (.int (0 : Int32)), .val (.int x2), .val (.int x3), .val (.int x4), .val (.int x5)] [] := by first | (simp [entryFrame, mkF, argsToLocals, Value.category]; done) | rfl
def Q3_0 (Z : State) (pp1 : Int32) (pp3 : Int32) (pp4 : Int32) (pp5 : Int32) (pp6 : Int32) (h0 : Heap) (n0 : Nat) (v : Option Value) (h : Heap) (L : List Loc) : Prop := v = some (.int (0 : Int32)) ∧ Fr n0 L ∧ h = h0
set_option maxRecDepth 65536 in
set_option maxHeartbeats 40000000 in
theorem rm3_0 (l : Launch) (Z : State) (a0 : Array Value) (hw : ∀ d ∈ tables_1, d.before a0 Z = true) (ws : List Jvm.Cond) (pp1 : Int32) (pp3 : Int32) (pp4 : Int32) (pp5 : Int32) (pp6 : Int32) (h0 : Heap) (n0 : Nat) (Z0 : n0 ≤ h0.size) :
    MetFree l (⟨"com/example/splitgrain/splitgrain/parse/ChartItemsClearPlacesPinLaw", "cleared", "(IIIIII)Z"⟩ : MethodName) (head1 (Jvm.Cond.code (⟨"com/example/splitgrain/splitgrain/parse/ChartItemsClearPlacesPinLaw", "cleared", "(IIIIII)Z"⟩ : MethodName) method_3_code 6 (some .boolean) :: ws) ({ frames := 0, cells := 0, slots := 0, locals := 0 } : Room)) (fun a U => a = #[(.int pp1), (.int (0 : Int32)), (.int pp3), (.int pp4), (.int pp5), (.int pp6)] ∧ Z.Warmed39 U.vm ∧ U.heap = h0) (fun _ _ _ _ _ => True) (fun _ U o U' => ∃ v L, o = .returned v ∧ Q3_0 Z pp1 pp3 pp4 pp5 pp6 h0 n0 v U'.heap L ∧ FrameEnd U o U' L ({ frames := 0, cells := 0, slots := 0, locals := 0 } : Room).cells ({ frames := 0, cells := 0, slots := 0, locals := 0 } : Room).slots) := by
  refine MetFree.of_bodySF (plainFor_of_name pn_com_example_splitgrain_splitgrain_parse_ChartItemsClearPlacesPinLaw) hisR ?_
  intro p e s m args below meth c s₁ Bd hml0 hP hK
  obtain ⟨rfl, hZ, hh⟩ := hP
  have hx := Bd.exec
  have hby := Bd.bytes
  have hml : c.maxLocals = 6 := hml0
  have hown : s.vm.findClass "com/example/splitgrain/splitgrain/parse/ChartItemsClearPlacesPinLaw" = some m.cls := findClass_of_methodNamed Bd.named
  have hnm := (name_of_methodNamed Bd.named Bd.method).1
  have X0 : Stand p l e ({ frames := 0, cells := 0, slots := 0, locals := 0 } : Room) s m #[(.int pp1), (.int (0 : Int32)), (.int pp3), (.int pp4), (.int pp5), (.int pp6)] below meth c s₁ [] 0 0 := Stand.of_body Bd
  have e0 : s₁.heap = h0 := by rw [← hh, Bd.state]; rfl
  have N0 := Fr.nil n0
  have pre0 : ∀ t, Steps p.tables e below (s₁.setTop (mkF m 0 #[.val (.int pp1), .val (.int (0 : Int32)), .val (.int pp3), .val (.int pp4), .val (.int pp5), .val (.int pp6)] [])) t → Steps p.tables e below (s₁.setTop (entryFrame m #[(.int pp1), (.int (0 : Int32)), (.int pp3), (.int pp4), (.int pp5), (.int pp6)] 6)) t := fun t k => castTop (ef_3_0 m pp1 pp3 pp4 pp5 pp6) k
  have hc1 : ¬ ((0 : Int32) < (0 : Int32)) := by decide
  have hc11 : ¬ ((1 : Int32) < (0 : Int32)) := by decide
  have hc21 : ¬ ((2 : Int32) < (0 : Int32)) := by decide
  have hc32 : ¬ ((3 : Int32) < (0 : Int32)) := by decide
  obtain ⟨fs, hr, hrun, hended, hW, hsame⟩ := X0.leave (v := some (.int (0 : Int32))) (fun h => by rw [Bd.returns] at h; cases h)
  refine ⟨_, _, pre0 _ ?_, hrun, hended, _, _, rfl, ?_, ⟨_, rfl⟩, hW, hsame.mono (by decide) (by decide)⟩
  · show Steps p.tables e below (s₁.setTop (mkF m 0 #[.val (.int pp1), .val (.int (0 : Int32)), .val (.int pp3), .val (.int pp4), .val (.int pp5), .val (.int pp6)] [])) _
    refine XS.iloadN X0.here hx rfl (hb hby d3_0) rfl ?_
    show Steps p.tables e below (s₁.setTop (mkF m 1 #[.val (.int pp1), .val (.int (0 : Int32)), .val (.int pp3), .val (.int pp4), .val (.int pp5), .val (.int pp6)] [(.int (0 : Int32))])) _
    refine XS.ifYes X0.here hx rfl (pc0 := 1) (pc' := 9) rfl (hb hby d3_1) rfl ((if0 _ _).trans (flt hc1).2.2.2) (by decide) (by decide) ?_
    show Steps p.tables e below (s₁.setTop (mkF m 9 #[.val (.int pp1), .val (.int (0 : Int32)), .val (.int pp3), .val (.int pp4), .val (.int pp5), .val (.int pp6)] [])) _
    refine XS.iloadN X0.here hx rfl (hb hby d3_9) rfl ?_
    show Steps p.tables e below (s₁.setTop (mkF m 10 #[.val (.int pp1), .val (.int (0 : Int32)), .val (.int pp3), .val (.int pp4), .val (.int pp5), .val (.int pp6)] [(.int (0 : Int32))])) _
    refine XS.iconst X0.here hx rfl (hb hby d3_10) ?_
    show Steps p.tables e below (s₁.setTop (mkF m 11 #[.val (.int pp1), .val (.int (0 : Int32)), .val (.int pp3), .val (.int pp4), .val (.int pp5), .val (.int pp6)] [(.int (1 : Int32)), (.int (0 : Int32))])) _
    refine XS.icmpYes X0.here hx rfl (pc0 := 11) (pc' := 19) rfl (hb hby d3_11) rfl (flt hc11).2.2.2 (by decide) (by decide) ?_
    show Steps p.tables e below (s₁.setTop (mkF m 19 #[.val (.int pp1), .val (.int (0 : Int32)), .val (.int pp3), .val (.int pp4), .val (.int pp5), .val (.int pp6)] [])) _
    refine XS.iloadN X0.here hx rfl (hb hby d3_19) rfl ?_
    show Steps p.tables e below (s₁.setTop (mkF m 20 #[.val (.int pp1), .val (.int (0 : Int32)), .val (.int pp3), .val (.int pp4), .val (.int pp5), .val (.int pp6)] [(.int (0 : Int32))])) _
    refine XS.iconst X0.here hx rfl (hb hby d3_20) ?_
    show Steps p.tables e below (s₁.setTop (mkF m 21 #[.val (.int pp1), .val (.int (0 : Int32)), .val (.int pp3), .val (.int pp4), .val (.int pp5), .val (.int pp6)] [(.int (2 : Int32)), (.int (0 : Int32))])) _
    refine XS.icmpYes X0.here hx rfl (pc0 := 21) (pc' := 30) rfl (hb hby d3_21) rfl (flt hc21).2.2.2 (by decide) (by decide) ?_
    show Steps p.tables e below (s₁.setTop (mkF m 30 #[.val (.int pp1), .val (.int (0 : Int32)), .val (.int pp3), .val (.int pp4), .val (.int pp5), .val (.int pp6)] [])) _
    refine XS.iloadN X0.here hx rfl (hb hby d3_30) rfl ?_
    show Steps p.tables e below (s₁.setTop (mkF m 31 #[.val (.int pp1), .val (.int (0 : Int32)), .val (.int pp3), .val (.int pp4), .val (.int pp5), .val (.int pp6)] [(.int (0 : Int32))])) _
    refine XS.iconst X0.here hx rfl (hb hby d3_31) ?_
    show Steps p.tables e below (s₁.setTop (mkF m 32 #[.val (.int pp1), .val (.int (0 : Int32)), .val (.int pp3), .val (.int pp4), .val (.int pp5), .val (.int pp6)] [(.int (3 : Int32)), (.int (0 : Int32))])) _
    refine XS.icmpYes X0.here hx rfl (pc0 := 32) (pc' := 45) rfl (hb hby d3_32) rfl (flt hc32).2.2.2 (by decide) (by decide) ?_
    show Steps p.tables e below (s₁.setTop (mkF m 45 #[.val (.int pp1), .val (.int (0 : Int32)), .val (.int pp3), .val (.int pp4), .val (.int pp5), .val (.int pp6)] [])) _
    refine XS.iconst X0.here hx rfl (hb hby d3_45) ?_
    show Steps p.tables e below (s₁.setTop (mkF m 46 #[.val (.int pp1), .val (.int (0 : Int32)), .val (.int pp3), .val (.int pp4), .val (.int pp5), .val (.int pp6)] [(.int (0 : Int32))])) _
    exact retN X0 hx (t := .boolean) Bd.returns (by simp) (hb hby d3_46) hr
  · show Q3_0 Z pp1 pp3 pp4 pp5 pp6 h0 n0 _ s₁.heap _
    rw [e0]
    exact ⟨rfl, N0, rfl⟩
theorem d3_4 : decode method_3_code 4 = .ok (.iload_n 2, 1) := by decide +kernel
theorem d3_5 : decode method_3_code 5 = .ok (.iload_n 0, 1) := by decide +kernel
theorem d3_6 : decode method_3_code 6 = .ok (.if_icmp .eq 35, 3) := by decide +kernel
theorem d3_41 : decode method_3_code 41 = .ok (.iconst 1, 1) := by decide +kernel
theorem d3_42 : decode method_3_code 42 = .ok (.goto 4, 3) := by decide +kernel
theorem ef_3_1 (m : MethodId) (x0 : Int32) (x2 : Int32) (x3 : Int32) (x4 : Int32) (x5 : Int32) : entryFrame m #[(.int x0), (.int (1 : Int32)), (.int x2), (.int x3), (.int x4), (.int x5)] 6 = mkF m 0 #[.val (.int x0), .val (.int (1 : Int32)), .val (.int x2), .val (.int x3), .val (.int x4), .val (.int x5)] [] := by first | (simp [entryFrame, mkF, argsToLocals, Value.category]; done) | rfl
def Q3_1 (Z : State) (pp1 : Int32) (pp3 : Int32) (pp4 : Int32) (pp5 : Int32) (pp6 : Int32) (h0 : Heap) (n0 : Nat) (v : Option Value) (h : Heap) (L : List Loc) : Prop := v = some (.int (if pp3 = pp1 then (1 : Int32) else (0 : Int32))) ∧ Fr n0 L ∧ h = h0
set_option maxRecDepth 65536 in
set_option maxHeartbeats 40000000 in
theorem rm3_1 (l : Launch) (Z : State) (a0 : Array Value) (hw : ∀ d ∈ tables_1, d.before a0 Z = true) (ws : List Jvm.Cond) (pp1 : Int32) (pp3 : Int32) (pp4 : Int32) (pp5 : Int32) (pp6 : Int32) (h0 : Heap) (n0 : Nat) (Z0 : n0 ≤ h0.size) :
    MetFree l (⟨"com/example/splitgrain/splitgrain/parse/ChartItemsClearPlacesPinLaw", "cleared", "(IIIIII)Z"⟩ : MethodName) (head1 (Jvm.Cond.code (⟨"com/example/splitgrain/splitgrain/parse/ChartItemsClearPlacesPinLaw", "cleared", "(IIIIII)Z"⟩ : MethodName) method_3_code 6 (some .boolean) :: ws) ({ frames := 0, cells := 0, slots := 0, locals := 0 } : Room)) (fun a U => a = #[(.int pp1), (.int (1 : Int32)), (.int pp3), (.int pp4), (.int pp5), (.int pp6)] ∧ Z.Warmed39 U.vm ∧ U.heap = h0) (fun _ _ _ _ _ => True) (fun _ U o U' => ∃ v L, o = .returned v ∧ Q3_1 Z pp1 pp3 pp4 pp5 pp6 h0 n0 v U'.heap L ∧ FrameEnd U o U' L ({ frames := 0, cells := 0, slots := 0, locals := 0 } : Room).cells ({ frames := 0, cells := 0, slots := 0, locals := 0 } : Room).slots) := by
  refine MetFree.of_bodySF (plainFor_of_name pn_com_example_splitgrain_splitgrain_parse_ChartItemsClearPlacesPinLaw) hisR ?_
  intro p e s m args below meth c s₁ Bd hml0 hP hK
  obtain ⟨rfl, hZ, hh⟩ := hP
  have hx := Bd.exec
  have hby := Bd.bytes
  have hml : c.maxLocals = 6 := hml0
  have hown : s.vm.findClass "com/example/splitgrain/splitgrain/parse/ChartItemsClearPlacesPinLaw" = some m.cls := findClass_of_methodNamed Bd.named
  have hnm := (name_of_methodNamed Bd.named Bd.method).1
  have X0 : Stand p l e ({ frames := 0, cells := 0, slots := 0, locals := 0 } : Room) s m #[(.int pp1), (.int (1 : Int32)), (.int pp3), (.int pp4), (.int pp5), (.int pp6)] below meth c s₁ [] 0 0 := Stand.of_body Bd
  have e0 : s₁.heap = h0 := by rw [← hh, Bd.state]; rfl
  have N0 := Fr.nil n0
  have pre0 : ∀ t, Steps p.tables e below (s₁.setTop (mkF m 0 #[.val (.int pp1), .val (.int (1 : Int32)), .val (.int pp3), .val (.int pp4), .val (.int pp5), .val (.int pp6)] [])) t → Steps p.tables e below (s₁.setTop (entryFrame m #[(.int pp1), (.int (1 : Int32)), (.int pp3), (.int pp4), (.int pp5), (.int pp6)] 6)) t := fun t k => castTop (ef_3_1 m pp1 pp3 pp4 pp5 pp6) k
  have hc1 : (0 : Int32) < (1 : Int32) := by decide
  have pre1 : ∀ t, Steps p.tables e below (s₁.setTop (mkF m 6 #[.val (.int pp1), .val (.int (1 : Int32)), .val (.int pp3), .val (.int pp4), .val (.int pp5), .val (.int pp6)] [(.int pp1), (.int pp3)])) t → Steps p.tables e below (s₁.setTop (entryFrame m #[(.int pp1), (.int (1 : Int32)), (.int pp3), (.int pp4), (.int pp5), (.int pp6)] 6)) t := fun t kt => pre0 t (by
    show Steps p.tables e below (s₁.setTop (mkF m 0 #[.val (.int pp1), .val (.int (1 : Int32)), .val (.int pp3), .val (.int pp4), .val (.int pp5), .val (.int pp6)] [])) _
    refine XS.iloadN X0.here hx rfl (hb hby d3_0) rfl ?_
    show Steps p.tables e below (s₁.setTop (mkF m 1 #[.val (.int pp1), .val (.int (1 : Int32)), .val (.int pp3), .val (.int pp4), .val (.int pp5), .val (.int pp6)] [(.int (1 : Int32))])) _
    refine XS.ifNo X0.here hx rfl (hb hby d3_1) rfl ((if0 _ _).trans (tlt hc1).2.2.2) ?_
    show Steps p.tables e below (s₁.setTop (mkF m 4 #[.val (.int pp1), .val (.int (1 : Int32)), .val (.int pp3), .val (.int pp4), .val (.int pp5), .val (.int pp6)] [])) _
    refine XS.iloadN X0.here hx rfl (hb hby d3_4) rfl ?_
    show Steps p.tables e below (s₁.setTop (mkF m 5 #[.val (.int pp1), .val (.int (1 : Int32)), .val (.int pp3), .val (.int pp4), .val (.int pp5), .val (.int pp6)] [(.int pp3)])) _
    refine XS.iloadN X0.here hx rfl (hb hby d3_5) rfl ?_
    exact kt)
  by_cases hc6 : pp3 = pp1
  · skip
    obtain ⟨fs, hr, hrun, hended, hW, hsame⟩ := X0.leave (v := some (.int (1 : Int32))) (fun h => by rw [Bd.returns] at h; cases h)
    refine ⟨_, _, pre1 _ ?_, hrun, hended, _, _, rfl, ?_, ⟨_, rfl⟩, hW, hsame.mono (by decide) (by decide)⟩
    · show Steps p.tables e below (s₁.setTop (mkF m 6 #[.val (.int pp1), .val (.int (1 : Int32)), .val (.int pp3), .val (.int pp4), .val (.int pp5), .val (.int pp6)] [(.int pp1), (.int pp3)])) _
      refine XS.icmpYes X0.here hx rfl (pc0 := 6) (pc' := 41) rfl (hb hby d3_6) rfl (teq hc6).1 (by decide) (by decide) ?_
      show Steps p.tables e below (s₁.setTop (mkF m 41 #[.val (.int pp1), .val (.int (1 : Int32)), .val (.int pp3), .val (.int pp4), .val (.int pp5), .val (.int pp6)] [])) _
      refine XS.iconst X0.here hx rfl (hb hby d3_41) ?_
      show Steps p.tables e below (s₁.setTop (mkF m 42 #[.val (.int pp1), .val (.int (1 : Int32)), .val (.int pp3), .val (.int pp4), .val (.int pp5), .val (.int pp6)] [(.int (1 : Int32))])) _
      refine XS.goto X0.here hx rfl (pc0 := 42) (pc' := 46) rfl (hb hby d3_42) (by decide) (by decide) ?_
      show Steps p.tables e below (s₁.setTop (mkF m 46 #[.val (.int pp1), .val (.int (1 : Int32)), .val (.int pp3), .val (.int pp4), .val (.int pp5), .val (.int pp6)] [(.int (1 : Int32))])) _
      exact retN X0 hx (t := .boolean) Bd.returns (by simp) (hb hby d3_46) hr
    · show Q3_1 Z pp1 pp3 pp4 pp5 pp6 h0 n0 _ s₁.heap _
      rw [e0]
      exact ⟨(by rw [if_pos hc6]), N0, rfl⟩
  · skip
    have hc11 : ¬ ((1 : Int32) < (1 : Int32)) := by decide
    have hc21 : ¬ ((2 : Int32) < (1 : Int32)) := by decide
    have hc32 : ¬ ((3 : Int32) < (1 : Int32)) := by decide
    obtain ⟨fs, hr, hrun, hended, hW, hsame⟩ := X0.leave (v := some (.int (0 : Int32))) (fun h => by rw [Bd.returns] at h; cases h)
    refine ⟨_, _, pre1 _ ?_, hrun, hended, _, _, rfl, ?_, ⟨_, rfl⟩, hW, hsame.mono (by decide) (by decide)⟩
    · show Steps p.tables e below (s₁.setTop (mkF m 6 #[.val (.int pp1), .val (.int (1 : Int32)), .val (.int pp3), .val (.int pp4), .val (.int pp5), .val (.int pp6)] [(.int pp1), (.int pp3)])) _
      refine XS.icmpNo X0.here hx rfl (hb hby d3_6) rfl (feq hc6).1 ?_
      show Steps p.tables e below (s₁.setTop (mkF m 9 #[.val (.int pp1), .val (.int (1 : Int32)), .val (.int pp3), .val (.int pp4), .val (.int pp5), .val (.int pp6)] [])) _
      refine XS.iloadN X0.here hx rfl (hb hby d3_9) rfl ?_
      show Steps p.tables e below (s₁.setTop (mkF m 10 #[.val (.int pp1), .val (.int (1 : Int32)), .val (.int pp3), .val (.int pp4), .val (.int pp5), .val (.int pp6)] [(.int (1 : Int32))])) _
      refine XS.iconst X0.here hx rfl (hb hby d3_10) ?_
      show Steps p.tables e below (s₁.setTop (mkF m 11 #[.val (.int pp1), .val (.int (1 : Int32)), .val (.int pp3), .val (.int pp4), .val (.int pp5), .val (.int pp6)] [(.int (1 : Int32)), (.int (1 : Int32))])) _
      refine XS.icmpYes X0.here hx rfl (pc0 := 11) (pc' := 19) rfl (hb hby d3_11) rfl (flt hc11).2.2.2 (by decide) (by decide) ?_
      show Steps p.tables e below (s₁.setTop (mkF m 19 #[.val (.int pp1), .val (.int (1 : Int32)), .val (.int pp3), .val (.int pp4), .val (.int pp5), .val (.int pp6)] [])) _
      refine XS.iloadN X0.here hx rfl (hb hby d3_19) rfl ?_
      show Steps p.tables e below (s₁.setTop (mkF m 20 #[.val (.int pp1), .val (.int (1 : Int32)), .val (.int pp3), .val (.int pp4), .val (.int pp5), .val (.int pp6)] [(.int (1 : Int32))])) _
      refine XS.iconst X0.here hx rfl (hb hby d3_20) ?_
      show Steps p.tables e below (s₁.setTop (mkF m 21 #[.val (.int pp1), .val (.int (1 : Int32)), .val (.int pp3), .val (.int pp4), .val (.int pp5), .val (.int pp6)] [(.int (2 : Int32)), (.int (1 : Int32))])) _
      refine XS.icmpYes X0.here hx rfl (pc0 := 21) (pc' := 30) rfl (hb hby d3_21) rfl (flt hc21).2.2.2 (by decide) (by decide) ?_
      show Steps p.tables e below (s₁.setTop (mkF m 30 #[.val (.int pp1), .val (.int (1 : Int32)), .val (.int pp3), .val (.int pp4), .val (.int pp5), .val (.int pp6)] [])) _
      refine XS.iloadN X0.here hx rfl (hb hby d3_30) rfl ?_
      show Steps p.tables e below (s₁.setTop (mkF m 31 #[.val (.int pp1), .val (.int (1 : Int32)), .val (.int pp3), .val (.int pp4), .val (.int pp5), .val (.int pp6)] [(.int (1 : Int32))])) _
      refine XS.iconst X0.here hx rfl (hb hby d3_31) ?_
      show Steps p.tables e below (s₁.setTop (mkF m 32 #[.val (.int pp1), .val (.int (1 : Int32)), .val (.int pp3), .val (.int pp4), .val (.int pp5), .val (.int pp6)] [(.int (3 : Int32)), (.int (1 : Int32))])) _
      refine XS.icmpYes X0.here hx rfl (pc0 := 32) (pc' := 45) rfl (hb hby d3_32) rfl (flt hc32).2.2.2 (by decide) (by decide) ?_
      show Steps p.tables e below (s₁.setTop (mkF m 45 #[.val (.int pp1), .val (.int (1 : Int32)), .val (.int pp3), .val (.int pp4), .val (.int pp5), .val (.int pp6)] [])) _
      refine XS.iconst X0.here hx rfl (hb hby d3_45) ?_
      show Steps p.tables e below (s₁.setTop (mkF m 46 #[.val (.int pp1), .val (.int (1 : Int32)), .val (.int pp3), .val (.int pp4), .val (.int pp5), .val (.int pp6)] [(.int (0 : Int32))])) _
      exact retN X0 hx (t := .boolean) Bd.returns (by simp) (hb hby d3_46) hr
    · show Q3_1 Z pp1 pp3 pp4 pp5 pp6 h0 n0 _ s₁.heap _
      rw [e0]
      exact ⟨(by rw [if_neg hc6]), N0, rfl⟩
theorem d3_14 : decode method_3_code 14 = .ok (.iload_n 3, 1) := by decide +kernel
theorem d3_15 : decode method_3_code 15 = .ok (.iload_n 0, 1) := by decide +kernel
theorem d3_16 : decode method_3_code 16 = .ok (.if_icmp .eq 25, 3) := by decide +kernel
theorem ef_3_2 (m : MethodId) (x0 : Int32) (x2 : Int32) (x3 : Int32) (x4 : Int32) (x5 : Int32) : entryFrame m #[(.int x0), (.int (2 : Int32)), (.int x2), (.int x3), (.int x4), (.int x5)] 6 = mkF m 0 #[.val (.int x0), .val (.int (2 : Int32)), .val (.int x2), .val (.int x3), .val (.int x4), .val (.int x5)] [] := by first | (simp [entryFrame, mkF, argsToLocals, Value.category]; done) | rfl
def Q3_2 (Z : State) (pp1 : Int32) (pp3 : Int32) (pp4 : Int32) (pp5 : Int32) (pp6 : Int32) (h0 : Heap) (n0 : Nat) (v : Option Value) (h : Heap) (L : List Loc) : Prop := v = some (.int (if pp3 = pp1 then (1 : Int32) else (if pp4 = pp1 then (1 : Int32) else (0 : Int32)))) ∧ Fr n0 L ∧ h = h0
set_option maxRecDepth 65536 in
set_option maxHeartbeats 40000000 in
theorem rm3_2 (l : Launch) (Z : State) (a0 : Array Value) (hw : ∀ d ∈ tables_1, d.before a0 Z = true) (ws : List Jvm.Cond) (pp1 : Int32) (pp3 : Int32) (pp4 : Int32) (pp5 : Int32) (pp6 : Int32) (h0 : Heap) (n0 : Nat) (Z0 : n0 ≤ h0.size) :
    MetFree l (⟨"com/example/splitgrain/splitgrain/parse/ChartItemsClearPlacesPinLaw", "cleared", "(IIIIII)Z"⟩ : MethodName) (head1 (Jvm.Cond.code (⟨"com/example/splitgrain/splitgrain/parse/ChartItemsClearPlacesPinLaw", "cleared", "(IIIIII)Z"⟩ : MethodName) method_3_code 6 (some .boolean) :: ws) ({ frames := 0, cells := 0, slots := 0, locals := 0 } : Room)) (fun a U => a = #[(.int pp1), (.int (2 : Int32)), (.int pp3), (.int pp4), (.int pp5), (.int pp6)] ∧ Z.Warmed39 U.vm ∧ U.heap = h0) (fun _ _ _ _ _ => True) (fun _ U o U' => ∃ v L, o = .returned v ∧ Q3_2 Z pp1 pp3 pp4 pp5 pp6 h0 n0 v U'.heap L ∧ FrameEnd U o U' L ({ frames := 0, cells := 0, slots := 0, locals := 0 } : Room).cells ({ frames := 0, cells := 0, slots := 0, locals := 0 } : Room).slots) := by
  refine MetFree.of_bodySF (plainFor_of_name pn_com_example_splitgrain_splitgrain_parse_ChartItemsClearPlacesPinLaw) hisR ?_
  intro p e s m args below meth c s₁ Bd hml0 hP hK
  obtain ⟨rfl, hZ, hh⟩ := hP
  have hx := Bd.exec
  have hby := Bd.bytes
  have hml : c.maxLocals = 6 := hml0
  have hown : s.vm.findClass "com/example/splitgrain/splitgrain/parse/ChartItemsClearPlacesPinLaw" = some m.cls := findClass_of_methodNamed Bd.named
  have hnm := (name_of_methodNamed Bd.named Bd.method).1
  have X0 : Stand p l e ({ frames := 0, cells := 0, slots := 0, locals := 0 } : Room) s m #[(.int pp1), (.int (2 : Int32)), (.int pp3), (.int pp4), (.int pp5), (.int pp6)] below meth c s₁ [] 0 0 := Stand.of_body Bd
  have e0 : s₁.heap = h0 := by rw [← hh, Bd.state]; rfl
  have N0 := Fr.nil n0
  have pre0 : ∀ t, Steps p.tables e below (s₁.setTop (mkF m 0 #[.val (.int pp1), .val (.int (2 : Int32)), .val (.int pp3), .val (.int pp4), .val (.int pp5), .val (.int pp6)] [])) t → Steps p.tables e below (s₁.setTop (entryFrame m #[(.int pp1), (.int (2 : Int32)), (.int pp3), (.int pp4), (.int pp5), (.int pp6)] 6)) t := fun t k => castTop (ef_3_2 m pp1 pp3 pp4 pp5 pp6) k
  have hc1 : (0 : Int32) < (2 : Int32) := by decide
  have pre1 : ∀ t, Steps p.tables e below (s₁.setTop (mkF m 6 #[.val (.int pp1), .val (.int (2 : Int32)), .val (.int pp3), .val (.int pp4), .val (.int pp5), .val (.int pp6)] [(.int pp1), (.int pp3)])) t → Steps p.tables e below (s₁.setTop (entryFrame m #[(.int pp1), (.int (2 : Int32)), (.int pp3), (.int pp4), (.int pp5), (.int pp6)] 6)) t := fun t kt => pre0 t (by
    show Steps p.tables e below (s₁.setTop (mkF m 0 #[.val (.int pp1), .val (.int (2 : Int32)), .val (.int pp3), .val (.int pp4), .val (.int pp5), .val (.int pp6)] [])) _
    refine XS.iloadN X0.here hx rfl (hb hby d3_0) rfl ?_
    show Steps p.tables e below (s₁.setTop (mkF m 1 #[.val (.int pp1), .val (.int (2 : Int32)), .val (.int pp3), .val (.int pp4), .val (.int pp5), .val (.int pp6)] [(.int (2 : Int32))])) _
    refine XS.ifNo X0.here hx rfl (hb hby d3_1) rfl ((if0 _ _).trans (tlt hc1).2.2.2) ?_
    show Steps p.tables e below (s₁.setTop (mkF m 4 #[.val (.int pp1), .val (.int (2 : Int32)), .val (.int pp3), .val (.int pp4), .val (.int pp5), .val (.int pp6)] [])) _
    refine XS.iloadN X0.here hx rfl (hb hby d3_4) rfl ?_
    show Steps p.tables e below (s₁.setTop (mkF m 5 #[.val (.int pp1), .val (.int (2 : Int32)), .val (.int pp3), .val (.int pp4), .val (.int pp5), .val (.int pp6)] [(.int pp3)])) _
    refine XS.iloadN X0.here hx rfl (hb hby d3_5) rfl ?_
    exact kt)
  by_cases hc6 : pp3 = pp1
  · skip
    obtain ⟨fs, hr, hrun, hended, hW, hsame⟩ := X0.leave (v := some (.int (1 : Int32))) (fun h => by rw [Bd.returns] at h; cases h)
    refine ⟨_, _, pre1 _ ?_, hrun, hended, _, _, rfl, ?_, ⟨_, rfl⟩, hW, hsame.mono (by decide) (by decide)⟩
    · show Steps p.tables e below (s₁.setTop (mkF m 6 #[.val (.int pp1), .val (.int (2 : Int32)), .val (.int pp3), .val (.int pp4), .val (.int pp5), .val (.int pp6)] [(.int pp1), (.int pp3)])) _
      refine XS.icmpYes X0.here hx rfl (pc0 := 6) (pc' := 41) rfl (hb hby d3_6) rfl (teq hc6).1 (by decide) (by decide) ?_
      show Steps p.tables e below (s₁.setTop (mkF m 41 #[.val (.int pp1), .val (.int (2 : Int32)), .val (.int pp3), .val (.int pp4), .val (.int pp5), .val (.int pp6)] [])) _
      refine XS.iconst X0.here hx rfl (hb hby d3_41) ?_
      show Steps p.tables e below (s₁.setTop (mkF m 42 #[.val (.int pp1), .val (.int (2 : Int32)), .val (.int pp3), .val (.int pp4), .val (.int pp5), .val (.int pp6)] [(.int (1 : Int32))])) _
      refine XS.goto X0.here hx rfl (pc0 := 42) (pc' := 46) rfl (hb hby d3_42) (by decide) (by decide) ?_
      show Steps p.tables e below (s₁.setTop (mkF m 46 #[.val (.int pp1), .val (.int (2 : Int32)), .val (.int pp3), .val (.int pp4), .val (.int pp5), .val (.int pp6)] [(.int (1 : Int32))])) _
      exact retN X0 hx (t := .boolean) Bd.returns (by simp) (hb hby d3_46) hr
    · show Q3_2 Z pp1 pp3 pp4 pp5 pp6 h0 n0 _ s₁.heap _
      rw [e0]
      exact ⟨(by rw [if_pos hc6]), N0, rfl⟩
  · skip
    have hc11 : (1 : Int32) < (2 : Int32) := by decide
    have pre2 : ∀ t, Steps p.tables e below (s₁.setTop (mkF m 16 #[.val (.int pp1), .val (.int (2 : Int32)), .val (.int pp3), .val (.int pp4), .val (.int pp5), .val (.int pp6)] [(.int pp1), (.int pp4)])) t → Steps p.tables e below (s₁.setTop (entryFrame m #[(.int pp1), (.int (2 : Int32)), (.int pp3), (.int pp4), (.int pp5), (.int pp6)] 6)) t := fun t kt => pre1 t (by
      show Steps p.tables e below (s₁.setTop (mkF m 6 #[.val (.int pp1), .val (.int (2 : Int32)), .val (.int pp3), .val (.int pp4), .val (.int pp5), .val (.int pp6)] [(.int pp1), (.int pp3)])) _
      refine XS.icmpNo X0.here hx rfl (hb hby d3_6) rfl (feq hc6).1 ?_
      show Steps p.tables e below (s₁.setTop (mkF m 9 #[.val (.int pp1), .val (.int (2 : Int32)), .val (.int pp3), .val (.int pp4), .val (.int pp5), .val (.int pp6)] [])) _
      refine XS.iloadN X0.here hx rfl (hb hby d3_9) rfl ?_
      show Steps p.tables e below (s₁.setTop (mkF m 10 #[.val (.int pp1), .val (.int (2 : Int32)), .val (.int pp3), .val (.int pp4), .val (.int pp5), .val (.int pp6)] [(.int (2 : Int32))])) _
      refine XS.iconst X0.here hx rfl (hb hby d3_10) ?_
      show Steps p.tables e below (s₁.setTop (mkF m 11 #[.val (.int pp1), .val (.int (2 : Int32)), .val (.int pp3), .val (.int pp4), .val (.int pp5), .val (.int pp6)] [(.int (1 : Int32)), (.int (2 : Int32))])) _
      refine XS.icmpNo X0.here hx rfl (hb hby d3_11) rfl (tlt hc11).2.2.2 ?_
      show Steps p.tables e below (s₁.setTop (mkF m 14 #[.val (.int pp1), .val (.int (2 : Int32)), .val (.int pp3), .val (.int pp4), .val (.int pp5), .val (.int pp6)] [])) _
      refine XS.iloadN X0.here hx rfl (hb hby d3_14) rfl ?_
      show Steps p.tables e below (s₁.setTop (mkF m 15 #[.val (.int pp1), .val (.int (2 : Int32)), .val (.int pp3), .val (.int pp4), .val (.int pp5), .val (.int pp6)] [(.int pp4)])) _
      refine XS.iloadN X0.here hx rfl (hb hby d3_15) rfl ?_
      exact kt)
    by_cases hc16 : pp4 = pp1
    · skip
      obtain ⟨fs, hr, hrun, hended, hW, hsame⟩ := X0.leave (v := some (.int (1 : Int32))) (fun h => by rw [Bd.returns] at h; cases h)
      refine ⟨_, _, pre2 _ ?_, hrun, hended, _, _, rfl, ?_, ⟨_, rfl⟩, hW, hsame.mono (by decide) (by decide)⟩
      · show Steps p.tables e below (s₁.setTop (mkF m 16 #[.val (.int pp1), .val (.int (2 : Int32)), .val (.int pp3), .val (.int pp4), .val (.int pp5), .val (.int pp6)] [(.int pp1), (.int pp4)])) _
        refine XS.icmpYes X0.here hx rfl (pc0 := 16) (pc' := 41) rfl (hb hby d3_16) rfl (teq hc16).1 (by decide) (by decide) ?_
        show Steps p.tables e below (s₁.setTop (mkF m 41 #[.val (.int pp1), .val (.int (2 : Int32)), .val (.int pp3), .val (.int pp4), .val (.int pp5), .val (.int pp6)] [])) _
        refine XS.iconst X0.here hx rfl (hb hby d3_41) ?_
        show Steps p.tables e below (s₁.setTop (mkF m 42 #[.val (.int pp1), .val (.int (2 : Int32)), .val (.int pp3), .val (.int pp4), .val (.int pp5), .val (.int pp6)] [(.int (1 : Int32))])) _
        refine XS.goto X0.here hx rfl (pc0 := 42) (pc' := 46) rfl (hb hby d3_42) (by decide) (by decide) ?_
        show Steps p.tables e below (s₁.setTop (mkF m 46 #[.val (.int pp1), .val (.int (2 : Int32)), .val (.int pp3), .val (.int pp4), .val (.int pp5), .val (.int pp6)] [(.int (1 : Int32))])) _
        exact retN X0 hx (t := .boolean) Bd.returns (by simp) (hb hby d3_46) hr
      · show Q3_2 Z pp1 pp3 pp4 pp5 pp6 h0 n0 _ s₁.heap _
        rw [e0]
        exact ⟨(by rw [if_neg hc6, if_pos hc16]), N0, rfl⟩
    · skip
      have hc21 : ¬ ((2 : Int32) < (2 : Int32)) := by decide
      have hc32 : ¬ ((3 : Int32) < (2 : Int32)) := by decide
      obtain ⟨fs, hr, hrun, hended, hW, hsame⟩ := X0.leave (v := some (.int (0 : Int32))) (fun h => by rw [Bd.returns] at h; cases h)
      refine ⟨_, _, pre2 _ ?_, hrun, hended, _, _, rfl, ?_, ⟨_, rfl⟩, hW, hsame.mono (by decide) (by decide)⟩
      · show Steps p.tables e below (s₁.setTop (mkF m 16 #[.val (.int pp1), .val (.int (2 : Int32)), .val (.int pp3), .val (.int pp4), .val (.int pp5), .val (.int pp6)] [(.int pp1), (.int pp4)])) _
        refine XS.icmpNo X0.here hx rfl (hb hby d3_16) rfl (feq hc16).1 ?_
        show Steps p.tables e below (s₁.setTop (mkF m 19 #[.val (.int pp1), .val (.int (2 : Int32)), .val (.int pp3), .val (.int pp4), .val (.int pp5), .val (.int pp6)] [])) _
        refine XS.iloadN X0.here hx rfl (hb hby d3_19) rfl ?_
        show Steps p.tables e below (s₁.setTop (mkF m 20 #[.val (.int pp1), .val (.int (2 : Int32)), .val (.int pp3), .val (.int pp4), .val (.int pp5), .val (.int pp6)] [(.int (2 : Int32))])) _
        refine XS.iconst X0.here hx rfl (hb hby d3_20) ?_
        show Steps p.tables e below (s₁.setTop (mkF m 21 #[.val (.int pp1), .val (.int (2 : Int32)), .val (.int pp3), .val (.int pp4), .val (.int pp5), .val (.int pp6)] [(.int (2 : Int32)), (.int (2 : Int32))])) _
        refine XS.icmpYes X0.here hx rfl (pc0 := 21) (pc' := 30) rfl (hb hby d3_21) rfl (flt hc21).2.2.2 (by decide) (by decide) ?_
        show Steps p.tables e below (s₁.setTop (mkF m 30 #[.val (.int pp1), .val (.int (2 : Int32)), .val (.int pp3), .val (.int pp4), .val (.int pp5), .val (.int pp6)] [])) _
        refine XS.iloadN X0.here hx rfl (hb hby d3_30) rfl ?_
        show Steps p.tables e below (s₁.setTop (mkF m 31 #[.val (.int pp1), .val (.int (2 : Int32)), .val (.int pp3), .val (.int pp4), .val (.int pp5), .val (.int pp6)] [(.int (2 : Int32))])) _
        refine XS.iconst X0.here hx rfl (hb hby d3_31) ?_
        show Steps p.tables e below (s₁.setTop (mkF m 32 #[.val (.int pp1), .val (.int (2 : Int32)), .val (.int pp3), .val (.int pp4), .val (.int pp5), .val (.int pp6)] [(.int (3 : Int32)), (.int (2 : Int32))])) _
        refine XS.icmpYes X0.here hx rfl (pc0 := 32) (pc' := 45) rfl (hb hby d3_32) rfl (flt hc32).2.2.2 (by decide) (by decide) ?_
        show Steps p.tables e below (s₁.setTop (mkF m 45 #[.val (.int pp1), .val (.int (2 : Int32)), .val (.int pp3), .val (.int pp4), .val (.int pp5), .val (.int pp6)] [])) _
        refine XS.iconst X0.here hx rfl (hb hby d3_45) ?_
        show Steps p.tables e below (s₁.setTop (mkF m 46 #[.val (.int pp1), .val (.int (2 : Int32)), .val (.int pp3), .val (.int pp4), .val (.int pp5), .val (.int pp6)] [(.int (0 : Int32))])) _
        exact retN X0 hx (t := .boolean) Bd.returns (by simp) (hb hby d3_46) hr
      · show Q3_2 Z pp1 pp3 pp4 pp5 pp6 h0 n0 _ s₁.heap _
        rw [e0]
        exact ⟨(by rw [if_neg hc6, if_neg hc16]), N0, rfl⟩
theorem d3_24 : decode method_3_code 24 = .ok (.iload 4, 2) := by decide +kernel
theorem d3_26 : decode method_3_code 26 = .ok (.iload_n 0, 1) := by decide +kernel
theorem d3_27 : decode method_3_code 27 = .ok (.if_icmp .eq 14, 3) := by decide +kernel
theorem ef_3_3 (m : MethodId) (x0 : Int32) (x2 : Int32) (x3 : Int32) (x4 : Int32) (x5 : Int32) : entryFrame m #[(.int x0), (.int (3 : Int32)), (.int x2), (.int x3), (.int x4), (.int x5)] 6 = mkF m 0 #[.val (.int x0), .val (.int (3 : Int32)), .val (.int x2), .val (.int x3), .val (.int x4), .val (.int x5)] [] := by first | (simp [entryFrame, mkF, argsToLocals, Value.category]; done) | rfl
def Q3_3 (Z : State) (pp1 : Int32) (pp3 : Int32) (pp4 : Int32) (pp5 : Int32) (pp6 : Int32) (h0 : Heap) (n0 : Nat) (v : Option Value) (h : Heap) (L : List Loc) : Prop := v = some (.int (if pp3 = pp1 then (1 : Int32) else (if pp4 = pp1 then (1 : Int32) else (if pp5 = pp1 then (1 : Int32) else (0 : Int32))))) ∧ Fr n0 L ∧ h = h0
set_option maxRecDepth 65536 in
set_option maxHeartbeats 40000000 in
theorem rm3_3 (l : Launch) (Z : State) (a0 : Array Value) (hw : ∀ d ∈ tables_1, d.before a0 Z = true) (ws : List Jvm.Cond) (pp1 : Int32) (pp3 : Int32) (pp4 : Int32) (pp5 : Int32) (pp6 : Int32) (h0 : Heap) (n0 : Nat) (Z0 : n0 ≤ h0.size) :
    MetFree l (⟨"com/example/splitgrain/splitgrain/parse/ChartItemsClearPlacesPinLaw", "cleared", "(IIIIII)Z"⟩ : MethodName) (head1 (Jvm.Cond.code (⟨"com/example/splitgrain/splitgrain/parse/ChartItemsClearPlacesPinLaw", "cleared", "(IIIIII)Z"⟩ : MethodName) method_3_code 6 (some .boolean) :: ws) ({ frames := 0, cells := 0, slots := 0, locals := 0 } : Room)) (fun a U => a = #[(.int pp1), (.int (3 : Int32)), (.int pp3), (.int pp4), (.int pp5), (.int pp6)] ∧ Z.Warmed39 U.vm ∧ U.heap = h0) (fun _ _ _ _ _ => True) (fun _ U o U' => ∃ v L, o = .returned v ∧ Q3_3 Z pp1 pp3 pp4 pp5 pp6 h0 n0 v U'.heap L ∧ FrameEnd U o U' L ({ frames := 0, cells := 0, slots := 0, locals := 0 } : Room).cells ({ frames := 0, cells := 0, slots := 0, locals := 0 } : Room).slots) := by
  refine MetFree.of_bodySF (plainFor_of_name pn_com_example_splitgrain_splitgrain_parse_ChartItemsClearPlacesPinLaw) hisR ?_
  intro p e s m args below meth c s₁ Bd hml0 hP hK
  obtain ⟨rfl, hZ, hh⟩ := hP
  have hx := Bd.exec
  have hby := Bd.bytes
  have hml : c.maxLocals = 6 := hml0
  have hown : s.vm.findClass "com/example/splitgrain/splitgrain/parse/ChartItemsClearPlacesPinLaw" = some m.cls := findClass_of_methodNamed Bd.named
  have hnm := (name_of_methodNamed Bd.named Bd.method).1
  have X0 : Stand p l e ({ frames := 0, cells := 0, slots := 0, locals := 0 } : Room) s m #[(.int pp1), (.int (3 : Int32)), (.int pp3), (.int pp4), (.int pp5), (.int pp6)] below meth c s₁ [] 0 0 := Stand.of_body Bd
  have e0 : s₁.heap = h0 := by rw [← hh, Bd.state]; rfl
  have N0 := Fr.nil n0
  have pre0 : ∀ t, Steps p.tables e below (s₁.setTop (mkF m 0 #[.val (.int pp1), .val (.int (3 : Int32)), .val (.int pp3), .val (.int pp4), .val (.int pp5), .val (.int pp6)] [])) t → Steps p.tables e below (s₁.setTop (entryFrame m #[(.int pp1), (.int (3 : Int32)), (.int pp3), (.int pp4), (.int pp5), (.int pp6)] 6)) t := fun t k => castTop (ef_3_3 m pp1 pp3 pp4 pp5 pp6) k
  have hc1 : (0 : Int32) < (3 : Int32) := by decide
  have pre1 : ∀ t, Steps p.tables e below (s₁.setTop (mkF m 6 #[.val (.int pp1), .val (.int (3 : Int32)), .val (.int pp3), .val (.int pp4), .val (.int pp5), .val (.int pp6)] [(.int pp1), (.int pp3)])) t → Steps p.tables e below (s₁.setTop (entryFrame m #[(.int pp1), (.int (3 : Int32)), (.int pp3), (.int pp4), (.int pp5), (.int pp6)] 6)) t := fun t kt => pre0 t (by
    show Steps p.tables e below (s₁.setTop (mkF m 0 #[.val (.int pp1), .val (.int (3 : Int32)), .val (.int pp3), .val (.int pp4), .val (.int pp5), .val (.int pp6)] [])) _
    refine XS.iloadN X0.here hx rfl (hb hby d3_0) rfl ?_
    show Steps p.tables e below (s₁.setTop (mkF m 1 #[.val (.int pp1), .val (.int (3 : Int32)), .val (.int pp3), .val (.int pp4), .val (.int pp5), .val (.int pp6)] [(.int (3 : Int32))])) _
    refine XS.ifNo X0.here hx rfl (hb hby d3_1) rfl ((if0 _ _).trans (tlt hc1).2.2.2) ?_
    show Steps p.tables e below (s₁.setTop (mkF m 4 #[.val (.int pp1), .val (.int (3 : Int32)), .val (.int pp3), .val (.int pp4), .val (.int pp5), .val (.int pp6)] [])) _
    refine XS.iloadN X0.here hx rfl (hb hby d3_4) rfl ?_
    show Steps p.tables e below (s₁.setTop (mkF m 5 #[.val (.int pp1), .val (.int (3 : Int32)), .val (.int pp3), .val (.int pp4), .val (.int pp5), .val (.int pp6)] [(.int pp3)])) _
    refine XS.iloadN X0.here hx rfl (hb hby d3_5) rfl ?_
    exact kt)
  by_cases hc6 : pp3 = pp1
  · skip
    obtain ⟨fs, hr, hrun, hended, hW, hsame⟩ := X0.leave (v := some (.int (1 : Int32))) (fun h => by rw [Bd.returns] at h; cases h)
    refine ⟨_, _, pre1 _ ?_, hrun, hended, _, _, rfl, ?_, ⟨_, rfl⟩, hW, hsame.mono (by decide) (by decide)⟩
    · show Steps p.tables e below (s₁.setTop (mkF m 6 #[.val (.int pp1), .val (.int (3 : Int32)), .val (.int pp3), .val (.int pp4), .val (.int pp5), .val (.int pp6)] [(.int pp1), (.int pp3)])) _
      refine XS.icmpYes X0.here hx rfl (pc0 := 6) (pc' := 41) rfl (hb hby d3_6) rfl (teq hc6).1 (by decide) (by decide) ?_
      show Steps p.tables e below (s₁.setTop (mkF m 41 #[.val (.int pp1), .val (.int (3 : Int32)), .val (.int pp3), .val (.int pp4), .val (.int pp5), .val (.int pp6)] [])) _
      refine XS.iconst X0.here hx rfl (hb hby d3_41) ?_
      show Steps p.tables e below (s₁.setTop (mkF m 42 #[.val (.int pp1), .val (.int (3 : Int32)), .val (.int pp3), .val (.int pp4), .val (.int pp5), .val (.int pp6)] [(.int (1 : Int32))])) _
      refine XS.goto X0.here hx rfl (pc0 := 42) (pc' := 46) rfl (hb hby d3_42) (by decide) (by decide) ?_
      show Steps p.tables e below (s₁.setTop (mkF m 46 #[.val (.int pp1), .val (.int (3 : Int32)), .val (.int pp3), .val (.int pp4), .val (.int pp5), .val (.int pp6)] [(.int (1 : Int32))])) _
      exact retN X0 hx (t := .boolean) Bd.returns (by simp) (hb hby d3_46) hr
    · show Q3_3 Z pp1 pp3 pp4 pp5 pp6 h0 n0 _ s₁.heap _
      rw [e0]
      exact ⟨(by rw [if_pos hc6]), N0, rfl⟩
  · skip
    have hc11 : (1 : Int32) < (3 : Int32) := by decide
    have pre2 : ∀ t, Steps p.tables e below (s₁.setTop (mkF m 16 #[.val (.int pp1), .val (.int (3 : Int32)), .val (.int pp3), .val (.int pp4), .val (.int pp5), .val (.int pp6)] [(.int pp1), (.int pp4)])) t → Steps p.tables e below (s₁.setTop (entryFrame m #[(.int pp1), (.int (3 : Int32)), (.int pp3), (.int pp4), (.int pp5), (.int pp6)] 6)) t := fun t kt => pre1 t (by
      show Steps p.tables e below (s₁.setTop (mkF m 6 #[.val (.int pp1), .val (.int (3 : Int32)), .val (.int pp3), .val (.int pp4), .val (.int pp5), .val (.int pp6)] [(.int pp1), (.int pp3)])) _
      refine XS.icmpNo X0.here hx rfl (hb hby d3_6) rfl (feq hc6).1 ?_
      show Steps p.tables e below (s₁.setTop (mkF m 9 #[.val (.int pp1), .val (.int (3 : Int32)), .val (.int pp3), .val (.int pp4), .val (.int pp5), .val (.int pp6)] [])) _
      refine XS.iloadN X0.here hx rfl (hb hby d3_9) rfl ?_
      show Steps p.tables e below (s₁.setTop (mkF m 10 #[.val (.int pp1), .val (.int (3 : Int32)), .val (.int pp3), .val (.int pp4), .val (.int pp5), .val (.int pp6)] [(.int (3 : Int32))])) _
      refine XS.iconst X0.here hx rfl (hb hby d3_10) ?_
      show Steps p.tables e below (s₁.setTop (mkF m 11 #[.val (.int pp1), .val (.int (3 : Int32)), .val (.int pp3), .val (.int pp4), .val (.int pp5), .val (.int pp6)] [(.int (1 : Int32)), (.int (3 : Int32))])) _
      refine XS.icmpNo X0.here hx rfl (hb hby d3_11) rfl (tlt hc11).2.2.2 ?_
      show Steps p.tables e below (s₁.setTop (mkF m 14 #[.val (.int pp1), .val (.int (3 : Int32)), .val (.int pp3), .val (.int pp4), .val (.int pp5), .val (.int pp6)] [])) _
      refine XS.iloadN X0.here hx rfl (hb hby d3_14) rfl ?_
      show Steps p.tables e below (s₁.setTop (mkF m 15 #[.val (.int pp1), .val (.int (3 : Int32)), .val (.int pp3), .val (.int pp4), .val (.int pp5), .val (.int pp6)] [(.int pp4)])) _
      refine XS.iloadN X0.here hx rfl (hb hby d3_15) rfl ?_
      exact kt)
    by_cases hc16 : pp4 = pp1
    · skip
      obtain ⟨fs, hr, hrun, hended, hW, hsame⟩ := X0.leave (v := some (.int (1 : Int32))) (fun h => by rw [Bd.returns] at h; cases h)
      refine ⟨_, _, pre2 _ ?_, hrun, hended, _, _, rfl, ?_, ⟨_, rfl⟩, hW, hsame.mono (by decide) (by decide)⟩
      · show Steps p.tables e below (s₁.setTop (mkF m 16 #[.val (.int pp1), .val (.int (3 : Int32)), .val (.int pp3), .val (.int pp4), .val (.int pp5), .val (.int pp6)] [(.int pp1), (.int pp4)])) _
        refine XS.icmpYes X0.here hx rfl (pc0 := 16) (pc' := 41) rfl (hb hby d3_16) rfl (teq hc16).1 (by decide) (by decide) ?_
        show Steps p.tables e below (s₁.setTop (mkF m 41 #[.val (.int pp1), .val (.int (3 : Int32)), .val (.int pp3), .val (.int pp4), .val (.int pp5), .val (.int pp6)] [])) _
        refine XS.iconst X0.here hx rfl (hb hby d3_41) ?_
        show Steps p.tables e below (s₁.setTop (mkF m 42 #[.val (.int pp1), .val (.int (3 : Int32)), .val (.int pp3), .val (.int pp4), .val (.int pp5), .val (.int pp6)] [(.int (1 : Int32))])) _
        refine XS.goto X0.here hx rfl (pc0 := 42) (pc' := 46) rfl (hb hby d3_42) (by decide) (by decide) ?_
        show Steps p.tables e below (s₁.setTop (mkF m 46 #[.val (.int pp1), .val (.int (3 : Int32)), .val (.int pp3), .val (.int pp4), .val (.int pp5), .val (.int pp6)] [(.int (1 : Int32))])) _
        exact retN X0 hx (t := .boolean) Bd.returns (by simp) (hb hby d3_46) hr
      · show Q3_3 Z pp1 pp3 pp4 pp5 pp6 h0 n0 _ s₁.heap _
        rw [e0]
        exact ⟨(by rw [if_neg hc6, if_pos hc16]), N0, rfl⟩
    · skip
      have hc21 : (2 : Int32) < (3 : Int32) := by decide
      have pre3 : ∀ t, Steps p.tables e below (s₁.setTop (mkF m 27 #[.val (.int pp1), .val (.int (3 : Int32)), .val (.int pp3), .val (.int pp4), .val (.int pp5), .val (.int pp6)] [(.int pp1), (.int pp5)])) t → Steps p.tables e below (s₁.setTop (entryFrame m #[(.int pp1), (.int (3 : Int32)), (.int pp3), (.int pp4), (.int pp5), (.int pp6)] 6)) t := fun t kt => pre2 t (by
        show Steps p.tables e below (s₁.setTop (mkF m 16 #[.val (.int pp1), .val (.int (3 : Int32)), .val (.int pp3), .val (.int pp4), .val (.int pp5), .val (.int pp6)] [(.int pp1), (.int pp4)])) _
        refine XS.icmpNo X0.here hx rfl (hb hby d3_16) rfl (feq hc16).1 ?_
        show Steps p.tables e below (s₁.setTop (mkF m 19 #[.val (.int pp1), .val (.int (3 : Int32)), .val (.int pp3), .val (.int pp4), .val (.int pp5), .val (.int pp6)] [])) _
        refine XS.iloadN X0.here hx rfl (hb hby d3_19) rfl ?_
        show Steps p.tables e below (s₁.setTop (mkF m 20 #[.val (.int pp1), .val (.int (3 : Int32)), .val (.int pp3), .val (.int pp4), .val (.int pp5), .val (.int pp6)] [(.int (3 : Int32))])) _
        refine XS.iconst X0.here hx rfl (hb hby d3_20) ?_
        show Steps p.tables e below (s₁.setTop (mkF m 21 #[.val (.int pp1), .val (.int (3 : Int32)), .val (.int pp3), .val (.int pp4), .val (.int pp5), .val (.int pp6)] [(.int (2 : Int32)), (.int (3 : Int32))])) _
        refine XS.icmpNo X0.here hx rfl (hb hby d3_21) rfl (tlt hc21).2.2.2 ?_
        show Steps p.tables e below (s₁.setTop (mkF m 24 #[.val (.int pp1), .val (.int (3 : Int32)), .val (.int pp3), .val (.int pp4), .val (.int pp5), .val (.int pp6)] [])) _
        refine XS.iload X0.here hx rfl (hb hby d3_24) rfl ?_
        show Steps p.tables e below (s₁.setTop (mkF m 26 #[.val (.int pp1), .val (.int (3 : Int32)), .val (.int pp3), .val (.int pp4), .val (.int pp5), .val (.int pp6)] [(.int pp5)])) _
        refine XS.iloadN X0.here hx rfl (hb hby d3_26) rfl ?_
        exact kt)
      by_cases hc27 : pp5 = pp1
      · skip
        obtain ⟨fs, hr, hrun, hended, hW, hsame⟩ := X0.leave (v := some (.int (1 : Int32))) (fun h => by rw [Bd.returns] at h; cases h)
        refine ⟨_, _, pre3 _ ?_, hrun, hended, _, _, rfl, ?_, ⟨_, rfl⟩, hW, hsame.mono (by decide) (by decide)⟩
        · show Steps p.tables e below (s₁.setTop (mkF m 27 #[.val (.int pp1), .val (.int (3 : Int32)), .val (.int pp3), .val (.int pp4), .val (.int pp5), .val (.int pp6)] [(.int pp1), (.int pp5)])) _
          refine XS.icmpYes X0.here hx rfl (pc0 := 27) (pc' := 41) rfl (hb hby d3_27) rfl (teq hc27).1 (by decide) (by decide) ?_
          show Steps p.tables e below (s₁.setTop (mkF m 41 #[.val (.int pp1), .val (.int (3 : Int32)), .val (.int pp3), .val (.int pp4), .val (.int pp5), .val (.int pp6)] [])) _
          refine XS.iconst X0.here hx rfl (hb hby d3_41) ?_
          show Steps p.tables e below (s₁.setTop (mkF m 42 #[.val (.int pp1), .val (.int (3 : Int32)), .val (.int pp3), .val (.int pp4), .val (.int pp5), .val (.int pp6)] [(.int (1 : Int32))])) _
          refine XS.goto X0.here hx rfl (pc0 := 42) (pc' := 46) rfl (hb hby d3_42) (by decide) (by decide) ?_
          show Steps p.tables e below (s₁.setTop (mkF m 46 #[.val (.int pp1), .val (.int (3 : Int32)), .val (.int pp3), .val (.int pp4), .val (.int pp5), .val (.int pp6)] [(.int (1 : Int32))])) _
          exact retN X0 hx (t := .boolean) Bd.returns (by simp) (hb hby d3_46) hr
        · show Q3_3 Z pp1 pp3 pp4 pp5 pp6 h0 n0 _ s₁.heap _
          rw [e0]
          exact ⟨(by rw [if_neg hc6, if_neg hc16, if_pos hc27]), N0, rfl⟩
      · skip
        have hc32 : ¬ ((3 : Int32) < (3 : Int32)) := by decide
        obtain ⟨fs, hr, hrun, hended, hW, hsame⟩ := X0.leave (v := some (.int (0 : Int32))) (fun h => by rw [Bd.returns] at h; cases h)
        refine ⟨_, _, pre3 _ ?_, hrun, hended, _, _, rfl, ?_, ⟨_, rfl⟩, hW, hsame.mono (by decide) (by decide)⟩
        · show Steps p.tables e below (s₁.setTop (mkF m 27 #[.val (.int pp1), .val (.int (3 : Int32)), .val (.int pp3), .val (.int pp4), .val (.int pp5), .val (.int pp6)] [(.int pp1), (.int pp5)])) _
          refine XS.icmpNo X0.here hx rfl (hb hby d3_27) rfl (feq hc27).1 ?_
          show Steps p.tables e below (s₁.setTop (mkF m 30 #[.val (.int pp1), .val (.int (3 : Int32)), .val (.int pp3), .val (.int pp4), .val (.int pp5), .val (.int pp6)] [])) _
          refine XS.iloadN X0.here hx rfl (hb hby d3_30) rfl ?_
          show Steps p.tables e below (s₁.setTop (mkF m 31 #[.val (.int pp1), .val (.int (3 : Int32)), .val (.int pp3), .val (.int pp4), .val (.int pp5), .val (.int pp6)] [(.int (3 : Int32))])) _
          refine XS.iconst X0.here hx rfl (hb hby d3_31) ?_
          show Steps p.tables e below (s₁.setTop (mkF m 32 #[.val (.int pp1), .val (.int (3 : Int32)), .val (.int pp3), .val (.int pp4), .val (.int pp5), .val (.int pp6)] [(.int (3 : Int32)), (.int (3 : Int32))])) _
          refine XS.icmpYes X0.here hx rfl (pc0 := 32) (pc' := 45) rfl (hb hby d3_32) rfl (flt hc32).2.2.2 (by decide) (by decide) ?_
          show Steps p.tables e below (s₁.setTop (mkF m 45 #[.val (.int pp1), .val (.int (3 : Int32)), .val (.int pp3), .val (.int pp4), .val (.int pp5), .val (.int pp6)] [])) _
          refine XS.iconst X0.here hx rfl (hb hby d3_45) ?_
          show Steps p.tables e below (s₁.setTop (mkF m 46 #[.val (.int pp1), .val (.int (3 : Int32)), .val (.int pp3), .val (.int pp4), .val (.int pp5), .val (.int pp6)] [(.int (0 : Int32))])) _
          exact retN X0 hx (t := .boolean) Bd.returns (by simp) (hb hby d3_46) hr
        · show Q3_3 Z pp1 pp3 pp4 pp5 pp6 h0 n0 _ s₁.heap _
          rw [e0]
          exact ⟨(by rw [if_neg hc6, if_neg hc16, if_neg hc27]), N0, rfl⟩
theorem d3_35 : decode method_3_code 35 = .ok (.iload 5, 2) := by decide +kernel
theorem d3_37 : decode method_3_code 37 = .ok (.iload_n 0, 1) := by decide +kernel
theorem d3_38 : decode method_3_code 38 = .ok (.if_icmp .ne 7, 3) := by decide +kernel
theorem ef_3_4 (m : MethodId) (x0 : Int32) (x2 : Int32) (x3 : Int32) (x4 : Int32) (x5 : Int32) : entryFrame m #[(.int x0), (.int (4 : Int32)), (.int x2), (.int x3), (.int x4), (.int x5)] 6 = mkF m 0 #[.val (.int x0), .val (.int (4 : Int32)), .val (.int x2), .val (.int x3), .val (.int x4), .val (.int x5)] [] := by first | (simp [entryFrame, mkF, argsToLocals, Value.category]; done) | rfl
def Q3_4 (Z : State) (pp1 : Int32) (pp3 : Int32) (pp4 : Int32) (pp5 : Int32) (pp6 : Int32) (h0 : Heap) (n0 : Nat) (v : Option Value) (h : Heap) (L : List Loc) : Prop := v = some (.int (if pp3 = pp1 then (1 : Int32) else (if pp4 = pp1 then (1 : Int32) else (if pp5 = pp1 then (1 : Int32) else (if pp6 = pp1 then (1 : Int32) else (0 : Int32)))))) ∧ Fr n0 L ∧ h = h0
set_option maxRecDepth 65536 in
set_option maxHeartbeats 40000000 in
theorem rm3_4 (l : Launch) (Z : State) (a0 : Array Value) (hw : ∀ d ∈ tables_1, d.before a0 Z = true) (ws : List Jvm.Cond) (pp1 : Int32) (pp3 : Int32) (pp4 : Int32) (pp5 : Int32) (pp6 : Int32) (h0 : Heap) (n0 : Nat) (Z0 : n0 ≤ h0.size) :
    MetFree l (⟨"com/example/splitgrain/splitgrain/parse/ChartItemsClearPlacesPinLaw", "cleared", "(IIIIII)Z"⟩ : MethodName) (head1 (Jvm.Cond.code (⟨"com/example/splitgrain/splitgrain/parse/ChartItemsClearPlacesPinLaw", "cleared", "(IIIIII)Z"⟩ : MethodName) method_3_code 6 (some .boolean) :: ws) ({ frames := 0, cells := 0, slots := 0, locals := 0 } : Room)) (fun a U => a = #[(.int pp1), (.int (4 : Int32)), (.int pp3), (.int pp4), (.int pp5), (.int pp6)] ∧ Z.Warmed39 U.vm ∧ U.heap = h0) (fun _ _ _ _ _ => True) (fun _ U o U' => ∃ v L, o = .returned v ∧ Q3_4 Z pp1 pp3 pp4 pp5 pp6 h0 n0 v U'.heap L ∧ FrameEnd U o U' L ({ frames := 0, cells := 0, slots := 0, locals := 0 } : Room).cells ({ frames := 0, cells := 0, slots := 0, locals := 0 } : Room).slots) := by
  refine MetFree.of_bodySF (plainFor_of_name pn_com_example_splitgrain_splitgrain_parse_ChartItemsClearPlacesPinLaw) hisR ?_
  intro p e s m args below meth c s₁ Bd hml0 hP hK
  obtain ⟨rfl, hZ, hh⟩ := hP
  have hx := Bd.exec
  have hby := Bd.bytes
  have hml : c.maxLocals = 6 := hml0
  have hown : s.vm.findClass "com/example/splitgrain/splitgrain/parse/ChartItemsClearPlacesPinLaw" = some m.cls := findClass_of_methodNamed Bd.named
  have hnm := (name_of_methodNamed Bd.named Bd.method).1
  have X0 : Stand p l e ({ frames := 0, cells := 0, slots := 0, locals := 0 } : Room) s m #[(.int pp1), (.int (4 : Int32)), (.int pp3), (.int pp4), (.int pp5), (.int pp6)] below meth c s₁ [] 0 0 := Stand.of_body Bd
  have e0 : s₁.heap = h0 := by rw [← hh, Bd.state]; rfl
  have N0 := Fr.nil n0
  have pre0 : ∀ t, Steps p.tables e below (s₁.setTop (mkF m 0 #[.val (.int pp1), .val (.int (4 : Int32)), .val (.int pp3), .val (.int pp4), .val (.int pp5), .val (.int pp6)] [])) t → Steps p.tables e below (s₁.setTop (entryFrame m #[(.int pp1), (.int (4 : Int32)), (.int pp3), (.int pp4), (.int pp5), (.int pp6)] 6)) t := fun t k => castTop (ef_3_4 m pp1 pp3 pp4 pp5 pp6) k
  have hc1 : (0 : Int32) < (4 : Int32) := by decide
  have pre1 : ∀ t, Steps p.tables e below (s₁.setTop (mkF m 6 #[.val (.int pp1), .val (.int (4 : Int32)), .val (.int pp3), .val (.int pp4), .val (.int pp5), .val (.int pp6)] [(.int pp1), (.int pp3)])) t → Steps p.tables e below (s₁.setTop (entryFrame m #[(.int pp1), (.int (4 : Int32)), (.int pp3), (.int pp4), (.int pp5), (.int pp6)] 6)) t := fun t kt => pre0 t (by
    show Steps p.tables e below (s₁.setTop (mkF m 0 #[.val (.int pp1), .val (.int (4 : Int32)), .val (.int pp3), .val (.int pp4), .val (.int pp5), .val (.int pp6)] [])) _
    refine XS.iloadN X0.here hx rfl (hb hby d3_0) rfl ?_
    show Steps p.tables e below (s₁.setTop (mkF m 1 #[.val (.int pp1), .val (.int (4 : Int32)), .val (.int pp3), .val (.int pp4), .val (.int pp5), .val (.int pp6)] [(.int (4 : Int32))])) _
    refine XS.ifNo X0.here hx rfl (hb hby d3_1) rfl ((if0 _ _).trans (tlt hc1).2.2.2) ?_
    show Steps p.tables e below (s₁.setTop (mkF m 4 #[.val (.int pp1), .val (.int (4 : Int32)), .val (.int pp3), .val (.int pp4), .val (.int pp5), .val (.int pp6)] [])) _
    refine XS.iloadN X0.here hx rfl (hb hby d3_4) rfl ?_
    show Steps p.tables e below (s₁.setTop (mkF m 5 #[.val (.int pp1), .val (.int (4 : Int32)), .val (.int pp3), .val (.int pp4), .val (.int pp5), .val (.int pp6)] [(.int pp3)])) _
    refine XS.iloadN X0.here hx rfl (hb hby d3_5) rfl ?_
    exact kt)
  by_cases hc6 : pp3 = pp1
  · skip
    obtain ⟨fs, hr, hrun, hended, hW, hsame⟩ := X0.leave (v := some (.int (1 : Int32))) (fun h => by rw [Bd.returns] at h; cases h)
    refine ⟨_, _, pre1 _ ?_, hrun, hended, _, _, rfl, ?_, ⟨_, rfl⟩, hW, hsame.mono (by decide) (by decide)⟩
    · show Steps p.tables e below (s₁.setTop (mkF m 6 #[.val (.int pp1), .val (.int (4 : Int32)), .val (.int pp3), .val (.int pp4), .val (.int pp5), .val (.int pp6)] [(.int pp1), (.int pp3)])) _
      refine XS.icmpYes X0.here hx rfl (pc0 := 6) (pc' := 41) rfl (hb hby d3_6) rfl (teq hc6).1 (by decide) (by decide) ?_
      show Steps p.tables e below (s₁.setTop (mkF m 41 #[.val (.int pp1), .val (.int (4 : Int32)), .val (.int pp3), .val (.int pp4), .val (.int pp5), .val (.int pp6)] [])) _
      refine XS.iconst X0.here hx rfl (hb hby d3_41) ?_
      show Steps p.tables e below (s₁.setTop (mkF m 42 #[.val (.int pp1), .val (.int (4 : Int32)), .val (.int pp3), .val (.int pp4), .val (.int pp5), .val (.int pp6)] [(.int (1 : Int32))])) _
      refine XS.goto X0.here hx rfl (pc0 := 42) (pc' := 46) rfl (hb hby d3_42) (by decide) (by decide) ?_
      show Steps p.tables e below (s₁.setTop (mkF m 46 #[.val (.int pp1), .val (.int (4 : Int32)), .val (.int pp3), .val (.int pp4), .val (.int pp5), .val (.int pp6)] [(.int (1 : Int32))])) _
      exact retN X0 hx (t := .boolean) Bd.returns (by simp) (hb hby d3_46) hr
    · show Q3_4 Z pp1 pp3 pp4 pp5 pp6 h0 n0 _ s₁.heap _
      rw [e0]
      exact ⟨(by rw [if_pos hc6]), N0, rfl⟩
  · skip
    have hc11 : (1 : Int32) < (4 : Int32) := by decide
    have pre2 : ∀ t, Steps p.tables e below (s₁.setTop (mkF m 16 #[.val (.int pp1), .val (.int (4 : Int32)), .val (.int pp3), .val (.int pp4), .val (.int pp5), .val (.int pp6)] [(.int pp1), (.int pp4)])) t → Steps p.tables e below (s₁.setTop (entryFrame m #[(.int pp1), (.int (4 : Int32)), (.int pp3), (.int pp4), (.int pp5), (.int pp6)] 6)) t := fun t kt => pre1 t (by
      show Steps p.tables e below (s₁.setTop (mkF m 6 #[.val (.int pp1), .val (.int (4 : Int32)), .val (.int pp3), .val (.int pp4), .val (.int pp5), .val (.int pp6)] [(.int pp1), (.int pp3)])) _
      refine XS.icmpNo X0.here hx rfl (hb hby d3_6) rfl (feq hc6).1 ?_
      show Steps p.tables e below (s₁.setTop (mkF m 9 #[.val (.int pp1), .val (.int (4 : Int32)), .val (.int pp3), .val (.int pp4), .val (.int pp5), .val (.int pp6)] [])) _
      refine XS.iloadN X0.here hx rfl (hb hby d3_9) rfl ?_
      show Steps p.tables e below (s₁.setTop (mkF m 10 #[.val (.int pp1), .val (.int (4 : Int32)), .val (.int pp3), .val (.int pp4), .val (.int pp5), .val (.int pp6)] [(.int (4 : Int32))])) _
      refine XS.iconst X0.here hx rfl (hb hby d3_10) ?_
      show Steps p.tables e below (s₁.setTop (mkF m 11 #[.val (.int pp1), .val (.int (4 : Int32)), .val (.int pp3), .val (.int pp4), .val (.int pp5), .val (.int pp6)] [(.int (1 : Int32)), (.int (4 : Int32))])) _
      refine XS.icmpNo X0.here hx rfl (hb hby d3_11) rfl (tlt hc11).2.2.2 ?_
      show Steps p.tables e below (s₁.setTop (mkF m 14 #[.val (.int pp1), .val (.int (4 : Int32)), .val (.int pp3), .val (.int pp4), .val (.int pp5), .val (.int pp6)] [])) _
      refine XS.iloadN X0.here hx rfl (hb hby d3_14) rfl ?_
      show Steps p.tables e below (s₁.setTop (mkF m 15 #[.val (.int pp1), .val (.int (4 : Int32)), .val (.int pp3), .val (.int pp4), .val (.int pp5), .val (.int pp6)] [(.int pp4)])) _
      refine XS.iloadN X0.here hx rfl (hb hby d3_15) rfl ?_
      exact kt)
    by_cases hc16 : pp4 = pp1
    · skip
      obtain ⟨fs, hr, hrun, hended, hW, hsame⟩ := X0.leave (v := some (.int (1 : Int32))) (fun h => by rw [Bd.returns] at h; cases h)
      refine ⟨_, _, pre2 _ ?_, hrun, hended, _, _, rfl, ?_, ⟨_, rfl⟩, hW, hsame.mono (by decide) (by decide)⟩
      · show Steps p.tables e below (s₁.setTop (mkF m 16 #[.val (.int pp1), .val (.int (4 : Int32)), .val (.int pp3), .val (.int pp4), .val (.int pp5), .val (.int pp6)] [(.int pp1), (.int pp4)])) _
        refine XS.icmpYes X0.here hx rfl (pc0 := 16) (pc' := 41) rfl (hb hby d3_16) rfl (teq hc16).1 (by decide) (by decide) ?_
        show Steps p.tables e below (s₁.setTop (mkF m 41 #[.val (.int pp1), .val (.int (4 : Int32)), .val (.int pp3), .val (.int pp4), .val (.int pp5), .val (.int pp6)] [])) _
        refine XS.iconst X0.here hx rfl (hb hby d3_41) ?_
        show Steps p.tables e below (s₁.setTop (mkF m 42 #[.val (.int pp1), .val (.int (4 : Int32)), .val (.int pp3), .val (.int pp4), .val (.int pp5), .val (.int pp6)] [(.int (1 : Int32))])) _
        refine XS.goto X0.here hx rfl (pc0 := 42) (pc' := 46) rfl (hb hby d3_42) (by decide) (by decide) ?_
        show Steps p.tables e below (s₁.setTop (mkF m 46 #[.val (.int pp1), .val (.int (4 : Int32)), .val (.int pp3), .val (.int pp4), .val (.int pp5), .val (.int pp6)] [(.int (1 : Int32))])) _
        exact retN X0 hx (t := .boolean) Bd.returns (by simp) (hb hby d3_46) hr
      · show Q3_4 Z pp1 pp3 pp4 pp5 pp6 h0 n0 _ s₁.heap _
        rw [e0]
        exact ⟨(by rw [if_neg hc6, if_pos hc16]), N0, rfl⟩
    · skip
      have hc21 : (2 : Int32) < (4 : Int32) := by decide
      have pre3 : ∀ t, Steps p.tables e below (s₁.setTop (mkF m 27 #[.val (.int pp1), .val (.int (4 : Int32)), .val (.int pp3), .val (.int pp4), .val (.int pp5), .val (.int pp6)] [(.int pp1), (.int pp5)])) t → Steps p.tables e below (s₁.setTop (entryFrame m #[(.int pp1), (.int (4 : Int32)), (.int pp3), (.int pp4), (.int pp5), (.int pp6)] 6)) t := fun t kt => pre2 t (by
        show Steps p.tables e below (s₁.setTop (mkF m 16 #[.val (.int pp1), .val (.int (4 : Int32)), .val (.int pp3), .val (.int pp4), .val (.int pp5), .val (.int pp6)] [(.int pp1), (.int pp4)])) _
        refine XS.icmpNo X0.here hx rfl (hb hby d3_16) rfl (feq hc16).1 ?_
        show Steps p.tables e below (s₁.setTop (mkF m 19 #[.val (.int pp1), .val (.int (4 : Int32)), .val (.int pp3), .val (.int pp4), .val (.int pp5), .val (.int pp6)] [])) _
        refine XS.iloadN X0.here hx rfl (hb hby d3_19) rfl ?_
        show Steps p.tables e below (s₁.setTop (mkF m 20 #[.val (.int pp1), .val (.int (4 : Int32)), .val (.int pp3), .val (.int pp4), .val (.int pp5), .val (.int pp6)] [(.int (4 : Int32))])) _
        refine XS.iconst X0.here hx rfl (hb hby d3_20) ?_
        show Steps p.tables e below (s₁.setTop (mkF m 21 #[.val (.int pp1), .val (.int (4 : Int32)), .val (.int pp3), .val (.int pp4), .val (.int pp5), .val (.int pp6)] [(.int (2 : Int32)), (.int (4 : Int32))])) _
        refine XS.icmpNo X0.here hx rfl (hb hby d3_21) rfl (tlt hc21).2.2.2 ?_
        show Steps p.tables e below (s₁.setTop (mkF m 24 #[.val (.int pp1), .val (.int (4 : Int32)), .val (.int pp3), .val (.int pp4), .val (.int pp5), .val (.int pp6)] [])) _
        refine XS.iload X0.here hx rfl (hb hby d3_24) rfl ?_
        show Steps p.tables e below (s₁.setTop (mkF m 26 #[.val (.int pp1), .val (.int (4 : Int32)), .val (.int pp3), .val (.int pp4), .val (.int pp5), .val (.int pp6)] [(.int pp5)])) _
        refine XS.iloadN X0.here hx rfl (hb hby d3_26) rfl ?_
        exact kt)
      by_cases hc27 : pp5 = pp1
      · skip
        obtain ⟨fs, hr, hrun, hended, hW, hsame⟩ := X0.leave (v := some (.int (1 : Int32))) (fun h => by rw [Bd.returns] at h; cases h)
        refine ⟨_, _, pre3 _ ?_, hrun, hended, _, _, rfl, ?_, ⟨_, rfl⟩, hW, hsame.mono (by decide) (by decide)⟩
        · show Steps p.tables e below (s₁.setTop (mkF m 27 #[.val (.int pp1), .val (.int (4 : Int32)), .val (.int pp3), .val (.int pp4), .val (.int pp5), .val (.int pp6)] [(.int pp1), (.int pp5)])) _
          refine XS.icmpYes X0.here hx rfl (pc0 := 27) (pc' := 41) rfl (hb hby d3_27) rfl (teq hc27).1 (by decide) (by decide) ?_
          show Steps p.tables e below (s₁.setTop (mkF m 41 #[.val (.int pp1), .val (.int (4 : Int32)), .val (.int pp3), .val (.int pp4), .val (.int pp5), .val (.int pp6)] [])) _
          refine XS.iconst X0.here hx rfl (hb hby d3_41) ?_
          show Steps p.tables e below (s₁.setTop (mkF m 42 #[.val (.int pp1), .val (.int (4 : Int32)), .val (.int pp3), .val (.int pp4), .val (.int pp5), .val (.int pp6)] [(.int (1 : Int32))])) _
          refine XS.goto X0.here hx rfl (pc0 := 42) (pc' := 46) rfl (hb hby d3_42) (by decide) (by decide) ?_
          show Steps p.tables e below (s₁.setTop (mkF m 46 #[.val (.int pp1), .val (.int (4 : Int32)), .val (.int pp3), .val (.int pp4), .val (.int pp5), .val (.int pp6)] [(.int (1 : Int32))])) _
          exact retN X0 hx (t := .boolean) Bd.returns (by simp) (hb hby d3_46) hr
        · show Q3_4 Z pp1 pp3 pp4 pp5 pp6 h0 n0 _ s₁.heap _
          rw [e0]
          exact ⟨(by rw [if_neg hc6, if_neg hc16, if_pos hc27]), N0, rfl⟩
      · skip
        have hc32 : (3 : Int32) < (4 : Int32) := by decide
        have pre4 : ∀ t, Steps p.tables e below (s₁.setTop (mkF m 38 #[.val (.int pp1), .val (.int (4 : Int32)), .val (.int pp3), .val (.int pp4), .val (.int pp5), .val (.int pp6)] [(.int pp1), (.int pp6)])) t → Steps p.tables e below (s₁.setTop (entryFrame m #[(.int pp1), (.int (4 : Int32)), (.int pp3), (.int pp4), (.int pp5), (.int pp6)] 6)) t := fun t kt => pre3 t (by
          show Steps p.tables e below (s₁.setTop (mkF m 27 #[.val (.int pp1), .val (.int (4 : Int32)), .val (.int pp3), .val (.int pp4), .val (.int pp5), .val (.int pp6)] [(.int pp1), (.int pp5)])) _
          refine XS.icmpNo X0.here hx rfl (hb hby d3_27) rfl (feq hc27).1 ?_
          show Steps p.tables e below (s₁.setTop (mkF m 30 #[.val (.int pp1), .val (.int (4 : Int32)), .val (.int pp3), .val (.int pp4), .val (.int pp5), .val (.int pp6)] [])) _
          refine XS.iloadN X0.here hx rfl (hb hby d3_30) rfl ?_
          show Steps p.tables e below (s₁.setTop (mkF m 31 #[.val (.int pp1), .val (.int (4 : Int32)), .val (.int pp3), .val (.int pp4), .val (.int pp5), .val (.int pp6)] [(.int (4 : Int32))])) _
          refine XS.iconst X0.here hx rfl (hb hby d3_31) ?_
          show Steps p.tables e below (s₁.setTop (mkF m 32 #[.val (.int pp1), .val (.int (4 : Int32)), .val (.int pp3), .val (.int pp4), .val (.int pp5), .val (.int pp6)] [(.int (3 : Int32)), (.int (4 : Int32))])) _
          refine XS.icmpNo X0.here hx rfl (hb hby d3_32) rfl (tlt hc32).2.2.2 ?_
          show Steps p.tables e below (s₁.setTop (mkF m 35 #[.val (.int pp1), .val (.int (4 : Int32)), .val (.int pp3), .val (.int pp4), .val (.int pp5), .val (.int pp6)] [])) _
          refine XS.iload X0.here hx rfl (hb hby d3_35) rfl ?_
          show Steps p.tables e below (s₁.setTop (mkF m 37 #[.val (.int pp1), .val (.int (4 : Int32)), .val (.int pp3), .val (.int pp4), .val (.int pp5), .val (.int pp6)] [(.int pp6)])) _
          refine XS.iloadN X0.here hx rfl (hb hby d3_37) rfl ?_
          exact kt)
        by_cases hc38 : pp6 = pp1
        · skip
          obtain ⟨fs, hr, hrun, hended, hW, hsame⟩ := X0.leave (v := some (.int (1 : Int32))) (fun h => by rw [Bd.returns] at h; cases h)
          refine ⟨_, _, pre4 _ ?_, hrun, hended, _, _, rfl, ?_, ⟨_, rfl⟩, hW, hsame.mono (by decide) (by decide)⟩
          · show Steps p.tables e below (s₁.setTop (mkF m 38 #[.val (.int pp1), .val (.int (4 : Int32)), .val (.int pp3), .val (.int pp4), .val (.int pp5), .val (.int pp6)] [(.int pp1), (.int pp6)])) _
            refine XS.icmpNo X0.here hx rfl (hb hby d3_38) rfl (teq hc38).2 ?_
            show Steps p.tables e below (s₁.setTop (mkF m 41 #[.val (.int pp1), .val (.int (4 : Int32)), .val (.int pp3), .val (.int pp4), .val (.int pp5), .val (.int pp6)] [])) _
            refine XS.iconst X0.here hx rfl (hb hby d3_41) ?_
            show Steps p.tables e below (s₁.setTop (mkF m 42 #[.val (.int pp1), .val (.int (4 : Int32)), .val (.int pp3), .val (.int pp4), .val (.int pp5), .val (.int pp6)] [(.int (1 : Int32))])) _
            refine XS.goto X0.here hx rfl (pc0 := 42) (pc' := 46) rfl (hb hby d3_42) (by decide) (by decide) ?_
            show Steps p.tables e below (s₁.setTop (mkF m 46 #[.val (.int pp1), .val (.int (4 : Int32)), .val (.int pp3), .val (.int pp4), .val (.int pp5), .val (.int pp6)] [(.int (1 : Int32))])) _
            exact retN X0 hx (t := .boolean) Bd.returns (by simp) (hb hby d3_46) hr
          · show Q3_4 Z pp1 pp3 pp4 pp5 pp6 h0 n0 _ s₁.heap _
            rw [e0]
            exact ⟨(by rw [if_neg hc6, if_neg hc16, if_neg hc27, if_pos hc38]), N0, rfl⟩
        · skip
          obtain ⟨fs, hr, hrun, hended, hW, hsame⟩ := X0.leave (v := some (.int (0 : Int32))) (fun h => by rw [Bd.returns] at h; cases h)
          refine ⟨_, _, pre4 _ ?_, hrun, hended, _, _, rfl, ?_, ⟨_, rfl⟩, hW, hsame.mono (by decide) (by decide)⟩
          · show Steps p.tables e below (s₁.setTop (mkF m 38 #[.val (.int pp1), .val (.int (4 : Int32)), .val (.int pp3), .val (.int pp4), .val (.int pp5), .val (.int pp6)] [(.int pp1), (.int pp6)])) _
            refine XS.icmpYes X0.here hx rfl (pc0 := 38) (pc' := 45) rfl (hb hby d3_38) rfl (feq hc38).2 (by decide) (by decide) ?_
            show Steps p.tables e below (s₁.setTop (mkF m 45 #[.val (.int pp1), .val (.int (4 : Int32)), .val (.int pp3), .val (.int pp4), .val (.int pp5), .val (.int pp6)] [])) _
            refine XS.iconst X0.here hx rfl (hb hby d3_45) ?_
            show Steps p.tables e below (s₁.setTop (mkF m 46 #[.val (.int pp1), .val (.int (4 : Int32)), .val (.int pp3), .val (.int pp4), .val (.int pp5), .val (.int pp6)] [(.int (0 : Int32))])) _
            exact retN X0 hx (t := .boolean) Bd.returns (by simp) (hb hby d3_46) hr
          · show Q3_4 Z pp1 pp3 pp4 pp5 pp6 h0 n0 _ s₁.heap _
            rw [e0]
            exact ⟨(by rw [if_neg hc6, if_neg hc16, if_neg hc27, if_neg hc38]), N0, rfl⟩
theorem pd__28_IIIIII_29_Z : parseMethodDescriptor "(IIIIII)Z" = some ⟨[.int, .int, .int, .int, .int, .int], some .boolean⟩ := by decide +kernel
theorem d2_0 : decode method_4_code 0 = .ok (.iload_n 0, 1) := by decide +kernel
theorem d2_1 : decode method_4_code 1 = .ok (.iload_n 2, 1) := by decide +kernel
theorem d2_2 : decode method_4_code 2 = .ok (.iload_n 3, 1) := by decide +kernel
theorem d2_3 : decode method_4_code 3 = .ok (.iload 4, 2) := by decide +kernel
theorem d2_5 : decode method_4_code 5 = .ok (.iload 5, 2) := by decide +kernel
theorem d2_7 : decode method_4_code 7 = .ok (.iload 6, 2) := by decide +kernel
theorem d2_9 : decode method_4_code 9 = .ok (.invokestatic 19, 3) := by decide +kernel
theorem d2_12 : decode method_4_code 12 = .ok (.ifCond .eq 5, 3) := by decide +kernel
theorem d2_17 : decode method_4_code 17 = .ok (.iload_n 1, 1) := by decide +kernel
theorem d2_18 : decode method_4_code 18 = .ok (.ireturn, 1) := by decide +kernel
theorem ef_2_0 (m : MethodId) (x0 : Int32) (x1 : Int32) (x3 : Int32) (x4 : Int32) (x5 : Int32) (x6 : Int32) : entryFrame m #[(.int x0), (.int x1), (.int (0 : Int32)), (.int x3), (.int x4), (.int x5), (.int x6)] 7 = mkF m 0 #[.val (.int x0), .val (.int x1), .val (.int (0 : Int32)), .val (.int x3), .val (.int x4), .val (.int x5), .val (.int x6)] [] := by first | (simp [entryFrame, mkF, argsToLocals, Value.category]; done) | rfl
def Q2_0 (Z : State) (pp1 : Int32) (pp2 : Int32) (pp4 : Int32) (pp5 : Int32) (pp6 : Int32) (pp7 : Int32) (h0 : Heap) (n0 : Nat) (v : Option Value) (h : Heap) (L : List Loc) : Prop := v = some (.int pp2) ∧ Fr n0 L ∧ h = h0
set_option maxRecDepth 65536 in
set_option maxHeartbeats 40000000 in
theorem rm2_0 (l : Launch) (Z : State) (a0 : Array Value) (hw : ∀ d ∈ tables_1, d.before a0 Z = true) (ws : List Jvm.Cond) (pp1 : Int32) (pp2 : Int32) (pp4 : Int32) (pp5 : Int32) (pp6 : Int32) (pp7 : Int32) (h0 : Heap) (n0 : Nat) (Z0 : n0 ≤ h0.size) :
    MetFree l (⟨"com/example/splitgrain/splitgrain/parse/ChartItemsClearPlacesPinLaw", "expect", "(IIIIIII)I"⟩ : MethodName) (head1 (Jvm.Cond.code (⟨"com/example/splitgrain/splitgrain/parse/ChartItemsClearPlacesPinLaw", "expect", "(IIIIIII)I"⟩ : MethodName) method_4_code 7 (some .int) :: ws) ({ frames := 1, cells := 0, slots := 0, locals := 17 } : Room)) (fun a U => a = #[(.int pp1), (.int pp2), (.int (0 : Int32)), (.int pp4), (.int pp5), (.int pp6), (.int pp7)] ∧ Z.Warmed39 U.vm ∧ U.heap = h0) (fun _ _ _ _ _ => True) (fun _ U o U' => ∃ v L, o = .returned v ∧ Q2_0 Z pp1 pp2 pp4 pp5 pp6 pp7 h0 n0 v U'.heap L ∧ FrameEnd U o U' L ({ frames := 1, cells := 0, slots := 0, locals := 17 } : Room).cells ({ frames := 1, cells := 0, slots := 0, locals := 17 } : Room).slots) := by
  refine MetFree.of_bodySF (plainFor_of_name pn_com_example_splitgrain_splitgrain_parse_ChartItemsClearPlacesPinLaw) hisR ?_
  intro p e s m args below meth c s₁ Bd hml0 hP hK
  obtain ⟨rfl, hZ, hh⟩ := hP
  have hx := Bd.exec
  have hby := Bd.bytes
  have hml : c.maxLocals = 7 := hml0
  have hown : s.vm.findClass "com/example/splitgrain/splitgrain/parse/ChartItemsClearPlacesPinLaw" = some m.cls := findClass_of_methodNamed Bd.named
  have hnm := (name_of_methodNamed Bd.named Bd.method).1
  have X0 : Stand p l e ({ frames := 1, cells := 0, slots := 0, locals := 17 } : Room) s m #[(.int pp1), (.int pp2), (.int (0 : Int32)), (.int pp4), (.int pp5), (.int pp6), (.int pp7)] below meth c s₁ [] 0 0 := Stand.of_body Bd
  have e0 : s₁.heap = h0 := by rw [← hh, Bd.state]; rfl
  have N0 := Fr.nil n0
  have pre0 : ∀ t, Steps p.tables e below (s₁.setTop (mkF m 0 #[.val (.int pp1), .val (.int pp2), .val (.int (0 : Int32)), .val (.int pp4), .val (.int pp5), .val (.int pp6), .val (.int pp7)] [])) t → Steps p.tables e below (s₁.setTop (entryFrame m #[(.int pp1), (.int pp2), (.int (0 : Int32)), (.int pp4), (.int pp5), (.int pp6), (.int pp7)] 7)) t := fun t k => castTop (ef_2_0 m pp1 pp2 pp4 pp5 pp6 pp7) k
  obtain ⟨_, _, ⟨T1, L1, k1, n1⟩, -, X1, ⟨Lc1, hQ1, l1, y1, z1⟩, st1⟩ := Jvm.LawKit.callS X0 hx (y := (⟨"com/example/splitgrain/splitgrain/parse/ChartItemsClearPlacesPinLaw", "cleared", "(IIIIII)Z"⟩ : MethodName)) hown (mvT hZ (hw _ (List.mem_of_getElem? (i := 9) rfl))) (mvT hZ (hw _ (List.mem_of_getElem? (i := 10) rfl))) (mvT hZ (hw _ (List.mem_of_getElem? (i := 7) rfl))) (mvT hZ (hw _ (List.mem_of_getElem? (i := 11) rfl))) (by decide) (backOf (W := 0) (rm3_0 l Z a0 hw [] pp1 pp4 pp5 pp6 pp7 h0 n0 Z0 ) hZ (hw _ (List.mem_of_getElem? (i := 11) rfl)) (hw _ (List.mem_of_getElem? (i := 7) rfl)) (by decide) (by decide)) (g := (mkF m 9 #[.val (.int pp1), .val (.int pp2), .val (.int (0 : Int32)), .val (.int pp4), .val (.int pp5), .val (.int pp6), .val (.int pp7)] [(.int pp7), (.int pp6), (.int pp5), (.int pp4), (.int (0 : Int32)), (.int pp1)])) rfl (by rw [hml]; rfl) (argsL := [(.int pp1), (.int (0 : Int32)), (.int pp4), (.int pp5), (.int pp6), (.int pp7)]) (rest := []) (lenOf pd__28_IIIIII_29_Z rfl) rfl (by show 2 * 0 + _ ≤ _; exact Nat.le_of_eq rfl) (hb hby d2_9) (fun _ _ => ⟨rfl, e0, (by decide : 0 + 0 ≤ _), (by decide : 0 + 0 ≤ _)⟩)
  dsimp only [Pt.U, Pt.locs, Pt.cells, Pt.slots] at X1 l1 y1 z1 st1 hQ1
  subst l1 y1 z1
  obtain ⟨rfl, N1q, e1⟩ := hQ1
  have N1 := Fr.app N0 N1q
  have hc12 : (0 : Int32) = (0 : Int32) := by decide
  obtain ⟨fs, hr, hrun, hended, hW, hsame⟩ := X1.leave (v := some (.int pp2)) (fun h => by rw [Bd.returns] at h; cases h)
  refine ⟨_, _, pre0 _ ?_, hrun, hended, _, _, rfl, ?_, ⟨_, rfl⟩, hW, hsame.mono (by decide) (by decide)⟩
  · show Steps p.tables e below (s₁.setTop (mkF m 0 #[.val (.int pp1), .val (.int pp2), .val (.int (0 : Int32)), .val (.int pp4), .val (.int pp5), .val (.int pp6), .val (.int pp7)] [])) _
    refine XS.iloadN X0.here hx rfl (hb hby d2_0) rfl ?_
    show Steps p.tables e below (s₁.setTop (mkF m 1 #[.val (.int pp1), .val (.int pp2), .val (.int (0 : Int32)), .val (.int pp4), .val (.int pp5), .val (.int pp6), .val (.int pp7)] [(.int pp1)])) _
    refine XS.iloadN X0.here hx rfl (hb hby d2_1) rfl ?_
    show Steps p.tables e below (s₁.setTop (mkF m 2 #[.val (.int pp1), .val (.int pp2), .val (.int (0 : Int32)), .val (.int pp4), .val (.int pp5), .val (.int pp6), .val (.int pp7)] [(.int (0 : Int32)), (.int pp1)])) _
    refine XS.iloadN X0.here hx rfl (hb hby d2_2) rfl ?_
    show Steps p.tables e below (s₁.setTop (mkF m 3 #[.val (.int pp1), .val (.int pp2), .val (.int (0 : Int32)), .val (.int pp4), .val (.int pp5), .val (.int pp6), .val (.int pp7)] [(.int pp4), (.int (0 : Int32)), (.int pp1)])) _
    refine XS.iload X0.here hx rfl (hb hby d2_3) rfl ?_
    show Steps p.tables e below (s₁.setTop (mkF m 5 #[.val (.int pp1), .val (.int pp2), .val (.int (0 : Int32)), .val (.int pp4), .val (.int pp5), .val (.int pp6), .val (.int pp7)] [(.int pp5), (.int pp4), (.int (0 : Int32)), (.int pp1)])) _
    refine XS.iload X0.here hx rfl (hb hby d2_5) rfl ?_
    show Steps p.tables e below (s₁.setTop (mkF m 7 #[.val (.int pp1), .val (.int pp2), .val (.int (0 : Int32)), .val (.int pp4), .val (.int pp5), .val (.int pp6), .val (.int pp7)] [(.int pp6), (.int pp5), (.int pp4), (.int (0 : Int32)), (.int pp1)])) _
    refine XS.iload X0.here hx rfl (hb hby d2_7) rfl ?_
    show Steps p.tables e below (s₁.setTop (mkF m 9 #[.val (.int pp1), .val (.int pp2), .val (.int (0 : Int32)), .val (.int pp4), .val (.int pp5), .val (.int pp6), .val (.int pp7)] [(.int pp7), (.int pp6), (.int pp5), (.int pp4), (.int (0 : Int32)), (.int pp1)])) _
    refine st1 _ ?_
    show Steps p.tables e below (T1.setTop (mkF m 12 #[.val (.int pp1), .val (.int pp2), .val (.int (0 : Int32)), .val (.int pp4), .val (.int pp5), .val (.int pp6), .val (.int pp7)] [(.int (0 : Int32))])) _
    refine XS.ifYes X1.here hx rfl (pc0 := 12) (pc' := 17) rfl (hb hby d2_12) rfl ((if0 _ _).trans (teq hc12).1) (by decide) (by decide) ?_
    show Steps p.tables e below (T1.setTop (mkF m 17 #[.val (.int pp1), .val (.int pp2), .val (.int (0 : Int32)), .val (.int pp4), .val (.int pp5), .val (.int pp6), .val (.int pp7)] [])) _
    refine XS.iloadN X1.here hx rfl (hb hby d2_17) rfl ?_
    show Steps p.tables e below (T1.setTop (mkF m 18 #[.val (.int pp1), .val (.int pp2), .val (.int (0 : Int32)), .val (.int pp4), .val (.int pp5), .val (.int pp6), .val (.int pp7)] [(.int pp2)])) _
    exact retI X1 hx Bd.returns (hb hby d2_18) hr
  · show Q2_0 Z pp1 pp2 pp4 pp5 pp6 pp7 h0 n0 _ T1.heap _
    rw [e1]
    exact ⟨rfl, N1, rfl⟩
theorem d2_15 : decode method_4_code 15 = .ok (.iconst (-1), 1) := by decide +kernel
theorem d2_16 : decode method_4_code 16 = .ok (.ireturn, 1) := by decide +kernel
theorem ef_2_1 (m : MethodId) (x0 : Int32) (x1 : Int32) (x3 : Int32) (x4 : Int32) (x5 : Int32) (x6 : Int32) : entryFrame m #[(.int x0), (.int x1), (.int (1 : Int32)), (.int x3), (.int x4), (.int x5), (.int x6)] 7 = mkF m 0 #[.val (.int x0), .val (.int x1), .val (.int (1 : Int32)), .val (.int x3), .val (.int x4), .val (.int x5), .val (.int x6)] [] := by first | (simp [entryFrame, mkF, argsToLocals, Value.category]; done) | rfl
def Q2_1 (Z : State) (pp1 : Int32) (pp2 : Int32) (pp4 : Int32) (pp5 : Int32) (pp6 : Int32) (pp7 : Int32) (h0 : Heap) (n0 : Nat) (v : Option Value) (h : Heap) (L : List Loc) : Prop := v = some (.int (if pp4 = pp1 then (-1 : Int32) else pp2)) ∧ Fr n0 L ∧ h = h0
set_option maxRecDepth 65536 in
set_option maxHeartbeats 40000000 in
theorem rm2_1 (l : Launch) (Z : State) (a0 : Array Value) (hw : ∀ d ∈ tables_1, d.before a0 Z = true) (ws : List Jvm.Cond) (pp1 : Int32) (pp2 : Int32) (pp4 : Int32) (pp5 : Int32) (pp6 : Int32) (pp7 : Int32) (h0 : Heap) (n0 : Nat) (Z0 : n0 ≤ h0.size) :
    MetFree l (⟨"com/example/splitgrain/splitgrain/parse/ChartItemsClearPlacesPinLaw", "expect", "(IIIIIII)I"⟩ : MethodName) (head1 (Jvm.Cond.code (⟨"com/example/splitgrain/splitgrain/parse/ChartItemsClearPlacesPinLaw", "expect", "(IIIIIII)I"⟩ : MethodName) method_4_code 7 (some .int) :: ws) ({ frames := 1, cells := 0, slots := 0, locals := 17 } : Room)) (fun a U => a = #[(.int pp1), (.int pp2), (.int (1 : Int32)), (.int pp4), (.int pp5), (.int pp6), (.int pp7)] ∧ Z.Warmed39 U.vm ∧ U.heap = h0) (fun _ _ _ _ _ => True) (fun _ U o U' => ∃ v L, o = .returned v ∧ Q2_1 Z pp1 pp2 pp4 pp5 pp6 pp7 h0 n0 v U'.heap L ∧ FrameEnd U o U' L ({ frames := 1, cells := 0, slots := 0, locals := 17 } : Room).cells ({ frames := 1, cells := 0, slots := 0, locals := 17 } : Room).slots) := by
  refine MetFree.of_bodySF (plainFor_of_name pn_com_example_splitgrain_splitgrain_parse_ChartItemsClearPlacesPinLaw) hisR ?_
  intro p e s m args below meth c s₁ Bd hml0 hP hK
  obtain ⟨rfl, hZ, hh⟩ := hP
  have hx := Bd.exec
  have hby := Bd.bytes
  have hml : c.maxLocals = 7 := hml0
  have hown : s.vm.findClass "com/example/splitgrain/splitgrain/parse/ChartItemsClearPlacesPinLaw" = some m.cls := findClass_of_methodNamed Bd.named
  have hnm := (name_of_methodNamed Bd.named Bd.method).1
  have X0 : Stand p l e ({ frames := 1, cells := 0, slots := 0, locals := 17 } : Room) s m #[(.int pp1), (.int pp2), (.int (1 : Int32)), (.int pp4), (.int pp5), (.int pp6), (.int pp7)] below meth c s₁ [] 0 0 := Stand.of_body Bd
  have e0 : s₁.heap = h0 := by rw [← hh, Bd.state]; rfl
  have N0 := Fr.nil n0
  have pre0 : ∀ t, Steps p.tables e below (s₁.setTop (mkF m 0 #[.val (.int pp1), .val (.int pp2), .val (.int (1 : Int32)), .val (.int pp4), .val (.int pp5), .val (.int pp6), .val (.int pp7)] [])) t → Steps p.tables e below (s₁.setTop (entryFrame m #[(.int pp1), (.int pp2), (.int (1 : Int32)), (.int pp4), (.int pp5), (.int pp6), (.int pp7)] 7)) t := fun t k => castTop (ef_2_1 m pp1 pp2 pp4 pp5 pp6 pp7) k
  obtain ⟨_, _, ⟨T1, L1, k1, n1⟩, -, X1, ⟨Lc1, hQ1, l1, y1, z1⟩, st1⟩ := Jvm.LawKit.callS X0 hx (y := (⟨"com/example/splitgrain/splitgrain/parse/ChartItemsClearPlacesPinLaw", "cleared", "(IIIIII)Z"⟩ : MethodName)) hown (mvT hZ (hw _ (List.mem_of_getElem? (i := 9) rfl))) (mvT hZ (hw _ (List.mem_of_getElem? (i := 10) rfl))) (mvT hZ (hw _ (List.mem_of_getElem? (i := 7) rfl))) (mvT hZ (hw _ (List.mem_of_getElem? (i := 11) rfl))) (by decide) (backOf (W := 0) (rm3_1 l Z a0 hw [] pp1 pp4 pp5 pp6 pp7 h0 n0 Z0 ) hZ (hw _ (List.mem_of_getElem? (i := 11) rfl)) (hw _ (List.mem_of_getElem? (i := 7) rfl)) (by decide) (by decide)) (g := (mkF m 9 #[.val (.int pp1), .val (.int pp2), .val (.int (1 : Int32)), .val (.int pp4), .val (.int pp5), .val (.int pp6), .val (.int pp7)] [(.int pp7), (.int pp6), (.int pp5), (.int pp4), (.int (1 : Int32)), (.int pp1)])) rfl (by rw [hml]; rfl) (argsL := [(.int pp1), (.int (1 : Int32)), (.int pp4), (.int pp5), (.int pp6), (.int pp7)]) (rest := []) (lenOf pd__28_IIIIII_29_Z rfl) rfl (by show 2 * 0 + _ ≤ _; exact Nat.le_of_eq rfl) (hb hby d2_9) (fun _ _ => ⟨rfl, e0, (by decide : 0 + 0 ≤ _), (by decide : 0 + 0 ≤ _)⟩)
  dsimp only [Pt.U, Pt.locs, Pt.cells, Pt.slots] at X1 l1 y1 z1 st1 hQ1
  subst l1 y1 z1
  obtain ⟨rfl, N1q, e1⟩ := hQ1
  have N1 := Fr.app N0 N1q
  have pre2 : ∀ t, Steps p.tables e below (T1.setTop (mkF m 12 #[.val (.int pp1), .val (.int pp2), .val (.int (1 : Int32)), .val (.int pp4), .val (.int pp5), .val (.int pp6), .val (.int pp7)] [(.int (if pp4 = pp1 then (1 : Int32) else (0 : Int32)))])) t → Steps p.tables e below (s₁.setTop (entryFrame m #[(.int pp1), (.int pp2), (.int (1 : Int32)), (.int pp4), (.int pp5), (.int pp6), (.int pp7)] 7)) t := fun t kt => pre0 t (by
    show Steps p.tables e below (s₁.setTop (mkF m 0 #[.val (.int pp1), .val (.int pp2), .val (.int (1 : Int32)), .val (.int pp4), .val (.int pp5), .val (.int pp6), .val (.int pp7)] [])) _
    refine XS.iloadN X0.here hx rfl (hb hby d2_0) rfl ?_
    show Steps p.tables e below (s₁.setTop (mkF m 1 #[.val (.int pp1), .val (.int pp2), .val (.int (1 : Int32)), .val (.int pp4), .val (.int pp5), .val (.int pp6), .val (.int pp7)] [(.int pp1)])) _
    refine XS.iloadN X0.here hx rfl (hb hby d2_1) rfl ?_
    show Steps p.tables e below (s₁.setTop (mkF m 2 #[.val (.int pp1), .val (.int pp2), .val (.int (1 : Int32)), .val (.int pp4), .val (.int pp5), .val (.int pp6), .val (.int pp7)] [(.int (1 : Int32)), (.int pp1)])) _
    refine XS.iloadN X0.here hx rfl (hb hby d2_2) rfl ?_
    show Steps p.tables e below (s₁.setTop (mkF m 3 #[.val (.int pp1), .val (.int pp2), .val (.int (1 : Int32)), .val (.int pp4), .val (.int pp5), .val (.int pp6), .val (.int pp7)] [(.int pp4), (.int (1 : Int32)), (.int pp1)])) _
    refine XS.iload X0.here hx rfl (hb hby d2_3) rfl ?_
    show Steps p.tables e below (s₁.setTop (mkF m 5 #[.val (.int pp1), .val (.int pp2), .val (.int (1 : Int32)), .val (.int pp4), .val (.int pp5), .val (.int pp6), .val (.int pp7)] [(.int pp5), (.int pp4), (.int (1 : Int32)), (.int pp1)])) _
    refine XS.iload X0.here hx rfl (hb hby d2_5) rfl ?_
    show Steps p.tables e below (s₁.setTop (mkF m 7 #[.val (.int pp1), .val (.int pp2), .val (.int (1 : Int32)), .val (.int pp4), .val (.int pp5), .val (.int pp6), .val (.int pp7)] [(.int pp6), (.int pp5), (.int pp4), (.int (1 : Int32)), (.int pp1)])) _
    refine XS.iload X0.here hx rfl (hb hby d2_7) rfl ?_
    show Steps p.tables e below (s₁.setTop (mkF m 9 #[.val (.int pp1), .val (.int pp2), .val (.int (1 : Int32)), .val (.int pp4), .val (.int pp5), .val (.int pp6), .val (.int pp7)] [(.int pp7), (.int pp6), (.int pp5), (.int pp4), (.int (1 : Int32)), (.int pp1)])) _
    refine st1 _ ?_
    exact kt)
  by_cases hc12 : (if pp4 = pp1 then (1 : Int32) else (0 : Int32)) = (0 : Int32)
  · skip
    obtain ⟨fs, hr, hrun, hended, hW, hsame⟩ := X1.leave (v := some (.int pp2)) (fun h => by rw [Bd.returns] at h; cases h)
    refine ⟨_, _, pre2 _ ?_, hrun, hended, _, _, rfl, ?_, ⟨_, rfl⟩, hW, hsame.mono (by decide) (by decide)⟩
    · show Steps p.tables e below (T1.setTop (mkF m 12 #[.val (.int pp1), .val (.int pp2), .val (.int (1 : Int32)), .val (.int pp4), .val (.int pp5), .val (.int pp6), .val (.int pp7)] [(.int (if pp4 = pp1 then (1 : Int32) else (0 : Int32)))])) _
      refine XS.ifYes X1.here hx rfl (pc0 := 12) (pc' := 17) rfl (hb hby d2_12) rfl ((if0 _ _).trans (teq hc12).1) (by decide) (by decide) ?_
      show Steps p.tables e below (T1.setTop (mkF m 17 #[.val (.int pp1), .val (.int pp2), .val (.int (1 : Int32)), .val (.int pp4), .val (.int pp5), .val (.int pp6), .val (.int pp7)] [])) _
      refine XS.iloadN X1.here hx rfl (hb hby d2_17) rfl ?_
      show Steps p.tables e below (T1.setTop (mkF m 18 #[.val (.int pp1), .val (.int pp2), .val (.int (1 : Int32)), .val (.int pp4), .val (.int pp5), .val (.int pp6), .val (.int pp7)] [(.int pp2)])) _
      exact retI X1 hx Bd.returns (hb hby d2_18) hr
    · show Q2_1 Z pp1 pp2 pp4 pp5 pp6 pp7 h0 n0 _ T1.heap _
      rw [e1]
      exact ⟨(congrArg (fun z => some (Value.int z)) (own_exa1 _ _ _  hc12)), N1, rfl⟩
  · skip
    obtain ⟨fs, hr, hrun, hended, hW, hsame⟩ := X1.leave (v := some (.int (-1 : Int32))) (fun h => by rw [Bd.returns] at h; cases h)
    refine ⟨_, _, pre2 _ ?_, hrun, hended, _, _, rfl, ?_, ⟨_, rfl⟩, hW, hsame.mono (by decide) (by decide)⟩
    · show Steps p.tables e below (T1.setTop (mkF m 12 #[.val (.int pp1), .val (.int pp2), .val (.int (1 : Int32)), .val (.int pp4), .val (.int pp5), .val (.int pp6), .val (.int pp7)] [(.int (if pp4 = pp1 then (1 : Int32) else (0 : Int32)))])) _
      refine XS.ifNo X1.here hx rfl (hb hby d2_12) rfl ((if0 _ _).trans (feq hc12).1) ?_
      show Steps p.tables e below (T1.setTop (mkF m 15 #[.val (.int pp1), .val (.int pp2), .val (.int (1 : Int32)), .val (.int pp4), .val (.int pp5), .val (.int pp6), .val (.int pp7)] [])) _
      refine XS.iconst X1.here hx rfl (hb hby d2_15) ?_
      show Steps p.tables e below (T1.setTop (mkF m 16 #[.val (.int pp1), .val (.int pp2), .val (.int (1 : Int32)), .val (.int pp4), .val (.int pp5), .val (.int pp6), .val (.int pp7)] [(.int (-1 : Int32))])) _
      exact retI X1 hx Bd.returns (hb hby d2_16) hr
    · show Q2_1 Z pp1 pp2 pp4 pp5 pp6 pp7 h0 n0 _ T1.heap _
      rw [e1]
      exact ⟨(congrArg (fun z => some (Value.int z)) (own_exb1 _ _ _  hc12)), N1, rfl⟩
theorem ef_2_2 (m : MethodId) (x0 : Int32) (x1 : Int32) (x3 : Int32) (x4 : Int32) (x5 : Int32) (x6 : Int32) : entryFrame m #[(.int x0), (.int x1), (.int (2 : Int32)), (.int x3), (.int x4), (.int x5), (.int x6)] 7 = mkF m 0 #[.val (.int x0), .val (.int x1), .val (.int (2 : Int32)), .val (.int x3), .val (.int x4), .val (.int x5), .val (.int x6)] [] := by first | (simp [entryFrame, mkF, argsToLocals, Value.category]; done) | rfl
def Q2_2 (Z : State) (pp1 : Int32) (pp2 : Int32) (pp4 : Int32) (pp5 : Int32) (pp6 : Int32) (pp7 : Int32) (h0 : Heap) (n0 : Nat) (v : Option Value) (h : Heap) (L : List Loc) : Prop := v = some (.int (if pp4 = pp1 then (-1 : Int32) else (if pp5 = pp1 then (-1 : Int32) else pp2))) ∧ Fr n0 L ∧ h = h0
set_option maxRecDepth 65536 in
set_option maxHeartbeats 40000000 in
theorem rm2_2 (l : Launch) (Z : State) (a0 : Array Value) (hw : ∀ d ∈ tables_1, d.before a0 Z = true) (ws : List Jvm.Cond) (pp1 : Int32) (pp2 : Int32) (pp4 : Int32) (pp5 : Int32) (pp6 : Int32) (pp7 : Int32) (h0 : Heap) (n0 : Nat) (Z0 : n0 ≤ h0.size) :
    MetFree l (⟨"com/example/splitgrain/splitgrain/parse/ChartItemsClearPlacesPinLaw", "expect", "(IIIIIII)I"⟩ : MethodName) (head1 (Jvm.Cond.code (⟨"com/example/splitgrain/splitgrain/parse/ChartItemsClearPlacesPinLaw", "expect", "(IIIIIII)I"⟩ : MethodName) method_4_code 7 (some .int) :: ws) ({ frames := 1, cells := 0, slots := 0, locals := 17 } : Room)) (fun a U => a = #[(.int pp1), (.int pp2), (.int (2 : Int32)), (.int pp4), (.int pp5), (.int pp6), (.int pp7)] ∧ Z.Warmed39 U.vm ∧ U.heap = h0) (fun _ _ _ _ _ => True) (fun _ U o U' => ∃ v L, o = .returned v ∧ Q2_2 Z pp1 pp2 pp4 pp5 pp6 pp7 h0 n0 v U'.heap L ∧ FrameEnd U o U' L ({ frames := 1, cells := 0, slots := 0, locals := 17 } : Room).cells ({ frames := 1, cells := 0, slots := 0, locals := 17 } : Room).slots) := by
  refine MetFree.of_bodySF (plainFor_of_name pn_com_example_splitgrain_splitgrain_parse_ChartItemsClearPlacesPinLaw) hisR ?_
  intro p e s m args below meth c s₁ Bd hml0 hP hK
  obtain ⟨rfl, hZ, hh⟩ := hP
  have hx := Bd.exec
  have hby := Bd.bytes
  have hml : c.maxLocals = 7 := hml0
  have hown : s.vm.findClass "com/example/splitgrain/splitgrain/parse/ChartItemsClearPlacesPinLaw" = some m.cls := findClass_of_methodNamed Bd.named
  have hnm := (name_of_methodNamed Bd.named Bd.method).1
  have X0 : Stand p l e ({ frames := 1, cells := 0, slots := 0, locals := 17 } : Room) s m #[(.int pp1), (.int pp2), (.int (2 : Int32)), (.int pp4), (.int pp5), (.int pp6), (.int pp7)] below meth c s₁ [] 0 0 := Stand.of_body Bd
  have e0 : s₁.heap = h0 := by rw [← hh, Bd.state]; rfl
  have N0 := Fr.nil n0
  have pre0 : ∀ t, Steps p.tables e below (s₁.setTop (mkF m 0 #[.val (.int pp1), .val (.int pp2), .val (.int (2 : Int32)), .val (.int pp4), .val (.int pp5), .val (.int pp6), .val (.int pp7)] [])) t → Steps p.tables e below (s₁.setTop (entryFrame m #[(.int pp1), (.int pp2), (.int (2 : Int32)), (.int pp4), (.int pp5), (.int pp6), (.int pp7)] 7)) t := fun t k => castTop (ef_2_2 m pp1 pp2 pp4 pp5 pp6 pp7) k
  obtain ⟨_, _, ⟨T1, L1, k1, n1⟩, -, X1, ⟨Lc1, hQ1, l1, y1, z1⟩, st1⟩ := Jvm.LawKit.callS X0 hx (y := (⟨"com/example/splitgrain/splitgrain/parse/ChartItemsClearPlacesPinLaw", "cleared", "(IIIIII)Z"⟩ : MethodName)) hown (mvT hZ (hw _ (List.mem_of_getElem? (i := 9) rfl))) (mvT hZ (hw _ (List.mem_of_getElem? (i := 10) rfl))) (mvT hZ (hw _ (List.mem_of_getElem? (i := 7) rfl))) (mvT hZ (hw _ (List.mem_of_getElem? (i := 11) rfl))) (by decide) (backOf (W := 0) (rm3_2 l Z a0 hw [] pp1 pp4 pp5 pp6 pp7 h0 n0 Z0 ) hZ (hw _ (List.mem_of_getElem? (i := 11) rfl)) (hw _ (List.mem_of_getElem? (i := 7) rfl)) (by decide) (by decide)) (g := (mkF m 9 #[.val (.int pp1), .val (.int pp2), .val (.int (2 : Int32)), .val (.int pp4), .val (.int pp5), .val (.int pp6), .val (.int pp7)] [(.int pp7), (.int pp6), (.int pp5), (.int pp4), (.int (2 : Int32)), (.int pp1)])) rfl (by rw [hml]; rfl) (argsL := [(.int pp1), (.int (2 : Int32)), (.int pp4), (.int pp5), (.int pp6), (.int pp7)]) (rest := []) (lenOf pd__28_IIIIII_29_Z rfl) rfl (by show 2 * 0 + _ ≤ _; exact Nat.le_of_eq rfl) (hb hby d2_9) (fun _ _ => ⟨rfl, e0, (by decide : 0 + 0 ≤ _), (by decide : 0 + 0 ≤ _)⟩)
  dsimp only [Pt.U, Pt.locs, Pt.cells, Pt.slots] at X1 l1 y1 z1 st1 hQ1
  subst l1 y1 z1
  obtain ⟨rfl, N1q, e1⟩ := hQ1
  have N1 := Fr.app N0 N1q
  have pre2 : ∀ t, Steps p.tables e below (T1.setTop (mkF m 12 #[.val (.int pp1), .val (.int pp2), .val (.int (2 : Int32)), .val (.int pp4), .val (.int pp5), .val (.int pp6), .val (.int pp7)] [(.int (if pp4 = pp1 then (1 : Int32) else (if pp5 = pp1 then (1 : Int32) else (0 : Int32))))])) t → Steps p.tables e below (s₁.setTop (entryFrame m #[(.int pp1), (.int pp2), (.int (2 : Int32)), (.int pp4), (.int pp5), (.int pp6), (.int pp7)] 7)) t := fun t kt => pre0 t (by
    show Steps p.tables e below (s₁.setTop (mkF m 0 #[.val (.int pp1), .val (.int pp2), .val (.int (2 : Int32)), .val (.int pp4), .val (.int pp5), .val (.int pp6), .val (.int pp7)] [])) _
    refine XS.iloadN X0.here hx rfl (hb hby d2_0) rfl ?_
    show Steps p.tables e below (s₁.setTop (mkF m 1 #[.val (.int pp1), .val (.int pp2), .val (.int (2 : Int32)), .val (.int pp4), .val (.int pp5), .val (.int pp6), .val (.int pp7)] [(.int pp1)])) _
    refine XS.iloadN X0.here hx rfl (hb hby d2_1) rfl ?_
    show Steps p.tables e below (s₁.setTop (mkF m 2 #[.val (.int pp1), .val (.int pp2), .val (.int (2 : Int32)), .val (.int pp4), .val (.int pp5), .val (.int pp6), .val (.int pp7)] [(.int (2 : Int32)), (.int pp1)])) _
    refine XS.iloadN X0.here hx rfl (hb hby d2_2) rfl ?_
    show Steps p.tables e below (s₁.setTop (mkF m 3 #[.val (.int pp1), .val (.int pp2), .val (.int (2 : Int32)), .val (.int pp4), .val (.int pp5), .val (.int pp6), .val (.int pp7)] [(.int pp4), (.int (2 : Int32)), (.int pp1)])) _
    refine XS.iload X0.here hx rfl (hb hby d2_3) rfl ?_
    show Steps p.tables e below (s₁.setTop (mkF m 5 #[.val (.int pp1), .val (.int pp2), .val (.int (2 : Int32)), .val (.int pp4), .val (.int pp5), .val (.int pp6), .val (.int pp7)] [(.int pp5), (.int pp4), (.int (2 : Int32)), (.int pp1)])) _
    refine XS.iload X0.here hx rfl (hb hby d2_5) rfl ?_
    show Steps p.tables e below (s₁.setTop (mkF m 7 #[.val (.int pp1), .val (.int pp2), .val (.int (2 : Int32)), .val (.int pp4), .val (.int pp5), .val (.int pp6), .val (.int pp7)] [(.int pp6), (.int pp5), (.int pp4), (.int (2 : Int32)), (.int pp1)])) _
    refine XS.iload X0.here hx rfl (hb hby d2_7) rfl ?_
    show Steps p.tables e below (s₁.setTop (mkF m 9 #[.val (.int pp1), .val (.int pp2), .val (.int (2 : Int32)), .val (.int pp4), .val (.int pp5), .val (.int pp6), .val (.int pp7)] [(.int pp7), (.int pp6), (.int pp5), (.int pp4), (.int (2 : Int32)), (.int pp1)])) _
    refine st1 _ ?_
    exact kt)
  by_cases hc12 : (if pp4 = pp1 then (1 : Int32) else (if pp5 = pp1 then (1 : Int32) else (0 : Int32))) = (0 : Int32)
  · skip
    obtain ⟨fs, hr, hrun, hended, hW, hsame⟩ := X1.leave (v := some (.int pp2)) (fun h => by rw [Bd.returns] at h; cases h)
    refine ⟨_, _, pre2 _ ?_, hrun, hended, _, _, rfl, ?_, ⟨_, rfl⟩, hW, hsame.mono (by decide) (by decide)⟩
    · show Steps p.tables e below (T1.setTop (mkF m 12 #[.val (.int pp1), .val (.int pp2), .val (.int (2 : Int32)), .val (.int pp4), .val (.int pp5), .val (.int pp6), .val (.int pp7)] [(.int (if pp4 = pp1 then (1 : Int32) else (if pp5 = pp1 then (1 : Int32) else (0 : Int32))))])) _
      refine XS.ifYes X1.here hx rfl (pc0 := 12) (pc' := 17) rfl (hb hby d2_12) rfl ((if0 _ _).trans (teq hc12).1) (by decide) (by decide) ?_
      show Steps p.tables e below (T1.setTop (mkF m 17 #[.val (.int pp1), .val (.int pp2), .val (.int (2 : Int32)), .val (.int pp4), .val (.int pp5), .val (.int pp6), .val (.int pp7)] [])) _
      refine XS.iloadN X1.here hx rfl (hb hby d2_17) rfl ?_
      show Steps p.tables e below (T1.setTop (mkF m 18 #[.val (.int pp1), .val (.int pp2), .val (.int (2 : Int32)), .val (.int pp4), .val (.int pp5), .val (.int pp6), .val (.int pp7)] [(.int pp2)])) _
      exact retI X1 hx Bd.returns (hb hby d2_18) hr
    · show Q2_2 Z pp1 pp2 pp4 pp5 pp6 pp7 h0 n0 _ T1.heap _
      rw [e1]
      exact ⟨(congrArg (fun z => some (Value.int z)) (own_exa2 _ _ _ _  hc12)), N1, rfl⟩
  · skip
    obtain ⟨fs, hr, hrun, hended, hW, hsame⟩ := X1.leave (v := some (.int (-1 : Int32))) (fun h => by rw [Bd.returns] at h; cases h)
    refine ⟨_, _, pre2 _ ?_, hrun, hended, _, _, rfl, ?_, ⟨_, rfl⟩, hW, hsame.mono (by decide) (by decide)⟩
    · show Steps p.tables e below (T1.setTop (mkF m 12 #[.val (.int pp1), .val (.int pp2), .val (.int (2 : Int32)), .val (.int pp4), .val (.int pp5), .val (.int pp6), .val (.int pp7)] [(.int (if pp4 = pp1 then (1 : Int32) else (if pp5 = pp1 then (1 : Int32) else (0 : Int32))))])) _
      refine XS.ifNo X1.here hx rfl (hb hby d2_12) rfl ((if0 _ _).trans (feq hc12).1) ?_
      show Steps p.tables e below (T1.setTop (mkF m 15 #[.val (.int pp1), .val (.int pp2), .val (.int (2 : Int32)), .val (.int pp4), .val (.int pp5), .val (.int pp6), .val (.int pp7)] [])) _
      refine XS.iconst X1.here hx rfl (hb hby d2_15) ?_
      show Steps p.tables e below (T1.setTop (mkF m 16 #[.val (.int pp1), .val (.int pp2), .val (.int (2 : Int32)), .val (.int pp4), .val (.int pp5), .val (.int pp6), .val (.int pp7)] [(.int (-1 : Int32))])) _
      exact retI X1 hx Bd.returns (hb hby d2_16) hr
    · show Q2_2 Z pp1 pp2 pp4 pp5 pp6 pp7 h0 n0 _ T1.heap _
      rw [e1]
      exact ⟨(congrArg (fun z => some (Value.int z)) (own_exb2 _ _ _ _  hc12)), N1, rfl⟩
theorem ef_2_3 (m : MethodId) (x0 : Int32) (x1 : Int32) (x3 : Int32) (x4 : Int32) (x5 : Int32) (x6 : Int32) : entryFrame m #[(.int x0), (.int x1), (.int (3 : Int32)), (.int x3), (.int x4), (.int x5), (.int x6)] 7 = mkF m 0 #[.val (.int x0), .val (.int x1), .val (.int (3 : Int32)), .val (.int x3), .val (.int x4), .val (.int x5), .val (.int x6)] [] := by first | (simp [entryFrame, mkF, argsToLocals, Value.category]; done) | rfl
def Q2_3 (Z : State) (pp1 : Int32) (pp2 : Int32) (pp4 : Int32) (pp5 : Int32) (pp6 : Int32) (pp7 : Int32) (h0 : Heap) (n0 : Nat) (v : Option Value) (h : Heap) (L : List Loc) : Prop := v = some (.int (if pp4 = pp1 then (-1 : Int32) else (if pp5 = pp1 then (-1 : Int32) else (if pp6 = pp1 then (-1 : Int32) else pp2)))) ∧ Fr n0 L ∧ h = h0
set_option maxRecDepth 65536 in
set_option maxHeartbeats 40000000 in
theorem rm2_3 (l : Launch) (Z : State) (a0 : Array Value) (hw : ∀ d ∈ tables_1, d.before a0 Z = true) (ws : List Jvm.Cond) (pp1 : Int32) (pp2 : Int32) (pp4 : Int32) (pp5 : Int32) (pp6 : Int32) (pp7 : Int32) (h0 : Heap) (n0 : Nat) (Z0 : n0 ≤ h0.size) :
    MetFree l (⟨"com/example/splitgrain/splitgrain/parse/ChartItemsClearPlacesPinLaw", "expect", "(IIIIIII)I"⟩ : MethodName) (head1 (Jvm.Cond.code (⟨"com/example/splitgrain/splitgrain/parse/ChartItemsClearPlacesPinLaw", "expect", "(IIIIIII)I"⟩ : MethodName) method_4_code 7 (some .int) :: ws) ({ frames := 1, cells := 0, slots := 0, locals := 17 } : Room)) (fun a U => a = #[(.int pp1), (.int pp2), (.int (3 : Int32)), (.int pp4), (.int pp5), (.int pp6), (.int pp7)] ∧ Z.Warmed39 U.vm ∧ U.heap = h0) (fun _ _ _ _ _ => True) (fun _ U o U' => ∃ v L, o = .returned v ∧ Q2_3 Z pp1 pp2 pp4 pp5 pp6 pp7 h0 n0 v U'.heap L ∧ FrameEnd U o U' L ({ frames := 1, cells := 0, slots := 0, locals := 17 } : Room).cells ({ frames := 1, cells := 0, slots := 0, locals := 17 } : Room).slots) := by
  refine MetFree.of_bodySF (plainFor_of_name pn_com_example_splitgrain_splitgrain_parse_ChartItemsClearPlacesPinLaw) hisR ?_
  intro p e s m args below meth c s₁ Bd hml0 hP hK
  obtain ⟨rfl, hZ, hh⟩ := hP
  have hx := Bd.exec
  have hby := Bd.bytes
  have hml : c.maxLocals = 7 := hml0
  have hown : s.vm.findClass "com/example/splitgrain/splitgrain/parse/ChartItemsClearPlacesPinLaw" = some m.cls := findClass_of_methodNamed Bd.named
  have hnm := (name_of_methodNamed Bd.named Bd.method).1
  have X0 : Stand p l e ({ frames := 1, cells := 0, slots := 0, locals := 17 } : Room) s m #[(.int pp1), (.int pp2), (.int (3 : Int32)), (.int pp4), (.int pp5), (.int pp6), (.int pp7)] below meth c s₁ [] 0 0 := Stand.of_body Bd
  have e0 : s₁.heap = h0 := by rw [← hh, Bd.state]; rfl
  have N0 := Fr.nil n0
  have pre0 : ∀ t, Steps p.tables e below (s₁.setTop (mkF m 0 #[.val (.int pp1), .val (.int pp2), .val (.int (3 : Int32)), .val (.int pp4), .val (.int pp5), .val (.int pp6), .val (.int pp7)] [])) t → Steps p.tables e below (s₁.setTop (entryFrame m #[(.int pp1), (.int pp2), (.int (3 : Int32)), (.int pp4), (.int pp5), (.int pp6), (.int pp7)] 7)) t := fun t k => castTop (ef_2_3 m pp1 pp2 pp4 pp5 pp6 pp7) k
  obtain ⟨_, _, ⟨T1, L1, k1, n1⟩, -, X1, ⟨Lc1, hQ1, l1, y1, z1⟩, st1⟩ := Jvm.LawKit.callS X0 hx (y := (⟨"com/example/splitgrain/splitgrain/parse/ChartItemsClearPlacesPinLaw", "cleared", "(IIIIII)Z"⟩ : MethodName)) hown (mvT hZ (hw _ (List.mem_of_getElem? (i := 9) rfl))) (mvT hZ (hw _ (List.mem_of_getElem? (i := 10) rfl))) (mvT hZ (hw _ (List.mem_of_getElem? (i := 7) rfl))) (mvT hZ (hw _ (List.mem_of_getElem? (i := 11) rfl))) (by decide) (backOf (W := 0) (rm3_3 l Z a0 hw [] pp1 pp4 pp5 pp6 pp7 h0 n0 Z0 ) hZ (hw _ (List.mem_of_getElem? (i := 11) rfl)) (hw _ (List.mem_of_getElem? (i := 7) rfl)) (by decide) (by decide)) (g := (mkF m 9 #[.val (.int pp1), .val (.int pp2), .val (.int (3 : Int32)), .val (.int pp4), .val (.int pp5), .val (.int pp6), .val (.int pp7)] [(.int pp7), (.int pp6), (.int pp5), (.int pp4), (.int (3 : Int32)), (.int pp1)])) rfl (by rw [hml]; rfl) (argsL := [(.int pp1), (.int (3 : Int32)), (.int pp4), (.int pp5), (.int pp6), (.int pp7)]) (rest := []) (lenOf pd__28_IIIIII_29_Z rfl) rfl (by show 2 * 0 + _ ≤ _; exact Nat.le_of_eq rfl) (hb hby d2_9) (fun _ _ => ⟨rfl, e0, (by decide : 0 + 0 ≤ _), (by decide : 0 + 0 ≤ _)⟩)
  dsimp only [Pt.U, Pt.locs, Pt.cells, Pt.slots] at X1 l1 y1 z1 st1 hQ1
  subst l1 y1 z1
  obtain ⟨rfl, N1q, e1⟩ := hQ1
  have N1 := Fr.app N0 N1q
  have pre2 : ∀ t, Steps p.tables e below (T1.setTop (mkF m 12 #[.val (.int pp1), .val (.int pp2), .val (.int (3 : Int32)), .val (.int pp4), .val (.int pp5), .val (.int pp6), .val (.int pp7)] [(.int (if pp4 = pp1 then (1 : Int32) else (if pp5 = pp1 then (1 : Int32) else (if pp6 = pp1 then (1 : Int32) else (0 : Int32)))))])) t → Steps p.tables e below (s₁.setTop (entryFrame m #[(.int pp1), (.int pp2), (.int (3 : Int32)), (.int pp4), (.int pp5), (.int pp6), (.int pp7)] 7)) t := fun t kt => pre0 t (by
    show Steps p.tables e below (s₁.setTop (mkF m 0 #[.val (.int pp1), .val (.int pp2), .val (.int (3 : Int32)), .val (.int pp4), .val (.int pp5), .val (.int pp6), .val (.int pp7)] [])) _
    refine XS.iloadN X0.here hx rfl (hb hby d2_0) rfl ?_
    show Steps p.tables e below (s₁.setTop (mkF m 1 #[.val (.int pp1), .val (.int pp2), .val (.int (3 : Int32)), .val (.int pp4), .val (.int pp5), .val (.int pp6), .val (.int pp7)] [(.int pp1)])) _
    refine XS.iloadN X0.here hx rfl (hb hby d2_1) rfl ?_
    show Steps p.tables e below (s₁.setTop (mkF m 2 #[.val (.int pp1), .val (.int pp2), .val (.int (3 : Int32)), .val (.int pp4), .val (.int pp5), .val (.int pp6), .val (.int pp7)] [(.int (3 : Int32)), (.int pp1)])) _
    refine XS.iloadN X0.here hx rfl (hb hby d2_2) rfl ?_
    show Steps p.tables e below (s₁.setTop (mkF m 3 #[.val (.int pp1), .val (.int pp2), .val (.int (3 : Int32)), .val (.int pp4), .val (.int pp5), .val (.int pp6), .val (.int pp7)] [(.int pp4), (.int (3 : Int32)), (.int pp1)])) _
    refine XS.iload X0.here hx rfl (hb hby d2_3) rfl ?_
    show Steps p.tables e below (s₁.setTop (mkF m 5 #[.val (.int pp1), .val (.int pp2), .val (.int (3 : Int32)), .val (.int pp4), .val (.int pp5), .val (.int pp6), .val (.int pp7)] [(.int pp5), (.int pp4), (.int (3 : Int32)), (.int pp1)])) _
    refine XS.iload X0.here hx rfl (hb hby d2_5) rfl ?_
    show Steps p.tables e below (s₁.setTop (mkF m 7 #[.val (.int pp1), .val (.int pp2), .val (.int (3 : Int32)), .val (.int pp4), .val (.int pp5), .val (.int pp6), .val (.int pp7)] [(.int pp6), (.int pp5), (.int pp4), (.int (3 : Int32)), (.int pp1)])) _
    refine XS.iload X0.here hx rfl (hb hby d2_7) rfl ?_
    show Steps p.tables e below (s₁.setTop (mkF m 9 #[.val (.int pp1), .val (.int pp2), .val (.int (3 : Int32)), .val (.int pp4), .val (.int pp5), .val (.int pp6), .val (.int pp7)] [(.int pp7), (.int pp6), (.int pp5), (.int pp4), (.int (3 : Int32)), (.int pp1)])) _
    refine st1 _ ?_
    exact kt)
  by_cases hc12 : (if pp4 = pp1 then (1 : Int32) else (if pp5 = pp1 then (1 : Int32) else (if pp6 = pp1 then (1 : Int32) else (0 : Int32)))) = (0 : Int32)
  · skip
    obtain ⟨fs, hr, hrun, hended, hW, hsame⟩ := X1.leave (v := some (.int pp2)) (fun h => by rw [Bd.returns] at h; cases h)
    refine ⟨_, _, pre2 _ ?_, hrun, hended, _, _, rfl, ?_, ⟨_, rfl⟩, hW, hsame.mono (by decide) (by decide)⟩
    · show Steps p.tables e below (T1.setTop (mkF m 12 #[.val (.int pp1), .val (.int pp2), .val (.int (3 : Int32)), .val (.int pp4), .val (.int pp5), .val (.int pp6), .val (.int pp7)] [(.int (if pp4 = pp1 then (1 : Int32) else (if pp5 = pp1 then (1 : Int32) else (if pp6 = pp1 then (1 : Int32) else (0 : Int32)))))])) _
      refine XS.ifYes X1.here hx rfl (pc0 := 12) (pc' := 17) rfl (hb hby d2_12) rfl ((if0 _ _).trans (teq hc12).1) (by decide) (by decide) ?_
      show Steps p.tables e below (T1.setTop (mkF m 17 #[.val (.int pp1), .val (.int pp2), .val (.int (3 : Int32)), .val (.int pp4), .val (.int pp5), .val (.int pp6), .val (.int pp7)] [])) _
      refine XS.iloadN X1.here hx rfl (hb hby d2_17) rfl ?_
      show Steps p.tables e below (T1.setTop (mkF m 18 #[.val (.int pp1), .val (.int pp2), .val (.int (3 : Int32)), .val (.int pp4), .val (.int pp5), .val (.int pp6), .val (.int pp7)] [(.int pp2)])) _
      exact retI X1 hx Bd.returns (hb hby d2_18) hr
    · show Q2_3 Z pp1 pp2 pp4 pp5 pp6 pp7 h0 n0 _ T1.heap _
      rw [e1]
      exact ⟨(congrArg (fun z => some (Value.int z)) (own_exa3 _ _ _ _ _  hc12)), N1, rfl⟩
  · skip
    obtain ⟨fs, hr, hrun, hended, hW, hsame⟩ := X1.leave (v := some (.int (-1 : Int32))) (fun h => by rw [Bd.returns] at h; cases h)
    refine ⟨_, _, pre2 _ ?_, hrun, hended, _, _, rfl, ?_, ⟨_, rfl⟩, hW, hsame.mono (by decide) (by decide)⟩
    · show Steps p.tables e below (T1.setTop (mkF m 12 #[.val (.int pp1), .val (.int pp2), .val (.int (3 : Int32)), .val (.int pp4), .val (.int pp5), .val (.int pp6), .val (.int pp7)] [(.int (if pp4 = pp1 then (1 : Int32) else (if pp5 = pp1 then (1 : Int32) else (if pp6 = pp1 then (1 : Int32) else (0 : Int32)))))])) _
      refine XS.ifNo X1.here hx rfl (hb hby d2_12) rfl ((if0 _ _).trans (feq hc12).1) ?_
      show Steps p.tables e below (T1.setTop (mkF m 15 #[.val (.int pp1), .val (.int pp2), .val (.int (3 : Int32)), .val (.int pp4), .val (.int pp5), .val (.int pp6), .val (.int pp7)] [])) _
      refine XS.iconst X1.here hx rfl (hb hby d2_15) ?_
      show Steps p.tables e below (T1.setTop (mkF m 16 #[.val (.int pp1), .val (.int pp2), .val (.int (3 : Int32)), .val (.int pp4), .val (.int pp5), .val (.int pp6), .val (.int pp7)] [(.int (-1 : Int32))])) _
      exact retI X1 hx Bd.returns (hb hby d2_16) hr
    · show Q2_3 Z pp1 pp2 pp4 pp5 pp6 pp7 h0 n0 _ T1.heap _
      rw [e1]
      exact ⟨(congrArg (fun z => some (Value.int z)) (own_exb3 _ _ _ _ _  hc12)), N1, rfl⟩
theorem ef_2_4 (m : MethodId) (x0 : Int32) (x1 : Int32) (x3 : Int32) (x4 : Int32) (x5 : Int32) (x6 : Int32) : entryFrame m #[(.int x0), (.int x1), (.int (4 : Int32)), (.int x3), (.int x4), (.int x5), (.int x6)] 7 = mkF m 0 #[.val (.int x0), .val (.int x1), .val (.int (4 : Int32)), .val (.int x3), .val (.int x4), .val (.int x5), .val (.int x6)] [] := by first | (simp [entryFrame, mkF, argsToLocals, Value.category]; done) | rfl
def Q2_4 (Z : State) (pp1 : Int32) (pp2 : Int32) (pp4 : Int32) (pp5 : Int32) (pp6 : Int32) (pp7 : Int32) (h0 : Heap) (n0 : Nat) (v : Option Value) (h : Heap) (L : List Loc) : Prop := v = some (.int (if pp4 = pp1 then (-1 : Int32) else (if pp5 = pp1 then (-1 : Int32) else (if pp6 = pp1 then (-1 : Int32) else (if pp7 = pp1 then (-1 : Int32) else pp2))))) ∧ Fr n0 L ∧ h = h0
set_option maxRecDepth 65536 in
set_option maxHeartbeats 40000000 in
theorem rm2_4 (l : Launch) (Z : State) (a0 : Array Value) (hw : ∀ d ∈ tables_1, d.before a0 Z = true) (ws : List Jvm.Cond) (pp1 : Int32) (pp2 : Int32) (pp4 : Int32) (pp5 : Int32) (pp6 : Int32) (pp7 : Int32) (h0 : Heap) (n0 : Nat) (Z0 : n0 ≤ h0.size) :
    MetFree l (⟨"com/example/splitgrain/splitgrain/parse/ChartItemsClearPlacesPinLaw", "expect", "(IIIIIII)I"⟩ : MethodName) (head1 (Jvm.Cond.code (⟨"com/example/splitgrain/splitgrain/parse/ChartItemsClearPlacesPinLaw", "expect", "(IIIIIII)I"⟩ : MethodName) method_4_code 7 (some .int) :: ws) ({ frames := 1, cells := 0, slots := 0, locals := 17 } : Room)) (fun a U => a = #[(.int pp1), (.int pp2), (.int (4 : Int32)), (.int pp4), (.int pp5), (.int pp6), (.int pp7)] ∧ Z.Warmed39 U.vm ∧ U.heap = h0) (fun _ _ _ _ _ => True) (fun _ U o U' => ∃ v L, o = .returned v ∧ Q2_4 Z pp1 pp2 pp4 pp5 pp6 pp7 h0 n0 v U'.heap L ∧ FrameEnd U o U' L ({ frames := 1, cells := 0, slots := 0, locals := 17 } : Room).cells ({ frames := 1, cells := 0, slots := 0, locals := 17 } : Room).slots) := by
  refine MetFree.of_bodySF (plainFor_of_name pn_com_example_splitgrain_splitgrain_parse_ChartItemsClearPlacesPinLaw) hisR ?_
  intro p e s m args below meth c s₁ Bd hml0 hP hK
  obtain ⟨rfl, hZ, hh⟩ := hP
  have hx := Bd.exec
  have hby := Bd.bytes
  have hml : c.maxLocals = 7 := hml0
  have hown : s.vm.findClass "com/example/splitgrain/splitgrain/parse/ChartItemsClearPlacesPinLaw" = some m.cls := findClass_of_methodNamed Bd.named
  have hnm := (name_of_methodNamed Bd.named Bd.method).1
  have X0 : Stand p l e ({ frames := 1, cells := 0, slots := 0, locals := 17 } : Room) s m #[(.int pp1), (.int pp2), (.int (4 : Int32)), (.int pp4), (.int pp5), (.int pp6), (.int pp7)] below meth c s₁ [] 0 0 := Stand.of_body Bd
  have e0 : s₁.heap = h0 := by rw [← hh, Bd.state]; rfl
  have N0 := Fr.nil n0
  have pre0 : ∀ t, Steps p.tables e below (s₁.setTop (mkF m 0 #[.val (.int pp1), .val (.int pp2), .val (.int (4 : Int32)), .val (.int pp4), .val (.int pp5), .val (.int pp6), .val (.int pp7)] [])) t → Steps p.tables e below (s₁.setTop (entryFrame m #[(.int pp1), (.int pp2), (.int (4 : Int32)), (.int pp4), (.int pp5), (.int pp6), (.int pp7)] 7)) t := fun t k => castTop (ef_2_4 m pp1 pp2 pp4 pp5 pp6 pp7) k
  obtain ⟨_, _, ⟨T1, L1, k1, n1⟩, -, X1, ⟨Lc1, hQ1, l1, y1, z1⟩, st1⟩ := Jvm.LawKit.callS X0 hx (y := (⟨"com/example/splitgrain/splitgrain/parse/ChartItemsClearPlacesPinLaw", "cleared", "(IIIIII)Z"⟩ : MethodName)) hown (mvT hZ (hw _ (List.mem_of_getElem? (i := 9) rfl))) (mvT hZ (hw _ (List.mem_of_getElem? (i := 10) rfl))) (mvT hZ (hw _ (List.mem_of_getElem? (i := 7) rfl))) (mvT hZ (hw _ (List.mem_of_getElem? (i := 11) rfl))) (by decide) (backOf (W := 0) (rm3_4 l Z a0 hw [] pp1 pp4 pp5 pp6 pp7 h0 n0 Z0 ) hZ (hw _ (List.mem_of_getElem? (i := 11) rfl)) (hw _ (List.mem_of_getElem? (i := 7) rfl)) (by decide) (by decide)) (g := (mkF m 9 #[.val (.int pp1), .val (.int pp2), .val (.int (4 : Int32)), .val (.int pp4), .val (.int pp5), .val (.int pp6), .val (.int pp7)] [(.int pp7), (.int pp6), (.int pp5), (.int pp4), (.int (4 : Int32)), (.int pp1)])) rfl (by rw [hml]; rfl) (argsL := [(.int pp1), (.int (4 : Int32)), (.int pp4), (.int pp5), (.int pp6), (.int pp7)]) (rest := []) (lenOf pd__28_IIIIII_29_Z rfl) rfl (by show 2 * 0 + _ ≤ _; exact Nat.le_of_eq rfl) (hb hby d2_9) (fun _ _ => ⟨rfl, e0, (by decide : 0 + 0 ≤ _), (by decide : 0 + 0 ≤ _)⟩)
  dsimp only [Pt.U, Pt.locs, Pt.cells, Pt.slots] at X1 l1 y1 z1 st1 hQ1
  subst l1 y1 z1
  obtain ⟨rfl, N1q, e1⟩ := hQ1
  have N1 := Fr.app N0 N1q
  have pre2 : ∀ t, Steps p.tables e below (T1.setTop (mkF m 12 #[.val (.int pp1), .val (.int pp2), .val (.int (4 : Int32)), .val (.int pp4), .val (.int pp5), .val (.int pp6), .val (.int pp7)] [(.int (if pp4 = pp1 then (1 : Int32) else (if pp5 = pp1 then (1 : Int32) else (if pp6 = pp1 then (1 : Int32) else (if pp7 = pp1 then (1 : Int32) else (0 : Int32))))))])) t → Steps p.tables e below (s₁.setTop (entryFrame m #[(.int pp1), (.int pp2), (.int (4 : Int32)), (.int pp4), (.int pp5), (.int pp6), (.int pp7)] 7)) t := fun t kt => pre0 t (by
    show Steps p.tables e below (s₁.setTop (mkF m 0 #[.val (.int pp1), .val (.int pp2), .val (.int (4 : Int32)), .val (.int pp4), .val (.int pp5), .val (.int pp6), .val (.int pp7)] [])) _
    refine XS.iloadN X0.here hx rfl (hb hby d2_0) rfl ?_
    show Steps p.tables e below (s₁.setTop (mkF m 1 #[.val (.int pp1), .val (.int pp2), .val (.int (4 : Int32)), .val (.int pp4), .val (.int pp5), .val (.int pp6), .val (.int pp7)] [(.int pp1)])) _
    refine XS.iloadN X0.here hx rfl (hb hby d2_1) rfl ?_
    show Steps p.tables e below (s₁.setTop (mkF m 2 #[.val (.int pp1), .val (.int pp2), .val (.int (4 : Int32)), .val (.int pp4), .val (.int pp5), .val (.int pp6), .val (.int pp7)] [(.int (4 : Int32)), (.int pp1)])) _
    refine XS.iloadN X0.here hx rfl (hb hby d2_2) rfl ?_
    show Steps p.tables e below (s₁.setTop (mkF m 3 #[.val (.int pp1), .val (.int pp2), .val (.int (4 : Int32)), .val (.int pp4), .val (.int pp5), .val (.int pp6), .val (.int pp7)] [(.int pp4), (.int (4 : Int32)), (.int pp1)])) _
    refine XS.iload X0.here hx rfl (hb hby d2_3) rfl ?_
    show Steps p.tables e below (s₁.setTop (mkF m 5 #[.val (.int pp1), .val (.int pp2), .val (.int (4 : Int32)), .val (.int pp4), .val (.int pp5), .val (.int pp6), .val (.int pp7)] [(.int pp5), (.int pp4), (.int (4 : Int32)), (.int pp1)])) _
    refine XS.iload X0.here hx rfl (hb hby d2_5) rfl ?_
    show Steps p.tables e below (s₁.setTop (mkF m 7 #[.val (.int pp1), .val (.int pp2), .val (.int (4 : Int32)), .val (.int pp4), .val (.int pp5), .val (.int pp6), .val (.int pp7)] [(.int pp6), (.int pp5), (.int pp4), (.int (4 : Int32)), (.int pp1)])) _
    refine XS.iload X0.here hx rfl (hb hby d2_7) rfl ?_
    show Steps p.tables e below (s₁.setTop (mkF m 9 #[.val (.int pp1), .val (.int pp2), .val (.int (4 : Int32)), .val (.int pp4), .val (.int pp5), .val (.int pp6), .val (.int pp7)] [(.int pp7), (.int pp6), (.int pp5), (.int pp4), (.int (4 : Int32)), (.int pp1)])) _
    refine st1 _ ?_
    exact kt)
  by_cases hc12 : (if pp4 = pp1 then (1 : Int32) else (if pp5 = pp1 then (1 : Int32) else (if pp6 = pp1 then (1 : Int32) else (if pp7 = pp1 then (1 : Int32) else (0 : Int32))))) = (0 : Int32)
  · skip
    obtain ⟨fs, hr, hrun, hended, hW, hsame⟩ := X1.leave (v := some (.int pp2)) (fun h => by rw [Bd.returns] at h; cases h)
    refine ⟨_, _, pre2 _ ?_, hrun, hended, _, _, rfl, ?_, ⟨_, rfl⟩, hW, hsame.mono (by decide) (by decide)⟩
    · show Steps p.tables e below (T1.setTop (mkF m 12 #[.val (.int pp1), .val (.int pp2), .val (.int (4 : Int32)), .val (.int pp4), .val (.int pp5), .val (.int pp6), .val (.int pp7)] [(.int (if pp4 = pp1 then (1 : Int32) else (if pp5 = pp1 then (1 : Int32) else (if pp6 = pp1 then (1 : Int32) else (if pp7 = pp1 then (1 : Int32) else (0 : Int32))))))])) _
      refine XS.ifYes X1.here hx rfl (pc0 := 12) (pc' := 17) rfl (hb hby d2_12) rfl ((if0 _ _).trans (teq hc12).1) (by decide) (by decide) ?_
      show Steps p.tables e below (T1.setTop (mkF m 17 #[.val (.int pp1), .val (.int pp2), .val (.int (4 : Int32)), .val (.int pp4), .val (.int pp5), .val (.int pp6), .val (.int pp7)] [])) _
      refine XS.iloadN X1.here hx rfl (hb hby d2_17) rfl ?_
      show Steps p.tables e below (T1.setTop (mkF m 18 #[.val (.int pp1), .val (.int pp2), .val (.int (4 : Int32)), .val (.int pp4), .val (.int pp5), .val (.int pp6), .val (.int pp7)] [(.int pp2)])) _
      exact retI X1 hx Bd.returns (hb hby d2_18) hr
    · show Q2_4 Z pp1 pp2 pp4 pp5 pp6 pp7 h0 n0 _ T1.heap _
      rw [e1]
      exact ⟨(congrArg (fun z => some (Value.int z)) (own_exa4 _ _ _ _ _ _  hc12)), N1, rfl⟩
  · skip
    obtain ⟨fs, hr, hrun, hended, hW, hsame⟩ := X1.leave (v := some (.int (-1 : Int32))) (fun h => by rw [Bd.returns] at h; cases h)
    refine ⟨_, _, pre2 _ ?_, hrun, hended, _, _, rfl, ?_, ⟨_, rfl⟩, hW, hsame.mono (by decide) (by decide)⟩
    · show Steps p.tables e below (T1.setTop (mkF m 12 #[.val (.int pp1), .val (.int pp2), .val (.int (4 : Int32)), .val (.int pp4), .val (.int pp5), .val (.int pp6), .val (.int pp7)] [(.int (if pp4 = pp1 then (1 : Int32) else (if pp5 = pp1 then (1 : Int32) else (if pp6 = pp1 then (1 : Int32) else (if pp7 = pp1 then (1 : Int32) else (0 : Int32))))))])) _
      refine XS.ifNo X1.here hx rfl (hb hby d2_12) rfl ((if0 _ _).trans (feq hc12).1) ?_
      show Steps p.tables e below (T1.setTop (mkF m 15 #[.val (.int pp1), .val (.int pp2), .val (.int (4 : Int32)), .val (.int pp4), .val (.int pp5), .val (.int pp6), .val (.int pp7)] [])) _
      refine XS.iconst X1.here hx rfl (hb hby d2_15) ?_
      show Steps p.tables e below (T1.setTop (mkF m 16 #[.val (.int pp1), .val (.int pp2), .val (.int (4 : Int32)), .val (.int pp4), .val (.int pp5), .val (.int pp6), .val (.int pp7)] [(.int (-1 : Int32))])) _
      exact retI X1 hx Bd.returns (hb hby d2_16) hr
    · show Q2_4 Z pp1 pp2 pp4 pp5 pp6 pp7 h0 n0 _ T1.heap _
      rw [e1]
      exact ⟨(congrArg (fun z => some (Value.int z)) (own_exb4 _ _ _ _ _ _  hc12)), N1, rfl⟩
theorem pn_com_example_splitgrain_splitgrain_parse_ChartItems : plainName "com/example/splitgrain/splitgrain/parse/ChartItems" = true := by first | (simp [plainName, overriddenIn]; done) | decide +kernel
theorem d1_0 : decode prog_31_method_9_code 0 = .ok (.aload_n 0, 1) := by decide +kernel
theorem d1_1 : decode prog_31_method_9_code 1 = .ok (.astore_n 2, 1) := by decide +kernel
theorem d1_2 : decode prog_31_method_9_code 2 = .ok (.aload_n 2, 1) := by decide +kernel
theorem d1_3 : decode prog_31_method_9_code 3 = .ok (.arraylength, 1) := by decide +kernel
theorem d1_4 : decode prog_31_method_9_code 4 = .ok (.istore_n 3, 1) := by decide +kernel
theorem d1_5 : decode prog_31_method_9_code 5 = .ok (.iconst 0, 1) := by decide +kernel
theorem d1_6 : decode prog_31_method_9_code 6 = .ok (.istore 4, 2) := by decide +kernel
theorem d1_8 : decode prog_31_method_9_code 8 = .ok (.iload 4, 2) := by decide +kernel
theorem d1_10 : decode prog_31_method_9_code 10 = .ok (.iload_n 3, 1) := by decide +kernel
theorem d1_11 : decode prog_31_method_9_code 11 = .ok (.if_icmp .ge 20, 3) := by decide +kernel
theorem d1_31 : decode prog_31_method_9_code 31 = .ok (.return_, 1) := by decide +kernel
theorem ef_1_0 (m : MethodId) (x0 : Addr) (x1 : Addr) : entryFrame m #[(.ref x0), (.ref x1)] 6 = mkF m 0 #[.val (.ref x0), .val (.ref x1), .unset, .unset, .unset, .unset] [] := by first | (simp [entryFrame, mkF, argsToLocals, Value.category]; done) | rfl
def Q1_0 (Z : State) (aa1 : Addr) (aa2 : Addr) (ki : ClassId) (kp : ClassId) (vx : List Value) (h0 : Heap) (n0 : Nat) (v : Option Value) (h : Heap) (L : List Loc) : Prop := v = none ∧ Fr n0 L ∧ Keep h0 h [aa2] ∧ (Arv Z h aa2 kp .int (4 : Int32) vx (.int (0 : Int32)))
set_option maxRecDepth 65536 in
set_option maxHeartbeats 40000000 in
theorem rm1_0 (l : Launch) (Z : State) (a0 : Array Value) (hw : ∀ d ∈ tables_1, d.before a0 Z = true) (ws : List Jvm.Cond) (aa1 : Addr) (aa2 : Addr) (ki : ClassId) (kp : ClassId) (vx : List Value) (h0 : Heap) (n0 : Nat) (Z0 : n0 ≤ h0.size) (V_aa1 : Arv Z h0 aa1 ki .int (0 : Int32) [] (.int (0 : Int32))) (V_aa2 : Arv Z h0 aa2 kp .int (4 : Int32) vx (.int (0 : Int32))) (g_aa2 : n0 ≤ aa2) (ne_aa1_aa2 : aa1 ≠ aa2) (hl : vx.length = 4) :
    MetFree l (⟨"com/example/splitgrain/splitgrain/parse/ChartItems", "clearPlaces", "([I[I)V"⟩ : MethodName) (head1 (Jvm.Cond.code (⟨"com/example/splitgrain/splitgrain/parse/ChartItems", "clearPlaces", "([I[I)V"⟩ : MethodName) prog_31_method_9_code 6 none :: ws) ({ frames := 0, cells := 0, slots := 0, locals := 0 } : Room)) (fun a U => a = #[(.ref aa1), (.ref aa2)] ∧ Z.Warmed39 U.vm ∧ U.heap = h0) (fun _ _ _ _ _ => True) (fun _ U o U' => ∃ v L, o = .returned v ∧ Q1_0 Z aa1 aa2 ki kp vx h0 n0 v U'.heap L ∧ FrameEnd U o U' L ({ frames := 0, cells := 0, slots := 0, locals := 0 } : Room).cells ({ frames := 0, cells := 0, slots := 0, locals := 0 } : Room).slots) := by
  refine MetFree.of_bodySF (plainFor_of_name pn_com_example_splitgrain_splitgrain_parse_ChartItems) hisR ?_
  intro p e s m args below meth c s₁ Bd hml0 hP hK
  obtain ⟨rfl, hZ, hh⟩ := hP
  have hx := Bd.exec
  have hby := Bd.bytes
  have hml : c.maxLocals = 6 := hml0
  have hown : s.vm.findClass "com/example/splitgrain/splitgrain/parse/ChartItems" = some m.cls := findClass_of_methodNamed Bd.named
  have hnm := (name_of_methodNamed Bd.named Bd.method).1
  have X0 : Stand p l e ({ frames := 0, cells := 0, slots := 0, locals := 0 } : Room) s m #[(.ref aa1), (.ref aa2)] below meth c s₁ [] 0 0 := Stand.of_body Bd
  have e0 : s₁.heap = h0 := by rw [← hh, Bd.state]; rfl
  have N0 := Fr.nil n0
  have pre0 : ∀ t, Steps p.tables e below (s₁.setTop (mkF m 0 #[.val (.ref aa1), .val (.ref aa2), .unset, .unset, .unset, .unset] [])) t → Steps p.tables e below (s₁.setTop (entryFrame m #[(.ref aa1), (.ref aa2)] 6)) t := fun t k => castTop (ef_1_0 m aa1 aa2) k
  obtain ⟨cl_1, Ar_1, -, Sz_1, Nn_1, -, -⟩ := id V_aa1
  have hc11 : ¬ ((0 : Int32) < (0 : Int32)) := by decide
  obtain ⟨fs, hr, hrun, hended, hW, hsame⟩ := X0.leave (v := none) (fun _ => rfl)
  refine ⟨_, _, pre0 _ ?_, hrun, hended, _, _, rfl, ?_, ⟨_, rfl⟩, hW, hsame.mono (by decide) (by decide)⟩
  · show Steps p.tables e below (s₁.setTop (mkF m 0 #[.val (.ref aa1), .val (.ref aa2), .unset, .unset, .unset, .unset] [])) _
    refine XS.aloadN X0.here hx rfl (hb hby d1_0) rfl rfl ?_
    show Steps p.tables e below (s₁.setTop (mkF m 1 #[.val (.ref aa1), .val (.ref aa2), .unset, .unset, .unset, .unset] [(.ref aa1)])) _
    refine XS.astoreN X0.here hx rfl (hb hby d1_1) rfl rfl (l' := #[.val (.ref aa1), .val (.ref aa2), .val (.ref aa1), .unset, .unset, .unset]) rfl ?_
    show Steps p.tables e below (s₁.setTop (mkF m 2 #[.val (.ref aa1), .val (.ref aa2), .val (.ref aa1), .unset, .unset, .unset] [])) _
    refine XS.aloadN X0.here hx rfl (hb hby d1_2) rfl rfl ?_
    show Steps p.tables e below (s₁.setTop (mkF m 3 #[.val (.ref aa1), .val (.ref aa2), .val (.ref aa1), .unset, .unset, .unset] [(.ref aa1)])) _
    refine X0.arraylength hx (by rw [e0]; exact Ar_1.1) (State.isArrayOf_alike hZ.alike Ar_1.2.1) (g := (mkF m 3 #[.val (.ref aa1), .val (.ref aa2), .val (.ref aa1), .unset, .unset, .unset] [(.ref aa1)])) rfl rfl (hb hby d1_3) _ ?_
    rw [len_of Sz_1 Nn_1]
    show Steps p.tables e below (s₁.setTop (mkF m 4 #[.val (.ref aa1), .val (.ref aa2), .val (.ref aa1), .unset, .unset, .unset] [(.int (0 : Int32))])) _
    refine XS.istoreN X0.here hx rfl (hb hby d1_4) rfl (l' := #[.val (.ref aa1), .val (.ref aa2), .val (.ref aa1), .val (.int (0 : Int32)), .unset, .unset]) rfl ?_
    show Steps p.tables e below (s₁.setTop (mkF m 5 #[.val (.ref aa1), .val (.ref aa2), .val (.ref aa1), .val (.int (0 : Int32)), .unset, .unset] [])) _
    refine XS.iconst X0.here hx rfl (hb hby d1_5) ?_
    show Steps p.tables e below (s₁.setTop (mkF m 6 #[.val (.ref aa1), .val (.ref aa2), .val (.ref aa1), .val (.int (0 : Int32)), .unset, .unset] [(.int (0 : Int32))])) _
    refine XS.istore X0.here hx rfl (hb hby d1_6) rfl (l' := #[.val (.ref aa1), .val (.ref aa2), .val (.ref aa1), .val (.int (0 : Int32)), .val (.int (0 : Int32)), .unset]) rfl ?_
    show Steps p.tables e below (s₁.setTop (mkF m 8 #[.val (.ref aa1), .val (.ref aa2), .val (.ref aa1), .val (.int (0 : Int32)), .val (.int (0 : Int32)), .unset] [])) _
    refine XS.iload X0.here hx rfl (hb hby d1_8) rfl ?_
    show Steps p.tables e below (s₁.setTop (mkF m 10 #[.val (.ref aa1), .val (.ref aa2), .val (.ref aa1), .val (.int (0 : Int32)), .val (.int (0 : Int32)), .unset] [(.int (0 : Int32))])) _
    refine XS.iloadN X0.here hx rfl (hb hby d1_10) rfl ?_
    show Steps p.tables e below (s₁.setTop (mkF m 11 #[.val (.ref aa1), .val (.ref aa2), .val (.ref aa1), .val (.int (0 : Int32)), .val (.int (0 : Int32)), .unset] [(.int (0 : Int32)), (.int (0 : Int32))])) _
    refine XS.icmpYes X0.here hx rfl (pc0 := 11) (pc' := 31) rfl (hb hby d1_11) rfl (flt hc11).2.1 (by decide) (by decide) ?_
    show Steps p.tables e below (s₁.setTop (mkF m 31 #[.val (.ref aa1), .val (.ref aa2), .val (.ref aa1), .val (.int (0 : Int32)), .val (.int (0 : Int32)), .unset] [])) _
    exact X0.returnOut hx Bd.returns (hb hby d1_31) hr
  · show Q1_0 Z aa1 aa2 ki kp vx h0 n0 _ s₁.heap _
    rw [e0]
    exact ⟨rfl, N0, (Keep.refl h0 [aa2]), V_aa2⟩
theorem d1_14 : decode prog_31_method_9_code 14 = .ok (.aload_n 2, 1) := by decide +kernel
theorem d1_15 : decode prog_31_method_9_code 15 = .ok (.iload 4, 2) := by decide +kernel
theorem d1_17 : decode prog_31_method_9_code 17 = .ok (.iaload, 1) := by decide +kernel
theorem d1_18 : decode prog_31_method_9_code 18 = .ok (.istore 5, 2) := by decide +kernel
theorem d1_20 : decode prog_31_method_9_code 20 = .ok (.aload_n 1, 1) := by decide +kernel
theorem d1_21 : decode prog_31_method_9_code 21 = .ok (.iload 5, 2) := by decide +kernel
theorem d1_23 : decode prog_31_method_9_code 23 = .ok (.iconst (-1), 1) := by decide +kernel
theorem d1_24 : decode prog_31_method_9_code 24 = .ok (.iastore, 1) := by decide +kernel
theorem d1_25 : decode prog_31_method_9_code 25 = .ok (.iinc 4 1, 3) := by decide +kernel
theorem d1_28 : decode prog_31_method_9_code 28 = .ok (.goto (-20), 3) := by decide +kernel
theorem ef_1_1 (m : MethodId) (x0 : Addr) (x1 : Addr) : entryFrame m #[(.ref x0), (.ref x1)] 6 = mkF m 0 #[.val (.ref x0), .val (.ref x1), .unset, .unset, .unset, .unset] [] := by first | (simp [entryFrame, mkF, argsToLocals, Value.category]; done) | rfl
def Q1_1 (Z : State) (aa1 : Addr) (aa2 : Addr) (ki : ClassId) (kp : ClassId) (vx : List Value) (j0 : Int32) (h0 : Heap) (n0 : Nat) (v : Option Value) (h : Heap) (L : List Loc) : Prop := v = none ∧ Fr n0 L ∧ Keep h0 h [aa2] ∧ (Arv Z h aa2 kp .int (4 : Int32) (List.set vx (j0).toNatClampNeg (.int (-1 : Int32))) (.int (0 : Int32)))
set_option maxRecDepth 65536 in
set_option maxHeartbeats 40000000 in
theorem rm1_1 (l : Launch) (Z : State) (a0 : Array Value) (hw : ∀ d ∈ tables_1, d.before a0 Z = true) (ws : List Jvm.Cond) (aa1 : Addr) (aa2 : Addr) (ki : ClassId) (kp : ClassId) (vx : List Value) (j0 : Int32) (h0 : Heap) (n0 : Nat) (Z0 : n0 ≤ h0.size) (V_aa1 : Arv Z h0 aa1 ki .int (1 : Int32) [(.int j0)] (.int (0 : Int32))) (V_aa2 : Arv Z h0 aa2 kp .int (4 : Int32) vx (.int (0 : Int32))) (g_aa2 : n0 ≤ aa2) (ne_aa1_aa2 : aa1 ≠ aa2) (hl : vx.length = 4) (hj0 : ¬ j0 < (0 : Int32) ∧ j0 < (4 : Int32)) :
    MetFree l (⟨"com/example/splitgrain/splitgrain/parse/ChartItems", "clearPlaces", "([I[I)V"⟩ : MethodName) (head1 (Jvm.Cond.code (⟨"com/example/splitgrain/splitgrain/parse/ChartItems", "clearPlaces", "([I[I)V"⟩ : MethodName) prog_31_method_9_code 6 none :: ws) ({ frames := 0, cells := 0, slots := 0, locals := 0 } : Room)) (fun a U => a = #[(.ref aa1), (.ref aa2)] ∧ Z.Warmed39 U.vm ∧ U.heap = h0) (fun _ _ _ _ _ => True) (fun _ U o U' => ∃ v L, o = .returned v ∧ Q1_1 Z aa1 aa2 ki kp vx j0 h0 n0 v U'.heap L ∧ FrameEnd U o U' L ({ frames := 0, cells := 0, slots := 0, locals := 0 } : Room).cells ({ frames := 0, cells := 0, slots := 0, locals := 0 } : Room).slots) := by
  refine MetFree.of_bodySF (plainFor_of_name pn_com_example_splitgrain_splitgrain_parse_ChartItems) hisR ?_
  intro p e s m args below meth c s₁ Bd hml0 hP hK
  obtain ⟨rfl, hZ, hh⟩ := hP
  have hx := Bd.exec
  have hby := Bd.bytes
  have hml : c.maxLocals = 6 := hml0
  have hown : s.vm.findClass "com/example/splitgrain/splitgrain/parse/ChartItems" = some m.cls := findClass_of_methodNamed Bd.named
  have hnm := (name_of_methodNamed Bd.named Bd.method).1
  have X0 : Stand p l e ({ frames := 0, cells := 0, slots := 0, locals := 0 } : Room) s m #[(.ref aa1), (.ref aa2)] below meth c s₁ [] 0 0 := Stand.of_body Bd
  have e0 : s₁.heap = h0 := by rw [← hh, Bd.state]; rfl
  have N0 := Fr.nil n0
  have pre0 : ∀ t, Steps p.tables e below (s₁.setTop (mkF m 0 #[.val (.ref aa1), .val (.ref aa2), .unset, .unset, .unset, .unset] [])) t → Steps p.tables e below (s₁.setTop (entryFrame m #[(.ref aa1), (.ref aa2)] 6)) t := fun t k => castTop (ef_1_1 m aa1 aa2) k
  obtain ⟨cl_1, Ar_1, -, Sz_1, Nn_1, -, -⟩ := id V_aa1
  have hc11 : (0 : Int32) < (1 : Int32) := by decide
  obtain ⟨cl_2, Ar_2, qq_2, Sz_2, Nn_2, Hh_2, Gg_2⟩ := id V_aa1
  have hin_2 : ¬ ((0 : Int32) < 0 ∨ cl_2.slots.size ≤ ((0 : Int32)).toNatClampNeg) := inb_of Sz_2 ⟨by decide, by decide⟩
  have hat_2 : cl_2.slots[((0 : Int32)).toNatClampNeg]? = some (.int j0) := Has.at Hh_2 hin_2 rfl
  obtain ⟨cl_3, Ar_3, qq_3, Sz_3, Nn_3, Hh_3, Gg_3⟩ := id V_aa2
  have hin_3 : ¬ (j0 < 0 ∨ cl_3.slots.size ≤ (j0).toNatClampNeg) := inb_of Sz_3 hj0
  obtain ⟨T4, h4, X4, e4, W4, st4⟩ := stI X0 hx hZ e0 Ar_3 (j := j0) hin_3 (g := (mkF m 24 #[.val (.ref aa1), .val (.ref aa2), .val (.ref aa1), .val (.int (1 : Int32)), .val (.int (0 : Int32)), .val (.int j0)] [(.int (-1 : Int32)), (.int j0), (.ref aa2)])) rfl rfl (hb hby d1_24)
  have N4 := Fr.snoc X4 N0 g_aa2
  have Z4 : n0 ≤ h4.size := Nat.le_trans Z0 (Keep.of_wr W4).1
  have K4 : Keep h0 h4 [aa2] := (Keep.refl h0 [aa2]).wr W4 (Or.inl (List.mem_of_getElem? (i := 0) rfl))
  have V4 : Arv Z h4 aa2 kp .int (4 : Int32) (List.set vx (j0).toNatClampNeg (.int (-1 : Int32))) (.int (0 : Int32)) := Arv.set Ar_3 qq_3 Sz_3 Nn_3 Hh_3 Gg_3 rfl W4 (j0).toNatClampNeg rfl (by first | (rw [hl]; exact own_lt4 hj0) | (simp only [List.length_set]; rw [hl]; exact own_lt4 hj0))
  have hc11_2 : ¬ ((1 : Int32) < (1 : Int32)) := by decide
  obtain ⟨fs, hr, hrun, hended, hW, hsame⟩ := X4.leave (v := none) (fun _ => rfl)
  refine ⟨_, _, pre0 _ ?_, hrun, hended, _, _, rfl, ?_, ⟨_, rfl⟩, hW, hsame.mono (by decide) (by decide)⟩
  · show Steps p.tables e below (s₁.setTop (mkF m 0 #[.val (.ref aa1), .val (.ref aa2), .unset, .unset, .unset, .unset] [])) _
    refine XS.aloadN X0.here hx rfl (hb hby d1_0) rfl rfl ?_
    show Steps p.tables e below (s₁.setTop (mkF m 1 #[.val (.ref aa1), .val (.ref aa2), .unset, .unset, .unset, .unset] [(.ref aa1)])) _
    refine XS.astoreN X0.here hx rfl (hb hby d1_1) rfl rfl (l' := #[.val (.ref aa1), .val (.ref aa2), .val (.ref aa1), .unset, .unset, .unset]) rfl ?_
    show Steps p.tables e below (s₁.setTop (mkF m 2 #[.val (.ref aa1), .val (.ref aa2), .val (.ref aa1), .unset, .unset, .unset] [])) _
    refine XS.aloadN X0.here hx rfl (hb hby d1_2) rfl rfl ?_
    show Steps p.tables e below (s₁.setTop (mkF m 3 #[.val (.ref aa1), .val (.ref aa2), .val (.ref aa1), .unset, .unset, .unset] [(.ref aa1)])) _
    refine X0.arraylength hx (by rw [e0]; exact Ar_1.1) (State.isArrayOf_alike hZ.alike Ar_1.2.1) (g := (mkF m 3 #[.val (.ref aa1), .val (.ref aa2), .val (.ref aa1), .unset, .unset, .unset] [(.ref aa1)])) rfl rfl (hb hby d1_3) _ ?_
    rw [len_of Sz_1 Nn_1]
    show Steps p.tables e below (s₁.setTop (mkF m 4 #[.val (.ref aa1), .val (.ref aa2), .val (.ref aa1), .unset, .unset, .unset] [(.int (1 : Int32))])) _
    refine XS.istoreN X0.here hx rfl (hb hby d1_4) rfl (l' := #[.val (.ref aa1), .val (.ref aa2), .val (.ref aa1), .val (.int (1 : Int32)), .unset, .unset]) rfl ?_
    show Steps p.tables e below (s₁.setTop (mkF m 5 #[.val (.ref aa1), .val (.ref aa2), .val (.ref aa1), .val (.int (1 : Int32)), .unset, .unset] [])) _
    refine XS.iconst X0.here hx rfl (hb hby d1_5) ?_
    show Steps p.tables e below (s₁.setTop (mkF m 6 #[.val (.ref aa1), .val (.ref aa2), .val (.ref aa1), .val (.int (1 : Int32)), .unset, .unset] [(.int (0 : Int32))])) _
    refine XS.istore X0.here hx rfl (hb hby d1_6) rfl (l' := #[.val (.ref aa1), .val (.ref aa2), .val (.ref aa1), .val (.int (1 : Int32)), .val (.int (0 : Int32)), .unset]) rfl ?_
    show Steps p.tables e below (s₁.setTop (mkF m 8 #[.val (.ref aa1), .val (.ref aa2), .val (.ref aa1), .val (.int (1 : Int32)), .val (.int (0 : Int32)), .unset] [])) _
    refine XS.iload X0.here hx rfl (hb hby d1_8) rfl ?_
    show Steps p.tables e below (s₁.setTop (mkF m 10 #[.val (.ref aa1), .val (.ref aa2), .val (.ref aa1), .val (.int (1 : Int32)), .val (.int (0 : Int32)), .unset] [(.int (0 : Int32))])) _
    refine XS.iloadN X0.here hx rfl (hb hby d1_10) rfl ?_
    show Steps p.tables e below (s₁.setTop (mkF m 11 #[.val (.ref aa1), .val (.ref aa2), .val (.ref aa1), .val (.int (1 : Int32)), .val (.int (0 : Int32)), .unset] [(.int (1 : Int32)), (.int (0 : Int32))])) _
    refine XS.icmpNo X0.here hx rfl (hb hby d1_11) rfl (tlt hc11).2.1 ?_
    show Steps p.tables e below (s₁.setTop (mkF m 14 #[.val (.ref aa1), .val (.ref aa2), .val (.ref aa1), .val (.int (1 : Int32)), .val (.int (0 : Int32)), .unset] [])) _
    refine XS.aloadN X0.here hx rfl (hb hby d1_14) rfl rfl ?_
    show Steps p.tables e below (s₁.setTop (mkF m 15 #[.val (.ref aa1), .val (.ref aa2), .val (.ref aa1), .val (.int (1 : Int32)), .val (.int (0 : Int32)), .unset] [(.ref aa1)])) _
    refine XS.iload X0.here hx rfl (hb hby d1_15) rfl ?_
    show Steps p.tables e below (s₁.setTop (mkF m 17 #[.val (.ref aa1), .val (.ref aa2), .val (.ref aa1), .val (.int (1 : Int32)), .val (.int (0 : Int32)), .unset] [(.int (0 : Int32)), (.ref aa1)])) _
    refine X0.iaload hx (j := (0 : Int32)) (v := (.int j0)) (by rw [e0]; exact Ar_2.1) (State.isArrayOf_alike hZ.alike Ar_2.2.1) Ar_2.2.2 hin_2 hat_2 (g := (mkF m 17 #[.val (.ref aa1), .val (.ref aa2), .val (.ref aa1), .val (.int (1 : Int32)), .val (.int (0 : Int32)), .unset] [(.int (0 : Int32)), (.ref aa1)])) rfl rfl (hb hby d1_17) _ ?_
    show Steps p.tables e below (s₁.setTop (mkF m 18 #[.val (.ref aa1), .val (.ref aa2), .val (.ref aa1), .val (.int (1 : Int32)), .val (.int (0 : Int32)), .unset] [(.int j0)])) _
    refine XS.istore X0.here hx rfl (hb hby d1_18) rfl (l' := #[.val (.ref aa1), .val (.ref aa2), .val (.ref aa1), .val (.int (1 : Int32)), .val (.int (0 : Int32)), .val (.int j0)]) rfl ?_
    show Steps p.tables e below (s₁.setTop (mkF m 20 #[.val (.ref aa1), .val (.ref aa2), .val (.ref aa1), .val (.int (1 : Int32)), .val (.int (0 : Int32)), .val (.int j0)] [])) _
    refine XS.aloadN X0.here hx rfl (hb hby d1_20) rfl rfl ?_
    show Steps p.tables e below (s₁.setTop (mkF m 21 #[.val (.ref aa1), .val (.ref aa2), .val (.ref aa1), .val (.int (1 : Int32)), .val (.int (0 : Int32)), .val (.int j0)] [(.ref aa2)])) _
    refine XS.iload X0.here hx rfl (hb hby d1_21) rfl ?_
    show Steps p.tables e below (s₁.setTop (mkF m 23 #[.val (.ref aa1), .val (.ref aa2), .val (.ref aa1), .val (.int (1 : Int32)), .val (.int (0 : Int32)), .val (.int j0)] [(.int j0), (.ref aa2)])) _
    refine XS.iconst X0.here hx rfl (hb hby d1_23) ?_
    show Steps p.tables e below (s₁.setTop (mkF m 24 #[.val (.ref aa1), .val (.ref aa2), .val (.ref aa1), .val (.int (1 : Int32)), .val (.int (0 : Int32)), .val (.int j0)] [(.int (-1 : Int32)), (.int j0), (.ref aa2)])) _
    refine st4 _ ?_
    show Steps p.tables e below (T4.setTop (mkF m 25 #[.val (.ref aa1), .val (.ref aa2), .val (.ref aa1), .val (.int (1 : Int32)), .val (.int (0 : Int32)), .val (.int j0)] [])) _
    refine XS.iinc X4.here hx rfl (hb hby d1_25) rfl (l' := #[.val (.ref aa1), .val (.ref aa2), .val (.ref aa1), .val (.int (1 : Int32)), .val (.int (1 : Int32)), .val (.int j0)]) rfl ?_
    show Steps p.tables e below (T4.setTop (mkF m 28 #[.val (.ref aa1), .val (.ref aa2), .val (.ref aa1), .val (.int (1 : Int32)), .val (.int (1 : Int32)), .val (.int j0)] [])) _
    refine XS.goto X4.here hx rfl (pc0 := 28) (pc' := 8) rfl (hb hby d1_28) (by decide) (by decide) ?_
    show Steps p.tables e below (T4.setTop (mkF m 8 #[.val (.ref aa1), .val (.ref aa2), .val (.ref aa1), .val (.int (1 : Int32)), .val (.int (1 : Int32)), .val (.int j0)] [])) _
    refine XS.iload X4.here hx rfl (hb hby d1_8) rfl ?_
    show Steps p.tables e below (T4.setTop (mkF m 10 #[.val (.ref aa1), .val (.ref aa2), .val (.ref aa1), .val (.int (1 : Int32)), .val (.int (1 : Int32)), .val (.int j0)] [(.int (1 : Int32))])) _
    refine XS.iloadN X4.here hx rfl (hb hby d1_10) rfl ?_
    show Steps p.tables e below (T4.setTop (mkF m 11 #[.val (.ref aa1), .val (.ref aa2), .val (.ref aa1), .val (.int (1 : Int32)), .val (.int (1 : Int32)), .val (.int j0)] [(.int (1 : Int32)), (.int (1 : Int32))])) _
    refine XS.icmpYes X4.here hx rfl (pc0 := 11) (pc' := 31) rfl (hb hby d1_11) rfl (flt hc11_2).2.1 (by decide) (by decide) ?_
    show Steps p.tables e below (T4.setTop (mkF m 31 #[.val (.ref aa1), .val (.ref aa2), .val (.ref aa1), .val (.int (1 : Int32)), .val (.int (1 : Int32)), .val (.int j0)] [])) _
    exact X4.returnOut hx Bd.returns (hb hby d1_31) hr
  · show Q1_1 Z aa1 aa2 ki kp vx j0 h0 n0 _ T4.heap _
    rw [e4]
    exact ⟨rfl, N4, K4, V4⟩
theorem ef_1_2 (m : MethodId) (x0 : Addr) (x1 : Addr) : entryFrame m #[(.ref x0), (.ref x1)] 6 = mkF m 0 #[.val (.ref x0), .val (.ref x1), .unset, .unset, .unset, .unset] [] := by first | (simp [entryFrame, mkF, argsToLocals, Value.category]; done) | rfl
def Q1_2 (Z : State) (aa1 : Addr) (aa2 : Addr) (ki : ClassId) (kp : ClassId) (vx : List Value) (j0 : Int32) (j1 : Int32) (h0 : Heap) (n0 : Nat) (v : Option Value) (h : Heap) (L : List Loc) : Prop := v = none ∧ Fr n0 L ∧ Keep h0 h [aa2] ∧ (Arv Z h aa2 kp .int (4 : Int32) (List.set (List.set vx (j0).toNatClampNeg (.int (-1 : Int32))) (j1).toNatClampNeg (.int (-1 : Int32))) (.int (0 : Int32)))
set_option maxRecDepth 65536 in
set_option maxHeartbeats 40000000 in
theorem rm1_2 (l : Launch) (Z : State) (a0 : Array Value) (hw : ∀ d ∈ tables_1, d.before a0 Z = true) (ws : List Jvm.Cond) (aa1 : Addr) (aa2 : Addr) (ki : ClassId) (kp : ClassId) (vx : List Value) (j0 : Int32) (j1 : Int32) (h0 : Heap) (n0 : Nat) (Z0 : n0 ≤ h0.size) (V_aa1 : Arv Z h0 aa1 ki .int (2 : Int32) [(.int j0), (.int j1)] (.int (0 : Int32))) (V_aa2 : Arv Z h0 aa2 kp .int (4 : Int32) vx (.int (0 : Int32))) (g_aa2 : n0 ≤ aa2) (ne_aa1_aa2 : aa1 ≠ aa2) (hl : vx.length = 4) (hj0 : ¬ j0 < (0 : Int32) ∧ j0 < (4 : Int32)) (hj1 : ¬ j1 < (0 : Int32) ∧ j1 < (4 : Int32)) :
    MetFree l (⟨"com/example/splitgrain/splitgrain/parse/ChartItems", "clearPlaces", "([I[I)V"⟩ : MethodName) (head1 (Jvm.Cond.code (⟨"com/example/splitgrain/splitgrain/parse/ChartItems", "clearPlaces", "([I[I)V"⟩ : MethodName) prog_31_method_9_code 6 none :: ws) ({ frames := 0, cells := 0, slots := 0, locals := 0 } : Room)) (fun a U => a = #[(.ref aa1), (.ref aa2)] ∧ Z.Warmed39 U.vm ∧ U.heap = h0) (fun _ _ _ _ _ => True) (fun _ U o U' => ∃ v L, o = .returned v ∧ Q1_2 Z aa1 aa2 ki kp vx j0 j1 h0 n0 v U'.heap L ∧ FrameEnd U o U' L ({ frames := 0, cells := 0, slots := 0, locals := 0 } : Room).cells ({ frames := 0, cells := 0, slots := 0, locals := 0 } : Room).slots) := by
  refine MetFree.of_bodySF (plainFor_of_name pn_com_example_splitgrain_splitgrain_parse_ChartItems) hisR ?_
  intro p e s m args below meth c s₁ Bd hml0 hP hK
  obtain ⟨rfl, hZ, hh⟩ := hP
  have hx := Bd.exec
  have hby := Bd.bytes
  have hml : c.maxLocals = 6 := hml0
  have hown : s.vm.findClass "com/example/splitgrain/splitgrain/parse/ChartItems" = some m.cls := findClass_of_methodNamed Bd.named
  have hnm := (name_of_methodNamed Bd.named Bd.method).1
  have X0 : Stand p l e ({ frames := 0, cells := 0, slots := 0, locals := 0 } : Room) s m #[(.ref aa1), (.ref aa2)] below meth c s₁ [] 0 0 := Stand.of_body Bd
  have e0 : s₁.heap = h0 := by rw [← hh, Bd.state]; rfl
  have N0 := Fr.nil n0
  have pre0 : ∀ t, Steps p.tables e below (s₁.setTop (mkF m 0 #[.val (.ref aa1), .val (.ref aa2), .unset, .unset, .unset, .unset] [])) t → Steps p.tables e below (s₁.setTop (entryFrame m #[(.ref aa1), (.ref aa2)] 6)) t := fun t k => castTop (ef_1_2 m aa1 aa2) k
  obtain ⟨cl_1, Ar_1, -, Sz_1, Nn_1, -, -⟩ := id V_aa1
  have hc11 : (0 : Int32) < (2 : Int32) := by decide
  obtain ⟨cl_2, Ar_2, qq_2, Sz_2, Nn_2, Hh_2, Gg_2⟩ := id V_aa1
  have hin_2 : ¬ ((0 : Int32) < 0 ∨ cl_2.slots.size ≤ ((0 : Int32)).toNatClampNeg) := inb_of Sz_2 ⟨by decide, by decide⟩
  have hat_2 : cl_2.slots[((0 : Int32)).toNatClampNeg]? = some (.int j0) := Has.at Hh_2 hin_2 rfl
  obtain ⟨cl_3, Ar_3, qq_3, Sz_3, Nn_3, Hh_3, Gg_3⟩ := id V_aa2
  have hin_3 : ¬ (j0 < 0 ∨ cl_3.slots.size ≤ (j0).toNatClampNeg) := inb_of Sz_3 hj0
  obtain ⟨T4, h4, X4, e4, W4, st4⟩ := stI X0 hx hZ e0 Ar_3 (j := j0) hin_3 (g := (mkF m 24 #[.val (.ref aa1), .val (.ref aa2), .val (.ref aa1), .val (.int (2 : Int32)), .val (.int (0 : Int32)), .val (.int j0)] [(.int (-1 : Int32)), (.int j0), (.ref aa2)])) rfl rfl (hb hby d1_24)
  have N4 := Fr.snoc X4 N0 g_aa2
  have Z4 : n0 ≤ h4.size := Nat.le_trans Z0 (Keep.of_wr W4).1
  have K4 : Keep h0 h4 [aa2] := (Keep.refl h0 [aa2]).wr W4 (Or.inl (List.mem_of_getElem? (i := 0) rfl))
  have V4 : Arv Z h4 aa2 kp .int (4 : Int32) (List.set vx (j0).toNatClampNeg (.int (-1 : Int32))) (.int (0 : Int32)) := Arv.set Ar_3 qq_3 Sz_3 Nn_3 Hh_3 Gg_3 rfl W4 (j0).toNatClampNeg rfl (by first | (rw [hl]; exact own_lt4 hj0) | (simp only [List.length_set]; rw [hl]; exact own_lt4 hj0))
  have hc11_2 : (1 : Int32) < (2 : Int32) := by decide
  have V_5 : Arv Z h4 aa1 ki .int (2 : Int32) [(.int j0), (.int j1)] (.int (0 : Int32)) := (V_aa1.other W4 ne_aa1_aa2)
  obtain ⟨cl_6, Ar_6, qq_6, Sz_6, Nn_6, Hh_6, Gg_6⟩ := id V_5
  have hin_6 : ¬ ((1 : Int32) < 0 ∨ cl_6.slots.size ≤ ((1 : Int32)).toNatClampNeg) := inb_of Sz_6 ⟨by decide, by decide⟩
  have hat_6 : cl_6.slots[((1 : Int32)).toNatClampNeg]? = some (.int j1) := Has.at Hh_6 hin_6 rfl
  obtain ⟨cl_7, Ar_7, qq_7, Sz_7, Nn_7, Hh_7, Gg_7⟩ := id V4
  have hin_7 : ¬ (j1 < 0 ∨ cl_7.slots.size ≤ (j1).toNatClampNeg) := inb_of Sz_7 hj1
  obtain ⟨T8, h8, X8, e8, W8, st8⟩ := stI X4 hx hZ e4 Ar_7 (j := j1) hin_7 (g := (mkF m 24 #[.val (.ref aa1), .val (.ref aa2), .val (.ref aa1), .val (.int (2 : Int32)), .val (.int (1 : Int32)), .val (.int j1)] [(.int (-1 : Int32)), (.int j1), (.ref aa2)])) rfl rfl (hb hby d1_24)
  have N8 := Fr.snoc X8 N4 g_aa2
  have Z8 : n0 ≤ h8.size := Nat.le_trans Z4 (Keep.of_wr W8).1
  have K8 : Keep h0 h8 [aa2] := K4.wr W8 (Or.inl (List.mem_of_getElem? (i := 0) rfl))
  have V8 : Arv Z h8 aa2 kp .int (4 : Int32) (List.set (List.set vx (j0).toNatClampNeg (.int (-1 : Int32))) (j1).toNatClampNeg (.int (-1 : Int32))) (.int (0 : Int32)) := Arv.set Ar_7 qq_7 Sz_7 Nn_7 Hh_7 Gg_7 rfl W8 (j1).toNatClampNeg rfl (by first | (rw [hl]; exact own_lt4 hj1) | (simp only [List.length_set]; rw [hl]; exact own_lt4 hj1))
  have hc11_3 : ¬ ((2 : Int32) < (2 : Int32)) := by decide
  obtain ⟨fs, hr, hrun, hended, hW, hsame⟩ := X8.leave (v := none) (fun _ => rfl)
  refine ⟨_, _, pre0 _ ?_, hrun, hended, _, _, rfl, ?_, ⟨_, rfl⟩, hW, hsame.mono (by decide) (by decide)⟩
  · show Steps p.tables e below (s₁.setTop (mkF m 0 #[.val (.ref aa1), .val (.ref aa2), .unset, .unset, .unset, .unset] [])) _
    refine XS.aloadN X0.here hx rfl (hb hby d1_0) rfl rfl ?_
    show Steps p.tables e below (s₁.setTop (mkF m 1 #[.val (.ref aa1), .val (.ref aa2), .unset, .unset, .unset, .unset] [(.ref aa1)])) _
    refine XS.astoreN X0.here hx rfl (hb hby d1_1) rfl rfl (l' := #[.val (.ref aa1), .val (.ref aa2), .val (.ref aa1), .unset, .unset, .unset]) rfl ?_
    show Steps p.tables e below (s₁.setTop (mkF m 2 #[.val (.ref aa1), .val (.ref aa2), .val (.ref aa1), .unset, .unset, .unset] [])) _
    refine XS.aloadN X0.here hx rfl (hb hby d1_2) rfl rfl ?_
    show Steps p.tables e below (s₁.setTop (mkF m 3 #[.val (.ref aa1), .val (.ref aa2), .val (.ref aa1), .unset, .unset, .unset] [(.ref aa1)])) _
    refine X0.arraylength hx (by rw [e0]; exact Ar_1.1) (State.isArrayOf_alike hZ.alike Ar_1.2.1) (g := (mkF m 3 #[.val (.ref aa1), .val (.ref aa2), .val (.ref aa1), .unset, .unset, .unset] [(.ref aa1)])) rfl rfl (hb hby d1_3) _ ?_
    rw [len_of Sz_1 Nn_1]
    show Steps p.tables e below (s₁.setTop (mkF m 4 #[.val (.ref aa1), .val (.ref aa2), .val (.ref aa1), .unset, .unset, .unset] [(.int (2 : Int32))])) _
    refine XS.istoreN X0.here hx rfl (hb hby d1_4) rfl (l' := #[.val (.ref aa1), .val (.ref aa2), .val (.ref aa1), .val (.int (2 : Int32)), .unset, .unset]) rfl ?_
    show Steps p.tables e below (s₁.setTop (mkF m 5 #[.val (.ref aa1), .val (.ref aa2), .val (.ref aa1), .val (.int (2 : Int32)), .unset, .unset] [])) _
    refine XS.iconst X0.here hx rfl (hb hby d1_5) ?_
    show Steps p.tables e below (s₁.setTop (mkF m 6 #[.val (.ref aa1), .val (.ref aa2), .val (.ref aa1), .val (.int (2 : Int32)), .unset, .unset] [(.int (0 : Int32))])) _
    refine XS.istore X0.here hx rfl (hb hby d1_6) rfl (l' := #[.val (.ref aa1), .val (.ref aa2), .val (.ref aa1), .val (.int (2 : Int32)), .val (.int (0 : Int32)), .unset]) rfl ?_
    show Steps p.tables e below (s₁.setTop (mkF m 8 #[.val (.ref aa1), .val (.ref aa2), .val (.ref aa1), .val (.int (2 : Int32)), .val (.int (0 : Int32)), .unset] [])) _
    refine XS.iload X0.here hx rfl (hb hby d1_8) rfl ?_
    show Steps p.tables e below (s₁.setTop (mkF m 10 #[.val (.ref aa1), .val (.ref aa2), .val (.ref aa1), .val (.int (2 : Int32)), .val (.int (0 : Int32)), .unset] [(.int (0 : Int32))])) _
    refine XS.iloadN X0.here hx rfl (hb hby d1_10) rfl ?_
    show Steps p.tables e below (s₁.setTop (mkF m 11 #[.val (.ref aa1), .val (.ref aa2), .val (.ref aa1), .val (.int (2 : Int32)), .val (.int (0 : Int32)), .unset] [(.int (2 : Int32)), (.int (0 : Int32))])) _
    refine XS.icmpNo X0.here hx rfl (hb hby d1_11) rfl (tlt hc11).2.1 ?_
    show Steps p.tables e below (s₁.setTop (mkF m 14 #[.val (.ref aa1), .val (.ref aa2), .val (.ref aa1), .val (.int (2 : Int32)), .val (.int (0 : Int32)), .unset] [])) _
    refine XS.aloadN X0.here hx rfl (hb hby d1_14) rfl rfl ?_
    show Steps p.tables e below (s₁.setTop (mkF m 15 #[.val (.ref aa1), .val (.ref aa2), .val (.ref aa1), .val (.int (2 : Int32)), .val (.int (0 : Int32)), .unset] [(.ref aa1)])) _
    refine XS.iload X0.here hx rfl (hb hby d1_15) rfl ?_
    show Steps p.tables e below (s₁.setTop (mkF m 17 #[.val (.ref aa1), .val (.ref aa2), .val (.ref aa1), .val (.int (2 : Int32)), .val (.int (0 : Int32)), .unset] [(.int (0 : Int32)), (.ref aa1)])) _
    refine X0.iaload hx (j := (0 : Int32)) (v := (.int j0)) (by rw [e0]; exact Ar_2.1) (State.isArrayOf_alike hZ.alike Ar_2.2.1) Ar_2.2.2 hin_2 hat_2 (g := (mkF m 17 #[.val (.ref aa1), .val (.ref aa2), .val (.ref aa1), .val (.int (2 : Int32)), .val (.int (0 : Int32)), .unset] [(.int (0 : Int32)), (.ref aa1)])) rfl rfl (hb hby d1_17) _ ?_
    show Steps p.tables e below (s₁.setTop (mkF m 18 #[.val (.ref aa1), .val (.ref aa2), .val (.ref aa1), .val (.int (2 : Int32)), .val (.int (0 : Int32)), .unset] [(.int j0)])) _
    refine XS.istore X0.here hx rfl (hb hby d1_18) rfl (l' := #[.val (.ref aa1), .val (.ref aa2), .val (.ref aa1), .val (.int (2 : Int32)), .val (.int (0 : Int32)), .val (.int j0)]) rfl ?_
    show Steps p.tables e below (s₁.setTop (mkF m 20 #[.val (.ref aa1), .val (.ref aa2), .val (.ref aa1), .val (.int (2 : Int32)), .val (.int (0 : Int32)), .val (.int j0)] [])) _
    refine XS.aloadN X0.here hx rfl (hb hby d1_20) rfl rfl ?_
    show Steps p.tables e below (s₁.setTop (mkF m 21 #[.val (.ref aa1), .val (.ref aa2), .val (.ref aa1), .val (.int (2 : Int32)), .val (.int (0 : Int32)), .val (.int j0)] [(.ref aa2)])) _
    refine XS.iload X0.here hx rfl (hb hby d1_21) rfl ?_
    show Steps p.tables e below (s₁.setTop (mkF m 23 #[.val (.ref aa1), .val (.ref aa2), .val (.ref aa1), .val (.int (2 : Int32)), .val (.int (0 : Int32)), .val (.int j0)] [(.int j0), (.ref aa2)])) _
    refine XS.iconst X0.here hx rfl (hb hby d1_23) ?_
    show Steps p.tables e below (s₁.setTop (mkF m 24 #[.val (.ref aa1), .val (.ref aa2), .val (.ref aa1), .val (.int (2 : Int32)), .val (.int (0 : Int32)), .val (.int j0)] [(.int (-1 : Int32)), (.int j0), (.ref aa2)])) _
    refine st4 _ ?_
    show Steps p.tables e below (T4.setTop (mkF m 25 #[.val (.ref aa1), .val (.ref aa2), .val (.ref aa1), .val (.int (2 : Int32)), .val (.int (0 : Int32)), .val (.int j0)] [])) _
    refine XS.iinc X4.here hx rfl (hb hby d1_25) rfl (l' := #[.val (.ref aa1), .val (.ref aa2), .val (.ref aa1), .val (.int (2 : Int32)), .val (.int (1 : Int32)), .val (.int j0)]) rfl ?_
    show Steps p.tables e below (T4.setTop (mkF m 28 #[.val (.ref aa1), .val (.ref aa2), .val (.ref aa1), .val (.int (2 : Int32)), .val (.int (1 : Int32)), .val (.int j0)] [])) _
    refine XS.goto X4.here hx rfl (pc0 := 28) (pc' := 8) rfl (hb hby d1_28) (by decide) (by decide) ?_
    show Steps p.tables e below (T4.setTop (mkF m 8 #[.val (.ref aa1), .val (.ref aa2), .val (.ref aa1), .val (.int (2 : Int32)), .val (.int (1 : Int32)), .val (.int j0)] [])) _
    refine XS.iload X4.here hx rfl (hb hby d1_8) rfl ?_
    show Steps p.tables e below (T4.setTop (mkF m 10 #[.val (.ref aa1), .val (.ref aa2), .val (.ref aa1), .val (.int (2 : Int32)), .val (.int (1 : Int32)), .val (.int j0)] [(.int (1 : Int32))])) _
    refine XS.iloadN X4.here hx rfl (hb hby d1_10) rfl ?_
    show Steps p.tables e below (T4.setTop (mkF m 11 #[.val (.ref aa1), .val (.ref aa2), .val (.ref aa1), .val (.int (2 : Int32)), .val (.int (1 : Int32)), .val (.int j0)] [(.int (2 : Int32)), (.int (1 : Int32))])) _
    refine XS.icmpNo X4.here hx rfl (hb hby d1_11) rfl (tlt hc11_2).2.1 ?_
    show Steps p.tables e below (T4.setTop (mkF m 14 #[.val (.ref aa1), .val (.ref aa2), .val (.ref aa1), .val (.int (2 : Int32)), .val (.int (1 : Int32)), .val (.int j0)] [])) _
    refine XS.aloadN X4.here hx rfl (hb hby d1_14) rfl rfl ?_
    show Steps p.tables e below (T4.setTop (mkF m 15 #[.val (.ref aa1), .val (.ref aa2), .val (.ref aa1), .val (.int (2 : Int32)), .val (.int (1 : Int32)), .val (.int j0)] [(.ref aa1)])) _
    refine XS.iload X4.here hx rfl (hb hby d1_15) rfl ?_
    show Steps p.tables e below (T4.setTop (mkF m 17 #[.val (.ref aa1), .val (.ref aa2), .val (.ref aa1), .val (.int (2 : Int32)), .val (.int (1 : Int32)), .val (.int j0)] [(.int (1 : Int32)), (.ref aa1)])) _
    refine X4.iaload hx (j := (1 : Int32)) (v := (.int j1)) (by rw [e4]; exact Ar_6.1) (State.isArrayOf_alike hZ.alike Ar_6.2.1) Ar_6.2.2 hin_6 hat_6 (g := (mkF m 17 #[.val (.ref aa1), .val (.ref aa2), .val (.ref aa1), .val (.int (2 : Int32)), .val (.int (1 : Int32)), .val (.int j0)] [(.int (1 : Int32)), (.ref aa1)])) rfl rfl (hb hby d1_17) _ ?_
    show Steps p.tables e below (T4.setTop (mkF m 18 #[.val (.ref aa1), .val (.ref aa2), .val (.ref aa1), .val (.int (2 : Int32)), .val (.int (1 : Int32)), .val (.int j0)] [(.int j1)])) _
    refine XS.istore X4.here hx rfl (hb hby d1_18) rfl (l' := #[.val (.ref aa1), .val (.ref aa2), .val (.ref aa1), .val (.int (2 : Int32)), .val (.int (1 : Int32)), .val (.int j1)]) rfl ?_
    show Steps p.tables e below (T4.setTop (mkF m 20 #[.val (.ref aa1), .val (.ref aa2), .val (.ref aa1), .val (.int (2 : Int32)), .val (.int (1 : Int32)), .val (.int j1)] [])) _
    refine XS.aloadN X4.here hx rfl (hb hby d1_20) rfl rfl ?_
    show Steps p.tables e below (T4.setTop (mkF m 21 #[.val (.ref aa1), .val (.ref aa2), .val (.ref aa1), .val (.int (2 : Int32)), .val (.int (1 : Int32)), .val (.int j1)] [(.ref aa2)])) _
    refine XS.iload X4.here hx rfl (hb hby d1_21) rfl ?_
    show Steps p.tables e below (T4.setTop (mkF m 23 #[.val (.ref aa1), .val (.ref aa2), .val (.ref aa1), .val (.int (2 : Int32)), .val (.int (1 : Int32)), .val (.int j1)] [(.int j1), (.ref aa2)])) _
    refine XS.iconst X4.here hx rfl (hb hby d1_23) ?_
    show Steps p.tables e below (T4.setTop (mkF m 24 #[.val (.ref aa1), .val (.ref aa2), .val (.ref aa1), .val (.int (2 : Int32)), .val (.int (1 : Int32)), .val (.int j1)] [(.int (-1 : Int32)), (.int j1), (.ref aa2)])) _
    refine st8 _ ?_
    show Steps p.tables e below (T8.setTop (mkF m 25 #[.val (.ref aa1), .val (.ref aa2), .val (.ref aa1), .val (.int (2 : Int32)), .val (.int (1 : Int32)), .val (.int j1)] [])) _
    refine XS.iinc X8.here hx rfl (hb hby d1_25) rfl (l' := #[.val (.ref aa1), .val (.ref aa2), .val (.ref aa1), .val (.int (2 : Int32)), .val (.int (2 : Int32)), .val (.int j1)]) rfl ?_
    show Steps p.tables e below (T8.setTop (mkF m 28 #[.val (.ref aa1), .val (.ref aa2), .val (.ref aa1), .val (.int (2 : Int32)), .val (.int (2 : Int32)), .val (.int j1)] [])) _
    refine XS.goto X8.here hx rfl (pc0 := 28) (pc' := 8) rfl (hb hby d1_28) (by decide) (by decide) ?_
    show Steps p.tables e below (T8.setTop (mkF m 8 #[.val (.ref aa1), .val (.ref aa2), .val (.ref aa1), .val (.int (2 : Int32)), .val (.int (2 : Int32)), .val (.int j1)] [])) _
    refine XS.iload X8.here hx rfl (hb hby d1_8) rfl ?_
    show Steps p.tables e below (T8.setTop (mkF m 10 #[.val (.ref aa1), .val (.ref aa2), .val (.ref aa1), .val (.int (2 : Int32)), .val (.int (2 : Int32)), .val (.int j1)] [(.int (2 : Int32))])) _
    refine XS.iloadN X8.here hx rfl (hb hby d1_10) rfl ?_
    show Steps p.tables e below (T8.setTop (mkF m 11 #[.val (.ref aa1), .val (.ref aa2), .val (.ref aa1), .val (.int (2 : Int32)), .val (.int (2 : Int32)), .val (.int j1)] [(.int (2 : Int32)), (.int (2 : Int32))])) _
    refine XS.icmpYes X8.here hx rfl (pc0 := 11) (pc' := 31) rfl (hb hby d1_11) rfl (flt hc11_3).2.1 (by decide) (by decide) ?_
    show Steps p.tables e below (T8.setTop (mkF m 31 #[.val (.ref aa1), .val (.ref aa2), .val (.ref aa1), .val (.int (2 : Int32)), .val (.int (2 : Int32)), .val (.int j1)] [])) _
    exact X8.returnOut hx Bd.returns (hb hby d1_31) hr
  · show Q1_2 Z aa1 aa2 ki kp vx j0 j1 h0 n0 _ T8.heap _
    rw [e8]
    exact ⟨rfl, N8, K8, V8⟩
theorem ef_1_3 (m : MethodId) (x0 : Addr) (x1 : Addr) : entryFrame m #[(.ref x0), (.ref x1)] 6 = mkF m 0 #[.val (.ref x0), .val (.ref x1), .unset, .unset, .unset, .unset] [] := by first | (simp [entryFrame, mkF, argsToLocals, Value.category]; done) | rfl
def Q1_3 (Z : State) (aa1 : Addr) (aa2 : Addr) (ki : ClassId) (kp : ClassId) (vx : List Value) (j0 : Int32) (j1 : Int32) (j2 : Int32) (h0 : Heap) (n0 : Nat) (v : Option Value) (h : Heap) (L : List Loc) : Prop := v = none ∧ Fr n0 L ∧ Keep h0 h [aa2] ∧ (Arv Z h aa2 kp .int (4 : Int32) (List.set (List.set (List.set vx (j0).toNatClampNeg (.int (-1 : Int32))) (j1).toNatClampNeg (.int (-1 : Int32))) (j2).toNatClampNeg (.int (-1 : Int32))) (.int (0 : Int32)))
set_option maxRecDepth 65536 in
set_option maxHeartbeats 40000000 in
theorem rm1_3 (l : Launch) (Z : State) (a0 : Array Value) (hw : ∀ d ∈ tables_1, d.before a0 Z = true) (ws : List Jvm.Cond) (aa1 : Addr) (aa2 : Addr) (ki : ClassId) (kp : ClassId) (vx : List Value) (j0 : Int32) (j1 : Int32) (j2 : Int32) (h0 : Heap) (n0 : Nat) (Z0 : n0 ≤ h0.size) (V_aa1 : Arv Z h0 aa1 ki .int (3 : Int32) [(.int j0), (.int j1), (.int j2)] (.int (0 : Int32))) (V_aa2 : Arv Z h0 aa2 kp .int (4 : Int32) vx (.int (0 : Int32))) (g_aa2 : n0 ≤ aa2) (ne_aa1_aa2 : aa1 ≠ aa2) (hl : vx.length = 4) (hj0 : ¬ j0 < (0 : Int32) ∧ j0 < (4 : Int32)) (hj1 : ¬ j1 < (0 : Int32) ∧ j1 < (4 : Int32)) (hj2 : ¬ j2 < (0 : Int32) ∧ j2 < (4 : Int32)) :
    MetFree l (⟨"com/example/splitgrain/splitgrain/parse/ChartItems", "clearPlaces", "([I[I)V"⟩ : MethodName) (head1 (Jvm.Cond.code (⟨"com/example/splitgrain/splitgrain/parse/ChartItems", "clearPlaces", "([I[I)V"⟩ : MethodName) prog_31_method_9_code 6 none :: ws) ({ frames := 0, cells := 0, slots := 0, locals := 0 } : Room)) (fun a U => a = #[(.ref aa1), (.ref aa2)] ∧ Z.Warmed39 U.vm ∧ U.heap = h0) (fun _ _ _ _ _ => True) (fun _ U o U' => ∃ v L, o = .returned v ∧ Q1_3 Z aa1 aa2 ki kp vx j0 j1 j2 h0 n0 v U'.heap L ∧ FrameEnd U o U' L ({ frames := 0, cells := 0, slots := 0, locals := 0 } : Room).cells ({ frames := 0, cells := 0, slots := 0, locals := 0 } : Room).slots) := by
  refine MetFree.of_bodySF (plainFor_of_name pn_com_example_splitgrain_splitgrain_parse_ChartItems) hisR ?_
  intro p e s m args below meth c s₁ Bd hml0 hP hK
  obtain ⟨rfl, hZ, hh⟩ := hP
  have hx := Bd.exec
  have hby := Bd.bytes
  have hml : c.maxLocals = 6 := hml0
  have hown : s.vm.findClass "com/example/splitgrain/splitgrain/parse/ChartItems" = some m.cls := findClass_of_methodNamed Bd.named
  have hnm := (name_of_methodNamed Bd.named Bd.method).1
  have X0 : Stand p l e ({ frames := 0, cells := 0, slots := 0, locals := 0 } : Room) s m #[(.ref aa1), (.ref aa2)] below meth c s₁ [] 0 0 := Stand.of_body Bd
  have e0 : s₁.heap = h0 := by rw [← hh, Bd.state]; rfl
  have N0 := Fr.nil n0
  have pre0 : ∀ t, Steps p.tables e below (s₁.setTop (mkF m 0 #[.val (.ref aa1), .val (.ref aa2), .unset, .unset, .unset, .unset] [])) t → Steps p.tables e below (s₁.setTop (entryFrame m #[(.ref aa1), (.ref aa2)] 6)) t := fun t k => castTop (ef_1_3 m aa1 aa2) k
  obtain ⟨cl_1, Ar_1, -, Sz_1, Nn_1, -, -⟩ := id V_aa1
  have hc11 : (0 : Int32) < (3 : Int32) := by decide
  obtain ⟨cl_2, Ar_2, qq_2, Sz_2, Nn_2, Hh_2, Gg_2⟩ := id V_aa1
  have hin_2 : ¬ ((0 : Int32) < 0 ∨ cl_2.slots.size ≤ ((0 : Int32)).toNatClampNeg) := inb_of Sz_2 ⟨by decide, by decide⟩
  have hat_2 : cl_2.slots[((0 : Int32)).toNatClampNeg]? = some (.int j0) := Has.at Hh_2 hin_2 rfl
  obtain ⟨cl_3, Ar_3, qq_3, Sz_3, Nn_3, Hh_3, Gg_3⟩ := id V_aa2
  have hin_3 : ¬ (j0 < 0 ∨ cl_3.slots.size ≤ (j0).toNatClampNeg) := inb_of Sz_3 hj0
  obtain ⟨T4, h4, X4, e4, W4, st4⟩ := stI X0 hx hZ e0 Ar_3 (j := j0) hin_3 (g := (mkF m 24 #[.val (.ref aa1), .val (.ref aa2), .val (.ref aa1), .val (.int (3 : Int32)), .val (.int (0 : Int32)), .val (.int j0)] [(.int (-1 : Int32)), (.int j0), (.ref aa2)])) rfl rfl (hb hby d1_24)
  have N4 := Fr.snoc X4 N0 g_aa2
  have Z4 : n0 ≤ h4.size := Nat.le_trans Z0 (Keep.of_wr W4).1
  have K4 : Keep h0 h4 [aa2] := (Keep.refl h0 [aa2]).wr W4 (Or.inl (List.mem_of_getElem? (i := 0) rfl))
  have V4 : Arv Z h4 aa2 kp .int (4 : Int32) (List.set vx (j0).toNatClampNeg (.int (-1 : Int32))) (.int (0 : Int32)) := Arv.set Ar_3 qq_3 Sz_3 Nn_3 Hh_3 Gg_3 rfl W4 (j0).toNatClampNeg rfl (by first | (rw [hl]; exact own_lt4 hj0) | (simp only [List.length_set]; rw [hl]; exact own_lt4 hj0))
  have hc11_2 : (1 : Int32) < (3 : Int32) := by decide
  have V_5 : Arv Z h4 aa1 ki .int (3 : Int32) [(.int j0), (.int j1), (.int j2)] (.int (0 : Int32)) := (V_aa1.other W4 ne_aa1_aa2)
  obtain ⟨cl_6, Ar_6, qq_6, Sz_6, Nn_6, Hh_6, Gg_6⟩ := id V_5
  have hin_6 : ¬ ((1 : Int32) < 0 ∨ cl_6.slots.size ≤ ((1 : Int32)).toNatClampNeg) := inb_of Sz_6 ⟨by decide, by decide⟩
  have hat_6 : cl_6.slots[((1 : Int32)).toNatClampNeg]? = some (.int j1) := Has.at Hh_6 hin_6 rfl
  obtain ⟨cl_7, Ar_7, qq_7, Sz_7, Nn_7, Hh_7, Gg_7⟩ := id V4
  have hin_7 : ¬ (j1 < 0 ∨ cl_7.slots.size ≤ (j1).toNatClampNeg) := inb_of Sz_7 hj1
  obtain ⟨T8, h8, X8, e8, W8, st8⟩ := stI X4 hx hZ e4 Ar_7 (j := j1) hin_7 (g := (mkF m 24 #[.val (.ref aa1), .val (.ref aa2), .val (.ref aa1), .val (.int (3 : Int32)), .val (.int (1 : Int32)), .val (.int j1)] [(.int (-1 : Int32)), (.int j1), (.ref aa2)])) rfl rfl (hb hby d1_24)
  have N8 := Fr.snoc X8 N4 g_aa2
  have Z8 : n0 ≤ h8.size := Nat.le_trans Z4 (Keep.of_wr W8).1
  have K8 : Keep h0 h8 [aa2] := K4.wr W8 (Or.inl (List.mem_of_getElem? (i := 0) rfl))
  have V8 : Arv Z h8 aa2 kp .int (4 : Int32) (List.set (List.set vx (j0).toNatClampNeg (.int (-1 : Int32))) (j1).toNatClampNeg (.int (-1 : Int32))) (.int (0 : Int32)) := Arv.set Ar_7 qq_7 Sz_7 Nn_7 Hh_7 Gg_7 rfl W8 (j1).toNatClampNeg rfl (by first | (rw [hl]; exact own_lt4 hj1) | (simp only [List.length_set]; rw [hl]; exact own_lt4 hj1))
  have hc11_3 : (2 : Int32) < (3 : Int32) := by decide
  have V_9 : Arv Z h8 aa1 ki .int (3 : Int32) [(.int j0), (.int j1), (.int j2)] (.int (0 : Int32)) := (V_5.other W8 ne_aa1_aa2)
  obtain ⟨cl_10, Ar_10, qq_10, Sz_10, Nn_10, Hh_10, Gg_10⟩ := id V_9
  have hin_10 : ¬ ((2 : Int32) < 0 ∨ cl_10.slots.size ≤ ((2 : Int32)).toNatClampNeg) := inb_of Sz_10 ⟨by decide, by decide⟩
  have hat_10 : cl_10.slots[((2 : Int32)).toNatClampNeg]? = some (.int j2) := Has.at Hh_10 hin_10 rfl
  obtain ⟨cl_11, Ar_11, qq_11, Sz_11, Nn_11, Hh_11, Gg_11⟩ := id V8
  have hin_11 : ¬ (j2 < 0 ∨ cl_11.slots.size ≤ (j2).toNatClampNeg) := inb_of Sz_11 hj2
  obtain ⟨T12, h12, X12, e12, W12, st12⟩ := stI X8 hx hZ e8 Ar_11 (j := j2) hin_11 (g := (mkF m 24 #[.val (.ref aa1), .val (.ref aa2), .val (.ref aa1), .val (.int (3 : Int32)), .val (.int (2 : Int32)), .val (.int j2)] [(.int (-1 : Int32)), (.int j2), (.ref aa2)])) rfl rfl (hb hby d1_24)
  have N12 := Fr.snoc X12 N8 g_aa2
  have Z12 : n0 ≤ h12.size := Nat.le_trans Z8 (Keep.of_wr W12).1
  have K12 : Keep h0 h12 [aa2] := K8.wr W12 (Or.inl (List.mem_of_getElem? (i := 0) rfl))
  have V12 : Arv Z h12 aa2 kp .int (4 : Int32) (List.set (List.set (List.set vx (j0).toNatClampNeg (.int (-1 : Int32))) (j1).toNatClampNeg (.int (-1 : Int32))) (j2).toNatClampNeg (.int (-1 : Int32))) (.int (0 : Int32)) := Arv.set Ar_11 qq_11 Sz_11 Nn_11 Hh_11 Gg_11 rfl W12 (j2).toNatClampNeg rfl (by first | (rw [hl]; exact own_lt4 hj2) | (simp only [List.length_set]; rw [hl]; exact own_lt4 hj2))
  have hc11_4 : ¬ ((3 : Int32) < (3 : Int32)) := by decide
  obtain ⟨fs, hr, hrun, hended, hW, hsame⟩ := X12.leave (v := none) (fun _ => rfl)
  refine ⟨_, _, pre0 _ ?_, hrun, hended, _, _, rfl, ?_, ⟨_, rfl⟩, hW, hsame.mono (by decide) (by decide)⟩
  · show Steps p.tables e below (s₁.setTop (mkF m 0 #[.val (.ref aa1), .val (.ref aa2), .unset, .unset, .unset, .unset] [])) _
    refine XS.aloadN X0.here hx rfl (hb hby d1_0) rfl rfl ?_
    show Steps p.tables e below (s₁.setTop (mkF m 1 #[.val (.ref aa1), .val (.ref aa2), .unset, .unset, .unset, .unset] [(.ref aa1)])) _
    refine XS.astoreN X0.here hx rfl (hb hby d1_1) rfl rfl (l' := #[.val (.ref aa1), .val (.ref aa2), .val (.ref aa1), .unset, .unset, .unset]) rfl ?_
    show Steps p.tables e below (s₁.setTop (mkF m 2 #[.val (.ref aa1), .val (.ref aa2), .val (.ref aa1), .unset, .unset, .unset] [])) _
    refine XS.aloadN X0.here hx rfl (hb hby d1_2) rfl rfl ?_
    show Steps p.tables e below (s₁.setTop (mkF m 3 #[.val (.ref aa1), .val (.ref aa2), .val (.ref aa1), .unset, .unset, .unset] [(.ref aa1)])) _
    refine X0.arraylength hx (by rw [e0]; exact Ar_1.1) (State.isArrayOf_alike hZ.alike Ar_1.2.1) (g := (mkF m 3 #[.val (.ref aa1), .val (.ref aa2), .val (.ref aa1), .unset, .unset, .unset] [(.ref aa1)])) rfl rfl (hb hby d1_3) _ ?_
    rw [len_of Sz_1 Nn_1]
    show Steps p.tables e below (s₁.setTop (mkF m 4 #[.val (.ref aa1), .val (.ref aa2), .val (.ref aa1), .unset, .unset, .unset] [(.int (3 : Int32))])) _
    refine XS.istoreN X0.here hx rfl (hb hby d1_4) rfl (l' := #[.val (.ref aa1), .val (.ref aa2), .val (.ref aa1), .val (.int (3 : Int32)), .unset, .unset]) rfl ?_
    show Steps p.tables e below (s₁.setTop (mkF m 5 #[.val (.ref aa1), .val (.ref aa2), .val (.ref aa1), .val (.int (3 : Int32)), .unset, .unset] [])) _
    refine XS.iconst X0.here hx rfl (hb hby d1_5) ?_
    show Steps p.tables e below (s₁.setTop (mkF m 6 #[.val (.ref aa1), .val (.ref aa2), .val (.ref aa1), .val (.int (3 : Int32)), .unset, .unset] [(.int (0 : Int32))])) _
    refine XS.istore X0.here hx rfl (hb hby d1_6) rfl (l' := #[.val (.ref aa1), .val (.ref aa2), .val (.ref aa1), .val (.int (3 : Int32)), .val (.int (0 : Int32)), .unset]) rfl ?_
    show Steps p.tables e below (s₁.setTop (mkF m 8 #[.val (.ref aa1), .val (.ref aa2), .val (.ref aa1), .val (.int (3 : Int32)), .val (.int (0 : Int32)), .unset] [])) _
    refine XS.iload X0.here hx rfl (hb hby d1_8) rfl ?_
    show Steps p.tables e below (s₁.setTop (mkF m 10 #[.val (.ref aa1), .val (.ref aa2), .val (.ref aa1), .val (.int (3 : Int32)), .val (.int (0 : Int32)), .unset] [(.int (0 : Int32))])) _
    refine XS.iloadN X0.here hx rfl (hb hby d1_10) rfl ?_
    show Steps p.tables e below (s₁.setTop (mkF m 11 #[.val (.ref aa1), .val (.ref aa2), .val (.ref aa1), .val (.int (3 : Int32)), .val (.int (0 : Int32)), .unset] [(.int (3 : Int32)), (.int (0 : Int32))])) _
    refine XS.icmpNo X0.here hx rfl (hb hby d1_11) rfl (tlt hc11).2.1 ?_
    show Steps p.tables e below (s₁.setTop (mkF m 14 #[.val (.ref aa1), .val (.ref aa2), .val (.ref aa1), .val (.int (3 : Int32)), .val (.int (0 : Int32)), .unset] [])) _
    refine XS.aloadN X0.here hx rfl (hb hby d1_14) rfl rfl ?_
    show Steps p.tables e below (s₁.setTop (mkF m 15 #[.val (.ref aa1), .val (.ref aa2), .val (.ref aa1), .val (.int (3 : Int32)), .val (.int (0 : Int32)), .unset] [(.ref aa1)])) _
    refine XS.iload X0.here hx rfl (hb hby d1_15) rfl ?_
    show Steps p.tables e below (s₁.setTop (mkF m 17 #[.val (.ref aa1), .val (.ref aa2), .val (.ref aa1), .val (.int (3 : Int32)), .val (.int (0 : Int32)), .unset] [(.int (0 : Int32)), (.ref aa1)])) _
    refine X0.iaload hx (j := (0 : Int32)) (v := (.int j0)) (by rw [e0]; exact Ar_2.1) (State.isArrayOf_alike hZ.alike Ar_2.2.1) Ar_2.2.2 hin_2 hat_2 (g := (mkF m 17 #[.val (.ref aa1), .val (.ref aa2), .val (.ref aa1), .val (.int (3 : Int32)), .val (.int (0 : Int32)), .unset] [(.int (0 : Int32)), (.ref aa1)])) rfl rfl (hb hby d1_17) _ ?_
    show Steps p.tables e below (s₁.setTop (mkF m 18 #[.val (.ref aa1), .val (.ref aa2), .val (.ref aa1), .val (.int (3 : Int32)), .val (.int (0 : Int32)), .unset] [(.int j0)])) _
    refine XS.istore X0.here hx rfl (hb hby d1_18) rfl (l' := #[.val (.ref aa1), .val (.ref aa2), .val (.ref aa1), .val (.int (3 : Int32)), .val (.int (0 : Int32)), .val (.int j0)]) rfl ?_
    show Steps p.tables e below (s₁.setTop (mkF m 20 #[.val (.ref aa1), .val (.ref aa2), .val (.ref aa1), .val (.int (3 : Int32)), .val (.int (0 : Int32)), .val (.int j0)] [])) _
    refine XS.aloadN X0.here hx rfl (hb hby d1_20) rfl rfl ?_
    show Steps p.tables e below (s₁.setTop (mkF m 21 #[.val (.ref aa1), .val (.ref aa2), .val (.ref aa1), .val (.int (3 : Int32)), .val (.int (0 : Int32)), .val (.int j0)] [(.ref aa2)])) _
    refine XS.iload X0.here hx rfl (hb hby d1_21) rfl ?_
    show Steps p.tables e below (s₁.setTop (mkF m 23 #[.val (.ref aa1), .val (.ref aa2), .val (.ref aa1), .val (.int (3 : Int32)), .val (.int (0 : Int32)), .val (.int j0)] [(.int j0), (.ref aa2)])) _
    refine XS.iconst X0.here hx rfl (hb hby d1_23) ?_
    show Steps p.tables e below (s₁.setTop (mkF m 24 #[.val (.ref aa1), .val (.ref aa2), .val (.ref aa1), .val (.int (3 : Int32)), .val (.int (0 : Int32)), .val (.int j0)] [(.int (-1 : Int32)), (.int j0), (.ref aa2)])) _
    refine st4 _ ?_
    show Steps p.tables e below (T4.setTop (mkF m 25 #[.val (.ref aa1), .val (.ref aa2), .val (.ref aa1), .val (.int (3 : Int32)), .val (.int (0 : Int32)), .val (.int j0)] [])) _
    refine XS.iinc X4.here hx rfl (hb hby d1_25) rfl (l' := #[.val (.ref aa1), .val (.ref aa2), .val (.ref aa1), .val (.int (3 : Int32)), .val (.int (1 : Int32)), .val (.int j0)]) rfl ?_
    show Steps p.tables e below (T4.setTop (mkF m 28 #[.val (.ref aa1), .val (.ref aa2), .val (.ref aa1), .val (.int (3 : Int32)), .val (.int (1 : Int32)), .val (.int j0)] [])) _
    refine XS.goto X4.here hx rfl (pc0 := 28) (pc' := 8) rfl (hb hby d1_28) (by decide) (by decide) ?_
    show Steps p.tables e below (T4.setTop (mkF m 8 #[.val (.ref aa1), .val (.ref aa2), .val (.ref aa1), .val (.int (3 : Int32)), .val (.int (1 : Int32)), .val (.int j0)] [])) _
    refine XS.iload X4.here hx rfl (hb hby d1_8) rfl ?_
    show Steps p.tables e below (T4.setTop (mkF m 10 #[.val (.ref aa1), .val (.ref aa2), .val (.ref aa1), .val (.int (3 : Int32)), .val (.int (1 : Int32)), .val (.int j0)] [(.int (1 : Int32))])) _
    refine XS.iloadN X4.here hx rfl (hb hby d1_10) rfl ?_
    show Steps p.tables e below (T4.setTop (mkF m 11 #[.val (.ref aa1), .val (.ref aa2), .val (.ref aa1), .val (.int (3 : Int32)), .val (.int (1 : Int32)), .val (.int j0)] [(.int (3 : Int32)), (.int (1 : Int32))])) _
    refine XS.icmpNo X4.here hx rfl (hb hby d1_11) rfl (tlt hc11_2).2.1 ?_
    show Steps p.tables e below (T4.setTop (mkF m 14 #[.val (.ref aa1), .val (.ref aa2), .val (.ref aa1), .val (.int (3 : Int32)), .val (.int (1 : Int32)), .val (.int j0)] [])) _
    refine XS.aloadN X4.here hx rfl (hb hby d1_14) rfl rfl ?_
    show Steps p.tables e below (T4.setTop (mkF m 15 #[.val (.ref aa1), .val (.ref aa2), .val (.ref aa1), .val (.int (3 : Int32)), .val (.int (1 : Int32)), .val (.int j0)] [(.ref aa1)])) _
    refine XS.iload X4.here hx rfl (hb hby d1_15) rfl ?_
    show Steps p.tables e below (T4.setTop (mkF m 17 #[.val (.ref aa1), .val (.ref aa2), .val (.ref aa1), .val (.int (3 : Int32)), .val (.int (1 : Int32)), .val (.int j0)] [(.int (1 : Int32)), (.ref aa1)])) _
    refine X4.iaload hx (j := (1 : Int32)) (v := (.int j1)) (by rw [e4]; exact Ar_6.1) (State.isArrayOf_alike hZ.alike Ar_6.2.1) Ar_6.2.2 hin_6 hat_6 (g := (mkF m 17 #[.val (.ref aa1), .val (.ref aa2), .val (.ref aa1), .val (.int (3 : Int32)), .val (.int (1 : Int32)), .val (.int j0)] [(.int (1 : Int32)), (.ref aa1)])) rfl rfl (hb hby d1_17) _ ?_
    show Steps p.tables e below (T4.setTop (mkF m 18 #[.val (.ref aa1), .val (.ref aa2), .val (.ref aa1), .val (.int (3 : Int32)), .val (.int (1 : Int32)), .val (.int j0)] [(.int j1)])) _
    refine XS.istore X4.here hx rfl (hb hby d1_18) rfl (l' := #[.val (.ref aa1), .val (.ref aa2), .val (.ref aa1), .val (.int (3 : Int32)), .val (.int (1 : Int32)), .val (.int j1)]) rfl ?_
    show Steps p.tables e below (T4.setTop (mkF m 20 #[.val (.ref aa1), .val (.ref aa2), .val (.ref aa1), .val (.int (3 : Int32)), .val (.int (1 : Int32)), .val (.int j1)] [])) _
    refine XS.aloadN X4.here hx rfl (hb hby d1_20) rfl rfl ?_
    show Steps p.tables e below (T4.setTop (mkF m 21 #[.val (.ref aa1), .val (.ref aa2), .val (.ref aa1), .val (.int (3 : Int32)), .val (.int (1 : Int32)), .val (.int j1)] [(.ref aa2)])) _
    refine XS.iload X4.here hx rfl (hb hby d1_21) rfl ?_
    show Steps p.tables e below (T4.setTop (mkF m 23 #[.val (.ref aa1), .val (.ref aa2), .val (.ref aa1), .val (.int (3 : Int32)), .val (.int (1 : Int32)), .val (.int j1)] [(.int j1), (.ref aa2)])) _
    refine XS.iconst X4.here hx rfl (hb hby d1_23) ?_
    show Steps p.tables e below (T4.setTop (mkF m 24 #[.val (.ref aa1), .val (.ref aa2), .val (.ref aa1), .val (.int (3 : Int32)), .val (.int (1 : Int32)), .val (.int j1)] [(.int (-1 : Int32)), (.int j1), (.ref aa2)])) _
    refine st8 _ ?_
    show Steps p.tables e below (T8.setTop (mkF m 25 #[.val (.ref aa1), .val (.ref aa2), .val (.ref aa1), .val (.int (3 : Int32)), .val (.int (1 : Int32)), .val (.int j1)] [])) _
    refine XS.iinc X8.here hx rfl (hb hby d1_25) rfl (l' := #[.val (.ref aa1), .val (.ref aa2), .val (.ref aa1), .val (.int (3 : Int32)), .val (.int (2 : Int32)), .val (.int j1)]) rfl ?_
    show Steps p.tables e below (T8.setTop (mkF m 28 #[.val (.ref aa1), .val (.ref aa2), .val (.ref aa1), .val (.int (3 : Int32)), .val (.int (2 : Int32)), .val (.int j1)] [])) _
    refine XS.goto X8.here hx rfl (pc0 := 28) (pc' := 8) rfl (hb hby d1_28) (by decide) (by decide) ?_
    show Steps p.tables e below (T8.setTop (mkF m 8 #[.val (.ref aa1), .val (.ref aa2), .val (.ref aa1), .val (.int (3 : Int32)), .val (.int (2 : Int32)), .val (.int j1)] [])) _
    refine XS.iload X8.here hx rfl (hb hby d1_8) rfl ?_
    show Steps p.tables e below (T8.setTop (mkF m 10 #[.val (.ref aa1), .val (.ref aa2), .val (.ref aa1), .val (.int (3 : Int32)), .val (.int (2 : Int32)), .val (.int j1)] [(.int (2 : Int32))])) _
    refine XS.iloadN X8.here hx rfl (hb hby d1_10) rfl ?_
    show Steps p.tables e below (T8.setTop (mkF m 11 #[.val (.ref aa1), .val (.ref aa2), .val (.ref aa1), .val (.int (3 : Int32)), .val (.int (2 : Int32)), .val (.int j1)] [(.int (3 : Int32)), (.int (2 : Int32))])) _
    refine XS.icmpNo X8.here hx rfl (hb hby d1_11) rfl (tlt hc11_3).2.1 ?_
    show Steps p.tables e below (T8.setTop (mkF m 14 #[.val (.ref aa1), .val (.ref aa2), .val (.ref aa1), .val (.int (3 : Int32)), .val (.int (2 : Int32)), .val (.int j1)] [])) _
    refine XS.aloadN X8.here hx rfl (hb hby d1_14) rfl rfl ?_
    show Steps p.tables e below (T8.setTop (mkF m 15 #[.val (.ref aa1), .val (.ref aa2), .val (.ref aa1), .val (.int (3 : Int32)), .val (.int (2 : Int32)), .val (.int j1)] [(.ref aa1)])) _
    refine XS.iload X8.here hx rfl (hb hby d1_15) rfl ?_
    show Steps p.tables e below (T8.setTop (mkF m 17 #[.val (.ref aa1), .val (.ref aa2), .val (.ref aa1), .val (.int (3 : Int32)), .val (.int (2 : Int32)), .val (.int j1)] [(.int (2 : Int32)), (.ref aa1)])) _
    refine X8.iaload hx (j := (2 : Int32)) (v := (.int j2)) (by rw [e8]; exact Ar_10.1) (State.isArrayOf_alike hZ.alike Ar_10.2.1) Ar_10.2.2 hin_10 hat_10 (g := (mkF m 17 #[.val (.ref aa1), .val (.ref aa2), .val (.ref aa1), .val (.int (3 : Int32)), .val (.int (2 : Int32)), .val (.int j1)] [(.int (2 : Int32)), (.ref aa1)])) rfl rfl (hb hby d1_17) _ ?_
    show Steps p.tables e below (T8.setTop (mkF m 18 #[.val (.ref aa1), .val (.ref aa2), .val (.ref aa1), .val (.int (3 : Int32)), .val (.int (2 : Int32)), .val (.int j1)] [(.int j2)])) _
    refine XS.istore X8.here hx rfl (hb hby d1_18) rfl (l' := #[.val (.ref aa1), .val (.ref aa2), .val (.ref aa1), .val (.int (3 : Int32)), .val (.int (2 : Int32)), .val (.int j2)]) rfl ?_
    show Steps p.tables e below (T8.setTop (mkF m 20 #[.val (.ref aa1), .val (.ref aa2), .val (.ref aa1), .val (.int (3 : Int32)), .val (.int (2 : Int32)), .val (.int j2)] [])) _
    refine XS.aloadN X8.here hx rfl (hb hby d1_20) rfl rfl ?_
    show Steps p.tables e below (T8.setTop (mkF m 21 #[.val (.ref aa1), .val (.ref aa2), .val (.ref aa1), .val (.int (3 : Int32)), .val (.int (2 : Int32)), .val (.int j2)] [(.ref aa2)])) _
    refine XS.iload X8.here hx rfl (hb hby d1_21) rfl ?_
    show Steps p.tables e below (T8.setTop (mkF m 23 #[.val (.ref aa1), .val (.ref aa2), .val (.ref aa1), .val (.int (3 : Int32)), .val (.int (2 : Int32)), .val (.int j2)] [(.int j2), (.ref aa2)])) _
    refine XS.iconst X8.here hx rfl (hb hby d1_23) ?_
    show Steps p.tables e below (T8.setTop (mkF m 24 #[.val (.ref aa1), .val (.ref aa2), .val (.ref aa1), .val (.int (3 : Int32)), .val (.int (2 : Int32)), .val (.int j2)] [(.int (-1 : Int32)), (.int j2), (.ref aa2)])) _
    refine st12 _ ?_
    show Steps p.tables e below (T12.setTop (mkF m 25 #[.val (.ref aa1), .val (.ref aa2), .val (.ref aa1), .val (.int (3 : Int32)), .val (.int (2 : Int32)), .val (.int j2)] [])) _
    refine XS.iinc X12.here hx rfl (hb hby d1_25) rfl (l' := #[.val (.ref aa1), .val (.ref aa2), .val (.ref aa1), .val (.int (3 : Int32)), .val (.int (3 : Int32)), .val (.int j2)]) rfl ?_
    show Steps p.tables e below (T12.setTop (mkF m 28 #[.val (.ref aa1), .val (.ref aa2), .val (.ref aa1), .val (.int (3 : Int32)), .val (.int (3 : Int32)), .val (.int j2)] [])) _
    refine XS.goto X12.here hx rfl (pc0 := 28) (pc' := 8) rfl (hb hby d1_28) (by decide) (by decide) ?_
    show Steps p.tables e below (T12.setTop (mkF m 8 #[.val (.ref aa1), .val (.ref aa2), .val (.ref aa1), .val (.int (3 : Int32)), .val (.int (3 : Int32)), .val (.int j2)] [])) _
    refine XS.iload X12.here hx rfl (hb hby d1_8) rfl ?_
    show Steps p.tables e below (T12.setTop (mkF m 10 #[.val (.ref aa1), .val (.ref aa2), .val (.ref aa1), .val (.int (3 : Int32)), .val (.int (3 : Int32)), .val (.int j2)] [(.int (3 : Int32))])) _
    refine XS.iloadN X12.here hx rfl (hb hby d1_10) rfl ?_
    show Steps p.tables e below (T12.setTop (mkF m 11 #[.val (.ref aa1), .val (.ref aa2), .val (.ref aa1), .val (.int (3 : Int32)), .val (.int (3 : Int32)), .val (.int j2)] [(.int (3 : Int32)), (.int (3 : Int32))])) _
    refine XS.icmpYes X12.here hx rfl (pc0 := 11) (pc' := 31) rfl (hb hby d1_11) rfl (flt hc11_4).2.1 (by decide) (by decide) ?_
    show Steps p.tables e below (T12.setTop (mkF m 31 #[.val (.ref aa1), .val (.ref aa2), .val (.ref aa1), .val (.int (3 : Int32)), .val (.int (3 : Int32)), .val (.int j2)] [])) _
    exact X12.returnOut hx Bd.returns (hb hby d1_31) hr
  · show Q1_3 Z aa1 aa2 ki kp vx j0 j1 j2 h0 n0 _ T12.heap _
    rw [e12]
    exact ⟨rfl, N12, K12, V12⟩
theorem ef_1_4 (m : MethodId) (x0 : Addr) (x1 : Addr) : entryFrame m #[(.ref x0), (.ref x1)] 6 = mkF m 0 #[.val (.ref x0), .val (.ref x1), .unset, .unset, .unset, .unset] [] := by first | (simp [entryFrame, mkF, argsToLocals, Value.category]; done) | rfl
def Q1_4 (Z : State) (aa1 : Addr) (aa2 : Addr) (ki : ClassId) (kp : ClassId) (vx : List Value) (j0 : Int32) (j1 : Int32) (j2 : Int32) (j3 : Int32) (h0 : Heap) (n0 : Nat) (v : Option Value) (h : Heap) (L : List Loc) : Prop := v = none ∧ Fr n0 L ∧ Keep h0 h [aa2] ∧ (Arv Z h aa2 kp .int (4 : Int32) (List.set (List.set (List.set (List.set vx (j0).toNatClampNeg (.int (-1 : Int32))) (j1).toNatClampNeg (.int (-1 : Int32))) (j2).toNatClampNeg (.int (-1 : Int32))) (j3).toNatClampNeg (.int (-1 : Int32))) (.int (0 : Int32)))
set_option maxRecDepth 65536 in
set_option maxHeartbeats 40000000 in
theorem rm1_4 (l : Launch) (Z : State) (a0 : Array Value) (hw : ∀ d ∈ tables_1, d.before a0 Z = true) (ws : List Jvm.Cond) (aa1 : Addr) (aa2 : Addr) (ki : ClassId) (kp : ClassId) (vx : List Value) (j0 : Int32) (j1 : Int32) (j2 : Int32) (j3 : Int32) (h0 : Heap) (n0 : Nat) (Z0 : n0 ≤ h0.size) (V_aa1 : Arv Z h0 aa1 ki .int (4 : Int32) [(.int j0), (.int j1), (.int j2), (.int j3)] (.int (0 : Int32))) (V_aa2 : Arv Z h0 aa2 kp .int (4 : Int32) vx (.int (0 : Int32))) (g_aa2 : n0 ≤ aa2) (ne_aa1_aa2 : aa1 ≠ aa2) (hl : vx.length = 4) (hj0 : ¬ j0 < (0 : Int32) ∧ j0 < (4 : Int32)) (hj1 : ¬ j1 < (0 : Int32) ∧ j1 < (4 : Int32)) (hj2 : ¬ j2 < (0 : Int32) ∧ j2 < (4 : Int32)) (hj3 : ¬ j3 < (0 : Int32) ∧ j3 < (4 : Int32)) :
    MetFree l (⟨"com/example/splitgrain/splitgrain/parse/ChartItems", "clearPlaces", "([I[I)V"⟩ : MethodName) (head1 (Jvm.Cond.code (⟨"com/example/splitgrain/splitgrain/parse/ChartItems", "clearPlaces", "([I[I)V"⟩ : MethodName) prog_31_method_9_code 6 none :: ws) ({ frames := 0, cells := 0, slots := 0, locals := 0 } : Room)) (fun a U => a = #[(.ref aa1), (.ref aa2)] ∧ Z.Warmed39 U.vm ∧ U.heap = h0) (fun _ _ _ _ _ => True) (fun _ U o U' => ∃ v L, o = .returned v ∧ Q1_4 Z aa1 aa2 ki kp vx j0 j1 j2 j3 h0 n0 v U'.heap L ∧ FrameEnd U o U' L ({ frames := 0, cells := 0, slots := 0, locals := 0 } : Room).cells ({ frames := 0, cells := 0, slots := 0, locals := 0 } : Room).slots) := by
  refine MetFree.of_bodySF (plainFor_of_name pn_com_example_splitgrain_splitgrain_parse_ChartItems) hisR ?_
  intro p e s m args below meth c s₁ Bd hml0 hP hK
  obtain ⟨rfl, hZ, hh⟩ := hP
  have hx := Bd.exec
  have hby := Bd.bytes
  have hml : c.maxLocals = 6 := hml0
  have hown : s.vm.findClass "com/example/splitgrain/splitgrain/parse/ChartItems" = some m.cls := findClass_of_methodNamed Bd.named
  have hnm := (name_of_methodNamed Bd.named Bd.method).1
  have X0 : Stand p l e ({ frames := 0, cells := 0, slots := 0, locals := 0 } : Room) s m #[(.ref aa1), (.ref aa2)] below meth c s₁ [] 0 0 := Stand.of_body Bd
  have e0 : s₁.heap = h0 := by rw [← hh, Bd.state]; rfl
  have N0 := Fr.nil n0
  have pre0 : ∀ t, Steps p.tables e below (s₁.setTop (mkF m 0 #[.val (.ref aa1), .val (.ref aa2), .unset, .unset, .unset, .unset] [])) t → Steps p.tables e below (s₁.setTop (entryFrame m #[(.ref aa1), (.ref aa2)] 6)) t := fun t k => castTop (ef_1_4 m aa1 aa2) k
  obtain ⟨cl_1, Ar_1, -, Sz_1, Nn_1, -, -⟩ := id V_aa1
  have hc11 : (0 : Int32) < (4 : Int32) := by decide
  obtain ⟨cl_2, Ar_2, qq_2, Sz_2, Nn_2, Hh_2, Gg_2⟩ := id V_aa1
  have hin_2 : ¬ ((0 : Int32) < 0 ∨ cl_2.slots.size ≤ ((0 : Int32)).toNatClampNeg) := inb_of Sz_2 ⟨by decide, by decide⟩
  have hat_2 : cl_2.slots[((0 : Int32)).toNatClampNeg]? = some (.int j0) := Has.at Hh_2 hin_2 rfl
  obtain ⟨cl_3, Ar_3, qq_3, Sz_3, Nn_3, Hh_3, Gg_3⟩ := id V_aa2
  have hin_3 : ¬ (j0 < 0 ∨ cl_3.slots.size ≤ (j0).toNatClampNeg) := inb_of Sz_3 hj0
  obtain ⟨T4, h4, X4, e4, W4, st4⟩ := stI X0 hx hZ e0 Ar_3 (j := j0) hin_3 (g := (mkF m 24 #[.val (.ref aa1), .val (.ref aa2), .val (.ref aa1), .val (.int (4 : Int32)), .val (.int (0 : Int32)), .val (.int j0)] [(.int (-1 : Int32)), (.int j0), (.ref aa2)])) rfl rfl (hb hby d1_24)
  have N4 := Fr.snoc X4 N0 g_aa2
  have Z4 : n0 ≤ h4.size := Nat.le_trans Z0 (Keep.of_wr W4).1
  have K4 : Keep h0 h4 [aa2] := (Keep.refl h0 [aa2]).wr W4 (Or.inl (List.mem_of_getElem? (i := 0) rfl))
  have V4 : Arv Z h4 aa2 kp .int (4 : Int32) (List.set vx (j0).toNatClampNeg (.int (-1 : Int32))) (.int (0 : Int32)) := Arv.set Ar_3 qq_3 Sz_3 Nn_3 Hh_3 Gg_3 rfl W4 (j0).toNatClampNeg rfl (by first | (rw [hl]; exact own_lt4 hj0) | (simp only [List.length_set]; rw [hl]; exact own_lt4 hj0))
  have hc11_2 : (1 : Int32) < (4 : Int32) := by decide
  have V_5 : Arv Z h4 aa1 ki .int (4 : Int32) [(.int j0), (.int j1), (.int j2), (.int j3)] (.int (0 : Int32)) := (V_aa1.other W4 ne_aa1_aa2)
  obtain ⟨cl_6, Ar_6, qq_6, Sz_6, Nn_6, Hh_6, Gg_6⟩ := id V_5
  have hin_6 : ¬ ((1 : Int32) < 0 ∨ cl_6.slots.size ≤ ((1 : Int32)).toNatClampNeg) := inb_of Sz_6 ⟨by decide, by decide⟩
  have hat_6 : cl_6.slots[((1 : Int32)).toNatClampNeg]? = some (.int j1) := Has.at Hh_6 hin_6 rfl
  obtain ⟨cl_7, Ar_7, qq_7, Sz_7, Nn_7, Hh_7, Gg_7⟩ := id V4
  have hin_7 : ¬ (j1 < 0 ∨ cl_7.slots.size ≤ (j1).toNatClampNeg) := inb_of Sz_7 hj1
  obtain ⟨T8, h8, X8, e8, W8, st8⟩ := stI X4 hx hZ e4 Ar_7 (j := j1) hin_7 (g := (mkF m 24 #[.val (.ref aa1), .val (.ref aa2), .val (.ref aa1), .val (.int (4 : Int32)), .val (.int (1 : Int32)), .val (.int j1)] [(.int (-1 : Int32)), (.int j1), (.ref aa2)])) rfl rfl (hb hby d1_24)
  have N8 := Fr.snoc X8 N4 g_aa2
  have Z8 : n0 ≤ h8.size := Nat.le_trans Z4 (Keep.of_wr W8).1
  have K8 : Keep h0 h8 [aa2] := K4.wr W8 (Or.inl (List.mem_of_getElem? (i := 0) rfl))
  have V8 : Arv Z h8 aa2 kp .int (4 : Int32) (List.set (List.set vx (j0).toNatClampNeg (.int (-1 : Int32))) (j1).toNatClampNeg (.int (-1 : Int32))) (.int (0 : Int32)) := Arv.set Ar_7 qq_7 Sz_7 Nn_7 Hh_7 Gg_7 rfl W8 (j1).toNatClampNeg rfl (by first | (rw [hl]; exact own_lt4 hj1) | (simp only [List.length_set]; rw [hl]; exact own_lt4 hj1))
  have hc11_3 : (2 : Int32) < (4 : Int32) := by decide
  have V_9 : Arv Z h8 aa1 ki .int (4 : Int32) [(.int j0), (.int j1), (.int j2), (.int j3)] (.int (0 : Int32)) := (V_5.other W8 ne_aa1_aa2)
  obtain ⟨cl_10, Ar_10, qq_10, Sz_10, Nn_10, Hh_10, Gg_10⟩ := id V_9
  have hin_10 : ¬ ((2 : Int32) < 0 ∨ cl_10.slots.size ≤ ((2 : Int32)).toNatClampNeg) := inb_of Sz_10 ⟨by decide, by decide⟩
  have hat_10 : cl_10.slots[((2 : Int32)).toNatClampNeg]? = some (.int j2) := Has.at Hh_10 hin_10 rfl
  obtain ⟨cl_11, Ar_11, qq_11, Sz_11, Nn_11, Hh_11, Gg_11⟩ := id V8
  have hin_11 : ¬ (j2 < 0 ∨ cl_11.slots.size ≤ (j2).toNatClampNeg) := inb_of Sz_11 hj2
  obtain ⟨T12, h12, X12, e12, W12, st12⟩ := stI X8 hx hZ e8 Ar_11 (j := j2) hin_11 (g := (mkF m 24 #[.val (.ref aa1), .val (.ref aa2), .val (.ref aa1), .val (.int (4 : Int32)), .val (.int (2 : Int32)), .val (.int j2)] [(.int (-1 : Int32)), (.int j2), (.ref aa2)])) rfl rfl (hb hby d1_24)
  have N12 := Fr.snoc X12 N8 g_aa2
  have Z12 : n0 ≤ h12.size := Nat.le_trans Z8 (Keep.of_wr W12).1
  have K12 : Keep h0 h12 [aa2] := K8.wr W12 (Or.inl (List.mem_of_getElem? (i := 0) rfl))
  have V12 : Arv Z h12 aa2 kp .int (4 : Int32) (List.set (List.set (List.set vx (j0).toNatClampNeg (.int (-1 : Int32))) (j1).toNatClampNeg (.int (-1 : Int32))) (j2).toNatClampNeg (.int (-1 : Int32))) (.int (0 : Int32)) := Arv.set Ar_11 qq_11 Sz_11 Nn_11 Hh_11 Gg_11 rfl W12 (j2).toNatClampNeg rfl (by first | (rw [hl]; exact own_lt4 hj2) | (simp only [List.length_set]; rw [hl]; exact own_lt4 hj2))
  have hc11_4 : (3 : Int32) < (4 : Int32) := by decide
  have V_13 : Arv Z h12 aa1 ki .int (4 : Int32) [(.int j0), (.int j1), (.int j2), (.int j3)] (.int (0 : Int32)) := (V_9.other W12 ne_aa1_aa2)
  obtain ⟨cl_14, Ar_14, qq_14, Sz_14, Nn_14, Hh_14, Gg_14⟩ := id V_13
  have hin_14 : ¬ ((3 : Int32) < 0 ∨ cl_14.slots.size ≤ ((3 : Int32)).toNatClampNeg) := inb_of Sz_14 ⟨by decide, by decide⟩
  have hat_14 : cl_14.slots[((3 : Int32)).toNatClampNeg]? = some (.int j3) := Has.at Hh_14 hin_14 rfl
  obtain ⟨cl_15, Ar_15, qq_15, Sz_15, Nn_15, Hh_15, Gg_15⟩ := id V12
  have hin_15 : ¬ (j3 < 0 ∨ cl_15.slots.size ≤ (j3).toNatClampNeg) := inb_of Sz_15 hj3
  obtain ⟨T16, h16, X16, e16, W16, st16⟩ := stI X12 hx hZ e12 Ar_15 (j := j3) hin_15 (g := (mkF m 24 #[.val (.ref aa1), .val (.ref aa2), .val (.ref aa1), .val (.int (4 : Int32)), .val (.int (3 : Int32)), .val (.int j3)] [(.int (-1 : Int32)), (.int j3), (.ref aa2)])) rfl rfl (hb hby d1_24)
  have N16 := Fr.snoc X16 N12 g_aa2
  have Z16 : n0 ≤ h16.size := Nat.le_trans Z12 (Keep.of_wr W16).1
  have K16 : Keep h0 h16 [aa2] := K12.wr W16 (Or.inl (List.mem_of_getElem? (i := 0) rfl))
  have V16 : Arv Z h16 aa2 kp .int (4 : Int32) (List.set (List.set (List.set (List.set vx (j0).toNatClampNeg (.int (-1 : Int32))) (j1).toNatClampNeg (.int (-1 : Int32))) (j2).toNatClampNeg (.int (-1 : Int32))) (j3).toNatClampNeg (.int (-1 : Int32))) (.int (0 : Int32)) := Arv.set Ar_15 qq_15 Sz_15 Nn_15 Hh_15 Gg_15 rfl W16 (j3).toNatClampNeg rfl (by first | (rw [hl]; exact own_lt4 hj3) | (simp only [List.length_set]; rw [hl]; exact own_lt4 hj3))
  have hc11_5 : ¬ ((4 : Int32) < (4 : Int32)) := by decide
  obtain ⟨fs, hr, hrun, hended, hW, hsame⟩ := X16.leave (v := none) (fun _ => rfl)
  refine ⟨_, _, pre0 _ ?_, hrun, hended, _, _, rfl, ?_, ⟨_, rfl⟩, hW, hsame.mono (by decide) (by decide)⟩
  · show Steps p.tables e below (s₁.setTop (mkF m 0 #[.val (.ref aa1), .val (.ref aa2), .unset, .unset, .unset, .unset] [])) _
    refine XS.aloadN X0.here hx rfl (hb hby d1_0) rfl rfl ?_
    show Steps p.tables e below (s₁.setTop (mkF m 1 #[.val (.ref aa1), .val (.ref aa2), .unset, .unset, .unset, .unset] [(.ref aa1)])) _
    refine XS.astoreN X0.here hx rfl (hb hby d1_1) rfl rfl (l' := #[.val (.ref aa1), .val (.ref aa2), .val (.ref aa1), .unset, .unset, .unset]) rfl ?_
    show Steps p.tables e below (s₁.setTop (mkF m 2 #[.val (.ref aa1), .val (.ref aa2), .val (.ref aa1), .unset, .unset, .unset] [])) _
    refine XS.aloadN X0.here hx rfl (hb hby d1_2) rfl rfl ?_
    show Steps p.tables e below (s₁.setTop (mkF m 3 #[.val (.ref aa1), .val (.ref aa2), .val (.ref aa1), .unset, .unset, .unset] [(.ref aa1)])) _
    refine X0.arraylength hx (by rw [e0]; exact Ar_1.1) (State.isArrayOf_alike hZ.alike Ar_1.2.1) (g := (mkF m 3 #[.val (.ref aa1), .val (.ref aa2), .val (.ref aa1), .unset, .unset, .unset] [(.ref aa1)])) rfl rfl (hb hby d1_3) _ ?_
    rw [len_of Sz_1 Nn_1]
    show Steps p.tables e below (s₁.setTop (mkF m 4 #[.val (.ref aa1), .val (.ref aa2), .val (.ref aa1), .unset, .unset, .unset] [(.int (4 : Int32))])) _
    refine XS.istoreN X0.here hx rfl (hb hby d1_4) rfl (l' := #[.val (.ref aa1), .val (.ref aa2), .val (.ref aa1), .val (.int (4 : Int32)), .unset, .unset]) rfl ?_
    show Steps p.tables e below (s₁.setTop (mkF m 5 #[.val (.ref aa1), .val (.ref aa2), .val (.ref aa1), .val (.int (4 : Int32)), .unset, .unset] [])) _
    refine XS.iconst X0.here hx rfl (hb hby d1_5) ?_
    show Steps p.tables e below (s₁.setTop (mkF m 6 #[.val (.ref aa1), .val (.ref aa2), .val (.ref aa1), .val (.int (4 : Int32)), .unset, .unset] [(.int (0 : Int32))])) _
    refine XS.istore X0.here hx rfl (hb hby d1_6) rfl (l' := #[.val (.ref aa1), .val (.ref aa2), .val (.ref aa1), .val (.int (4 : Int32)), .val (.int (0 : Int32)), .unset]) rfl ?_
    show Steps p.tables e below (s₁.setTop (mkF m 8 #[.val (.ref aa1), .val (.ref aa2), .val (.ref aa1), .val (.int (4 : Int32)), .val (.int (0 : Int32)), .unset] [])) _
    refine XS.iload X0.here hx rfl (hb hby d1_8) rfl ?_
    show Steps p.tables e below (s₁.setTop (mkF m 10 #[.val (.ref aa1), .val (.ref aa2), .val (.ref aa1), .val (.int (4 : Int32)), .val (.int (0 : Int32)), .unset] [(.int (0 : Int32))])) _
    refine XS.iloadN X0.here hx rfl (hb hby d1_10) rfl ?_
    show Steps p.tables e below (s₁.setTop (mkF m 11 #[.val (.ref aa1), .val (.ref aa2), .val (.ref aa1), .val (.int (4 : Int32)), .val (.int (0 : Int32)), .unset] [(.int (4 : Int32)), (.int (0 : Int32))])) _
    refine XS.icmpNo X0.here hx rfl (hb hby d1_11) rfl (tlt hc11).2.1 ?_
    show Steps p.tables e below (s₁.setTop (mkF m 14 #[.val (.ref aa1), .val (.ref aa2), .val (.ref aa1), .val (.int (4 : Int32)), .val (.int (0 : Int32)), .unset] [])) _
    refine XS.aloadN X0.here hx rfl (hb hby d1_14) rfl rfl ?_
    show Steps p.tables e below (s₁.setTop (mkF m 15 #[.val (.ref aa1), .val (.ref aa2), .val (.ref aa1), .val (.int (4 : Int32)), .val (.int (0 : Int32)), .unset] [(.ref aa1)])) _
    refine XS.iload X0.here hx rfl (hb hby d1_15) rfl ?_
    show Steps p.tables e below (s₁.setTop (mkF m 17 #[.val (.ref aa1), .val (.ref aa2), .val (.ref aa1), .val (.int (4 : Int32)), .val (.int (0 : Int32)), .unset] [(.int (0 : Int32)), (.ref aa1)])) _
    refine X0.iaload hx (j := (0 : Int32)) (v := (.int j0)) (by rw [e0]; exact Ar_2.1) (State.isArrayOf_alike hZ.alike Ar_2.2.1) Ar_2.2.2 hin_2 hat_2 (g := (mkF m 17 #[.val (.ref aa1), .val (.ref aa2), .val (.ref aa1), .val (.int (4 : Int32)), .val (.int (0 : Int32)), .unset] [(.int (0 : Int32)), (.ref aa1)])) rfl rfl (hb hby d1_17) _ ?_
    show Steps p.tables e below (s₁.setTop (mkF m 18 #[.val (.ref aa1), .val (.ref aa2), .val (.ref aa1), .val (.int (4 : Int32)), .val (.int (0 : Int32)), .unset] [(.int j0)])) _
    refine XS.istore X0.here hx rfl (hb hby d1_18) rfl (l' := #[.val (.ref aa1), .val (.ref aa2), .val (.ref aa1), .val (.int (4 : Int32)), .val (.int (0 : Int32)), .val (.int j0)]) rfl ?_
    show Steps p.tables e below (s₁.setTop (mkF m 20 #[.val (.ref aa1), .val (.ref aa2), .val (.ref aa1), .val (.int (4 : Int32)), .val (.int (0 : Int32)), .val (.int j0)] [])) _
    refine XS.aloadN X0.here hx rfl (hb hby d1_20) rfl rfl ?_
    show Steps p.tables e below (s₁.setTop (mkF m 21 #[.val (.ref aa1), .val (.ref aa2), .val (.ref aa1), .val (.int (4 : Int32)), .val (.int (0 : Int32)), .val (.int j0)] [(.ref aa2)])) _
    refine XS.iload X0.here hx rfl (hb hby d1_21) rfl ?_
    show Steps p.tables e below (s₁.setTop (mkF m 23 #[.val (.ref aa1), .val (.ref aa2), .val (.ref aa1), .val (.int (4 : Int32)), .val (.int (0 : Int32)), .val (.int j0)] [(.int j0), (.ref aa2)])) _
    refine XS.iconst X0.here hx rfl (hb hby d1_23) ?_
    show Steps p.tables e below (s₁.setTop (mkF m 24 #[.val (.ref aa1), .val (.ref aa2), .val (.ref aa1), .val (.int (4 : Int32)), .val (.int (0 : Int32)), .val (.int j0)] [(.int (-1 : Int32)), (.int j0), (.ref aa2)])) _
    refine st4 _ ?_
    show Steps p.tables e below (T4.setTop (mkF m 25 #[.val (.ref aa1), .val (.ref aa2), .val (.ref aa1), .val (.int (4 : Int32)), .val (.int (0 : Int32)), .val (.int j0)] [])) _
    refine XS.iinc X4.here hx rfl (hb hby d1_25) rfl (l' := #[.val (.ref aa1), .val (.ref aa2), .val (.ref aa1), .val (.int (4 : Int32)), .val (.int (1 : Int32)), .val (.int j0)]) rfl ?_
    show Steps p.tables e below (T4.setTop (mkF m 28 #[.val (.ref aa1), .val (.ref aa2), .val (.ref aa1), .val (.int (4 : Int32)), .val (.int (1 : Int32)), .val (.int j0)] [])) _
    refine XS.goto X4.here hx rfl (pc0 := 28) (pc' := 8) rfl (hb hby d1_28) (by decide) (by decide) ?_
    show Steps p.tables e below (T4.setTop (mkF m 8 #[.val (.ref aa1), .val (.ref aa2), .val (.ref aa1), .val (.int (4 : Int32)), .val (.int (1 : Int32)), .val (.int j0)] [])) _
    refine XS.iload X4.here hx rfl (hb hby d1_8) rfl ?_
    show Steps p.tables e below (T4.setTop (mkF m 10 #[.val (.ref aa1), .val (.ref aa2), .val (.ref aa1), .val (.int (4 : Int32)), .val (.int (1 : Int32)), .val (.int j0)] [(.int (1 : Int32))])) _
    refine XS.iloadN X4.here hx rfl (hb hby d1_10) rfl ?_
    show Steps p.tables e below (T4.setTop (mkF m 11 #[.val (.ref aa1), .val (.ref aa2), .val (.ref aa1), .val (.int (4 : Int32)), .val (.int (1 : Int32)), .val (.int j0)] [(.int (4 : Int32)), (.int (1 : Int32))])) _
    refine XS.icmpNo X4.here hx rfl (hb hby d1_11) rfl (tlt hc11_2).2.1 ?_
    show Steps p.tables e below (T4.setTop (mkF m 14 #[.val (.ref aa1), .val (.ref aa2), .val (.ref aa1), .val (.int (4 : Int32)), .val (.int (1 : Int32)), .val (.int j0)] [])) _
    refine XS.aloadN X4.here hx rfl (hb hby d1_14) rfl rfl ?_
    show Steps p.tables e below (T4.setTop (mkF m 15 #[.val (.ref aa1), .val (.ref aa2), .val (.ref aa1), .val (.int (4 : Int32)), .val (.int (1 : Int32)), .val (.int j0)] [(.ref aa1)])) _
    refine XS.iload X4.here hx rfl (hb hby d1_15) rfl ?_
    show Steps p.tables e below (T4.setTop (mkF m 17 #[.val (.ref aa1), .val (.ref aa2), .val (.ref aa1), .val (.int (4 : Int32)), .val (.int (1 : Int32)), .val (.int j0)] [(.int (1 : Int32)), (.ref aa1)])) _
    refine X4.iaload hx (j := (1 : Int32)) (v := (.int j1)) (by rw [e4]; exact Ar_6.1) (State.isArrayOf_alike hZ.alike Ar_6.2.1) Ar_6.2.2 hin_6 hat_6 (g := (mkF m 17 #[.val (.ref aa1), .val (.ref aa2), .val (.ref aa1), .val (.int (4 : Int32)), .val (.int (1 : Int32)), .val (.int j0)] [(.int (1 : Int32)), (.ref aa1)])) rfl rfl (hb hby d1_17) _ ?_
    show Steps p.tables e below (T4.setTop (mkF m 18 #[.val (.ref aa1), .val (.ref aa2), .val (.ref aa1), .val (.int (4 : Int32)), .val (.int (1 : Int32)), .val (.int j0)] [(.int j1)])) _
    refine XS.istore X4.here hx rfl (hb hby d1_18) rfl (l' := #[.val (.ref aa1), .val (.ref aa2), .val (.ref aa1), .val (.int (4 : Int32)), .val (.int (1 : Int32)), .val (.int j1)]) rfl ?_
    show Steps p.tables e below (T4.setTop (mkF m 20 #[.val (.ref aa1), .val (.ref aa2), .val (.ref aa1), .val (.int (4 : Int32)), .val (.int (1 : Int32)), .val (.int j1)] [])) _
    refine XS.aloadN X4.here hx rfl (hb hby d1_20) rfl rfl ?_
    show Steps p.tables e below (T4.setTop (mkF m 21 #[.val (.ref aa1), .val (.ref aa2), .val (.ref aa1), .val (.int (4 : Int32)), .val (.int (1 : Int32)), .val (.int j1)] [(.ref aa2)])) _
    refine XS.iload X4.here hx rfl (hb hby d1_21) rfl ?_
    show Steps p.tables e below (T4.setTop (mkF m 23 #[.val (.ref aa1), .val (.ref aa2), .val (.ref aa1), .val (.int (4 : Int32)), .val (.int (1 : Int32)), .val (.int j1)] [(.int j1), (.ref aa2)])) _
    refine XS.iconst X4.here hx rfl (hb hby d1_23) ?_
    show Steps p.tables e below (T4.setTop (mkF m 24 #[.val (.ref aa1), .val (.ref aa2), .val (.ref aa1), .val (.int (4 : Int32)), .val (.int (1 : Int32)), .val (.int j1)] [(.int (-1 : Int32)), (.int j1), (.ref aa2)])) _
    refine st8 _ ?_
    show Steps p.tables e below (T8.setTop (mkF m 25 #[.val (.ref aa1), .val (.ref aa2), .val (.ref aa1), .val (.int (4 : Int32)), .val (.int (1 : Int32)), .val (.int j1)] [])) _
    refine XS.iinc X8.here hx rfl (hb hby d1_25) rfl (l' := #[.val (.ref aa1), .val (.ref aa2), .val (.ref aa1), .val (.int (4 : Int32)), .val (.int (2 : Int32)), .val (.int j1)]) rfl ?_
    show Steps p.tables e below (T8.setTop (mkF m 28 #[.val (.ref aa1), .val (.ref aa2), .val (.ref aa1), .val (.int (4 : Int32)), .val (.int (2 : Int32)), .val (.int j1)] [])) _
    refine XS.goto X8.here hx rfl (pc0 := 28) (pc' := 8) rfl (hb hby d1_28) (by decide) (by decide) ?_
    show Steps p.tables e below (T8.setTop (mkF m 8 #[.val (.ref aa1), .val (.ref aa2), .val (.ref aa1), .val (.int (4 : Int32)), .val (.int (2 : Int32)), .val (.int j1)] [])) _
    refine XS.iload X8.here hx rfl (hb hby d1_8) rfl ?_
    show Steps p.tables e below (T8.setTop (mkF m 10 #[.val (.ref aa1), .val (.ref aa2), .val (.ref aa1), .val (.int (4 : Int32)), .val (.int (2 : Int32)), .val (.int j1)] [(.int (2 : Int32))])) _
    refine XS.iloadN X8.here hx rfl (hb hby d1_10) rfl ?_
    show Steps p.tables e below (T8.setTop (mkF m 11 #[.val (.ref aa1), .val (.ref aa2), .val (.ref aa1), .val (.int (4 : Int32)), .val (.int (2 : Int32)), .val (.int j1)] [(.int (4 : Int32)), (.int (2 : Int32))])) _
    refine XS.icmpNo X8.here hx rfl (hb hby d1_11) rfl (tlt hc11_3).2.1 ?_
    show Steps p.tables e below (T8.setTop (mkF m 14 #[.val (.ref aa1), .val (.ref aa2), .val (.ref aa1), .val (.int (4 : Int32)), .val (.int (2 : Int32)), .val (.int j1)] [])) _
    refine XS.aloadN X8.here hx rfl (hb hby d1_14) rfl rfl ?_
    show Steps p.tables e below (T8.setTop (mkF m 15 #[.val (.ref aa1), .val (.ref aa2), .val (.ref aa1), .val (.int (4 : Int32)), .val (.int (2 : Int32)), .val (.int j1)] [(.ref aa1)])) _
    refine XS.iload X8.here hx rfl (hb hby d1_15) rfl ?_
    show Steps p.tables e below (T8.setTop (mkF m 17 #[.val (.ref aa1), .val (.ref aa2), .val (.ref aa1), .val (.int (4 : Int32)), .val (.int (2 : Int32)), .val (.int j1)] [(.int (2 : Int32)), (.ref aa1)])) _
    refine X8.iaload hx (j := (2 : Int32)) (v := (.int j2)) (by rw [e8]; exact Ar_10.1) (State.isArrayOf_alike hZ.alike Ar_10.2.1) Ar_10.2.2 hin_10 hat_10 (g := (mkF m 17 #[.val (.ref aa1), .val (.ref aa2), .val (.ref aa1), .val (.int (4 : Int32)), .val (.int (2 : Int32)), .val (.int j1)] [(.int (2 : Int32)), (.ref aa1)])) rfl rfl (hb hby d1_17) _ ?_
    show Steps p.tables e below (T8.setTop (mkF m 18 #[.val (.ref aa1), .val (.ref aa2), .val (.ref aa1), .val (.int (4 : Int32)), .val (.int (2 : Int32)), .val (.int j1)] [(.int j2)])) _
    refine XS.istore X8.here hx rfl (hb hby d1_18) rfl (l' := #[.val (.ref aa1), .val (.ref aa2), .val (.ref aa1), .val (.int (4 : Int32)), .val (.int (2 : Int32)), .val (.int j2)]) rfl ?_
    show Steps p.tables e below (T8.setTop (mkF m 20 #[.val (.ref aa1), .val (.ref aa2), .val (.ref aa1), .val (.int (4 : Int32)), .val (.int (2 : Int32)), .val (.int j2)] [])) _
    refine XS.aloadN X8.here hx rfl (hb hby d1_20) rfl rfl ?_
    show Steps p.tables e below (T8.setTop (mkF m 21 #[.val (.ref aa1), .val (.ref aa2), .val (.ref aa1), .val (.int (4 : Int32)), .val (.int (2 : Int32)), .val (.int j2)] [(.ref aa2)])) _
    refine XS.iload X8.here hx rfl (hb hby d1_21) rfl ?_
    show Steps p.tables e below (T8.setTop (mkF m 23 #[.val (.ref aa1), .val (.ref aa2), .val (.ref aa1), .val (.int (4 : Int32)), .val (.int (2 : Int32)), .val (.int j2)] [(.int j2), (.ref aa2)])) _
    refine XS.iconst X8.here hx rfl (hb hby d1_23) ?_
    show Steps p.tables e below (T8.setTop (mkF m 24 #[.val (.ref aa1), .val (.ref aa2), .val (.ref aa1), .val (.int (4 : Int32)), .val (.int (2 : Int32)), .val (.int j2)] [(.int (-1 : Int32)), (.int j2), (.ref aa2)])) _
    refine st12 _ ?_
    show Steps p.tables e below (T12.setTop (mkF m 25 #[.val (.ref aa1), .val (.ref aa2), .val (.ref aa1), .val (.int (4 : Int32)), .val (.int (2 : Int32)), .val (.int j2)] [])) _
    refine XS.iinc X12.here hx rfl (hb hby d1_25) rfl (l' := #[.val (.ref aa1), .val (.ref aa2), .val (.ref aa1), .val (.int (4 : Int32)), .val (.int (3 : Int32)), .val (.int j2)]) rfl ?_
    show Steps p.tables e below (T12.setTop (mkF m 28 #[.val (.ref aa1), .val (.ref aa2), .val (.ref aa1), .val (.int (4 : Int32)), .val (.int (3 : Int32)), .val (.int j2)] [])) _
    refine XS.goto X12.here hx rfl (pc0 := 28) (pc' := 8) rfl (hb hby d1_28) (by decide) (by decide) ?_
    show Steps p.tables e below (T12.setTop (mkF m 8 #[.val (.ref aa1), .val (.ref aa2), .val (.ref aa1), .val (.int (4 : Int32)), .val (.int (3 : Int32)), .val (.int j2)] [])) _
    refine XS.iload X12.here hx rfl (hb hby d1_8) rfl ?_
    show Steps p.tables e below (T12.setTop (mkF m 10 #[.val (.ref aa1), .val (.ref aa2), .val (.ref aa1), .val (.int (4 : Int32)), .val (.int (3 : Int32)), .val (.int j2)] [(.int (3 : Int32))])) _
    refine XS.iloadN X12.here hx rfl (hb hby d1_10) rfl ?_
    show Steps p.tables e below (T12.setTop (mkF m 11 #[.val (.ref aa1), .val (.ref aa2), .val (.ref aa1), .val (.int (4 : Int32)), .val (.int (3 : Int32)), .val (.int j2)] [(.int (4 : Int32)), (.int (3 : Int32))])) _
    refine XS.icmpNo X12.here hx rfl (hb hby d1_11) rfl (tlt hc11_4).2.1 ?_
    show Steps p.tables e below (T12.setTop (mkF m 14 #[.val (.ref aa1), .val (.ref aa2), .val (.ref aa1), .val (.int (4 : Int32)), .val (.int (3 : Int32)), .val (.int j2)] [])) _
    refine XS.aloadN X12.here hx rfl (hb hby d1_14) rfl rfl ?_
    show Steps p.tables e below (T12.setTop (mkF m 15 #[.val (.ref aa1), .val (.ref aa2), .val (.ref aa1), .val (.int (4 : Int32)), .val (.int (3 : Int32)), .val (.int j2)] [(.ref aa1)])) _
    refine XS.iload X12.here hx rfl (hb hby d1_15) rfl ?_
    show Steps p.tables e below (T12.setTop (mkF m 17 #[.val (.ref aa1), .val (.ref aa2), .val (.ref aa1), .val (.int (4 : Int32)), .val (.int (3 : Int32)), .val (.int j2)] [(.int (3 : Int32)), (.ref aa1)])) _
    refine X12.iaload hx (j := (3 : Int32)) (v := (.int j3)) (by rw [e12]; exact Ar_14.1) (State.isArrayOf_alike hZ.alike Ar_14.2.1) Ar_14.2.2 hin_14 hat_14 (g := (mkF m 17 #[.val (.ref aa1), .val (.ref aa2), .val (.ref aa1), .val (.int (4 : Int32)), .val (.int (3 : Int32)), .val (.int j2)] [(.int (3 : Int32)), (.ref aa1)])) rfl rfl (hb hby d1_17) _ ?_
    show Steps p.tables e below (T12.setTop (mkF m 18 #[.val (.ref aa1), .val (.ref aa2), .val (.ref aa1), .val (.int (4 : Int32)), .val (.int (3 : Int32)), .val (.int j2)] [(.int j3)])) _
    refine XS.istore X12.here hx rfl (hb hby d1_18) rfl (l' := #[.val (.ref aa1), .val (.ref aa2), .val (.ref aa1), .val (.int (4 : Int32)), .val (.int (3 : Int32)), .val (.int j3)]) rfl ?_
    show Steps p.tables e below (T12.setTop (mkF m 20 #[.val (.ref aa1), .val (.ref aa2), .val (.ref aa1), .val (.int (4 : Int32)), .val (.int (3 : Int32)), .val (.int j3)] [])) _
    refine XS.aloadN X12.here hx rfl (hb hby d1_20) rfl rfl ?_
    show Steps p.tables e below (T12.setTop (mkF m 21 #[.val (.ref aa1), .val (.ref aa2), .val (.ref aa1), .val (.int (4 : Int32)), .val (.int (3 : Int32)), .val (.int j3)] [(.ref aa2)])) _
    refine XS.iload X12.here hx rfl (hb hby d1_21) rfl ?_
    show Steps p.tables e below (T12.setTop (mkF m 23 #[.val (.ref aa1), .val (.ref aa2), .val (.ref aa1), .val (.int (4 : Int32)), .val (.int (3 : Int32)), .val (.int j3)] [(.int j3), (.ref aa2)])) _
    refine XS.iconst X12.here hx rfl (hb hby d1_23) ?_
    show Steps p.tables e below (T12.setTop (mkF m 24 #[.val (.ref aa1), .val (.ref aa2), .val (.ref aa1), .val (.int (4 : Int32)), .val (.int (3 : Int32)), .val (.int j3)] [(.int (-1 : Int32)), (.int j3), (.ref aa2)])) _
    refine st16 _ ?_
    show Steps p.tables e below (T16.setTop (mkF m 25 #[.val (.ref aa1), .val (.ref aa2), .val (.ref aa1), .val (.int (4 : Int32)), .val (.int (3 : Int32)), .val (.int j3)] [])) _
    refine XS.iinc X16.here hx rfl (hb hby d1_25) rfl (l' := #[.val (.ref aa1), .val (.ref aa2), .val (.ref aa1), .val (.int (4 : Int32)), .val (.int (4 : Int32)), .val (.int j3)]) rfl ?_
    show Steps p.tables e below (T16.setTop (mkF m 28 #[.val (.ref aa1), .val (.ref aa2), .val (.ref aa1), .val (.int (4 : Int32)), .val (.int (4 : Int32)), .val (.int j3)] [])) _
    refine XS.goto X16.here hx rfl (pc0 := 28) (pc' := 8) rfl (hb hby d1_28) (by decide) (by decide) ?_
    show Steps p.tables e below (T16.setTop (mkF m 8 #[.val (.ref aa1), .val (.ref aa2), .val (.ref aa1), .val (.int (4 : Int32)), .val (.int (4 : Int32)), .val (.int j3)] [])) _
    refine XS.iload X16.here hx rfl (hb hby d1_8) rfl ?_
    show Steps p.tables e below (T16.setTop (mkF m 10 #[.val (.ref aa1), .val (.ref aa2), .val (.ref aa1), .val (.int (4 : Int32)), .val (.int (4 : Int32)), .val (.int j3)] [(.int (4 : Int32))])) _
    refine XS.iloadN X16.here hx rfl (hb hby d1_10) rfl ?_
    show Steps p.tables e below (T16.setTop (mkF m 11 #[.val (.ref aa1), .val (.ref aa2), .val (.ref aa1), .val (.int (4 : Int32)), .val (.int (4 : Int32)), .val (.int j3)] [(.int (4 : Int32)), (.int (4 : Int32))])) _
    refine XS.icmpYes X16.here hx rfl (pc0 := 11) (pc' := 31) rfl (hb hby d1_11) rfl (flt hc11_5).2.1 (by decide) (by decide) ?_
    show Steps p.tables e below (T16.setTop (mkF m 31 #[.val (.ref aa1), .val (.ref aa2), .val (.ref aa1), .val (.int (4 : Int32)), .val (.int (4 : Int32)), .val (.int j3)] [])) _
    exact X16.returnOut hx Bd.returns (hb hby d1_31) hr
  · show Q1_4 Z aa1 aa2 ki kp vx j0 j1 j2 j3 h0 n0 _ T16.heap _
    rw [e16]
    exact ⟨rfl, N16, K16, V16⟩
theorem pd__28__5b_I_5b_I_29_V : parseMethodDescriptor "([I[I)V" = some ⟨[(.array .int), (.array .int)], none⟩ := by decide +kernel
theorem pd__28_IIIIIII_29_I : parseMethodDescriptor "(IIIIIII)I" = some ⟨[.int, .int, .int, .int, .int, .int, .int], some .int⟩ := by decide +kernel
theorem ef_0 (m : MethodId) (x0 : Int32) (x1 : Int32) (x2 : Int32) (x3 : Int32) (x4 : Int32) : entryFrame m #[(.int x0), (.int x1), (.int x2), (.int x3), (.int x4)] maxLocals = mkF m 0 #[.val (.int x0), .val (.int x1), .val (.int x2), .val (.int x3), .val (.int x4), .unset, .unset, .unset, .unset, .unset, .unset, .unset, .unset, .unset] [] := by first | (simp [entryFrame, mkF, argsToLocals, Value.category, maxLocals]; done) | rfl
def Q0 (Z : State) (pp1 : Int32) (pp2 : Int32) (pp3 : Int32) (pp4 : Int32) (pp5 : Int32) (h0 : Heap) (n0 : Nat) (v : Option Value) (h : Heap) (L : List Loc) : Prop := v = some (.int 1) ∧ Fr n0 L
set_option maxRecDepth 65536 in
set_option maxHeartbeats 40000000 in
theorem rm0 (l : Launch) (Z : State) (a0 : Array Value) (hw : ∀ d ∈ tables_1, d.before a0 Z = true) (ws : List Jvm.Cond) (pp1 : Int32) (pp2 : Int32) (pp3 : Int32) (pp4 : Int32) (pp5 : Int32) (h0 : Heap) (n0 : Nat) (Z0 : n0 ≤ h0.size) :
    MetFree l x (head1 (Jvm.Cond.code x code maxLocals ret :: ws) room_1) (fun a U => a = #[(.int pp1), (.int pp2), (.int pp3), (.int pp4), (.int pp5)] ∧ Z.Warmed39 U.vm ∧ U.heap = h0) (fun _ _ _ _ _ => True) (fun _ U o U' => ∃ v L, o = .returned v ∧ Q0 Z pp1 pp2 pp3 pp4 pp5 h0 n0 v U'.heap L ∧ FrameEnd U o U' L room_1.cells room_1.slots) := by
  refine MetFree.of_bodySF (plainFor_of_name pn_com_example_splitgrain_splitgrain_parse_ChartItemsClearPlacesPinLaw) hisR ?_
  intro p e s m args below meth c s₁ Bd hml0 hP hK
  obtain ⟨rfl, hZ, hh⟩ := hP
  have hx := Bd.exec
  have hby := Bd.bytes
  have hml : c.maxLocals = 14 := hml0
  have hown : s.vm.findClass "com/example/splitgrain/splitgrain/parse/ChartItemsClearPlacesPinLaw" = some m.cls := findClass_of_methodNamed Bd.named
  have hnm := (name_of_methodNamed Bd.named Bd.method).1
  have X0 : Stand p l e room_1 s m #[(.int pp1), (.int pp2), (.int pp3), (.int pp4), (.int pp5)] below meth c s₁ [] 0 0 := Stand.of_body Bd
  have e0 : s₁.heap = h0 := by rw [← hh, Bd.state]; rfl
  have N0 := Fr.nil n0
  have pre0 : ∀ t, Steps p.tables e below (s₁.setTop (mkF m 0 #[.val (.int pp1), .val (.int pp2), .val (.int pp3), .val (.int pp4), .val (.int pp5), .unset, .unset, .unset, .unset, .unset, .unset, .unset, .unset, .unset] [])) t → Steps p.tables e below (s₁.setTop (entryFrame m #[(.int pp1), (.int pp2), (.int pp3), (.int pp4), (.int pp5)] maxLocals)) t := fun t k => castTop (ef_0 m pp1 pp2 pp3 pp4 pp5) k
  have hc5 : (5 : Int32) ≠ (0 : Int32) := (by decide)
  have pre1 : ∀ t, Steps p.tables e below (s₁.setTop (mkF m 38 #[.val (.int pp1), .val (.int pp2), .val (.int pp3), .val (.int pp4), .val (.int pp5), .val (.int ((pp1 &&& (7 : Int32)) % (5 : Int32))), .val (.int (((pp1.toUInt32 >>> ((3 : Int32) &&& 31).toUInt32).toInt32) &&& (3 : Int32))), .val (.int (((pp1.toUInt32 >>> ((5 : Int32) &&& 31).toUInt32).toInt32) &&& (3 : Int32))), .val (.int (((pp1.toUInt32 >>> ((7 : Int32) &&& 31).toUInt32).toInt32) &&& (3 : Int32))), .val (.int (((pp1.toUInt32 >>> ((9 : Int32) &&& 31).toUInt32).toInt32) &&& (3 : Int32))), .unset, .unset, .unset, .unset] [])) t → Steps p.tables e below (s₁.setTop (entryFrame m #[(.int pp1), (.int pp2), (.int pp3), (.int pp4), (.int pp5)] maxLocals)) t := fun t kt => pre0 t (by
    show Steps p.tables e below (s₁.setTop (mkF m 0 #[.val (.int pp1), .val (.int pp2), .val (.int pp3), .val (.int pp4), .val (.int pp5), .unset, .unset, .unset, .unset, .unset, .unset, .unset, .unset, .unset] [])) _
    refine XS.iloadN X0.here hx rfl (hb hby at_0) rfl ?_
    show Steps p.tables e below (s₁.setTop (mkF m 1 #[.val (.int pp1), .val (.int pp2), .val (.int pp3), .val (.int pp4), .val (.int pp5), .unset, .unset, .unset, .unset, .unset, .unset, .unset, .unset, .unset] [(.int pp1)])) _
    refine XS.bipush X0.here hx rfl (hb hby at_1) ?_
    show Steps p.tables e below (s₁.setTop (mkF m 3 #[.val (.int pp1), .val (.int pp2), .val (.int pp3), .val (.int pp4), .val (.int pp5), .unset, .unset, .unset, .unset, .unset, .unset, .unset, .unset, .unset] [(.int (7 : Int32)), (.int pp1)])) _
    refine XS.iand X0.here hx rfl (hb hby at_3) rfl ?_
    show Steps p.tables e below (s₁.setTop (mkF m 4 #[.val (.int pp1), .val (.int pp2), .val (.int pp3), .val (.int pp4), .val (.int pp5), .unset, .unset, .unset, .unset, .unset, .unset, .unset, .unset, .unset] [(.int (pp1 &&& (7 : Int32)))])) _
    refine XS.iconst X0.here hx rfl (hb hby at_4) ?_
    show Steps p.tables e below (s₁.setTop (mkF m 5 #[.val (.int pp1), .val (.int pp2), .val (.int pp3), .val (.int pp4), .val (.int pp5), .unset, .unset, .unset, .unset, .unset, .unset, .unset, .unset, .unset] [(.int (5 : Int32)), (.int (pp1 &&& (7 : Int32)))])) _
    refine iremM (g := (mkF m 5 #[.val (.int pp1), .val (.int pp2), .val (.int pp3), .val (.int pp4), .val (.int pp5), .unset, .unset, .unset, .unset, .unset, .unset, .unset, .unset, .unset] [(.int (5 : Int32)), (.int (pp1 &&& (7 : Int32)))])) X0 hx rfl (hb hby at_5) rfl hc5 ?_
    show Steps p.tables e below (s₁.setTop (mkF m 6 #[.val (.int pp1), .val (.int pp2), .val (.int pp3), .val (.int pp4), .val (.int pp5), .unset, .unset, .unset, .unset, .unset, .unset, .unset, .unset, .unset] [(.int ((pp1 &&& (7 : Int32)) % (5 : Int32)))])) _
    refine XS.istore X0.here hx rfl (hb hby at_6) rfl (l' := #[.val (.int pp1), .val (.int pp2), .val (.int pp3), .val (.int pp4), .val (.int pp5), .val (.int ((pp1 &&& (7 : Int32)) % (5 : Int32))), .unset, .unset, .unset, .unset, .unset, .unset, .unset, .unset]) rfl ?_
    show Steps p.tables e below (s₁.setTop (mkF m 8 #[.val (.int pp1), .val (.int pp2), .val (.int pp3), .val (.int pp4), .val (.int pp5), .val (.int ((pp1 &&& (7 : Int32)) % (5 : Int32))), .unset, .unset, .unset, .unset, .unset, .unset, .unset, .unset] [])) _
    refine XS.iloadN X0.here hx rfl (hb hby at_8) rfl ?_
    show Steps p.tables e below (s₁.setTop (mkF m 9 #[.val (.int pp1), .val (.int pp2), .val (.int pp3), .val (.int pp4), .val (.int pp5), .val (.int ((pp1 &&& (7 : Int32)) % (5 : Int32))), .unset, .unset, .unset, .unset, .unset, .unset, .unset, .unset] [(.int pp1)])) _
    refine XS.iconst X0.here hx rfl (hb hby at_9) ?_
    show Steps p.tables e below (s₁.setTop (mkF m 10 #[.val (.int pp1), .val (.int pp2), .val (.int pp3), .val (.int pp4), .val (.int pp5), .val (.int ((pp1 &&& (7 : Int32)) % (5 : Int32))), .unset, .unset, .unset, .unset, .unset, .unset, .unset, .unset] [(.int (3 : Int32)), (.int pp1)])) _
    refine XS.iushr X0.here hx rfl (hb hby at_10) rfl ?_
    show Steps p.tables e below (s₁.setTop (mkF m 11 #[.val (.int pp1), .val (.int pp2), .val (.int pp3), .val (.int pp4), .val (.int pp5), .val (.int ((pp1 &&& (7 : Int32)) % (5 : Int32))), .unset, .unset, .unset, .unset, .unset, .unset, .unset, .unset] [(.int ((pp1.toUInt32 >>> ((3 : Int32) &&& 31).toUInt32).toInt32))])) _
    refine XS.iconst X0.here hx rfl (hb hby at_11) ?_
    show Steps p.tables e below (s₁.setTop (mkF m 12 #[.val (.int pp1), .val (.int pp2), .val (.int pp3), .val (.int pp4), .val (.int pp5), .val (.int ((pp1 &&& (7 : Int32)) % (5 : Int32))), .unset, .unset, .unset, .unset, .unset, .unset, .unset, .unset] [(.int (3 : Int32)), (.int ((pp1.toUInt32 >>> ((3 : Int32) &&& 31).toUInt32).toInt32))])) _
    refine XS.iand X0.here hx rfl (hb hby at_12) rfl ?_
    show Steps p.tables e below (s₁.setTop (mkF m 13 #[.val (.int pp1), .val (.int pp2), .val (.int pp3), .val (.int pp4), .val (.int pp5), .val (.int ((pp1 &&& (7 : Int32)) % (5 : Int32))), .unset, .unset, .unset, .unset, .unset, .unset, .unset, .unset] [(.int (((pp1.toUInt32 >>> ((3 : Int32) &&& 31).toUInt32).toInt32) &&& (3 : Int32)))])) _
    refine XS.istore X0.here hx rfl (hb hby at_13) rfl (l' := #[.val (.int pp1), .val (.int pp2), .val (.int pp3), .val (.int pp4), .val (.int pp5), .val (.int ((pp1 &&& (7 : Int32)) % (5 : Int32))), .val (.int (((pp1.toUInt32 >>> ((3 : Int32) &&& 31).toUInt32).toInt32) &&& (3 : Int32))), .unset, .unset, .unset, .unset, .unset, .unset, .unset]) rfl ?_
    show Steps p.tables e below (s₁.setTop (mkF m 15 #[.val (.int pp1), .val (.int pp2), .val (.int pp3), .val (.int pp4), .val (.int pp5), .val (.int ((pp1 &&& (7 : Int32)) % (5 : Int32))), .val (.int (((pp1.toUInt32 >>> ((3 : Int32) &&& 31).toUInt32).toInt32) &&& (3 : Int32))), .unset, .unset, .unset, .unset, .unset, .unset, .unset] [])) _
    refine XS.iloadN X0.here hx rfl (hb hby at_15) rfl ?_
    show Steps p.tables e below (s₁.setTop (mkF m 16 #[.val (.int pp1), .val (.int pp2), .val (.int pp3), .val (.int pp4), .val (.int pp5), .val (.int ((pp1 &&& (7 : Int32)) % (5 : Int32))), .val (.int (((pp1.toUInt32 >>> ((3 : Int32) &&& 31).toUInt32).toInt32) &&& (3 : Int32))), .unset, .unset, .unset, .unset, .unset, .unset, .unset] [(.int pp1)])) _
    refine XS.iconst X0.here hx rfl (hb hby at_16) ?_
    show Steps p.tables e below (s₁.setTop (mkF m 17 #[.val (.int pp1), .val (.int pp2), .val (.int pp3), .val (.int pp4), .val (.int pp5), .val (.int ((pp1 &&& (7 : Int32)) % (5 : Int32))), .val (.int (((pp1.toUInt32 >>> ((3 : Int32) &&& 31).toUInt32).toInt32) &&& (3 : Int32))), .unset, .unset, .unset, .unset, .unset, .unset, .unset] [(.int (5 : Int32)), (.int pp1)])) _
    refine XS.iushr X0.here hx rfl (hb hby at_17) rfl ?_
    show Steps p.tables e below (s₁.setTop (mkF m 18 #[.val (.int pp1), .val (.int pp2), .val (.int pp3), .val (.int pp4), .val (.int pp5), .val (.int ((pp1 &&& (7 : Int32)) % (5 : Int32))), .val (.int (((pp1.toUInt32 >>> ((3 : Int32) &&& 31).toUInt32).toInt32) &&& (3 : Int32))), .unset, .unset, .unset, .unset, .unset, .unset, .unset] [(.int ((pp1.toUInt32 >>> ((5 : Int32) &&& 31).toUInt32).toInt32))])) _
    refine XS.iconst X0.here hx rfl (hb hby at_18) ?_
    show Steps p.tables e below (s₁.setTop (mkF m 19 #[.val (.int pp1), .val (.int pp2), .val (.int pp3), .val (.int pp4), .val (.int pp5), .val (.int ((pp1 &&& (7 : Int32)) % (5 : Int32))), .val (.int (((pp1.toUInt32 >>> ((3 : Int32) &&& 31).toUInt32).toInt32) &&& (3 : Int32))), .unset, .unset, .unset, .unset, .unset, .unset, .unset] [(.int (3 : Int32)), (.int ((pp1.toUInt32 >>> ((5 : Int32) &&& 31).toUInt32).toInt32))])) _
    refine XS.iand X0.here hx rfl (hb hby at_19) rfl ?_
    show Steps p.tables e below (s₁.setTop (mkF m 20 #[.val (.int pp1), .val (.int pp2), .val (.int pp3), .val (.int pp4), .val (.int pp5), .val (.int ((pp1 &&& (7 : Int32)) % (5 : Int32))), .val (.int (((pp1.toUInt32 >>> ((3 : Int32) &&& 31).toUInt32).toInt32) &&& (3 : Int32))), .unset, .unset, .unset, .unset, .unset, .unset, .unset] [(.int (((pp1.toUInt32 >>> ((5 : Int32) &&& 31).toUInt32).toInt32) &&& (3 : Int32)))])) _
    refine XS.istore X0.here hx rfl (hb hby at_20) rfl (l' := #[.val (.int pp1), .val (.int pp2), .val (.int pp3), .val (.int pp4), .val (.int pp5), .val (.int ((pp1 &&& (7 : Int32)) % (5 : Int32))), .val (.int (((pp1.toUInt32 >>> ((3 : Int32) &&& 31).toUInt32).toInt32) &&& (3 : Int32))), .val (.int (((pp1.toUInt32 >>> ((5 : Int32) &&& 31).toUInt32).toInt32) &&& (3 : Int32))), .unset, .unset, .unset, .unset, .unset, .unset]) rfl ?_
    show Steps p.tables e below (s₁.setTop (mkF m 22 #[.val (.int pp1), .val (.int pp2), .val (.int pp3), .val (.int pp4), .val (.int pp5), .val (.int ((pp1 &&& (7 : Int32)) % (5 : Int32))), .val (.int (((pp1.toUInt32 >>> ((3 : Int32) &&& 31).toUInt32).toInt32) &&& (3 : Int32))), .val (.int (((pp1.toUInt32 >>> ((5 : Int32) &&& 31).toUInt32).toInt32) &&& (3 : Int32))), .unset, .unset, .unset, .unset, .unset, .unset] [])) _
    refine XS.iloadN X0.here hx rfl (hb hby at_22) rfl ?_
    show Steps p.tables e below (s₁.setTop (mkF m 23 #[.val (.int pp1), .val (.int pp2), .val (.int pp3), .val (.int pp4), .val (.int pp5), .val (.int ((pp1 &&& (7 : Int32)) % (5 : Int32))), .val (.int (((pp1.toUInt32 >>> ((3 : Int32) &&& 31).toUInt32).toInt32) &&& (3 : Int32))), .val (.int (((pp1.toUInt32 >>> ((5 : Int32) &&& 31).toUInt32).toInt32) &&& (3 : Int32))), .unset, .unset, .unset, .unset, .unset, .unset] [(.int pp1)])) _
    refine XS.bipush X0.here hx rfl (hb hby at_23) ?_
    show Steps p.tables e below (s₁.setTop (mkF m 25 #[.val (.int pp1), .val (.int pp2), .val (.int pp3), .val (.int pp4), .val (.int pp5), .val (.int ((pp1 &&& (7 : Int32)) % (5 : Int32))), .val (.int (((pp1.toUInt32 >>> ((3 : Int32) &&& 31).toUInt32).toInt32) &&& (3 : Int32))), .val (.int (((pp1.toUInt32 >>> ((5 : Int32) &&& 31).toUInt32).toInt32) &&& (3 : Int32))), .unset, .unset, .unset, .unset, .unset, .unset] [(.int (7 : Int32)), (.int pp1)])) _
    refine XS.iushr X0.here hx rfl (hb hby at_25) rfl ?_
    show Steps p.tables e below (s₁.setTop (mkF m 26 #[.val (.int pp1), .val (.int pp2), .val (.int pp3), .val (.int pp4), .val (.int pp5), .val (.int ((pp1 &&& (7 : Int32)) % (5 : Int32))), .val (.int (((pp1.toUInt32 >>> ((3 : Int32) &&& 31).toUInt32).toInt32) &&& (3 : Int32))), .val (.int (((pp1.toUInt32 >>> ((5 : Int32) &&& 31).toUInt32).toInt32) &&& (3 : Int32))), .unset, .unset, .unset, .unset, .unset, .unset] [(.int ((pp1.toUInt32 >>> ((7 : Int32) &&& 31).toUInt32).toInt32))])) _
    refine XS.iconst X0.here hx rfl (hb hby at_26) ?_
    show Steps p.tables e below (s₁.setTop (mkF m 27 #[.val (.int pp1), .val (.int pp2), .val (.int pp3), .val (.int pp4), .val (.int pp5), .val (.int ((pp1 &&& (7 : Int32)) % (5 : Int32))), .val (.int (((pp1.toUInt32 >>> ((3 : Int32) &&& 31).toUInt32).toInt32) &&& (3 : Int32))), .val (.int (((pp1.toUInt32 >>> ((5 : Int32) &&& 31).toUInt32).toInt32) &&& (3 : Int32))), .unset, .unset, .unset, .unset, .unset, .unset] [(.int (3 : Int32)), (.int ((pp1.toUInt32 >>> ((7 : Int32) &&& 31).toUInt32).toInt32))])) _
    refine XS.iand X0.here hx rfl (hb hby at_27) rfl ?_
    show Steps p.tables e below (s₁.setTop (mkF m 28 #[.val (.int pp1), .val (.int pp2), .val (.int pp3), .val (.int pp4), .val (.int pp5), .val (.int ((pp1 &&& (7 : Int32)) % (5 : Int32))), .val (.int (((pp1.toUInt32 >>> ((3 : Int32) &&& 31).toUInt32).toInt32) &&& (3 : Int32))), .val (.int (((pp1.toUInt32 >>> ((5 : Int32) &&& 31).toUInt32).toInt32) &&& (3 : Int32))), .unset, .unset, .unset, .unset, .unset, .unset] [(.int (((pp1.toUInt32 >>> ((7 : Int32) &&& 31).toUInt32).toInt32) &&& (3 : Int32)))])) _
    refine XS.istore X0.here hx rfl (hb hby at_28) rfl (l' := #[.val (.int pp1), .val (.int pp2), .val (.int pp3), .val (.int pp4), .val (.int pp5), .val (.int ((pp1 &&& (7 : Int32)) % (5 : Int32))), .val (.int (((pp1.toUInt32 >>> ((3 : Int32) &&& 31).toUInt32).toInt32) &&& (3 : Int32))), .val (.int (((pp1.toUInt32 >>> ((5 : Int32) &&& 31).toUInt32).toInt32) &&& (3 : Int32))), .val (.int (((pp1.toUInt32 >>> ((7 : Int32) &&& 31).toUInt32).toInt32) &&& (3 : Int32))), .unset, .unset, .unset, .unset, .unset]) rfl ?_
    show Steps p.tables e below (s₁.setTop (mkF m 30 #[.val (.int pp1), .val (.int pp2), .val (.int pp3), .val (.int pp4), .val (.int pp5), .val (.int ((pp1 &&& (7 : Int32)) % (5 : Int32))), .val (.int (((pp1.toUInt32 >>> ((3 : Int32) &&& 31).toUInt32).toInt32) &&& (3 : Int32))), .val (.int (((pp1.toUInt32 >>> ((5 : Int32) &&& 31).toUInt32).toInt32) &&& (3 : Int32))), .val (.int (((pp1.toUInt32 >>> ((7 : Int32) &&& 31).toUInt32).toInt32) &&& (3 : Int32))), .unset, .unset, .unset, .unset, .unset] [])) _
    refine XS.iloadN X0.here hx rfl (hb hby at_30) rfl ?_
    show Steps p.tables e below (s₁.setTop (mkF m 31 #[.val (.int pp1), .val (.int pp2), .val (.int pp3), .val (.int pp4), .val (.int pp5), .val (.int ((pp1 &&& (7 : Int32)) % (5 : Int32))), .val (.int (((pp1.toUInt32 >>> ((3 : Int32) &&& 31).toUInt32).toInt32) &&& (3 : Int32))), .val (.int (((pp1.toUInt32 >>> ((5 : Int32) &&& 31).toUInt32).toInt32) &&& (3 : Int32))), .val (.int (((pp1.toUInt32 >>> ((7 : Int32) &&& 31).toUInt32).toInt32) &&& (3 : Int32))), .unset, .unset, .unset, .unset, .unset] [(.int pp1)])) _
    refine XS.bipush X0.here hx rfl (hb hby at_31) ?_
    show Steps p.tables e below (s₁.setTop (mkF m 33 #[.val (.int pp1), .val (.int pp2), .val (.int pp3), .val (.int pp4), .val (.int pp5), .val (.int ((pp1 &&& (7 : Int32)) % (5 : Int32))), .val (.int (((pp1.toUInt32 >>> ((3 : Int32) &&& 31).toUInt32).toInt32) &&& (3 : Int32))), .val (.int (((pp1.toUInt32 >>> ((5 : Int32) &&& 31).toUInt32).toInt32) &&& (3 : Int32))), .val (.int (((pp1.toUInt32 >>> ((7 : Int32) &&& 31).toUInt32).toInt32) &&& (3 : Int32))), .unset, .unset, .unset, .unset, .unset] [(.int (9 : Int32)), (.int pp1)])) _
    refine XS.iushr X0.here hx rfl (hb hby at_33) rfl ?_
    show Steps p.tables e below (s₁.setTop (mkF m 34 #[.val (.int pp1), .val (.int pp2), .val (.int pp3), .val (.int pp4), .val (.int pp5), .val (.int ((pp1 &&& (7 : Int32)) % (5 : Int32))), .val (.int (((pp1.toUInt32 >>> ((3 : Int32) &&& 31).toUInt32).toInt32) &&& (3 : Int32))), .val (.int (((pp1.toUInt32 >>> ((5 : Int32) &&& 31).toUInt32).toInt32) &&& (3 : Int32))), .val (.int (((pp1.toUInt32 >>> ((7 : Int32) &&& 31).toUInt32).toInt32) &&& (3 : Int32))), .unset, .unset, .unset, .unset, .unset] [(.int ((pp1.toUInt32 >>> ((9 : Int32) &&& 31).toUInt32).toInt32))])) _
    refine XS.iconst X0.here hx rfl (hb hby at_34) ?_
    show Steps p.tables e below (s₁.setTop (mkF m 35 #[.val (.int pp1), .val (.int pp2), .val (.int pp3), .val (.int pp4), .val (.int pp5), .val (.int ((pp1 &&& (7 : Int32)) % (5 : Int32))), .val (.int (((pp1.toUInt32 >>> ((3 : Int32) &&& 31).toUInt32).toInt32) &&& (3 : Int32))), .val (.int (((pp1.toUInt32 >>> ((5 : Int32) &&& 31).toUInt32).toInt32) &&& (3 : Int32))), .val (.int (((pp1.toUInt32 >>> ((7 : Int32) &&& 31).toUInt32).toInt32) &&& (3 : Int32))), .unset, .unset, .unset, .unset, .unset] [(.int (3 : Int32)), (.int ((pp1.toUInt32 >>> ((9 : Int32) &&& 31).toUInt32).toInt32))])) _
    refine XS.iand X0.here hx rfl (hb hby at_35) rfl ?_
    show Steps p.tables e below (s₁.setTop (mkF m 36 #[.val (.int pp1), .val (.int pp2), .val (.int pp3), .val (.int pp4), .val (.int pp5), .val (.int ((pp1 &&& (7 : Int32)) % (5 : Int32))), .val (.int (((pp1.toUInt32 >>> ((3 : Int32) &&& 31).toUInt32).toInt32) &&& (3 : Int32))), .val (.int (((pp1.toUInt32 >>> ((5 : Int32) &&& 31).toUInt32).toInt32) &&& (3 : Int32))), .val (.int (((pp1.toUInt32 >>> ((7 : Int32) &&& 31).toUInt32).toInt32) &&& (3 : Int32))), .unset, .unset, .unset, .unset, .unset] [(.int (((pp1.toUInt32 >>> ((9 : Int32) &&& 31).toUInt32).toInt32) &&& (3 : Int32)))])) _
    refine XS.istore X0.here hx rfl (hb hby at_36) rfl (l' := #[.val (.int pp1), .val (.int pp2), .val (.int pp3), .val (.int pp4), .val (.int pp5), .val (.int ((pp1 &&& (7 : Int32)) % (5 : Int32))), .val (.int (((pp1.toUInt32 >>> ((3 : Int32) &&& 31).toUInt32).toInt32) &&& (3 : Int32))), .val (.int (((pp1.toUInt32 >>> ((5 : Int32) &&& 31).toUInt32).toInt32) &&& (3 : Int32))), .val (.int (((pp1.toUInt32 >>> ((7 : Int32) &&& 31).toUInt32).toInt32) &&& (3 : Int32))), .val (.int (((pp1.toUInt32 >>> ((9 : Int32) &&& 31).toUInt32).toInt32) &&& (3 : Int32))), .unset, .unset, .unset, .unset]) rfl ?_
    exact kt)
  obtain ⟨nn, i0, i1, i2, i3, h_nn, h_i0, h_i1, h_i2, h_i3, pre2⟩ : ∃ (nn : Int32) (i0 : Int32) (i1 : Int32) (i2 : Int32) (i3 : Int32), (nn = (0 : Int32) ∨ nn = (1 : Int32) ∨ nn = (2 : Int32) ∨ nn = (3 : Int32) ∨ nn = (4 : Int32)) ∧ (¬ i0 < (0 : Int32) ∧ i0 < (4 : Int32)) ∧ (¬ i1 < (0 : Int32) ∧ i1 < (4 : Int32)) ∧ (¬ i2 < (0 : Int32) ∧ i2 < (4 : Int32)) ∧ (¬ i3 < (0 : Int32) ∧ i3 < (4 : Int32)) ∧ ∀ t, Steps p.tables e below (s₁.setTop (mkF m 38 #[.val (.int pp1), .val (.int pp2), .val (.int pp3), .val (.int pp4), .val (.int pp5), .val (.int nn), .val (.int i0), .val (.int i1), .val (.int i2), .val (.int i3), .unset, .unset, .unset, .unset] [])) t → Steps p.tables e below (s₁.setTop (entryFrame m #[(.int pp1), (.int pp2), (.int pp3), (.int pp4), (.int pp5)] maxLocals)) t := ⟨((pp1 &&& (7 : Int32)) % (5 : Int32)), (((pp1.toUInt32 >>> ((3 : Int32) &&& 31).toUInt32).toInt32) &&& (3 : Int32)), (((pp1.toUInt32 >>> ((5 : Int32) &&& 31).toUInt32).toInt32) &&& (3 : Int32)), (((pp1.toUInt32 >>> ((7 : Int32) &&& 31).toUInt32).toInt32) &&& (3 : Int32)), (((pp1.toUInt32 >>> ((9 : Int32) &&& 31).toUInt32).toInt32) &&& (3 : Int32)), own_five _, own_bnd _, own_bnd _, own_bnd _, own_bnd _, pre1⟩
  rcases h_nn with rfl | rfl | rfl | rfl | rfl
  · skip
    obtain ⟨T3, h3, k3, X3, e3, E3, A3, st3⟩ := newP X0 hx hZ (hw _ (List.mem_of_getElem? (i := 0) rfl)) e0 (g := (mkF m 40 #[.val (.int pp1), .val (.int pp2), .val (.int pp3), .val (.int pp4), .val (.int pp5), .val (.int (0 : Int32)), .val (.int i0), .val (.int i1), .val (.int i2), .val (.int i3), .unset, .unset, .unset, .unset] [(.int (0 : Int32))])) rfl (hb hby at_40) rfl (by decide) (cap := 0) (by decide) (by decide) (by decide) (by decide)
    obtain ⟨b3, g3⟩ : ∃ z, z = h0.size := ⟨_, rfl⟩
    rw [← g3] at A3 st3
    have g_b3 : n0 ≤ b3 := Nat.le_trans Z0 (Nat.le_of_eq g3.symm)
    have Z3 : n0 ≤ h3.size := Nat.le_trans Z0 E3.1
    have V3 : Arv Z h3 b3 k3 .int (0 : Int32) [] (.int (0 : Int32)) := (Arv.new A3 (by decide)).pad (pad_rep [] (.int (0 : Int32)) 0)
    have hc46 : ¬ ((0 : Int32) < (0 : Int32)) := by decide
    have hc58 : ¬ ((1 : Int32) < (0 : Int32)) := by decide
    have hc70 : ¬ ((2 : Int32) < (0 : Int32)) := by decide
    have hc82 : ¬ ((3 : Int32) < (0 : Int32)) := by decide
    obtain ⟨T4, h4, k4, X4, e4, E4, A4, st4⟩ := newP X3 hx hZ (hw _ (List.mem_of_getElem? (i := 0) rfl)) e3 (g := (mkF m 92 #[.val (.int pp1), .val (.int pp2), .val (.int pp3), .val (.int pp4), .val (.int pp5), .val (.int (0 : Int32)), .val (.int i0), .val (.int i1), .val (.int i2), .val (.int i3), .val (.ref b3), .unset, .unset, .unset] [(.int (4 : Int32))])) rfl (hb hby at_92) rfl (by decide) (cap := 4) (by decide) (by decide) (by decide) (by decide)
    obtain ⟨b4, g4⟩ : ∃ z, z = h3.size := ⟨_, rfl⟩
    rw [← g4] at A4 st4
    have g_b4 : n0 ≤ b4 := Nat.le_trans Z3 (Nat.le_of_eq g4.symm)
    have Z4 : n0 ≤ h4.size := Nat.le_trans Z3 E4.1
    have V4 : Arv Z h4 b4 k4 .int (4 : Int32) [(.int (0 : Int32)), (.int (0 : Int32)), (.int (0 : Int32)), (.int (0 : Int32))] (.int (0 : Int32)) := (Arv.new A4 (by decide)).pad (pad_rep [] (.int (0 : Int32)) 4)
    obtain ⟨cl_5, Ar_5, qq_5, Sz_5, Nn_5, Hh_5, Gg_5⟩ := id V4
    have hin_5 : ¬ ((0 : Int32) < 0 ∨ cl_5.slots.size ≤ ((0 : Int32)).toNatClampNeg) := inb_of Sz_5 ⟨by decide, by decide⟩
    obtain ⟨T6, h6, X6, e6, W6, st6⟩ := stI X4 hx hZ e4 Ar_5 (j := (0 : Int32)) hin_5 (g := (mkF m 97 #[.val (.int pp1), .val (.int pp2), .val (.int pp3), .val (.int pp4), .val (.int pp5), .val (.int (0 : Int32)), .val (.int i0), .val (.int i1), .val (.int i2), .val (.int i3), .val (.ref b3), .unset, .unset, .unset] [(.int pp2), (.int (0 : Int32)), (.ref b4), (.ref b4)])) rfl rfl (hb hby at_97)
    have N6 := Fr.snoc X6 N0 g_b4
    have Z6 : n0 ≤ h6.size := Nat.le_trans Z4 (Keep.of_wr W6).1
    have V6 : Arv Z h6 b4 k4 .int (4 : Int32) [(.int pp2), (.int (0 : Int32)), (.int (0 : Int32)), (.int (0 : Int32))] (.int (0 : Int32)) := Arv.set Ar_5 qq_5 Sz_5 Nn_5 Hh_5 Gg_5 rfl W6 0 rfl (Nat.le_of_ble_eq_true rfl)
    obtain ⟨cl_7, Ar_7, qq_7, Sz_7, Nn_7, Hh_7, Gg_7⟩ := id V6
    have hin_7 : ¬ ((1 : Int32) < 0 ∨ cl_7.slots.size ≤ ((1 : Int32)).toNatClampNeg) := inb_of Sz_7 ⟨by decide, by decide⟩
    obtain ⟨T8, h8, X8, e8, W8, st8⟩ := stI X6 hx hZ e6 Ar_7 (j := (1 : Int32)) hin_7 (g := (mkF m 101 #[.val (.int pp1), .val (.int pp2), .val (.int pp3), .val (.int pp4), .val (.int pp5), .val (.int (0 : Int32)), .val (.int i0), .val (.int i1), .val (.int i2), .val (.int i3), .val (.ref b3), .unset, .unset, .unset] [(.int pp3), (.int (1 : Int32)), (.ref b4), (.ref b4)])) rfl rfl (hb hby at_101)
    have N8 := Fr.snoc X8 N6 g_b4
    have Z8 : n0 ≤ h8.size := Nat.le_trans Z6 (Keep.of_wr W8).1
    have V8 : Arv Z h8 b4 k4 .int (4 : Int32) [(.int pp2), (.int pp3), (.int (0 : Int32)), (.int (0 : Int32))] (.int (0 : Int32)) := Arv.set Ar_7 qq_7 Sz_7 Nn_7 Hh_7 Gg_7 rfl W8 1 rfl (Nat.le_of_ble_eq_true rfl)
    obtain ⟨cl_9, Ar_9, qq_9, Sz_9, Nn_9, Hh_9, Gg_9⟩ := id V8
    have hin_9 : ¬ ((2 : Int32) < 0 ∨ cl_9.slots.size ≤ ((2 : Int32)).toNatClampNeg) := inb_of Sz_9 ⟨by decide, by decide⟩
    obtain ⟨T10, h10, X10, e10, W10, st10⟩ := stI X8 hx hZ e8 Ar_9 (j := (2 : Int32)) hin_9 (g := (mkF m 105 #[.val (.int pp1), .val (.int pp2), .val (.int pp3), .val (.int pp4), .val (.int pp5), .val (.int (0 : Int32)), .val (.int i0), .val (.int i1), .val (.int i2), .val (.int i3), .val (.ref b3), .unset, .unset, .unset] [(.int pp4), (.int (2 : Int32)), (.ref b4), (.ref b4)])) rfl rfl (hb hby at_105)
    have N10 := Fr.snoc X10 N8 g_b4
    have Z10 : n0 ≤ h10.size := Nat.le_trans Z8 (Keep.of_wr W10).1
    have V10 : Arv Z h10 b4 k4 .int (4 : Int32) [(.int pp2), (.int pp3), (.int pp4), (.int (0 : Int32))] (.int (0 : Int32)) := Arv.set Ar_9 qq_9 Sz_9 Nn_9 Hh_9 Gg_9 rfl W10 2 rfl (Nat.le_of_ble_eq_true rfl)
    obtain ⟨cl_11, Ar_11, qq_11, Sz_11, Nn_11, Hh_11, Gg_11⟩ := id V10
    have hin_11 : ¬ ((3 : Int32) < 0 ∨ cl_11.slots.size ≤ ((3 : Int32)).toNatClampNeg) := inb_of Sz_11 ⟨by decide, by decide⟩
    obtain ⟨T12, h12, X12, e12, W12, st12⟩ := stI X10 hx hZ e10 Ar_11 (j := (3 : Int32)) hin_11 (g := (mkF m 110 #[.val (.int pp1), .val (.int pp2), .val (.int pp3), .val (.int pp4), .val (.int pp5), .val (.int (0 : Int32)), .val (.int i0), .val (.int i1), .val (.int i2), .val (.int i3), .val (.ref b3), .unset, .unset, .unset] [(.int pp5), (.int (3 : Int32)), (.ref b4), (.ref b4)])) rfl rfl (hb hby at_110)
    have N12 := Fr.snoc X12 N10 g_b4
    have Z12 : n0 ≤ h12.size := Nat.le_trans Z10 (Keep.of_wr W12).1
    have V12 : Arv Z h12 b4 k4 .int (4 : Int32) [(.int pp2), (.int pp3), (.int pp4), (.int pp5)] (.int (0 : Int32)) := Arv.set Ar_11 qq_11 Sz_11 Nn_11 Hh_11 Gg_11 rfl W12 3 rfl (Nat.le_of_ble_eq_true rfl)
    have V_13 : Arv Z h12 b3 k3 .int (0 : Int32) [] (.int (0 : Int32)) := (((((V3.ext E4).other W6 (Nat.ne_of_lt (Nat.lt_of_lt_of_le V3.lt (Nat.le_of_eq g4.symm)))).other W8 (Nat.ne_of_lt (Nat.lt_of_lt_of_le V3.lt (Nat.le_of_eq g4.symm)))).other W10 (Nat.ne_of_lt (Nat.lt_of_lt_of_le V3.lt (Nat.le_of_eq g4.symm)))).other W12 (Nat.ne_of_lt (Nat.lt_of_lt_of_le V3.lt (Nat.le_of_eq g4.symm))))
    obtain ⟨_, _, ⟨T14, L14, k14, n14⟩, -, X14, ⟨Lc14, hQ14, l14, y14, z14⟩, st14⟩ := Jvm.LawKit.callS X12 hx (y := (⟨"com/example/splitgrain/splitgrain/parse/ChartItems", "clearPlaces", "([I[I)V"⟩ : MethodName)) hown (mvT hZ (hw _ (List.mem_of_getElem? (i := 1) rfl))) (mvT hZ (hw _ (List.mem_of_getElem? (i := 2) rfl))) (mvT hZ (hw _ (List.mem_of_getElem? (i := 3) rfl))) (mvT hZ (hw _ (List.mem_of_getElem? (i := 4) rfl))) (by decide) (backOf (W := 0) (rm1_0 l Z a0 hw [] b3 b4 k3 k4 [(.int pp2), (.int pp3), (.int pp4), (.int pp5)] h12 n0 Z12 V_13 V12 g_b4 (Nat.ne_of_lt (Nat.lt_of_lt_of_le V3.lt (Nat.le_of_eq g4.symm))) (show [(.int pp2), (.int pp3), (.int pp4), (.int pp5)].length = 4 from rfl)) hZ (hw _ (List.mem_of_getElem? (i := 4) rfl)) (hw _ (List.mem_of_getElem? (i := 3) rfl)) (by decide) (by decide)) (g := (mkF m 117 #[.val (.int pp1), .val (.int pp2), .val (.int pp3), .val (.int pp4), .val (.int pp5), .val (.int (0 : Int32)), .val (.int i0), .val (.int i1), .val (.int i2), .val (.int i3), .val (.ref b3), .val (.ref b4), .unset, .unset] [(.ref b4), (.ref b3)])) rfl (by rw [hml]; rfl) (argsL := [(.ref b3), (.ref b4)]) (rest := []) (lenOf pd__28__5b_I_5b_I_29_V rfl) rfl (by show 2 * 0 + _ ≤ _; exact Nat.le_of_eq rfl) (hb hby at_117) (fun _ _ => ⟨rfl, e12, (by decide : 2 + 0 ≤ _), (by decide : 4 + 0 ≤ _)⟩)
    dsimp only [Pt.U, Pt.locs, Pt.cells, Pt.slots] at X14 l14 y14 z14 st14 hQ14
    subst l14 y14 z14
    obtain ⟨rfl, N14q, K14c, R14_0⟩ := hQ14
    have N14 := Fr.app N12 N14q
    have Z14 : n0 ≤ T14.heap.size := Nat.le_trans Z12 K14c.1
    obtain ⟨cl_15, Ar_15, -, Sz_15, Nn_15, -, -⟩ := id R14_0
    have hc124 : (4 : Int32) = (4 : Int32) := by decide
    obtain ⟨cl_16, Ar_16, qq_16, Sz_16, Nn_16, Hh_16, Gg_16⟩ := id R14_0
    have hin_16 : ¬ ((0 : Int32) < 0 ∨ cl_16.slots.size ≤ ((0 : Int32)).toNatClampNeg) := inb_of Sz_16 ⟨by decide, by decide⟩
    have hat_16 : cl_16.slots[((0 : Int32)).toNatClampNeg]? = some (.int pp2) := Has.at Hh_16 hin_16 rfl
    obtain ⟨_, _, ⟨T17, L17, k17, n17⟩, -, X17, ⟨Lc17, hQ17, l17, y17, z17⟩, st17⟩ := Jvm.LawKit.callS X14 hx (y := (⟨"com/example/splitgrain/splitgrain/parse/ChartItemsClearPlacesPinLaw", "expect", "(IIIIIII)I"⟩ : MethodName)) hown (mvT hZ (hw _ (List.mem_of_getElem? (i := 5) rfl))) (mvT hZ (hw _ (List.mem_of_getElem? (i := 6) rfl))) (mvT hZ (hw _ (List.mem_of_getElem? (i := 7) rfl))) (mvT hZ (hw _ (List.mem_of_getElem? (i := 8) rfl))) (by decide) (backOf (W := 1) (rm2_0 l Z a0 hw [] (0 : Int32) pp2 i0 i1 i2 i3 T14.heap n0 Z14 ) hZ (hw _ (List.mem_of_getElem? (i := 8) rfl)) (hw _ (List.mem_of_getElem? (i := 7) rfl)) (by decide) (by decide)) (g := (mkF m 143 #[.val (.int pp1), .val (.int pp2), .val (.int pp3), .val (.int pp4), .val (.int pp5), .val (.int (0 : Int32)), .val (.int i0), .val (.int i1), .val (.int i2), .val (.int i3), .val (.ref b3), .val (.ref b4), .unset, .unset] [(.int i3), (.int i2), (.int i1), (.int i0), (.int (0 : Int32)), (.int pp2), (.int (0 : Int32)), (.int pp2)])) rfl (by rw [hml]; rfl) (argsL := [(.int (0 : Int32)), (.int pp2), (.int (0 : Int32)), (.int i0), (.int i1), (.int i2), (.int i3)]) (rest := [(.int pp2)]) (lenOf pd__28_IIIIIII_29_I rfl) rfl (by show 2 * 0 + _ ≤ _; exact Nat.le_of_eq rfl) (hb hby at_143) (fun _ _ => ⟨rfl, rfl, (by decide : 2 + 0 ≤ _), (by decide : 4 + 0 ≤ _)⟩)
    dsimp only [Pt.U, Pt.locs, Pt.cells, Pt.slots] at X17 l17 y17 z17 st17 hQ17
    subst l17 y17 z17
    obtain ⟨rfl, N17q, e17⟩ := hQ17
    have N17 := Fr.app N14 N17q
    have hc146 : pp2 = pp2 := rfl
    obtain ⟨cl_18, Ar_18, qq_18, Sz_18, Nn_18, Hh_18, Gg_18⟩ := id R14_0
    have hin_18 : ¬ ((1 : Int32) < 0 ∨ cl_18.slots.size ≤ ((1 : Int32)).toNatClampNeg) := inb_of Sz_18 ⟨by decide, by decide⟩
    have hat_18 : cl_18.slots[((1 : Int32)).toNatClampNeg]? = some (.int pp3) := Has.at Hh_18 hin_18 rfl
    obtain ⟨_, _, ⟨T19, L19, k19, n19⟩, -, X19, ⟨Lc19, hQ19, l19, y19, z19⟩, st19⟩ := Jvm.LawKit.callS X17 hx (y := (⟨"com/example/splitgrain/splitgrain/parse/ChartItemsClearPlacesPinLaw", "expect", "(IIIIIII)I"⟩ : MethodName)) hown (mvT hZ (hw _ (List.mem_of_getElem? (i := 5) rfl))) (mvT hZ (hw _ (List.mem_of_getElem? (i := 6) rfl))) (mvT hZ (hw _ (List.mem_of_getElem? (i := 7) rfl))) (mvT hZ (hw _ (List.mem_of_getElem? (i := 8) rfl))) (by decide) (backOf (W := 1) (rm2_0 l Z a0 hw [] (1 : Int32) pp3 i0 i1 i2 i3 T14.heap n0 Z14 ) hZ (hw _ (List.mem_of_getElem? (i := 8) rfl)) (hw _ (List.mem_of_getElem? (i := 7) rfl)) (by decide) (by decide)) (g := (mkF m 165 #[.val (.int pp1), .val (.int pp2), .val (.int pp3), .val (.int pp4), .val (.int pp5), .val (.int (0 : Int32)), .val (.int i0), .val (.int i1), .val (.int i2), .val (.int i3), .val (.ref b3), .val (.ref b4), .unset, .unset] [(.int i3), (.int i2), (.int i1), (.int i0), (.int (0 : Int32)), (.int pp3), (.int (1 : Int32)), (.int pp3)])) rfl (by rw [hml]; rfl) (argsL := [(.int (1 : Int32)), (.int pp3), (.int (0 : Int32)), (.int i0), (.int i1), (.int i2), (.int i3)]) (rest := [(.int pp3)]) (lenOf pd__28_IIIIIII_29_I rfl) rfl (by show 2 * 0 + _ ≤ _; exact Nat.le_of_eq rfl) (hb hby at_165) (fun _ _ => ⟨rfl, e17, (by decide : 2 + 0 ≤ _), (by decide : 4 + 0 ≤ _)⟩)
    dsimp only [Pt.U, Pt.locs, Pt.cells, Pt.slots] at X19 l19 y19 z19 st19 hQ19
    subst l19 y19 z19
    obtain ⟨rfl, N19q, e19⟩ := hQ19
    have N19 := Fr.app N17 N19q
    have hc168 : pp3 = pp3 := rfl
    obtain ⟨cl_20, Ar_20, qq_20, Sz_20, Nn_20, Hh_20, Gg_20⟩ := id R14_0
    have hin_20 : ¬ ((2 : Int32) < 0 ∨ cl_20.slots.size ≤ ((2 : Int32)).toNatClampNeg) := inb_of Sz_20 ⟨by decide, by decide⟩
    have hat_20 : cl_20.slots[((2 : Int32)).toNatClampNeg]? = some (.int pp4) := Has.at Hh_20 hin_20 rfl
    obtain ⟨_, _, ⟨T21, L21, k21, n21⟩, -, X21, ⟨Lc21, hQ21, l21, y21, z21⟩, st21⟩ := Jvm.LawKit.callS X19 hx (y := (⟨"com/example/splitgrain/splitgrain/parse/ChartItemsClearPlacesPinLaw", "expect", "(IIIIIII)I"⟩ : MethodName)) hown (mvT hZ (hw _ (List.mem_of_getElem? (i := 5) rfl))) (mvT hZ (hw _ (List.mem_of_getElem? (i := 6) rfl))) (mvT hZ (hw _ (List.mem_of_getElem? (i := 7) rfl))) (mvT hZ (hw _ (List.mem_of_getElem? (i := 8) rfl))) (by decide) (backOf (W := 1) (rm2_0 l Z a0 hw [] (2 : Int32) pp4 i0 i1 i2 i3 T14.heap n0 Z14 ) hZ (hw _ (List.mem_of_getElem? (i := 8) rfl)) (hw _ (List.mem_of_getElem? (i := 7) rfl)) (by decide) (by decide)) (g := (mkF m 187 #[.val (.int pp1), .val (.int pp2), .val (.int pp3), .val (.int pp4), .val (.int pp5), .val (.int (0 : Int32)), .val (.int i0), .val (.int i1), .val (.int i2), .val (.int i3), .val (.ref b3), .val (.ref b4), .unset, .unset] [(.int i3), (.int i2), (.int i1), (.int i0), (.int (0 : Int32)), (.int pp4), (.int (2 : Int32)), (.int pp4)])) rfl (by rw [hml]; rfl) (argsL := [(.int (2 : Int32)), (.int pp4), (.int (0 : Int32)), (.int i0), (.int i1), (.int i2), (.int i3)]) (rest := [(.int pp4)]) (lenOf pd__28_IIIIIII_29_I rfl) rfl (by show 2 * 0 + _ ≤ _; exact Nat.le_of_eq rfl) (hb hby at_187) (fun _ _ => ⟨rfl, e19, (by decide : 2 + 0 ≤ _), (by decide : 4 + 0 ≤ _)⟩)
    dsimp only [Pt.U, Pt.locs, Pt.cells, Pt.slots] at X21 l21 y21 z21 st21 hQ21
    subst l21 y21 z21
    obtain ⟨rfl, N21q, e21⟩ := hQ21
    have N21 := Fr.app N19 N21q
    have hc190 : pp4 = pp4 := rfl
    obtain ⟨cl_22, Ar_22, qq_22, Sz_22, Nn_22, Hh_22, Gg_22⟩ := id R14_0
    have hin_22 : ¬ ((3 : Int32) < 0 ∨ cl_22.slots.size ≤ ((3 : Int32)).toNatClampNeg) := inb_of Sz_22 ⟨by decide, by decide⟩
    have hat_22 : cl_22.slots[((3 : Int32)).toNatClampNeg]? = some (.int pp5) := Has.at Hh_22 hin_22 rfl
    obtain ⟨_, _, ⟨T23, L23, k23, n23⟩, -, X23, ⟨Lc23, hQ23, l23, y23, z23⟩, st23⟩ := Jvm.LawKit.callS X21 hx (y := (⟨"com/example/splitgrain/splitgrain/parse/ChartItemsClearPlacesPinLaw", "expect", "(IIIIIII)I"⟩ : MethodName)) hown (mvT hZ (hw _ (List.mem_of_getElem? (i := 5) rfl))) (mvT hZ (hw _ (List.mem_of_getElem? (i := 6) rfl))) (mvT hZ (hw _ (List.mem_of_getElem? (i := 7) rfl))) (mvT hZ (hw _ (List.mem_of_getElem? (i := 8) rfl))) (by decide) (backOf (W := 1) (rm2_0 l Z a0 hw [] (3 : Int32) pp5 i0 i1 i2 i3 T14.heap n0 Z14 ) hZ (hw _ (List.mem_of_getElem? (i := 8) rfl)) (hw _ (List.mem_of_getElem? (i := 7) rfl)) (by decide) (by decide)) (g := (mkF m 210 #[.val (.int pp1), .val (.int pp2), .val (.int pp3), .val (.int pp4), .val (.int pp5), .val (.int (0 : Int32)), .val (.int i0), .val (.int i1), .val (.int i2), .val (.int i3), .val (.ref b3), .val (.ref b4), .unset, .unset] [(.int i3), (.int i2), (.int i1), (.int i0), (.int (0 : Int32)), (.int pp5), (.int (3 : Int32)), (.int pp5)])) rfl (by rw [hml]; rfl) (argsL := [(.int (3 : Int32)), (.int pp5), (.int (0 : Int32)), (.int i0), (.int i1), (.int i2), (.int i3)]) (rest := [(.int pp5)]) (lenOf pd__28_IIIIIII_29_I rfl) rfl (by show 2 * 0 + _ ≤ _; exact Nat.le_of_eq rfl) (hb hby at_210) (fun _ _ => ⟨rfl, e21, (by decide : 2 + 0 ≤ _), (by decide : 4 + 0 ≤ _)⟩)
    dsimp only [Pt.U, Pt.locs, Pt.cells, Pt.slots] at X23 l23 y23 z23 st23 hQ23
    subst l23 y23 z23
    obtain ⟨rfl, N23q, e23⟩ := hQ23
    have N23 := Fr.app N21 N23q
    have hc213 : pp5 = pp5 := rfl
    have V_24 : Arv Z T14.heap b3 k3 .int (0 : Int32) [] (.int (0 : Int32)) := (V_13.keep K14c (ninS (Nat.ne_of_lt (Nat.lt_of_lt_of_le V3.lt (Nat.le_of_eq g4.symm))) nin0))
    obtain ⟨cl_25, Ar_25, -, Sz_25, Nn_25, -, -⟩ := id V_24
    have hc228 : (0 : Int32) = (0 : Int32) := by decide
    have hc233 : ¬ ((0 : Int32) < (0 : Int32)) := by decide
    have hc248 : ¬ ((1 : Int32) < (0 : Int32)) := by decide
    have hc263 : ¬ ((2 : Int32) < (0 : Int32)) := by decide
    have hc278 : ¬ ((3 : Int32) < (0 : Int32)) := by decide
    have hc299 : ¬ ((1 : Int32) = (0 : Int32)) := by decide
    have hc304 : ¬ ((1 : Int32) = (0 : Int32)) := by decide
    obtain ⟨fs, hr, hrun, hended, hW, hsame⟩ := X23.leave (v := some (.int (1 : Int32))) (fun h => by rw [Bd.returns] at h; cases h)
    refine ⟨_, _, pre2 _ ?_, hrun, hended, _, _, rfl, ?_, ⟨_, rfl⟩, hW, hsame.mono (by decide) (by decide)⟩
    · show Steps p.tables e below (s₁.setTop (mkF m 38 #[.val (.int pp1), .val (.int pp2), .val (.int pp3), .val (.int pp4), .val (.int pp5), .val (.int (0 : Int32)), .val (.int i0), .val (.int i1), .val (.int i2), .val (.int i3), .unset, .unset, .unset, .unset] [])) _
      refine XS.iload X0.here hx rfl (hb hby at_38) rfl ?_
      show Steps p.tables e below (s₁.setTop (mkF m 40 #[.val (.int pp1), .val (.int pp2), .val (.int pp3), .val (.int pp4), .val (.int pp5), .val (.int (0 : Int32)), .val (.int i0), .val (.int i1), .val (.int i2), .val (.int i3), .unset, .unset, .unset, .unset] [(.int (0 : Int32))])) _
      refine st3 _ ?_
      show Steps p.tables e below (T3.setTop (mkF m 42 #[.val (.int pp1), .val (.int pp2), .val (.int pp3), .val (.int pp4), .val (.int pp5), .val (.int (0 : Int32)), .val (.int i0), .val (.int i1), .val (.int i2), .val (.int i3), .unset, .unset, .unset, .unset] [(.ref b3)])) _
      refine XS.astore X3.here hx rfl (hb hby at_42) rfl rfl (l' := #[.val (.int pp1), .val (.int pp2), .val (.int pp3), .val (.int pp4), .val (.int pp5), .val (.int (0 : Int32)), .val (.int i0), .val (.int i1), .val (.int i2), .val (.int i3), .val (.ref b3), .unset, .unset, .unset]) rfl ?_
      show Steps p.tables e below (T3.setTop (mkF m 44 #[.val (.int pp1), .val (.int pp2), .val (.int pp3), .val (.int pp4), .val (.int pp5), .val (.int (0 : Int32)), .val (.int i0), .val (.int i1), .val (.int i2), .val (.int i3), .val (.ref b3), .unset, .unset, .unset] [])) _
      refine XS.iload X3.here hx rfl (hb hby at_44) rfl ?_
      show Steps p.tables e below (T3.setTop (mkF m 46 #[.val (.int pp1), .val (.int pp2), .val (.int pp3), .val (.int pp4), .val (.int pp5), .val (.int (0 : Int32)), .val (.int i0), .val (.int i1), .val (.int i2), .val (.int i3), .val (.ref b3), .unset, .unset, .unset] [(.int (0 : Int32))])) _
      refine XS.ifYes X3.here hx rfl (pc0 := 46) (pc' := 55) rfl (hb hby at_46) rfl ((if0 _ _).trans (flt hc46).2.2.2) (by decide) (by decide) ?_
      show Steps p.tables e below (T3.setTop (mkF m 55 #[.val (.int pp1), .val (.int pp2), .val (.int pp3), .val (.int pp4), .val (.int pp5), .val (.int (0 : Int32)), .val (.int i0), .val (.int i1), .val (.int i2), .val (.int i3), .val (.ref b3), .unset, .unset, .unset] [])) _
      refine XS.iload X3.here hx rfl (hb hby at_55) rfl ?_
      show Steps p.tables e below (T3.setTop (mkF m 57 #[.val (.int pp1), .val (.int pp2), .val (.int pp3), .val (.int pp4), .val (.int pp5), .val (.int (0 : Int32)), .val (.int i0), .val (.int i1), .val (.int i2), .val (.int i3), .val (.ref b3), .unset, .unset, .unset] [(.int (0 : Int32))])) _
      refine XS.iconst X3.here hx rfl (hb hby at_57) ?_
      show Steps p.tables e below (T3.setTop (mkF m 58 #[.val (.int pp1), .val (.int pp2), .val (.int pp3), .val (.int pp4), .val (.int pp5), .val (.int (0 : Int32)), .val (.int i0), .val (.int i1), .val (.int i2), .val (.int i3), .val (.ref b3), .unset, .unset, .unset] [(.int (1 : Int32)), (.int (0 : Int32))])) _
      refine XS.icmpYes X3.here hx rfl (pc0 := 58) (pc' := 67) rfl (hb hby at_58) rfl (flt hc58).2.2.2 (by decide) (by decide) ?_
      show Steps p.tables e below (T3.setTop (mkF m 67 #[.val (.int pp1), .val (.int pp2), .val (.int pp3), .val (.int pp4), .val (.int pp5), .val (.int (0 : Int32)), .val (.int i0), .val (.int i1), .val (.int i2), .val (.int i3), .val (.ref b3), .unset, .unset, .unset] [])) _
      refine XS.iload X3.here hx rfl (hb hby at_67) rfl ?_
      show Steps p.tables e below (T3.setTop (mkF m 69 #[.val (.int pp1), .val (.int pp2), .val (.int pp3), .val (.int pp4), .val (.int pp5), .val (.int (0 : Int32)), .val (.int i0), .val (.int i1), .val (.int i2), .val (.int i3), .val (.ref b3), .unset, .unset, .unset] [(.int (0 : Int32))])) _
      refine XS.iconst X3.here hx rfl (hb hby at_69) ?_
      show Steps p.tables e below (T3.setTop (mkF m 70 #[.val (.int pp1), .val (.int pp2), .val (.int pp3), .val (.int pp4), .val (.int pp5), .val (.int (0 : Int32)), .val (.int i0), .val (.int i1), .val (.int i2), .val (.int i3), .val (.ref b3), .unset, .unset, .unset] [(.int (2 : Int32)), (.int (0 : Int32))])) _
      refine XS.icmpYes X3.here hx rfl (pc0 := 70) (pc' := 79) rfl (hb hby at_70) rfl (flt hc70).2.2.2 (by decide) (by decide) ?_
      show Steps p.tables e below (T3.setTop (mkF m 79 #[.val (.int pp1), .val (.int pp2), .val (.int pp3), .val (.int pp4), .val (.int pp5), .val (.int (0 : Int32)), .val (.int i0), .val (.int i1), .val (.int i2), .val (.int i3), .val (.ref b3), .unset, .unset, .unset] [])) _
      refine XS.iload X3.here hx rfl (hb hby at_79) rfl ?_
      show Steps p.tables e below (T3.setTop (mkF m 81 #[.val (.int pp1), .val (.int pp2), .val (.int pp3), .val (.int pp4), .val (.int pp5), .val (.int (0 : Int32)), .val (.int i0), .val (.int i1), .val (.int i2), .val (.int i3), .val (.ref b3), .unset, .unset, .unset] [(.int (0 : Int32))])) _
      refine XS.iconst X3.here hx rfl (hb hby at_81) ?_
      show Steps p.tables e below (T3.setTop (mkF m 82 #[.val (.int pp1), .val (.int pp2), .val (.int pp3), .val (.int pp4), .val (.int pp5), .val (.int (0 : Int32)), .val (.int i0), .val (.int i1), .val (.int i2), .val (.int i3), .val (.ref b3), .unset, .unset, .unset] [(.int (3 : Int32)), (.int (0 : Int32))])) _
      refine XS.icmpYes X3.here hx rfl (pc0 := 82) (pc' := 91) rfl (hb hby at_82) rfl (flt hc82).2.2.2 (by decide) (by decide) ?_
      show Steps p.tables e below (T3.setTop (mkF m 91 #[.val (.int pp1), .val (.int pp2), .val (.int pp3), .val (.int pp4), .val (.int pp5), .val (.int (0 : Int32)), .val (.int i0), .val (.int i1), .val (.int i2), .val (.int i3), .val (.ref b3), .unset, .unset, .unset] [])) _
      refine XS.iconst X3.here hx rfl (hb hby at_91) ?_
      show Steps p.tables e below (T3.setTop (mkF m 92 #[.val (.int pp1), .val (.int pp2), .val (.int pp3), .val (.int pp4), .val (.int pp5), .val (.int (0 : Int32)), .val (.int i0), .val (.int i1), .val (.int i2), .val (.int i3), .val (.ref b3), .unset, .unset, .unset] [(.int (4 : Int32))])) _
      refine st4 _ ?_
      show Steps p.tables e below (T4.setTop (mkF m 94 #[.val (.int pp1), .val (.int pp2), .val (.int pp3), .val (.int pp4), .val (.int pp5), .val (.int (0 : Int32)), .val (.int i0), .val (.int i1), .val (.int i2), .val (.int i3), .val (.ref b3), .unset, .unset, .unset] [(.ref b4)])) _
      refine XS.dup X4.here hx rfl (hb hby at_94) rfl rfl ?_
      show Steps p.tables e below (T4.setTop (mkF m 95 #[.val (.int pp1), .val (.int pp2), .val (.int pp3), .val (.int pp4), .val (.int pp5), .val (.int (0 : Int32)), .val (.int i0), .val (.int i1), .val (.int i2), .val (.int i3), .val (.ref b3), .unset, .unset, .unset] [(.ref b4), (.ref b4)])) _
      refine XS.iconst X4.here hx rfl (hb hby at_95) ?_
      show Steps p.tables e below (T4.setTop (mkF m 96 #[.val (.int pp1), .val (.int pp2), .val (.int pp3), .val (.int pp4), .val (.int pp5), .val (.int (0 : Int32)), .val (.int i0), .val (.int i1), .val (.int i2), .val (.int i3), .val (.ref b3), .unset, .unset, .unset] [(.int (0 : Int32)), (.ref b4), (.ref b4)])) _
      refine XS.iloadN X4.here hx rfl (hb hby at_96) rfl ?_
      show Steps p.tables e below (T4.setTop (mkF m 97 #[.val (.int pp1), .val (.int pp2), .val (.int pp3), .val (.int pp4), .val (.int pp5), .val (.int (0 : Int32)), .val (.int i0), .val (.int i1), .val (.int i2), .val (.int i3), .val (.ref b3), .unset, .unset, .unset] [(.int pp2), (.int (0 : Int32)), (.ref b4), (.ref b4)])) _
      refine st6 _ ?_
      show Steps p.tables e below (T6.setTop (mkF m 98 #[.val (.int pp1), .val (.int pp2), .val (.int pp3), .val (.int pp4), .val (.int pp5), .val (.int (0 : Int32)), .val (.int i0), .val (.int i1), .val (.int i2), .val (.int i3), .val (.ref b3), .unset, .unset, .unset] [(.ref b4)])) _
      refine XS.dup X6.here hx rfl (hb hby at_98) rfl rfl ?_
      show Steps p.tables e below (T6.setTop (mkF m 99 #[.val (.int pp1), .val (.int pp2), .val (.int pp3), .val (.int pp4), .val (.int pp5), .val (.int (0 : Int32)), .val (.int i0), .val (.int i1), .val (.int i2), .val (.int i3), .val (.ref b3), .unset, .unset, .unset] [(.ref b4), (.ref b4)])) _
      refine XS.iconst X6.here hx rfl (hb hby at_99) ?_
      show Steps p.tables e below (T6.setTop (mkF m 100 #[.val (.int pp1), .val (.int pp2), .val (.int pp3), .val (.int pp4), .val (.int pp5), .val (.int (0 : Int32)), .val (.int i0), .val (.int i1), .val (.int i2), .val (.int i3), .val (.ref b3), .unset, .unset, .unset] [(.int (1 : Int32)), (.ref b4), (.ref b4)])) _
      refine XS.iloadN X6.here hx rfl (hb hby at_100) rfl ?_
      show Steps p.tables e below (T6.setTop (mkF m 101 #[.val (.int pp1), .val (.int pp2), .val (.int pp3), .val (.int pp4), .val (.int pp5), .val (.int (0 : Int32)), .val (.int i0), .val (.int i1), .val (.int i2), .val (.int i3), .val (.ref b3), .unset, .unset, .unset] [(.int pp3), (.int (1 : Int32)), (.ref b4), (.ref b4)])) _
      refine st8 _ ?_
      show Steps p.tables e below (T8.setTop (mkF m 102 #[.val (.int pp1), .val (.int pp2), .val (.int pp3), .val (.int pp4), .val (.int pp5), .val (.int (0 : Int32)), .val (.int i0), .val (.int i1), .val (.int i2), .val (.int i3), .val (.ref b3), .unset, .unset, .unset] [(.ref b4)])) _
      refine XS.dup X8.here hx rfl (hb hby at_102) rfl rfl ?_
      show Steps p.tables e below (T8.setTop (mkF m 103 #[.val (.int pp1), .val (.int pp2), .val (.int pp3), .val (.int pp4), .val (.int pp5), .val (.int (0 : Int32)), .val (.int i0), .val (.int i1), .val (.int i2), .val (.int i3), .val (.ref b3), .unset, .unset, .unset] [(.ref b4), (.ref b4)])) _
      refine XS.iconst X8.here hx rfl (hb hby at_103) ?_
      show Steps p.tables e below (T8.setTop (mkF m 104 #[.val (.int pp1), .val (.int pp2), .val (.int pp3), .val (.int pp4), .val (.int pp5), .val (.int (0 : Int32)), .val (.int i0), .val (.int i1), .val (.int i2), .val (.int i3), .val (.ref b3), .unset, .unset, .unset] [(.int (2 : Int32)), (.ref b4), (.ref b4)])) _
      refine XS.iloadN X8.here hx rfl (hb hby at_104) rfl ?_
      show Steps p.tables e below (T8.setTop (mkF m 105 #[.val (.int pp1), .val (.int pp2), .val (.int pp3), .val (.int pp4), .val (.int pp5), .val (.int (0 : Int32)), .val (.int i0), .val (.int i1), .val (.int i2), .val (.int i3), .val (.ref b3), .unset, .unset, .unset] [(.int pp4), (.int (2 : Int32)), (.ref b4), (.ref b4)])) _
      refine st10 _ ?_
      show Steps p.tables e below (T10.setTop (mkF m 106 #[.val (.int pp1), .val (.int pp2), .val (.int pp3), .val (.int pp4), .val (.int pp5), .val (.int (0 : Int32)), .val (.int i0), .val (.int i1), .val (.int i2), .val (.int i3), .val (.ref b3), .unset, .unset, .unset] [(.ref b4)])) _
      refine XS.dup X10.here hx rfl (hb hby at_106) rfl rfl ?_
      show Steps p.tables e below (T10.setTop (mkF m 107 #[.val (.int pp1), .val (.int pp2), .val (.int pp3), .val (.int pp4), .val (.int pp5), .val (.int (0 : Int32)), .val (.int i0), .val (.int i1), .val (.int i2), .val (.int i3), .val (.ref b3), .unset, .unset, .unset] [(.ref b4), (.ref b4)])) _
      refine XS.iconst X10.here hx rfl (hb hby at_107) ?_
      show Steps p.tables e below (T10.setTop (mkF m 108 #[.val (.int pp1), .val (.int pp2), .val (.int pp3), .val (.int pp4), .val (.int pp5), .val (.int (0 : Int32)), .val (.int i0), .val (.int i1), .val (.int i2), .val (.int i3), .val (.ref b3), .unset, .unset, .unset] [(.int (3 : Int32)), (.ref b4), (.ref b4)])) _
      refine XS.iload X10.here hx rfl (hb hby at_108) rfl ?_
      show Steps p.tables e below (T10.setTop (mkF m 110 #[.val (.int pp1), .val (.int pp2), .val (.int pp3), .val (.int pp4), .val (.int pp5), .val (.int (0 : Int32)), .val (.int i0), .val (.int i1), .val (.int i2), .val (.int i3), .val (.ref b3), .unset, .unset, .unset] [(.int pp5), (.int (3 : Int32)), (.ref b4), (.ref b4)])) _
      refine st12 _ ?_
      show Steps p.tables e below (T12.setTop (mkF m 111 #[.val (.int pp1), .val (.int pp2), .val (.int pp3), .val (.int pp4), .val (.int pp5), .val (.int (0 : Int32)), .val (.int i0), .val (.int i1), .val (.int i2), .val (.int i3), .val (.ref b3), .unset, .unset, .unset] [(.ref b4)])) _
      refine XS.astore X12.here hx rfl (hb hby at_111) rfl rfl (l' := #[.val (.int pp1), .val (.int pp2), .val (.int pp3), .val (.int pp4), .val (.int pp5), .val (.int (0 : Int32)), .val (.int i0), .val (.int i1), .val (.int i2), .val (.int i3), .val (.ref b3), .val (.ref b4), .unset, .unset]) rfl ?_
      show Steps p.tables e below (T12.setTop (mkF m 113 #[.val (.int pp1), .val (.int pp2), .val (.int pp3), .val (.int pp4), .val (.int pp5), .val (.int (0 : Int32)), .val (.int i0), .val (.int i1), .val (.int i2), .val (.int i3), .val (.ref b3), .val (.ref b4), .unset, .unset] [])) _
      refine XS.aload X12.here hx rfl (hb hby at_113) rfl rfl ?_
      show Steps p.tables e below (T12.setTop (mkF m 115 #[.val (.int pp1), .val (.int pp2), .val (.int pp3), .val (.int pp4), .val (.int pp5), .val (.int (0 : Int32)), .val (.int i0), .val (.int i1), .val (.int i2), .val (.int i3), .val (.ref b3), .val (.ref b4), .unset, .unset] [(.ref b3)])) _
      refine XS.aload X12.here hx rfl (hb hby at_115) rfl rfl ?_
      show Steps p.tables e below (T12.setTop (mkF m 117 #[.val (.int pp1), .val (.int pp2), .val (.int pp3), .val (.int pp4), .val (.int pp5), .val (.int (0 : Int32)), .val (.int i0), .val (.int i1), .val (.int i2), .val (.int i3), .val (.ref b3), .val (.ref b4), .unset, .unset] [(.ref b4), (.ref b3)])) _
      refine st14 _ ?_
      show Steps p.tables e below (T14.setTop (mkF m 120 #[.val (.int pp1), .val (.int pp2), .val (.int pp3), .val (.int pp4), .val (.int pp5), .val (.int (0 : Int32)), .val (.int i0), .val (.int i1), .val (.int i2), .val (.int i3), .val (.ref b3), .val (.ref b4), .unset, .unset] [])) _
      refine XS.aload X14.here hx rfl (hb hby at_120) rfl rfl ?_
      show Steps p.tables e below (T14.setTop (mkF m 122 #[.val (.int pp1), .val (.int pp2), .val (.int pp3), .val (.int pp4), .val (.int pp5), .val (.int (0 : Int32)), .val (.int i0), .val (.int i1), .val (.int i2), .val (.int i3), .val (.ref b3), .val (.ref b4), .unset, .unset] [(.ref b4)])) _
      refine X14.arraylength hx (Ar_15.1) (State.isArrayOf_alike hZ.alike Ar_15.2.1) (g := (mkF m 122 #[.val (.int pp1), .val (.int pp2), .val (.int pp3), .val (.int pp4), .val (.int pp5), .val (.int (0 : Int32)), .val (.int i0), .val (.int i1), .val (.int i2), .val (.int i3), .val (.ref b3), .val (.ref b4), .unset, .unset] [(.ref b4)])) rfl rfl (hb hby at_122) _ ?_
      rw [len_of Sz_15 Nn_15]
      show Steps p.tables e below (T14.setTop (mkF m 123 #[.val (.int pp1), .val (.int pp2), .val (.int pp3), .val (.int pp4), .val (.int pp5), .val (.int (0 : Int32)), .val (.int i0), .val (.int i1), .val (.int i2), .val (.int i3), .val (.ref b3), .val (.ref b4), .unset, .unset] [(.int (4 : Int32))])) _
      refine XS.iconst X14.here hx rfl (hb hby at_123) ?_
      show Steps p.tables e below (T14.setTop (mkF m 124 #[.val (.int pp1), .val (.int pp2), .val (.int pp3), .val (.int pp4), .val (.int pp5), .val (.int (0 : Int32)), .val (.int i0), .val (.int i1), .val (.int i2), .val (.int i3), .val (.ref b3), .val (.ref b4), .unset, .unset] [(.int (4 : Int32)), (.int (4 : Int32))])) _
      refine XS.icmpNo X14.here hx rfl (hb hby at_124) rfl (teq hc124).2 ?_
      show Steps p.tables e below (T14.setTop (mkF m 127 #[.val (.int pp1), .val (.int pp2), .val (.int pp3), .val (.int pp4), .val (.int pp5), .val (.int (0 : Int32)), .val (.int i0), .val (.int i1), .val (.int i2), .val (.int i3), .val (.ref b3), .val (.ref b4), .unset, .unset] [])) _
      refine XS.aload X14.here hx rfl (hb hby at_127) rfl rfl ?_
      show Steps p.tables e below (T14.setTop (mkF m 129 #[.val (.int pp1), .val (.int pp2), .val (.int pp3), .val (.int pp4), .val (.int pp5), .val (.int (0 : Int32)), .val (.int i0), .val (.int i1), .val (.int i2), .val (.int i3), .val (.ref b3), .val (.ref b4), .unset, .unset] [(.ref b4)])) _
      refine XS.iconst X14.here hx rfl (hb hby at_129) ?_
      show Steps p.tables e below (T14.setTop (mkF m 130 #[.val (.int pp1), .val (.int pp2), .val (.int pp3), .val (.int pp4), .val (.int pp5), .val (.int (0 : Int32)), .val (.int i0), .val (.int i1), .val (.int i2), .val (.int i3), .val (.ref b3), .val (.ref b4), .unset, .unset] [(.int (0 : Int32)), (.ref b4)])) _
      refine X14.iaload hx (j := (0 : Int32)) (v := (.int pp2)) (Ar_16.1) (State.isArrayOf_alike hZ.alike Ar_16.2.1) Ar_16.2.2 hin_16 hat_16 (g := (mkF m 130 #[.val (.int pp1), .val (.int pp2), .val (.int pp3), .val (.int pp4), .val (.int pp5), .val (.int (0 : Int32)), .val (.int i0), .val (.int i1), .val (.int i2), .val (.int i3), .val (.ref b3), .val (.ref b4), .unset, .unset] [(.int (0 : Int32)), (.ref b4)])) rfl rfl (hb hby at_130) _ ?_
      show Steps p.tables e below (T14.setTop (mkF m 131 #[.val (.int pp1), .val (.int pp2), .val (.int pp3), .val (.int pp4), .val (.int pp5), .val (.int (0 : Int32)), .val (.int i0), .val (.int i1), .val (.int i2), .val (.int i3), .val (.ref b3), .val (.ref b4), .unset, .unset] [(.int pp2)])) _
      refine XS.iconst X14.here hx rfl (hb hby at_131) ?_
      show Steps p.tables e below (T14.setTop (mkF m 132 #[.val (.int pp1), .val (.int pp2), .val (.int pp3), .val (.int pp4), .val (.int pp5), .val (.int (0 : Int32)), .val (.int i0), .val (.int i1), .val (.int i2), .val (.int i3), .val (.ref b3), .val (.ref b4), .unset, .unset] [(.int (0 : Int32)), (.int pp2)])) _
      refine XS.iloadN X14.here hx rfl (hb hby at_132) rfl ?_
      show Steps p.tables e below (T14.setTop (mkF m 133 #[.val (.int pp1), .val (.int pp2), .val (.int pp3), .val (.int pp4), .val (.int pp5), .val (.int (0 : Int32)), .val (.int i0), .val (.int i1), .val (.int i2), .val (.int i3), .val (.ref b3), .val (.ref b4), .unset, .unset] [(.int pp2), (.int (0 : Int32)), (.int pp2)])) _
      refine XS.iload X14.here hx rfl (hb hby at_133) rfl ?_
      show Steps p.tables e below (T14.setTop (mkF m 135 #[.val (.int pp1), .val (.int pp2), .val (.int pp3), .val (.int pp4), .val (.int pp5), .val (.int (0 : Int32)), .val (.int i0), .val (.int i1), .val (.int i2), .val (.int i3), .val (.ref b3), .val (.ref b4), .unset, .unset] [(.int (0 : Int32)), (.int pp2), (.int (0 : Int32)), (.int pp2)])) _
      refine XS.iload X14.here hx rfl (hb hby at_135) rfl ?_
      show Steps p.tables e below (T14.setTop (mkF m 137 #[.val (.int pp1), .val (.int pp2), .val (.int pp3), .val (.int pp4), .val (.int pp5), .val (.int (0 : Int32)), .val (.int i0), .val (.int i1), .val (.int i2), .val (.int i3), .val (.ref b3), .val (.ref b4), .unset, .unset] [(.int i0), (.int (0 : Int32)), (.int pp2), (.int (0 : Int32)), (.int pp2)])) _
      refine XS.iload X14.here hx rfl (hb hby at_137) rfl ?_
      show Steps p.tables e below (T14.setTop (mkF m 139 #[.val (.int pp1), .val (.int pp2), .val (.int pp3), .val (.int pp4), .val (.int pp5), .val (.int (0 : Int32)), .val (.int i0), .val (.int i1), .val (.int i2), .val (.int i3), .val (.ref b3), .val (.ref b4), .unset, .unset] [(.int i1), (.int i0), (.int (0 : Int32)), (.int pp2), (.int (0 : Int32)), (.int pp2)])) _
      refine XS.iload X14.here hx rfl (hb hby at_139) rfl ?_
      show Steps p.tables e below (T14.setTop (mkF m 141 #[.val (.int pp1), .val (.int pp2), .val (.int pp3), .val (.int pp4), .val (.int pp5), .val (.int (0 : Int32)), .val (.int i0), .val (.int i1), .val (.int i2), .val (.int i3), .val (.ref b3), .val (.ref b4), .unset, .unset] [(.int i2), (.int i1), (.int i0), (.int (0 : Int32)), (.int pp2), (.int (0 : Int32)), (.int pp2)])) _
      refine XS.iload X14.here hx rfl (hb hby at_141) rfl ?_
      show Steps p.tables e below (T14.setTop (mkF m 143 #[.val (.int pp1), .val (.int pp2), .val (.int pp3), .val (.int pp4), .val (.int pp5), .val (.int (0 : Int32)), .val (.int i0), .val (.int i1), .val (.int i2), .val (.int i3), .val (.ref b3), .val (.ref b4), .unset, .unset] [(.int i3), (.int i2), (.int i1), (.int i0), (.int (0 : Int32)), (.int pp2), (.int (0 : Int32)), (.int pp2)])) _
      refine st17 _ ?_
      show Steps p.tables e below (T17.setTop (mkF m 146 #[.val (.int pp1), .val (.int pp2), .val (.int pp3), .val (.int pp4), .val (.int pp5), .val (.int (0 : Int32)), .val (.int i0), .val (.int i1), .val (.int i2), .val (.int i3), .val (.ref b3), .val (.ref b4), .unset, .unset] [(.int pp2), (.int pp2)])) _
      refine XS.icmpNo X17.here hx rfl (hb hby at_146) rfl (teq hc146).2 ?_
      show Steps p.tables e below (T17.setTop (mkF m 149 #[.val (.int pp1), .val (.int pp2), .val (.int pp3), .val (.int pp4), .val (.int pp5), .val (.int (0 : Int32)), .val (.int i0), .val (.int i1), .val (.int i2), .val (.int i3), .val (.ref b3), .val (.ref b4), .unset, .unset] [])) _
      refine XS.aload X17.here hx rfl (hb hby at_149) rfl rfl ?_
      show Steps p.tables e below (T17.setTop (mkF m 151 #[.val (.int pp1), .val (.int pp2), .val (.int pp3), .val (.int pp4), .val (.int pp5), .val (.int (0 : Int32)), .val (.int i0), .val (.int i1), .val (.int i2), .val (.int i3), .val (.ref b3), .val (.ref b4), .unset, .unset] [(.ref b4)])) _
      refine XS.iconst X17.here hx rfl (hb hby at_151) ?_
      show Steps p.tables e below (T17.setTop (mkF m 152 #[.val (.int pp1), .val (.int pp2), .val (.int pp3), .val (.int pp4), .val (.int pp5), .val (.int (0 : Int32)), .val (.int i0), .val (.int i1), .val (.int i2), .val (.int i3), .val (.ref b3), .val (.ref b4), .unset, .unset] [(.int (1 : Int32)), (.ref b4)])) _
      refine X17.iaload hx (j := (1 : Int32)) (v := (.int pp3)) (by rw [e17]; exact Ar_18.1) (State.isArrayOf_alike hZ.alike Ar_18.2.1) Ar_18.2.2 hin_18 hat_18 (g := (mkF m 152 #[.val (.int pp1), .val (.int pp2), .val (.int pp3), .val (.int pp4), .val (.int pp5), .val (.int (0 : Int32)), .val (.int i0), .val (.int i1), .val (.int i2), .val (.int i3), .val (.ref b3), .val (.ref b4), .unset, .unset] [(.int (1 : Int32)), (.ref b4)])) rfl rfl (hb hby at_152) _ ?_
      show Steps p.tables e below (T17.setTop (mkF m 153 #[.val (.int pp1), .val (.int pp2), .val (.int pp3), .val (.int pp4), .val (.int pp5), .val (.int (0 : Int32)), .val (.int i0), .val (.int i1), .val (.int i2), .val (.int i3), .val (.ref b3), .val (.ref b4), .unset, .unset] [(.int pp3)])) _
      refine XS.iconst X17.here hx rfl (hb hby at_153) ?_
      show Steps p.tables e below (T17.setTop (mkF m 154 #[.val (.int pp1), .val (.int pp2), .val (.int pp3), .val (.int pp4), .val (.int pp5), .val (.int (0 : Int32)), .val (.int i0), .val (.int i1), .val (.int i2), .val (.int i3), .val (.ref b3), .val (.ref b4), .unset, .unset] [(.int (1 : Int32)), (.int pp3)])) _
      refine XS.iloadN X17.here hx rfl (hb hby at_154) rfl ?_
      show Steps p.tables e below (T17.setTop (mkF m 155 #[.val (.int pp1), .val (.int pp2), .val (.int pp3), .val (.int pp4), .val (.int pp5), .val (.int (0 : Int32)), .val (.int i0), .val (.int i1), .val (.int i2), .val (.int i3), .val (.ref b3), .val (.ref b4), .unset, .unset] [(.int pp3), (.int (1 : Int32)), (.int pp3)])) _
      refine XS.iload X17.here hx rfl (hb hby at_155) rfl ?_
      show Steps p.tables e below (T17.setTop (mkF m 157 #[.val (.int pp1), .val (.int pp2), .val (.int pp3), .val (.int pp4), .val (.int pp5), .val (.int (0 : Int32)), .val (.int i0), .val (.int i1), .val (.int i2), .val (.int i3), .val (.ref b3), .val (.ref b4), .unset, .unset] [(.int (0 : Int32)), (.int pp3), (.int (1 : Int32)), (.int pp3)])) _
      refine XS.iload X17.here hx rfl (hb hby at_157) rfl ?_
      show Steps p.tables e below (T17.setTop (mkF m 159 #[.val (.int pp1), .val (.int pp2), .val (.int pp3), .val (.int pp4), .val (.int pp5), .val (.int (0 : Int32)), .val (.int i0), .val (.int i1), .val (.int i2), .val (.int i3), .val (.ref b3), .val (.ref b4), .unset, .unset] [(.int i0), (.int (0 : Int32)), (.int pp3), (.int (1 : Int32)), (.int pp3)])) _
      refine XS.iload X17.here hx rfl (hb hby at_159) rfl ?_
      show Steps p.tables e below (T17.setTop (mkF m 161 #[.val (.int pp1), .val (.int pp2), .val (.int pp3), .val (.int pp4), .val (.int pp5), .val (.int (0 : Int32)), .val (.int i0), .val (.int i1), .val (.int i2), .val (.int i3), .val (.ref b3), .val (.ref b4), .unset, .unset] [(.int i1), (.int i0), (.int (0 : Int32)), (.int pp3), (.int (1 : Int32)), (.int pp3)])) _
      refine XS.iload X17.here hx rfl (hb hby at_161) rfl ?_
      show Steps p.tables e below (T17.setTop (mkF m 163 #[.val (.int pp1), .val (.int pp2), .val (.int pp3), .val (.int pp4), .val (.int pp5), .val (.int (0 : Int32)), .val (.int i0), .val (.int i1), .val (.int i2), .val (.int i3), .val (.ref b3), .val (.ref b4), .unset, .unset] [(.int i2), (.int i1), (.int i0), (.int (0 : Int32)), (.int pp3), (.int (1 : Int32)), (.int pp3)])) _
      refine XS.iload X17.here hx rfl (hb hby at_163) rfl ?_
      show Steps p.tables e below (T17.setTop (mkF m 165 #[.val (.int pp1), .val (.int pp2), .val (.int pp3), .val (.int pp4), .val (.int pp5), .val (.int (0 : Int32)), .val (.int i0), .val (.int i1), .val (.int i2), .val (.int i3), .val (.ref b3), .val (.ref b4), .unset, .unset] [(.int i3), (.int i2), (.int i1), (.int i0), (.int (0 : Int32)), (.int pp3), (.int (1 : Int32)), (.int pp3)])) _
      refine st19 _ ?_
      show Steps p.tables e below (T19.setTop (mkF m 168 #[.val (.int pp1), .val (.int pp2), .val (.int pp3), .val (.int pp4), .val (.int pp5), .val (.int (0 : Int32)), .val (.int i0), .val (.int i1), .val (.int i2), .val (.int i3), .val (.ref b3), .val (.ref b4), .unset, .unset] [(.int pp3), (.int pp3)])) _
      refine XS.icmpNo X19.here hx rfl (hb hby at_168) rfl (teq hc168).2 ?_
      show Steps p.tables e below (T19.setTop (mkF m 171 #[.val (.int pp1), .val (.int pp2), .val (.int pp3), .val (.int pp4), .val (.int pp5), .val (.int (0 : Int32)), .val (.int i0), .val (.int i1), .val (.int i2), .val (.int i3), .val (.ref b3), .val (.ref b4), .unset, .unset] [])) _
      refine XS.aload X19.here hx rfl (hb hby at_171) rfl rfl ?_
      show Steps p.tables e below (T19.setTop (mkF m 173 #[.val (.int pp1), .val (.int pp2), .val (.int pp3), .val (.int pp4), .val (.int pp5), .val (.int (0 : Int32)), .val (.int i0), .val (.int i1), .val (.int i2), .val (.int i3), .val (.ref b3), .val (.ref b4), .unset, .unset] [(.ref b4)])) _
      refine XS.iconst X19.here hx rfl (hb hby at_173) ?_
      show Steps p.tables e below (T19.setTop (mkF m 174 #[.val (.int pp1), .val (.int pp2), .val (.int pp3), .val (.int pp4), .val (.int pp5), .val (.int (0 : Int32)), .val (.int i0), .val (.int i1), .val (.int i2), .val (.int i3), .val (.ref b3), .val (.ref b4), .unset, .unset] [(.int (2 : Int32)), (.ref b4)])) _
      refine X19.iaload hx (j := (2 : Int32)) (v := (.int pp4)) (by rw [e19]; exact Ar_20.1) (State.isArrayOf_alike hZ.alike Ar_20.2.1) Ar_20.2.2 hin_20 hat_20 (g := (mkF m 174 #[.val (.int pp1), .val (.int pp2), .val (.int pp3), .val (.int pp4), .val (.int pp5), .val (.int (0 : Int32)), .val (.int i0), .val (.int i1), .val (.int i2), .val (.int i3), .val (.ref b3), .val (.ref b4), .unset, .unset] [(.int (2 : Int32)), (.ref b4)])) rfl rfl (hb hby at_174) _ ?_
      show Steps p.tables e below (T19.setTop (mkF m 175 #[.val (.int pp1), .val (.int pp2), .val (.int pp3), .val (.int pp4), .val (.int pp5), .val (.int (0 : Int32)), .val (.int i0), .val (.int i1), .val (.int i2), .val (.int i3), .val (.ref b3), .val (.ref b4), .unset, .unset] [(.int pp4)])) _
      refine XS.iconst X19.here hx rfl (hb hby at_175) ?_
      show Steps p.tables e below (T19.setTop (mkF m 176 #[.val (.int pp1), .val (.int pp2), .val (.int pp3), .val (.int pp4), .val (.int pp5), .val (.int (0 : Int32)), .val (.int i0), .val (.int i1), .val (.int i2), .val (.int i3), .val (.ref b3), .val (.ref b4), .unset, .unset] [(.int (2 : Int32)), (.int pp4)])) _
      refine XS.iloadN X19.here hx rfl (hb hby at_176) rfl ?_
      show Steps p.tables e below (T19.setTop (mkF m 177 #[.val (.int pp1), .val (.int pp2), .val (.int pp3), .val (.int pp4), .val (.int pp5), .val (.int (0 : Int32)), .val (.int i0), .val (.int i1), .val (.int i2), .val (.int i3), .val (.ref b3), .val (.ref b4), .unset, .unset] [(.int pp4), (.int (2 : Int32)), (.int pp4)])) _
      refine XS.iload X19.here hx rfl (hb hby at_177) rfl ?_
      show Steps p.tables e below (T19.setTop (mkF m 179 #[.val (.int pp1), .val (.int pp2), .val (.int pp3), .val (.int pp4), .val (.int pp5), .val (.int (0 : Int32)), .val (.int i0), .val (.int i1), .val (.int i2), .val (.int i3), .val (.ref b3), .val (.ref b4), .unset, .unset] [(.int (0 : Int32)), (.int pp4), (.int (2 : Int32)), (.int pp4)])) _
      refine XS.iload X19.here hx rfl (hb hby at_179) rfl ?_
      show Steps p.tables e below (T19.setTop (mkF m 181 #[.val (.int pp1), .val (.int pp2), .val (.int pp3), .val (.int pp4), .val (.int pp5), .val (.int (0 : Int32)), .val (.int i0), .val (.int i1), .val (.int i2), .val (.int i3), .val (.ref b3), .val (.ref b4), .unset, .unset] [(.int i0), (.int (0 : Int32)), (.int pp4), (.int (2 : Int32)), (.int pp4)])) _
      refine XS.iload X19.here hx rfl (hb hby at_181) rfl ?_
      show Steps p.tables e below (T19.setTop (mkF m 183 #[.val (.int pp1), .val (.int pp2), .val (.int pp3), .val (.int pp4), .val (.int pp5), .val (.int (0 : Int32)), .val (.int i0), .val (.int i1), .val (.int i2), .val (.int i3), .val (.ref b3), .val (.ref b4), .unset, .unset] [(.int i1), (.int i0), (.int (0 : Int32)), (.int pp4), (.int (2 : Int32)), (.int pp4)])) _
      refine XS.iload X19.here hx rfl (hb hby at_183) rfl ?_
      show Steps p.tables e below (T19.setTop (mkF m 185 #[.val (.int pp1), .val (.int pp2), .val (.int pp3), .val (.int pp4), .val (.int pp5), .val (.int (0 : Int32)), .val (.int i0), .val (.int i1), .val (.int i2), .val (.int i3), .val (.ref b3), .val (.ref b4), .unset, .unset] [(.int i2), (.int i1), (.int i0), (.int (0 : Int32)), (.int pp4), (.int (2 : Int32)), (.int pp4)])) _
      refine XS.iload X19.here hx rfl (hb hby at_185) rfl ?_
      show Steps p.tables e below (T19.setTop (mkF m 187 #[.val (.int pp1), .val (.int pp2), .val (.int pp3), .val (.int pp4), .val (.int pp5), .val (.int (0 : Int32)), .val (.int i0), .val (.int i1), .val (.int i2), .val (.int i3), .val (.ref b3), .val (.ref b4), .unset, .unset] [(.int i3), (.int i2), (.int i1), (.int i0), (.int (0 : Int32)), (.int pp4), (.int (2 : Int32)), (.int pp4)])) _
      refine st21 _ ?_
      show Steps p.tables e below (T21.setTop (mkF m 190 #[.val (.int pp1), .val (.int pp2), .val (.int pp3), .val (.int pp4), .val (.int pp5), .val (.int (0 : Int32)), .val (.int i0), .val (.int i1), .val (.int i2), .val (.int i3), .val (.ref b3), .val (.ref b4), .unset, .unset] [(.int pp4), (.int pp4)])) _
      refine XS.icmpNo X21.here hx rfl (hb hby at_190) rfl (teq hc190).2 ?_
      show Steps p.tables e below (T21.setTop (mkF m 193 #[.val (.int pp1), .val (.int pp2), .val (.int pp3), .val (.int pp4), .val (.int pp5), .val (.int (0 : Int32)), .val (.int i0), .val (.int i1), .val (.int i2), .val (.int i3), .val (.ref b3), .val (.ref b4), .unset, .unset] [])) _
      refine XS.aload X21.here hx rfl (hb hby at_193) rfl rfl ?_
      show Steps p.tables e below (T21.setTop (mkF m 195 #[.val (.int pp1), .val (.int pp2), .val (.int pp3), .val (.int pp4), .val (.int pp5), .val (.int (0 : Int32)), .val (.int i0), .val (.int i1), .val (.int i2), .val (.int i3), .val (.ref b3), .val (.ref b4), .unset, .unset] [(.ref b4)])) _
      refine XS.iconst X21.here hx rfl (hb hby at_195) ?_
      show Steps p.tables e below (T21.setTop (mkF m 196 #[.val (.int pp1), .val (.int pp2), .val (.int pp3), .val (.int pp4), .val (.int pp5), .val (.int (0 : Int32)), .val (.int i0), .val (.int i1), .val (.int i2), .val (.int i3), .val (.ref b3), .val (.ref b4), .unset, .unset] [(.int (3 : Int32)), (.ref b4)])) _
      refine X21.iaload hx (j := (3 : Int32)) (v := (.int pp5)) (by rw [e21]; exact Ar_22.1) (State.isArrayOf_alike hZ.alike Ar_22.2.1) Ar_22.2.2 hin_22 hat_22 (g := (mkF m 196 #[.val (.int pp1), .val (.int pp2), .val (.int pp3), .val (.int pp4), .val (.int pp5), .val (.int (0 : Int32)), .val (.int i0), .val (.int i1), .val (.int i2), .val (.int i3), .val (.ref b3), .val (.ref b4), .unset, .unset] [(.int (3 : Int32)), (.ref b4)])) rfl rfl (hb hby at_196) _ ?_
      show Steps p.tables e below (T21.setTop (mkF m 197 #[.val (.int pp1), .val (.int pp2), .val (.int pp3), .val (.int pp4), .val (.int pp5), .val (.int (0 : Int32)), .val (.int i0), .val (.int i1), .val (.int i2), .val (.int i3), .val (.ref b3), .val (.ref b4), .unset, .unset] [(.int pp5)])) _
      refine XS.iconst X21.here hx rfl (hb hby at_197) ?_
      show Steps p.tables e below (T21.setTop (mkF m 198 #[.val (.int pp1), .val (.int pp2), .val (.int pp3), .val (.int pp4), .val (.int pp5), .val (.int (0 : Int32)), .val (.int i0), .val (.int i1), .val (.int i2), .val (.int i3), .val (.ref b3), .val (.ref b4), .unset, .unset] [(.int (3 : Int32)), (.int pp5)])) _
      refine XS.iload X21.here hx rfl (hb hby at_198) rfl ?_
      show Steps p.tables e below (T21.setTop (mkF m 200 #[.val (.int pp1), .val (.int pp2), .val (.int pp3), .val (.int pp4), .val (.int pp5), .val (.int (0 : Int32)), .val (.int i0), .val (.int i1), .val (.int i2), .val (.int i3), .val (.ref b3), .val (.ref b4), .unset, .unset] [(.int pp5), (.int (3 : Int32)), (.int pp5)])) _
      refine XS.iload X21.here hx rfl (hb hby at_200) rfl ?_
      show Steps p.tables e below (T21.setTop (mkF m 202 #[.val (.int pp1), .val (.int pp2), .val (.int pp3), .val (.int pp4), .val (.int pp5), .val (.int (0 : Int32)), .val (.int i0), .val (.int i1), .val (.int i2), .val (.int i3), .val (.ref b3), .val (.ref b4), .unset, .unset] [(.int (0 : Int32)), (.int pp5), (.int (3 : Int32)), (.int pp5)])) _
      refine XS.iload X21.here hx rfl (hb hby at_202) rfl ?_
      show Steps p.tables e below (T21.setTop (mkF m 204 #[.val (.int pp1), .val (.int pp2), .val (.int pp3), .val (.int pp4), .val (.int pp5), .val (.int (0 : Int32)), .val (.int i0), .val (.int i1), .val (.int i2), .val (.int i3), .val (.ref b3), .val (.ref b4), .unset, .unset] [(.int i0), (.int (0 : Int32)), (.int pp5), (.int (3 : Int32)), (.int pp5)])) _
      refine XS.iload X21.here hx rfl (hb hby at_204) rfl ?_
      show Steps p.tables e below (T21.setTop (mkF m 206 #[.val (.int pp1), .val (.int pp2), .val (.int pp3), .val (.int pp4), .val (.int pp5), .val (.int (0 : Int32)), .val (.int i0), .val (.int i1), .val (.int i2), .val (.int i3), .val (.ref b3), .val (.ref b4), .unset, .unset] [(.int i1), (.int i0), (.int (0 : Int32)), (.int pp5), (.int (3 : Int32)), (.int pp5)])) _
      refine XS.iload X21.here hx rfl (hb hby at_206) rfl ?_
      show Steps p.tables e below (T21.setTop (mkF m 208 #[.val (.int pp1), .val (.int pp2), .val (.int pp3), .val (.int pp4), .val (.int pp5), .val (.int (0 : Int32)), .val (.int i0), .val (.int i1), .val (.int i2), .val (.int i3), .val (.ref b3), .val (.ref b4), .unset, .unset] [(.int i2), (.int i1), (.int i0), (.int (0 : Int32)), (.int pp5), (.int (3 : Int32)), (.int pp5)])) _
      refine XS.iload X21.here hx rfl (hb hby at_208) rfl ?_
      show Steps p.tables e below (T21.setTop (mkF m 210 #[.val (.int pp1), .val (.int pp2), .val (.int pp3), .val (.int pp4), .val (.int pp5), .val (.int (0 : Int32)), .val (.int i0), .val (.int i1), .val (.int i2), .val (.int i3), .val (.ref b3), .val (.ref b4), .unset, .unset] [(.int i3), (.int i2), (.int i1), (.int i0), (.int (0 : Int32)), (.int pp5), (.int (3 : Int32)), (.int pp5)])) _
      refine st23 _ ?_
      show Steps p.tables e below (T23.setTop (mkF m 213 #[.val (.int pp1), .val (.int pp2), .val (.int pp3), .val (.int pp4), .val (.int pp5), .val (.int (0 : Int32)), .val (.int i0), .val (.int i1), .val (.int i2), .val (.int i3), .val (.ref b3), .val (.ref b4), .unset, .unset] [(.int pp5), (.int pp5)])) _
      refine XS.icmpNo X23.here hx rfl (hb hby at_213) rfl (teq hc213).2 ?_
      show Steps p.tables e below (T23.setTop (mkF m 216 #[.val (.int pp1), .val (.int pp2), .val (.int pp3), .val (.int pp4), .val (.int pp5), .val (.int (0 : Int32)), .val (.int i0), .val (.int i1), .val (.int i2), .val (.int i3), .val (.ref b3), .val (.ref b4), .unset, .unset] [])) _
      refine XS.iconst X23.here hx rfl (hb hby at_216) ?_
      show Steps p.tables e below (T23.setTop (mkF m 217 #[.val (.int pp1), .val (.int pp2), .val (.int pp3), .val (.int pp4), .val (.int pp5), .val (.int (0 : Int32)), .val (.int i0), .val (.int i1), .val (.int i2), .val (.int i3), .val (.ref b3), .val (.ref b4), .unset, .unset] [(.int (1 : Int32))])) _
      refine XS.goto X23.here hx rfl (pc0 := 217) (pc' := 221) rfl (hb hby at_217) (by decide) (by decide) ?_
      show Steps p.tables e below (T23.setTop (mkF m 221 #[.val (.int pp1), .val (.int pp2), .val (.int pp3), .val (.int pp4), .val (.int pp5), .val (.int (0 : Int32)), .val (.int i0), .val (.int i1), .val (.int i2), .val (.int i3), .val (.ref b3), .val (.ref b4), .unset, .unset] [(.int (1 : Int32))])) _
      refine XS.istore X23.here hx rfl (hb hby at_221) rfl (l' := #[.val (.int pp1), .val (.int pp2), .val (.int pp3), .val (.int pp4), .val (.int pp5), .val (.int (0 : Int32)), .val (.int i0), .val (.int i1), .val (.int i2), .val (.int i3), .val (.ref b3), .val (.ref b4), .val (.int (1 : Int32)), .unset]) rfl ?_
      show Steps p.tables e below (T23.setTop (mkF m 223 #[.val (.int pp1), .val (.int pp2), .val (.int pp3), .val (.int pp4), .val (.int pp5), .val (.int (0 : Int32)), .val (.int i0), .val (.int i1), .val (.int i2), .val (.int i3), .val (.ref b3), .val (.ref b4), .val (.int (1 : Int32)), .unset] [])) _
      refine XS.aload X23.here hx rfl (hb hby at_223) rfl rfl ?_
      show Steps p.tables e below (T23.setTop (mkF m 225 #[.val (.int pp1), .val (.int pp2), .val (.int pp3), .val (.int pp4), .val (.int pp5), .val (.int (0 : Int32)), .val (.int i0), .val (.int i1), .val (.int i2), .val (.int i3), .val (.ref b3), .val (.ref b4), .val (.int (1 : Int32)), .unset] [(.ref b3)])) _
      refine X23.arraylength hx (by rw [e23]; exact Ar_25.1) (State.isArrayOf_alike hZ.alike Ar_25.2.1) (g := (mkF m 225 #[.val (.int pp1), .val (.int pp2), .val (.int pp3), .val (.int pp4), .val (.int pp5), .val (.int (0 : Int32)), .val (.int i0), .val (.int i1), .val (.int i2), .val (.int i3), .val (.ref b3), .val (.ref b4), .val (.int (1 : Int32)), .unset] [(.ref b3)])) rfl rfl (hb hby at_225) _ ?_
      rw [len_of Sz_25 Nn_25]
      show Steps p.tables e below (T23.setTop (mkF m 226 #[.val (.int pp1), .val (.int pp2), .val (.int pp3), .val (.int pp4), .val (.int pp5), .val (.int (0 : Int32)), .val (.int i0), .val (.int i1), .val (.int i2), .val (.int i3), .val (.ref b3), .val (.ref b4), .val (.int (1 : Int32)), .unset] [(.int (0 : Int32))])) _
      refine XS.iload X23.here hx rfl (hb hby at_226) rfl ?_
      show Steps p.tables e below (T23.setTop (mkF m 228 #[.val (.int pp1), .val (.int pp2), .val (.int pp3), .val (.int pp4), .val (.int pp5), .val (.int (0 : Int32)), .val (.int i0), .val (.int i1), .val (.int i2), .val (.int i3), .val (.ref b3), .val (.ref b4), .val (.int (1 : Int32)), .unset] [(.int (0 : Int32)), (.int (0 : Int32))])) _
      refine XS.icmpNo X23.here hx rfl (hb hby at_228) rfl (teq hc228).2 ?_
      show Steps p.tables e below (T23.setTop (mkF m 231 #[.val (.int pp1), .val (.int pp2), .val (.int pp3), .val (.int pp4), .val (.int pp5), .val (.int (0 : Int32)), .val (.int i0), .val (.int i1), .val (.int i2), .val (.int i3), .val (.ref b3), .val (.ref b4), .val (.int (1 : Int32)), .unset] [])) _
      refine XS.iload X23.here hx rfl (hb hby at_231) rfl ?_
      show Steps p.tables e below (T23.setTop (mkF m 233 #[.val (.int pp1), .val (.int pp2), .val (.int pp3), .val (.int pp4), .val (.int pp5), .val (.int (0 : Int32)), .val (.int i0), .val (.int i1), .val (.int i2), .val (.int i3), .val (.ref b3), .val (.ref b4), .val (.int (1 : Int32)), .unset] [(.int (0 : Int32))])) _
      refine XS.ifYes X23.here hx rfl (pc0 := 233) (pc' := 245) rfl (hb hby at_233) rfl ((if0 _ _).trans (flt hc233).2.2.2) (by decide) (by decide) ?_
      show Steps p.tables e below (T23.setTop (mkF m 245 #[.val (.int pp1), .val (.int pp2), .val (.int pp3), .val (.int pp4), .val (.int pp5), .val (.int (0 : Int32)), .val (.int i0), .val (.int i1), .val (.int i2), .val (.int i3), .val (.ref b3), .val (.ref b4), .val (.int (1 : Int32)), .unset] [])) _
      refine XS.iload X23.here hx rfl (hb hby at_245) rfl ?_
      show Steps p.tables e below (T23.setTop (mkF m 247 #[.val (.int pp1), .val (.int pp2), .val (.int pp3), .val (.int pp4), .val (.int pp5), .val (.int (0 : Int32)), .val (.int i0), .val (.int i1), .val (.int i2), .val (.int i3), .val (.ref b3), .val (.ref b4), .val (.int (1 : Int32)), .unset] [(.int (0 : Int32))])) _
      refine XS.iconst X23.here hx rfl (hb hby at_247) ?_
      show Steps p.tables e below (T23.setTop (mkF m 248 #[.val (.int pp1), .val (.int pp2), .val (.int pp3), .val (.int pp4), .val (.int pp5), .val (.int (0 : Int32)), .val (.int i0), .val (.int i1), .val (.int i2), .val (.int i3), .val (.ref b3), .val (.ref b4), .val (.int (1 : Int32)), .unset] [(.int (1 : Int32)), (.int (0 : Int32))])) _
      refine XS.icmpYes X23.here hx rfl (pc0 := 248) (pc' := 260) rfl (hb hby at_248) rfl (flt hc248).2.2.2 (by decide) (by decide) ?_
      show Steps p.tables e below (T23.setTop (mkF m 260 #[.val (.int pp1), .val (.int pp2), .val (.int pp3), .val (.int pp4), .val (.int pp5), .val (.int (0 : Int32)), .val (.int i0), .val (.int i1), .val (.int i2), .val (.int i3), .val (.ref b3), .val (.ref b4), .val (.int (1 : Int32)), .unset] [])) _
      refine XS.iload X23.here hx rfl (hb hby at_260) rfl ?_
      show Steps p.tables e below (T23.setTop (mkF m 262 #[.val (.int pp1), .val (.int pp2), .val (.int pp3), .val (.int pp4), .val (.int pp5), .val (.int (0 : Int32)), .val (.int i0), .val (.int i1), .val (.int i2), .val (.int i3), .val (.ref b3), .val (.ref b4), .val (.int (1 : Int32)), .unset] [(.int (0 : Int32))])) _
      refine XS.iconst X23.here hx rfl (hb hby at_262) ?_
      show Steps p.tables e below (T23.setTop (mkF m 263 #[.val (.int pp1), .val (.int pp2), .val (.int pp3), .val (.int pp4), .val (.int pp5), .val (.int (0 : Int32)), .val (.int i0), .val (.int i1), .val (.int i2), .val (.int i3), .val (.ref b3), .val (.ref b4), .val (.int (1 : Int32)), .unset] [(.int (2 : Int32)), (.int (0 : Int32))])) _
      refine XS.icmpYes X23.here hx rfl (pc0 := 263) (pc' := 275) rfl (hb hby at_263) rfl (flt hc263).2.2.2 (by decide) (by decide) ?_
      show Steps p.tables e below (T23.setTop (mkF m 275 #[.val (.int pp1), .val (.int pp2), .val (.int pp3), .val (.int pp4), .val (.int pp5), .val (.int (0 : Int32)), .val (.int i0), .val (.int i1), .val (.int i2), .val (.int i3), .val (.ref b3), .val (.ref b4), .val (.int (1 : Int32)), .unset] [])) _
      refine XS.iload X23.here hx rfl (hb hby at_275) rfl ?_
      show Steps p.tables e below (T23.setTop (mkF m 277 #[.val (.int pp1), .val (.int pp2), .val (.int pp3), .val (.int pp4), .val (.int pp5), .val (.int (0 : Int32)), .val (.int i0), .val (.int i1), .val (.int i2), .val (.int i3), .val (.ref b3), .val (.ref b4), .val (.int (1 : Int32)), .unset] [(.int (0 : Int32))])) _
      refine XS.iconst X23.here hx rfl (hb hby at_277) ?_
      show Steps p.tables e below (T23.setTop (mkF m 278 #[.val (.int pp1), .val (.int pp2), .val (.int pp3), .val (.int pp4), .val (.int pp5), .val (.int (0 : Int32)), .val (.int i0), .val (.int i1), .val (.int i2), .val (.int i3), .val (.ref b3), .val (.ref b4), .val (.int (1 : Int32)), .unset] [(.int (3 : Int32)), (.int (0 : Int32))])) _
      refine XS.icmpYes X23.here hx rfl (pc0 := 278) (pc' := 290) rfl (hb hby at_278) rfl (flt hc278).2.2.2 (by decide) (by decide) ?_
      show Steps p.tables e below (T23.setTop (mkF m 290 #[.val (.int pp1), .val (.int pp2), .val (.int pp3), .val (.int pp4), .val (.int pp5), .val (.int (0 : Int32)), .val (.int i0), .val (.int i1), .val (.int i2), .val (.int i3), .val (.ref b3), .val (.ref b4), .val (.int (1 : Int32)), .unset] [])) _
      refine XS.iconst X23.here hx rfl (hb hby at_290) ?_
      show Steps p.tables e below (T23.setTop (mkF m 291 #[.val (.int pp1), .val (.int pp2), .val (.int pp3), .val (.int pp4), .val (.int pp5), .val (.int (0 : Int32)), .val (.int i0), .val (.int i1), .val (.int i2), .val (.int i3), .val (.ref b3), .val (.ref b4), .val (.int (1 : Int32)), .unset] [(.int (1 : Int32))])) _
      refine XS.goto X23.here hx rfl (pc0 := 291) (pc' := 295) rfl (hb hby at_291) (by decide) (by decide) ?_
      show Steps p.tables e below (T23.setTop (mkF m 295 #[.val (.int pp1), .val (.int pp2), .val (.int pp3), .val (.int pp4), .val (.int pp5), .val (.int (0 : Int32)), .val (.int i0), .val (.int i1), .val (.int i2), .val (.int i3), .val (.ref b3), .val (.ref b4), .val (.int (1 : Int32)), .unset] [(.int (1 : Int32))])) _
      refine XS.istore X23.here hx rfl (hb hby at_295) rfl (l' := #[.val (.int pp1), .val (.int pp2), .val (.int pp3), .val (.int pp4), .val (.int pp5), .val (.int (0 : Int32)), .val (.int i0), .val (.int i1), .val (.int i2), .val (.int i3), .val (.ref b3), .val (.ref b4), .val (.int (1 : Int32)), .val (.int (1 : Int32))]) rfl ?_
      show Steps p.tables e below (T23.setTop (mkF m 297 #[.val (.int pp1), .val (.int pp2), .val (.int pp3), .val (.int pp4), .val (.int pp5), .val (.int (0 : Int32)), .val (.int i0), .val (.int i1), .val (.int i2), .val (.int i3), .val (.ref b3), .val (.ref b4), .val (.int (1 : Int32)), .val (.int (1 : Int32))] [])) _
      refine XS.iload X23.here hx rfl (hb hby at_297) rfl ?_
      show Steps p.tables e below (T23.setTop (mkF m 299 #[.val (.int pp1), .val (.int pp2), .val (.int pp3), .val (.int pp4), .val (.int pp5), .val (.int (0 : Int32)), .val (.int i0), .val (.int i1), .val (.int i2), .val (.int i3), .val (.ref b3), .val (.ref b4), .val (.int (1 : Int32)), .val (.int (1 : Int32))] [(.int (1 : Int32))])) _
      refine XS.ifNo X23.here hx rfl (hb hby at_299) rfl ((if0 _ _).trans (feq hc299).1) ?_
      show Steps p.tables e below (T23.setTop (mkF m 302 #[.val (.int pp1), .val (.int pp2), .val (.int pp3), .val (.int pp4), .val (.int pp5), .val (.int (0 : Int32)), .val (.int i0), .val (.int i1), .val (.int i2), .val (.int i3), .val (.ref b3), .val (.ref b4), .val (.int (1 : Int32)), .val (.int (1 : Int32))] [])) _
      refine XS.iload X23.here hx rfl (hb hby at_302) rfl ?_
      show Steps p.tables e below (T23.setTop (mkF m 304 #[.val (.int pp1), .val (.int pp2), .val (.int pp3), .val (.int pp4), .val (.int pp5), .val (.int (0 : Int32)), .val (.int i0), .val (.int i1), .val (.int i2), .val (.int i3), .val (.ref b3), .val (.ref b4), .val (.int (1 : Int32)), .val (.int (1 : Int32))] [(.int (1 : Int32))])) _
      refine XS.ifNo X23.here hx rfl (hb hby at_304) rfl ((if0 _ _).trans (feq hc304).1) ?_
      show Steps p.tables e below (T23.setTop (mkF m 307 #[.val (.int pp1), .val (.int pp2), .val (.int pp3), .val (.int pp4), .val (.int pp5), .val (.int (0 : Int32)), .val (.int i0), .val (.int i1), .val (.int i2), .val (.int i3), .val (.ref b3), .val (.ref b4), .val (.int (1 : Int32)), .val (.int (1 : Int32))] [])) _
      refine XS.iconst X23.here hx rfl (hb hby at_307) ?_
      show Steps p.tables e below (T23.setTop (mkF m 308 #[.val (.int pp1), .val (.int pp2), .val (.int pp3), .val (.int pp4), .val (.int pp5), .val (.int (0 : Int32)), .val (.int i0), .val (.int i1), .val (.int i2), .val (.int i3), .val (.ref b3), .val (.ref b4), .val (.int (1 : Int32)), .val (.int (1 : Int32))] [(.int (1 : Int32))])) _
      refine XS.goto X23.here hx rfl (pc0 := 308) (pc' := 312) rfl (hb hby at_308) (by decide) (by decide) ?_
      show Steps p.tables e below (T23.setTop (mkF m 312 #[.val (.int pp1), .val (.int pp2), .val (.int pp3), .val (.int pp4), .val (.int pp5), .val (.int (0 : Int32)), .val (.int i0), .val (.int i1), .val (.int i2), .val (.int i3), .val (.ref b3), .val (.ref b4), .val (.int (1 : Int32)), .val (.int (1 : Int32))] [(.int (1 : Int32))])) _
      exact retN X23 hx (t := .boolean) Bd.returns (by simp) (hb hby at_312) hr
    · show Q0 Z pp1 pp2 pp3 pp4 pp5 h0 n0 _ T23.heap _
      rw [e23]
      exact ⟨rfl, N23⟩
  · skip
    obtain ⟨T26, h26, k26, X26, e26, E26, A26, st26⟩ := newP X0 hx hZ (hw _ (List.mem_of_getElem? (i := 0) rfl)) e0 (g := (mkF m 40 #[.val (.int pp1), .val (.int pp2), .val (.int pp3), .val (.int pp4), .val (.int pp5), .val (.int (1 : Int32)), .val (.int i0), .val (.int i1), .val (.int i2), .val (.int i3), .unset, .unset, .unset, .unset] [(.int (1 : Int32))])) rfl (hb hby at_40) rfl (by decide) (cap := 1) (by decide) (by decide) (by decide) (by decide)
    obtain ⟨b26, g26⟩ : ∃ z, z = h0.size := ⟨_, rfl⟩
    rw [← g26] at A26 st26
    have g_b26 : n0 ≤ b26 := Nat.le_trans Z0 (Nat.le_of_eq g26.symm)
    have Z26 : n0 ≤ h26.size := Nat.le_trans Z0 E26.1
    have V26 : Arv Z h26 b26 k26 .int (1 : Int32) [(.int (0 : Int32))] (.int (0 : Int32)) := (Arv.new A26 (by decide)).pad (pad_rep [] (.int (0 : Int32)) 1)
    have hc46_2 : (0 : Int32) < (1 : Int32) := by decide
    obtain ⟨cl_27, Ar_27, qq_27, Sz_27, Nn_27, Hh_27, Gg_27⟩ := id V26
    have hin_27 : ¬ ((0 : Int32) < 0 ∨ cl_27.slots.size ≤ ((0 : Int32)).toNatClampNeg) := inb_of Sz_27 ⟨by decide, by decide⟩
    obtain ⟨T28, h28, X28, e28, W28, st28⟩ := stI X26 hx hZ e26 Ar_27 (j := (0 : Int32)) hin_27 (g := (mkF m 54 #[.val (.int pp1), .val (.int pp2), .val (.int pp3), .val (.int pp4), .val (.int pp5), .val (.int (1 : Int32)), .val (.int i0), .val (.int i1), .val (.int i2), .val (.int i3), .val (.ref b26), .unset, .unset, .unset] [(.int i0), (.int (0 : Int32)), (.ref b26)])) rfl rfl (hb hby at_54)
    have N28 := Fr.snoc X28 N0 g_b26
    have Z28 : n0 ≤ h28.size := Nat.le_trans Z26 (Keep.of_wr W28).1
    have V28 : Arv Z h28 b26 k26 .int (1 : Int32) [(.int i0)] (.int (0 : Int32)) := Arv.set Ar_27 qq_27 Sz_27 Nn_27 Hh_27 Gg_27 rfl W28 0 rfl (Nat.le_of_ble_eq_true rfl)
    have hc58_2 : ¬ ((1 : Int32) < (1 : Int32)) := by decide
    have hc70_2 : ¬ ((2 : Int32) < (1 : Int32)) := by decide
    have hc82_2 : ¬ ((3 : Int32) < (1 : Int32)) := by decide
    obtain ⟨T29, h29, k29, X29, e29, E29, A29, st29⟩ := newP X28 hx hZ (hw _ (List.mem_of_getElem? (i := 0) rfl)) e28 (g := (mkF m 92 #[.val (.int pp1), .val (.int pp2), .val (.int pp3), .val (.int pp4), .val (.int pp5), .val (.int (1 : Int32)), .val (.int i0), .val (.int i1), .val (.int i2), .val (.int i3), .val (.ref b26), .unset, .unset, .unset] [(.int (4 : Int32))])) rfl (hb hby at_92) rfl (by decide) (cap := 4) (by decide) (by decide) (by decide) (by decide)
    obtain ⟨b29, g29⟩ : ∃ z, z = h28.size := ⟨_, rfl⟩
    rw [← g29] at A29 st29
    have g_b29 : n0 ≤ b29 := Nat.le_trans Z28 (Nat.le_of_eq g29.symm)
    have Z29 : n0 ≤ h29.size := Nat.le_trans Z28 E29.1
    have V29 : Arv Z h29 b29 k29 .int (4 : Int32) [(.int (0 : Int32)), (.int (0 : Int32)), (.int (0 : Int32)), (.int (0 : Int32))] (.int (0 : Int32)) := (Arv.new A29 (by decide)).pad (pad_rep [] (.int (0 : Int32)) 4)
    obtain ⟨cl_30, Ar_30, qq_30, Sz_30, Nn_30, Hh_30, Gg_30⟩ := id V29
    have hin_30 : ¬ ((0 : Int32) < 0 ∨ cl_30.slots.size ≤ ((0 : Int32)).toNatClampNeg) := inb_of Sz_30 ⟨by decide, by decide⟩
    obtain ⟨T31, h31, X31, e31, W31, st31⟩ := stI X29 hx hZ e29 Ar_30 (j := (0 : Int32)) hin_30 (g := (mkF m 97 #[.val (.int pp1), .val (.int pp2), .val (.int pp3), .val (.int pp4), .val (.int pp5), .val (.int (1 : Int32)), .val (.int i0), .val (.int i1), .val (.int i2), .val (.int i3), .val (.ref b26), .unset, .unset, .unset] [(.int pp2), (.int (0 : Int32)), (.ref b29), (.ref b29)])) rfl rfl (hb hby at_97)
    have N31 := Fr.snoc X31 N28 g_b29
    have Z31 : n0 ≤ h31.size := Nat.le_trans Z29 (Keep.of_wr W31).1
    have V31 : Arv Z h31 b29 k29 .int (4 : Int32) [(.int pp2), (.int (0 : Int32)), (.int (0 : Int32)), (.int (0 : Int32))] (.int (0 : Int32)) := Arv.set Ar_30 qq_30 Sz_30 Nn_30 Hh_30 Gg_30 rfl W31 0 rfl (Nat.le_of_ble_eq_true rfl)
    obtain ⟨cl_32, Ar_32, qq_32, Sz_32, Nn_32, Hh_32, Gg_32⟩ := id V31
    have hin_32 : ¬ ((1 : Int32) < 0 ∨ cl_32.slots.size ≤ ((1 : Int32)).toNatClampNeg) := inb_of Sz_32 ⟨by decide, by decide⟩
    obtain ⟨T33, h33, X33, e33, W33, st33⟩ := stI X31 hx hZ e31 Ar_32 (j := (1 : Int32)) hin_32 (g := (mkF m 101 #[.val (.int pp1), .val (.int pp2), .val (.int pp3), .val (.int pp4), .val (.int pp5), .val (.int (1 : Int32)), .val (.int i0), .val (.int i1), .val (.int i2), .val (.int i3), .val (.ref b26), .unset, .unset, .unset] [(.int pp3), (.int (1 : Int32)), (.ref b29), (.ref b29)])) rfl rfl (hb hby at_101)
    have N33 := Fr.snoc X33 N31 g_b29
    have Z33 : n0 ≤ h33.size := Nat.le_trans Z31 (Keep.of_wr W33).1
    have V33 : Arv Z h33 b29 k29 .int (4 : Int32) [(.int pp2), (.int pp3), (.int (0 : Int32)), (.int (0 : Int32))] (.int (0 : Int32)) := Arv.set Ar_32 qq_32 Sz_32 Nn_32 Hh_32 Gg_32 rfl W33 1 rfl (Nat.le_of_ble_eq_true rfl)
    obtain ⟨cl_34, Ar_34, qq_34, Sz_34, Nn_34, Hh_34, Gg_34⟩ := id V33
    have hin_34 : ¬ ((2 : Int32) < 0 ∨ cl_34.slots.size ≤ ((2 : Int32)).toNatClampNeg) := inb_of Sz_34 ⟨by decide, by decide⟩
    obtain ⟨T35, h35, X35, e35, W35, st35⟩ := stI X33 hx hZ e33 Ar_34 (j := (2 : Int32)) hin_34 (g := (mkF m 105 #[.val (.int pp1), .val (.int pp2), .val (.int pp3), .val (.int pp4), .val (.int pp5), .val (.int (1 : Int32)), .val (.int i0), .val (.int i1), .val (.int i2), .val (.int i3), .val (.ref b26), .unset, .unset, .unset] [(.int pp4), (.int (2 : Int32)), (.ref b29), (.ref b29)])) rfl rfl (hb hby at_105)
    have N35 := Fr.snoc X35 N33 g_b29
    have Z35 : n0 ≤ h35.size := Nat.le_trans Z33 (Keep.of_wr W35).1
    have V35 : Arv Z h35 b29 k29 .int (4 : Int32) [(.int pp2), (.int pp3), (.int pp4), (.int (0 : Int32))] (.int (0 : Int32)) := Arv.set Ar_34 qq_34 Sz_34 Nn_34 Hh_34 Gg_34 rfl W35 2 rfl (Nat.le_of_ble_eq_true rfl)
    obtain ⟨cl_36, Ar_36, qq_36, Sz_36, Nn_36, Hh_36, Gg_36⟩ := id V35
    have hin_36 : ¬ ((3 : Int32) < 0 ∨ cl_36.slots.size ≤ ((3 : Int32)).toNatClampNeg) := inb_of Sz_36 ⟨by decide, by decide⟩
    obtain ⟨T37, h37, X37, e37, W37, st37⟩ := stI X35 hx hZ e35 Ar_36 (j := (3 : Int32)) hin_36 (g := (mkF m 110 #[.val (.int pp1), .val (.int pp2), .val (.int pp3), .val (.int pp4), .val (.int pp5), .val (.int (1 : Int32)), .val (.int i0), .val (.int i1), .val (.int i2), .val (.int i3), .val (.ref b26), .unset, .unset, .unset] [(.int pp5), (.int (3 : Int32)), (.ref b29), (.ref b29)])) rfl rfl (hb hby at_110)
    have N37 := Fr.snoc X37 N35 g_b29
    have Z37 : n0 ≤ h37.size := Nat.le_trans Z35 (Keep.of_wr W37).1
    have V37 : Arv Z h37 b29 k29 .int (4 : Int32) [(.int pp2), (.int pp3), (.int pp4), (.int pp5)] (.int (0 : Int32)) := Arv.set Ar_36 qq_36 Sz_36 Nn_36 Hh_36 Gg_36 rfl W37 3 rfl (Nat.le_of_ble_eq_true rfl)
    have V_38 : Arv Z h37 b26 k26 .int (1 : Int32) [(.int i0)] (.int (0 : Int32)) := (((((V28.ext E29).other W31 (Nat.ne_of_lt (Nat.lt_of_lt_of_le V28.lt (Nat.le_of_eq g29.symm)))).other W33 (Nat.ne_of_lt (Nat.lt_of_lt_of_le V28.lt (Nat.le_of_eq g29.symm)))).other W35 (Nat.ne_of_lt (Nat.lt_of_lt_of_le V28.lt (Nat.le_of_eq g29.symm)))).other W37 (Nat.ne_of_lt (Nat.lt_of_lt_of_le V28.lt (Nat.le_of_eq g29.symm))))
    obtain ⟨_, _, ⟨T39, L39, k39, n39⟩, -, X39, ⟨Lc39, hQ39, l39, y39, z39⟩, st39⟩ := Jvm.LawKit.callS X37 hx (y := (⟨"com/example/splitgrain/splitgrain/parse/ChartItems", "clearPlaces", "([I[I)V"⟩ : MethodName)) hown (mvT hZ (hw _ (List.mem_of_getElem? (i := 1) rfl))) (mvT hZ (hw _ (List.mem_of_getElem? (i := 2) rfl))) (mvT hZ (hw _ (List.mem_of_getElem? (i := 3) rfl))) (mvT hZ (hw _ (List.mem_of_getElem? (i := 4) rfl))) (by decide) (backOf (W := 0) (rm1_1 l Z a0 hw [] b26 b29 k26 k29 [(.int pp2), (.int pp3), (.int pp4), (.int pp5)] i0 h37 n0 Z37 V_38 V37 g_b29 (Nat.ne_of_lt (Nat.lt_of_lt_of_le V28.lt (Nat.le_of_eq g29.symm))) (show [(.int pp2), (.int pp3), (.int pp4), (.int pp5)].length = 4 from rfl) (show ¬ i0 < (0 : Int32) ∧ i0 < (4 : Int32) from h_i0)) hZ (hw _ (List.mem_of_getElem? (i := 4) rfl)) (hw _ (List.mem_of_getElem? (i := 3) rfl)) (by decide) (by decide)) (g := (mkF m 117 #[.val (.int pp1), .val (.int pp2), .val (.int pp3), .val (.int pp4), .val (.int pp5), .val (.int (1 : Int32)), .val (.int i0), .val (.int i1), .val (.int i2), .val (.int i3), .val (.ref b26), .val (.ref b29), .unset, .unset] [(.ref b29), (.ref b26)])) rfl (by rw [hml]; rfl) (argsL := [(.ref b26), (.ref b29)]) (rest := []) (lenOf pd__28__5b_I_5b_I_29_V rfl) rfl (by show 2 * 0 + _ ≤ _; exact Nat.le_of_eq rfl) (hb hby at_117) (fun _ _ => ⟨rfl, e37, (by decide : 2 + 0 ≤ _), (by decide : 5 + 0 ≤ _)⟩)
    dsimp only [Pt.U, Pt.locs, Pt.cells, Pt.slots] at X39 l39 y39 z39 st39 hQ39
    subst l39 y39 z39
    obtain ⟨rfl, N39q, K39c, R39_0⟩ := hQ39
    have N39 := Fr.app N37 N39q
    have Z39 : n0 ≤ T39.heap.size := Nat.le_trans Z37 K39c.1
    obtain ⟨cl_40, Ar_40, -, Sz_40, Nn_40, -, -⟩ := id R39_0
    have hc124_2 : (4 : Int32) = (4 : Int32) := by decide
    obtain ⟨cl_41, Ar_41, qq_41, Sz_41, Nn_41, Hh_41, Gg_41⟩ := id R39_0
    have hin_41 : ¬ ((0 : Int32) < 0 ∨ cl_41.slots.size ≤ ((0 : Int32)).toNatClampNeg) := inb_of Sz_41 ⟨by decide, by decide⟩
    have hat_41 : cl_41.slots[((0 : Int32)).toNatClampNeg]? = some (.int (if i0 = (0 : Int32) then (-1 : Int32) else pp2)) := Has.at Hh_41 hin_41 (own_getset rfl h_i0 ⟨by decide, by decide⟩ rfl)
    obtain ⟨_, _, ⟨T42, L42, k42, n42⟩, -, X42, ⟨Lc42, hQ42, l42, y42, z42⟩, st42⟩ := Jvm.LawKit.callS X39 hx (y := (⟨"com/example/splitgrain/splitgrain/parse/ChartItemsClearPlacesPinLaw", "expect", "(IIIIIII)I"⟩ : MethodName)) hown (mvT hZ (hw _ (List.mem_of_getElem? (i := 5) rfl))) (mvT hZ (hw _ (List.mem_of_getElem? (i := 6) rfl))) (mvT hZ (hw _ (List.mem_of_getElem? (i := 7) rfl))) (mvT hZ (hw _ (List.mem_of_getElem? (i := 8) rfl))) (by decide) (backOf (W := 1) (rm2_1 l Z a0 hw [] (0 : Int32) pp2 i0 i1 i2 i3 T39.heap n0 Z39 ) hZ (hw _ (List.mem_of_getElem? (i := 8) rfl)) (hw _ (List.mem_of_getElem? (i := 7) rfl)) (by decide) (by decide)) (g := (mkF m 143 #[.val (.int pp1), .val (.int pp2), .val (.int pp3), .val (.int pp4), .val (.int pp5), .val (.int (1 : Int32)), .val (.int i0), .val (.int i1), .val (.int i2), .val (.int i3), .val (.ref b26), .val (.ref b29), .unset, .unset] [(.int i3), (.int i2), (.int i1), (.int i0), (.int (1 : Int32)), (.int pp2), (.int (0 : Int32)), (.int (if i0 = (0 : Int32) then (-1 : Int32) else pp2))])) rfl (by rw [hml]; rfl) (argsL := [(.int (0 : Int32)), (.int pp2), (.int (1 : Int32)), (.int i0), (.int i1), (.int i2), (.int i3)]) (rest := [(.int (if i0 = (0 : Int32) then (-1 : Int32) else pp2))]) (lenOf pd__28_IIIIIII_29_I rfl) rfl (by show 2 * 0 + _ ≤ _; exact Nat.le_of_eq rfl) (hb hby at_143) (fun _ _ => ⟨rfl, rfl, (by decide : 2 + 0 ≤ _), (by decide : 5 + 0 ≤ _)⟩)
    dsimp only [Pt.U, Pt.locs, Pt.cells, Pt.slots] at X42 l42 y42 z42 st42 hQ42
    subst l42 y42 z42
    obtain ⟨rfl, N42q, e42⟩ := hQ42
    have N42 := Fr.app N39 N42q
    have hc146_2 : (if i0 = (0 : Int32) then (-1 : Int32) else pp2) = (if i0 = (0 : Int32) then (-1 : Int32) else pp2) := own_re1 _ _ _ 
    obtain ⟨cl_43, Ar_43, qq_43, Sz_43, Nn_43, Hh_43, Gg_43⟩ := id R39_0
    have hin_43 : ¬ ((1 : Int32) < 0 ∨ cl_43.slots.size ≤ ((1 : Int32)).toNatClampNeg) := inb_of Sz_43 ⟨by decide, by decide⟩
    have hat_43 : cl_43.slots[((1 : Int32)).toNatClampNeg]? = some (.int (if i0 = (1 : Int32) then (-1 : Int32) else pp3)) := Has.at Hh_43 hin_43 (own_getset rfl h_i0 ⟨by decide, by decide⟩ rfl)
    obtain ⟨_, _, ⟨T44, L44, k44, n44⟩, -, X44, ⟨Lc44, hQ44, l44, y44, z44⟩, st44⟩ := Jvm.LawKit.callS X42 hx (y := (⟨"com/example/splitgrain/splitgrain/parse/ChartItemsClearPlacesPinLaw", "expect", "(IIIIIII)I"⟩ : MethodName)) hown (mvT hZ (hw _ (List.mem_of_getElem? (i := 5) rfl))) (mvT hZ (hw _ (List.mem_of_getElem? (i := 6) rfl))) (mvT hZ (hw _ (List.mem_of_getElem? (i := 7) rfl))) (mvT hZ (hw _ (List.mem_of_getElem? (i := 8) rfl))) (by decide) (backOf (W := 1) (rm2_1 l Z a0 hw [] (1 : Int32) pp3 i0 i1 i2 i3 T39.heap n0 Z39 ) hZ (hw _ (List.mem_of_getElem? (i := 8) rfl)) (hw _ (List.mem_of_getElem? (i := 7) rfl)) (by decide) (by decide)) (g := (mkF m 165 #[.val (.int pp1), .val (.int pp2), .val (.int pp3), .val (.int pp4), .val (.int pp5), .val (.int (1 : Int32)), .val (.int i0), .val (.int i1), .val (.int i2), .val (.int i3), .val (.ref b26), .val (.ref b29), .unset, .unset] [(.int i3), (.int i2), (.int i1), (.int i0), (.int (1 : Int32)), (.int pp3), (.int (1 : Int32)), (.int (if i0 = (1 : Int32) then (-1 : Int32) else pp3))])) rfl (by rw [hml]; rfl) (argsL := [(.int (1 : Int32)), (.int pp3), (.int (1 : Int32)), (.int i0), (.int i1), (.int i2), (.int i3)]) (rest := [(.int (if i0 = (1 : Int32) then (-1 : Int32) else pp3))]) (lenOf pd__28_IIIIIII_29_I rfl) rfl (by show 2 * 0 + _ ≤ _; exact Nat.le_of_eq rfl) (hb hby at_165) (fun _ _ => ⟨rfl, e42, (by decide : 2 + 0 ≤ _), (by decide : 5 + 0 ≤ _)⟩)
    dsimp only [Pt.U, Pt.locs, Pt.cells, Pt.slots] at X44 l44 y44 z44 st44 hQ44
    subst l44 y44 z44
    obtain ⟨rfl, N44q, e44⟩ := hQ44
    have N44 := Fr.app N42 N44q
    have hc168_2 : (if i0 = (1 : Int32) then (-1 : Int32) else pp3) = (if i0 = (1 : Int32) then (-1 : Int32) else pp3) := own_re1 _ _ _ 
    obtain ⟨cl_45, Ar_45, qq_45, Sz_45, Nn_45, Hh_45, Gg_45⟩ := id R39_0
    have hin_45 : ¬ ((2 : Int32) < 0 ∨ cl_45.slots.size ≤ ((2 : Int32)).toNatClampNeg) := inb_of Sz_45 ⟨by decide, by decide⟩
    have hat_45 : cl_45.slots[((2 : Int32)).toNatClampNeg]? = some (.int (if i0 = (2 : Int32) then (-1 : Int32) else pp4)) := Has.at Hh_45 hin_45 (own_getset rfl h_i0 ⟨by decide, by decide⟩ rfl)
    obtain ⟨_, _, ⟨T46, L46, k46, n46⟩, -, X46, ⟨Lc46, hQ46, l46, y46, z46⟩, st46⟩ := Jvm.LawKit.callS X44 hx (y := (⟨"com/example/splitgrain/splitgrain/parse/ChartItemsClearPlacesPinLaw", "expect", "(IIIIIII)I"⟩ : MethodName)) hown (mvT hZ (hw _ (List.mem_of_getElem? (i := 5) rfl))) (mvT hZ (hw _ (List.mem_of_getElem? (i := 6) rfl))) (mvT hZ (hw _ (List.mem_of_getElem? (i := 7) rfl))) (mvT hZ (hw _ (List.mem_of_getElem? (i := 8) rfl))) (by decide) (backOf (W := 1) (rm2_1 l Z a0 hw [] (2 : Int32) pp4 i0 i1 i2 i3 T39.heap n0 Z39 ) hZ (hw _ (List.mem_of_getElem? (i := 8) rfl)) (hw _ (List.mem_of_getElem? (i := 7) rfl)) (by decide) (by decide)) (g := (mkF m 187 #[.val (.int pp1), .val (.int pp2), .val (.int pp3), .val (.int pp4), .val (.int pp5), .val (.int (1 : Int32)), .val (.int i0), .val (.int i1), .val (.int i2), .val (.int i3), .val (.ref b26), .val (.ref b29), .unset, .unset] [(.int i3), (.int i2), (.int i1), (.int i0), (.int (1 : Int32)), (.int pp4), (.int (2 : Int32)), (.int (if i0 = (2 : Int32) then (-1 : Int32) else pp4))])) rfl (by rw [hml]; rfl) (argsL := [(.int (2 : Int32)), (.int pp4), (.int (1 : Int32)), (.int i0), (.int i1), (.int i2), (.int i3)]) (rest := [(.int (if i0 = (2 : Int32) then (-1 : Int32) else pp4))]) (lenOf pd__28_IIIIIII_29_I rfl) rfl (by show 2 * 0 + _ ≤ _; exact Nat.le_of_eq rfl) (hb hby at_187) (fun _ _ => ⟨rfl, e44, (by decide : 2 + 0 ≤ _), (by decide : 5 + 0 ≤ _)⟩)
    dsimp only [Pt.U, Pt.locs, Pt.cells, Pt.slots] at X46 l46 y46 z46 st46 hQ46
    subst l46 y46 z46
    obtain ⟨rfl, N46q, e46⟩ := hQ46
    have N46 := Fr.app N44 N46q
    have hc190_2 : (if i0 = (2 : Int32) then (-1 : Int32) else pp4) = (if i0 = (2 : Int32) then (-1 : Int32) else pp4) := own_re1 _ _ _ 
    obtain ⟨cl_47, Ar_47, qq_47, Sz_47, Nn_47, Hh_47, Gg_47⟩ := id R39_0
    have hin_47 : ¬ ((3 : Int32) < 0 ∨ cl_47.slots.size ≤ ((3 : Int32)).toNatClampNeg) := inb_of Sz_47 ⟨by decide, by decide⟩
    have hat_47 : cl_47.slots[((3 : Int32)).toNatClampNeg]? = some (.int (if i0 = (3 : Int32) then (-1 : Int32) else pp5)) := Has.at Hh_47 hin_47 (own_getset rfl h_i0 ⟨by decide, by decide⟩ rfl)
    obtain ⟨_, _, ⟨T48, L48, k48, n48⟩, -, X48, ⟨Lc48, hQ48, l48, y48, z48⟩, st48⟩ := Jvm.LawKit.callS X46 hx (y := (⟨"com/example/splitgrain/splitgrain/parse/ChartItemsClearPlacesPinLaw", "expect", "(IIIIIII)I"⟩ : MethodName)) hown (mvT hZ (hw _ (List.mem_of_getElem? (i := 5) rfl))) (mvT hZ (hw _ (List.mem_of_getElem? (i := 6) rfl))) (mvT hZ (hw _ (List.mem_of_getElem? (i := 7) rfl))) (mvT hZ (hw _ (List.mem_of_getElem? (i := 8) rfl))) (by decide) (backOf (W := 1) (rm2_1 l Z a0 hw [] (3 : Int32) pp5 i0 i1 i2 i3 T39.heap n0 Z39 ) hZ (hw _ (List.mem_of_getElem? (i := 8) rfl)) (hw _ (List.mem_of_getElem? (i := 7) rfl)) (by decide) (by decide)) (g := (mkF m 210 #[.val (.int pp1), .val (.int pp2), .val (.int pp3), .val (.int pp4), .val (.int pp5), .val (.int (1 : Int32)), .val (.int i0), .val (.int i1), .val (.int i2), .val (.int i3), .val (.ref b26), .val (.ref b29), .unset, .unset] [(.int i3), (.int i2), (.int i1), (.int i0), (.int (1 : Int32)), (.int pp5), (.int (3 : Int32)), (.int (if i0 = (3 : Int32) then (-1 : Int32) else pp5))])) rfl (by rw [hml]; rfl) (argsL := [(.int (3 : Int32)), (.int pp5), (.int (1 : Int32)), (.int i0), (.int i1), (.int i2), (.int i3)]) (rest := [(.int (if i0 = (3 : Int32) then (-1 : Int32) else pp5))]) (lenOf pd__28_IIIIIII_29_I rfl) rfl (by show 2 * 0 + _ ≤ _; exact Nat.le_of_eq rfl) (hb hby at_210) (fun _ _ => ⟨rfl, e46, (by decide : 2 + 0 ≤ _), (by decide : 5 + 0 ≤ _)⟩)
    dsimp only [Pt.U, Pt.locs, Pt.cells, Pt.slots] at X48 l48 y48 z48 st48 hQ48
    subst l48 y48 z48
    obtain ⟨rfl, N48q, e48⟩ := hQ48
    have N48 := Fr.app N46 N48q
    have hc213_2 : (if i0 = (3 : Int32) then (-1 : Int32) else pp5) = (if i0 = (3 : Int32) then (-1 : Int32) else pp5) := own_re1 _ _ _ 
    have V_49 : Arv Z T39.heap b26 k26 .int (1 : Int32) [(.int i0)] (.int (0 : Int32)) := (V_38.keep K39c (ninS (Nat.ne_of_lt (Nat.lt_of_lt_of_le V28.lt (Nat.le_of_eq g29.symm))) nin0))
    obtain ⟨cl_50, Ar_50, -, Sz_50, Nn_50, -, -⟩ := id V_49
    have hc228_2 : (1 : Int32) = (1 : Int32) := by decide
    have hc233_2 : (0 : Int32) < (1 : Int32) := by decide
    obtain ⟨cl_51, Ar_51, qq_51, Sz_51, Nn_51, Hh_51, Gg_51⟩ := id V_49
    have hin_51 : ¬ ((0 : Int32) < 0 ∨ cl_51.slots.size ≤ ((0 : Int32)).toNatClampNeg) := inb_of Sz_51 ⟨by decide, by decide⟩
    have hat_51 : cl_51.slots[((0 : Int32)).toNatClampNeg]? = some (.int i0) := Has.at Hh_51 hin_51 rfl
    have hc248_2 : ¬ ((1 : Int32) < (1 : Int32)) := by decide
    have hc263_2 : ¬ ((2 : Int32) < (1 : Int32)) := by decide
    have hc278_2 : ¬ ((3 : Int32) < (1 : Int32)) := by decide
    have hc299_2 : ¬ ((1 : Int32) = (0 : Int32)) := by decide
    have hc304_2 : ¬ ((1 : Int32) = (0 : Int32)) := by decide
    obtain ⟨fs, hr, hrun, hended, hW, hsame⟩ := X48.leave (v := some (.int (1 : Int32))) (fun h => by rw [Bd.returns] at h; cases h)
    refine ⟨_, _, pre2 _ ?_, hrun, hended, _, _, rfl, ?_, ⟨_, rfl⟩, hW, hsame.mono (by decide) (by decide)⟩
    · show Steps p.tables e below (s₁.setTop (mkF m 38 #[.val (.int pp1), .val (.int pp2), .val (.int pp3), .val (.int pp4), .val (.int pp5), .val (.int (1 : Int32)), .val (.int i0), .val (.int i1), .val (.int i2), .val (.int i3), .unset, .unset, .unset, .unset] [])) _
      refine XS.iload X0.here hx rfl (hb hby at_38) rfl ?_
      show Steps p.tables e below (s₁.setTop (mkF m 40 #[.val (.int pp1), .val (.int pp2), .val (.int pp3), .val (.int pp4), .val (.int pp5), .val (.int (1 : Int32)), .val (.int i0), .val (.int i1), .val (.int i2), .val (.int i3), .unset, .unset, .unset, .unset] [(.int (1 : Int32))])) _
      refine st26 _ ?_
      show Steps p.tables e below (T26.setTop (mkF m 42 #[.val (.int pp1), .val (.int pp2), .val (.int pp3), .val (.int pp4), .val (.int pp5), .val (.int (1 : Int32)), .val (.int i0), .val (.int i1), .val (.int i2), .val (.int i3), .unset, .unset, .unset, .unset] [(.ref b26)])) _
      refine XS.astore X26.here hx rfl (hb hby at_42) rfl rfl (l' := #[.val (.int pp1), .val (.int pp2), .val (.int pp3), .val (.int pp4), .val (.int pp5), .val (.int (1 : Int32)), .val (.int i0), .val (.int i1), .val (.int i2), .val (.int i3), .val (.ref b26), .unset, .unset, .unset]) rfl ?_
      show Steps p.tables e below (T26.setTop (mkF m 44 #[.val (.int pp1), .val (.int pp2), .val (.int pp3), .val (.int pp4), .val (.int pp5), .val (.int (1 : Int32)), .val (.int i0), .val (.int i1), .val (.int i2), .val (.int i3), .val (.ref b26), .unset, .unset, .unset] [])) _
      refine XS.iload X26.here hx rfl (hb hby at_44) rfl ?_
      show Steps p.tables e below (T26.setTop (mkF m 46 #[.val (.int pp1), .val (.int pp2), .val (.int pp3), .val (.int pp4), .val (.int pp5), .val (.int (1 : Int32)), .val (.int i0), .val (.int i1), .val (.int i2), .val (.int i3), .val (.ref b26), .unset, .unset, .unset] [(.int (1 : Int32))])) _
      refine XS.ifNo X26.here hx rfl (hb hby at_46) rfl ((if0 _ _).trans (tlt hc46_2).2.2.2) ?_
      show Steps p.tables e below (T26.setTop (mkF m 49 #[.val (.int pp1), .val (.int pp2), .val (.int pp3), .val (.int pp4), .val (.int pp5), .val (.int (1 : Int32)), .val (.int i0), .val (.int i1), .val (.int i2), .val (.int i3), .val (.ref b26), .unset, .unset, .unset] [])) _
      refine XS.aload X26.here hx rfl (hb hby at_49) rfl rfl ?_
      show Steps p.tables e below (T26.setTop (mkF m 51 #[.val (.int pp1), .val (.int pp2), .val (.int pp3), .val (.int pp4), .val (.int pp5), .val (.int (1 : Int32)), .val (.int i0), .val (.int i1), .val (.int i2), .val (.int i3), .val (.ref b26), .unset, .unset, .unset] [(.ref b26)])) _
      refine XS.iconst X26.here hx rfl (hb hby at_51) ?_
      show Steps p.tables e below (T26.setTop (mkF m 52 #[.val (.int pp1), .val (.int pp2), .val (.int pp3), .val (.int pp4), .val (.int pp5), .val (.int (1 : Int32)), .val (.int i0), .val (.int i1), .val (.int i2), .val (.int i3), .val (.ref b26), .unset, .unset, .unset] [(.int (0 : Int32)), (.ref b26)])) _
      refine XS.iload X26.here hx rfl (hb hby at_52) rfl ?_
      show Steps p.tables e below (T26.setTop (mkF m 54 #[.val (.int pp1), .val (.int pp2), .val (.int pp3), .val (.int pp4), .val (.int pp5), .val (.int (1 : Int32)), .val (.int i0), .val (.int i1), .val (.int i2), .val (.int i3), .val (.ref b26), .unset, .unset, .unset] [(.int i0), (.int (0 : Int32)), (.ref b26)])) _
      refine st28 _ ?_
      show Steps p.tables e below (T28.setTop (mkF m 55 #[.val (.int pp1), .val (.int pp2), .val (.int pp3), .val (.int pp4), .val (.int pp5), .val (.int (1 : Int32)), .val (.int i0), .val (.int i1), .val (.int i2), .val (.int i3), .val (.ref b26), .unset, .unset, .unset] [])) _
      refine XS.iload X28.here hx rfl (hb hby at_55) rfl ?_
      show Steps p.tables e below (T28.setTop (mkF m 57 #[.val (.int pp1), .val (.int pp2), .val (.int pp3), .val (.int pp4), .val (.int pp5), .val (.int (1 : Int32)), .val (.int i0), .val (.int i1), .val (.int i2), .val (.int i3), .val (.ref b26), .unset, .unset, .unset] [(.int (1 : Int32))])) _
      refine XS.iconst X28.here hx rfl (hb hby at_57) ?_
      show Steps p.tables e below (T28.setTop (mkF m 58 #[.val (.int pp1), .val (.int pp2), .val (.int pp3), .val (.int pp4), .val (.int pp5), .val (.int (1 : Int32)), .val (.int i0), .val (.int i1), .val (.int i2), .val (.int i3), .val (.ref b26), .unset, .unset, .unset] [(.int (1 : Int32)), (.int (1 : Int32))])) _
      refine XS.icmpYes X28.here hx rfl (pc0 := 58) (pc' := 67) rfl (hb hby at_58) rfl (flt hc58_2).2.2.2 (by decide) (by decide) ?_
      show Steps p.tables e below (T28.setTop (mkF m 67 #[.val (.int pp1), .val (.int pp2), .val (.int pp3), .val (.int pp4), .val (.int pp5), .val (.int (1 : Int32)), .val (.int i0), .val (.int i1), .val (.int i2), .val (.int i3), .val (.ref b26), .unset, .unset, .unset] [])) _
      refine XS.iload X28.here hx rfl (hb hby at_67) rfl ?_
      show Steps p.tables e below (T28.setTop (mkF m 69 #[.val (.int pp1), .val (.int pp2), .val (.int pp3), .val (.int pp4), .val (.int pp5), .val (.int (1 : Int32)), .val (.int i0), .val (.int i1), .val (.int i2), .val (.int i3), .val (.ref b26), .unset, .unset, .unset] [(.int (1 : Int32))])) _
      refine XS.iconst X28.here hx rfl (hb hby at_69) ?_
      show Steps p.tables e below (T28.setTop (mkF m 70 #[.val (.int pp1), .val (.int pp2), .val (.int pp3), .val (.int pp4), .val (.int pp5), .val (.int (1 : Int32)), .val (.int i0), .val (.int i1), .val (.int i2), .val (.int i3), .val (.ref b26), .unset, .unset, .unset] [(.int (2 : Int32)), (.int (1 : Int32))])) _
      refine XS.icmpYes X28.here hx rfl (pc0 := 70) (pc' := 79) rfl (hb hby at_70) rfl (flt hc70_2).2.2.2 (by decide) (by decide) ?_
      show Steps p.tables e below (T28.setTop (mkF m 79 #[.val (.int pp1), .val (.int pp2), .val (.int pp3), .val (.int pp4), .val (.int pp5), .val (.int (1 : Int32)), .val (.int i0), .val (.int i1), .val (.int i2), .val (.int i3), .val (.ref b26), .unset, .unset, .unset] [])) _
      refine XS.iload X28.here hx rfl (hb hby at_79) rfl ?_
      show Steps p.tables e below (T28.setTop (mkF m 81 #[.val (.int pp1), .val (.int pp2), .val (.int pp3), .val (.int pp4), .val (.int pp5), .val (.int (1 : Int32)), .val (.int i0), .val (.int i1), .val (.int i2), .val (.int i3), .val (.ref b26), .unset, .unset, .unset] [(.int (1 : Int32))])) _
      refine XS.iconst X28.here hx rfl (hb hby at_81) ?_
      show Steps p.tables e below (T28.setTop (mkF m 82 #[.val (.int pp1), .val (.int pp2), .val (.int pp3), .val (.int pp4), .val (.int pp5), .val (.int (1 : Int32)), .val (.int i0), .val (.int i1), .val (.int i2), .val (.int i3), .val (.ref b26), .unset, .unset, .unset] [(.int (3 : Int32)), (.int (1 : Int32))])) _
      refine XS.icmpYes X28.here hx rfl (pc0 := 82) (pc' := 91) rfl (hb hby at_82) rfl (flt hc82_2).2.2.2 (by decide) (by decide) ?_
      show Steps p.tables e below (T28.setTop (mkF m 91 #[.val (.int pp1), .val (.int pp2), .val (.int pp3), .val (.int pp4), .val (.int pp5), .val (.int (1 : Int32)), .val (.int i0), .val (.int i1), .val (.int i2), .val (.int i3), .val (.ref b26), .unset, .unset, .unset] [])) _
      refine XS.iconst X28.here hx rfl (hb hby at_91) ?_
      show Steps p.tables e below (T28.setTop (mkF m 92 #[.val (.int pp1), .val (.int pp2), .val (.int pp3), .val (.int pp4), .val (.int pp5), .val (.int (1 : Int32)), .val (.int i0), .val (.int i1), .val (.int i2), .val (.int i3), .val (.ref b26), .unset, .unset, .unset] [(.int (4 : Int32))])) _
      refine st29 _ ?_
      show Steps p.tables e below (T29.setTop (mkF m 94 #[.val (.int pp1), .val (.int pp2), .val (.int pp3), .val (.int pp4), .val (.int pp5), .val (.int (1 : Int32)), .val (.int i0), .val (.int i1), .val (.int i2), .val (.int i3), .val (.ref b26), .unset, .unset, .unset] [(.ref b29)])) _
      refine XS.dup X29.here hx rfl (hb hby at_94) rfl rfl ?_
      show Steps p.tables e below (T29.setTop (mkF m 95 #[.val (.int pp1), .val (.int pp2), .val (.int pp3), .val (.int pp4), .val (.int pp5), .val (.int (1 : Int32)), .val (.int i0), .val (.int i1), .val (.int i2), .val (.int i3), .val (.ref b26), .unset, .unset, .unset] [(.ref b29), (.ref b29)])) _
      refine XS.iconst X29.here hx rfl (hb hby at_95) ?_
      show Steps p.tables e below (T29.setTop (mkF m 96 #[.val (.int pp1), .val (.int pp2), .val (.int pp3), .val (.int pp4), .val (.int pp5), .val (.int (1 : Int32)), .val (.int i0), .val (.int i1), .val (.int i2), .val (.int i3), .val (.ref b26), .unset, .unset, .unset] [(.int (0 : Int32)), (.ref b29), (.ref b29)])) _
      refine XS.iloadN X29.here hx rfl (hb hby at_96) rfl ?_
      show Steps p.tables e below (T29.setTop (mkF m 97 #[.val (.int pp1), .val (.int pp2), .val (.int pp3), .val (.int pp4), .val (.int pp5), .val (.int (1 : Int32)), .val (.int i0), .val (.int i1), .val (.int i2), .val (.int i3), .val (.ref b26), .unset, .unset, .unset] [(.int pp2), (.int (0 : Int32)), (.ref b29), (.ref b29)])) _
      refine st31 _ ?_
      show Steps p.tables e below (T31.setTop (mkF m 98 #[.val (.int pp1), .val (.int pp2), .val (.int pp3), .val (.int pp4), .val (.int pp5), .val (.int (1 : Int32)), .val (.int i0), .val (.int i1), .val (.int i2), .val (.int i3), .val (.ref b26), .unset, .unset, .unset] [(.ref b29)])) _
      refine XS.dup X31.here hx rfl (hb hby at_98) rfl rfl ?_
      show Steps p.tables e below (T31.setTop (mkF m 99 #[.val (.int pp1), .val (.int pp2), .val (.int pp3), .val (.int pp4), .val (.int pp5), .val (.int (1 : Int32)), .val (.int i0), .val (.int i1), .val (.int i2), .val (.int i3), .val (.ref b26), .unset, .unset, .unset] [(.ref b29), (.ref b29)])) _
      refine XS.iconst X31.here hx rfl (hb hby at_99) ?_
      show Steps p.tables e below (T31.setTop (mkF m 100 #[.val (.int pp1), .val (.int pp2), .val (.int pp3), .val (.int pp4), .val (.int pp5), .val (.int (1 : Int32)), .val (.int i0), .val (.int i1), .val (.int i2), .val (.int i3), .val (.ref b26), .unset, .unset, .unset] [(.int (1 : Int32)), (.ref b29), (.ref b29)])) _
      refine XS.iloadN X31.here hx rfl (hb hby at_100) rfl ?_
      show Steps p.tables e below (T31.setTop (mkF m 101 #[.val (.int pp1), .val (.int pp2), .val (.int pp3), .val (.int pp4), .val (.int pp5), .val (.int (1 : Int32)), .val (.int i0), .val (.int i1), .val (.int i2), .val (.int i3), .val (.ref b26), .unset, .unset, .unset] [(.int pp3), (.int (1 : Int32)), (.ref b29), (.ref b29)])) _
      refine st33 _ ?_
      show Steps p.tables e below (T33.setTop (mkF m 102 #[.val (.int pp1), .val (.int pp2), .val (.int pp3), .val (.int pp4), .val (.int pp5), .val (.int (1 : Int32)), .val (.int i0), .val (.int i1), .val (.int i2), .val (.int i3), .val (.ref b26), .unset, .unset, .unset] [(.ref b29)])) _
      refine XS.dup X33.here hx rfl (hb hby at_102) rfl rfl ?_
      show Steps p.tables e below (T33.setTop (mkF m 103 #[.val (.int pp1), .val (.int pp2), .val (.int pp3), .val (.int pp4), .val (.int pp5), .val (.int (1 : Int32)), .val (.int i0), .val (.int i1), .val (.int i2), .val (.int i3), .val (.ref b26), .unset, .unset, .unset] [(.ref b29), (.ref b29)])) _
      refine XS.iconst X33.here hx rfl (hb hby at_103) ?_
      show Steps p.tables e below (T33.setTop (mkF m 104 #[.val (.int pp1), .val (.int pp2), .val (.int pp3), .val (.int pp4), .val (.int pp5), .val (.int (1 : Int32)), .val (.int i0), .val (.int i1), .val (.int i2), .val (.int i3), .val (.ref b26), .unset, .unset, .unset] [(.int (2 : Int32)), (.ref b29), (.ref b29)])) _
      refine XS.iloadN X33.here hx rfl (hb hby at_104) rfl ?_
      show Steps p.tables e below (T33.setTop (mkF m 105 #[.val (.int pp1), .val (.int pp2), .val (.int pp3), .val (.int pp4), .val (.int pp5), .val (.int (1 : Int32)), .val (.int i0), .val (.int i1), .val (.int i2), .val (.int i3), .val (.ref b26), .unset, .unset, .unset] [(.int pp4), (.int (2 : Int32)), (.ref b29), (.ref b29)])) _
      refine st35 _ ?_
      show Steps p.tables e below (T35.setTop (mkF m 106 #[.val (.int pp1), .val (.int pp2), .val (.int pp3), .val (.int pp4), .val (.int pp5), .val (.int (1 : Int32)), .val (.int i0), .val (.int i1), .val (.int i2), .val (.int i3), .val (.ref b26), .unset, .unset, .unset] [(.ref b29)])) _
      refine XS.dup X35.here hx rfl (hb hby at_106) rfl rfl ?_
      show Steps p.tables e below (T35.setTop (mkF m 107 #[.val (.int pp1), .val (.int pp2), .val (.int pp3), .val (.int pp4), .val (.int pp5), .val (.int (1 : Int32)), .val (.int i0), .val (.int i1), .val (.int i2), .val (.int i3), .val (.ref b26), .unset, .unset, .unset] [(.ref b29), (.ref b29)])) _
      refine XS.iconst X35.here hx rfl (hb hby at_107) ?_
      show Steps p.tables e below (T35.setTop (mkF m 108 #[.val (.int pp1), .val (.int pp2), .val (.int pp3), .val (.int pp4), .val (.int pp5), .val (.int (1 : Int32)), .val (.int i0), .val (.int i1), .val (.int i2), .val (.int i3), .val (.ref b26), .unset, .unset, .unset] [(.int (3 : Int32)), (.ref b29), (.ref b29)])) _
      refine XS.iload X35.here hx rfl (hb hby at_108) rfl ?_
      show Steps p.tables e below (T35.setTop (mkF m 110 #[.val (.int pp1), .val (.int pp2), .val (.int pp3), .val (.int pp4), .val (.int pp5), .val (.int (1 : Int32)), .val (.int i0), .val (.int i1), .val (.int i2), .val (.int i3), .val (.ref b26), .unset, .unset, .unset] [(.int pp5), (.int (3 : Int32)), (.ref b29), (.ref b29)])) _
      refine st37 _ ?_
      show Steps p.tables e below (T37.setTop (mkF m 111 #[.val (.int pp1), .val (.int pp2), .val (.int pp3), .val (.int pp4), .val (.int pp5), .val (.int (1 : Int32)), .val (.int i0), .val (.int i1), .val (.int i2), .val (.int i3), .val (.ref b26), .unset, .unset, .unset] [(.ref b29)])) _
      refine XS.astore X37.here hx rfl (hb hby at_111) rfl rfl (l' := #[.val (.int pp1), .val (.int pp2), .val (.int pp3), .val (.int pp4), .val (.int pp5), .val (.int (1 : Int32)), .val (.int i0), .val (.int i1), .val (.int i2), .val (.int i3), .val (.ref b26), .val (.ref b29), .unset, .unset]) rfl ?_
      show Steps p.tables e below (T37.setTop (mkF m 113 #[.val (.int pp1), .val (.int pp2), .val (.int pp3), .val (.int pp4), .val (.int pp5), .val (.int (1 : Int32)), .val (.int i0), .val (.int i1), .val (.int i2), .val (.int i3), .val (.ref b26), .val (.ref b29), .unset, .unset] [])) _
      refine XS.aload X37.here hx rfl (hb hby at_113) rfl rfl ?_
      show Steps p.tables e below (T37.setTop (mkF m 115 #[.val (.int pp1), .val (.int pp2), .val (.int pp3), .val (.int pp4), .val (.int pp5), .val (.int (1 : Int32)), .val (.int i0), .val (.int i1), .val (.int i2), .val (.int i3), .val (.ref b26), .val (.ref b29), .unset, .unset] [(.ref b26)])) _
      refine XS.aload X37.here hx rfl (hb hby at_115) rfl rfl ?_
      show Steps p.tables e below (T37.setTop (mkF m 117 #[.val (.int pp1), .val (.int pp2), .val (.int pp3), .val (.int pp4), .val (.int pp5), .val (.int (1 : Int32)), .val (.int i0), .val (.int i1), .val (.int i2), .val (.int i3), .val (.ref b26), .val (.ref b29), .unset, .unset] [(.ref b29), (.ref b26)])) _
      refine st39 _ ?_
      show Steps p.tables e below (T39.setTop (mkF m 120 #[.val (.int pp1), .val (.int pp2), .val (.int pp3), .val (.int pp4), .val (.int pp5), .val (.int (1 : Int32)), .val (.int i0), .val (.int i1), .val (.int i2), .val (.int i3), .val (.ref b26), .val (.ref b29), .unset, .unset] [])) _
      refine XS.aload X39.here hx rfl (hb hby at_120) rfl rfl ?_
      show Steps p.tables e below (T39.setTop (mkF m 122 #[.val (.int pp1), .val (.int pp2), .val (.int pp3), .val (.int pp4), .val (.int pp5), .val (.int (1 : Int32)), .val (.int i0), .val (.int i1), .val (.int i2), .val (.int i3), .val (.ref b26), .val (.ref b29), .unset, .unset] [(.ref b29)])) _
      refine X39.arraylength hx (Ar_40.1) (State.isArrayOf_alike hZ.alike Ar_40.2.1) (g := (mkF m 122 #[.val (.int pp1), .val (.int pp2), .val (.int pp3), .val (.int pp4), .val (.int pp5), .val (.int (1 : Int32)), .val (.int i0), .val (.int i1), .val (.int i2), .val (.int i3), .val (.ref b26), .val (.ref b29), .unset, .unset] [(.ref b29)])) rfl rfl (hb hby at_122) _ ?_
      rw [len_of Sz_40 Nn_40]
      show Steps p.tables e below (T39.setTop (mkF m 123 #[.val (.int pp1), .val (.int pp2), .val (.int pp3), .val (.int pp4), .val (.int pp5), .val (.int (1 : Int32)), .val (.int i0), .val (.int i1), .val (.int i2), .val (.int i3), .val (.ref b26), .val (.ref b29), .unset, .unset] [(.int (4 : Int32))])) _
      refine XS.iconst X39.here hx rfl (hb hby at_123) ?_
      show Steps p.tables e below (T39.setTop (mkF m 124 #[.val (.int pp1), .val (.int pp2), .val (.int pp3), .val (.int pp4), .val (.int pp5), .val (.int (1 : Int32)), .val (.int i0), .val (.int i1), .val (.int i2), .val (.int i3), .val (.ref b26), .val (.ref b29), .unset, .unset] [(.int (4 : Int32)), (.int (4 : Int32))])) _
      refine XS.icmpNo X39.here hx rfl (hb hby at_124) rfl (teq hc124_2).2 ?_
      show Steps p.tables e below (T39.setTop (mkF m 127 #[.val (.int pp1), .val (.int pp2), .val (.int pp3), .val (.int pp4), .val (.int pp5), .val (.int (1 : Int32)), .val (.int i0), .val (.int i1), .val (.int i2), .val (.int i3), .val (.ref b26), .val (.ref b29), .unset, .unset] [])) _
      refine XS.aload X39.here hx rfl (hb hby at_127) rfl rfl ?_
      show Steps p.tables e below (T39.setTop (mkF m 129 #[.val (.int pp1), .val (.int pp2), .val (.int pp3), .val (.int pp4), .val (.int pp5), .val (.int (1 : Int32)), .val (.int i0), .val (.int i1), .val (.int i2), .val (.int i3), .val (.ref b26), .val (.ref b29), .unset, .unset] [(.ref b29)])) _
      refine XS.iconst X39.here hx rfl (hb hby at_129) ?_
      show Steps p.tables e below (T39.setTop (mkF m 130 #[.val (.int pp1), .val (.int pp2), .val (.int pp3), .val (.int pp4), .val (.int pp5), .val (.int (1 : Int32)), .val (.int i0), .val (.int i1), .val (.int i2), .val (.int i3), .val (.ref b26), .val (.ref b29), .unset, .unset] [(.int (0 : Int32)), (.ref b29)])) _
      refine X39.iaload hx (j := (0 : Int32)) (v := (.int (if i0 = (0 : Int32) then (-1 : Int32) else pp2))) (Ar_41.1) (State.isArrayOf_alike hZ.alike Ar_41.2.1) Ar_41.2.2 hin_41 hat_41 (g := (mkF m 130 #[.val (.int pp1), .val (.int pp2), .val (.int pp3), .val (.int pp4), .val (.int pp5), .val (.int (1 : Int32)), .val (.int i0), .val (.int i1), .val (.int i2), .val (.int i3), .val (.ref b26), .val (.ref b29), .unset, .unset] [(.int (0 : Int32)), (.ref b29)])) rfl rfl (hb hby at_130) _ ?_
      show Steps p.tables e below (T39.setTop (mkF m 131 #[.val (.int pp1), .val (.int pp2), .val (.int pp3), .val (.int pp4), .val (.int pp5), .val (.int (1 : Int32)), .val (.int i0), .val (.int i1), .val (.int i2), .val (.int i3), .val (.ref b26), .val (.ref b29), .unset, .unset] [(.int (if i0 = (0 : Int32) then (-1 : Int32) else pp2))])) _
      refine XS.iconst X39.here hx rfl (hb hby at_131) ?_
      show Steps p.tables e below (T39.setTop (mkF m 132 #[.val (.int pp1), .val (.int pp2), .val (.int pp3), .val (.int pp4), .val (.int pp5), .val (.int (1 : Int32)), .val (.int i0), .val (.int i1), .val (.int i2), .val (.int i3), .val (.ref b26), .val (.ref b29), .unset, .unset] [(.int (0 : Int32)), (.int (if i0 = (0 : Int32) then (-1 : Int32) else pp2))])) _
      refine XS.iloadN X39.here hx rfl (hb hby at_132) rfl ?_
      show Steps p.tables e below (T39.setTop (mkF m 133 #[.val (.int pp1), .val (.int pp2), .val (.int pp3), .val (.int pp4), .val (.int pp5), .val (.int (1 : Int32)), .val (.int i0), .val (.int i1), .val (.int i2), .val (.int i3), .val (.ref b26), .val (.ref b29), .unset, .unset] [(.int pp2), (.int (0 : Int32)), (.int (if i0 = (0 : Int32) then (-1 : Int32) else pp2))])) _
      refine XS.iload X39.here hx rfl (hb hby at_133) rfl ?_
      show Steps p.tables e below (T39.setTop (mkF m 135 #[.val (.int pp1), .val (.int pp2), .val (.int pp3), .val (.int pp4), .val (.int pp5), .val (.int (1 : Int32)), .val (.int i0), .val (.int i1), .val (.int i2), .val (.int i3), .val (.ref b26), .val (.ref b29), .unset, .unset] [(.int (1 : Int32)), (.int pp2), (.int (0 : Int32)), (.int (if i0 = (0 : Int32) then (-1 : Int32) else pp2))])) _
      refine XS.iload X39.here hx rfl (hb hby at_135) rfl ?_
      show Steps p.tables e below (T39.setTop (mkF m 137 #[.val (.int pp1), .val (.int pp2), .val (.int pp3), .val (.int pp4), .val (.int pp5), .val (.int (1 : Int32)), .val (.int i0), .val (.int i1), .val (.int i2), .val (.int i3), .val (.ref b26), .val (.ref b29), .unset, .unset] [(.int i0), (.int (1 : Int32)), (.int pp2), (.int (0 : Int32)), (.int (if i0 = (0 : Int32) then (-1 : Int32) else pp2))])) _
      refine XS.iload X39.here hx rfl (hb hby at_137) rfl ?_
      show Steps p.tables e below (T39.setTop (mkF m 139 #[.val (.int pp1), .val (.int pp2), .val (.int pp3), .val (.int pp4), .val (.int pp5), .val (.int (1 : Int32)), .val (.int i0), .val (.int i1), .val (.int i2), .val (.int i3), .val (.ref b26), .val (.ref b29), .unset, .unset] [(.int i1), (.int i0), (.int (1 : Int32)), (.int pp2), (.int (0 : Int32)), (.int (if i0 = (0 : Int32) then (-1 : Int32) else pp2))])) _
      refine XS.iload X39.here hx rfl (hb hby at_139) rfl ?_
      show Steps p.tables e below (T39.setTop (mkF m 141 #[.val (.int pp1), .val (.int pp2), .val (.int pp3), .val (.int pp4), .val (.int pp5), .val (.int (1 : Int32)), .val (.int i0), .val (.int i1), .val (.int i2), .val (.int i3), .val (.ref b26), .val (.ref b29), .unset, .unset] [(.int i2), (.int i1), (.int i0), (.int (1 : Int32)), (.int pp2), (.int (0 : Int32)), (.int (if i0 = (0 : Int32) then (-1 : Int32) else pp2))])) _
      refine XS.iload X39.here hx rfl (hb hby at_141) rfl ?_
      show Steps p.tables e below (T39.setTop (mkF m 143 #[.val (.int pp1), .val (.int pp2), .val (.int pp3), .val (.int pp4), .val (.int pp5), .val (.int (1 : Int32)), .val (.int i0), .val (.int i1), .val (.int i2), .val (.int i3), .val (.ref b26), .val (.ref b29), .unset, .unset] [(.int i3), (.int i2), (.int i1), (.int i0), (.int (1 : Int32)), (.int pp2), (.int (0 : Int32)), (.int (if i0 = (0 : Int32) then (-1 : Int32) else pp2))])) _
      refine st42 _ ?_
      show Steps p.tables e below (T42.setTop (mkF m 146 #[.val (.int pp1), .val (.int pp2), .val (.int pp3), .val (.int pp4), .val (.int pp5), .val (.int (1 : Int32)), .val (.int i0), .val (.int i1), .val (.int i2), .val (.int i3), .val (.ref b26), .val (.ref b29), .unset, .unset] [(.int (if i0 = (0 : Int32) then (-1 : Int32) else pp2)), (.int (if i0 = (0 : Int32) then (-1 : Int32) else pp2))])) _
      refine XS.icmpNo X42.here hx rfl (hb hby at_146) rfl (teq hc146_2).2 ?_
      show Steps p.tables e below (T42.setTop (mkF m 149 #[.val (.int pp1), .val (.int pp2), .val (.int pp3), .val (.int pp4), .val (.int pp5), .val (.int (1 : Int32)), .val (.int i0), .val (.int i1), .val (.int i2), .val (.int i3), .val (.ref b26), .val (.ref b29), .unset, .unset] [])) _
      refine XS.aload X42.here hx rfl (hb hby at_149) rfl rfl ?_
      show Steps p.tables e below (T42.setTop (mkF m 151 #[.val (.int pp1), .val (.int pp2), .val (.int pp3), .val (.int pp4), .val (.int pp5), .val (.int (1 : Int32)), .val (.int i0), .val (.int i1), .val (.int i2), .val (.int i3), .val (.ref b26), .val (.ref b29), .unset, .unset] [(.ref b29)])) _
      refine XS.iconst X42.here hx rfl (hb hby at_151) ?_
      show Steps p.tables e below (T42.setTop (mkF m 152 #[.val (.int pp1), .val (.int pp2), .val (.int pp3), .val (.int pp4), .val (.int pp5), .val (.int (1 : Int32)), .val (.int i0), .val (.int i1), .val (.int i2), .val (.int i3), .val (.ref b26), .val (.ref b29), .unset, .unset] [(.int (1 : Int32)), (.ref b29)])) _
      refine X42.iaload hx (j := (1 : Int32)) (v := (.int (if i0 = (1 : Int32) then (-1 : Int32) else pp3))) (by rw [e42]; exact Ar_43.1) (State.isArrayOf_alike hZ.alike Ar_43.2.1) Ar_43.2.2 hin_43 hat_43 (g := (mkF m 152 #[.val (.int pp1), .val (.int pp2), .val (.int pp3), .val (.int pp4), .val (.int pp5), .val (.int (1 : Int32)), .val (.int i0), .val (.int i1), .val (.int i2), .val (.int i3), .val (.ref b26), .val (.ref b29), .unset, .unset] [(.int (1 : Int32)), (.ref b29)])) rfl rfl (hb hby at_152) _ ?_
      show Steps p.tables e below (T42.setTop (mkF m 153 #[.val (.int pp1), .val (.int pp2), .val (.int pp3), .val (.int pp4), .val (.int pp5), .val (.int (1 : Int32)), .val (.int i0), .val (.int i1), .val (.int i2), .val (.int i3), .val (.ref b26), .val (.ref b29), .unset, .unset] [(.int (if i0 = (1 : Int32) then (-1 : Int32) else pp3))])) _
      refine XS.iconst X42.here hx rfl (hb hby at_153) ?_
      show Steps p.tables e below (T42.setTop (mkF m 154 #[.val (.int pp1), .val (.int pp2), .val (.int pp3), .val (.int pp4), .val (.int pp5), .val (.int (1 : Int32)), .val (.int i0), .val (.int i1), .val (.int i2), .val (.int i3), .val (.ref b26), .val (.ref b29), .unset, .unset] [(.int (1 : Int32)), (.int (if i0 = (1 : Int32) then (-1 : Int32) else pp3))])) _
      refine XS.iloadN X42.here hx rfl (hb hby at_154) rfl ?_
      show Steps p.tables e below (T42.setTop (mkF m 155 #[.val (.int pp1), .val (.int pp2), .val (.int pp3), .val (.int pp4), .val (.int pp5), .val (.int (1 : Int32)), .val (.int i0), .val (.int i1), .val (.int i2), .val (.int i3), .val (.ref b26), .val (.ref b29), .unset, .unset] [(.int pp3), (.int (1 : Int32)), (.int (if i0 = (1 : Int32) then (-1 : Int32) else pp3))])) _
      refine XS.iload X42.here hx rfl (hb hby at_155) rfl ?_
      show Steps p.tables e below (T42.setTop (mkF m 157 #[.val (.int pp1), .val (.int pp2), .val (.int pp3), .val (.int pp4), .val (.int pp5), .val (.int (1 : Int32)), .val (.int i0), .val (.int i1), .val (.int i2), .val (.int i3), .val (.ref b26), .val (.ref b29), .unset, .unset] [(.int (1 : Int32)), (.int pp3), (.int (1 : Int32)), (.int (if i0 = (1 : Int32) then (-1 : Int32) else pp3))])) _
      refine XS.iload X42.here hx rfl (hb hby at_157) rfl ?_
      show Steps p.tables e below (T42.setTop (mkF m 159 #[.val (.int pp1), .val (.int pp2), .val (.int pp3), .val (.int pp4), .val (.int pp5), .val (.int (1 : Int32)), .val (.int i0), .val (.int i1), .val (.int i2), .val (.int i3), .val (.ref b26), .val (.ref b29), .unset, .unset] [(.int i0), (.int (1 : Int32)), (.int pp3), (.int (1 : Int32)), (.int (if i0 = (1 : Int32) then (-1 : Int32) else pp3))])) _
      refine XS.iload X42.here hx rfl (hb hby at_159) rfl ?_
      show Steps p.tables e below (T42.setTop (mkF m 161 #[.val (.int pp1), .val (.int pp2), .val (.int pp3), .val (.int pp4), .val (.int pp5), .val (.int (1 : Int32)), .val (.int i0), .val (.int i1), .val (.int i2), .val (.int i3), .val (.ref b26), .val (.ref b29), .unset, .unset] [(.int i1), (.int i0), (.int (1 : Int32)), (.int pp3), (.int (1 : Int32)), (.int (if i0 = (1 : Int32) then (-1 : Int32) else pp3))])) _
      refine XS.iload X42.here hx rfl (hb hby at_161) rfl ?_
      show Steps p.tables e below (T42.setTop (mkF m 163 #[.val (.int pp1), .val (.int pp2), .val (.int pp3), .val (.int pp4), .val (.int pp5), .val (.int (1 : Int32)), .val (.int i0), .val (.int i1), .val (.int i2), .val (.int i3), .val (.ref b26), .val (.ref b29), .unset, .unset] [(.int i2), (.int i1), (.int i0), (.int (1 : Int32)), (.int pp3), (.int (1 : Int32)), (.int (if i0 = (1 : Int32) then (-1 : Int32) else pp3))])) _
      refine XS.iload X42.here hx rfl (hb hby at_163) rfl ?_
      show Steps p.tables e below (T42.setTop (mkF m 165 #[.val (.int pp1), .val (.int pp2), .val (.int pp3), .val (.int pp4), .val (.int pp5), .val (.int (1 : Int32)), .val (.int i0), .val (.int i1), .val (.int i2), .val (.int i3), .val (.ref b26), .val (.ref b29), .unset, .unset] [(.int i3), (.int i2), (.int i1), (.int i0), (.int (1 : Int32)), (.int pp3), (.int (1 : Int32)), (.int (if i0 = (1 : Int32) then (-1 : Int32) else pp3))])) _
      refine st44 _ ?_
      show Steps p.tables e below (T44.setTop (mkF m 168 #[.val (.int pp1), .val (.int pp2), .val (.int pp3), .val (.int pp4), .val (.int pp5), .val (.int (1 : Int32)), .val (.int i0), .val (.int i1), .val (.int i2), .val (.int i3), .val (.ref b26), .val (.ref b29), .unset, .unset] [(.int (if i0 = (1 : Int32) then (-1 : Int32) else pp3)), (.int (if i0 = (1 : Int32) then (-1 : Int32) else pp3))])) _
      refine XS.icmpNo X44.here hx rfl (hb hby at_168) rfl (teq hc168_2).2 ?_
      show Steps p.tables e below (T44.setTop (mkF m 171 #[.val (.int pp1), .val (.int pp2), .val (.int pp3), .val (.int pp4), .val (.int pp5), .val (.int (1 : Int32)), .val (.int i0), .val (.int i1), .val (.int i2), .val (.int i3), .val (.ref b26), .val (.ref b29), .unset, .unset] [])) _
      refine XS.aload X44.here hx rfl (hb hby at_171) rfl rfl ?_
      show Steps p.tables e below (T44.setTop (mkF m 173 #[.val (.int pp1), .val (.int pp2), .val (.int pp3), .val (.int pp4), .val (.int pp5), .val (.int (1 : Int32)), .val (.int i0), .val (.int i1), .val (.int i2), .val (.int i3), .val (.ref b26), .val (.ref b29), .unset, .unset] [(.ref b29)])) _
      refine XS.iconst X44.here hx rfl (hb hby at_173) ?_
      show Steps p.tables e below (T44.setTop (mkF m 174 #[.val (.int pp1), .val (.int pp2), .val (.int pp3), .val (.int pp4), .val (.int pp5), .val (.int (1 : Int32)), .val (.int i0), .val (.int i1), .val (.int i2), .val (.int i3), .val (.ref b26), .val (.ref b29), .unset, .unset] [(.int (2 : Int32)), (.ref b29)])) _
      refine X44.iaload hx (j := (2 : Int32)) (v := (.int (if i0 = (2 : Int32) then (-1 : Int32) else pp4))) (by rw [e44]; exact Ar_45.1) (State.isArrayOf_alike hZ.alike Ar_45.2.1) Ar_45.2.2 hin_45 hat_45 (g := (mkF m 174 #[.val (.int pp1), .val (.int pp2), .val (.int pp3), .val (.int pp4), .val (.int pp5), .val (.int (1 : Int32)), .val (.int i0), .val (.int i1), .val (.int i2), .val (.int i3), .val (.ref b26), .val (.ref b29), .unset, .unset] [(.int (2 : Int32)), (.ref b29)])) rfl rfl (hb hby at_174) _ ?_
      show Steps p.tables e below (T44.setTop (mkF m 175 #[.val (.int pp1), .val (.int pp2), .val (.int pp3), .val (.int pp4), .val (.int pp5), .val (.int (1 : Int32)), .val (.int i0), .val (.int i1), .val (.int i2), .val (.int i3), .val (.ref b26), .val (.ref b29), .unset, .unset] [(.int (if i0 = (2 : Int32) then (-1 : Int32) else pp4))])) _
      refine XS.iconst X44.here hx rfl (hb hby at_175) ?_
      show Steps p.tables e below (T44.setTop (mkF m 176 #[.val (.int pp1), .val (.int pp2), .val (.int pp3), .val (.int pp4), .val (.int pp5), .val (.int (1 : Int32)), .val (.int i0), .val (.int i1), .val (.int i2), .val (.int i3), .val (.ref b26), .val (.ref b29), .unset, .unset] [(.int (2 : Int32)), (.int (if i0 = (2 : Int32) then (-1 : Int32) else pp4))])) _
      refine XS.iloadN X44.here hx rfl (hb hby at_176) rfl ?_
      show Steps p.tables e below (T44.setTop (mkF m 177 #[.val (.int pp1), .val (.int pp2), .val (.int pp3), .val (.int pp4), .val (.int pp5), .val (.int (1 : Int32)), .val (.int i0), .val (.int i1), .val (.int i2), .val (.int i3), .val (.ref b26), .val (.ref b29), .unset, .unset] [(.int pp4), (.int (2 : Int32)), (.int (if i0 = (2 : Int32) then (-1 : Int32) else pp4))])) _
      refine XS.iload X44.here hx rfl (hb hby at_177) rfl ?_
      show Steps p.tables e below (T44.setTop (mkF m 179 #[.val (.int pp1), .val (.int pp2), .val (.int pp3), .val (.int pp4), .val (.int pp5), .val (.int (1 : Int32)), .val (.int i0), .val (.int i1), .val (.int i2), .val (.int i3), .val (.ref b26), .val (.ref b29), .unset, .unset] [(.int (1 : Int32)), (.int pp4), (.int (2 : Int32)), (.int (if i0 = (2 : Int32) then (-1 : Int32) else pp4))])) _
      refine XS.iload X44.here hx rfl (hb hby at_179) rfl ?_
      show Steps p.tables e below (T44.setTop (mkF m 181 #[.val (.int pp1), .val (.int pp2), .val (.int pp3), .val (.int pp4), .val (.int pp5), .val (.int (1 : Int32)), .val (.int i0), .val (.int i1), .val (.int i2), .val (.int i3), .val (.ref b26), .val (.ref b29), .unset, .unset] [(.int i0), (.int (1 : Int32)), (.int pp4), (.int (2 : Int32)), (.int (if i0 = (2 : Int32) then (-1 : Int32) else pp4))])) _
      refine XS.iload X44.here hx rfl (hb hby at_181) rfl ?_
      show Steps p.tables e below (T44.setTop (mkF m 183 #[.val (.int pp1), .val (.int pp2), .val (.int pp3), .val (.int pp4), .val (.int pp5), .val (.int (1 : Int32)), .val (.int i0), .val (.int i1), .val (.int i2), .val (.int i3), .val (.ref b26), .val (.ref b29), .unset, .unset] [(.int i1), (.int i0), (.int (1 : Int32)), (.int pp4), (.int (2 : Int32)), (.int (if i0 = (2 : Int32) then (-1 : Int32) else pp4))])) _
      refine XS.iload X44.here hx rfl (hb hby at_183) rfl ?_
      show Steps p.tables e below (T44.setTop (mkF m 185 #[.val (.int pp1), .val (.int pp2), .val (.int pp3), .val (.int pp4), .val (.int pp5), .val (.int (1 : Int32)), .val (.int i0), .val (.int i1), .val (.int i2), .val (.int i3), .val (.ref b26), .val (.ref b29), .unset, .unset] [(.int i2), (.int i1), (.int i0), (.int (1 : Int32)), (.int pp4), (.int (2 : Int32)), (.int (if i0 = (2 : Int32) then (-1 : Int32) else pp4))])) _
      refine XS.iload X44.here hx rfl (hb hby at_185) rfl ?_
      show Steps p.tables e below (T44.setTop (mkF m 187 #[.val (.int pp1), .val (.int pp2), .val (.int pp3), .val (.int pp4), .val (.int pp5), .val (.int (1 : Int32)), .val (.int i0), .val (.int i1), .val (.int i2), .val (.int i3), .val (.ref b26), .val (.ref b29), .unset, .unset] [(.int i3), (.int i2), (.int i1), (.int i0), (.int (1 : Int32)), (.int pp4), (.int (2 : Int32)), (.int (if i0 = (2 : Int32) then (-1 : Int32) else pp4))])) _
      refine st46 _ ?_
      show Steps p.tables e below (T46.setTop (mkF m 190 #[.val (.int pp1), .val (.int pp2), .val (.int pp3), .val (.int pp4), .val (.int pp5), .val (.int (1 : Int32)), .val (.int i0), .val (.int i1), .val (.int i2), .val (.int i3), .val (.ref b26), .val (.ref b29), .unset, .unset] [(.int (if i0 = (2 : Int32) then (-1 : Int32) else pp4)), (.int (if i0 = (2 : Int32) then (-1 : Int32) else pp4))])) _
      refine XS.icmpNo X46.here hx rfl (hb hby at_190) rfl (teq hc190_2).2 ?_
      show Steps p.tables e below (T46.setTop (mkF m 193 #[.val (.int pp1), .val (.int pp2), .val (.int pp3), .val (.int pp4), .val (.int pp5), .val (.int (1 : Int32)), .val (.int i0), .val (.int i1), .val (.int i2), .val (.int i3), .val (.ref b26), .val (.ref b29), .unset, .unset] [])) _
      refine XS.aload X46.here hx rfl (hb hby at_193) rfl rfl ?_
      show Steps p.tables e below (T46.setTop (mkF m 195 #[.val (.int pp1), .val (.int pp2), .val (.int pp3), .val (.int pp4), .val (.int pp5), .val (.int (1 : Int32)), .val (.int i0), .val (.int i1), .val (.int i2), .val (.int i3), .val (.ref b26), .val (.ref b29), .unset, .unset] [(.ref b29)])) _
      refine XS.iconst X46.here hx rfl (hb hby at_195) ?_
      show Steps p.tables e below (T46.setTop (mkF m 196 #[.val (.int pp1), .val (.int pp2), .val (.int pp3), .val (.int pp4), .val (.int pp5), .val (.int (1 : Int32)), .val (.int i0), .val (.int i1), .val (.int i2), .val (.int i3), .val (.ref b26), .val (.ref b29), .unset, .unset] [(.int (3 : Int32)), (.ref b29)])) _
      refine X46.iaload hx (j := (3 : Int32)) (v := (.int (if i0 = (3 : Int32) then (-1 : Int32) else pp5))) (by rw [e46]; exact Ar_47.1) (State.isArrayOf_alike hZ.alike Ar_47.2.1) Ar_47.2.2 hin_47 hat_47 (g := (mkF m 196 #[.val (.int pp1), .val (.int pp2), .val (.int pp3), .val (.int pp4), .val (.int pp5), .val (.int (1 : Int32)), .val (.int i0), .val (.int i1), .val (.int i2), .val (.int i3), .val (.ref b26), .val (.ref b29), .unset, .unset] [(.int (3 : Int32)), (.ref b29)])) rfl rfl (hb hby at_196) _ ?_
      show Steps p.tables e below (T46.setTop (mkF m 197 #[.val (.int pp1), .val (.int pp2), .val (.int pp3), .val (.int pp4), .val (.int pp5), .val (.int (1 : Int32)), .val (.int i0), .val (.int i1), .val (.int i2), .val (.int i3), .val (.ref b26), .val (.ref b29), .unset, .unset] [(.int (if i0 = (3 : Int32) then (-1 : Int32) else pp5))])) _
      refine XS.iconst X46.here hx rfl (hb hby at_197) ?_
      show Steps p.tables e below (T46.setTop (mkF m 198 #[.val (.int pp1), .val (.int pp2), .val (.int pp3), .val (.int pp4), .val (.int pp5), .val (.int (1 : Int32)), .val (.int i0), .val (.int i1), .val (.int i2), .val (.int i3), .val (.ref b26), .val (.ref b29), .unset, .unset] [(.int (3 : Int32)), (.int (if i0 = (3 : Int32) then (-1 : Int32) else pp5))])) _
      refine XS.iload X46.here hx rfl (hb hby at_198) rfl ?_
      show Steps p.tables e below (T46.setTop (mkF m 200 #[.val (.int pp1), .val (.int pp2), .val (.int pp3), .val (.int pp4), .val (.int pp5), .val (.int (1 : Int32)), .val (.int i0), .val (.int i1), .val (.int i2), .val (.int i3), .val (.ref b26), .val (.ref b29), .unset, .unset] [(.int pp5), (.int (3 : Int32)), (.int (if i0 = (3 : Int32) then (-1 : Int32) else pp5))])) _
      refine XS.iload X46.here hx rfl (hb hby at_200) rfl ?_
      show Steps p.tables e below (T46.setTop (mkF m 202 #[.val (.int pp1), .val (.int pp2), .val (.int pp3), .val (.int pp4), .val (.int pp5), .val (.int (1 : Int32)), .val (.int i0), .val (.int i1), .val (.int i2), .val (.int i3), .val (.ref b26), .val (.ref b29), .unset, .unset] [(.int (1 : Int32)), (.int pp5), (.int (3 : Int32)), (.int (if i0 = (3 : Int32) then (-1 : Int32) else pp5))])) _
      refine XS.iload X46.here hx rfl (hb hby at_202) rfl ?_
      show Steps p.tables e below (T46.setTop (mkF m 204 #[.val (.int pp1), .val (.int pp2), .val (.int pp3), .val (.int pp4), .val (.int pp5), .val (.int (1 : Int32)), .val (.int i0), .val (.int i1), .val (.int i2), .val (.int i3), .val (.ref b26), .val (.ref b29), .unset, .unset] [(.int i0), (.int (1 : Int32)), (.int pp5), (.int (3 : Int32)), (.int (if i0 = (3 : Int32) then (-1 : Int32) else pp5))])) _
      refine XS.iload X46.here hx rfl (hb hby at_204) rfl ?_
      show Steps p.tables e below (T46.setTop (mkF m 206 #[.val (.int pp1), .val (.int pp2), .val (.int pp3), .val (.int pp4), .val (.int pp5), .val (.int (1 : Int32)), .val (.int i0), .val (.int i1), .val (.int i2), .val (.int i3), .val (.ref b26), .val (.ref b29), .unset, .unset] [(.int i1), (.int i0), (.int (1 : Int32)), (.int pp5), (.int (3 : Int32)), (.int (if i0 = (3 : Int32) then (-1 : Int32) else pp5))])) _
      refine XS.iload X46.here hx rfl (hb hby at_206) rfl ?_
      show Steps p.tables e below (T46.setTop (mkF m 208 #[.val (.int pp1), .val (.int pp2), .val (.int pp3), .val (.int pp4), .val (.int pp5), .val (.int (1 : Int32)), .val (.int i0), .val (.int i1), .val (.int i2), .val (.int i3), .val (.ref b26), .val (.ref b29), .unset, .unset] [(.int i2), (.int i1), (.int i0), (.int (1 : Int32)), (.int pp5), (.int (3 : Int32)), (.int (if i0 = (3 : Int32) then (-1 : Int32) else pp5))])) _
      refine XS.iload X46.here hx rfl (hb hby at_208) rfl ?_
      show Steps p.tables e below (T46.setTop (mkF m 210 #[.val (.int pp1), .val (.int pp2), .val (.int pp3), .val (.int pp4), .val (.int pp5), .val (.int (1 : Int32)), .val (.int i0), .val (.int i1), .val (.int i2), .val (.int i3), .val (.ref b26), .val (.ref b29), .unset, .unset] [(.int i3), (.int i2), (.int i1), (.int i0), (.int (1 : Int32)), (.int pp5), (.int (3 : Int32)), (.int (if i0 = (3 : Int32) then (-1 : Int32) else pp5))])) _
      refine st48 _ ?_
      show Steps p.tables e below (T48.setTop (mkF m 213 #[.val (.int pp1), .val (.int pp2), .val (.int pp3), .val (.int pp4), .val (.int pp5), .val (.int (1 : Int32)), .val (.int i0), .val (.int i1), .val (.int i2), .val (.int i3), .val (.ref b26), .val (.ref b29), .unset, .unset] [(.int (if i0 = (3 : Int32) then (-1 : Int32) else pp5)), (.int (if i0 = (3 : Int32) then (-1 : Int32) else pp5))])) _
      refine XS.icmpNo X48.here hx rfl (hb hby at_213) rfl (teq hc213_2).2 ?_
      show Steps p.tables e below (T48.setTop (mkF m 216 #[.val (.int pp1), .val (.int pp2), .val (.int pp3), .val (.int pp4), .val (.int pp5), .val (.int (1 : Int32)), .val (.int i0), .val (.int i1), .val (.int i2), .val (.int i3), .val (.ref b26), .val (.ref b29), .unset, .unset] [])) _
      refine XS.iconst X48.here hx rfl (hb hby at_216) ?_
      show Steps p.tables e below (T48.setTop (mkF m 217 #[.val (.int pp1), .val (.int pp2), .val (.int pp3), .val (.int pp4), .val (.int pp5), .val (.int (1 : Int32)), .val (.int i0), .val (.int i1), .val (.int i2), .val (.int i3), .val (.ref b26), .val (.ref b29), .unset, .unset] [(.int (1 : Int32))])) _
      refine XS.goto X48.here hx rfl (pc0 := 217) (pc' := 221) rfl (hb hby at_217) (by decide) (by decide) ?_
      show Steps p.tables e below (T48.setTop (mkF m 221 #[.val (.int pp1), .val (.int pp2), .val (.int pp3), .val (.int pp4), .val (.int pp5), .val (.int (1 : Int32)), .val (.int i0), .val (.int i1), .val (.int i2), .val (.int i3), .val (.ref b26), .val (.ref b29), .unset, .unset] [(.int (1 : Int32))])) _
      refine XS.istore X48.here hx rfl (hb hby at_221) rfl (l' := #[.val (.int pp1), .val (.int pp2), .val (.int pp3), .val (.int pp4), .val (.int pp5), .val (.int (1 : Int32)), .val (.int i0), .val (.int i1), .val (.int i2), .val (.int i3), .val (.ref b26), .val (.ref b29), .val (.int (1 : Int32)), .unset]) rfl ?_
      show Steps p.tables e below (T48.setTop (mkF m 223 #[.val (.int pp1), .val (.int pp2), .val (.int pp3), .val (.int pp4), .val (.int pp5), .val (.int (1 : Int32)), .val (.int i0), .val (.int i1), .val (.int i2), .val (.int i3), .val (.ref b26), .val (.ref b29), .val (.int (1 : Int32)), .unset] [])) _
      refine XS.aload X48.here hx rfl (hb hby at_223) rfl rfl ?_
      show Steps p.tables e below (T48.setTop (mkF m 225 #[.val (.int pp1), .val (.int pp2), .val (.int pp3), .val (.int pp4), .val (.int pp5), .val (.int (1 : Int32)), .val (.int i0), .val (.int i1), .val (.int i2), .val (.int i3), .val (.ref b26), .val (.ref b29), .val (.int (1 : Int32)), .unset] [(.ref b26)])) _
      refine X48.arraylength hx (by rw [e48]; exact Ar_50.1) (State.isArrayOf_alike hZ.alike Ar_50.2.1) (g := (mkF m 225 #[.val (.int pp1), .val (.int pp2), .val (.int pp3), .val (.int pp4), .val (.int pp5), .val (.int (1 : Int32)), .val (.int i0), .val (.int i1), .val (.int i2), .val (.int i3), .val (.ref b26), .val (.ref b29), .val (.int (1 : Int32)), .unset] [(.ref b26)])) rfl rfl (hb hby at_225) _ ?_
      rw [len_of Sz_50 Nn_50]
      show Steps p.tables e below (T48.setTop (mkF m 226 #[.val (.int pp1), .val (.int pp2), .val (.int pp3), .val (.int pp4), .val (.int pp5), .val (.int (1 : Int32)), .val (.int i0), .val (.int i1), .val (.int i2), .val (.int i3), .val (.ref b26), .val (.ref b29), .val (.int (1 : Int32)), .unset] [(.int (1 : Int32))])) _
      refine XS.iload X48.here hx rfl (hb hby at_226) rfl ?_
      show Steps p.tables e below (T48.setTop (mkF m 228 #[.val (.int pp1), .val (.int pp2), .val (.int pp3), .val (.int pp4), .val (.int pp5), .val (.int (1 : Int32)), .val (.int i0), .val (.int i1), .val (.int i2), .val (.int i3), .val (.ref b26), .val (.ref b29), .val (.int (1 : Int32)), .unset] [(.int (1 : Int32)), (.int (1 : Int32))])) _
      refine XS.icmpNo X48.here hx rfl (hb hby at_228) rfl (teq hc228_2).2 ?_
      show Steps p.tables e below (T48.setTop (mkF m 231 #[.val (.int pp1), .val (.int pp2), .val (.int pp3), .val (.int pp4), .val (.int pp5), .val (.int (1 : Int32)), .val (.int i0), .val (.int i1), .val (.int i2), .val (.int i3), .val (.ref b26), .val (.ref b29), .val (.int (1 : Int32)), .unset] [])) _
      refine XS.iload X48.here hx rfl (hb hby at_231) rfl ?_
      show Steps p.tables e below (T48.setTop (mkF m 233 #[.val (.int pp1), .val (.int pp2), .val (.int pp3), .val (.int pp4), .val (.int pp5), .val (.int (1 : Int32)), .val (.int i0), .val (.int i1), .val (.int i2), .val (.int i3), .val (.ref b26), .val (.ref b29), .val (.int (1 : Int32)), .unset] [(.int (1 : Int32))])) _
      refine XS.ifNo X48.here hx rfl (hb hby at_233) rfl ((if0 _ _).trans (tlt hc233_2).2.2.2) ?_
      show Steps p.tables e below (T48.setTop (mkF m 236 #[.val (.int pp1), .val (.int pp2), .val (.int pp3), .val (.int pp4), .val (.int pp5), .val (.int (1 : Int32)), .val (.int i0), .val (.int i1), .val (.int i2), .val (.int i3), .val (.ref b26), .val (.ref b29), .val (.int (1 : Int32)), .unset] [])) _
      refine XS.aload X48.here hx rfl (hb hby at_236) rfl rfl ?_
      show Steps p.tables e below (T48.setTop (mkF m 238 #[.val (.int pp1), .val (.int pp2), .val (.int pp3), .val (.int pp4), .val (.int pp5), .val (.int (1 : Int32)), .val (.int i0), .val (.int i1), .val (.int i2), .val (.int i3), .val (.ref b26), .val (.ref b29), .val (.int (1 : Int32)), .unset] [(.ref b26)])) _
      refine XS.iconst X48.here hx rfl (hb hby at_238) ?_
      show Steps p.tables e below (T48.setTop (mkF m 239 #[.val (.int pp1), .val (.int pp2), .val (.int pp3), .val (.int pp4), .val (.int pp5), .val (.int (1 : Int32)), .val (.int i0), .val (.int i1), .val (.int i2), .val (.int i3), .val (.ref b26), .val (.ref b29), .val (.int (1 : Int32)), .unset] [(.int (0 : Int32)), (.ref b26)])) _
      refine X48.iaload hx (j := (0 : Int32)) (v := (.int i0)) (by rw [e48]; exact Ar_51.1) (State.isArrayOf_alike hZ.alike Ar_51.2.1) Ar_51.2.2 hin_51 hat_51 (g := (mkF m 239 #[.val (.int pp1), .val (.int pp2), .val (.int pp3), .val (.int pp4), .val (.int pp5), .val (.int (1 : Int32)), .val (.int i0), .val (.int i1), .val (.int i2), .val (.int i3), .val (.ref b26), .val (.ref b29), .val (.int (1 : Int32)), .unset] [(.int (0 : Int32)), (.ref b26)])) rfl rfl (hb hby at_239) _ ?_
      show Steps p.tables e below (T48.setTop (mkF m 240 #[.val (.int pp1), .val (.int pp2), .val (.int pp3), .val (.int pp4), .val (.int pp5), .val (.int (1 : Int32)), .val (.int i0), .val (.int i1), .val (.int i2), .val (.int i3), .val (.ref b26), .val (.ref b29), .val (.int (1 : Int32)), .unset] [(.int i0)])) _
      refine XS.iload X48.here hx rfl (hb hby at_240) rfl ?_
      show Steps p.tables e below (T48.setTop (mkF m 242 #[.val (.int pp1), .val (.int pp2), .val (.int pp3), .val (.int pp4), .val (.int pp5), .val (.int (1 : Int32)), .val (.int i0), .val (.int i1), .val (.int i2), .val (.int i3), .val (.ref b26), .val (.ref b29), .val (.int (1 : Int32)), .unset] [(.int i0), (.int i0)])) _
      refine XS.icmpNo X48.here hx rfl (hb hby at_242) rfl (teq (rfl : i0 = i0)).2 ?_
      show Steps p.tables e below (T48.setTop (mkF m 245 #[.val (.int pp1), .val (.int pp2), .val (.int pp3), .val (.int pp4), .val (.int pp5), .val (.int (1 : Int32)), .val (.int i0), .val (.int i1), .val (.int i2), .val (.int i3), .val (.ref b26), .val (.ref b29), .val (.int (1 : Int32)), .unset] [])) _
      refine XS.iload X48.here hx rfl (hb hby at_245) rfl ?_
      show Steps p.tables e below (T48.setTop (mkF m 247 #[.val (.int pp1), .val (.int pp2), .val (.int pp3), .val (.int pp4), .val (.int pp5), .val (.int (1 : Int32)), .val (.int i0), .val (.int i1), .val (.int i2), .val (.int i3), .val (.ref b26), .val (.ref b29), .val (.int (1 : Int32)), .unset] [(.int (1 : Int32))])) _
      refine XS.iconst X48.here hx rfl (hb hby at_247) ?_
      show Steps p.tables e below (T48.setTop (mkF m 248 #[.val (.int pp1), .val (.int pp2), .val (.int pp3), .val (.int pp4), .val (.int pp5), .val (.int (1 : Int32)), .val (.int i0), .val (.int i1), .val (.int i2), .val (.int i3), .val (.ref b26), .val (.ref b29), .val (.int (1 : Int32)), .unset] [(.int (1 : Int32)), (.int (1 : Int32))])) _
      refine XS.icmpYes X48.here hx rfl (pc0 := 248) (pc' := 260) rfl (hb hby at_248) rfl (flt hc248_2).2.2.2 (by decide) (by decide) ?_
      show Steps p.tables e below (T48.setTop (mkF m 260 #[.val (.int pp1), .val (.int pp2), .val (.int pp3), .val (.int pp4), .val (.int pp5), .val (.int (1 : Int32)), .val (.int i0), .val (.int i1), .val (.int i2), .val (.int i3), .val (.ref b26), .val (.ref b29), .val (.int (1 : Int32)), .unset] [])) _
      refine XS.iload X48.here hx rfl (hb hby at_260) rfl ?_
      show Steps p.tables e below (T48.setTop (mkF m 262 #[.val (.int pp1), .val (.int pp2), .val (.int pp3), .val (.int pp4), .val (.int pp5), .val (.int (1 : Int32)), .val (.int i0), .val (.int i1), .val (.int i2), .val (.int i3), .val (.ref b26), .val (.ref b29), .val (.int (1 : Int32)), .unset] [(.int (1 : Int32))])) _
      refine XS.iconst X48.here hx rfl (hb hby at_262) ?_
      show Steps p.tables e below (T48.setTop (mkF m 263 #[.val (.int pp1), .val (.int pp2), .val (.int pp3), .val (.int pp4), .val (.int pp5), .val (.int (1 : Int32)), .val (.int i0), .val (.int i1), .val (.int i2), .val (.int i3), .val (.ref b26), .val (.ref b29), .val (.int (1 : Int32)), .unset] [(.int (2 : Int32)), (.int (1 : Int32))])) _
      refine XS.icmpYes X48.here hx rfl (pc0 := 263) (pc' := 275) rfl (hb hby at_263) rfl (flt hc263_2).2.2.2 (by decide) (by decide) ?_
      show Steps p.tables e below (T48.setTop (mkF m 275 #[.val (.int pp1), .val (.int pp2), .val (.int pp3), .val (.int pp4), .val (.int pp5), .val (.int (1 : Int32)), .val (.int i0), .val (.int i1), .val (.int i2), .val (.int i3), .val (.ref b26), .val (.ref b29), .val (.int (1 : Int32)), .unset] [])) _
      refine XS.iload X48.here hx rfl (hb hby at_275) rfl ?_
      show Steps p.tables e below (T48.setTop (mkF m 277 #[.val (.int pp1), .val (.int pp2), .val (.int pp3), .val (.int pp4), .val (.int pp5), .val (.int (1 : Int32)), .val (.int i0), .val (.int i1), .val (.int i2), .val (.int i3), .val (.ref b26), .val (.ref b29), .val (.int (1 : Int32)), .unset] [(.int (1 : Int32))])) _
      refine XS.iconst X48.here hx rfl (hb hby at_277) ?_
      show Steps p.tables e below (T48.setTop (mkF m 278 #[.val (.int pp1), .val (.int pp2), .val (.int pp3), .val (.int pp4), .val (.int pp5), .val (.int (1 : Int32)), .val (.int i0), .val (.int i1), .val (.int i2), .val (.int i3), .val (.ref b26), .val (.ref b29), .val (.int (1 : Int32)), .unset] [(.int (3 : Int32)), (.int (1 : Int32))])) _
      refine XS.icmpYes X48.here hx rfl (pc0 := 278) (pc' := 290) rfl (hb hby at_278) rfl (flt hc278_2).2.2.2 (by decide) (by decide) ?_
      show Steps p.tables e below (T48.setTop (mkF m 290 #[.val (.int pp1), .val (.int pp2), .val (.int pp3), .val (.int pp4), .val (.int pp5), .val (.int (1 : Int32)), .val (.int i0), .val (.int i1), .val (.int i2), .val (.int i3), .val (.ref b26), .val (.ref b29), .val (.int (1 : Int32)), .unset] [])) _
      refine XS.iconst X48.here hx rfl (hb hby at_290) ?_
      show Steps p.tables e below (T48.setTop (mkF m 291 #[.val (.int pp1), .val (.int pp2), .val (.int pp3), .val (.int pp4), .val (.int pp5), .val (.int (1 : Int32)), .val (.int i0), .val (.int i1), .val (.int i2), .val (.int i3), .val (.ref b26), .val (.ref b29), .val (.int (1 : Int32)), .unset] [(.int (1 : Int32))])) _
      refine XS.goto X48.here hx rfl (pc0 := 291) (pc' := 295) rfl (hb hby at_291) (by decide) (by decide) ?_
      show Steps p.tables e below (T48.setTop (mkF m 295 #[.val (.int pp1), .val (.int pp2), .val (.int pp3), .val (.int pp4), .val (.int pp5), .val (.int (1 : Int32)), .val (.int i0), .val (.int i1), .val (.int i2), .val (.int i3), .val (.ref b26), .val (.ref b29), .val (.int (1 : Int32)), .unset] [(.int (1 : Int32))])) _
      refine XS.istore X48.here hx rfl (hb hby at_295) rfl (l' := #[.val (.int pp1), .val (.int pp2), .val (.int pp3), .val (.int pp4), .val (.int pp5), .val (.int (1 : Int32)), .val (.int i0), .val (.int i1), .val (.int i2), .val (.int i3), .val (.ref b26), .val (.ref b29), .val (.int (1 : Int32)), .val (.int (1 : Int32))]) rfl ?_
      show Steps p.tables e below (T48.setTop (mkF m 297 #[.val (.int pp1), .val (.int pp2), .val (.int pp3), .val (.int pp4), .val (.int pp5), .val (.int (1 : Int32)), .val (.int i0), .val (.int i1), .val (.int i2), .val (.int i3), .val (.ref b26), .val (.ref b29), .val (.int (1 : Int32)), .val (.int (1 : Int32))] [])) _
      refine XS.iload X48.here hx rfl (hb hby at_297) rfl ?_
      show Steps p.tables e below (T48.setTop (mkF m 299 #[.val (.int pp1), .val (.int pp2), .val (.int pp3), .val (.int pp4), .val (.int pp5), .val (.int (1 : Int32)), .val (.int i0), .val (.int i1), .val (.int i2), .val (.int i3), .val (.ref b26), .val (.ref b29), .val (.int (1 : Int32)), .val (.int (1 : Int32))] [(.int (1 : Int32))])) _
      refine XS.ifNo X48.here hx rfl (hb hby at_299) rfl ((if0 _ _).trans (feq hc299_2).1) ?_
      show Steps p.tables e below (T48.setTop (mkF m 302 #[.val (.int pp1), .val (.int pp2), .val (.int pp3), .val (.int pp4), .val (.int pp5), .val (.int (1 : Int32)), .val (.int i0), .val (.int i1), .val (.int i2), .val (.int i3), .val (.ref b26), .val (.ref b29), .val (.int (1 : Int32)), .val (.int (1 : Int32))] [])) _
      refine XS.iload X48.here hx rfl (hb hby at_302) rfl ?_
      show Steps p.tables e below (T48.setTop (mkF m 304 #[.val (.int pp1), .val (.int pp2), .val (.int pp3), .val (.int pp4), .val (.int pp5), .val (.int (1 : Int32)), .val (.int i0), .val (.int i1), .val (.int i2), .val (.int i3), .val (.ref b26), .val (.ref b29), .val (.int (1 : Int32)), .val (.int (1 : Int32))] [(.int (1 : Int32))])) _
      refine XS.ifNo X48.here hx rfl (hb hby at_304) rfl ((if0 _ _).trans (feq hc304_2).1) ?_
      show Steps p.tables e below (T48.setTop (mkF m 307 #[.val (.int pp1), .val (.int pp2), .val (.int pp3), .val (.int pp4), .val (.int pp5), .val (.int (1 : Int32)), .val (.int i0), .val (.int i1), .val (.int i2), .val (.int i3), .val (.ref b26), .val (.ref b29), .val (.int (1 : Int32)), .val (.int (1 : Int32))] [])) _
      refine XS.iconst X48.here hx rfl (hb hby at_307) ?_
      show Steps p.tables e below (T48.setTop (mkF m 308 #[.val (.int pp1), .val (.int pp2), .val (.int pp3), .val (.int pp4), .val (.int pp5), .val (.int (1 : Int32)), .val (.int i0), .val (.int i1), .val (.int i2), .val (.int i3), .val (.ref b26), .val (.ref b29), .val (.int (1 : Int32)), .val (.int (1 : Int32))] [(.int (1 : Int32))])) _
      refine XS.goto X48.here hx rfl (pc0 := 308) (pc' := 312) rfl (hb hby at_308) (by decide) (by decide) ?_
      show Steps p.tables e below (T48.setTop (mkF m 312 #[.val (.int pp1), .val (.int pp2), .val (.int pp3), .val (.int pp4), .val (.int pp5), .val (.int (1 : Int32)), .val (.int i0), .val (.int i1), .val (.int i2), .val (.int i3), .val (.ref b26), .val (.ref b29), .val (.int (1 : Int32)), .val (.int (1 : Int32))] [(.int (1 : Int32))])) _
      exact retN X48 hx (t := .boolean) Bd.returns (by simp) (hb hby at_312) hr
    · show Q0 Z pp1 pp2 pp3 pp4 pp5 h0 n0 _ T48.heap _
      rw [e48]
      exact ⟨rfl, N48⟩
  · skip
    obtain ⟨T52, h52, k52, X52, e52, E52, A52, st52⟩ := newP X0 hx hZ (hw _ (List.mem_of_getElem? (i := 0) rfl)) e0 (g := (mkF m 40 #[.val (.int pp1), .val (.int pp2), .val (.int pp3), .val (.int pp4), .val (.int pp5), .val (.int (2 : Int32)), .val (.int i0), .val (.int i1), .val (.int i2), .val (.int i3), .unset, .unset, .unset, .unset] [(.int (2 : Int32))])) rfl (hb hby at_40) rfl (by decide) (cap := 2) (by decide) (by decide) (by decide) (by decide)
    obtain ⟨b52, g52⟩ : ∃ z, z = h0.size := ⟨_, rfl⟩
    rw [← g52] at A52 st52
    have g_b52 : n0 ≤ b52 := Nat.le_trans Z0 (Nat.le_of_eq g52.symm)
    have Z52 : n0 ≤ h52.size := Nat.le_trans Z0 E52.1
    have V52 : Arv Z h52 b52 k52 .int (2 : Int32) [(.int (0 : Int32)), (.int (0 : Int32))] (.int (0 : Int32)) := (Arv.new A52 (by decide)).pad (pad_rep [] (.int (0 : Int32)) 2)
    have hc46_3 : (0 : Int32) < (2 : Int32) := by decide
    obtain ⟨cl_53, Ar_53, qq_53, Sz_53, Nn_53, Hh_53, Gg_53⟩ := id V52
    have hin_53 : ¬ ((0 : Int32) < 0 ∨ cl_53.slots.size ≤ ((0 : Int32)).toNatClampNeg) := inb_of Sz_53 ⟨by decide, by decide⟩
    obtain ⟨T54, h54, X54, e54, W54, st54⟩ := stI X52 hx hZ e52 Ar_53 (j := (0 : Int32)) hin_53 (g := (mkF m 54 #[.val (.int pp1), .val (.int pp2), .val (.int pp3), .val (.int pp4), .val (.int pp5), .val (.int (2 : Int32)), .val (.int i0), .val (.int i1), .val (.int i2), .val (.int i3), .val (.ref b52), .unset, .unset, .unset] [(.int i0), (.int (0 : Int32)), (.ref b52)])) rfl rfl (hb hby at_54)
    have N54 := Fr.snoc X54 N0 g_b52
    have Z54 : n0 ≤ h54.size := Nat.le_trans Z52 (Keep.of_wr W54).1
    have V54 : Arv Z h54 b52 k52 .int (2 : Int32) [(.int i0), (.int (0 : Int32))] (.int (0 : Int32)) := Arv.set Ar_53 qq_53 Sz_53 Nn_53 Hh_53 Gg_53 rfl W54 0 rfl (Nat.le_of_ble_eq_true rfl)
    have hc58_3 : (1 : Int32) < (2 : Int32) := by decide
    obtain ⟨cl_55, Ar_55, qq_55, Sz_55, Nn_55, Hh_55, Gg_55⟩ := id V54
    have hin_55 : ¬ ((1 : Int32) < 0 ∨ cl_55.slots.size ≤ ((1 : Int32)).toNatClampNeg) := inb_of Sz_55 ⟨by decide, by decide⟩
    obtain ⟨T56, h56, X56, e56, W56, st56⟩ := stI X54 hx hZ e54 Ar_55 (j := (1 : Int32)) hin_55 (g := (mkF m 66 #[.val (.int pp1), .val (.int pp2), .val (.int pp3), .val (.int pp4), .val (.int pp5), .val (.int (2 : Int32)), .val (.int i0), .val (.int i1), .val (.int i2), .val (.int i3), .val (.ref b52), .unset, .unset, .unset] [(.int i1), (.int (1 : Int32)), (.ref b52)])) rfl rfl (hb hby at_66)
    have N56 := Fr.snoc X56 N54 g_b52
    have Z56 : n0 ≤ h56.size := Nat.le_trans Z54 (Keep.of_wr W56).1
    have V56 : Arv Z h56 b52 k52 .int (2 : Int32) [(.int i0), (.int i1)] (.int (0 : Int32)) := Arv.set Ar_55 qq_55 Sz_55 Nn_55 Hh_55 Gg_55 rfl W56 1 rfl (Nat.le_of_ble_eq_true rfl)
    have hc70_3 : ¬ ((2 : Int32) < (2 : Int32)) := by decide
    have hc82_3 : ¬ ((3 : Int32) < (2 : Int32)) := by decide
    obtain ⟨T57, h57, k57, X57, e57, E57, A57, st57⟩ := newP X56 hx hZ (hw _ (List.mem_of_getElem? (i := 0) rfl)) e56 (g := (mkF m 92 #[.val (.int pp1), .val (.int pp2), .val (.int pp3), .val (.int pp4), .val (.int pp5), .val (.int (2 : Int32)), .val (.int i0), .val (.int i1), .val (.int i2), .val (.int i3), .val (.ref b52), .unset, .unset, .unset] [(.int (4 : Int32))])) rfl (hb hby at_92) rfl (by decide) (cap := 4) (by decide) (by decide) (by decide) (by decide)
    obtain ⟨b57, g57⟩ : ∃ z, z = h56.size := ⟨_, rfl⟩
    rw [← g57] at A57 st57
    have g_b57 : n0 ≤ b57 := Nat.le_trans Z56 (Nat.le_of_eq g57.symm)
    have Z57 : n0 ≤ h57.size := Nat.le_trans Z56 E57.1
    have V57 : Arv Z h57 b57 k57 .int (4 : Int32) [(.int (0 : Int32)), (.int (0 : Int32)), (.int (0 : Int32)), (.int (0 : Int32))] (.int (0 : Int32)) := (Arv.new A57 (by decide)).pad (pad_rep [] (.int (0 : Int32)) 4)
    obtain ⟨cl_58, Ar_58, qq_58, Sz_58, Nn_58, Hh_58, Gg_58⟩ := id V57
    have hin_58 : ¬ ((0 : Int32) < 0 ∨ cl_58.slots.size ≤ ((0 : Int32)).toNatClampNeg) := inb_of Sz_58 ⟨by decide, by decide⟩
    obtain ⟨T59, h59, X59, e59, W59, st59⟩ := stI X57 hx hZ e57 Ar_58 (j := (0 : Int32)) hin_58 (g := (mkF m 97 #[.val (.int pp1), .val (.int pp2), .val (.int pp3), .val (.int pp4), .val (.int pp5), .val (.int (2 : Int32)), .val (.int i0), .val (.int i1), .val (.int i2), .val (.int i3), .val (.ref b52), .unset, .unset, .unset] [(.int pp2), (.int (0 : Int32)), (.ref b57), (.ref b57)])) rfl rfl (hb hby at_97)
    have N59 := Fr.snoc X59 N56 g_b57
    have Z59 : n0 ≤ h59.size := Nat.le_trans Z57 (Keep.of_wr W59).1
    have V59 : Arv Z h59 b57 k57 .int (4 : Int32) [(.int pp2), (.int (0 : Int32)), (.int (0 : Int32)), (.int (0 : Int32))] (.int (0 : Int32)) := Arv.set Ar_58 qq_58 Sz_58 Nn_58 Hh_58 Gg_58 rfl W59 0 rfl (Nat.le_of_ble_eq_true rfl)
    obtain ⟨cl_60, Ar_60, qq_60, Sz_60, Nn_60, Hh_60, Gg_60⟩ := id V59
    have hin_60 : ¬ ((1 : Int32) < 0 ∨ cl_60.slots.size ≤ ((1 : Int32)).toNatClampNeg) := inb_of Sz_60 ⟨by decide, by decide⟩
    obtain ⟨T61, h61, X61, e61, W61, st61⟩ := stI X59 hx hZ e59 Ar_60 (j := (1 : Int32)) hin_60 (g := (mkF m 101 #[.val (.int pp1), .val (.int pp2), .val (.int pp3), .val (.int pp4), .val (.int pp5), .val (.int (2 : Int32)), .val (.int i0), .val (.int i1), .val (.int i2), .val (.int i3), .val (.ref b52), .unset, .unset, .unset] [(.int pp3), (.int (1 : Int32)), (.ref b57), (.ref b57)])) rfl rfl (hb hby at_101)
    have N61 := Fr.snoc X61 N59 g_b57
    have Z61 : n0 ≤ h61.size := Nat.le_trans Z59 (Keep.of_wr W61).1
    have V61 : Arv Z h61 b57 k57 .int (4 : Int32) [(.int pp2), (.int pp3), (.int (0 : Int32)), (.int (0 : Int32))] (.int (0 : Int32)) := Arv.set Ar_60 qq_60 Sz_60 Nn_60 Hh_60 Gg_60 rfl W61 1 rfl (Nat.le_of_ble_eq_true rfl)
    obtain ⟨cl_62, Ar_62, qq_62, Sz_62, Nn_62, Hh_62, Gg_62⟩ := id V61
    have hin_62 : ¬ ((2 : Int32) < 0 ∨ cl_62.slots.size ≤ ((2 : Int32)).toNatClampNeg) := inb_of Sz_62 ⟨by decide, by decide⟩
    obtain ⟨T63, h63, X63, e63, W63, st63⟩ := stI X61 hx hZ e61 Ar_62 (j := (2 : Int32)) hin_62 (g := (mkF m 105 #[.val (.int pp1), .val (.int pp2), .val (.int pp3), .val (.int pp4), .val (.int pp5), .val (.int (2 : Int32)), .val (.int i0), .val (.int i1), .val (.int i2), .val (.int i3), .val (.ref b52), .unset, .unset, .unset] [(.int pp4), (.int (2 : Int32)), (.ref b57), (.ref b57)])) rfl rfl (hb hby at_105)
    have N63 := Fr.snoc X63 N61 g_b57
    have Z63 : n0 ≤ h63.size := Nat.le_trans Z61 (Keep.of_wr W63).1
    have V63 : Arv Z h63 b57 k57 .int (4 : Int32) [(.int pp2), (.int pp3), (.int pp4), (.int (0 : Int32))] (.int (0 : Int32)) := Arv.set Ar_62 qq_62 Sz_62 Nn_62 Hh_62 Gg_62 rfl W63 2 rfl (Nat.le_of_ble_eq_true rfl)
    obtain ⟨cl_64, Ar_64, qq_64, Sz_64, Nn_64, Hh_64, Gg_64⟩ := id V63
    have hin_64 : ¬ ((3 : Int32) < 0 ∨ cl_64.slots.size ≤ ((3 : Int32)).toNatClampNeg) := inb_of Sz_64 ⟨by decide, by decide⟩
    obtain ⟨T65, h65, X65, e65, W65, st65⟩ := stI X63 hx hZ e63 Ar_64 (j := (3 : Int32)) hin_64 (g := (mkF m 110 #[.val (.int pp1), .val (.int pp2), .val (.int pp3), .val (.int pp4), .val (.int pp5), .val (.int (2 : Int32)), .val (.int i0), .val (.int i1), .val (.int i2), .val (.int i3), .val (.ref b52), .unset, .unset, .unset] [(.int pp5), (.int (3 : Int32)), (.ref b57), (.ref b57)])) rfl rfl (hb hby at_110)
    have N65 := Fr.snoc X65 N63 g_b57
    have Z65 : n0 ≤ h65.size := Nat.le_trans Z63 (Keep.of_wr W65).1
    have V65 : Arv Z h65 b57 k57 .int (4 : Int32) [(.int pp2), (.int pp3), (.int pp4), (.int pp5)] (.int (0 : Int32)) := Arv.set Ar_64 qq_64 Sz_64 Nn_64 Hh_64 Gg_64 rfl W65 3 rfl (Nat.le_of_ble_eq_true rfl)
    have V_66 : Arv Z h65 b52 k52 .int (2 : Int32) [(.int i0), (.int i1)] (.int (0 : Int32)) := (((((V56.ext E57).other W59 (Nat.ne_of_lt (Nat.lt_of_lt_of_le V56.lt (Nat.le_of_eq g57.symm)))).other W61 (Nat.ne_of_lt (Nat.lt_of_lt_of_le V56.lt (Nat.le_of_eq g57.symm)))).other W63 (Nat.ne_of_lt (Nat.lt_of_lt_of_le V56.lt (Nat.le_of_eq g57.symm)))).other W65 (Nat.ne_of_lt (Nat.lt_of_lt_of_le V56.lt (Nat.le_of_eq g57.symm))))
    obtain ⟨_, _, ⟨T67, L67, k67, n67⟩, -, X67, ⟨Lc67, hQ67, l67, y67, z67⟩, st67⟩ := Jvm.LawKit.callS X65 hx (y := (⟨"com/example/splitgrain/splitgrain/parse/ChartItems", "clearPlaces", "([I[I)V"⟩ : MethodName)) hown (mvT hZ (hw _ (List.mem_of_getElem? (i := 1) rfl))) (mvT hZ (hw _ (List.mem_of_getElem? (i := 2) rfl))) (mvT hZ (hw _ (List.mem_of_getElem? (i := 3) rfl))) (mvT hZ (hw _ (List.mem_of_getElem? (i := 4) rfl))) (by decide) (backOf (W := 0) (rm1_2 l Z a0 hw [] b52 b57 k52 k57 [(.int pp2), (.int pp3), (.int pp4), (.int pp5)] i0 i1 h65 n0 Z65 V_66 V65 g_b57 (Nat.ne_of_lt (Nat.lt_of_lt_of_le V56.lt (Nat.le_of_eq g57.symm))) (show [(.int pp2), (.int pp3), (.int pp4), (.int pp5)].length = 4 from rfl) (show ¬ i0 < (0 : Int32) ∧ i0 < (4 : Int32) from h_i0) (show ¬ i1 < (0 : Int32) ∧ i1 < (4 : Int32) from h_i1)) hZ (hw _ (List.mem_of_getElem? (i := 4) rfl)) (hw _ (List.mem_of_getElem? (i := 3) rfl)) (by decide) (by decide)) (g := (mkF m 117 #[.val (.int pp1), .val (.int pp2), .val (.int pp3), .val (.int pp4), .val (.int pp5), .val (.int (2 : Int32)), .val (.int i0), .val (.int i1), .val (.int i2), .val (.int i3), .val (.ref b52), .val (.ref b57), .unset, .unset] [(.ref b57), (.ref b52)])) rfl (by rw [hml]; rfl) (argsL := [(.ref b52), (.ref b57)]) (rest := []) (lenOf pd__28__5b_I_5b_I_29_V rfl) rfl (by show 2 * 0 + _ ≤ _; exact Nat.le_of_eq rfl) (hb hby at_117) (fun _ _ => ⟨rfl, e65, (by decide : 2 + 0 ≤ _), (by decide : 6 + 0 ≤ _)⟩)
    dsimp only [Pt.U, Pt.locs, Pt.cells, Pt.slots] at X67 l67 y67 z67 st67 hQ67
    subst l67 y67 z67
    obtain ⟨rfl, N67q, K67c, R67_0⟩ := hQ67
    have N67 := Fr.app N65 N67q
    have Z67 : n0 ≤ T67.heap.size := Nat.le_trans Z65 K67c.1
    obtain ⟨cl_68, Ar_68, -, Sz_68, Nn_68, -, -⟩ := id R67_0
    have hc124_3 : (4 : Int32) = (4 : Int32) := by decide
    obtain ⟨cl_69, Ar_69, qq_69, Sz_69, Nn_69, Hh_69, Gg_69⟩ := id R67_0
    have hin_69 : ¬ ((0 : Int32) < 0 ∨ cl_69.slots.size ≤ ((0 : Int32)).toNatClampNeg) := inb_of Sz_69 ⟨by decide, by decide⟩
    have hat_69 : cl_69.slots[((0 : Int32)).toNatClampNeg]? = some (.int (if i1 = (0 : Int32) then (-1 : Int32) else (if i0 = (0 : Int32) then (-1 : Int32) else pp2))) := Has.at Hh_69 hin_69 (own_getset (by simp only [List.length_set]; rfl) h_i1 ⟨by decide, by decide⟩ (own_getset rfl h_i0 ⟨by decide, by decide⟩ rfl))
    obtain ⟨_, _, ⟨T70, L70, k70, n70⟩, -, X70, ⟨Lc70, hQ70, l70, y70, z70⟩, st70⟩ := Jvm.LawKit.callS X67 hx (y := (⟨"com/example/splitgrain/splitgrain/parse/ChartItemsClearPlacesPinLaw", "expect", "(IIIIIII)I"⟩ : MethodName)) hown (mvT hZ (hw _ (List.mem_of_getElem? (i := 5) rfl))) (mvT hZ (hw _ (List.mem_of_getElem? (i := 6) rfl))) (mvT hZ (hw _ (List.mem_of_getElem? (i := 7) rfl))) (mvT hZ (hw _ (List.mem_of_getElem? (i := 8) rfl))) (by decide) (backOf (W := 1) (rm2_2 l Z a0 hw [] (0 : Int32) pp2 i0 i1 i2 i3 T67.heap n0 Z67 ) hZ (hw _ (List.mem_of_getElem? (i := 8) rfl)) (hw _ (List.mem_of_getElem? (i := 7) rfl)) (by decide) (by decide)) (g := (mkF m 143 #[.val (.int pp1), .val (.int pp2), .val (.int pp3), .val (.int pp4), .val (.int pp5), .val (.int (2 : Int32)), .val (.int i0), .val (.int i1), .val (.int i2), .val (.int i3), .val (.ref b52), .val (.ref b57), .unset, .unset] [(.int i3), (.int i2), (.int i1), (.int i0), (.int (2 : Int32)), (.int pp2), (.int (0 : Int32)), (.int (if i1 = (0 : Int32) then (-1 : Int32) else (if i0 = (0 : Int32) then (-1 : Int32) else pp2)))])) rfl (by rw [hml]; rfl) (argsL := [(.int (0 : Int32)), (.int pp2), (.int (2 : Int32)), (.int i0), (.int i1), (.int i2), (.int i3)]) (rest := [(.int (if i1 = (0 : Int32) then (-1 : Int32) else (if i0 = (0 : Int32) then (-1 : Int32) else pp2)))]) (lenOf pd__28_IIIIIII_29_I rfl) rfl (by show 2 * 0 + _ ≤ _; exact Nat.le_of_eq rfl) (hb hby at_143) (fun _ _ => ⟨rfl, rfl, (by decide : 2 + 0 ≤ _), (by decide : 6 + 0 ≤ _)⟩)
    dsimp only [Pt.U, Pt.locs, Pt.cells, Pt.slots] at X70 l70 y70 z70 st70 hQ70
    subst l70 y70 z70
    obtain ⟨rfl, N70q, e70⟩ := hQ70
    have N70 := Fr.app N67 N70q
    have hc146_3 : (if i1 = (0 : Int32) then (-1 : Int32) else (if i0 = (0 : Int32) then (-1 : Int32) else pp2)) = (if i0 = (0 : Int32) then (-1 : Int32) else (if i1 = (0 : Int32) then (-1 : Int32) else pp2)) := own_re2 _ _ _ _ 
    obtain ⟨cl_71, Ar_71, qq_71, Sz_71, Nn_71, Hh_71, Gg_71⟩ := id R67_0
    have hin_71 : ¬ ((1 : Int32) < 0 ∨ cl_71.slots.size ≤ ((1 : Int32)).toNatClampNeg) := inb_of Sz_71 ⟨by decide, by decide⟩
    have hat_71 : cl_71.slots[((1 : Int32)).toNatClampNeg]? = some (.int (if i1 = (1 : Int32) then (-1 : Int32) else (if i0 = (1 : Int32) then (-1 : Int32) else pp3))) := Has.at Hh_71 hin_71 (own_getset (by simp only [List.length_set]; rfl) h_i1 ⟨by decide, by decide⟩ (own_getset rfl h_i0 ⟨by decide, by decide⟩ rfl))
    obtain ⟨_, _, ⟨T72, L72, k72, n72⟩, -, X72, ⟨Lc72, hQ72, l72, y72, z72⟩, st72⟩ := Jvm.LawKit.callS X70 hx (y := (⟨"com/example/splitgrain/splitgrain/parse/ChartItemsClearPlacesPinLaw", "expect", "(IIIIIII)I"⟩ : MethodName)) hown (mvT hZ (hw _ (List.mem_of_getElem? (i := 5) rfl))) (mvT hZ (hw _ (List.mem_of_getElem? (i := 6) rfl))) (mvT hZ (hw _ (List.mem_of_getElem? (i := 7) rfl))) (mvT hZ (hw _ (List.mem_of_getElem? (i := 8) rfl))) (by decide) (backOf (W := 1) (rm2_2 l Z a0 hw [] (1 : Int32) pp3 i0 i1 i2 i3 T67.heap n0 Z67 ) hZ (hw _ (List.mem_of_getElem? (i := 8) rfl)) (hw _ (List.mem_of_getElem? (i := 7) rfl)) (by decide) (by decide)) (g := (mkF m 165 #[.val (.int pp1), .val (.int pp2), .val (.int pp3), .val (.int pp4), .val (.int pp5), .val (.int (2 : Int32)), .val (.int i0), .val (.int i1), .val (.int i2), .val (.int i3), .val (.ref b52), .val (.ref b57), .unset, .unset] [(.int i3), (.int i2), (.int i1), (.int i0), (.int (2 : Int32)), (.int pp3), (.int (1 : Int32)), (.int (if i1 = (1 : Int32) then (-1 : Int32) else (if i0 = (1 : Int32) then (-1 : Int32) else pp3)))])) rfl (by rw [hml]; rfl) (argsL := [(.int (1 : Int32)), (.int pp3), (.int (2 : Int32)), (.int i0), (.int i1), (.int i2), (.int i3)]) (rest := [(.int (if i1 = (1 : Int32) then (-1 : Int32) else (if i0 = (1 : Int32) then (-1 : Int32) else pp3)))]) (lenOf pd__28_IIIIIII_29_I rfl) rfl (by show 2 * 0 + _ ≤ _; exact Nat.le_of_eq rfl) (hb hby at_165) (fun _ _ => ⟨rfl, e70, (by decide : 2 + 0 ≤ _), (by decide : 6 + 0 ≤ _)⟩)
    dsimp only [Pt.U, Pt.locs, Pt.cells, Pt.slots] at X72 l72 y72 z72 st72 hQ72
    subst l72 y72 z72
    obtain ⟨rfl, N72q, e72⟩ := hQ72
    have N72 := Fr.app N70 N72q
    have hc168_3 : (if i1 = (1 : Int32) then (-1 : Int32) else (if i0 = (1 : Int32) then (-1 : Int32) else pp3)) = (if i0 = (1 : Int32) then (-1 : Int32) else (if i1 = (1 : Int32) then (-1 : Int32) else pp3)) := own_re2 _ _ _ _ 
    obtain ⟨cl_73, Ar_73, qq_73, Sz_73, Nn_73, Hh_73, Gg_73⟩ := id R67_0
    have hin_73 : ¬ ((2 : Int32) < 0 ∨ cl_73.slots.size ≤ ((2 : Int32)).toNatClampNeg) := inb_of Sz_73 ⟨by decide, by decide⟩
    have hat_73 : cl_73.slots[((2 : Int32)).toNatClampNeg]? = some (.int (if i1 = (2 : Int32) then (-1 : Int32) else (if i0 = (2 : Int32) then (-1 : Int32) else pp4))) := Has.at Hh_73 hin_73 (own_getset (by simp only [List.length_set]; rfl) h_i1 ⟨by decide, by decide⟩ (own_getset rfl h_i0 ⟨by decide, by decide⟩ rfl))
    obtain ⟨_, _, ⟨T74, L74, k74, n74⟩, -, X74, ⟨Lc74, hQ74, l74, y74, z74⟩, st74⟩ := Jvm.LawKit.callS X72 hx (y := (⟨"com/example/splitgrain/splitgrain/parse/ChartItemsClearPlacesPinLaw", "expect", "(IIIIIII)I"⟩ : MethodName)) hown (mvT hZ (hw _ (List.mem_of_getElem? (i := 5) rfl))) (mvT hZ (hw _ (List.mem_of_getElem? (i := 6) rfl))) (mvT hZ (hw _ (List.mem_of_getElem? (i := 7) rfl))) (mvT hZ (hw _ (List.mem_of_getElem? (i := 8) rfl))) (by decide) (backOf (W := 1) (rm2_2 l Z a0 hw [] (2 : Int32) pp4 i0 i1 i2 i3 T67.heap n0 Z67 ) hZ (hw _ (List.mem_of_getElem? (i := 8) rfl)) (hw _ (List.mem_of_getElem? (i := 7) rfl)) (by decide) (by decide)) (g := (mkF m 187 #[.val (.int pp1), .val (.int pp2), .val (.int pp3), .val (.int pp4), .val (.int pp5), .val (.int (2 : Int32)), .val (.int i0), .val (.int i1), .val (.int i2), .val (.int i3), .val (.ref b52), .val (.ref b57), .unset, .unset] [(.int i3), (.int i2), (.int i1), (.int i0), (.int (2 : Int32)), (.int pp4), (.int (2 : Int32)), (.int (if i1 = (2 : Int32) then (-1 : Int32) else (if i0 = (2 : Int32) then (-1 : Int32) else pp4)))])) rfl (by rw [hml]; rfl) (argsL := [(.int (2 : Int32)), (.int pp4), (.int (2 : Int32)), (.int i0), (.int i1), (.int i2), (.int i3)]) (rest := [(.int (if i1 = (2 : Int32) then (-1 : Int32) else (if i0 = (2 : Int32) then (-1 : Int32) else pp4)))]) (lenOf pd__28_IIIIIII_29_I rfl) rfl (by show 2 * 0 + _ ≤ _; exact Nat.le_of_eq rfl) (hb hby at_187) (fun _ _ => ⟨rfl, e72, (by decide : 2 + 0 ≤ _), (by decide : 6 + 0 ≤ _)⟩)
    dsimp only [Pt.U, Pt.locs, Pt.cells, Pt.slots] at X74 l74 y74 z74 st74 hQ74
    subst l74 y74 z74
    obtain ⟨rfl, N74q, e74⟩ := hQ74
    have N74 := Fr.app N72 N74q
    have hc190_3 : (if i1 = (2 : Int32) then (-1 : Int32) else (if i0 = (2 : Int32) then (-1 : Int32) else pp4)) = (if i0 = (2 : Int32) then (-1 : Int32) else (if i1 = (2 : Int32) then (-1 : Int32) else pp4)) := own_re2 _ _ _ _ 
    obtain ⟨cl_75, Ar_75, qq_75, Sz_75, Nn_75, Hh_75, Gg_75⟩ := id R67_0
    have hin_75 : ¬ ((3 : Int32) < 0 ∨ cl_75.slots.size ≤ ((3 : Int32)).toNatClampNeg) := inb_of Sz_75 ⟨by decide, by decide⟩
    have hat_75 : cl_75.slots[((3 : Int32)).toNatClampNeg]? = some (.int (if i1 = (3 : Int32) then (-1 : Int32) else (if i0 = (3 : Int32) then (-1 : Int32) else pp5))) := Has.at Hh_75 hin_75 (own_getset (by simp only [List.length_set]; rfl) h_i1 ⟨by decide, by decide⟩ (own_getset rfl h_i0 ⟨by decide, by decide⟩ rfl))
    obtain ⟨_, _, ⟨T76, L76, k76, n76⟩, -, X76, ⟨Lc76, hQ76, l76, y76, z76⟩, st76⟩ := Jvm.LawKit.callS X74 hx (y := (⟨"com/example/splitgrain/splitgrain/parse/ChartItemsClearPlacesPinLaw", "expect", "(IIIIIII)I"⟩ : MethodName)) hown (mvT hZ (hw _ (List.mem_of_getElem? (i := 5) rfl))) (mvT hZ (hw _ (List.mem_of_getElem? (i := 6) rfl))) (mvT hZ (hw _ (List.mem_of_getElem? (i := 7) rfl))) (mvT hZ (hw _ (List.mem_of_getElem? (i := 8) rfl))) (by decide) (backOf (W := 1) (rm2_2 l Z a0 hw [] (3 : Int32) pp5 i0 i1 i2 i3 T67.heap n0 Z67 ) hZ (hw _ (List.mem_of_getElem? (i := 8) rfl)) (hw _ (List.mem_of_getElem? (i := 7) rfl)) (by decide) (by decide)) (g := (mkF m 210 #[.val (.int pp1), .val (.int pp2), .val (.int pp3), .val (.int pp4), .val (.int pp5), .val (.int (2 : Int32)), .val (.int i0), .val (.int i1), .val (.int i2), .val (.int i3), .val (.ref b52), .val (.ref b57), .unset, .unset] [(.int i3), (.int i2), (.int i1), (.int i0), (.int (2 : Int32)), (.int pp5), (.int (3 : Int32)), (.int (if i1 = (3 : Int32) then (-1 : Int32) else (if i0 = (3 : Int32) then (-1 : Int32) else pp5)))])) rfl (by rw [hml]; rfl) (argsL := [(.int (3 : Int32)), (.int pp5), (.int (2 : Int32)), (.int i0), (.int i1), (.int i2), (.int i3)]) (rest := [(.int (if i1 = (3 : Int32) then (-1 : Int32) else (if i0 = (3 : Int32) then (-1 : Int32) else pp5)))]) (lenOf pd__28_IIIIIII_29_I rfl) rfl (by show 2 * 0 + _ ≤ _; exact Nat.le_of_eq rfl) (hb hby at_210) (fun _ _ => ⟨rfl, e74, (by decide : 2 + 0 ≤ _), (by decide : 6 + 0 ≤ _)⟩)
    dsimp only [Pt.U, Pt.locs, Pt.cells, Pt.slots] at X76 l76 y76 z76 st76 hQ76
    subst l76 y76 z76
    obtain ⟨rfl, N76q, e76⟩ := hQ76
    have N76 := Fr.app N74 N76q
    have hc213_3 : (if i1 = (3 : Int32) then (-1 : Int32) else (if i0 = (3 : Int32) then (-1 : Int32) else pp5)) = (if i0 = (3 : Int32) then (-1 : Int32) else (if i1 = (3 : Int32) then (-1 : Int32) else pp5)) := own_re2 _ _ _ _ 
    have V_77 : Arv Z T67.heap b52 k52 .int (2 : Int32) [(.int i0), (.int i1)] (.int (0 : Int32)) := (V_66.keep K67c (ninS (Nat.ne_of_lt (Nat.lt_of_lt_of_le V56.lt (Nat.le_of_eq g57.symm))) nin0))
    obtain ⟨cl_78, Ar_78, -, Sz_78, Nn_78, -, -⟩ := id V_77
    have hc228_3 : (2 : Int32) = (2 : Int32) := by decide
    have hc233_3 : (0 : Int32) < (2 : Int32) := by decide
    obtain ⟨cl_79, Ar_79, qq_79, Sz_79, Nn_79, Hh_79, Gg_79⟩ := id V_77
    have hin_79 : ¬ ((0 : Int32) < 0 ∨ cl_79.slots.size ≤ ((0 : Int32)).toNatClampNeg) := inb_of Sz_79 ⟨by decide, by decide⟩
    have hat_79 : cl_79.slots[((0 : Int32)).toNatClampNeg]? = some (.int i0) := Has.at Hh_79 hin_79 rfl
    have hc248_3 : (1 : Int32) < (2 : Int32) := by decide
    obtain ⟨cl_80, Ar_80, qq_80, Sz_80, Nn_80, Hh_80, Gg_80⟩ := id V_77
    have hin_80 : ¬ ((1 : Int32) < 0 ∨ cl_80.slots.size ≤ ((1 : Int32)).toNatClampNeg) := inb_of Sz_80 ⟨by decide, by decide⟩
    have hat_80 : cl_80.slots[((1 : Int32)).toNatClampNeg]? = some (.int i1) := Has.at Hh_80 hin_80 rfl
    have hc263_3 : ¬ ((2 : Int32) < (2 : Int32)) := by decide
    have hc278_3 : ¬ ((3 : Int32) < (2 : Int32)) := by decide
    have hc299_3 : ¬ ((1 : Int32) = (0 : Int32)) := by decide
    have hc304_3 : ¬ ((1 : Int32) = (0 : Int32)) := by decide
    obtain ⟨fs, hr, hrun, hended, hW, hsame⟩ := X76.leave (v := some (.int (1 : Int32))) (fun h => by rw [Bd.returns] at h; cases h)
    refine ⟨_, _, pre2 _ ?_, hrun, hended, _, _, rfl, ?_, ⟨_, rfl⟩, hW, hsame.mono (by decide) (by decide)⟩
    · show Steps p.tables e below (s₁.setTop (mkF m 38 #[.val (.int pp1), .val (.int pp2), .val (.int pp3), .val (.int pp4), .val (.int pp5), .val (.int (2 : Int32)), .val (.int i0), .val (.int i1), .val (.int i2), .val (.int i3), .unset, .unset, .unset, .unset] [])) _
      refine XS.iload X0.here hx rfl (hb hby at_38) rfl ?_
      show Steps p.tables e below (s₁.setTop (mkF m 40 #[.val (.int pp1), .val (.int pp2), .val (.int pp3), .val (.int pp4), .val (.int pp5), .val (.int (2 : Int32)), .val (.int i0), .val (.int i1), .val (.int i2), .val (.int i3), .unset, .unset, .unset, .unset] [(.int (2 : Int32))])) _
      refine st52 _ ?_
      show Steps p.tables e below (T52.setTop (mkF m 42 #[.val (.int pp1), .val (.int pp2), .val (.int pp3), .val (.int pp4), .val (.int pp5), .val (.int (2 : Int32)), .val (.int i0), .val (.int i1), .val (.int i2), .val (.int i3), .unset, .unset, .unset, .unset] [(.ref b52)])) _
      refine XS.astore X52.here hx rfl (hb hby at_42) rfl rfl (l' := #[.val (.int pp1), .val (.int pp2), .val (.int pp3), .val (.int pp4), .val (.int pp5), .val (.int (2 : Int32)), .val (.int i0), .val (.int i1), .val (.int i2), .val (.int i3), .val (.ref b52), .unset, .unset, .unset]) rfl ?_
      show Steps p.tables e below (T52.setTop (mkF m 44 #[.val (.int pp1), .val (.int pp2), .val (.int pp3), .val (.int pp4), .val (.int pp5), .val (.int (2 : Int32)), .val (.int i0), .val (.int i1), .val (.int i2), .val (.int i3), .val (.ref b52), .unset, .unset, .unset] [])) _
      refine XS.iload X52.here hx rfl (hb hby at_44) rfl ?_
      show Steps p.tables e below (T52.setTop (mkF m 46 #[.val (.int pp1), .val (.int pp2), .val (.int pp3), .val (.int pp4), .val (.int pp5), .val (.int (2 : Int32)), .val (.int i0), .val (.int i1), .val (.int i2), .val (.int i3), .val (.ref b52), .unset, .unset, .unset] [(.int (2 : Int32))])) _
      refine XS.ifNo X52.here hx rfl (hb hby at_46) rfl ((if0 _ _).trans (tlt hc46_3).2.2.2) ?_
      show Steps p.tables e below (T52.setTop (mkF m 49 #[.val (.int pp1), .val (.int pp2), .val (.int pp3), .val (.int pp4), .val (.int pp5), .val (.int (2 : Int32)), .val (.int i0), .val (.int i1), .val (.int i2), .val (.int i3), .val (.ref b52), .unset, .unset, .unset] [])) _
      refine XS.aload X52.here hx rfl (hb hby at_49) rfl rfl ?_
      show Steps p.tables e below (T52.setTop (mkF m 51 #[.val (.int pp1), .val (.int pp2), .val (.int pp3), .val (.int pp4), .val (.int pp5), .val (.int (2 : Int32)), .val (.int i0), .val (.int i1), .val (.int i2), .val (.int i3), .val (.ref b52), .unset, .unset, .unset] [(.ref b52)])) _
      refine XS.iconst X52.here hx rfl (hb hby at_51) ?_
      show Steps p.tables e below (T52.setTop (mkF m 52 #[.val (.int pp1), .val (.int pp2), .val (.int pp3), .val (.int pp4), .val (.int pp5), .val (.int (2 : Int32)), .val (.int i0), .val (.int i1), .val (.int i2), .val (.int i3), .val (.ref b52), .unset, .unset, .unset] [(.int (0 : Int32)), (.ref b52)])) _
      refine XS.iload X52.here hx rfl (hb hby at_52) rfl ?_
      show Steps p.tables e below (T52.setTop (mkF m 54 #[.val (.int pp1), .val (.int pp2), .val (.int pp3), .val (.int pp4), .val (.int pp5), .val (.int (2 : Int32)), .val (.int i0), .val (.int i1), .val (.int i2), .val (.int i3), .val (.ref b52), .unset, .unset, .unset] [(.int i0), (.int (0 : Int32)), (.ref b52)])) _
      refine st54 _ ?_
      show Steps p.tables e below (T54.setTop (mkF m 55 #[.val (.int pp1), .val (.int pp2), .val (.int pp3), .val (.int pp4), .val (.int pp5), .val (.int (2 : Int32)), .val (.int i0), .val (.int i1), .val (.int i2), .val (.int i3), .val (.ref b52), .unset, .unset, .unset] [])) _
      refine XS.iload X54.here hx rfl (hb hby at_55) rfl ?_
      show Steps p.tables e below (T54.setTop (mkF m 57 #[.val (.int pp1), .val (.int pp2), .val (.int pp3), .val (.int pp4), .val (.int pp5), .val (.int (2 : Int32)), .val (.int i0), .val (.int i1), .val (.int i2), .val (.int i3), .val (.ref b52), .unset, .unset, .unset] [(.int (2 : Int32))])) _
      refine XS.iconst X54.here hx rfl (hb hby at_57) ?_
      show Steps p.tables e below (T54.setTop (mkF m 58 #[.val (.int pp1), .val (.int pp2), .val (.int pp3), .val (.int pp4), .val (.int pp5), .val (.int (2 : Int32)), .val (.int i0), .val (.int i1), .val (.int i2), .val (.int i3), .val (.ref b52), .unset, .unset, .unset] [(.int (1 : Int32)), (.int (2 : Int32))])) _
      refine XS.icmpNo X54.here hx rfl (hb hby at_58) rfl (tlt hc58_3).2.2.2 ?_
      show Steps p.tables e below (T54.setTop (mkF m 61 #[.val (.int pp1), .val (.int pp2), .val (.int pp3), .val (.int pp4), .val (.int pp5), .val (.int (2 : Int32)), .val (.int i0), .val (.int i1), .val (.int i2), .val (.int i3), .val (.ref b52), .unset, .unset, .unset] [])) _
      refine XS.aload X54.here hx rfl (hb hby at_61) rfl rfl ?_
      show Steps p.tables e below (T54.setTop (mkF m 63 #[.val (.int pp1), .val (.int pp2), .val (.int pp3), .val (.int pp4), .val (.int pp5), .val (.int (2 : Int32)), .val (.int i0), .val (.int i1), .val (.int i2), .val (.int i3), .val (.ref b52), .unset, .unset, .unset] [(.ref b52)])) _
      refine XS.iconst X54.here hx rfl (hb hby at_63) ?_
      show Steps p.tables e below (T54.setTop (mkF m 64 #[.val (.int pp1), .val (.int pp2), .val (.int pp3), .val (.int pp4), .val (.int pp5), .val (.int (2 : Int32)), .val (.int i0), .val (.int i1), .val (.int i2), .val (.int i3), .val (.ref b52), .unset, .unset, .unset] [(.int (1 : Int32)), (.ref b52)])) _
      refine XS.iload X54.here hx rfl (hb hby at_64) rfl ?_
      show Steps p.tables e below (T54.setTop (mkF m 66 #[.val (.int pp1), .val (.int pp2), .val (.int pp3), .val (.int pp4), .val (.int pp5), .val (.int (2 : Int32)), .val (.int i0), .val (.int i1), .val (.int i2), .val (.int i3), .val (.ref b52), .unset, .unset, .unset] [(.int i1), (.int (1 : Int32)), (.ref b52)])) _
      refine st56 _ ?_
      show Steps p.tables e below (T56.setTop (mkF m 67 #[.val (.int pp1), .val (.int pp2), .val (.int pp3), .val (.int pp4), .val (.int pp5), .val (.int (2 : Int32)), .val (.int i0), .val (.int i1), .val (.int i2), .val (.int i3), .val (.ref b52), .unset, .unset, .unset] [])) _
      refine XS.iload X56.here hx rfl (hb hby at_67) rfl ?_
      show Steps p.tables e below (T56.setTop (mkF m 69 #[.val (.int pp1), .val (.int pp2), .val (.int pp3), .val (.int pp4), .val (.int pp5), .val (.int (2 : Int32)), .val (.int i0), .val (.int i1), .val (.int i2), .val (.int i3), .val (.ref b52), .unset, .unset, .unset] [(.int (2 : Int32))])) _
      refine XS.iconst X56.here hx rfl (hb hby at_69) ?_
      show Steps p.tables e below (T56.setTop (mkF m 70 #[.val (.int pp1), .val (.int pp2), .val (.int pp3), .val (.int pp4), .val (.int pp5), .val (.int (2 : Int32)), .val (.int i0), .val (.int i1), .val (.int i2), .val (.int i3), .val (.ref b52), .unset, .unset, .unset] [(.int (2 : Int32)), (.int (2 : Int32))])) _
      refine XS.icmpYes X56.here hx rfl (pc0 := 70) (pc' := 79) rfl (hb hby at_70) rfl (flt hc70_3).2.2.2 (by decide) (by decide) ?_
      show Steps p.tables e below (T56.setTop (mkF m 79 #[.val (.int pp1), .val (.int pp2), .val (.int pp3), .val (.int pp4), .val (.int pp5), .val (.int (2 : Int32)), .val (.int i0), .val (.int i1), .val (.int i2), .val (.int i3), .val (.ref b52), .unset, .unset, .unset] [])) _
      refine XS.iload X56.here hx rfl (hb hby at_79) rfl ?_
      show Steps p.tables e below (T56.setTop (mkF m 81 #[.val (.int pp1), .val (.int pp2), .val (.int pp3), .val (.int pp4), .val (.int pp5), .val (.int (2 : Int32)), .val (.int i0), .val (.int i1), .val (.int i2), .val (.int i3), .val (.ref b52), .unset, .unset, .unset] [(.int (2 : Int32))])) _
      refine XS.iconst X56.here hx rfl (hb hby at_81) ?_
      show Steps p.tables e below (T56.setTop (mkF m 82 #[.val (.int pp1), .val (.int pp2), .val (.int pp3), .val (.int pp4), .val (.int pp5), .val (.int (2 : Int32)), .val (.int i0), .val (.int i1), .val (.int i2), .val (.int i3), .val (.ref b52), .unset, .unset, .unset] [(.int (3 : Int32)), (.int (2 : Int32))])) _
      refine XS.icmpYes X56.here hx rfl (pc0 := 82) (pc' := 91) rfl (hb hby at_82) rfl (flt hc82_3).2.2.2 (by decide) (by decide) ?_
      show Steps p.tables e below (T56.setTop (mkF m 91 #[.val (.int pp1), .val (.int pp2), .val (.int pp3), .val (.int pp4), .val (.int pp5), .val (.int (2 : Int32)), .val (.int i0), .val (.int i1), .val (.int i2), .val (.int i3), .val (.ref b52), .unset, .unset, .unset] [])) _
      refine XS.iconst X56.here hx rfl (hb hby at_91) ?_
      show Steps p.tables e below (T56.setTop (mkF m 92 #[.val (.int pp1), .val (.int pp2), .val (.int pp3), .val (.int pp4), .val (.int pp5), .val (.int (2 : Int32)), .val (.int i0), .val (.int i1), .val (.int i2), .val (.int i3), .val (.ref b52), .unset, .unset, .unset] [(.int (4 : Int32))])) _
      refine st57 _ ?_
      show Steps p.tables e below (T57.setTop (mkF m 94 #[.val (.int pp1), .val (.int pp2), .val (.int pp3), .val (.int pp4), .val (.int pp5), .val (.int (2 : Int32)), .val (.int i0), .val (.int i1), .val (.int i2), .val (.int i3), .val (.ref b52), .unset, .unset, .unset] [(.ref b57)])) _
      refine XS.dup X57.here hx rfl (hb hby at_94) rfl rfl ?_
      show Steps p.tables e below (T57.setTop (mkF m 95 #[.val (.int pp1), .val (.int pp2), .val (.int pp3), .val (.int pp4), .val (.int pp5), .val (.int (2 : Int32)), .val (.int i0), .val (.int i1), .val (.int i2), .val (.int i3), .val (.ref b52), .unset, .unset, .unset] [(.ref b57), (.ref b57)])) _
      refine XS.iconst X57.here hx rfl (hb hby at_95) ?_
      show Steps p.tables e below (T57.setTop (mkF m 96 #[.val (.int pp1), .val (.int pp2), .val (.int pp3), .val (.int pp4), .val (.int pp5), .val (.int (2 : Int32)), .val (.int i0), .val (.int i1), .val (.int i2), .val (.int i3), .val (.ref b52), .unset, .unset, .unset] [(.int (0 : Int32)), (.ref b57), (.ref b57)])) _
      refine XS.iloadN X57.here hx rfl (hb hby at_96) rfl ?_
      show Steps p.tables e below (T57.setTop (mkF m 97 #[.val (.int pp1), .val (.int pp2), .val (.int pp3), .val (.int pp4), .val (.int pp5), .val (.int (2 : Int32)), .val (.int i0), .val (.int i1), .val (.int i2), .val (.int i3), .val (.ref b52), .unset, .unset, .unset] [(.int pp2), (.int (0 : Int32)), (.ref b57), (.ref b57)])) _
      refine st59 _ ?_
      show Steps p.tables e below (T59.setTop (mkF m 98 #[.val (.int pp1), .val (.int pp2), .val (.int pp3), .val (.int pp4), .val (.int pp5), .val (.int (2 : Int32)), .val (.int i0), .val (.int i1), .val (.int i2), .val (.int i3), .val (.ref b52), .unset, .unset, .unset] [(.ref b57)])) _
      refine XS.dup X59.here hx rfl (hb hby at_98) rfl rfl ?_
      show Steps p.tables e below (T59.setTop (mkF m 99 #[.val (.int pp1), .val (.int pp2), .val (.int pp3), .val (.int pp4), .val (.int pp5), .val (.int (2 : Int32)), .val (.int i0), .val (.int i1), .val (.int i2), .val (.int i3), .val (.ref b52), .unset, .unset, .unset] [(.ref b57), (.ref b57)])) _
      refine XS.iconst X59.here hx rfl (hb hby at_99) ?_
      show Steps p.tables e below (T59.setTop (mkF m 100 #[.val (.int pp1), .val (.int pp2), .val (.int pp3), .val (.int pp4), .val (.int pp5), .val (.int (2 : Int32)), .val (.int i0), .val (.int i1), .val (.int i2), .val (.int i3), .val (.ref b52), .unset, .unset, .unset] [(.int (1 : Int32)), (.ref b57), (.ref b57)])) _
      refine XS.iloadN X59.here hx rfl (hb hby at_100) rfl ?_
      show Steps p.tables e below (T59.setTop (mkF m 101 #[.val (.int pp1), .val (.int pp2), .val (.int pp3), .val (.int pp4), .val (.int pp5), .val (.int (2 : Int32)), .val (.int i0), .val (.int i1), .val (.int i2), .val (.int i3), .val (.ref b52), .unset, .unset, .unset] [(.int pp3), (.int (1 : Int32)), (.ref b57), (.ref b57)])) _
      refine st61 _ ?_
      show Steps p.tables e below (T61.setTop (mkF m 102 #[.val (.int pp1), .val (.int pp2), .val (.int pp3), .val (.int pp4), .val (.int pp5), .val (.int (2 : Int32)), .val (.int i0), .val (.int i1), .val (.int i2), .val (.int i3), .val (.ref b52), .unset, .unset, .unset] [(.ref b57)])) _
      refine XS.dup X61.here hx rfl (hb hby at_102) rfl rfl ?_
      show Steps p.tables e below (T61.setTop (mkF m 103 #[.val (.int pp1), .val (.int pp2), .val (.int pp3), .val (.int pp4), .val (.int pp5), .val (.int (2 : Int32)), .val (.int i0), .val (.int i1), .val (.int i2), .val (.int i3), .val (.ref b52), .unset, .unset, .unset] [(.ref b57), (.ref b57)])) _
      refine XS.iconst X61.here hx rfl (hb hby at_103) ?_
      show Steps p.tables e below (T61.setTop (mkF m 104 #[.val (.int pp1), .val (.int pp2), .val (.int pp3), .val (.int pp4), .val (.int pp5), .val (.int (2 : Int32)), .val (.int i0), .val (.int i1), .val (.int i2), .val (.int i3), .val (.ref b52), .unset, .unset, .unset] [(.int (2 : Int32)), (.ref b57), (.ref b57)])) _
      refine XS.iloadN X61.here hx rfl (hb hby at_104) rfl ?_
      show Steps p.tables e below (T61.setTop (mkF m 105 #[.val (.int pp1), .val (.int pp2), .val (.int pp3), .val (.int pp4), .val (.int pp5), .val (.int (2 : Int32)), .val (.int i0), .val (.int i1), .val (.int i2), .val (.int i3), .val (.ref b52), .unset, .unset, .unset] [(.int pp4), (.int (2 : Int32)), (.ref b57), (.ref b57)])) _
      refine st63 _ ?_
      show Steps p.tables e below (T63.setTop (mkF m 106 #[.val (.int pp1), .val (.int pp2), .val (.int pp3), .val (.int pp4), .val (.int pp5), .val (.int (2 : Int32)), .val (.int i0), .val (.int i1), .val (.int i2), .val (.int i3), .val (.ref b52), .unset, .unset, .unset] [(.ref b57)])) _
      refine XS.dup X63.here hx rfl (hb hby at_106) rfl rfl ?_
      show Steps p.tables e below (T63.setTop (mkF m 107 #[.val (.int pp1), .val (.int pp2), .val (.int pp3), .val (.int pp4), .val (.int pp5), .val (.int (2 : Int32)), .val (.int i0), .val (.int i1), .val (.int i2), .val (.int i3), .val (.ref b52), .unset, .unset, .unset] [(.ref b57), (.ref b57)])) _
      refine XS.iconst X63.here hx rfl (hb hby at_107) ?_
      show Steps p.tables e below (T63.setTop (mkF m 108 #[.val (.int pp1), .val (.int pp2), .val (.int pp3), .val (.int pp4), .val (.int pp5), .val (.int (2 : Int32)), .val (.int i0), .val (.int i1), .val (.int i2), .val (.int i3), .val (.ref b52), .unset, .unset, .unset] [(.int (3 : Int32)), (.ref b57), (.ref b57)])) _
      refine XS.iload X63.here hx rfl (hb hby at_108) rfl ?_
      show Steps p.tables e below (T63.setTop (mkF m 110 #[.val (.int pp1), .val (.int pp2), .val (.int pp3), .val (.int pp4), .val (.int pp5), .val (.int (2 : Int32)), .val (.int i0), .val (.int i1), .val (.int i2), .val (.int i3), .val (.ref b52), .unset, .unset, .unset] [(.int pp5), (.int (3 : Int32)), (.ref b57), (.ref b57)])) _
      refine st65 _ ?_
      show Steps p.tables e below (T65.setTop (mkF m 111 #[.val (.int pp1), .val (.int pp2), .val (.int pp3), .val (.int pp4), .val (.int pp5), .val (.int (2 : Int32)), .val (.int i0), .val (.int i1), .val (.int i2), .val (.int i3), .val (.ref b52), .unset, .unset, .unset] [(.ref b57)])) _
      refine XS.astore X65.here hx rfl (hb hby at_111) rfl rfl (l' := #[.val (.int pp1), .val (.int pp2), .val (.int pp3), .val (.int pp4), .val (.int pp5), .val (.int (2 : Int32)), .val (.int i0), .val (.int i1), .val (.int i2), .val (.int i3), .val (.ref b52), .val (.ref b57), .unset, .unset]) rfl ?_
      show Steps p.tables e below (T65.setTop (mkF m 113 #[.val (.int pp1), .val (.int pp2), .val (.int pp3), .val (.int pp4), .val (.int pp5), .val (.int (2 : Int32)), .val (.int i0), .val (.int i1), .val (.int i2), .val (.int i3), .val (.ref b52), .val (.ref b57), .unset, .unset] [])) _
      refine XS.aload X65.here hx rfl (hb hby at_113) rfl rfl ?_
      show Steps p.tables e below (T65.setTop (mkF m 115 #[.val (.int pp1), .val (.int pp2), .val (.int pp3), .val (.int pp4), .val (.int pp5), .val (.int (2 : Int32)), .val (.int i0), .val (.int i1), .val (.int i2), .val (.int i3), .val (.ref b52), .val (.ref b57), .unset, .unset] [(.ref b52)])) _
      refine XS.aload X65.here hx rfl (hb hby at_115) rfl rfl ?_
      show Steps p.tables e below (T65.setTop (mkF m 117 #[.val (.int pp1), .val (.int pp2), .val (.int pp3), .val (.int pp4), .val (.int pp5), .val (.int (2 : Int32)), .val (.int i0), .val (.int i1), .val (.int i2), .val (.int i3), .val (.ref b52), .val (.ref b57), .unset, .unset] [(.ref b57), (.ref b52)])) _
      refine st67 _ ?_
      show Steps p.tables e below (T67.setTop (mkF m 120 #[.val (.int pp1), .val (.int pp2), .val (.int pp3), .val (.int pp4), .val (.int pp5), .val (.int (2 : Int32)), .val (.int i0), .val (.int i1), .val (.int i2), .val (.int i3), .val (.ref b52), .val (.ref b57), .unset, .unset] [])) _
      refine XS.aload X67.here hx rfl (hb hby at_120) rfl rfl ?_
      show Steps p.tables e below (T67.setTop (mkF m 122 #[.val (.int pp1), .val (.int pp2), .val (.int pp3), .val (.int pp4), .val (.int pp5), .val (.int (2 : Int32)), .val (.int i0), .val (.int i1), .val (.int i2), .val (.int i3), .val (.ref b52), .val (.ref b57), .unset, .unset] [(.ref b57)])) _
      refine X67.arraylength hx (Ar_68.1) (State.isArrayOf_alike hZ.alike Ar_68.2.1) (g := (mkF m 122 #[.val (.int pp1), .val (.int pp2), .val (.int pp3), .val (.int pp4), .val (.int pp5), .val (.int (2 : Int32)), .val (.int i0), .val (.int i1), .val (.int i2), .val (.int i3), .val (.ref b52), .val (.ref b57), .unset, .unset] [(.ref b57)])) rfl rfl (hb hby at_122) _ ?_
      rw [len_of Sz_68 Nn_68]
      show Steps p.tables e below (T67.setTop (mkF m 123 #[.val (.int pp1), .val (.int pp2), .val (.int pp3), .val (.int pp4), .val (.int pp5), .val (.int (2 : Int32)), .val (.int i0), .val (.int i1), .val (.int i2), .val (.int i3), .val (.ref b52), .val (.ref b57), .unset, .unset] [(.int (4 : Int32))])) _
      refine XS.iconst X67.here hx rfl (hb hby at_123) ?_
      show Steps p.tables e below (T67.setTop (mkF m 124 #[.val (.int pp1), .val (.int pp2), .val (.int pp3), .val (.int pp4), .val (.int pp5), .val (.int (2 : Int32)), .val (.int i0), .val (.int i1), .val (.int i2), .val (.int i3), .val (.ref b52), .val (.ref b57), .unset, .unset] [(.int (4 : Int32)), (.int (4 : Int32))])) _
      refine XS.icmpNo X67.here hx rfl (hb hby at_124) rfl (teq hc124_3).2 ?_
      show Steps p.tables e below (T67.setTop (mkF m 127 #[.val (.int pp1), .val (.int pp2), .val (.int pp3), .val (.int pp4), .val (.int pp5), .val (.int (2 : Int32)), .val (.int i0), .val (.int i1), .val (.int i2), .val (.int i3), .val (.ref b52), .val (.ref b57), .unset, .unset] [])) _
      refine XS.aload X67.here hx rfl (hb hby at_127) rfl rfl ?_
      show Steps p.tables e below (T67.setTop (mkF m 129 #[.val (.int pp1), .val (.int pp2), .val (.int pp3), .val (.int pp4), .val (.int pp5), .val (.int (2 : Int32)), .val (.int i0), .val (.int i1), .val (.int i2), .val (.int i3), .val (.ref b52), .val (.ref b57), .unset, .unset] [(.ref b57)])) _
      refine XS.iconst X67.here hx rfl (hb hby at_129) ?_
      show Steps p.tables e below (T67.setTop (mkF m 130 #[.val (.int pp1), .val (.int pp2), .val (.int pp3), .val (.int pp4), .val (.int pp5), .val (.int (2 : Int32)), .val (.int i0), .val (.int i1), .val (.int i2), .val (.int i3), .val (.ref b52), .val (.ref b57), .unset, .unset] [(.int (0 : Int32)), (.ref b57)])) _
      refine X67.iaload hx (j := (0 : Int32)) (v := (.int (if i1 = (0 : Int32) then (-1 : Int32) else (if i0 = (0 : Int32) then (-1 : Int32) else pp2)))) (Ar_69.1) (State.isArrayOf_alike hZ.alike Ar_69.2.1) Ar_69.2.2 hin_69 hat_69 (g := (mkF m 130 #[.val (.int pp1), .val (.int pp2), .val (.int pp3), .val (.int pp4), .val (.int pp5), .val (.int (2 : Int32)), .val (.int i0), .val (.int i1), .val (.int i2), .val (.int i3), .val (.ref b52), .val (.ref b57), .unset, .unset] [(.int (0 : Int32)), (.ref b57)])) rfl rfl (hb hby at_130) _ ?_
      show Steps p.tables e below (T67.setTop (mkF m 131 #[.val (.int pp1), .val (.int pp2), .val (.int pp3), .val (.int pp4), .val (.int pp5), .val (.int (2 : Int32)), .val (.int i0), .val (.int i1), .val (.int i2), .val (.int i3), .val (.ref b52), .val (.ref b57), .unset, .unset] [(.int (if i1 = (0 : Int32) then (-1 : Int32) else (if i0 = (0 : Int32) then (-1 : Int32) else pp2)))])) _
      refine XS.iconst X67.here hx rfl (hb hby at_131) ?_
      show Steps p.tables e below (T67.setTop (mkF m 132 #[.val (.int pp1), .val (.int pp2), .val (.int pp3), .val (.int pp4), .val (.int pp5), .val (.int (2 : Int32)), .val (.int i0), .val (.int i1), .val (.int i2), .val (.int i3), .val (.ref b52), .val (.ref b57), .unset, .unset] [(.int (0 : Int32)), (.int (if i1 = (0 : Int32) then (-1 : Int32) else (if i0 = (0 : Int32) then (-1 : Int32) else pp2)))])) _
      refine XS.iloadN X67.here hx rfl (hb hby at_132) rfl ?_
      show Steps p.tables e below (T67.setTop (mkF m 133 #[.val (.int pp1), .val (.int pp2), .val (.int pp3), .val (.int pp4), .val (.int pp5), .val (.int (2 : Int32)), .val (.int i0), .val (.int i1), .val (.int i2), .val (.int i3), .val (.ref b52), .val (.ref b57), .unset, .unset] [(.int pp2), (.int (0 : Int32)), (.int (if i1 = (0 : Int32) then (-1 : Int32) else (if i0 = (0 : Int32) then (-1 : Int32) else pp2)))])) _
      refine XS.iload X67.here hx rfl (hb hby at_133) rfl ?_
      show Steps p.tables e below (T67.setTop (mkF m 135 #[.val (.int pp1), .val (.int pp2), .val (.int pp3), .val (.int pp4), .val (.int pp5), .val (.int (2 : Int32)), .val (.int i0), .val (.int i1), .val (.int i2), .val (.int i3), .val (.ref b52), .val (.ref b57), .unset, .unset] [(.int (2 : Int32)), (.int pp2), (.int (0 : Int32)), (.int (if i1 = (0 : Int32) then (-1 : Int32) else (if i0 = (0 : Int32) then (-1 : Int32) else pp2)))])) _
      refine XS.iload X67.here hx rfl (hb hby at_135) rfl ?_
      show Steps p.tables e below (T67.setTop (mkF m 137 #[.val (.int pp1), .val (.int pp2), .val (.int pp3), .val (.int pp4), .val (.int pp5), .val (.int (2 : Int32)), .val (.int i0), .val (.int i1), .val (.int i2), .val (.int i3), .val (.ref b52), .val (.ref b57), .unset, .unset] [(.int i0), (.int (2 : Int32)), (.int pp2), (.int (0 : Int32)), (.int (if i1 = (0 : Int32) then (-1 : Int32) else (if i0 = (0 : Int32) then (-1 : Int32) else pp2)))])) _
      refine XS.iload X67.here hx rfl (hb hby at_137) rfl ?_
      show Steps p.tables e below (T67.setTop (mkF m 139 #[.val (.int pp1), .val (.int pp2), .val (.int pp3), .val (.int pp4), .val (.int pp5), .val (.int (2 : Int32)), .val (.int i0), .val (.int i1), .val (.int i2), .val (.int i3), .val (.ref b52), .val (.ref b57), .unset, .unset] [(.int i1), (.int i0), (.int (2 : Int32)), (.int pp2), (.int (0 : Int32)), (.int (if i1 = (0 : Int32) then (-1 : Int32) else (if i0 = (0 : Int32) then (-1 : Int32) else pp2)))])) _
      refine XS.iload X67.here hx rfl (hb hby at_139) rfl ?_
      show Steps p.tables e below (T67.setTop (mkF m 141 #[.val (.int pp1), .val (.int pp2), .val (.int pp3), .val (.int pp4), .val (.int pp5), .val (.int (2 : Int32)), .val (.int i0), .val (.int i1), .val (.int i2), .val (.int i3), .val (.ref b52), .val (.ref b57), .unset, .unset] [(.int i2), (.int i1), (.int i0), (.int (2 : Int32)), (.int pp2), (.int (0 : Int32)), (.int (if i1 = (0 : Int32) then (-1 : Int32) else (if i0 = (0 : Int32) then (-1 : Int32) else pp2)))])) _
      refine XS.iload X67.here hx rfl (hb hby at_141) rfl ?_
      show Steps p.tables e below (T67.setTop (mkF m 143 #[.val (.int pp1), .val (.int pp2), .val (.int pp3), .val (.int pp4), .val (.int pp5), .val (.int (2 : Int32)), .val (.int i0), .val (.int i1), .val (.int i2), .val (.int i3), .val (.ref b52), .val (.ref b57), .unset, .unset] [(.int i3), (.int i2), (.int i1), (.int i0), (.int (2 : Int32)), (.int pp2), (.int (0 : Int32)), (.int (if i1 = (0 : Int32) then (-1 : Int32) else (if i0 = (0 : Int32) then (-1 : Int32) else pp2)))])) _
      refine st70 _ ?_
      show Steps p.tables e below (T70.setTop (mkF m 146 #[.val (.int pp1), .val (.int pp2), .val (.int pp3), .val (.int pp4), .val (.int pp5), .val (.int (2 : Int32)), .val (.int i0), .val (.int i1), .val (.int i2), .val (.int i3), .val (.ref b52), .val (.ref b57), .unset, .unset] [(.int (if i0 = (0 : Int32) then (-1 : Int32) else (if i1 = (0 : Int32) then (-1 : Int32) else pp2))), (.int (if i1 = (0 : Int32) then (-1 : Int32) else (if i0 = (0 : Int32) then (-1 : Int32) else pp2)))])) _
      refine XS.icmpNo X70.here hx rfl (hb hby at_146) rfl (teq hc146_3).2 ?_
      show Steps p.tables e below (T70.setTop (mkF m 149 #[.val (.int pp1), .val (.int pp2), .val (.int pp3), .val (.int pp4), .val (.int pp5), .val (.int (2 : Int32)), .val (.int i0), .val (.int i1), .val (.int i2), .val (.int i3), .val (.ref b52), .val (.ref b57), .unset, .unset] [])) _
      refine XS.aload X70.here hx rfl (hb hby at_149) rfl rfl ?_
      show Steps p.tables e below (T70.setTop (mkF m 151 #[.val (.int pp1), .val (.int pp2), .val (.int pp3), .val (.int pp4), .val (.int pp5), .val (.int (2 : Int32)), .val (.int i0), .val (.int i1), .val (.int i2), .val (.int i3), .val (.ref b52), .val (.ref b57), .unset, .unset] [(.ref b57)])) _
      refine XS.iconst X70.here hx rfl (hb hby at_151) ?_
      show Steps p.tables e below (T70.setTop (mkF m 152 #[.val (.int pp1), .val (.int pp2), .val (.int pp3), .val (.int pp4), .val (.int pp5), .val (.int (2 : Int32)), .val (.int i0), .val (.int i1), .val (.int i2), .val (.int i3), .val (.ref b52), .val (.ref b57), .unset, .unset] [(.int (1 : Int32)), (.ref b57)])) _
      refine X70.iaload hx (j := (1 : Int32)) (v := (.int (if i1 = (1 : Int32) then (-1 : Int32) else (if i0 = (1 : Int32) then (-1 : Int32) else pp3)))) (by rw [e70]; exact Ar_71.1) (State.isArrayOf_alike hZ.alike Ar_71.2.1) Ar_71.2.2 hin_71 hat_71 (g := (mkF m 152 #[.val (.int pp1), .val (.int pp2), .val (.int pp3), .val (.int pp4), .val (.int pp5), .val (.int (2 : Int32)), .val (.int i0), .val (.int i1), .val (.int i2), .val (.int i3), .val (.ref b52), .val (.ref b57), .unset, .unset] [(.int (1 : Int32)), (.ref b57)])) rfl rfl (hb hby at_152) _ ?_
      show Steps p.tables e below (T70.setTop (mkF m 153 #[.val (.int pp1), .val (.int pp2), .val (.int pp3), .val (.int pp4), .val (.int pp5), .val (.int (2 : Int32)), .val (.int i0), .val (.int i1), .val (.int i2), .val (.int i3), .val (.ref b52), .val (.ref b57), .unset, .unset] [(.int (if i1 = (1 : Int32) then (-1 : Int32) else (if i0 = (1 : Int32) then (-1 : Int32) else pp3)))])) _
      refine XS.iconst X70.here hx rfl (hb hby at_153) ?_
      show Steps p.tables e below (T70.setTop (mkF m 154 #[.val (.int pp1), .val (.int pp2), .val (.int pp3), .val (.int pp4), .val (.int pp5), .val (.int (2 : Int32)), .val (.int i0), .val (.int i1), .val (.int i2), .val (.int i3), .val (.ref b52), .val (.ref b57), .unset, .unset] [(.int (1 : Int32)), (.int (if i1 = (1 : Int32) then (-1 : Int32) else (if i0 = (1 : Int32) then (-1 : Int32) else pp3)))])) _
      refine XS.iloadN X70.here hx rfl (hb hby at_154) rfl ?_
      show Steps p.tables e below (T70.setTop (mkF m 155 #[.val (.int pp1), .val (.int pp2), .val (.int pp3), .val (.int pp4), .val (.int pp5), .val (.int (2 : Int32)), .val (.int i0), .val (.int i1), .val (.int i2), .val (.int i3), .val (.ref b52), .val (.ref b57), .unset, .unset] [(.int pp3), (.int (1 : Int32)), (.int (if i1 = (1 : Int32) then (-1 : Int32) else (if i0 = (1 : Int32) then (-1 : Int32) else pp3)))])) _
      refine XS.iload X70.here hx rfl (hb hby at_155) rfl ?_
      show Steps p.tables e below (T70.setTop (mkF m 157 #[.val (.int pp1), .val (.int pp2), .val (.int pp3), .val (.int pp4), .val (.int pp5), .val (.int (2 : Int32)), .val (.int i0), .val (.int i1), .val (.int i2), .val (.int i3), .val (.ref b52), .val (.ref b57), .unset, .unset] [(.int (2 : Int32)), (.int pp3), (.int (1 : Int32)), (.int (if i1 = (1 : Int32) then (-1 : Int32) else (if i0 = (1 : Int32) then (-1 : Int32) else pp3)))])) _
      refine XS.iload X70.here hx rfl (hb hby at_157) rfl ?_
      show Steps p.tables e below (T70.setTop (mkF m 159 #[.val (.int pp1), .val (.int pp2), .val (.int pp3), .val (.int pp4), .val (.int pp5), .val (.int (2 : Int32)), .val (.int i0), .val (.int i1), .val (.int i2), .val (.int i3), .val (.ref b52), .val (.ref b57), .unset, .unset] [(.int i0), (.int (2 : Int32)), (.int pp3), (.int (1 : Int32)), (.int (if i1 = (1 : Int32) then (-1 : Int32) else (if i0 = (1 : Int32) then (-1 : Int32) else pp3)))])) _
      refine XS.iload X70.here hx rfl (hb hby at_159) rfl ?_
      show Steps p.tables e below (T70.setTop (mkF m 161 #[.val (.int pp1), .val (.int pp2), .val (.int pp3), .val (.int pp4), .val (.int pp5), .val (.int (2 : Int32)), .val (.int i0), .val (.int i1), .val (.int i2), .val (.int i3), .val (.ref b52), .val (.ref b57), .unset, .unset] [(.int i1), (.int i0), (.int (2 : Int32)), (.int pp3), (.int (1 : Int32)), (.int (if i1 = (1 : Int32) then (-1 : Int32) else (if i0 = (1 : Int32) then (-1 : Int32) else pp3)))])) _
      refine XS.iload X70.here hx rfl (hb hby at_161) rfl ?_
      show Steps p.tables e below (T70.setTop (mkF m 163 #[.val (.int pp1), .val (.int pp2), .val (.int pp3), .val (.int pp4), .val (.int pp5), .val (.int (2 : Int32)), .val (.int i0), .val (.int i1), .val (.int i2), .val (.int i3), .val (.ref b52), .val (.ref b57), .unset, .unset] [(.int i2), (.int i1), (.int i0), (.int (2 : Int32)), (.int pp3), (.int (1 : Int32)), (.int (if i1 = (1 : Int32) then (-1 : Int32) else (if i0 = (1 : Int32) then (-1 : Int32) else pp3)))])) _
      refine XS.iload X70.here hx rfl (hb hby at_163) rfl ?_
      show Steps p.tables e below (T70.setTop (mkF m 165 #[.val (.int pp1), .val (.int pp2), .val (.int pp3), .val (.int pp4), .val (.int pp5), .val (.int (2 : Int32)), .val (.int i0), .val (.int i1), .val (.int i2), .val (.int i3), .val (.ref b52), .val (.ref b57), .unset, .unset] [(.int i3), (.int i2), (.int i1), (.int i0), (.int (2 : Int32)), (.int pp3), (.int (1 : Int32)), (.int (if i1 = (1 : Int32) then (-1 : Int32) else (if i0 = (1 : Int32) then (-1 : Int32) else pp3)))])) _
      refine st72 _ ?_
      show Steps p.tables e below (T72.setTop (mkF m 168 #[.val (.int pp1), .val (.int pp2), .val (.int pp3), .val (.int pp4), .val (.int pp5), .val (.int (2 : Int32)), .val (.int i0), .val (.int i1), .val (.int i2), .val (.int i3), .val (.ref b52), .val (.ref b57), .unset, .unset] [(.int (if i0 = (1 : Int32) then (-1 : Int32) else (if i1 = (1 : Int32) then (-1 : Int32) else pp3))), (.int (if i1 = (1 : Int32) then (-1 : Int32) else (if i0 = (1 : Int32) then (-1 : Int32) else pp3)))])) _
      refine XS.icmpNo X72.here hx rfl (hb hby at_168) rfl (teq hc168_3).2 ?_
      show Steps p.tables e below (T72.setTop (mkF m 171 #[.val (.int pp1), .val (.int pp2), .val (.int pp3), .val (.int pp4), .val (.int pp5), .val (.int (2 : Int32)), .val (.int i0), .val (.int i1), .val (.int i2), .val (.int i3), .val (.ref b52), .val (.ref b57), .unset, .unset] [])) _
      refine XS.aload X72.here hx rfl (hb hby at_171) rfl rfl ?_
      show Steps p.tables e below (T72.setTop (mkF m 173 #[.val (.int pp1), .val (.int pp2), .val (.int pp3), .val (.int pp4), .val (.int pp5), .val (.int (2 : Int32)), .val (.int i0), .val (.int i1), .val (.int i2), .val (.int i3), .val (.ref b52), .val (.ref b57), .unset, .unset] [(.ref b57)])) _
      refine XS.iconst X72.here hx rfl (hb hby at_173) ?_
      show Steps p.tables e below (T72.setTop (mkF m 174 #[.val (.int pp1), .val (.int pp2), .val (.int pp3), .val (.int pp4), .val (.int pp5), .val (.int (2 : Int32)), .val (.int i0), .val (.int i1), .val (.int i2), .val (.int i3), .val (.ref b52), .val (.ref b57), .unset, .unset] [(.int (2 : Int32)), (.ref b57)])) _
      refine X72.iaload hx (j := (2 : Int32)) (v := (.int (if i1 = (2 : Int32) then (-1 : Int32) else (if i0 = (2 : Int32) then (-1 : Int32) else pp4)))) (by rw [e72]; exact Ar_73.1) (State.isArrayOf_alike hZ.alike Ar_73.2.1) Ar_73.2.2 hin_73 hat_73 (g := (mkF m 174 #[.val (.int pp1), .val (.int pp2), .val (.int pp3), .val (.int pp4), .val (.int pp5), .val (.int (2 : Int32)), .val (.int i0), .val (.int i1), .val (.int i2), .val (.int i3), .val (.ref b52), .val (.ref b57), .unset, .unset] [(.int (2 : Int32)), (.ref b57)])) rfl rfl (hb hby at_174) _ ?_
      show Steps p.tables e below (T72.setTop (mkF m 175 #[.val (.int pp1), .val (.int pp2), .val (.int pp3), .val (.int pp4), .val (.int pp5), .val (.int (2 : Int32)), .val (.int i0), .val (.int i1), .val (.int i2), .val (.int i3), .val (.ref b52), .val (.ref b57), .unset, .unset] [(.int (if i1 = (2 : Int32) then (-1 : Int32) else (if i0 = (2 : Int32) then (-1 : Int32) else pp4)))])) _
      refine XS.iconst X72.here hx rfl (hb hby at_175) ?_
      show Steps p.tables e below (T72.setTop (mkF m 176 #[.val (.int pp1), .val (.int pp2), .val (.int pp3), .val (.int pp4), .val (.int pp5), .val (.int (2 : Int32)), .val (.int i0), .val (.int i1), .val (.int i2), .val (.int i3), .val (.ref b52), .val (.ref b57), .unset, .unset] [(.int (2 : Int32)), (.int (if i1 = (2 : Int32) then (-1 : Int32) else (if i0 = (2 : Int32) then (-1 : Int32) else pp4)))])) _
      refine XS.iloadN X72.here hx rfl (hb hby at_176) rfl ?_
      show Steps p.tables e below (T72.setTop (mkF m 177 #[.val (.int pp1), .val (.int pp2), .val (.int pp3), .val (.int pp4), .val (.int pp5), .val (.int (2 : Int32)), .val (.int i0), .val (.int i1), .val (.int i2), .val (.int i3), .val (.ref b52), .val (.ref b57), .unset, .unset] [(.int pp4), (.int (2 : Int32)), (.int (if i1 = (2 : Int32) then (-1 : Int32) else (if i0 = (2 : Int32) then (-1 : Int32) else pp4)))])) _
      refine XS.iload X72.here hx rfl (hb hby at_177) rfl ?_
      show Steps p.tables e below (T72.setTop (mkF m 179 #[.val (.int pp1), .val (.int pp2), .val (.int pp3), .val (.int pp4), .val (.int pp5), .val (.int (2 : Int32)), .val (.int i0), .val (.int i1), .val (.int i2), .val (.int i3), .val (.ref b52), .val (.ref b57), .unset, .unset] [(.int (2 : Int32)), (.int pp4), (.int (2 : Int32)), (.int (if i1 = (2 : Int32) then (-1 : Int32) else (if i0 = (2 : Int32) then (-1 : Int32) else pp4)))])) _
      refine XS.iload X72.here hx rfl (hb hby at_179) rfl ?_
      show Steps p.tables e below (T72.setTop (mkF m 181 #[.val (.int pp1), .val (.int pp2), .val (.int pp3), .val (.int pp4), .val (.int pp5), .val (.int (2 : Int32)), .val (.int i0), .val (.int i1), .val (.int i2), .val (.int i3), .val (.ref b52), .val (.ref b57), .unset, .unset] [(.int i0), (.int (2 : Int32)), (.int pp4), (.int (2 : Int32)), (.int (if i1 = (2 : Int32) then (-1 : Int32) else (if i0 = (2 : Int32) then (-1 : Int32) else pp4)))])) _
      refine XS.iload X72.here hx rfl (hb hby at_181) rfl ?_
      show Steps p.tables e below (T72.setTop (mkF m 183 #[.val (.int pp1), .val (.int pp2), .val (.int pp3), .val (.int pp4), .val (.int pp5), .val (.int (2 : Int32)), .val (.int i0), .val (.int i1), .val (.int i2), .val (.int i3), .val (.ref b52), .val (.ref b57), .unset, .unset] [(.int i1), (.int i0), (.int (2 : Int32)), (.int pp4), (.int (2 : Int32)), (.int (if i1 = (2 : Int32) then (-1 : Int32) else (if i0 = (2 : Int32) then (-1 : Int32) else pp4)))])) _
      refine XS.iload X72.here hx rfl (hb hby at_183) rfl ?_
      show Steps p.tables e below (T72.setTop (mkF m 185 #[.val (.int pp1), .val (.int pp2), .val (.int pp3), .val (.int pp4), .val (.int pp5), .val (.int (2 : Int32)), .val (.int i0), .val (.int i1), .val (.int i2), .val (.int i3), .val (.ref b52), .val (.ref b57), .unset, .unset] [(.int i2), (.int i1), (.int i0), (.int (2 : Int32)), (.int pp4), (.int (2 : Int32)), (.int (if i1 = (2 : Int32) then (-1 : Int32) else (if i0 = (2 : Int32) then (-1 : Int32) else pp4)))])) _
      refine XS.iload X72.here hx rfl (hb hby at_185) rfl ?_
      show Steps p.tables e below (T72.setTop (mkF m 187 #[.val (.int pp1), .val (.int pp2), .val (.int pp3), .val (.int pp4), .val (.int pp5), .val (.int (2 : Int32)), .val (.int i0), .val (.int i1), .val (.int i2), .val (.int i3), .val (.ref b52), .val (.ref b57), .unset, .unset] [(.int i3), (.int i2), (.int i1), (.int i0), (.int (2 : Int32)), (.int pp4), (.int (2 : Int32)), (.int (if i1 = (2 : Int32) then (-1 : Int32) else (if i0 = (2 : Int32) then (-1 : Int32) else pp4)))])) _
      refine st74 _ ?_
      show Steps p.tables e below (T74.setTop (mkF m 190 #[.val (.int pp1), .val (.int pp2), .val (.int pp3), .val (.int pp4), .val (.int pp5), .val (.int (2 : Int32)), .val (.int i0), .val (.int i1), .val (.int i2), .val (.int i3), .val (.ref b52), .val (.ref b57), .unset, .unset] [(.int (if i0 = (2 : Int32) then (-1 : Int32) else (if i1 = (2 : Int32) then (-1 : Int32) else pp4))), (.int (if i1 = (2 : Int32) then (-1 : Int32) else (if i0 = (2 : Int32) then (-1 : Int32) else pp4)))])) _
      refine XS.icmpNo X74.here hx rfl (hb hby at_190) rfl (teq hc190_3).2 ?_
      show Steps p.tables e below (T74.setTop (mkF m 193 #[.val (.int pp1), .val (.int pp2), .val (.int pp3), .val (.int pp4), .val (.int pp5), .val (.int (2 : Int32)), .val (.int i0), .val (.int i1), .val (.int i2), .val (.int i3), .val (.ref b52), .val (.ref b57), .unset, .unset] [])) _
      refine XS.aload X74.here hx rfl (hb hby at_193) rfl rfl ?_
      show Steps p.tables e below (T74.setTop (mkF m 195 #[.val (.int pp1), .val (.int pp2), .val (.int pp3), .val (.int pp4), .val (.int pp5), .val (.int (2 : Int32)), .val (.int i0), .val (.int i1), .val (.int i2), .val (.int i3), .val (.ref b52), .val (.ref b57), .unset, .unset] [(.ref b57)])) _
      refine XS.iconst X74.here hx rfl (hb hby at_195) ?_
      show Steps p.tables e below (T74.setTop (mkF m 196 #[.val (.int pp1), .val (.int pp2), .val (.int pp3), .val (.int pp4), .val (.int pp5), .val (.int (2 : Int32)), .val (.int i0), .val (.int i1), .val (.int i2), .val (.int i3), .val (.ref b52), .val (.ref b57), .unset, .unset] [(.int (3 : Int32)), (.ref b57)])) _
      refine X74.iaload hx (j := (3 : Int32)) (v := (.int (if i1 = (3 : Int32) then (-1 : Int32) else (if i0 = (3 : Int32) then (-1 : Int32) else pp5)))) (by rw [e74]; exact Ar_75.1) (State.isArrayOf_alike hZ.alike Ar_75.2.1) Ar_75.2.2 hin_75 hat_75 (g := (mkF m 196 #[.val (.int pp1), .val (.int pp2), .val (.int pp3), .val (.int pp4), .val (.int pp5), .val (.int (2 : Int32)), .val (.int i0), .val (.int i1), .val (.int i2), .val (.int i3), .val (.ref b52), .val (.ref b57), .unset, .unset] [(.int (3 : Int32)), (.ref b57)])) rfl rfl (hb hby at_196) _ ?_
      show Steps p.tables e below (T74.setTop (mkF m 197 #[.val (.int pp1), .val (.int pp2), .val (.int pp3), .val (.int pp4), .val (.int pp5), .val (.int (2 : Int32)), .val (.int i0), .val (.int i1), .val (.int i2), .val (.int i3), .val (.ref b52), .val (.ref b57), .unset, .unset] [(.int (if i1 = (3 : Int32) then (-1 : Int32) else (if i0 = (3 : Int32) then (-1 : Int32) else pp5)))])) _
      refine XS.iconst X74.here hx rfl (hb hby at_197) ?_
      show Steps p.tables e below (T74.setTop (mkF m 198 #[.val (.int pp1), .val (.int pp2), .val (.int pp3), .val (.int pp4), .val (.int pp5), .val (.int (2 : Int32)), .val (.int i0), .val (.int i1), .val (.int i2), .val (.int i3), .val (.ref b52), .val (.ref b57), .unset, .unset] [(.int (3 : Int32)), (.int (if i1 = (3 : Int32) then (-1 : Int32) else (if i0 = (3 : Int32) then (-1 : Int32) else pp5)))])) _
      refine XS.iload X74.here hx rfl (hb hby at_198) rfl ?_
      show Steps p.tables e below (T74.setTop (mkF m 200 #[.val (.int pp1), .val (.int pp2), .val (.int pp3), .val (.int pp4), .val (.int pp5), .val (.int (2 : Int32)), .val (.int i0), .val (.int i1), .val (.int i2), .val (.int i3), .val (.ref b52), .val (.ref b57), .unset, .unset] [(.int pp5), (.int (3 : Int32)), (.int (if i1 = (3 : Int32) then (-1 : Int32) else (if i0 = (3 : Int32) then (-1 : Int32) else pp5)))])) _
      refine XS.iload X74.here hx rfl (hb hby at_200) rfl ?_
      show Steps p.tables e below (T74.setTop (mkF m 202 #[.val (.int pp1), .val (.int pp2), .val (.int pp3), .val (.int pp4), .val (.int pp5), .val (.int (2 : Int32)), .val (.int i0), .val (.int i1), .val (.int i2), .val (.int i3), .val (.ref b52), .val (.ref b57), .unset, .unset] [(.int (2 : Int32)), (.int pp5), (.int (3 : Int32)), (.int (if i1 = (3 : Int32) then (-1 : Int32) else (if i0 = (3 : Int32) then (-1 : Int32) else pp5)))])) _
      refine XS.iload X74.here hx rfl (hb hby at_202) rfl ?_
      show Steps p.tables e below (T74.setTop (mkF m 204 #[.val (.int pp1), .val (.int pp2), .val (.int pp3), .val (.int pp4), .val (.int pp5), .val (.int (2 : Int32)), .val (.int i0), .val (.int i1), .val (.int i2), .val (.int i3), .val (.ref b52), .val (.ref b57), .unset, .unset] [(.int i0), (.int (2 : Int32)), (.int pp5), (.int (3 : Int32)), (.int (if i1 = (3 : Int32) then (-1 : Int32) else (if i0 = (3 : Int32) then (-1 : Int32) else pp5)))])) _
      refine XS.iload X74.here hx rfl (hb hby at_204) rfl ?_
      show Steps p.tables e below (T74.setTop (mkF m 206 #[.val (.int pp1), .val (.int pp2), .val (.int pp3), .val (.int pp4), .val (.int pp5), .val (.int (2 : Int32)), .val (.int i0), .val (.int i1), .val (.int i2), .val (.int i3), .val (.ref b52), .val (.ref b57), .unset, .unset] [(.int i1), (.int i0), (.int (2 : Int32)), (.int pp5), (.int (3 : Int32)), (.int (if i1 = (3 : Int32) then (-1 : Int32) else (if i0 = (3 : Int32) then (-1 : Int32) else pp5)))])) _
      refine XS.iload X74.here hx rfl (hb hby at_206) rfl ?_
      show Steps p.tables e below (T74.setTop (mkF m 208 #[.val (.int pp1), .val (.int pp2), .val (.int pp3), .val (.int pp4), .val (.int pp5), .val (.int (2 : Int32)), .val (.int i0), .val (.int i1), .val (.int i2), .val (.int i3), .val (.ref b52), .val (.ref b57), .unset, .unset] [(.int i2), (.int i1), (.int i0), (.int (2 : Int32)), (.int pp5), (.int (3 : Int32)), (.int (if i1 = (3 : Int32) then (-1 : Int32) else (if i0 = (3 : Int32) then (-1 : Int32) else pp5)))])) _
      refine XS.iload X74.here hx rfl (hb hby at_208) rfl ?_
      show Steps p.tables e below (T74.setTop (mkF m 210 #[.val (.int pp1), .val (.int pp2), .val (.int pp3), .val (.int pp4), .val (.int pp5), .val (.int (2 : Int32)), .val (.int i0), .val (.int i1), .val (.int i2), .val (.int i3), .val (.ref b52), .val (.ref b57), .unset, .unset] [(.int i3), (.int i2), (.int i1), (.int i0), (.int (2 : Int32)), (.int pp5), (.int (3 : Int32)), (.int (if i1 = (3 : Int32) then (-1 : Int32) else (if i0 = (3 : Int32) then (-1 : Int32) else pp5)))])) _
      refine st76 _ ?_
      show Steps p.tables e below (T76.setTop (mkF m 213 #[.val (.int pp1), .val (.int pp2), .val (.int pp3), .val (.int pp4), .val (.int pp5), .val (.int (2 : Int32)), .val (.int i0), .val (.int i1), .val (.int i2), .val (.int i3), .val (.ref b52), .val (.ref b57), .unset, .unset] [(.int (if i0 = (3 : Int32) then (-1 : Int32) else (if i1 = (3 : Int32) then (-1 : Int32) else pp5))), (.int (if i1 = (3 : Int32) then (-1 : Int32) else (if i0 = (3 : Int32) then (-1 : Int32) else pp5)))])) _
      refine XS.icmpNo X76.here hx rfl (hb hby at_213) rfl (teq hc213_3).2 ?_
      show Steps p.tables e below (T76.setTop (mkF m 216 #[.val (.int pp1), .val (.int pp2), .val (.int pp3), .val (.int pp4), .val (.int pp5), .val (.int (2 : Int32)), .val (.int i0), .val (.int i1), .val (.int i2), .val (.int i3), .val (.ref b52), .val (.ref b57), .unset, .unset] [])) _
      refine XS.iconst X76.here hx rfl (hb hby at_216) ?_
      show Steps p.tables e below (T76.setTop (mkF m 217 #[.val (.int pp1), .val (.int pp2), .val (.int pp3), .val (.int pp4), .val (.int pp5), .val (.int (2 : Int32)), .val (.int i0), .val (.int i1), .val (.int i2), .val (.int i3), .val (.ref b52), .val (.ref b57), .unset, .unset] [(.int (1 : Int32))])) _
      refine XS.goto X76.here hx rfl (pc0 := 217) (pc' := 221) rfl (hb hby at_217) (by decide) (by decide) ?_
      show Steps p.tables e below (T76.setTop (mkF m 221 #[.val (.int pp1), .val (.int pp2), .val (.int pp3), .val (.int pp4), .val (.int pp5), .val (.int (2 : Int32)), .val (.int i0), .val (.int i1), .val (.int i2), .val (.int i3), .val (.ref b52), .val (.ref b57), .unset, .unset] [(.int (1 : Int32))])) _
      refine XS.istore X76.here hx rfl (hb hby at_221) rfl (l' := #[.val (.int pp1), .val (.int pp2), .val (.int pp3), .val (.int pp4), .val (.int pp5), .val (.int (2 : Int32)), .val (.int i0), .val (.int i1), .val (.int i2), .val (.int i3), .val (.ref b52), .val (.ref b57), .val (.int (1 : Int32)), .unset]) rfl ?_
      show Steps p.tables e below (T76.setTop (mkF m 223 #[.val (.int pp1), .val (.int pp2), .val (.int pp3), .val (.int pp4), .val (.int pp5), .val (.int (2 : Int32)), .val (.int i0), .val (.int i1), .val (.int i2), .val (.int i3), .val (.ref b52), .val (.ref b57), .val (.int (1 : Int32)), .unset] [])) _
      refine XS.aload X76.here hx rfl (hb hby at_223) rfl rfl ?_
      show Steps p.tables e below (T76.setTop (mkF m 225 #[.val (.int pp1), .val (.int pp2), .val (.int pp3), .val (.int pp4), .val (.int pp5), .val (.int (2 : Int32)), .val (.int i0), .val (.int i1), .val (.int i2), .val (.int i3), .val (.ref b52), .val (.ref b57), .val (.int (1 : Int32)), .unset] [(.ref b52)])) _
      refine X76.arraylength hx (by rw [e76]; exact Ar_78.1) (State.isArrayOf_alike hZ.alike Ar_78.2.1) (g := (mkF m 225 #[.val (.int pp1), .val (.int pp2), .val (.int pp3), .val (.int pp4), .val (.int pp5), .val (.int (2 : Int32)), .val (.int i0), .val (.int i1), .val (.int i2), .val (.int i3), .val (.ref b52), .val (.ref b57), .val (.int (1 : Int32)), .unset] [(.ref b52)])) rfl rfl (hb hby at_225) _ ?_
      rw [len_of Sz_78 Nn_78]
      show Steps p.tables e below (T76.setTop (mkF m 226 #[.val (.int pp1), .val (.int pp2), .val (.int pp3), .val (.int pp4), .val (.int pp5), .val (.int (2 : Int32)), .val (.int i0), .val (.int i1), .val (.int i2), .val (.int i3), .val (.ref b52), .val (.ref b57), .val (.int (1 : Int32)), .unset] [(.int (2 : Int32))])) _
      refine XS.iload X76.here hx rfl (hb hby at_226) rfl ?_
      show Steps p.tables e below (T76.setTop (mkF m 228 #[.val (.int pp1), .val (.int pp2), .val (.int pp3), .val (.int pp4), .val (.int pp5), .val (.int (2 : Int32)), .val (.int i0), .val (.int i1), .val (.int i2), .val (.int i3), .val (.ref b52), .val (.ref b57), .val (.int (1 : Int32)), .unset] [(.int (2 : Int32)), (.int (2 : Int32))])) _
      refine XS.icmpNo X76.here hx rfl (hb hby at_228) rfl (teq hc228_3).2 ?_
      show Steps p.tables e below (T76.setTop (mkF m 231 #[.val (.int pp1), .val (.int pp2), .val (.int pp3), .val (.int pp4), .val (.int pp5), .val (.int (2 : Int32)), .val (.int i0), .val (.int i1), .val (.int i2), .val (.int i3), .val (.ref b52), .val (.ref b57), .val (.int (1 : Int32)), .unset] [])) _
      refine XS.iload X76.here hx rfl (hb hby at_231) rfl ?_
      show Steps p.tables e below (T76.setTop (mkF m 233 #[.val (.int pp1), .val (.int pp2), .val (.int pp3), .val (.int pp4), .val (.int pp5), .val (.int (2 : Int32)), .val (.int i0), .val (.int i1), .val (.int i2), .val (.int i3), .val (.ref b52), .val (.ref b57), .val (.int (1 : Int32)), .unset] [(.int (2 : Int32))])) _
      refine XS.ifNo X76.here hx rfl (hb hby at_233) rfl ((if0 _ _).trans (tlt hc233_3).2.2.2) ?_
      show Steps p.tables e below (T76.setTop (mkF m 236 #[.val (.int pp1), .val (.int pp2), .val (.int pp3), .val (.int pp4), .val (.int pp5), .val (.int (2 : Int32)), .val (.int i0), .val (.int i1), .val (.int i2), .val (.int i3), .val (.ref b52), .val (.ref b57), .val (.int (1 : Int32)), .unset] [])) _
      refine XS.aload X76.here hx rfl (hb hby at_236) rfl rfl ?_
      show Steps p.tables e below (T76.setTop (mkF m 238 #[.val (.int pp1), .val (.int pp2), .val (.int pp3), .val (.int pp4), .val (.int pp5), .val (.int (2 : Int32)), .val (.int i0), .val (.int i1), .val (.int i2), .val (.int i3), .val (.ref b52), .val (.ref b57), .val (.int (1 : Int32)), .unset] [(.ref b52)])) _
      refine XS.iconst X76.here hx rfl (hb hby at_238) ?_
      show Steps p.tables e below (T76.setTop (mkF m 239 #[.val (.int pp1), .val (.int pp2), .val (.int pp3), .val (.int pp4), .val (.int pp5), .val (.int (2 : Int32)), .val (.int i0), .val (.int i1), .val (.int i2), .val (.int i3), .val (.ref b52), .val (.ref b57), .val (.int (1 : Int32)), .unset] [(.int (0 : Int32)), (.ref b52)])) _
      refine X76.iaload hx (j := (0 : Int32)) (v := (.int i0)) (by rw [e76]; exact Ar_79.1) (State.isArrayOf_alike hZ.alike Ar_79.2.1) Ar_79.2.2 hin_79 hat_79 (g := (mkF m 239 #[.val (.int pp1), .val (.int pp2), .val (.int pp3), .val (.int pp4), .val (.int pp5), .val (.int (2 : Int32)), .val (.int i0), .val (.int i1), .val (.int i2), .val (.int i3), .val (.ref b52), .val (.ref b57), .val (.int (1 : Int32)), .unset] [(.int (0 : Int32)), (.ref b52)])) rfl rfl (hb hby at_239) _ ?_
      show Steps p.tables e below (T76.setTop (mkF m 240 #[.val (.int pp1), .val (.int pp2), .val (.int pp3), .val (.int pp4), .val (.int pp5), .val (.int (2 : Int32)), .val (.int i0), .val (.int i1), .val (.int i2), .val (.int i3), .val (.ref b52), .val (.ref b57), .val (.int (1 : Int32)), .unset] [(.int i0)])) _
      refine XS.iload X76.here hx rfl (hb hby at_240) rfl ?_
      show Steps p.tables e below (T76.setTop (mkF m 242 #[.val (.int pp1), .val (.int pp2), .val (.int pp3), .val (.int pp4), .val (.int pp5), .val (.int (2 : Int32)), .val (.int i0), .val (.int i1), .val (.int i2), .val (.int i3), .val (.ref b52), .val (.ref b57), .val (.int (1 : Int32)), .unset] [(.int i0), (.int i0)])) _
      refine XS.icmpNo X76.here hx rfl (hb hby at_242) rfl (teq (rfl : i0 = i0)).2 ?_
      show Steps p.tables e below (T76.setTop (mkF m 245 #[.val (.int pp1), .val (.int pp2), .val (.int pp3), .val (.int pp4), .val (.int pp5), .val (.int (2 : Int32)), .val (.int i0), .val (.int i1), .val (.int i2), .val (.int i3), .val (.ref b52), .val (.ref b57), .val (.int (1 : Int32)), .unset] [])) _
      refine XS.iload X76.here hx rfl (hb hby at_245) rfl ?_
      show Steps p.tables e below (T76.setTop (mkF m 247 #[.val (.int pp1), .val (.int pp2), .val (.int pp3), .val (.int pp4), .val (.int pp5), .val (.int (2 : Int32)), .val (.int i0), .val (.int i1), .val (.int i2), .val (.int i3), .val (.ref b52), .val (.ref b57), .val (.int (1 : Int32)), .unset] [(.int (2 : Int32))])) _
      refine XS.iconst X76.here hx rfl (hb hby at_247) ?_
      show Steps p.tables e below (T76.setTop (mkF m 248 #[.val (.int pp1), .val (.int pp2), .val (.int pp3), .val (.int pp4), .val (.int pp5), .val (.int (2 : Int32)), .val (.int i0), .val (.int i1), .val (.int i2), .val (.int i3), .val (.ref b52), .val (.ref b57), .val (.int (1 : Int32)), .unset] [(.int (1 : Int32)), (.int (2 : Int32))])) _
      refine XS.icmpNo X76.here hx rfl (hb hby at_248) rfl (tlt hc248_3).2.2.2 ?_
      show Steps p.tables e below (T76.setTop (mkF m 251 #[.val (.int pp1), .val (.int pp2), .val (.int pp3), .val (.int pp4), .val (.int pp5), .val (.int (2 : Int32)), .val (.int i0), .val (.int i1), .val (.int i2), .val (.int i3), .val (.ref b52), .val (.ref b57), .val (.int (1 : Int32)), .unset] [])) _
      refine XS.aload X76.here hx rfl (hb hby at_251) rfl rfl ?_
      show Steps p.tables e below (T76.setTop (mkF m 253 #[.val (.int pp1), .val (.int pp2), .val (.int pp3), .val (.int pp4), .val (.int pp5), .val (.int (2 : Int32)), .val (.int i0), .val (.int i1), .val (.int i2), .val (.int i3), .val (.ref b52), .val (.ref b57), .val (.int (1 : Int32)), .unset] [(.ref b52)])) _
      refine XS.iconst X76.here hx rfl (hb hby at_253) ?_
      show Steps p.tables e below (T76.setTop (mkF m 254 #[.val (.int pp1), .val (.int pp2), .val (.int pp3), .val (.int pp4), .val (.int pp5), .val (.int (2 : Int32)), .val (.int i0), .val (.int i1), .val (.int i2), .val (.int i3), .val (.ref b52), .val (.ref b57), .val (.int (1 : Int32)), .unset] [(.int (1 : Int32)), (.ref b52)])) _
      refine X76.iaload hx (j := (1 : Int32)) (v := (.int i1)) (by rw [e76]; exact Ar_80.1) (State.isArrayOf_alike hZ.alike Ar_80.2.1) Ar_80.2.2 hin_80 hat_80 (g := (mkF m 254 #[.val (.int pp1), .val (.int pp2), .val (.int pp3), .val (.int pp4), .val (.int pp5), .val (.int (2 : Int32)), .val (.int i0), .val (.int i1), .val (.int i2), .val (.int i3), .val (.ref b52), .val (.ref b57), .val (.int (1 : Int32)), .unset] [(.int (1 : Int32)), (.ref b52)])) rfl rfl (hb hby at_254) _ ?_
      show Steps p.tables e below (T76.setTop (mkF m 255 #[.val (.int pp1), .val (.int pp2), .val (.int pp3), .val (.int pp4), .val (.int pp5), .val (.int (2 : Int32)), .val (.int i0), .val (.int i1), .val (.int i2), .val (.int i3), .val (.ref b52), .val (.ref b57), .val (.int (1 : Int32)), .unset] [(.int i1)])) _
      refine XS.iload X76.here hx rfl (hb hby at_255) rfl ?_
      show Steps p.tables e below (T76.setTop (mkF m 257 #[.val (.int pp1), .val (.int pp2), .val (.int pp3), .val (.int pp4), .val (.int pp5), .val (.int (2 : Int32)), .val (.int i0), .val (.int i1), .val (.int i2), .val (.int i3), .val (.ref b52), .val (.ref b57), .val (.int (1 : Int32)), .unset] [(.int i1), (.int i1)])) _
      refine XS.icmpNo X76.here hx rfl (hb hby at_257) rfl (teq (rfl : i1 = i1)).2 ?_
      show Steps p.tables e below (T76.setTop (mkF m 260 #[.val (.int pp1), .val (.int pp2), .val (.int pp3), .val (.int pp4), .val (.int pp5), .val (.int (2 : Int32)), .val (.int i0), .val (.int i1), .val (.int i2), .val (.int i3), .val (.ref b52), .val (.ref b57), .val (.int (1 : Int32)), .unset] [])) _
      refine XS.iload X76.here hx rfl (hb hby at_260) rfl ?_
      show Steps p.tables e below (T76.setTop (mkF m 262 #[.val (.int pp1), .val (.int pp2), .val (.int pp3), .val (.int pp4), .val (.int pp5), .val (.int (2 : Int32)), .val (.int i0), .val (.int i1), .val (.int i2), .val (.int i3), .val (.ref b52), .val (.ref b57), .val (.int (1 : Int32)), .unset] [(.int (2 : Int32))])) _
      refine XS.iconst X76.here hx rfl (hb hby at_262) ?_
      show Steps p.tables e below (T76.setTop (mkF m 263 #[.val (.int pp1), .val (.int pp2), .val (.int pp3), .val (.int pp4), .val (.int pp5), .val (.int (2 : Int32)), .val (.int i0), .val (.int i1), .val (.int i2), .val (.int i3), .val (.ref b52), .val (.ref b57), .val (.int (1 : Int32)), .unset] [(.int (2 : Int32)), (.int (2 : Int32))])) _
      refine XS.icmpYes X76.here hx rfl (pc0 := 263) (pc' := 275) rfl (hb hby at_263) rfl (flt hc263_3).2.2.2 (by decide) (by decide) ?_
      show Steps p.tables e below (T76.setTop (mkF m 275 #[.val (.int pp1), .val (.int pp2), .val (.int pp3), .val (.int pp4), .val (.int pp5), .val (.int (2 : Int32)), .val (.int i0), .val (.int i1), .val (.int i2), .val (.int i3), .val (.ref b52), .val (.ref b57), .val (.int (1 : Int32)), .unset] [])) _
      refine XS.iload X76.here hx rfl (hb hby at_275) rfl ?_
      show Steps p.tables e below (T76.setTop (mkF m 277 #[.val (.int pp1), .val (.int pp2), .val (.int pp3), .val (.int pp4), .val (.int pp5), .val (.int (2 : Int32)), .val (.int i0), .val (.int i1), .val (.int i2), .val (.int i3), .val (.ref b52), .val (.ref b57), .val (.int (1 : Int32)), .unset] [(.int (2 : Int32))])) _
      refine XS.iconst X76.here hx rfl (hb hby at_277) ?_
      show Steps p.tables e below (T76.setTop (mkF m 278 #[.val (.int pp1), .val (.int pp2), .val (.int pp3), .val (.int pp4), .val (.int pp5), .val (.int (2 : Int32)), .val (.int i0), .val (.int i1), .val (.int i2), .val (.int i3), .val (.ref b52), .val (.ref b57), .val (.int (1 : Int32)), .unset] [(.int (3 : Int32)), (.int (2 : Int32))])) _
      refine XS.icmpYes X76.here hx rfl (pc0 := 278) (pc' := 290) rfl (hb hby at_278) rfl (flt hc278_3).2.2.2 (by decide) (by decide) ?_
      show Steps p.tables e below (T76.setTop (mkF m 290 #[.val (.int pp1), .val (.int pp2), .val (.int pp3), .val (.int pp4), .val (.int pp5), .val (.int (2 : Int32)), .val (.int i0), .val (.int i1), .val (.int i2), .val (.int i3), .val (.ref b52), .val (.ref b57), .val (.int (1 : Int32)), .unset] [])) _
      refine XS.iconst X76.here hx rfl (hb hby at_290) ?_
      show Steps p.tables e below (T76.setTop (mkF m 291 #[.val (.int pp1), .val (.int pp2), .val (.int pp3), .val (.int pp4), .val (.int pp5), .val (.int (2 : Int32)), .val (.int i0), .val (.int i1), .val (.int i2), .val (.int i3), .val (.ref b52), .val (.ref b57), .val (.int (1 : Int32)), .unset] [(.int (1 : Int32))])) _
      refine XS.goto X76.here hx rfl (pc0 := 291) (pc' := 295) rfl (hb hby at_291) (by decide) (by decide) ?_
      show Steps p.tables e below (T76.setTop (mkF m 295 #[.val (.int pp1), .val (.int pp2), .val (.int pp3), .val (.int pp4), .val (.int pp5), .val (.int (2 : Int32)), .val (.int i0), .val (.int i1), .val (.int i2), .val (.int i3), .val (.ref b52), .val (.ref b57), .val (.int (1 : Int32)), .unset] [(.int (1 : Int32))])) _
      refine XS.istore X76.here hx rfl (hb hby at_295) rfl (l' := #[.val (.int pp1), .val (.int pp2), .val (.int pp3), .val (.int pp4), .val (.int pp5), .val (.int (2 : Int32)), .val (.int i0), .val (.int i1), .val (.int i2), .val (.int i3), .val (.ref b52), .val (.ref b57), .val (.int (1 : Int32)), .val (.int (1 : Int32))]) rfl ?_
      show Steps p.tables e below (T76.setTop (mkF m 297 #[.val (.int pp1), .val (.int pp2), .val (.int pp3), .val (.int pp4), .val (.int pp5), .val (.int (2 : Int32)), .val (.int i0), .val (.int i1), .val (.int i2), .val (.int i3), .val (.ref b52), .val (.ref b57), .val (.int (1 : Int32)), .val (.int (1 : Int32))] [])) _
      refine XS.iload X76.here hx rfl (hb hby at_297) rfl ?_
      show Steps p.tables e below (T76.setTop (mkF m 299 #[.val (.int pp1), .val (.int pp2), .val (.int pp3), .val (.int pp4), .val (.int pp5), .val (.int (2 : Int32)), .val (.int i0), .val (.int i1), .val (.int i2), .val (.int i3), .val (.ref b52), .val (.ref b57), .val (.int (1 : Int32)), .val (.int (1 : Int32))] [(.int (1 : Int32))])) _
      refine XS.ifNo X76.here hx rfl (hb hby at_299) rfl ((if0 _ _).trans (feq hc299_3).1) ?_
      show Steps p.tables e below (T76.setTop (mkF m 302 #[.val (.int pp1), .val (.int pp2), .val (.int pp3), .val (.int pp4), .val (.int pp5), .val (.int (2 : Int32)), .val (.int i0), .val (.int i1), .val (.int i2), .val (.int i3), .val (.ref b52), .val (.ref b57), .val (.int (1 : Int32)), .val (.int (1 : Int32))] [])) _
      refine XS.iload X76.here hx rfl (hb hby at_302) rfl ?_
      show Steps p.tables e below (T76.setTop (mkF m 304 #[.val (.int pp1), .val (.int pp2), .val (.int pp3), .val (.int pp4), .val (.int pp5), .val (.int (2 : Int32)), .val (.int i0), .val (.int i1), .val (.int i2), .val (.int i3), .val (.ref b52), .val (.ref b57), .val (.int (1 : Int32)), .val (.int (1 : Int32))] [(.int (1 : Int32))])) _
      refine XS.ifNo X76.here hx rfl (hb hby at_304) rfl ((if0 _ _).trans (feq hc304_3).1) ?_
      show Steps p.tables e below (T76.setTop (mkF m 307 #[.val (.int pp1), .val (.int pp2), .val (.int pp3), .val (.int pp4), .val (.int pp5), .val (.int (2 : Int32)), .val (.int i0), .val (.int i1), .val (.int i2), .val (.int i3), .val (.ref b52), .val (.ref b57), .val (.int (1 : Int32)), .val (.int (1 : Int32))] [])) _
      refine XS.iconst X76.here hx rfl (hb hby at_307) ?_
      show Steps p.tables e below (T76.setTop (mkF m 308 #[.val (.int pp1), .val (.int pp2), .val (.int pp3), .val (.int pp4), .val (.int pp5), .val (.int (2 : Int32)), .val (.int i0), .val (.int i1), .val (.int i2), .val (.int i3), .val (.ref b52), .val (.ref b57), .val (.int (1 : Int32)), .val (.int (1 : Int32))] [(.int (1 : Int32))])) _
      refine XS.goto X76.here hx rfl (pc0 := 308) (pc' := 312) rfl (hb hby at_308) (by decide) (by decide) ?_
      show Steps p.tables e below (T76.setTop (mkF m 312 #[.val (.int pp1), .val (.int pp2), .val (.int pp3), .val (.int pp4), .val (.int pp5), .val (.int (2 : Int32)), .val (.int i0), .val (.int i1), .val (.int i2), .val (.int i3), .val (.ref b52), .val (.ref b57), .val (.int (1 : Int32)), .val (.int (1 : Int32))] [(.int (1 : Int32))])) _
      exact retN X76 hx (t := .boolean) Bd.returns (by simp) (hb hby at_312) hr
    · show Q0 Z pp1 pp2 pp3 pp4 pp5 h0 n0 _ T76.heap _
      rw [e76]
      exact ⟨rfl, N76⟩
  · skip
    obtain ⟨T81, h81, k81, X81, e81, E81, A81, st81⟩ := newP X0 hx hZ (hw _ (List.mem_of_getElem? (i := 0) rfl)) e0 (g := (mkF m 40 #[.val (.int pp1), .val (.int pp2), .val (.int pp3), .val (.int pp4), .val (.int pp5), .val (.int (3 : Int32)), .val (.int i0), .val (.int i1), .val (.int i2), .val (.int i3), .unset, .unset, .unset, .unset] [(.int (3 : Int32))])) rfl (hb hby at_40) rfl (by decide) (cap := 3) (by decide) (by decide) (by decide) (by decide)
    obtain ⟨b81, g81⟩ : ∃ z, z = h0.size := ⟨_, rfl⟩
    rw [← g81] at A81 st81
    have g_b81 : n0 ≤ b81 := Nat.le_trans Z0 (Nat.le_of_eq g81.symm)
    have Z81 : n0 ≤ h81.size := Nat.le_trans Z0 E81.1
    have V81 : Arv Z h81 b81 k81 .int (3 : Int32) [(.int (0 : Int32)), (.int (0 : Int32)), (.int (0 : Int32))] (.int (0 : Int32)) := (Arv.new A81 (by decide)).pad (pad_rep [] (.int (0 : Int32)) 3)
    have hc46_4 : (0 : Int32) < (3 : Int32) := by decide
    obtain ⟨cl_82, Ar_82, qq_82, Sz_82, Nn_82, Hh_82, Gg_82⟩ := id V81
    have hin_82 : ¬ ((0 : Int32) < 0 ∨ cl_82.slots.size ≤ ((0 : Int32)).toNatClampNeg) := inb_of Sz_82 ⟨by decide, by decide⟩
    obtain ⟨T83, h83, X83, e83, W83, st83⟩ := stI X81 hx hZ e81 Ar_82 (j := (0 : Int32)) hin_82 (g := (mkF m 54 #[.val (.int pp1), .val (.int pp2), .val (.int pp3), .val (.int pp4), .val (.int pp5), .val (.int (3 : Int32)), .val (.int i0), .val (.int i1), .val (.int i2), .val (.int i3), .val (.ref b81), .unset, .unset, .unset] [(.int i0), (.int (0 : Int32)), (.ref b81)])) rfl rfl (hb hby at_54)
    have N83 := Fr.snoc X83 N0 g_b81
    have Z83 : n0 ≤ h83.size := Nat.le_trans Z81 (Keep.of_wr W83).1
    have V83 : Arv Z h83 b81 k81 .int (3 : Int32) [(.int i0), (.int (0 : Int32)), (.int (0 : Int32))] (.int (0 : Int32)) := Arv.set Ar_82 qq_82 Sz_82 Nn_82 Hh_82 Gg_82 rfl W83 0 rfl (Nat.le_of_ble_eq_true rfl)
    have hc58_4 : (1 : Int32) < (3 : Int32) := by decide
    obtain ⟨cl_84, Ar_84, qq_84, Sz_84, Nn_84, Hh_84, Gg_84⟩ := id V83
    have hin_84 : ¬ ((1 : Int32) < 0 ∨ cl_84.slots.size ≤ ((1 : Int32)).toNatClampNeg) := inb_of Sz_84 ⟨by decide, by decide⟩
    obtain ⟨T85, h85, X85, e85, W85, st85⟩ := stI X83 hx hZ e83 Ar_84 (j := (1 : Int32)) hin_84 (g := (mkF m 66 #[.val (.int pp1), .val (.int pp2), .val (.int pp3), .val (.int pp4), .val (.int pp5), .val (.int (3 : Int32)), .val (.int i0), .val (.int i1), .val (.int i2), .val (.int i3), .val (.ref b81), .unset, .unset, .unset] [(.int i1), (.int (1 : Int32)), (.ref b81)])) rfl rfl (hb hby at_66)
    have N85 := Fr.snoc X85 N83 g_b81
    have Z85 : n0 ≤ h85.size := Nat.le_trans Z83 (Keep.of_wr W85).1
    have V85 : Arv Z h85 b81 k81 .int (3 : Int32) [(.int i0), (.int i1), (.int (0 : Int32))] (.int (0 : Int32)) := Arv.set Ar_84 qq_84 Sz_84 Nn_84 Hh_84 Gg_84 rfl W85 1 rfl (Nat.le_of_ble_eq_true rfl)
    have hc70_4 : (2 : Int32) < (3 : Int32) := by decide
    obtain ⟨cl_86, Ar_86, qq_86, Sz_86, Nn_86, Hh_86, Gg_86⟩ := id V85
    have hin_86 : ¬ ((2 : Int32) < 0 ∨ cl_86.slots.size ≤ ((2 : Int32)).toNatClampNeg) := inb_of Sz_86 ⟨by decide, by decide⟩
    obtain ⟨T87, h87, X87, e87, W87, st87⟩ := stI X85 hx hZ e85 Ar_86 (j := (2 : Int32)) hin_86 (g := (mkF m 78 #[.val (.int pp1), .val (.int pp2), .val (.int pp3), .val (.int pp4), .val (.int pp5), .val (.int (3 : Int32)), .val (.int i0), .val (.int i1), .val (.int i2), .val (.int i3), .val (.ref b81), .unset, .unset, .unset] [(.int i2), (.int (2 : Int32)), (.ref b81)])) rfl rfl (hb hby at_78)
    have N87 := Fr.snoc X87 N85 g_b81
    have Z87 : n0 ≤ h87.size := Nat.le_trans Z85 (Keep.of_wr W87).1
    have V87 : Arv Z h87 b81 k81 .int (3 : Int32) [(.int i0), (.int i1), (.int i2)] (.int (0 : Int32)) := Arv.set Ar_86 qq_86 Sz_86 Nn_86 Hh_86 Gg_86 rfl W87 2 rfl (Nat.le_of_ble_eq_true rfl)
    have hc82_4 : ¬ ((3 : Int32) < (3 : Int32)) := by decide
    obtain ⟨T88, h88, k88, X88, e88, E88, A88, st88⟩ := newP X87 hx hZ (hw _ (List.mem_of_getElem? (i := 0) rfl)) e87 (g := (mkF m 92 #[.val (.int pp1), .val (.int pp2), .val (.int pp3), .val (.int pp4), .val (.int pp5), .val (.int (3 : Int32)), .val (.int i0), .val (.int i1), .val (.int i2), .val (.int i3), .val (.ref b81), .unset, .unset, .unset] [(.int (4 : Int32))])) rfl (hb hby at_92) rfl (by decide) (cap := 4) (by decide) (by decide) (by decide) (by decide)
    obtain ⟨b88, g88⟩ : ∃ z, z = h87.size := ⟨_, rfl⟩
    rw [← g88] at A88 st88
    have g_b88 : n0 ≤ b88 := Nat.le_trans Z87 (Nat.le_of_eq g88.symm)
    have Z88 : n0 ≤ h88.size := Nat.le_trans Z87 E88.1
    have V88 : Arv Z h88 b88 k88 .int (4 : Int32) [(.int (0 : Int32)), (.int (0 : Int32)), (.int (0 : Int32)), (.int (0 : Int32))] (.int (0 : Int32)) := (Arv.new A88 (by decide)).pad (pad_rep [] (.int (0 : Int32)) 4)
    obtain ⟨cl_89, Ar_89, qq_89, Sz_89, Nn_89, Hh_89, Gg_89⟩ := id V88
    have hin_89 : ¬ ((0 : Int32) < 0 ∨ cl_89.slots.size ≤ ((0 : Int32)).toNatClampNeg) := inb_of Sz_89 ⟨by decide, by decide⟩
    obtain ⟨T90, h90, X90, e90, W90, st90⟩ := stI X88 hx hZ e88 Ar_89 (j := (0 : Int32)) hin_89 (g := (mkF m 97 #[.val (.int pp1), .val (.int pp2), .val (.int pp3), .val (.int pp4), .val (.int pp5), .val (.int (3 : Int32)), .val (.int i0), .val (.int i1), .val (.int i2), .val (.int i3), .val (.ref b81), .unset, .unset, .unset] [(.int pp2), (.int (0 : Int32)), (.ref b88), (.ref b88)])) rfl rfl (hb hby at_97)
    have N90 := Fr.snoc X90 N87 g_b88
    have Z90 : n0 ≤ h90.size := Nat.le_trans Z88 (Keep.of_wr W90).1
    have V90 : Arv Z h90 b88 k88 .int (4 : Int32) [(.int pp2), (.int (0 : Int32)), (.int (0 : Int32)), (.int (0 : Int32))] (.int (0 : Int32)) := Arv.set Ar_89 qq_89 Sz_89 Nn_89 Hh_89 Gg_89 rfl W90 0 rfl (Nat.le_of_ble_eq_true rfl)
    obtain ⟨cl_91, Ar_91, qq_91, Sz_91, Nn_91, Hh_91, Gg_91⟩ := id V90
    have hin_91 : ¬ ((1 : Int32) < 0 ∨ cl_91.slots.size ≤ ((1 : Int32)).toNatClampNeg) := inb_of Sz_91 ⟨by decide, by decide⟩
    obtain ⟨T92, h92, X92, e92, W92, st92⟩ := stI X90 hx hZ e90 Ar_91 (j := (1 : Int32)) hin_91 (g := (mkF m 101 #[.val (.int pp1), .val (.int pp2), .val (.int pp3), .val (.int pp4), .val (.int pp5), .val (.int (3 : Int32)), .val (.int i0), .val (.int i1), .val (.int i2), .val (.int i3), .val (.ref b81), .unset, .unset, .unset] [(.int pp3), (.int (1 : Int32)), (.ref b88), (.ref b88)])) rfl rfl (hb hby at_101)
    have N92 := Fr.snoc X92 N90 g_b88
    have Z92 : n0 ≤ h92.size := Nat.le_trans Z90 (Keep.of_wr W92).1
    have V92 : Arv Z h92 b88 k88 .int (4 : Int32) [(.int pp2), (.int pp3), (.int (0 : Int32)), (.int (0 : Int32))] (.int (0 : Int32)) := Arv.set Ar_91 qq_91 Sz_91 Nn_91 Hh_91 Gg_91 rfl W92 1 rfl (Nat.le_of_ble_eq_true rfl)
    obtain ⟨cl_93, Ar_93, qq_93, Sz_93, Nn_93, Hh_93, Gg_93⟩ := id V92
    have hin_93 : ¬ ((2 : Int32) < 0 ∨ cl_93.slots.size ≤ ((2 : Int32)).toNatClampNeg) := inb_of Sz_93 ⟨by decide, by decide⟩
    obtain ⟨T94, h94, X94, e94, W94, st94⟩ := stI X92 hx hZ e92 Ar_93 (j := (2 : Int32)) hin_93 (g := (mkF m 105 #[.val (.int pp1), .val (.int pp2), .val (.int pp3), .val (.int pp4), .val (.int pp5), .val (.int (3 : Int32)), .val (.int i0), .val (.int i1), .val (.int i2), .val (.int i3), .val (.ref b81), .unset, .unset, .unset] [(.int pp4), (.int (2 : Int32)), (.ref b88), (.ref b88)])) rfl rfl (hb hby at_105)
    have N94 := Fr.snoc X94 N92 g_b88
    have Z94 : n0 ≤ h94.size := Nat.le_trans Z92 (Keep.of_wr W94).1
    have V94 : Arv Z h94 b88 k88 .int (4 : Int32) [(.int pp2), (.int pp3), (.int pp4), (.int (0 : Int32))] (.int (0 : Int32)) := Arv.set Ar_93 qq_93 Sz_93 Nn_93 Hh_93 Gg_93 rfl W94 2 rfl (Nat.le_of_ble_eq_true rfl)
    obtain ⟨cl_95, Ar_95, qq_95, Sz_95, Nn_95, Hh_95, Gg_95⟩ := id V94
    have hin_95 : ¬ ((3 : Int32) < 0 ∨ cl_95.slots.size ≤ ((3 : Int32)).toNatClampNeg) := inb_of Sz_95 ⟨by decide, by decide⟩
    obtain ⟨T96, h96, X96, e96, W96, st96⟩ := stI X94 hx hZ e94 Ar_95 (j := (3 : Int32)) hin_95 (g := (mkF m 110 #[.val (.int pp1), .val (.int pp2), .val (.int pp3), .val (.int pp4), .val (.int pp5), .val (.int (3 : Int32)), .val (.int i0), .val (.int i1), .val (.int i2), .val (.int i3), .val (.ref b81), .unset, .unset, .unset] [(.int pp5), (.int (3 : Int32)), (.ref b88), (.ref b88)])) rfl rfl (hb hby at_110)
    have N96 := Fr.snoc X96 N94 g_b88
    have Z96 : n0 ≤ h96.size := Nat.le_trans Z94 (Keep.of_wr W96).1
    have V96 : Arv Z h96 b88 k88 .int (4 : Int32) [(.int pp2), (.int pp3), (.int pp4), (.int pp5)] (.int (0 : Int32)) := Arv.set Ar_95 qq_95 Sz_95 Nn_95 Hh_95 Gg_95 rfl W96 3 rfl (Nat.le_of_ble_eq_true rfl)
    have V_97 : Arv Z h96 b81 k81 .int (3 : Int32) [(.int i0), (.int i1), (.int i2)] (.int (0 : Int32)) := (((((V87.ext E88).other W90 (Nat.ne_of_lt (Nat.lt_of_lt_of_le V87.lt (Nat.le_of_eq g88.symm)))).other W92 (Nat.ne_of_lt (Nat.lt_of_lt_of_le V87.lt (Nat.le_of_eq g88.symm)))).other W94 (Nat.ne_of_lt (Nat.lt_of_lt_of_le V87.lt (Nat.le_of_eq g88.symm)))).other W96 (Nat.ne_of_lt (Nat.lt_of_lt_of_le V87.lt (Nat.le_of_eq g88.symm))))
    obtain ⟨_, _, ⟨T98, L98, k98, n98⟩, -, X98, ⟨Lc98, hQ98, l98, y98, z98⟩, st98⟩ := Jvm.LawKit.callS X96 hx (y := (⟨"com/example/splitgrain/splitgrain/parse/ChartItems", "clearPlaces", "([I[I)V"⟩ : MethodName)) hown (mvT hZ (hw _ (List.mem_of_getElem? (i := 1) rfl))) (mvT hZ (hw _ (List.mem_of_getElem? (i := 2) rfl))) (mvT hZ (hw _ (List.mem_of_getElem? (i := 3) rfl))) (mvT hZ (hw _ (List.mem_of_getElem? (i := 4) rfl))) (by decide) (backOf (W := 0) (rm1_3 l Z a0 hw [] b81 b88 k81 k88 [(.int pp2), (.int pp3), (.int pp4), (.int pp5)] i0 i1 i2 h96 n0 Z96 V_97 V96 g_b88 (Nat.ne_of_lt (Nat.lt_of_lt_of_le V87.lt (Nat.le_of_eq g88.symm))) (show [(.int pp2), (.int pp3), (.int pp4), (.int pp5)].length = 4 from rfl) (show ¬ i0 < (0 : Int32) ∧ i0 < (4 : Int32) from h_i0) (show ¬ i1 < (0 : Int32) ∧ i1 < (4 : Int32) from h_i1) (show ¬ i2 < (0 : Int32) ∧ i2 < (4 : Int32) from h_i2)) hZ (hw _ (List.mem_of_getElem? (i := 4) rfl)) (hw _ (List.mem_of_getElem? (i := 3) rfl)) (by decide) (by decide)) (g := (mkF m 117 #[.val (.int pp1), .val (.int pp2), .val (.int pp3), .val (.int pp4), .val (.int pp5), .val (.int (3 : Int32)), .val (.int i0), .val (.int i1), .val (.int i2), .val (.int i3), .val (.ref b81), .val (.ref b88), .unset, .unset] [(.ref b88), (.ref b81)])) rfl (by rw [hml]; rfl) (argsL := [(.ref b81), (.ref b88)]) (rest := []) (lenOf pd__28__5b_I_5b_I_29_V rfl) rfl (by show 2 * 0 + _ ≤ _; exact Nat.le_of_eq rfl) (hb hby at_117) (fun _ _ => ⟨rfl, e96, (by decide : 2 + 0 ≤ _), (by decide : 7 + 0 ≤ _)⟩)
    dsimp only [Pt.U, Pt.locs, Pt.cells, Pt.slots] at X98 l98 y98 z98 st98 hQ98
    subst l98 y98 z98
    obtain ⟨rfl, N98q, K98c, R98_0⟩ := hQ98
    have N98 := Fr.app N96 N98q
    have Z98 : n0 ≤ T98.heap.size := Nat.le_trans Z96 K98c.1
    obtain ⟨cl_99, Ar_99, -, Sz_99, Nn_99, -, -⟩ := id R98_0
    have hc124_4 : (4 : Int32) = (4 : Int32) := by decide
    obtain ⟨cl_100, Ar_100, qq_100, Sz_100, Nn_100, Hh_100, Gg_100⟩ := id R98_0
    have hin_100 : ¬ ((0 : Int32) < 0 ∨ cl_100.slots.size ≤ ((0 : Int32)).toNatClampNeg) := inb_of Sz_100 ⟨by decide, by decide⟩
    have hat_100 : cl_100.slots[((0 : Int32)).toNatClampNeg]? = some (.int (if i2 = (0 : Int32) then (-1 : Int32) else (if i1 = (0 : Int32) then (-1 : Int32) else (if i0 = (0 : Int32) then (-1 : Int32) else pp2)))) := Has.at Hh_100 hin_100 (own_getset (by simp only [List.length_set]; rfl) h_i2 ⟨by decide, by decide⟩ (own_getset (by simp only [List.length_set]; rfl) h_i1 ⟨by decide, by decide⟩ (own_getset rfl h_i0 ⟨by decide, by decide⟩ rfl)))
    obtain ⟨_, _, ⟨T101, L101, k101, n101⟩, -, X101, ⟨Lc101, hQ101, l101, y101, z101⟩, st101⟩ := Jvm.LawKit.callS X98 hx (y := (⟨"com/example/splitgrain/splitgrain/parse/ChartItemsClearPlacesPinLaw", "expect", "(IIIIIII)I"⟩ : MethodName)) hown (mvT hZ (hw _ (List.mem_of_getElem? (i := 5) rfl))) (mvT hZ (hw _ (List.mem_of_getElem? (i := 6) rfl))) (mvT hZ (hw _ (List.mem_of_getElem? (i := 7) rfl))) (mvT hZ (hw _ (List.mem_of_getElem? (i := 8) rfl))) (by decide) (backOf (W := 1) (rm2_3 l Z a0 hw [] (0 : Int32) pp2 i0 i1 i2 i3 T98.heap n0 Z98 ) hZ (hw _ (List.mem_of_getElem? (i := 8) rfl)) (hw _ (List.mem_of_getElem? (i := 7) rfl)) (by decide) (by decide)) (g := (mkF m 143 #[.val (.int pp1), .val (.int pp2), .val (.int pp3), .val (.int pp4), .val (.int pp5), .val (.int (3 : Int32)), .val (.int i0), .val (.int i1), .val (.int i2), .val (.int i3), .val (.ref b81), .val (.ref b88), .unset, .unset] [(.int i3), (.int i2), (.int i1), (.int i0), (.int (3 : Int32)), (.int pp2), (.int (0 : Int32)), (.int (if i2 = (0 : Int32) then (-1 : Int32) else (if i1 = (0 : Int32) then (-1 : Int32) else (if i0 = (0 : Int32) then (-1 : Int32) else pp2))))])) rfl (by rw [hml]; rfl) (argsL := [(.int (0 : Int32)), (.int pp2), (.int (3 : Int32)), (.int i0), (.int i1), (.int i2), (.int i3)]) (rest := [(.int (if i2 = (0 : Int32) then (-1 : Int32) else (if i1 = (0 : Int32) then (-1 : Int32) else (if i0 = (0 : Int32) then (-1 : Int32) else pp2))))]) (lenOf pd__28_IIIIIII_29_I rfl) rfl (by show 2 * 0 + _ ≤ _; exact Nat.le_of_eq rfl) (hb hby at_143) (fun _ _ => ⟨rfl, rfl, (by decide : 2 + 0 ≤ _), (by decide : 7 + 0 ≤ _)⟩)
    dsimp only [Pt.U, Pt.locs, Pt.cells, Pt.slots] at X101 l101 y101 z101 st101 hQ101
    subst l101 y101 z101
    obtain ⟨rfl, N101q, e101⟩ := hQ101
    have N101 := Fr.app N98 N101q
    have hc146_4 : (if i2 = (0 : Int32) then (-1 : Int32) else (if i1 = (0 : Int32) then (-1 : Int32) else (if i0 = (0 : Int32) then (-1 : Int32) else pp2))) = (if i0 = (0 : Int32) then (-1 : Int32) else (if i1 = (0 : Int32) then (-1 : Int32) else (if i2 = (0 : Int32) then (-1 : Int32) else pp2))) := own_re3 _ _ _ _ _ 
    obtain ⟨cl_102, Ar_102, qq_102, Sz_102, Nn_102, Hh_102, Gg_102⟩ := id R98_0
    have hin_102 : ¬ ((1 : Int32) < 0 ∨ cl_102.slots.size ≤ ((1 : Int32)).toNatClampNeg) := inb_of Sz_102 ⟨by decide, by decide⟩
    have hat_102 : cl_102.slots[((1 : Int32)).toNatClampNeg]? = some (.int (if i2 = (1 : Int32) then (-1 : Int32) else (if i1 = (1 : Int32) then (-1 : Int32) else (if i0 = (1 : Int32) then (-1 : Int32) else pp3)))) := Has.at Hh_102 hin_102 (own_getset (by simp only [List.length_set]; rfl) h_i2 ⟨by decide, by decide⟩ (own_getset (by simp only [List.length_set]; rfl) h_i1 ⟨by decide, by decide⟩ (own_getset rfl h_i0 ⟨by decide, by decide⟩ rfl)))
    obtain ⟨_, _, ⟨T103, L103, k103, n103⟩, -, X103, ⟨Lc103, hQ103, l103, y103, z103⟩, st103⟩ := Jvm.LawKit.callS X101 hx (y := (⟨"com/example/splitgrain/splitgrain/parse/ChartItemsClearPlacesPinLaw", "expect", "(IIIIIII)I"⟩ : MethodName)) hown (mvT hZ (hw _ (List.mem_of_getElem? (i := 5) rfl))) (mvT hZ (hw _ (List.mem_of_getElem? (i := 6) rfl))) (mvT hZ (hw _ (List.mem_of_getElem? (i := 7) rfl))) (mvT hZ (hw _ (List.mem_of_getElem? (i := 8) rfl))) (by decide) (backOf (W := 1) (rm2_3 l Z a0 hw [] (1 : Int32) pp3 i0 i1 i2 i3 T98.heap n0 Z98 ) hZ (hw _ (List.mem_of_getElem? (i := 8) rfl)) (hw _ (List.mem_of_getElem? (i := 7) rfl)) (by decide) (by decide)) (g := (mkF m 165 #[.val (.int pp1), .val (.int pp2), .val (.int pp3), .val (.int pp4), .val (.int pp5), .val (.int (3 : Int32)), .val (.int i0), .val (.int i1), .val (.int i2), .val (.int i3), .val (.ref b81), .val (.ref b88), .unset, .unset] [(.int i3), (.int i2), (.int i1), (.int i0), (.int (3 : Int32)), (.int pp3), (.int (1 : Int32)), (.int (if i2 = (1 : Int32) then (-1 : Int32) else (if i1 = (1 : Int32) then (-1 : Int32) else (if i0 = (1 : Int32) then (-1 : Int32) else pp3))))])) rfl (by rw [hml]; rfl) (argsL := [(.int (1 : Int32)), (.int pp3), (.int (3 : Int32)), (.int i0), (.int i1), (.int i2), (.int i3)]) (rest := [(.int (if i2 = (1 : Int32) then (-1 : Int32) else (if i1 = (1 : Int32) then (-1 : Int32) else (if i0 = (1 : Int32) then (-1 : Int32) else pp3))))]) (lenOf pd__28_IIIIIII_29_I rfl) rfl (by show 2 * 0 + _ ≤ _; exact Nat.le_of_eq rfl) (hb hby at_165) (fun _ _ => ⟨rfl, e101, (by decide : 2 + 0 ≤ _), (by decide : 7 + 0 ≤ _)⟩)
    dsimp only [Pt.U, Pt.locs, Pt.cells, Pt.slots] at X103 l103 y103 z103 st103 hQ103
    subst l103 y103 z103
    obtain ⟨rfl, N103q, e103⟩ := hQ103
    have N103 := Fr.app N101 N103q
    have hc168_4 : (if i2 = (1 : Int32) then (-1 : Int32) else (if i1 = (1 : Int32) then (-1 : Int32) else (if i0 = (1 : Int32) then (-1 : Int32) else pp3))) = (if i0 = (1 : Int32) then (-1 : Int32) else (if i1 = (1 : Int32) then (-1 : Int32) else (if i2 = (1 : Int32) then (-1 : Int32) else pp3))) := own_re3 _ _ _ _ _ 
    obtain ⟨cl_104, Ar_104, qq_104, Sz_104, Nn_104, Hh_104, Gg_104⟩ := id R98_0
    have hin_104 : ¬ ((2 : Int32) < 0 ∨ cl_104.slots.size ≤ ((2 : Int32)).toNatClampNeg) := inb_of Sz_104 ⟨by decide, by decide⟩
    have hat_104 : cl_104.slots[((2 : Int32)).toNatClampNeg]? = some (.int (if i2 = (2 : Int32) then (-1 : Int32) else (if i1 = (2 : Int32) then (-1 : Int32) else (if i0 = (2 : Int32) then (-1 : Int32) else pp4)))) := Has.at Hh_104 hin_104 (own_getset (by simp only [List.length_set]; rfl) h_i2 ⟨by decide, by decide⟩ (own_getset (by simp only [List.length_set]; rfl) h_i1 ⟨by decide, by decide⟩ (own_getset rfl h_i0 ⟨by decide, by decide⟩ rfl)))
    obtain ⟨_, _, ⟨T105, L105, k105, n105⟩, -, X105, ⟨Lc105, hQ105, l105, y105, z105⟩, st105⟩ := Jvm.LawKit.callS X103 hx (y := (⟨"com/example/splitgrain/splitgrain/parse/ChartItemsClearPlacesPinLaw", "expect", "(IIIIIII)I"⟩ : MethodName)) hown (mvT hZ (hw _ (List.mem_of_getElem? (i := 5) rfl))) (mvT hZ (hw _ (List.mem_of_getElem? (i := 6) rfl))) (mvT hZ (hw _ (List.mem_of_getElem? (i := 7) rfl))) (mvT hZ (hw _ (List.mem_of_getElem? (i := 8) rfl))) (by decide) (backOf (W := 1) (rm2_3 l Z a0 hw [] (2 : Int32) pp4 i0 i1 i2 i3 T98.heap n0 Z98 ) hZ (hw _ (List.mem_of_getElem? (i := 8) rfl)) (hw _ (List.mem_of_getElem? (i := 7) rfl)) (by decide) (by decide)) (g := (mkF m 187 #[.val (.int pp1), .val (.int pp2), .val (.int pp3), .val (.int pp4), .val (.int pp5), .val (.int (3 : Int32)), .val (.int i0), .val (.int i1), .val (.int i2), .val (.int i3), .val (.ref b81), .val (.ref b88), .unset, .unset] [(.int i3), (.int i2), (.int i1), (.int i0), (.int (3 : Int32)), (.int pp4), (.int (2 : Int32)), (.int (if i2 = (2 : Int32) then (-1 : Int32) else (if i1 = (2 : Int32) then (-1 : Int32) else (if i0 = (2 : Int32) then (-1 : Int32) else pp4))))])) rfl (by rw [hml]; rfl) (argsL := [(.int (2 : Int32)), (.int pp4), (.int (3 : Int32)), (.int i0), (.int i1), (.int i2), (.int i3)]) (rest := [(.int (if i2 = (2 : Int32) then (-1 : Int32) else (if i1 = (2 : Int32) then (-1 : Int32) else (if i0 = (2 : Int32) then (-1 : Int32) else pp4))))]) (lenOf pd__28_IIIIIII_29_I rfl) rfl (by show 2 * 0 + _ ≤ _; exact Nat.le_of_eq rfl) (hb hby at_187) (fun _ _ => ⟨rfl, e103, (by decide : 2 + 0 ≤ _), (by decide : 7 + 0 ≤ _)⟩)
    dsimp only [Pt.U, Pt.locs, Pt.cells, Pt.slots] at X105 l105 y105 z105 st105 hQ105
    subst l105 y105 z105
    obtain ⟨rfl, N105q, e105⟩ := hQ105
    have N105 := Fr.app N103 N105q
    have hc190_4 : (if i2 = (2 : Int32) then (-1 : Int32) else (if i1 = (2 : Int32) then (-1 : Int32) else (if i0 = (2 : Int32) then (-1 : Int32) else pp4))) = (if i0 = (2 : Int32) then (-1 : Int32) else (if i1 = (2 : Int32) then (-1 : Int32) else (if i2 = (2 : Int32) then (-1 : Int32) else pp4))) := own_re3 _ _ _ _ _ 
    obtain ⟨cl_106, Ar_106, qq_106, Sz_106, Nn_106, Hh_106, Gg_106⟩ := id R98_0
    have hin_106 : ¬ ((3 : Int32) < 0 ∨ cl_106.slots.size ≤ ((3 : Int32)).toNatClampNeg) := inb_of Sz_106 ⟨by decide, by decide⟩
    have hat_106 : cl_106.slots[((3 : Int32)).toNatClampNeg]? = some (.int (if i2 = (3 : Int32) then (-1 : Int32) else (if i1 = (3 : Int32) then (-1 : Int32) else (if i0 = (3 : Int32) then (-1 : Int32) else pp5)))) := Has.at Hh_106 hin_106 (own_getset (by simp only [List.length_set]; rfl) h_i2 ⟨by decide, by decide⟩ (own_getset (by simp only [List.length_set]; rfl) h_i1 ⟨by decide, by decide⟩ (own_getset rfl h_i0 ⟨by decide, by decide⟩ rfl)))
    obtain ⟨_, _, ⟨T107, L107, k107, n107⟩, -, X107, ⟨Lc107, hQ107, l107, y107, z107⟩, st107⟩ := Jvm.LawKit.callS X105 hx (y := (⟨"com/example/splitgrain/splitgrain/parse/ChartItemsClearPlacesPinLaw", "expect", "(IIIIIII)I"⟩ : MethodName)) hown (mvT hZ (hw _ (List.mem_of_getElem? (i := 5) rfl))) (mvT hZ (hw _ (List.mem_of_getElem? (i := 6) rfl))) (mvT hZ (hw _ (List.mem_of_getElem? (i := 7) rfl))) (mvT hZ (hw _ (List.mem_of_getElem? (i := 8) rfl))) (by decide) (backOf (W := 1) (rm2_3 l Z a0 hw [] (3 : Int32) pp5 i0 i1 i2 i3 T98.heap n0 Z98 ) hZ (hw _ (List.mem_of_getElem? (i := 8) rfl)) (hw _ (List.mem_of_getElem? (i := 7) rfl)) (by decide) (by decide)) (g := (mkF m 210 #[.val (.int pp1), .val (.int pp2), .val (.int pp3), .val (.int pp4), .val (.int pp5), .val (.int (3 : Int32)), .val (.int i0), .val (.int i1), .val (.int i2), .val (.int i3), .val (.ref b81), .val (.ref b88), .unset, .unset] [(.int i3), (.int i2), (.int i1), (.int i0), (.int (3 : Int32)), (.int pp5), (.int (3 : Int32)), (.int (if i2 = (3 : Int32) then (-1 : Int32) else (if i1 = (3 : Int32) then (-1 : Int32) else (if i0 = (3 : Int32) then (-1 : Int32) else pp5))))])) rfl (by rw [hml]; rfl) (argsL := [(.int (3 : Int32)), (.int pp5), (.int (3 : Int32)), (.int i0), (.int i1), (.int i2), (.int i3)]) (rest := [(.int (if i2 = (3 : Int32) then (-1 : Int32) else (if i1 = (3 : Int32) then (-1 : Int32) else (if i0 = (3 : Int32) then (-1 : Int32) else pp5))))]) (lenOf pd__28_IIIIIII_29_I rfl) rfl (by show 2 * 0 + _ ≤ _; exact Nat.le_of_eq rfl) (hb hby at_210) (fun _ _ => ⟨rfl, e105, (by decide : 2 + 0 ≤ _), (by decide : 7 + 0 ≤ _)⟩)
    dsimp only [Pt.U, Pt.locs, Pt.cells, Pt.slots] at X107 l107 y107 z107 st107 hQ107
    subst l107 y107 z107
    obtain ⟨rfl, N107q, e107⟩ := hQ107
    have N107 := Fr.app N105 N107q
    have hc213_4 : (if i2 = (3 : Int32) then (-1 : Int32) else (if i1 = (3 : Int32) then (-1 : Int32) else (if i0 = (3 : Int32) then (-1 : Int32) else pp5))) = (if i0 = (3 : Int32) then (-1 : Int32) else (if i1 = (3 : Int32) then (-1 : Int32) else (if i2 = (3 : Int32) then (-1 : Int32) else pp5))) := own_re3 _ _ _ _ _ 
    have V_108 : Arv Z T98.heap b81 k81 .int (3 : Int32) [(.int i0), (.int i1), (.int i2)] (.int (0 : Int32)) := (V_97.keep K98c (ninS (Nat.ne_of_lt (Nat.lt_of_lt_of_le V87.lt (Nat.le_of_eq g88.symm))) nin0))
    obtain ⟨cl_109, Ar_109, -, Sz_109, Nn_109, -, -⟩ := id V_108
    have hc228_4 : (3 : Int32) = (3 : Int32) := by decide
    have hc233_4 : (0 : Int32) < (3 : Int32) := by decide
    obtain ⟨cl_110, Ar_110, qq_110, Sz_110, Nn_110, Hh_110, Gg_110⟩ := id V_108
    have hin_110 : ¬ ((0 : Int32) < 0 ∨ cl_110.slots.size ≤ ((0 : Int32)).toNatClampNeg) := inb_of Sz_110 ⟨by decide, by decide⟩
    have hat_110 : cl_110.slots[((0 : Int32)).toNatClampNeg]? = some (.int i0) := Has.at Hh_110 hin_110 rfl
    have hc248_4 : (1 : Int32) < (3 : Int32) := by decide
    obtain ⟨cl_111, Ar_111, qq_111, Sz_111, Nn_111, Hh_111, Gg_111⟩ := id V_108
    have hin_111 : ¬ ((1 : Int32) < 0 ∨ cl_111.slots.size ≤ ((1 : Int32)).toNatClampNeg) := inb_of Sz_111 ⟨by decide, by decide⟩
    have hat_111 : cl_111.slots[((1 : Int32)).toNatClampNeg]? = some (.int i1) := Has.at Hh_111 hin_111 rfl
    have hc263_4 : (2 : Int32) < (3 : Int32) := by decide
    obtain ⟨cl_112, Ar_112, qq_112, Sz_112, Nn_112, Hh_112, Gg_112⟩ := id V_108
    have hin_112 : ¬ ((2 : Int32) < 0 ∨ cl_112.slots.size ≤ ((2 : Int32)).toNatClampNeg) := inb_of Sz_112 ⟨by decide, by decide⟩
    have hat_112 : cl_112.slots[((2 : Int32)).toNatClampNeg]? = some (.int i2) := Has.at Hh_112 hin_112 rfl
    have hc278_4 : ¬ ((3 : Int32) < (3 : Int32)) := by decide
    have hc299_4 : ¬ ((1 : Int32) = (0 : Int32)) := by decide
    have hc304_4 : ¬ ((1 : Int32) = (0 : Int32)) := by decide
    obtain ⟨fs, hr, hrun, hended, hW, hsame⟩ := X107.leave (v := some (.int (1 : Int32))) (fun h => by rw [Bd.returns] at h; cases h)
    refine ⟨_, _, pre2 _ ?_, hrun, hended, _, _, rfl, ?_, ⟨_, rfl⟩, hW, hsame.mono (by decide) (by decide)⟩
    · show Steps p.tables e below (s₁.setTop (mkF m 38 #[.val (.int pp1), .val (.int pp2), .val (.int pp3), .val (.int pp4), .val (.int pp5), .val (.int (3 : Int32)), .val (.int i0), .val (.int i1), .val (.int i2), .val (.int i3), .unset, .unset, .unset, .unset] [])) _
      refine XS.iload X0.here hx rfl (hb hby at_38) rfl ?_
      show Steps p.tables e below (s₁.setTop (mkF m 40 #[.val (.int pp1), .val (.int pp2), .val (.int pp3), .val (.int pp4), .val (.int pp5), .val (.int (3 : Int32)), .val (.int i0), .val (.int i1), .val (.int i2), .val (.int i3), .unset, .unset, .unset, .unset] [(.int (3 : Int32))])) _
      refine st81 _ ?_
      show Steps p.tables e below (T81.setTop (mkF m 42 #[.val (.int pp1), .val (.int pp2), .val (.int pp3), .val (.int pp4), .val (.int pp5), .val (.int (3 : Int32)), .val (.int i0), .val (.int i1), .val (.int i2), .val (.int i3), .unset, .unset, .unset, .unset] [(.ref b81)])) _
      refine XS.astore X81.here hx rfl (hb hby at_42) rfl rfl (l' := #[.val (.int pp1), .val (.int pp2), .val (.int pp3), .val (.int pp4), .val (.int pp5), .val (.int (3 : Int32)), .val (.int i0), .val (.int i1), .val (.int i2), .val (.int i3), .val (.ref b81), .unset, .unset, .unset]) rfl ?_
      show Steps p.tables e below (T81.setTop (mkF m 44 #[.val (.int pp1), .val (.int pp2), .val (.int pp3), .val (.int pp4), .val (.int pp5), .val (.int (3 : Int32)), .val (.int i0), .val (.int i1), .val (.int i2), .val (.int i3), .val (.ref b81), .unset, .unset, .unset] [])) _
      refine XS.iload X81.here hx rfl (hb hby at_44) rfl ?_
      show Steps p.tables e below (T81.setTop (mkF m 46 #[.val (.int pp1), .val (.int pp2), .val (.int pp3), .val (.int pp4), .val (.int pp5), .val (.int (3 : Int32)), .val (.int i0), .val (.int i1), .val (.int i2), .val (.int i3), .val (.ref b81), .unset, .unset, .unset] [(.int (3 : Int32))])) _
      refine XS.ifNo X81.here hx rfl (hb hby at_46) rfl ((if0 _ _).trans (tlt hc46_4).2.2.2) ?_
      show Steps p.tables e below (T81.setTop (mkF m 49 #[.val (.int pp1), .val (.int pp2), .val (.int pp3), .val (.int pp4), .val (.int pp5), .val (.int (3 : Int32)), .val (.int i0), .val (.int i1), .val (.int i2), .val (.int i3), .val (.ref b81), .unset, .unset, .unset] [])) _
      refine XS.aload X81.here hx rfl (hb hby at_49) rfl rfl ?_
      show Steps p.tables e below (T81.setTop (mkF m 51 #[.val (.int pp1), .val (.int pp2), .val (.int pp3), .val (.int pp4), .val (.int pp5), .val (.int (3 : Int32)), .val (.int i0), .val (.int i1), .val (.int i2), .val (.int i3), .val (.ref b81), .unset, .unset, .unset] [(.ref b81)])) _
      refine XS.iconst X81.here hx rfl (hb hby at_51) ?_
      show Steps p.tables e below (T81.setTop (mkF m 52 #[.val (.int pp1), .val (.int pp2), .val (.int pp3), .val (.int pp4), .val (.int pp5), .val (.int (3 : Int32)), .val (.int i0), .val (.int i1), .val (.int i2), .val (.int i3), .val (.ref b81), .unset, .unset, .unset] [(.int (0 : Int32)), (.ref b81)])) _
      refine XS.iload X81.here hx rfl (hb hby at_52) rfl ?_
      show Steps p.tables e below (T81.setTop (mkF m 54 #[.val (.int pp1), .val (.int pp2), .val (.int pp3), .val (.int pp4), .val (.int pp5), .val (.int (3 : Int32)), .val (.int i0), .val (.int i1), .val (.int i2), .val (.int i3), .val (.ref b81), .unset, .unset, .unset] [(.int i0), (.int (0 : Int32)), (.ref b81)])) _
      refine st83 _ ?_
      show Steps p.tables e below (T83.setTop (mkF m 55 #[.val (.int pp1), .val (.int pp2), .val (.int pp3), .val (.int pp4), .val (.int pp5), .val (.int (3 : Int32)), .val (.int i0), .val (.int i1), .val (.int i2), .val (.int i3), .val (.ref b81), .unset, .unset, .unset] [])) _
      refine XS.iload X83.here hx rfl (hb hby at_55) rfl ?_
      show Steps p.tables e below (T83.setTop (mkF m 57 #[.val (.int pp1), .val (.int pp2), .val (.int pp3), .val (.int pp4), .val (.int pp5), .val (.int (3 : Int32)), .val (.int i0), .val (.int i1), .val (.int i2), .val (.int i3), .val (.ref b81), .unset, .unset, .unset] [(.int (3 : Int32))])) _
      refine XS.iconst X83.here hx rfl (hb hby at_57) ?_
      show Steps p.tables e below (T83.setTop (mkF m 58 #[.val (.int pp1), .val (.int pp2), .val (.int pp3), .val (.int pp4), .val (.int pp5), .val (.int (3 : Int32)), .val (.int i0), .val (.int i1), .val (.int i2), .val (.int i3), .val (.ref b81), .unset, .unset, .unset] [(.int (1 : Int32)), (.int (3 : Int32))])) _
      refine XS.icmpNo X83.here hx rfl (hb hby at_58) rfl (tlt hc58_4).2.2.2 ?_
      show Steps p.tables e below (T83.setTop (mkF m 61 #[.val (.int pp1), .val (.int pp2), .val (.int pp3), .val (.int pp4), .val (.int pp5), .val (.int (3 : Int32)), .val (.int i0), .val (.int i1), .val (.int i2), .val (.int i3), .val (.ref b81), .unset, .unset, .unset] [])) _
      refine XS.aload X83.here hx rfl (hb hby at_61) rfl rfl ?_
      show Steps p.tables e below (T83.setTop (mkF m 63 #[.val (.int pp1), .val (.int pp2), .val (.int pp3), .val (.int pp4), .val (.int pp5), .val (.int (3 : Int32)), .val (.int i0), .val (.int i1), .val (.int i2), .val (.int i3), .val (.ref b81), .unset, .unset, .unset] [(.ref b81)])) _
      refine XS.iconst X83.here hx rfl (hb hby at_63) ?_
      show Steps p.tables e below (T83.setTop (mkF m 64 #[.val (.int pp1), .val (.int pp2), .val (.int pp3), .val (.int pp4), .val (.int pp5), .val (.int (3 : Int32)), .val (.int i0), .val (.int i1), .val (.int i2), .val (.int i3), .val (.ref b81), .unset, .unset, .unset] [(.int (1 : Int32)), (.ref b81)])) _
      refine XS.iload X83.here hx rfl (hb hby at_64) rfl ?_
      show Steps p.tables e below (T83.setTop (mkF m 66 #[.val (.int pp1), .val (.int pp2), .val (.int pp3), .val (.int pp4), .val (.int pp5), .val (.int (3 : Int32)), .val (.int i0), .val (.int i1), .val (.int i2), .val (.int i3), .val (.ref b81), .unset, .unset, .unset] [(.int i1), (.int (1 : Int32)), (.ref b81)])) _
      refine st85 _ ?_
      show Steps p.tables e below (T85.setTop (mkF m 67 #[.val (.int pp1), .val (.int pp2), .val (.int pp3), .val (.int pp4), .val (.int pp5), .val (.int (3 : Int32)), .val (.int i0), .val (.int i1), .val (.int i2), .val (.int i3), .val (.ref b81), .unset, .unset, .unset] [])) _
      refine XS.iload X85.here hx rfl (hb hby at_67) rfl ?_
      show Steps p.tables e below (T85.setTop (mkF m 69 #[.val (.int pp1), .val (.int pp2), .val (.int pp3), .val (.int pp4), .val (.int pp5), .val (.int (3 : Int32)), .val (.int i0), .val (.int i1), .val (.int i2), .val (.int i3), .val (.ref b81), .unset, .unset, .unset] [(.int (3 : Int32))])) _
      refine XS.iconst X85.here hx rfl (hb hby at_69) ?_
      show Steps p.tables e below (T85.setTop (mkF m 70 #[.val (.int pp1), .val (.int pp2), .val (.int pp3), .val (.int pp4), .val (.int pp5), .val (.int (3 : Int32)), .val (.int i0), .val (.int i1), .val (.int i2), .val (.int i3), .val (.ref b81), .unset, .unset, .unset] [(.int (2 : Int32)), (.int (3 : Int32))])) _
      refine XS.icmpNo X85.here hx rfl (hb hby at_70) rfl (tlt hc70_4).2.2.2 ?_
      show Steps p.tables e below (T85.setTop (mkF m 73 #[.val (.int pp1), .val (.int pp2), .val (.int pp3), .val (.int pp4), .val (.int pp5), .val (.int (3 : Int32)), .val (.int i0), .val (.int i1), .val (.int i2), .val (.int i3), .val (.ref b81), .unset, .unset, .unset] [])) _
      refine XS.aload X85.here hx rfl (hb hby at_73) rfl rfl ?_
      show Steps p.tables e below (T85.setTop (mkF m 75 #[.val (.int pp1), .val (.int pp2), .val (.int pp3), .val (.int pp4), .val (.int pp5), .val (.int (3 : Int32)), .val (.int i0), .val (.int i1), .val (.int i2), .val (.int i3), .val (.ref b81), .unset, .unset, .unset] [(.ref b81)])) _
      refine XS.iconst X85.here hx rfl (hb hby at_75) ?_
      show Steps p.tables e below (T85.setTop (mkF m 76 #[.val (.int pp1), .val (.int pp2), .val (.int pp3), .val (.int pp4), .val (.int pp5), .val (.int (3 : Int32)), .val (.int i0), .val (.int i1), .val (.int i2), .val (.int i3), .val (.ref b81), .unset, .unset, .unset] [(.int (2 : Int32)), (.ref b81)])) _
      refine XS.iload X85.here hx rfl (hb hby at_76) rfl ?_
      show Steps p.tables e below (T85.setTop (mkF m 78 #[.val (.int pp1), .val (.int pp2), .val (.int pp3), .val (.int pp4), .val (.int pp5), .val (.int (3 : Int32)), .val (.int i0), .val (.int i1), .val (.int i2), .val (.int i3), .val (.ref b81), .unset, .unset, .unset] [(.int i2), (.int (2 : Int32)), (.ref b81)])) _
      refine st87 _ ?_
      show Steps p.tables e below (T87.setTop (mkF m 79 #[.val (.int pp1), .val (.int pp2), .val (.int pp3), .val (.int pp4), .val (.int pp5), .val (.int (3 : Int32)), .val (.int i0), .val (.int i1), .val (.int i2), .val (.int i3), .val (.ref b81), .unset, .unset, .unset] [])) _
      refine XS.iload X87.here hx rfl (hb hby at_79) rfl ?_
      show Steps p.tables e below (T87.setTop (mkF m 81 #[.val (.int pp1), .val (.int pp2), .val (.int pp3), .val (.int pp4), .val (.int pp5), .val (.int (3 : Int32)), .val (.int i0), .val (.int i1), .val (.int i2), .val (.int i3), .val (.ref b81), .unset, .unset, .unset] [(.int (3 : Int32))])) _
      refine XS.iconst X87.here hx rfl (hb hby at_81) ?_
      show Steps p.tables e below (T87.setTop (mkF m 82 #[.val (.int pp1), .val (.int pp2), .val (.int pp3), .val (.int pp4), .val (.int pp5), .val (.int (3 : Int32)), .val (.int i0), .val (.int i1), .val (.int i2), .val (.int i3), .val (.ref b81), .unset, .unset, .unset] [(.int (3 : Int32)), (.int (3 : Int32))])) _
      refine XS.icmpYes X87.here hx rfl (pc0 := 82) (pc' := 91) rfl (hb hby at_82) rfl (flt hc82_4).2.2.2 (by decide) (by decide) ?_
      show Steps p.tables e below (T87.setTop (mkF m 91 #[.val (.int pp1), .val (.int pp2), .val (.int pp3), .val (.int pp4), .val (.int pp5), .val (.int (3 : Int32)), .val (.int i0), .val (.int i1), .val (.int i2), .val (.int i3), .val (.ref b81), .unset, .unset, .unset] [])) _
      refine XS.iconst X87.here hx rfl (hb hby at_91) ?_
      show Steps p.tables e below (T87.setTop (mkF m 92 #[.val (.int pp1), .val (.int pp2), .val (.int pp3), .val (.int pp4), .val (.int pp5), .val (.int (3 : Int32)), .val (.int i0), .val (.int i1), .val (.int i2), .val (.int i3), .val (.ref b81), .unset, .unset, .unset] [(.int (4 : Int32))])) _
      refine st88 _ ?_
      show Steps p.tables e below (T88.setTop (mkF m 94 #[.val (.int pp1), .val (.int pp2), .val (.int pp3), .val (.int pp4), .val (.int pp5), .val (.int (3 : Int32)), .val (.int i0), .val (.int i1), .val (.int i2), .val (.int i3), .val (.ref b81), .unset, .unset, .unset] [(.ref b88)])) _
      refine XS.dup X88.here hx rfl (hb hby at_94) rfl rfl ?_
      show Steps p.tables e below (T88.setTop (mkF m 95 #[.val (.int pp1), .val (.int pp2), .val (.int pp3), .val (.int pp4), .val (.int pp5), .val (.int (3 : Int32)), .val (.int i0), .val (.int i1), .val (.int i2), .val (.int i3), .val (.ref b81), .unset, .unset, .unset] [(.ref b88), (.ref b88)])) _
      refine XS.iconst X88.here hx rfl (hb hby at_95) ?_
      show Steps p.tables e below (T88.setTop (mkF m 96 #[.val (.int pp1), .val (.int pp2), .val (.int pp3), .val (.int pp4), .val (.int pp5), .val (.int (3 : Int32)), .val (.int i0), .val (.int i1), .val (.int i2), .val (.int i3), .val (.ref b81), .unset, .unset, .unset] [(.int (0 : Int32)), (.ref b88), (.ref b88)])) _
      refine XS.iloadN X88.here hx rfl (hb hby at_96) rfl ?_
      show Steps p.tables e below (T88.setTop (mkF m 97 #[.val (.int pp1), .val (.int pp2), .val (.int pp3), .val (.int pp4), .val (.int pp5), .val (.int (3 : Int32)), .val (.int i0), .val (.int i1), .val (.int i2), .val (.int i3), .val (.ref b81), .unset, .unset, .unset] [(.int pp2), (.int (0 : Int32)), (.ref b88), (.ref b88)])) _
      refine st90 _ ?_
      show Steps p.tables e below (T90.setTop (mkF m 98 #[.val (.int pp1), .val (.int pp2), .val (.int pp3), .val (.int pp4), .val (.int pp5), .val (.int (3 : Int32)), .val (.int i0), .val (.int i1), .val (.int i2), .val (.int i3), .val (.ref b81), .unset, .unset, .unset] [(.ref b88)])) _
      refine XS.dup X90.here hx rfl (hb hby at_98) rfl rfl ?_
      show Steps p.tables e below (T90.setTop (mkF m 99 #[.val (.int pp1), .val (.int pp2), .val (.int pp3), .val (.int pp4), .val (.int pp5), .val (.int (3 : Int32)), .val (.int i0), .val (.int i1), .val (.int i2), .val (.int i3), .val (.ref b81), .unset, .unset, .unset] [(.ref b88), (.ref b88)])) _
      refine XS.iconst X90.here hx rfl (hb hby at_99) ?_
      show Steps p.tables e below (T90.setTop (mkF m 100 #[.val (.int pp1), .val (.int pp2), .val (.int pp3), .val (.int pp4), .val (.int pp5), .val (.int (3 : Int32)), .val (.int i0), .val (.int i1), .val (.int i2), .val (.int i3), .val (.ref b81), .unset, .unset, .unset] [(.int (1 : Int32)), (.ref b88), (.ref b88)])) _
      refine XS.iloadN X90.here hx rfl (hb hby at_100) rfl ?_
      show Steps p.tables e below (T90.setTop (mkF m 101 #[.val (.int pp1), .val (.int pp2), .val (.int pp3), .val (.int pp4), .val (.int pp5), .val (.int (3 : Int32)), .val (.int i0), .val (.int i1), .val (.int i2), .val (.int i3), .val (.ref b81), .unset, .unset, .unset] [(.int pp3), (.int (1 : Int32)), (.ref b88), (.ref b88)])) _
      refine st92 _ ?_
      show Steps p.tables e below (T92.setTop (mkF m 102 #[.val (.int pp1), .val (.int pp2), .val (.int pp3), .val (.int pp4), .val (.int pp5), .val (.int (3 : Int32)), .val (.int i0), .val (.int i1), .val (.int i2), .val (.int i3), .val (.ref b81), .unset, .unset, .unset] [(.ref b88)])) _
      refine XS.dup X92.here hx rfl (hb hby at_102) rfl rfl ?_
      show Steps p.tables e below (T92.setTop (mkF m 103 #[.val (.int pp1), .val (.int pp2), .val (.int pp3), .val (.int pp4), .val (.int pp5), .val (.int (3 : Int32)), .val (.int i0), .val (.int i1), .val (.int i2), .val (.int i3), .val (.ref b81), .unset, .unset, .unset] [(.ref b88), (.ref b88)])) _
      refine XS.iconst X92.here hx rfl (hb hby at_103) ?_
      show Steps p.tables e below (T92.setTop (mkF m 104 #[.val (.int pp1), .val (.int pp2), .val (.int pp3), .val (.int pp4), .val (.int pp5), .val (.int (3 : Int32)), .val (.int i0), .val (.int i1), .val (.int i2), .val (.int i3), .val (.ref b81), .unset, .unset, .unset] [(.int (2 : Int32)), (.ref b88), (.ref b88)])) _
      refine XS.iloadN X92.here hx rfl (hb hby at_104) rfl ?_
      show Steps p.tables e below (T92.setTop (mkF m 105 #[.val (.int pp1), .val (.int pp2), .val (.int pp3), .val (.int pp4), .val (.int pp5), .val (.int (3 : Int32)), .val (.int i0), .val (.int i1), .val (.int i2), .val (.int i3), .val (.ref b81), .unset, .unset, .unset] [(.int pp4), (.int (2 : Int32)), (.ref b88), (.ref b88)])) _
      refine st94 _ ?_
      show Steps p.tables e below (T94.setTop (mkF m 106 #[.val (.int pp1), .val (.int pp2), .val (.int pp3), .val (.int pp4), .val (.int pp5), .val (.int (3 : Int32)), .val (.int i0), .val (.int i1), .val (.int i2), .val (.int i3), .val (.ref b81), .unset, .unset, .unset] [(.ref b88)])) _
      refine XS.dup X94.here hx rfl (hb hby at_106) rfl rfl ?_
      show Steps p.tables e below (T94.setTop (mkF m 107 #[.val (.int pp1), .val (.int pp2), .val (.int pp3), .val (.int pp4), .val (.int pp5), .val (.int (3 : Int32)), .val (.int i0), .val (.int i1), .val (.int i2), .val (.int i3), .val (.ref b81), .unset, .unset, .unset] [(.ref b88), (.ref b88)])) _
      refine XS.iconst X94.here hx rfl (hb hby at_107) ?_
      show Steps p.tables e below (T94.setTop (mkF m 108 #[.val (.int pp1), .val (.int pp2), .val (.int pp3), .val (.int pp4), .val (.int pp5), .val (.int (3 : Int32)), .val (.int i0), .val (.int i1), .val (.int i2), .val (.int i3), .val (.ref b81), .unset, .unset, .unset] [(.int (3 : Int32)), (.ref b88), (.ref b88)])) _
      refine XS.iload X94.here hx rfl (hb hby at_108) rfl ?_
      show Steps p.tables e below (T94.setTop (mkF m 110 #[.val (.int pp1), .val (.int pp2), .val (.int pp3), .val (.int pp4), .val (.int pp5), .val (.int (3 : Int32)), .val (.int i0), .val (.int i1), .val (.int i2), .val (.int i3), .val (.ref b81), .unset, .unset, .unset] [(.int pp5), (.int (3 : Int32)), (.ref b88), (.ref b88)])) _
      refine st96 _ ?_
      show Steps p.tables e below (T96.setTop (mkF m 111 #[.val (.int pp1), .val (.int pp2), .val (.int pp3), .val (.int pp4), .val (.int pp5), .val (.int (3 : Int32)), .val (.int i0), .val (.int i1), .val (.int i2), .val (.int i3), .val (.ref b81), .unset, .unset, .unset] [(.ref b88)])) _
      refine XS.astore X96.here hx rfl (hb hby at_111) rfl rfl (l' := #[.val (.int pp1), .val (.int pp2), .val (.int pp3), .val (.int pp4), .val (.int pp5), .val (.int (3 : Int32)), .val (.int i0), .val (.int i1), .val (.int i2), .val (.int i3), .val (.ref b81), .val (.ref b88), .unset, .unset]) rfl ?_
      show Steps p.tables e below (T96.setTop (mkF m 113 #[.val (.int pp1), .val (.int pp2), .val (.int pp3), .val (.int pp4), .val (.int pp5), .val (.int (3 : Int32)), .val (.int i0), .val (.int i1), .val (.int i2), .val (.int i3), .val (.ref b81), .val (.ref b88), .unset, .unset] [])) _
      refine XS.aload X96.here hx rfl (hb hby at_113) rfl rfl ?_
      show Steps p.tables e below (T96.setTop (mkF m 115 #[.val (.int pp1), .val (.int pp2), .val (.int pp3), .val (.int pp4), .val (.int pp5), .val (.int (3 : Int32)), .val (.int i0), .val (.int i1), .val (.int i2), .val (.int i3), .val (.ref b81), .val (.ref b88), .unset, .unset] [(.ref b81)])) _
      refine XS.aload X96.here hx rfl (hb hby at_115) rfl rfl ?_
      show Steps p.tables e below (T96.setTop (mkF m 117 #[.val (.int pp1), .val (.int pp2), .val (.int pp3), .val (.int pp4), .val (.int pp5), .val (.int (3 : Int32)), .val (.int i0), .val (.int i1), .val (.int i2), .val (.int i3), .val (.ref b81), .val (.ref b88), .unset, .unset] [(.ref b88), (.ref b81)])) _
      refine st98 _ ?_
      show Steps p.tables e below (T98.setTop (mkF m 120 #[.val (.int pp1), .val (.int pp2), .val (.int pp3), .val (.int pp4), .val (.int pp5), .val (.int (3 : Int32)), .val (.int i0), .val (.int i1), .val (.int i2), .val (.int i3), .val (.ref b81), .val (.ref b88), .unset, .unset] [])) _
      refine XS.aload X98.here hx rfl (hb hby at_120) rfl rfl ?_
      show Steps p.tables e below (T98.setTop (mkF m 122 #[.val (.int pp1), .val (.int pp2), .val (.int pp3), .val (.int pp4), .val (.int pp5), .val (.int (3 : Int32)), .val (.int i0), .val (.int i1), .val (.int i2), .val (.int i3), .val (.ref b81), .val (.ref b88), .unset, .unset] [(.ref b88)])) _
      refine X98.arraylength hx (Ar_99.1) (State.isArrayOf_alike hZ.alike Ar_99.2.1) (g := (mkF m 122 #[.val (.int pp1), .val (.int pp2), .val (.int pp3), .val (.int pp4), .val (.int pp5), .val (.int (3 : Int32)), .val (.int i0), .val (.int i1), .val (.int i2), .val (.int i3), .val (.ref b81), .val (.ref b88), .unset, .unset] [(.ref b88)])) rfl rfl (hb hby at_122) _ ?_
      rw [len_of Sz_99 Nn_99]
      show Steps p.tables e below (T98.setTop (mkF m 123 #[.val (.int pp1), .val (.int pp2), .val (.int pp3), .val (.int pp4), .val (.int pp5), .val (.int (3 : Int32)), .val (.int i0), .val (.int i1), .val (.int i2), .val (.int i3), .val (.ref b81), .val (.ref b88), .unset, .unset] [(.int (4 : Int32))])) _
      refine XS.iconst X98.here hx rfl (hb hby at_123) ?_
      show Steps p.tables e below (T98.setTop (mkF m 124 #[.val (.int pp1), .val (.int pp2), .val (.int pp3), .val (.int pp4), .val (.int pp5), .val (.int (3 : Int32)), .val (.int i0), .val (.int i1), .val (.int i2), .val (.int i3), .val (.ref b81), .val (.ref b88), .unset, .unset] [(.int (4 : Int32)), (.int (4 : Int32))])) _
      refine XS.icmpNo X98.here hx rfl (hb hby at_124) rfl (teq hc124_4).2 ?_
      show Steps p.tables e below (T98.setTop (mkF m 127 #[.val (.int pp1), .val (.int pp2), .val (.int pp3), .val (.int pp4), .val (.int pp5), .val (.int (3 : Int32)), .val (.int i0), .val (.int i1), .val (.int i2), .val (.int i3), .val (.ref b81), .val (.ref b88), .unset, .unset] [])) _
      refine XS.aload X98.here hx rfl (hb hby at_127) rfl rfl ?_
      show Steps p.tables e below (T98.setTop (mkF m 129 #[.val (.int pp1), .val (.int pp2), .val (.int pp3), .val (.int pp4), .val (.int pp5), .val (.int (3 : Int32)), .val (.int i0), .val (.int i1), .val (.int i2), .val (.int i3), .val (.ref b81), .val (.ref b88), .unset, .unset] [(.ref b88)])) _
      refine XS.iconst X98.here hx rfl (hb hby at_129) ?_
      show Steps p.tables e below (T98.setTop (mkF m 130 #[.val (.int pp1), .val (.int pp2), .val (.int pp3), .val (.int pp4), .val (.int pp5), .val (.int (3 : Int32)), .val (.int i0), .val (.int i1), .val (.int i2), .val (.int i3), .val (.ref b81), .val (.ref b88), .unset, .unset] [(.int (0 : Int32)), (.ref b88)])) _
      refine X98.iaload hx (j := (0 : Int32)) (v := (.int (if i2 = (0 : Int32) then (-1 : Int32) else (if i1 = (0 : Int32) then (-1 : Int32) else (if i0 = (0 : Int32) then (-1 : Int32) else pp2))))) (Ar_100.1) (State.isArrayOf_alike hZ.alike Ar_100.2.1) Ar_100.2.2 hin_100 hat_100 (g := (mkF m 130 #[.val (.int pp1), .val (.int pp2), .val (.int pp3), .val (.int pp4), .val (.int pp5), .val (.int (3 : Int32)), .val (.int i0), .val (.int i1), .val (.int i2), .val (.int i3), .val (.ref b81), .val (.ref b88), .unset, .unset] [(.int (0 : Int32)), (.ref b88)])) rfl rfl (hb hby at_130) _ ?_
      show Steps p.tables e below (T98.setTop (mkF m 131 #[.val (.int pp1), .val (.int pp2), .val (.int pp3), .val (.int pp4), .val (.int pp5), .val (.int (3 : Int32)), .val (.int i0), .val (.int i1), .val (.int i2), .val (.int i3), .val (.ref b81), .val (.ref b88), .unset, .unset] [(.int (if i2 = (0 : Int32) then (-1 : Int32) else (if i1 = (0 : Int32) then (-1 : Int32) else (if i0 = (0 : Int32) then (-1 : Int32) else pp2))))])) _
      refine XS.iconst X98.here hx rfl (hb hby at_131) ?_
      show Steps p.tables e below (T98.setTop (mkF m 132 #[.val (.int pp1), .val (.int pp2), .val (.int pp3), .val (.int pp4), .val (.int pp5), .val (.int (3 : Int32)), .val (.int i0), .val (.int i1), .val (.int i2), .val (.int i3), .val (.ref b81), .val (.ref b88), .unset, .unset] [(.int (0 : Int32)), (.int (if i2 = (0 : Int32) then (-1 : Int32) else (if i1 = (0 : Int32) then (-1 : Int32) else (if i0 = (0 : Int32) then (-1 : Int32) else pp2))))])) _
      refine XS.iloadN X98.here hx rfl (hb hby at_132) rfl ?_
      show Steps p.tables e below (T98.setTop (mkF m 133 #[.val (.int pp1), .val (.int pp2), .val (.int pp3), .val (.int pp4), .val (.int pp5), .val (.int (3 : Int32)), .val (.int i0), .val (.int i1), .val (.int i2), .val (.int i3), .val (.ref b81), .val (.ref b88), .unset, .unset] [(.int pp2), (.int (0 : Int32)), (.int (if i2 = (0 : Int32) then (-1 : Int32) else (if i1 = (0 : Int32) then (-1 : Int32) else (if i0 = (0 : Int32) then (-1 : Int32) else pp2))))])) _
      refine XS.iload X98.here hx rfl (hb hby at_133) rfl ?_
      show Steps p.tables e below (T98.setTop (mkF m 135 #[.val (.int pp1), .val (.int pp2), .val (.int pp3), .val (.int pp4), .val (.int pp5), .val (.int (3 : Int32)), .val (.int i0), .val (.int i1), .val (.int i2), .val (.int i3), .val (.ref b81), .val (.ref b88), .unset, .unset] [(.int (3 : Int32)), (.int pp2), (.int (0 : Int32)), (.int (if i2 = (0 : Int32) then (-1 : Int32) else (if i1 = (0 : Int32) then (-1 : Int32) else (if i0 = (0 : Int32) then (-1 : Int32) else pp2))))])) _
      refine XS.iload X98.here hx rfl (hb hby at_135) rfl ?_
      show Steps p.tables e below (T98.setTop (mkF m 137 #[.val (.int pp1), .val (.int pp2), .val (.int pp3), .val (.int pp4), .val (.int pp5), .val (.int (3 : Int32)), .val (.int i0), .val (.int i1), .val (.int i2), .val (.int i3), .val (.ref b81), .val (.ref b88), .unset, .unset] [(.int i0), (.int (3 : Int32)), (.int pp2), (.int (0 : Int32)), (.int (if i2 = (0 : Int32) then (-1 : Int32) else (if i1 = (0 : Int32) then (-1 : Int32) else (if i0 = (0 : Int32) then (-1 : Int32) else pp2))))])) _
      refine XS.iload X98.here hx rfl (hb hby at_137) rfl ?_
      show Steps p.tables e below (T98.setTop (mkF m 139 #[.val (.int pp1), .val (.int pp2), .val (.int pp3), .val (.int pp4), .val (.int pp5), .val (.int (3 : Int32)), .val (.int i0), .val (.int i1), .val (.int i2), .val (.int i3), .val (.ref b81), .val (.ref b88), .unset, .unset] [(.int i1), (.int i0), (.int (3 : Int32)), (.int pp2), (.int (0 : Int32)), (.int (if i2 = (0 : Int32) then (-1 : Int32) else (if i1 = (0 : Int32) then (-1 : Int32) else (if i0 = (0 : Int32) then (-1 : Int32) else pp2))))])) _
      refine XS.iload X98.here hx rfl (hb hby at_139) rfl ?_
      show Steps p.tables e below (T98.setTop (mkF m 141 #[.val (.int pp1), .val (.int pp2), .val (.int pp3), .val (.int pp4), .val (.int pp5), .val (.int (3 : Int32)), .val (.int i0), .val (.int i1), .val (.int i2), .val (.int i3), .val (.ref b81), .val (.ref b88), .unset, .unset] [(.int i2), (.int i1), (.int i0), (.int (3 : Int32)), (.int pp2), (.int (0 : Int32)), (.int (if i2 = (0 : Int32) then (-1 : Int32) else (if i1 = (0 : Int32) then (-1 : Int32) else (if i0 = (0 : Int32) then (-1 : Int32) else pp2))))])) _
      refine XS.iload X98.here hx rfl (hb hby at_141) rfl ?_
      show Steps p.tables e below (T98.setTop (mkF m 143 #[.val (.int pp1), .val (.int pp2), .val (.int pp3), .val (.int pp4), .val (.int pp5), .val (.int (3 : Int32)), .val (.int i0), .val (.int i1), .val (.int i2), .val (.int i3), .val (.ref b81), .val (.ref b88), .unset, .unset] [(.int i3), (.int i2), (.int i1), (.int i0), (.int (3 : Int32)), (.int pp2), (.int (0 : Int32)), (.int (if i2 = (0 : Int32) then (-1 : Int32) else (if i1 = (0 : Int32) then (-1 : Int32) else (if i0 = (0 : Int32) then (-1 : Int32) else pp2))))])) _
      refine st101 _ ?_
      show Steps p.tables e below (T101.setTop (mkF m 146 #[.val (.int pp1), .val (.int pp2), .val (.int pp3), .val (.int pp4), .val (.int pp5), .val (.int (3 : Int32)), .val (.int i0), .val (.int i1), .val (.int i2), .val (.int i3), .val (.ref b81), .val (.ref b88), .unset, .unset] [(.int (if i0 = (0 : Int32) then (-1 : Int32) else (if i1 = (0 : Int32) then (-1 : Int32) else (if i2 = (0 : Int32) then (-1 : Int32) else pp2)))), (.int (if i2 = (0 : Int32) then (-1 : Int32) else (if i1 = (0 : Int32) then (-1 : Int32) else (if i0 = (0 : Int32) then (-1 : Int32) else pp2))))])) _
      refine XS.icmpNo X101.here hx rfl (hb hby at_146) rfl (teq hc146_4).2 ?_
      show Steps p.tables e below (T101.setTop (mkF m 149 #[.val (.int pp1), .val (.int pp2), .val (.int pp3), .val (.int pp4), .val (.int pp5), .val (.int (3 : Int32)), .val (.int i0), .val (.int i1), .val (.int i2), .val (.int i3), .val (.ref b81), .val (.ref b88), .unset, .unset] [])) _
      refine XS.aload X101.here hx rfl (hb hby at_149) rfl rfl ?_
      show Steps p.tables e below (T101.setTop (mkF m 151 #[.val (.int pp1), .val (.int pp2), .val (.int pp3), .val (.int pp4), .val (.int pp5), .val (.int (3 : Int32)), .val (.int i0), .val (.int i1), .val (.int i2), .val (.int i3), .val (.ref b81), .val (.ref b88), .unset, .unset] [(.ref b88)])) _
      refine XS.iconst X101.here hx rfl (hb hby at_151) ?_
      show Steps p.tables e below (T101.setTop (mkF m 152 #[.val (.int pp1), .val (.int pp2), .val (.int pp3), .val (.int pp4), .val (.int pp5), .val (.int (3 : Int32)), .val (.int i0), .val (.int i1), .val (.int i2), .val (.int i3), .val (.ref b81), .val (.ref b88), .unset, .unset] [(.int (1 : Int32)), (.ref b88)])) _
      refine X101.iaload hx (j := (1 : Int32)) (v := (.int (if i2 = (1 : Int32) then (-1 : Int32) else (if i1 = (1 : Int32) then (-1 : Int32) else (if i0 = (1 : Int32) then (-1 : Int32) else pp3))))) (by rw [e101]; exact Ar_102.1) (State.isArrayOf_alike hZ.alike Ar_102.2.1) Ar_102.2.2 hin_102 hat_102 (g := (mkF m 152 #[.val (.int pp1), .val (.int pp2), .val (.int pp3), .val (.int pp4), .val (.int pp5), .val (.int (3 : Int32)), .val (.int i0), .val (.int i1), .val (.int i2), .val (.int i3), .val (.ref b81), .val (.ref b88), .unset, .unset] [(.int (1 : Int32)), (.ref b88)])) rfl rfl (hb hby at_152) _ ?_
      show Steps p.tables e below (T101.setTop (mkF m 153 #[.val (.int pp1), .val (.int pp2), .val (.int pp3), .val (.int pp4), .val (.int pp5), .val (.int (3 : Int32)), .val (.int i0), .val (.int i1), .val (.int i2), .val (.int i3), .val (.ref b81), .val (.ref b88), .unset, .unset] [(.int (if i2 = (1 : Int32) then (-1 : Int32) else (if i1 = (1 : Int32) then (-1 : Int32) else (if i0 = (1 : Int32) then (-1 : Int32) else pp3))))])) _
      refine XS.iconst X101.here hx rfl (hb hby at_153) ?_
      show Steps p.tables e below (T101.setTop (mkF m 154 #[.val (.int pp1), .val (.int pp2), .val (.int pp3), .val (.int pp4), .val (.int pp5), .val (.int (3 : Int32)), .val (.int i0), .val (.int i1), .val (.int i2), .val (.int i3), .val (.ref b81), .val (.ref b88), .unset, .unset] [(.int (1 : Int32)), (.int (if i2 = (1 : Int32) then (-1 : Int32) else (if i1 = (1 : Int32) then (-1 : Int32) else (if i0 = (1 : Int32) then (-1 : Int32) else pp3))))])) _
      refine XS.iloadN X101.here hx rfl (hb hby at_154) rfl ?_
      show Steps p.tables e below (T101.setTop (mkF m 155 #[.val (.int pp1), .val (.int pp2), .val (.int pp3), .val (.int pp4), .val (.int pp5), .val (.int (3 : Int32)), .val (.int i0), .val (.int i1), .val (.int i2), .val (.int i3), .val (.ref b81), .val (.ref b88), .unset, .unset] [(.int pp3), (.int (1 : Int32)), (.int (if i2 = (1 : Int32) then (-1 : Int32) else (if i1 = (1 : Int32) then (-1 : Int32) else (if i0 = (1 : Int32) then (-1 : Int32) else pp3))))])) _
      refine XS.iload X101.here hx rfl (hb hby at_155) rfl ?_
      show Steps p.tables e below (T101.setTop (mkF m 157 #[.val (.int pp1), .val (.int pp2), .val (.int pp3), .val (.int pp4), .val (.int pp5), .val (.int (3 : Int32)), .val (.int i0), .val (.int i1), .val (.int i2), .val (.int i3), .val (.ref b81), .val (.ref b88), .unset, .unset] [(.int (3 : Int32)), (.int pp3), (.int (1 : Int32)), (.int (if i2 = (1 : Int32) then (-1 : Int32) else (if i1 = (1 : Int32) then (-1 : Int32) else (if i0 = (1 : Int32) then (-1 : Int32) else pp3))))])) _
      refine XS.iload X101.here hx rfl (hb hby at_157) rfl ?_
      show Steps p.tables e below (T101.setTop (mkF m 159 #[.val (.int pp1), .val (.int pp2), .val (.int pp3), .val (.int pp4), .val (.int pp5), .val (.int (3 : Int32)), .val (.int i0), .val (.int i1), .val (.int i2), .val (.int i3), .val (.ref b81), .val (.ref b88), .unset, .unset] [(.int i0), (.int (3 : Int32)), (.int pp3), (.int (1 : Int32)), (.int (if i2 = (1 : Int32) then (-1 : Int32) else (if i1 = (1 : Int32) then (-1 : Int32) else (if i0 = (1 : Int32) then (-1 : Int32) else pp3))))])) _
      refine XS.iload X101.here hx rfl (hb hby at_159) rfl ?_
      show Steps p.tables e below (T101.setTop (mkF m 161 #[.val (.int pp1), .val (.int pp2), .val (.int pp3), .val (.int pp4), .val (.int pp5), .val (.int (3 : Int32)), .val (.int i0), .val (.int i1), .val (.int i2), .val (.int i3), .val (.ref b81), .val (.ref b88), .unset, .unset] [(.int i1), (.int i0), (.int (3 : Int32)), (.int pp3), (.int (1 : Int32)), (.int (if i2 = (1 : Int32) then (-1 : Int32) else (if i1 = (1 : Int32) then (-1 : Int32) else (if i0 = (1 : Int32) then (-1 : Int32) else pp3))))])) _
      refine XS.iload X101.here hx rfl (hb hby at_161) rfl ?_
      show Steps p.tables e below (T101.setTop (mkF m 163 #[.val (.int pp1), .val (.int pp2), .val (.int pp3), .val (.int pp4), .val (.int pp5), .val (.int (3 : Int32)), .val (.int i0), .val (.int i1), .val (.int i2), .val (.int i3), .val (.ref b81), .val (.ref b88), .unset, .unset] [(.int i2), (.int i1), (.int i0), (.int (3 : Int32)), (.int pp3), (.int (1 : Int32)), (.int (if i2 = (1 : Int32) then (-1 : Int32) else (if i1 = (1 : Int32) then (-1 : Int32) else (if i0 = (1 : Int32) then (-1 : Int32) else pp3))))])) _
      refine XS.iload X101.here hx rfl (hb hby at_163) rfl ?_
      show Steps p.tables e below (T101.setTop (mkF m 165 #[.val (.int pp1), .val (.int pp2), .val (.int pp3), .val (.int pp4), .val (.int pp5), .val (.int (3 : Int32)), .val (.int i0), .val (.int i1), .val (.int i2), .val (.int i3), .val (.ref b81), .val (.ref b88), .unset, .unset] [(.int i3), (.int i2), (.int i1), (.int i0), (.int (3 : Int32)), (.int pp3), (.int (1 : Int32)), (.int (if i2 = (1 : Int32) then (-1 : Int32) else (if i1 = (1 : Int32) then (-1 : Int32) else (if i0 = (1 : Int32) then (-1 : Int32) else pp3))))])) _
      refine st103 _ ?_
      show Steps p.tables e below (T103.setTop (mkF m 168 #[.val (.int pp1), .val (.int pp2), .val (.int pp3), .val (.int pp4), .val (.int pp5), .val (.int (3 : Int32)), .val (.int i0), .val (.int i1), .val (.int i2), .val (.int i3), .val (.ref b81), .val (.ref b88), .unset, .unset] [(.int (if i0 = (1 : Int32) then (-1 : Int32) else (if i1 = (1 : Int32) then (-1 : Int32) else (if i2 = (1 : Int32) then (-1 : Int32) else pp3)))), (.int (if i2 = (1 : Int32) then (-1 : Int32) else (if i1 = (1 : Int32) then (-1 : Int32) else (if i0 = (1 : Int32) then (-1 : Int32) else pp3))))])) _
      refine XS.icmpNo X103.here hx rfl (hb hby at_168) rfl (teq hc168_4).2 ?_
      show Steps p.tables e below (T103.setTop (mkF m 171 #[.val (.int pp1), .val (.int pp2), .val (.int pp3), .val (.int pp4), .val (.int pp5), .val (.int (3 : Int32)), .val (.int i0), .val (.int i1), .val (.int i2), .val (.int i3), .val (.ref b81), .val (.ref b88), .unset, .unset] [])) _
      refine XS.aload X103.here hx rfl (hb hby at_171) rfl rfl ?_
      show Steps p.tables e below (T103.setTop (mkF m 173 #[.val (.int pp1), .val (.int pp2), .val (.int pp3), .val (.int pp4), .val (.int pp5), .val (.int (3 : Int32)), .val (.int i0), .val (.int i1), .val (.int i2), .val (.int i3), .val (.ref b81), .val (.ref b88), .unset, .unset] [(.ref b88)])) _
      refine XS.iconst X103.here hx rfl (hb hby at_173) ?_
      show Steps p.tables e below (T103.setTop (mkF m 174 #[.val (.int pp1), .val (.int pp2), .val (.int pp3), .val (.int pp4), .val (.int pp5), .val (.int (3 : Int32)), .val (.int i0), .val (.int i1), .val (.int i2), .val (.int i3), .val (.ref b81), .val (.ref b88), .unset, .unset] [(.int (2 : Int32)), (.ref b88)])) _
      refine X103.iaload hx (j := (2 : Int32)) (v := (.int (if i2 = (2 : Int32) then (-1 : Int32) else (if i1 = (2 : Int32) then (-1 : Int32) else (if i0 = (2 : Int32) then (-1 : Int32) else pp4))))) (by rw [e103]; exact Ar_104.1) (State.isArrayOf_alike hZ.alike Ar_104.2.1) Ar_104.2.2 hin_104 hat_104 (g := (mkF m 174 #[.val (.int pp1), .val (.int pp2), .val (.int pp3), .val (.int pp4), .val (.int pp5), .val (.int (3 : Int32)), .val (.int i0), .val (.int i1), .val (.int i2), .val (.int i3), .val (.ref b81), .val (.ref b88), .unset, .unset] [(.int (2 : Int32)), (.ref b88)])) rfl rfl (hb hby at_174) _ ?_
      show Steps p.tables e below (T103.setTop (mkF m 175 #[.val (.int pp1), .val (.int pp2), .val (.int pp3), .val (.int pp4), .val (.int pp5), .val (.int (3 : Int32)), .val (.int i0), .val (.int i1), .val (.int i2), .val (.int i3), .val (.ref b81), .val (.ref b88), .unset, .unset] [(.int (if i2 = (2 : Int32) then (-1 : Int32) else (if i1 = (2 : Int32) then (-1 : Int32) else (if i0 = (2 : Int32) then (-1 : Int32) else pp4))))])) _
      refine XS.iconst X103.here hx rfl (hb hby at_175) ?_
      show Steps p.tables e below (T103.setTop (mkF m 176 #[.val (.int pp1), .val (.int pp2), .val (.int pp3), .val (.int pp4), .val (.int pp5), .val (.int (3 : Int32)), .val (.int i0), .val (.int i1), .val (.int i2), .val (.int i3), .val (.ref b81), .val (.ref b88), .unset, .unset] [(.int (2 : Int32)), (.int (if i2 = (2 : Int32) then (-1 : Int32) else (if i1 = (2 : Int32) then (-1 : Int32) else (if i0 = (2 : Int32) then (-1 : Int32) else pp4))))])) _
      refine XS.iloadN X103.here hx rfl (hb hby at_176) rfl ?_
      show Steps p.tables e below (T103.setTop (mkF m 177 #[.val (.int pp1), .val (.int pp2), .val (.int pp3), .val (.int pp4), .val (.int pp5), .val (.int (3 : Int32)), .val (.int i0), .val (.int i1), .val (.int i2), .val (.int i3), .val (.ref b81), .val (.ref b88), .unset, .unset] [(.int pp4), (.int (2 : Int32)), (.int (if i2 = (2 : Int32) then (-1 : Int32) else (if i1 = (2 : Int32) then (-1 : Int32) else (if i0 = (2 : Int32) then (-1 : Int32) else pp4))))])) _
      refine XS.iload X103.here hx rfl (hb hby at_177) rfl ?_
      show Steps p.tables e below (T103.setTop (mkF m 179 #[.val (.int pp1), .val (.int pp2), .val (.int pp3), .val (.int pp4), .val (.int pp5), .val (.int (3 : Int32)), .val (.int i0), .val (.int i1), .val (.int i2), .val (.int i3), .val (.ref b81), .val (.ref b88), .unset, .unset] [(.int (3 : Int32)), (.int pp4), (.int (2 : Int32)), (.int (if i2 = (2 : Int32) then (-1 : Int32) else (if i1 = (2 : Int32) then (-1 : Int32) else (if i0 = (2 : Int32) then (-1 : Int32) else pp4))))])) _
      refine XS.iload X103.here hx rfl (hb hby at_179) rfl ?_
      show Steps p.tables e below (T103.setTop (mkF m 181 #[.val (.int pp1), .val (.int pp2), .val (.int pp3), .val (.int pp4), .val (.int pp5), .val (.int (3 : Int32)), .val (.int i0), .val (.int i1), .val (.int i2), .val (.int i3), .val (.ref b81), .val (.ref b88), .unset, .unset] [(.int i0), (.int (3 : Int32)), (.int pp4), (.int (2 : Int32)), (.int (if i2 = (2 : Int32) then (-1 : Int32) else (if i1 = (2 : Int32) then (-1 : Int32) else (if i0 = (2 : Int32) then (-1 : Int32) else pp4))))])) _
      refine XS.iload X103.here hx rfl (hb hby at_181) rfl ?_
      show Steps p.tables e below (T103.setTop (mkF m 183 #[.val (.int pp1), .val (.int pp2), .val (.int pp3), .val (.int pp4), .val (.int pp5), .val (.int (3 : Int32)), .val (.int i0), .val (.int i1), .val (.int i2), .val (.int i3), .val (.ref b81), .val (.ref b88), .unset, .unset] [(.int i1), (.int i0), (.int (3 : Int32)), (.int pp4), (.int (2 : Int32)), (.int (if i2 = (2 : Int32) then (-1 : Int32) else (if i1 = (2 : Int32) then (-1 : Int32) else (if i0 = (2 : Int32) then (-1 : Int32) else pp4))))])) _
      refine XS.iload X103.here hx rfl (hb hby at_183) rfl ?_
      show Steps p.tables e below (T103.setTop (mkF m 185 #[.val (.int pp1), .val (.int pp2), .val (.int pp3), .val (.int pp4), .val (.int pp5), .val (.int (3 : Int32)), .val (.int i0), .val (.int i1), .val (.int i2), .val (.int i3), .val (.ref b81), .val (.ref b88), .unset, .unset] [(.int i2), (.int i1), (.int i0), (.int (3 : Int32)), (.int pp4), (.int (2 : Int32)), (.int (if i2 = (2 : Int32) then (-1 : Int32) else (if i1 = (2 : Int32) then (-1 : Int32) else (if i0 = (2 : Int32) then (-1 : Int32) else pp4))))])) _
      refine XS.iload X103.here hx rfl (hb hby at_185) rfl ?_
      show Steps p.tables e below (T103.setTop (mkF m 187 #[.val (.int pp1), .val (.int pp2), .val (.int pp3), .val (.int pp4), .val (.int pp5), .val (.int (3 : Int32)), .val (.int i0), .val (.int i1), .val (.int i2), .val (.int i3), .val (.ref b81), .val (.ref b88), .unset, .unset] [(.int i3), (.int i2), (.int i1), (.int i0), (.int (3 : Int32)), (.int pp4), (.int (2 : Int32)), (.int (if i2 = (2 : Int32) then (-1 : Int32) else (if i1 = (2 : Int32) then (-1 : Int32) else (if i0 = (2 : Int32) then (-1 : Int32) else pp4))))])) _
      refine st105 _ ?_
      show Steps p.tables e below (T105.setTop (mkF m 190 #[.val (.int pp1), .val (.int pp2), .val (.int pp3), .val (.int pp4), .val (.int pp5), .val (.int (3 : Int32)), .val (.int i0), .val (.int i1), .val (.int i2), .val (.int i3), .val (.ref b81), .val (.ref b88), .unset, .unset] [(.int (if i0 = (2 : Int32) then (-1 : Int32) else (if i1 = (2 : Int32) then (-1 : Int32) else (if i2 = (2 : Int32) then (-1 : Int32) else pp4)))), (.int (if i2 = (2 : Int32) then (-1 : Int32) else (if i1 = (2 : Int32) then (-1 : Int32) else (if i0 = (2 : Int32) then (-1 : Int32) else pp4))))])) _
      refine XS.icmpNo X105.here hx rfl (hb hby at_190) rfl (teq hc190_4).2 ?_
      show Steps p.tables e below (T105.setTop (mkF m 193 #[.val (.int pp1), .val (.int pp2), .val (.int pp3), .val (.int pp4), .val (.int pp5), .val (.int (3 : Int32)), .val (.int i0), .val (.int i1), .val (.int i2), .val (.int i3), .val (.ref b81), .val (.ref b88), .unset, .unset] [])) _
      refine XS.aload X105.here hx rfl (hb hby at_193) rfl rfl ?_
      show Steps p.tables e below (T105.setTop (mkF m 195 #[.val (.int pp1), .val (.int pp2), .val (.int pp3), .val (.int pp4), .val (.int pp5), .val (.int (3 : Int32)), .val (.int i0), .val (.int i1), .val (.int i2), .val (.int i3), .val (.ref b81), .val (.ref b88), .unset, .unset] [(.ref b88)])) _
      refine XS.iconst X105.here hx rfl (hb hby at_195) ?_
      show Steps p.tables e below (T105.setTop (mkF m 196 #[.val (.int pp1), .val (.int pp2), .val (.int pp3), .val (.int pp4), .val (.int pp5), .val (.int (3 : Int32)), .val (.int i0), .val (.int i1), .val (.int i2), .val (.int i3), .val (.ref b81), .val (.ref b88), .unset, .unset] [(.int (3 : Int32)), (.ref b88)])) _
      refine X105.iaload hx (j := (3 : Int32)) (v := (.int (if i2 = (3 : Int32) then (-1 : Int32) else (if i1 = (3 : Int32) then (-1 : Int32) else (if i0 = (3 : Int32) then (-1 : Int32) else pp5))))) (by rw [e105]; exact Ar_106.1) (State.isArrayOf_alike hZ.alike Ar_106.2.1) Ar_106.2.2 hin_106 hat_106 (g := (mkF m 196 #[.val (.int pp1), .val (.int pp2), .val (.int pp3), .val (.int pp4), .val (.int pp5), .val (.int (3 : Int32)), .val (.int i0), .val (.int i1), .val (.int i2), .val (.int i3), .val (.ref b81), .val (.ref b88), .unset, .unset] [(.int (3 : Int32)), (.ref b88)])) rfl rfl (hb hby at_196) _ ?_
      show Steps p.tables e below (T105.setTop (mkF m 197 #[.val (.int pp1), .val (.int pp2), .val (.int pp3), .val (.int pp4), .val (.int pp5), .val (.int (3 : Int32)), .val (.int i0), .val (.int i1), .val (.int i2), .val (.int i3), .val (.ref b81), .val (.ref b88), .unset, .unset] [(.int (if i2 = (3 : Int32) then (-1 : Int32) else (if i1 = (3 : Int32) then (-1 : Int32) else (if i0 = (3 : Int32) then (-1 : Int32) else pp5))))])) _
      refine XS.iconst X105.here hx rfl (hb hby at_197) ?_
      show Steps p.tables e below (T105.setTop (mkF m 198 #[.val (.int pp1), .val (.int pp2), .val (.int pp3), .val (.int pp4), .val (.int pp5), .val (.int (3 : Int32)), .val (.int i0), .val (.int i1), .val (.int i2), .val (.int i3), .val (.ref b81), .val (.ref b88), .unset, .unset] [(.int (3 : Int32)), (.int (if i2 = (3 : Int32) then (-1 : Int32) else (if i1 = (3 : Int32) then (-1 : Int32) else (if i0 = (3 : Int32) then (-1 : Int32) else pp5))))])) _
      refine XS.iload X105.here hx rfl (hb hby at_198) rfl ?_
      show Steps p.tables e below (T105.setTop (mkF m 200 #[.val (.int pp1), .val (.int pp2), .val (.int pp3), .val (.int pp4), .val (.int pp5), .val (.int (3 : Int32)), .val (.int i0), .val (.int i1), .val (.int i2), .val (.int i3), .val (.ref b81), .val (.ref b88), .unset, .unset] [(.int pp5), (.int (3 : Int32)), (.int (if i2 = (3 : Int32) then (-1 : Int32) else (if i1 = (3 : Int32) then (-1 : Int32) else (if i0 = (3 : Int32) then (-1 : Int32) else pp5))))])) _
      refine XS.iload X105.here hx rfl (hb hby at_200) rfl ?_
      show Steps p.tables e below (T105.setTop (mkF m 202 #[.val (.int pp1), .val (.int pp2), .val (.int pp3), .val (.int pp4), .val (.int pp5), .val (.int (3 : Int32)), .val (.int i0), .val (.int i1), .val (.int i2), .val (.int i3), .val (.ref b81), .val (.ref b88), .unset, .unset] [(.int (3 : Int32)), (.int pp5), (.int (3 : Int32)), (.int (if i2 = (3 : Int32) then (-1 : Int32) else (if i1 = (3 : Int32) then (-1 : Int32) else (if i0 = (3 : Int32) then (-1 : Int32) else pp5))))])) _
      refine XS.iload X105.here hx rfl (hb hby at_202) rfl ?_
      show Steps p.tables e below (T105.setTop (mkF m 204 #[.val (.int pp1), .val (.int pp2), .val (.int pp3), .val (.int pp4), .val (.int pp5), .val (.int (3 : Int32)), .val (.int i0), .val (.int i1), .val (.int i2), .val (.int i3), .val (.ref b81), .val (.ref b88), .unset, .unset] [(.int i0), (.int (3 : Int32)), (.int pp5), (.int (3 : Int32)), (.int (if i2 = (3 : Int32) then (-1 : Int32) else (if i1 = (3 : Int32) then (-1 : Int32) else (if i0 = (3 : Int32) then (-1 : Int32) else pp5))))])) _
      refine XS.iload X105.here hx rfl (hb hby at_204) rfl ?_
      show Steps p.tables e below (T105.setTop (mkF m 206 #[.val (.int pp1), .val (.int pp2), .val (.int pp3), .val (.int pp4), .val (.int pp5), .val (.int (3 : Int32)), .val (.int i0), .val (.int i1), .val (.int i2), .val (.int i3), .val (.ref b81), .val (.ref b88), .unset, .unset] [(.int i1), (.int i0), (.int (3 : Int32)), (.int pp5), (.int (3 : Int32)), (.int (if i2 = (3 : Int32) then (-1 : Int32) else (if i1 = (3 : Int32) then (-1 : Int32) else (if i0 = (3 : Int32) then (-1 : Int32) else pp5))))])) _
      refine XS.iload X105.here hx rfl (hb hby at_206) rfl ?_
      show Steps p.tables e below (T105.setTop (mkF m 208 #[.val (.int pp1), .val (.int pp2), .val (.int pp3), .val (.int pp4), .val (.int pp5), .val (.int (3 : Int32)), .val (.int i0), .val (.int i1), .val (.int i2), .val (.int i3), .val (.ref b81), .val (.ref b88), .unset, .unset] [(.int i2), (.int i1), (.int i0), (.int (3 : Int32)), (.int pp5), (.int (3 : Int32)), (.int (if i2 = (3 : Int32) then (-1 : Int32) else (if i1 = (3 : Int32) then (-1 : Int32) else (if i0 = (3 : Int32) then (-1 : Int32) else pp5))))])) _
      refine XS.iload X105.here hx rfl (hb hby at_208) rfl ?_
      show Steps p.tables e below (T105.setTop (mkF m 210 #[.val (.int pp1), .val (.int pp2), .val (.int pp3), .val (.int pp4), .val (.int pp5), .val (.int (3 : Int32)), .val (.int i0), .val (.int i1), .val (.int i2), .val (.int i3), .val (.ref b81), .val (.ref b88), .unset, .unset] [(.int i3), (.int i2), (.int i1), (.int i0), (.int (3 : Int32)), (.int pp5), (.int (3 : Int32)), (.int (if i2 = (3 : Int32) then (-1 : Int32) else (if i1 = (3 : Int32) then (-1 : Int32) else (if i0 = (3 : Int32) then (-1 : Int32) else pp5))))])) _
      refine st107 _ ?_
      show Steps p.tables e below (T107.setTop (mkF m 213 #[.val (.int pp1), .val (.int pp2), .val (.int pp3), .val (.int pp4), .val (.int pp5), .val (.int (3 : Int32)), .val (.int i0), .val (.int i1), .val (.int i2), .val (.int i3), .val (.ref b81), .val (.ref b88), .unset, .unset] [(.int (if i0 = (3 : Int32) then (-1 : Int32) else (if i1 = (3 : Int32) then (-1 : Int32) else (if i2 = (3 : Int32) then (-1 : Int32) else pp5)))), (.int (if i2 = (3 : Int32) then (-1 : Int32) else (if i1 = (3 : Int32) then (-1 : Int32) else (if i0 = (3 : Int32) then (-1 : Int32) else pp5))))])) _
      refine XS.icmpNo X107.here hx rfl (hb hby at_213) rfl (teq hc213_4).2 ?_
      show Steps p.tables e below (T107.setTop (mkF m 216 #[.val (.int pp1), .val (.int pp2), .val (.int pp3), .val (.int pp4), .val (.int pp5), .val (.int (3 : Int32)), .val (.int i0), .val (.int i1), .val (.int i2), .val (.int i3), .val (.ref b81), .val (.ref b88), .unset, .unset] [])) _
      refine XS.iconst X107.here hx rfl (hb hby at_216) ?_
      show Steps p.tables e below (T107.setTop (mkF m 217 #[.val (.int pp1), .val (.int pp2), .val (.int pp3), .val (.int pp4), .val (.int pp5), .val (.int (3 : Int32)), .val (.int i0), .val (.int i1), .val (.int i2), .val (.int i3), .val (.ref b81), .val (.ref b88), .unset, .unset] [(.int (1 : Int32))])) _
      refine XS.goto X107.here hx rfl (pc0 := 217) (pc' := 221) rfl (hb hby at_217) (by decide) (by decide) ?_
      show Steps p.tables e below (T107.setTop (mkF m 221 #[.val (.int pp1), .val (.int pp2), .val (.int pp3), .val (.int pp4), .val (.int pp5), .val (.int (3 : Int32)), .val (.int i0), .val (.int i1), .val (.int i2), .val (.int i3), .val (.ref b81), .val (.ref b88), .unset, .unset] [(.int (1 : Int32))])) _
      refine XS.istore X107.here hx rfl (hb hby at_221) rfl (l' := #[.val (.int pp1), .val (.int pp2), .val (.int pp3), .val (.int pp4), .val (.int pp5), .val (.int (3 : Int32)), .val (.int i0), .val (.int i1), .val (.int i2), .val (.int i3), .val (.ref b81), .val (.ref b88), .val (.int (1 : Int32)), .unset]) rfl ?_
      show Steps p.tables e below (T107.setTop (mkF m 223 #[.val (.int pp1), .val (.int pp2), .val (.int pp3), .val (.int pp4), .val (.int pp5), .val (.int (3 : Int32)), .val (.int i0), .val (.int i1), .val (.int i2), .val (.int i3), .val (.ref b81), .val (.ref b88), .val (.int (1 : Int32)), .unset] [])) _
      refine XS.aload X107.here hx rfl (hb hby at_223) rfl rfl ?_
      show Steps p.tables e below (T107.setTop (mkF m 225 #[.val (.int pp1), .val (.int pp2), .val (.int pp3), .val (.int pp4), .val (.int pp5), .val (.int (3 : Int32)), .val (.int i0), .val (.int i1), .val (.int i2), .val (.int i3), .val (.ref b81), .val (.ref b88), .val (.int (1 : Int32)), .unset] [(.ref b81)])) _
      refine X107.arraylength hx (by rw [e107]; exact Ar_109.1) (State.isArrayOf_alike hZ.alike Ar_109.2.1) (g := (mkF m 225 #[.val (.int pp1), .val (.int pp2), .val (.int pp3), .val (.int pp4), .val (.int pp5), .val (.int (3 : Int32)), .val (.int i0), .val (.int i1), .val (.int i2), .val (.int i3), .val (.ref b81), .val (.ref b88), .val (.int (1 : Int32)), .unset] [(.ref b81)])) rfl rfl (hb hby at_225) _ ?_
      rw [len_of Sz_109 Nn_109]
      show Steps p.tables e below (T107.setTop (mkF m 226 #[.val (.int pp1), .val (.int pp2), .val (.int pp3), .val (.int pp4), .val (.int pp5), .val (.int (3 : Int32)), .val (.int i0), .val (.int i1), .val (.int i2), .val (.int i3), .val (.ref b81), .val (.ref b88), .val (.int (1 : Int32)), .unset] [(.int (3 : Int32))])) _
      refine XS.iload X107.here hx rfl (hb hby at_226) rfl ?_
      show Steps p.tables e below (T107.setTop (mkF m 228 #[.val (.int pp1), .val (.int pp2), .val (.int pp3), .val (.int pp4), .val (.int pp5), .val (.int (3 : Int32)), .val (.int i0), .val (.int i1), .val (.int i2), .val (.int i3), .val (.ref b81), .val (.ref b88), .val (.int (1 : Int32)), .unset] [(.int (3 : Int32)), (.int (3 : Int32))])) _
      refine XS.icmpNo X107.here hx rfl (hb hby at_228) rfl (teq hc228_4).2 ?_
      show Steps p.tables e below (T107.setTop (mkF m 231 #[.val (.int pp1), .val (.int pp2), .val (.int pp3), .val (.int pp4), .val (.int pp5), .val (.int (3 : Int32)), .val (.int i0), .val (.int i1), .val (.int i2), .val (.int i3), .val (.ref b81), .val (.ref b88), .val (.int (1 : Int32)), .unset] [])) _
      refine XS.iload X107.here hx rfl (hb hby at_231) rfl ?_
      show Steps p.tables e below (T107.setTop (mkF m 233 #[.val (.int pp1), .val (.int pp2), .val (.int pp3), .val (.int pp4), .val (.int pp5), .val (.int (3 : Int32)), .val (.int i0), .val (.int i1), .val (.int i2), .val (.int i3), .val (.ref b81), .val (.ref b88), .val (.int (1 : Int32)), .unset] [(.int (3 : Int32))])) _
      refine XS.ifNo X107.here hx rfl (hb hby at_233) rfl ((if0 _ _).trans (tlt hc233_4).2.2.2) ?_
      show Steps p.tables e below (T107.setTop (mkF m 236 #[.val (.int pp1), .val (.int pp2), .val (.int pp3), .val (.int pp4), .val (.int pp5), .val (.int (3 : Int32)), .val (.int i0), .val (.int i1), .val (.int i2), .val (.int i3), .val (.ref b81), .val (.ref b88), .val (.int (1 : Int32)), .unset] [])) _
      refine XS.aload X107.here hx rfl (hb hby at_236) rfl rfl ?_
      show Steps p.tables e below (T107.setTop (mkF m 238 #[.val (.int pp1), .val (.int pp2), .val (.int pp3), .val (.int pp4), .val (.int pp5), .val (.int (3 : Int32)), .val (.int i0), .val (.int i1), .val (.int i2), .val (.int i3), .val (.ref b81), .val (.ref b88), .val (.int (1 : Int32)), .unset] [(.ref b81)])) _
      refine XS.iconst X107.here hx rfl (hb hby at_238) ?_
      show Steps p.tables e below (T107.setTop (mkF m 239 #[.val (.int pp1), .val (.int pp2), .val (.int pp3), .val (.int pp4), .val (.int pp5), .val (.int (3 : Int32)), .val (.int i0), .val (.int i1), .val (.int i2), .val (.int i3), .val (.ref b81), .val (.ref b88), .val (.int (1 : Int32)), .unset] [(.int (0 : Int32)), (.ref b81)])) _
      refine X107.iaload hx (j := (0 : Int32)) (v := (.int i0)) (by rw [e107]; exact Ar_110.1) (State.isArrayOf_alike hZ.alike Ar_110.2.1) Ar_110.2.2 hin_110 hat_110 (g := (mkF m 239 #[.val (.int pp1), .val (.int pp2), .val (.int pp3), .val (.int pp4), .val (.int pp5), .val (.int (3 : Int32)), .val (.int i0), .val (.int i1), .val (.int i2), .val (.int i3), .val (.ref b81), .val (.ref b88), .val (.int (1 : Int32)), .unset] [(.int (0 : Int32)), (.ref b81)])) rfl rfl (hb hby at_239) _ ?_
      show Steps p.tables e below (T107.setTop (mkF m 240 #[.val (.int pp1), .val (.int pp2), .val (.int pp3), .val (.int pp4), .val (.int pp5), .val (.int (3 : Int32)), .val (.int i0), .val (.int i1), .val (.int i2), .val (.int i3), .val (.ref b81), .val (.ref b88), .val (.int (1 : Int32)), .unset] [(.int i0)])) _
      refine XS.iload X107.here hx rfl (hb hby at_240) rfl ?_
      show Steps p.tables e below (T107.setTop (mkF m 242 #[.val (.int pp1), .val (.int pp2), .val (.int pp3), .val (.int pp4), .val (.int pp5), .val (.int (3 : Int32)), .val (.int i0), .val (.int i1), .val (.int i2), .val (.int i3), .val (.ref b81), .val (.ref b88), .val (.int (1 : Int32)), .unset] [(.int i0), (.int i0)])) _
      refine XS.icmpNo X107.here hx rfl (hb hby at_242) rfl (teq (rfl : i0 = i0)).2 ?_
      show Steps p.tables e below (T107.setTop (mkF m 245 #[.val (.int pp1), .val (.int pp2), .val (.int pp3), .val (.int pp4), .val (.int pp5), .val (.int (3 : Int32)), .val (.int i0), .val (.int i1), .val (.int i2), .val (.int i3), .val (.ref b81), .val (.ref b88), .val (.int (1 : Int32)), .unset] [])) _
      refine XS.iload X107.here hx rfl (hb hby at_245) rfl ?_
      show Steps p.tables e below (T107.setTop (mkF m 247 #[.val (.int pp1), .val (.int pp2), .val (.int pp3), .val (.int pp4), .val (.int pp5), .val (.int (3 : Int32)), .val (.int i0), .val (.int i1), .val (.int i2), .val (.int i3), .val (.ref b81), .val (.ref b88), .val (.int (1 : Int32)), .unset] [(.int (3 : Int32))])) _
      refine XS.iconst X107.here hx rfl (hb hby at_247) ?_
      show Steps p.tables e below (T107.setTop (mkF m 248 #[.val (.int pp1), .val (.int pp2), .val (.int pp3), .val (.int pp4), .val (.int pp5), .val (.int (3 : Int32)), .val (.int i0), .val (.int i1), .val (.int i2), .val (.int i3), .val (.ref b81), .val (.ref b88), .val (.int (1 : Int32)), .unset] [(.int (1 : Int32)), (.int (3 : Int32))])) _
      refine XS.icmpNo X107.here hx rfl (hb hby at_248) rfl (tlt hc248_4).2.2.2 ?_
      show Steps p.tables e below (T107.setTop (mkF m 251 #[.val (.int pp1), .val (.int pp2), .val (.int pp3), .val (.int pp4), .val (.int pp5), .val (.int (3 : Int32)), .val (.int i0), .val (.int i1), .val (.int i2), .val (.int i3), .val (.ref b81), .val (.ref b88), .val (.int (1 : Int32)), .unset] [])) _
      refine XS.aload X107.here hx rfl (hb hby at_251) rfl rfl ?_
      show Steps p.tables e below (T107.setTop (mkF m 253 #[.val (.int pp1), .val (.int pp2), .val (.int pp3), .val (.int pp4), .val (.int pp5), .val (.int (3 : Int32)), .val (.int i0), .val (.int i1), .val (.int i2), .val (.int i3), .val (.ref b81), .val (.ref b88), .val (.int (1 : Int32)), .unset] [(.ref b81)])) _
      refine XS.iconst X107.here hx rfl (hb hby at_253) ?_
      show Steps p.tables e below (T107.setTop (mkF m 254 #[.val (.int pp1), .val (.int pp2), .val (.int pp3), .val (.int pp4), .val (.int pp5), .val (.int (3 : Int32)), .val (.int i0), .val (.int i1), .val (.int i2), .val (.int i3), .val (.ref b81), .val (.ref b88), .val (.int (1 : Int32)), .unset] [(.int (1 : Int32)), (.ref b81)])) _
      refine X107.iaload hx (j := (1 : Int32)) (v := (.int i1)) (by rw [e107]; exact Ar_111.1) (State.isArrayOf_alike hZ.alike Ar_111.2.1) Ar_111.2.2 hin_111 hat_111 (g := (mkF m 254 #[.val (.int pp1), .val (.int pp2), .val (.int pp3), .val (.int pp4), .val (.int pp5), .val (.int (3 : Int32)), .val (.int i0), .val (.int i1), .val (.int i2), .val (.int i3), .val (.ref b81), .val (.ref b88), .val (.int (1 : Int32)), .unset] [(.int (1 : Int32)), (.ref b81)])) rfl rfl (hb hby at_254) _ ?_
      show Steps p.tables e below (T107.setTop (mkF m 255 #[.val (.int pp1), .val (.int pp2), .val (.int pp3), .val (.int pp4), .val (.int pp5), .val (.int (3 : Int32)), .val (.int i0), .val (.int i1), .val (.int i2), .val (.int i3), .val (.ref b81), .val (.ref b88), .val (.int (1 : Int32)), .unset] [(.int i1)])) _
      refine XS.iload X107.here hx rfl (hb hby at_255) rfl ?_
      show Steps p.tables e below (T107.setTop (mkF m 257 #[.val (.int pp1), .val (.int pp2), .val (.int pp3), .val (.int pp4), .val (.int pp5), .val (.int (3 : Int32)), .val (.int i0), .val (.int i1), .val (.int i2), .val (.int i3), .val (.ref b81), .val (.ref b88), .val (.int (1 : Int32)), .unset] [(.int i1), (.int i1)])) _
      refine XS.icmpNo X107.here hx rfl (hb hby at_257) rfl (teq (rfl : i1 = i1)).2 ?_
      show Steps p.tables e below (T107.setTop (mkF m 260 #[.val (.int pp1), .val (.int pp2), .val (.int pp3), .val (.int pp4), .val (.int pp5), .val (.int (3 : Int32)), .val (.int i0), .val (.int i1), .val (.int i2), .val (.int i3), .val (.ref b81), .val (.ref b88), .val (.int (1 : Int32)), .unset] [])) _
      refine XS.iload X107.here hx rfl (hb hby at_260) rfl ?_
      show Steps p.tables e below (T107.setTop (mkF m 262 #[.val (.int pp1), .val (.int pp2), .val (.int pp3), .val (.int pp4), .val (.int pp5), .val (.int (3 : Int32)), .val (.int i0), .val (.int i1), .val (.int i2), .val (.int i3), .val (.ref b81), .val (.ref b88), .val (.int (1 : Int32)), .unset] [(.int (3 : Int32))])) _
      refine XS.iconst X107.here hx rfl (hb hby at_262) ?_
      show Steps p.tables e below (T107.setTop (mkF m 263 #[.val (.int pp1), .val (.int pp2), .val (.int pp3), .val (.int pp4), .val (.int pp5), .val (.int (3 : Int32)), .val (.int i0), .val (.int i1), .val (.int i2), .val (.int i3), .val (.ref b81), .val (.ref b88), .val (.int (1 : Int32)), .unset] [(.int (2 : Int32)), (.int (3 : Int32))])) _
      refine XS.icmpNo X107.here hx rfl (hb hby at_263) rfl (tlt hc263_4).2.2.2 ?_
      show Steps p.tables e below (T107.setTop (mkF m 266 #[.val (.int pp1), .val (.int pp2), .val (.int pp3), .val (.int pp4), .val (.int pp5), .val (.int (3 : Int32)), .val (.int i0), .val (.int i1), .val (.int i2), .val (.int i3), .val (.ref b81), .val (.ref b88), .val (.int (1 : Int32)), .unset] [])) _
      refine XS.aload X107.here hx rfl (hb hby at_266) rfl rfl ?_
      show Steps p.tables e below (T107.setTop (mkF m 268 #[.val (.int pp1), .val (.int pp2), .val (.int pp3), .val (.int pp4), .val (.int pp5), .val (.int (3 : Int32)), .val (.int i0), .val (.int i1), .val (.int i2), .val (.int i3), .val (.ref b81), .val (.ref b88), .val (.int (1 : Int32)), .unset] [(.ref b81)])) _
      refine XS.iconst X107.here hx rfl (hb hby at_268) ?_
      show Steps p.tables e below (T107.setTop (mkF m 269 #[.val (.int pp1), .val (.int pp2), .val (.int pp3), .val (.int pp4), .val (.int pp5), .val (.int (3 : Int32)), .val (.int i0), .val (.int i1), .val (.int i2), .val (.int i3), .val (.ref b81), .val (.ref b88), .val (.int (1 : Int32)), .unset] [(.int (2 : Int32)), (.ref b81)])) _
      refine X107.iaload hx (j := (2 : Int32)) (v := (.int i2)) (by rw [e107]; exact Ar_112.1) (State.isArrayOf_alike hZ.alike Ar_112.2.1) Ar_112.2.2 hin_112 hat_112 (g := (mkF m 269 #[.val (.int pp1), .val (.int pp2), .val (.int pp3), .val (.int pp4), .val (.int pp5), .val (.int (3 : Int32)), .val (.int i0), .val (.int i1), .val (.int i2), .val (.int i3), .val (.ref b81), .val (.ref b88), .val (.int (1 : Int32)), .unset] [(.int (2 : Int32)), (.ref b81)])) rfl rfl (hb hby at_269) _ ?_
      show Steps p.tables e below (T107.setTop (mkF m 270 #[.val (.int pp1), .val (.int pp2), .val (.int pp3), .val (.int pp4), .val (.int pp5), .val (.int (3 : Int32)), .val (.int i0), .val (.int i1), .val (.int i2), .val (.int i3), .val (.ref b81), .val (.ref b88), .val (.int (1 : Int32)), .unset] [(.int i2)])) _
      refine XS.iload X107.here hx rfl (hb hby at_270) rfl ?_
      show Steps p.tables e below (T107.setTop (mkF m 272 #[.val (.int pp1), .val (.int pp2), .val (.int pp3), .val (.int pp4), .val (.int pp5), .val (.int (3 : Int32)), .val (.int i0), .val (.int i1), .val (.int i2), .val (.int i3), .val (.ref b81), .val (.ref b88), .val (.int (1 : Int32)), .unset] [(.int i2), (.int i2)])) _
      refine XS.icmpNo X107.here hx rfl (hb hby at_272) rfl (teq (rfl : i2 = i2)).2 ?_
      show Steps p.tables e below (T107.setTop (mkF m 275 #[.val (.int pp1), .val (.int pp2), .val (.int pp3), .val (.int pp4), .val (.int pp5), .val (.int (3 : Int32)), .val (.int i0), .val (.int i1), .val (.int i2), .val (.int i3), .val (.ref b81), .val (.ref b88), .val (.int (1 : Int32)), .unset] [])) _
      refine XS.iload X107.here hx rfl (hb hby at_275) rfl ?_
      show Steps p.tables e below (T107.setTop (mkF m 277 #[.val (.int pp1), .val (.int pp2), .val (.int pp3), .val (.int pp4), .val (.int pp5), .val (.int (3 : Int32)), .val (.int i0), .val (.int i1), .val (.int i2), .val (.int i3), .val (.ref b81), .val (.ref b88), .val (.int (1 : Int32)), .unset] [(.int (3 : Int32))])) _
      refine XS.iconst X107.here hx rfl (hb hby at_277) ?_
      show Steps p.tables e below (T107.setTop (mkF m 278 #[.val (.int pp1), .val (.int pp2), .val (.int pp3), .val (.int pp4), .val (.int pp5), .val (.int (3 : Int32)), .val (.int i0), .val (.int i1), .val (.int i2), .val (.int i3), .val (.ref b81), .val (.ref b88), .val (.int (1 : Int32)), .unset] [(.int (3 : Int32)), (.int (3 : Int32))])) _
      refine XS.icmpYes X107.here hx rfl (pc0 := 278) (pc' := 290) rfl (hb hby at_278) rfl (flt hc278_4).2.2.2 (by decide) (by decide) ?_
      show Steps p.tables e below (T107.setTop (mkF m 290 #[.val (.int pp1), .val (.int pp2), .val (.int pp3), .val (.int pp4), .val (.int pp5), .val (.int (3 : Int32)), .val (.int i0), .val (.int i1), .val (.int i2), .val (.int i3), .val (.ref b81), .val (.ref b88), .val (.int (1 : Int32)), .unset] [])) _
      refine XS.iconst X107.here hx rfl (hb hby at_290) ?_
      show Steps p.tables e below (T107.setTop (mkF m 291 #[.val (.int pp1), .val (.int pp2), .val (.int pp3), .val (.int pp4), .val (.int pp5), .val (.int (3 : Int32)), .val (.int i0), .val (.int i1), .val (.int i2), .val (.int i3), .val (.ref b81), .val (.ref b88), .val (.int (1 : Int32)), .unset] [(.int (1 : Int32))])) _
      refine XS.goto X107.here hx rfl (pc0 := 291) (pc' := 295) rfl (hb hby at_291) (by decide) (by decide) ?_
      show Steps p.tables e below (T107.setTop (mkF m 295 #[.val (.int pp1), .val (.int pp2), .val (.int pp3), .val (.int pp4), .val (.int pp5), .val (.int (3 : Int32)), .val (.int i0), .val (.int i1), .val (.int i2), .val (.int i3), .val (.ref b81), .val (.ref b88), .val (.int (1 : Int32)), .unset] [(.int (1 : Int32))])) _
      refine XS.istore X107.here hx rfl (hb hby at_295) rfl (l' := #[.val (.int pp1), .val (.int pp2), .val (.int pp3), .val (.int pp4), .val (.int pp5), .val (.int (3 : Int32)), .val (.int i0), .val (.int i1), .val (.int i2), .val (.int i3), .val (.ref b81), .val (.ref b88), .val (.int (1 : Int32)), .val (.int (1 : Int32))]) rfl ?_
      show Steps p.tables e below (T107.setTop (mkF m 297 #[.val (.int pp1), .val (.int pp2), .val (.int pp3), .val (.int pp4), .val (.int pp5), .val (.int (3 : Int32)), .val (.int i0), .val (.int i1), .val (.int i2), .val (.int i3), .val (.ref b81), .val (.ref b88), .val (.int (1 : Int32)), .val (.int (1 : Int32))] [])) _
      refine XS.iload X107.here hx rfl (hb hby at_297) rfl ?_
      show Steps p.tables e below (T107.setTop (mkF m 299 #[.val (.int pp1), .val (.int pp2), .val (.int pp3), .val (.int pp4), .val (.int pp5), .val (.int (3 : Int32)), .val (.int i0), .val (.int i1), .val (.int i2), .val (.int i3), .val (.ref b81), .val (.ref b88), .val (.int (1 : Int32)), .val (.int (1 : Int32))] [(.int (1 : Int32))])) _
      refine XS.ifNo X107.here hx rfl (hb hby at_299) rfl ((if0 _ _).trans (feq hc299_4).1) ?_
      show Steps p.tables e below (T107.setTop (mkF m 302 #[.val (.int pp1), .val (.int pp2), .val (.int pp3), .val (.int pp4), .val (.int pp5), .val (.int (3 : Int32)), .val (.int i0), .val (.int i1), .val (.int i2), .val (.int i3), .val (.ref b81), .val (.ref b88), .val (.int (1 : Int32)), .val (.int (1 : Int32))] [])) _
      refine XS.iload X107.here hx rfl (hb hby at_302) rfl ?_
      show Steps p.tables e below (T107.setTop (mkF m 304 #[.val (.int pp1), .val (.int pp2), .val (.int pp3), .val (.int pp4), .val (.int pp5), .val (.int (3 : Int32)), .val (.int i0), .val (.int i1), .val (.int i2), .val (.int i3), .val (.ref b81), .val (.ref b88), .val (.int (1 : Int32)), .val (.int (1 : Int32))] [(.int (1 : Int32))])) _
      refine XS.ifNo X107.here hx rfl (hb hby at_304) rfl ((if0 _ _).trans (feq hc304_4).1) ?_
      show Steps p.tables e below (T107.setTop (mkF m 307 #[.val (.int pp1), .val (.int pp2), .val (.int pp3), .val (.int pp4), .val (.int pp5), .val (.int (3 : Int32)), .val (.int i0), .val (.int i1), .val (.int i2), .val (.int i3), .val (.ref b81), .val (.ref b88), .val (.int (1 : Int32)), .val (.int (1 : Int32))] [])) _
      refine XS.iconst X107.here hx rfl (hb hby at_307) ?_
      show Steps p.tables e below (T107.setTop (mkF m 308 #[.val (.int pp1), .val (.int pp2), .val (.int pp3), .val (.int pp4), .val (.int pp5), .val (.int (3 : Int32)), .val (.int i0), .val (.int i1), .val (.int i2), .val (.int i3), .val (.ref b81), .val (.ref b88), .val (.int (1 : Int32)), .val (.int (1 : Int32))] [(.int (1 : Int32))])) _
      refine XS.goto X107.here hx rfl (pc0 := 308) (pc' := 312) rfl (hb hby at_308) (by decide) (by decide) ?_
      show Steps p.tables e below (T107.setTop (mkF m 312 #[.val (.int pp1), .val (.int pp2), .val (.int pp3), .val (.int pp4), .val (.int pp5), .val (.int (3 : Int32)), .val (.int i0), .val (.int i1), .val (.int i2), .val (.int i3), .val (.ref b81), .val (.ref b88), .val (.int (1 : Int32)), .val (.int (1 : Int32))] [(.int (1 : Int32))])) _
      exact retN X107 hx (t := .boolean) Bd.returns (by simp) (hb hby at_312) hr
    · show Q0 Z pp1 pp2 pp3 pp4 pp5 h0 n0 _ T107.heap _
      rw [e107]
      exact ⟨rfl, N107⟩
  · skip
    obtain ⟨T113, h113, k113, X113, e113, E113, A113, st113⟩ := newP X0 hx hZ (hw _ (List.mem_of_getElem? (i := 0) rfl)) e0 (g := (mkF m 40 #[.val (.int pp1), .val (.int pp2), .val (.int pp3), .val (.int pp4), .val (.int pp5), .val (.int (4 : Int32)), .val (.int i0), .val (.int i1), .val (.int i2), .val (.int i3), .unset, .unset, .unset, .unset] [(.int (4 : Int32))])) rfl (hb hby at_40) rfl (by decide) (cap := 4) (by decide) (by decide) (by decide) (by decide)
    obtain ⟨b113, g113⟩ : ∃ z, z = h0.size := ⟨_, rfl⟩
    rw [← g113] at A113 st113
    have g_b113 : n0 ≤ b113 := Nat.le_trans Z0 (Nat.le_of_eq g113.symm)
    have Z113 : n0 ≤ h113.size := Nat.le_trans Z0 E113.1
    have V113 : Arv Z h113 b113 k113 .int (4 : Int32) [(.int (0 : Int32)), (.int (0 : Int32)), (.int (0 : Int32)), (.int (0 : Int32))] (.int (0 : Int32)) := (Arv.new A113 (by decide)).pad (pad_rep [] (.int (0 : Int32)) 4)
    have hc46_5 : (0 : Int32) < (4 : Int32) := by decide
    obtain ⟨cl_114, Ar_114, qq_114, Sz_114, Nn_114, Hh_114, Gg_114⟩ := id V113
    have hin_114 : ¬ ((0 : Int32) < 0 ∨ cl_114.slots.size ≤ ((0 : Int32)).toNatClampNeg) := inb_of Sz_114 ⟨by decide, by decide⟩
    obtain ⟨T115, h115, X115, e115, W115, st115⟩ := stI X113 hx hZ e113 Ar_114 (j := (0 : Int32)) hin_114 (g := (mkF m 54 #[.val (.int pp1), .val (.int pp2), .val (.int pp3), .val (.int pp4), .val (.int pp5), .val (.int (4 : Int32)), .val (.int i0), .val (.int i1), .val (.int i2), .val (.int i3), .val (.ref b113), .unset, .unset, .unset] [(.int i0), (.int (0 : Int32)), (.ref b113)])) rfl rfl (hb hby at_54)
    have N115 := Fr.snoc X115 N0 g_b113
    have Z115 : n0 ≤ h115.size := Nat.le_trans Z113 (Keep.of_wr W115).1
    have V115 : Arv Z h115 b113 k113 .int (4 : Int32) [(.int i0), (.int (0 : Int32)), (.int (0 : Int32)), (.int (0 : Int32))] (.int (0 : Int32)) := Arv.set Ar_114 qq_114 Sz_114 Nn_114 Hh_114 Gg_114 rfl W115 0 rfl (Nat.le_of_ble_eq_true rfl)
    have hc58_5 : (1 : Int32) < (4 : Int32) := by decide
    obtain ⟨cl_116, Ar_116, qq_116, Sz_116, Nn_116, Hh_116, Gg_116⟩ := id V115
    have hin_116 : ¬ ((1 : Int32) < 0 ∨ cl_116.slots.size ≤ ((1 : Int32)).toNatClampNeg) := inb_of Sz_116 ⟨by decide, by decide⟩
    obtain ⟨T117, h117, X117, e117, W117, st117⟩ := stI X115 hx hZ e115 Ar_116 (j := (1 : Int32)) hin_116 (g := (mkF m 66 #[.val (.int pp1), .val (.int pp2), .val (.int pp3), .val (.int pp4), .val (.int pp5), .val (.int (4 : Int32)), .val (.int i0), .val (.int i1), .val (.int i2), .val (.int i3), .val (.ref b113), .unset, .unset, .unset] [(.int i1), (.int (1 : Int32)), (.ref b113)])) rfl rfl (hb hby at_66)
    have N117 := Fr.snoc X117 N115 g_b113
    have Z117 : n0 ≤ h117.size := Nat.le_trans Z115 (Keep.of_wr W117).1
    have V117 : Arv Z h117 b113 k113 .int (4 : Int32) [(.int i0), (.int i1), (.int (0 : Int32)), (.int (0 : Int32))] (.int (0 : Int32)) := Arv.set Ar_116 qq_116 Sz_116 Nn_116 Hh_116 Gg_116 rfl W117 1 rfl (Nat.le_of_ble_eq_true rfl)
    have hc70_5 : (2 : Int32) < (4 : Int32) := by decide
    obtain ⟨cl_118, Ar_118, qq_118, Sz_118, Nn_118, Hh_118, Gg_118⟩ := id V117
    have hin_118 : ¬ ((2 : Int32) < 0 ∨ cl_118.slots.size ≤ ((2 : Int32)).toNatClampNeg) := inb_of Sz_118 ⟨by decide, by decide⟩
    obtain ⟨T119, h119, X119, e119, W119, st119⟩ := stI X117 hx hZ e117 Ar_118 (j := (2 : Int32)) hin_118 (g := (mkF m 78 #[.val (.int pp1), .val (.int pp2), .val (.int pp3), .val (.int pp4), .val (.int pp5), .val (.int (4 : Int32)), .val (.int i0), .val (.int i1), .val (.int i2), .val (.int i3), .val (.ref b113), .unset, .unset, .unset] [(.int i2), (.int (2 : Int32)), (.ref b113)])) rfl rfl (hb hby at_78)
    have N119 := Fr.snoc X119 N117 g_b113
    have Z119 : n0 ≤ h119.size := Nat.le_trans Z117 (Keep.of_wr W119).1
    have V119 : Arv Z h119 b113 k113 .int (4 : Int32) [(.int i0), (.int i1), (.int i2), (.int (0 : Int32))] (.int (0 : Int32)) := Arv.set Ar_118 qq_118 Sz_118 Nn_118 Hh_118 Gg_118 rfl W119 2 rfl (Nat.le_of_ble_eq_true rfl)
    have hc82_5 : (3 : Int32) < (4 : Int32) := by decide
    obtain ⟨cl_120, Ar_120, qq_120, Sz_120, Nn_120, Hh_120, Gg_120⟩ := id V119
    have hin_120 : ¬ ((3 : Int32) < 0 ∨ cl_120.slots.size ≤ ((3 : Int32)).toNatClampNeg) := inb_of Sz_120 ⟨by decide, by decide⟩
    obtain ⟨T121, h121, X121, e121, W121, st121⟩ := stI X119 hx hZ e119 Ar_120 (j := (3 : Int32)) hin_120 (g := (mkF m 90 #[.val (.int pp1), .val (.int pp2), .val (.int pp3), .val (.int pp4), .val (.int pp5), .val (.int (4 : Int32)), .val (.int i0), .val (.int i1), .val (.int i2), .val (.int i3), .val (.ref b113), .unset, .unset, .unset] [(.int i3), (.int (3 : Int32)), (.ref b113)])) rfl rfl (hb hby at_90)
    have N121 := Fr.snoc X121 N119 g_b113
    have Z121 : n0 ≤ h121.size := Nat.le_trans Z119 (Keep.of_wr W121).1
    have V121 : Arv Z h121 b113 k113 .int (4 : Int32) [(.int i0), (.int i1), (.int i2), (.int i3)] (.int (0 : Int32)) := Arv.set Ar_120 qq_120 Sz_120 Nn_120 Hh_120 Gg_120 rfl W121 3 rfl (Nat.le_of_ble_eq_true rfl)
    obtain ⟨T122, h122, k122, X122, e122, E122, A122, st122⟩ := newP X121 hx hZ (hw _ (List.mem_of_getElem? (i := 0) rfl)) e121 (g := (mkF m 92 #[.val (.int pp1), .val (.int pp2), .val (.int pp3), .val (.int pp4), .val (.int pp5), .val (.int (4 : Int32)), .val (.int i0), .val (.int i1), .val (.int i2), .val (.int i3), .val (.ref b113), .unset, .unset, .unset] [(.int (4 : Int32))])) rfl (hb hby at_92) rfl (by decide) (cap := 4) (by decide) (by decide) (by decide) (by decide)
    obtain ⟨b122, g122⟩ : ∃ z, z = h121.size := ⟨_, rfl⟩
    rw [← g122] at A122 st122
    have g_b122 : n0 ≤ b122 := Nat.le_trans Z121 (Nat.le_of_eq g122.symm)
    have Z122 : n0 ≤ h122.size := Nat.le_trans Z121 E122.1
    have V122 : Arv Z h122 b122 k122 .int (4 : Int32) [(.int (0 : Int32)), (.int (0 : Int32)), (.int (0 : Int32)), (.int (0 : Int32))] (.int (0 : Int32)) := (Arv.new A122 (by decide)).pad (pad_rep [] (.int (0 : Int32)) 4)
    obtain ⟨cl_123, Ar_123, qq_123, Sz_123, Nn_123, Hh_123, Gg_123⟩ := id V122
    have hin_123 : ¬ ((0 : Int32) < 0 ∨ cl_123.slots.size ≤ ((0 : Int32)).toNatClampNeg) := inb_of Sz_123 ⟨by decide, by decide⟩
    obtain ⟨T124, h124, X124, e124, W124, st124⟩ := stI X122 hx hZ e122 Ar_123 (j := (0 : Int32)) hin_123 (g := (mkF m 97 #[.val (.int pp1), .val (.int pp2), .val (.int pp3), .val (.int pp4), .val (.int pp5), .val (.int (4 : Int32)), .val (.int i0), .val (.int i1), .val (.int i2), .val (.int i3), .val (.ref b113), .unset, .unset, .unset] [(.int pp2), (.int (0 : Int32)), (.ref b122), (.ref b122)])) rfl rfl (hb hby at_97)
    have N124 := Fr.snoc X124 N121 g_b122
    have Z124 : n0 ≤ h124.size := Nat.le_trans Z122 (Keep.of_wr W124).1
    have V124 : Arv Z h124 b122 k122 .int (4 : Int32) [(.int pp2), (.int (0 : Int32)), (.int (0 : Int32)), (.int (0 : Int32))] (.int (0 : Int32)) := Arv.set Ar_123 qq_123 Sz_123 Nn_123 Hh_123 Gg_123 rfl W124 0 rfl (Nat.le_of_ble_eq_true rfl)
    obtain ⟨cl_125, Ar_125, qq_125, Sz_125, Nn_125, Hh_125, Gg_125⟩ := id V124
    have hin_125 : ¬ ((1 : Int32) < 0 ∨ cl_125.slots.size ≤ ((1 : Int32)).toNatClampNeg) := inb_of Sz_125 ⟨by decide, by decide⟩
    obtain ⟨T126, h126, X126, e126, W126, st126⟩ := stI X124 hx hZ e124 Ar_125 (j := (1 : Int32)) hin_125 (g := (mkF m 101 #[.val (.int pp1), .val (.int pp2), .val (.int pp3), .val (.int pp4), .val (.int pp5), .val (.int (4 : Int32)), .val (.int i0), .val (.int i1), .val (.int i2), .val (.int i3), .val (.ref b113), .unset, .unset, .unset] [(.int pp3), (.int (1 : Int32)), (.ref b122), (.ref b122)])) rfl rfl (hb hby at_101)
    have N126 := Fr.snoc X126 N124 g_b122
    have Z126 : n0 ≤ h126.size := Nat.le_trans Z124 (Keep.of_wr W126).1
    have V126 : Arv Z h126 b122 k122 .int (4 : Int32) [(.int pp2), (.int pp3), (.int (0 : Int32)), (.int (0 : Int32))] (.int (0 : Int32)) := Arv.set Ar_125 qq_125 Sz_125 Nn_125 Hh_125 Gg_125 rfl W126 1 rfl (Nat.le_of_ble_eq_true rfl)
    obtain ⟨cl_127, Ar_127, qq_127, Sz_127, Nn_127, Hh_127, Gg_127⟩ := id V126
    have hin_127 : ¬ ((2 : Int32) < 0 ∨ cl_127.slots.size ≤ ((2 : Int32)).toNatClampNeg) := inb_of Sz_127 ⟨by decide, by decide⟩
    obtain ⟨T128, h128, X128, e128, W128, st128⟩ := stI X126 hx hZ e126 Ar_127 (j := (2 : Int32)) hin_127 (g := (mkF m 105 #[.val (.int pp1), .val (.int pp2), .val (.int pp3), .val (.int pp4), .val (.int pp5), .val (.int (4 : Int32)), .val (.int i0), .val (.int i1), .val (.int i2), .val (.int i3), .val (.ref b113), .unset, .unset, .unset] [(.int pp4), (.int (2 : Int32)), (.ref b122), (.ref b122)])) rfl rfl (hb hby at_105)
    have N128 := Fr.snoc X128 N126 g_b122
    have Z128 : n0 ≤ h128.size := Nat.le_trans Z126 (Keep.of_wr W128).1
    have V128 : Arv Z h128 b122 k122 .int (4 : Int32) [(.int pp2), (.int pp3), (.int pp4), (.int (0 : Int32))] (.int (0 : Int32)) := Arv.set Ar_127 qq_127 Sz_127 Nn_127 Hh_127 Gg_127 rfl W128 2 rfl (Nat.le_of_ble_eq_true rfl)
    obtain ⟨cl_129, Ar_129, qq_129, Sz_129, Nn_129, Hh_129, Gg_129⟩ := id V128
    have hin_129 : ¬ ((3 : Int32) < 0 ∨ cl_129.slots.size ≤ ((3 : Int32)).toNatClampNeg) := inb_of Sz_129 ⟨by decide, by decide⟩
    obtain ⟨T130, h130, X130, e130, W130, st130⟩ := stI X128 hx hZ e128 Ar_129 (j := (3 : Int32)) hin_129 (g := (mkF m 110 #[.val (.int pp1), .val (.int pp2), .val (.int pp3), .val (.int pp4), .val (.int pp5), .val (.int (4 : Int32)), .val (.int i0), .val (.int i1), .val (.int i2), .val (.int i3), .val (.ref b113), .unset, .unset, .unset] [(.int pp5), (.int (3 : Int32)), (.ref b122), (.ref b122)])) rfl rfl (hb hby at_110)
    have N130 := Fr.snoc X130 N128 g_b122
    have Z130 : n0 ≤ h130.size := Nat.le_trans Z128 (Keep.of_wr W130).1
    have V130 : Arv Z h130 b122 k122 .int (4 : Int32) [(.int pp2), (.int pp3), (.int pp4), (.int pp5)] (.int (0 : Int32)) := Arv.set Ar_129 qq_129 Sz_129 Nn_129 Hh_129 Gg_129 rfl W130 3 rfl (Nat.le_of_ble_eq_true rfl)
    have V_131 : Arv Z h130 b113 k113 .int (4 : Int32) [(.int i0), (.int i1), (.int i2), (.int i3)] (.int (0 : Int32)) := (((((V121.ext E122).other W124 (Nat.ne_of_lt (Nat.lt_of_lt_of_le V121.lt (Nat.le_of_eq g122.symm)))).other W126 (Nat.ne_of_lt (Nat.lt_of_lt_of_le V121.lt (Nat.le_of_eq g122.symm)))).other W128 (Nat.ne_of_lt (Nat.lt_of_lt_of_le V121.lt (Nat.le_of_eq g122.symm)))).other W130 (Nat.ne_of_lt (Nat.lt_of_lt_of_le V121.lt (Nat.le_of_eq g122.symm))))
    obtain ⟨_, _, ⟨T132, L132, k132, n132⟩, -, X132, ⟨Lc132, hQ132, l132, y132, z132⟩, st132⟩ := Jvm.LawKit.callS X130 hx (y := (⟨"com/example/splitgrain/splitgrain/parse/ChartItems", "clearPlaces", "([I[I)V"⟩ : MethodName)) hown (mvT hZ (hw _ (List.mem_of_getElem? (i := 1) rfl))) (mvT hZ (hw _ (List.mem_of_getElem? (i := 2) rfl))) (mvT hZ (hw _ (List.mem_of_getElem? (i := 3) rfl))) (mvT hZ (hw _ (List.mem_of_getElem? (i := 4) rfl))) (by decide) (backOf (W := 0) (rm1_4 l Z a0 hw [] b113 b122 k113 k122 [(.int pp2), (.int pp3), (.int pp4), (.int pp5)] i0 i1 i2 i3 h130 n0 Z130 V_131 V130 g_b122 (Nat.ne_of_lt (Nat.lt_of_lt_of_le V121.lt (Nat.le_of_eq g122.symm))) (show [(.int pp2), (.int pp3), (.int pp4), (.int pp5)].length = 4 from rfl) (show ¬ i0 < (0 : Int32) ∧ i0 < (4 : Int32) from h_i0) (show ¬ i1 < (0 : Int32) ∧ i1 < (4 : Int32) from h_i1) (show ¬ i2 < (0 : Int32) ∧ i2 < (4 : Int32) from h_i2) (show ¬ i3 < (0 : Int32) ∧ i3 < (4 : Int32) from h_i3)) hZ (hw _ (List.mem_of_getElem? (i := 4) rfl)) (hw _ (List.mem_of_getElem? (i := 3) rfl)) (by decide) (by decide)) (g := (mkF m 117 #[.val (.int pp1), .val (.int pp2), .val (.int pp3), .val (.int pp4), .val (.int pp5), .val (.int (4 : Int32)), .val (.int i0), .val (.int i1), .val (.int i2), .val (.int i3), .val (.ref b113), .val (.ref b122), .unset, .unset] [(.ref b122), (.ref b113)])) rfl (by rw [hml]; rfl) (argsL := [(.ref b113), (.ref b122)]) (rest := []) (lenOf pd__28__5b_I_5b_I_29_V rfl) rfl (by show 2 * 0 + _ ≤ _; exact Nat.le_of_eq rfl) (hb hby at_117) (fun _ _ => ⟨rfl, e130, (by decide : 2 + 0 ≤ _), (by decide : 8 + 0 ≤ _)⟩)
    dsimp only [Pt.U, Pt.locs, Pt.cells, Pt.slots] at X132 l132 y132 z132 st132 hQ132
    subst l132 y132 z132
    obtain ⟨rfl, N132q, K132c, R132_0⟩ := hQ132
    have N132 := Fr.app N130 N132q
    have Z132 : n0 ≤ T132.heap.size := Nat.le_trans Z130 K132c.1
    obtain ⟨cl_133, Ar_133, -, Sz_133, Nn_133, -, -⟩ := id R132_0
    have hc124_5 : (4 : Int32) = (4 : Int32) := by decide
    obtain ⟨cl_134, Ar_134, qq_134, Sz_134, Nn_134, Hh_134, Gg_134⟩ := id R132_0
    have hin_134 : ¬ ((0 : Int32) < 0 ∨ cl_134.slots.size ≤ ((0 : Int32)).toNatClampNeg) := inb_of Sz_134 ⟨by decide, by decide⟩
    have hat_134 : cl_134.slots[((0 : Int32)).toNatClampNeg]? = some (.int (if i3 = (0 : Int32) then (-1 : Int32) else (if i2 = (0 : Int32) then (-1 : Int32) else (if i1 = (0 : Int32) then (-1 : Int32) else (if i0 = (0 : Int32) then (-1 : Int32) else pp2))))) := Has.at Hh_134 hin_134 (own_getset (by simp only [List.length_set]; rfl) h_i3 ⟨by decide, by decide⟩ (own_getset (by simp only [List.length_set]; rfl) h_i2 ⟨by decide, by decide⟩ (own_getset (by simp only [List.length_set]; rfl) h_i1 ⟨by decide, by decide⟩ (own_getset rfl h_i0 ⟨by decide, by decide⟩ rfl))))
    obtain ⟨_, _, ⟨T135, L135, k135, n135⟩, -, X135, ⟨Lc135, hQ135, l135, y135, z135⟩, st135⟩ := Jvm.LawKit.callS X132 hx (y := (⟨"com/example/splitgrain/splitgrain/parse/ChartItemsClearPlacesPinLaw", "expect", "(IIIIIII)I"⟩ : MethodName)) hown (mvT hZ (hw _ (List.mem_of_getElem? (i := 5) rfl))) (mvT hZ (hw _ (List.mem_of_getElem? (i := 6) rfl))) (mvT hZ (hw _ (List.mem_of_getElem? (i := 7) rfl))) (mvT hZ (hw _ (List.mem_of_getElem? (i := 8) rfl))) (by decide) (backOf (W := 1) (rm2_4 l Z a0 hw [] (0 : Int32) pp2 i0 i1 i2 i3 T132.heap n0 Z132 ) hZ (hw _ (List.mem_of_getElem? (i := 8) rfl)) (hw _ (List.mem_of_getElem? (i := 7) rfl)) (by decide) (by decide)) (g := (mkF m 143 #[.val (.int pp1), .val (.int pp2), .val (.int pp3), .val (.int pp4), .val (.int pp5), .val (.int (4 : Int32)), .val (.int i0), .val (.int i1), .val (.int i2), .val (.int i3), .val (.ref b113), .val (.ref b122), .unset, .unset] [(.int i3), (.int i2), (.int i1), (.int i0), (.int (4 : Int32)), (.int pp2), (.int (0 : Int32)), (.int (if i3 = (0 : Int32) then (-1 : Int32) else (if i2 = (0 : Int32) then (-1 : Int32) else (if i1 = (0 : Int32) then (-1 : Int32) else (if i0 = (0 : Int32) then (-1 : Int32) else pp2)))))])) rfl (by rw [hml]; rfl) (argsL := [(.int (0 : Int32)), (.int pp2), (.int (4 : Int32)), (.int i0), (.int i1), (.int i2), (.int i3)]) (rest := [(.int (if i3 = (0 : Int32) then (-1 : Int32) else (if i2 = (0 : Int32) then (-1 : Int32) else (if i1 = (0 : Int32) then (-1 : Int32) else (if i0 = (0 : Int32) then (-1 : Int32) else pp2)))))]) (lenOf pd__28_IIIIIII_29_I rfl) rfl (by show 2 * 0 + _ ≤ _; exact Nat.le_of_eq rfl) (hb hby at_143) (fun _ _ => ⟨rfl, rfl, (by decide : 2 + 0 ≤ _), (by decide : 8 + 0 ≤ _)⟩)
    dsimp only [Pt.U, Pt.locs, Pt.cells, Pt.slots] at X135 l135 y135 z135 st135 hQ135
    subst l135 y135 z135
    obtain ⟨rfl, N135q, e135⟩ := hQ135
    have N135 := Fr.app N132 N135q
    have hc146_5 : (if i3 = (0 : Int32) then (-1 : Int32) else (if i2 = (0 : Int32) then (-1 : Int32) else (if i1 = (0 : Int32) then (-1 : Int32) else (if i0 = (0 : Int32) then (-1 : Int32) else pp2)))) = (if i0 = (0 : Int32) then (-1 : Int32) else (if i1 = (0 : Int32) then (-1 : Int32) else (if i2 = (0 : Int32) then (-1 : Int32) else (if i3 = (0 : Int32) then (-1 : Int32) else pp2)))) := own_re4 _ _ _ _ _ _ 
    obtain ⟨cl_136, Ar_136, qq_136, Sz_136, Nn_136, Hh_136, Gg_136⟩ := id R132_0
    have hin_136 : ¬ ((1 : Int32) < 0 ∨ cl_136.slots.size ≤ ((1 : Int32)).toNatClampNeg) := inb_of Sz_136 ⟨by decide, by decide⟩
    have hat_136 : cl_136.slots[((1 : Int32)).toNatClampNeg]? = some (.int (if i3 = (1 : Int32) then (-1 : Int32) else (if i2 = (1 : Int32) then (-1 : Int32) else (if i1 = (1 : Int32) then (-1 : Int32) else (if i0 = (1 : Int32) then (-1 : Int32) else pp3))))) := Has.at Hh_136 hin_136 (own_getset (by simp only [List.length_set]; rfl) h_i3 ⟨by decide, by decide⟩ (own_getset (by simp only [List.length_set]; rfl) h_i2 ⟨by decide, by decide⟩ (own_getset (by simp only [List.length_set]; rfl) h_i1 ⟨by decide, by decide⟩ (own_getset rfl h_i0 ⟨by decide, by decide⟩ rfl))))
    obtain ⟨_, _, ⟨T137, L137, k137, n137⟩, -, X137, ⟨Lc137, hQ137, l137, y137, z137⟩, st137⟩ := Jvm.LawKit.callS X135 hx (y := (⟨"com/example/splitgrain/splitgrain/parse/ChartItemsClearPlacesPinLaw", "expect", "(IIIIIII)I"⟩ : MethodName)) hown (mvT hZ (hw _ (List.mem_of_getElem? (i := 5) rfl))) (mvT hZ (hw _ (List.mem_of_getElem? (i := 6) rfl))) (mvT hZ (hw _ (List.mem_of_getElem? (i := 7) rfl))) (mvT hZ (hw _ (List.mem_of_getElem? (i := 8) rfl))) (by decide) (backOf (W := 1) (rm2_4 l Z a0 hw [] (1 : Int32) pp3 i0 i1 i2 i3 T132.heap n0 Z132 ) hZ (hw _ (List.mem_of_getElem? (i := 8) rfl)) (hw _ (List.mem_of_getElem? (i := 7) rfl)) (by decide) (by decide)) (g := (mkF m 165 #[.val (.int pp1), .val (.int pp2), .val (.int pp3), .val (.int pp4), .val (.int pp5), .val (.int (4 : Int32)), .val (.int i0), .val (.int i1), .val (.int i2), .val (.int i3), .val (.ref b113), .val (.ref b122), .unset, .unset] [(.int i3), (.int i2), (.int i1), (.int i0), (.int (4 : Int32)), (.int pp3), (.int (1 : Int32)), (.int (if i3 = (1 : Int32) then (-1 : Int32) else (if i2 = (1 : Int32) then (-1 : Int32) else (if i1 = (1 : Int32) then (-1 : Int32) else (if i0 = (1 : Int32) then (-1 : Int32) else pp3)))))])) rfl (by rw [hml]; rfl) (argsL := [(.int (1 : Int32)), (.int pp3), (.int (4 : Int32)), (.int i0), (.int i1), (.int i2), (.int i3)]) (rest := [(.int (if i3 = (1 : Int32) then (-1 : Int32) else (if i2 = (1 : Int32) then (-1 : Int32) else (if i1 = (1 : Int32) then (-1 : Int32) else (if i0 = (1 : Int32) then (-1 : Int32) else pp3)))))]) (lenOf pd__28_IIIIIII_29_I rfl) rfl (by show 2 * 0 + _ ≤ _; exact Nat.le_of_eq rfl) (hb hby at_165) (fun _ _ => ⟨rfl, e135, (by decide : 2 + 0 ≤ _), (by decide : 8 + 0 ≤ _)⟩)
    dsimp only [Pt.U, Pt.locs, Pt.cells, Pt.slots] at X137 l137 y137 z137 st137 hQ137
    subst l137 y137 z137
    obtain ⟨rfl, N137q, e137⟩ := hQ137
    have N137 := Fr.app N135 N137q
    have hc168_5 : (if i3 = (1 : Int32) then (-1 : Int32) else (if i2 = (1 : Int32) then (-1 : Int32) else (if i1 = (1 : Int32) then (-1 : Int32) else (if i0 = (1 : Int32) then (-1 : Int32) else pp3)))) = (if i0 = (1 : Int32) then (-1 : Int32) else (if i1 = (1 : Int32) then (-1 : Int32) else (if i2 = (1 : Int32) then (-1 : Int32) else (if i3 = (1 : Int32) then (-1 : Int32) else pp3)))) := own_re4 _ _ _ _ _ _ 
    obtain ⟨cl_138, Ar_138, qq_138, Sz_138, Nn_138, Hh_138, Gg_138⟩ := id R132_0
    have hin_138 : ¬ ((2 : Int32) < 0 ∨ cl_138.slots.size ≤ ((2 : Int32)).toNatClampNeg) := inb_of Sz_138 ⟨by decide, by decide⟩
    have hat_138 : cl_138.slots[((2 : Int32)).toNatClampNeg]? = some (.int (if i3 = (2 : Int32) then (-1 : Int32) else (if i2 = (2 : Int32) then (-1 : Int32) else (if i1 = (2 : Int32) then (-1 : Int32) else (if i0 = (2 : Int32) then (-1 : Int32) else pp4))))) := Has.at Hh_138 hin_138 (own_getset (by simp only [List.length_set]; rfl) h_i3 ⟨by decide, by decide⟩ (own_getset (by simp only [List.length_set]; rfl) h_i2 ⟨by decide, by decide⟩ (own_getset (by simp only [List.length_set]; rfl) h_i1 ⟨by decide, by decide⟩ (own_getset rfl h_i0 ⟨by decide, by decide⟩ rfl))))
    obtain ⟨_, _, ⟨T139, L139, k139, n139⟩, -, X139, ⟨Lc139, hQ139, l139, y139, z139⟩, st139⟩ := Jvm.LawKit.callS X137 hx (y := (⟨"com/example/splitgrain/splitgrain/parse/ChartItemsClearPlacesPinLaw", "expect", "(IIIIIII)I"⟩ : MethodName)) hown (mvT hZ (hw _ (List.mem_of_getElem? (i := 5) rfl))) (mvT hZ (hw _ (List.mem_of_getElem? (i := 6) rfl))) (mvT hZ (hw _ (List.mem_of_getElem? (i := 7) rfl))) (mvT hZ (hw _ (List.mem_of_getElem? (i := 8) rfl))) (by decide) (backOf (W := 1) (rm2_4 l Z a0 hw [] (2 : Int32) pp4 i0 i1 i2 i3 T132.heap n0 Z132 ) hZ (hw _ (List.mem_of_getElem? (i := 8) rfl)) (hw _ (List.mem_of_getElem? (i := 7) rfl)) (by decide) (by decide)) (g := (mkF m 187 #[.val (.int pp1), .val (.int pp2), .val (.int pp3), .val (.int pp4), .val (.int pp5), .val (.int (4 : Int32)), .val (.int i0), .val (.int i1), .val (.int i2), .val (.int i3), .val (.ref b113), .val (.ref b122), .unset, .unset] [(.int i3), (.int i2), (.int i1), (.int i0), (.int (4 : Int32)), (.int pp4), (.int (2 : Int32)), (.int (if i3 = (2 : Int32) then (-1 : Int32) else (if i2 = (2 : Int32) then (-1 : Int32) else (if i1 = (2 : Int32) then (-1 : Int32) else (if i0 = (2 : Int32) then (-1 : Int32) else pp4)))))])) rfl (by rw [hml]; rfl) (argsL := [(.int (2 : Int32)), (.int pp4), (.int (4 : Int32)), (.int i0), (.int i1), (.int i2), (.int i3)]) (rest := [(.int (if i3 = (2 : Int32) then (-1 : Int32) else (if i2 = (2 : Int32) then (-1 : Int32) else (if i1 = (2 : Int32) then (-1 : Int32) else (if i0 = (2 : Int32) then (-1 : Int32) else pp4)))))]) (lenOf pd__28_IIIIIII_29_I rfl) rfl (by show 2 * 0 + _ ≤ _; exact Nat.le_of_eq rfl) (hb hby at_187) (fun _ _ => ⟨rfl, e137, (by decide : 2 + 0 ≤ _), (by decide : 8 + 0 ≤ _)⟩)
    dsimp only [Pt.U, Pt.locs, Pt.cells, Pt.slots] at X139 l139 y139 z139 st139 hQ139
    subst l139 y139 z139
    obtain ⟨rfl, N139q, e139⟩ := hQ139
    have N139 := Fr.app N137 N139q
    have hc190_5 : (if i3 = (2 : Int32) then (-1 : Int32) else (if i2 = (2 : Int32) then (-1 : Int32) else (if i1 = (2 : Int32) then (-1 : Int32) else (if i0 = (2 : Int32) then (-1 : Int32) else pp4)))) = (if i0 = (2 : Int32) then (-1 : Int32) else (if i1 = (2 : Int32) then (-1 : Int32) else (if i2 = (2 : Int32) then (-1 : Int32) else (if i3 = (2 : Int32) then (-1 : Int32) else pp4)))) := own_re4 _ _ _ _ _ _ 
    obtain ⟨cl_140, Ar_140, qq_140, Sz_140, Nn_140, Hh_140, Gg_140⟩ := id R132_0
    have hin_140 : ¬ ((3 : Int32) < 0 ∨ cl_140.slots.size ≤ ((3 : Int32)).toNatClampNeg) := inb_of Sz_140 ⟨by decide, by decide⟩
    have hat_140 : cl_140.slots[((3 : Int32)).toNatClampNeg]? = some (.int (if i3 = (3 : Int32) then (-1 : Int32) else (if i2 = (3 : Int32) then (-1 : Int32) else (if i1 = (3 : Int32) then (-1 : Int32) else (if i0 = (3 : Int32) then (-1 : Int32) else pp5))))) := Has.at Hh_140 hin_140 (own_getset (by simp only [List.length_set]; rfl) h_i3 ⟨by decide, by decide⟩ (own_getset (by simp only [List.length_set]; rfl) h_i2 ⟨by decide, by decide⟩ (own_getset (by simp only [List.length_set]; rfl) h_i1 ⟨by decide, by decide⟩ (own_getset rfl h_i0 ⟨by decide, by decide⟩ rfl))))
    obtain ⟨_, _, ⟨T141, L141, k141, n141⟩, -, X141, ⟨Lc141, hQ141, l141, y141, z141⟩, st141⟩ := Jvm.LawKit.callS X139 hx (y := (⟨"com/example/splitgrain/splitgrain/parse/ChartItemsClearPlacesPinLaw", "expect", "(IIIIIII)I"⟩ : MethodName)) hown (mvT hZ (hw _ (List.mem_of_getElem? (i := 5) rfl))) (mvT hZ (hw _ (List.mem_of_getElem? (i := 6) rfl))) (mvT hZ (hw _ (List.mem_of_getElem? (i := 7) rfl))) (mvT hZ (hw _ (List.mem_of_getElem? (i := 8) rfl))) (by decide) (backOf (W := 1) (rm2_4 l Z a0 hw [] (3 : Int32) pp5 i0 i1 i2 i3 T132.heap n0 Z132 ) hZ (hw _ (List.mem_of_getElem? (i := 8) rfl)) (hw _ (List.mem_of_getElem? (i := 7) rfl)) (by decide) (by decide)) (g := (mkF m 210 #[.val (.int pp1), .val (.int pp2), .val (.int pp3), .val (.int pp4), .val (.int pp5), .val (.int (4 : Int32)), .val (.int i0), .val (.int i1), .val (.int i2), .val (.int i3), .val (.ref b113), .val (.ref b122), .unset, .unset] [(.int i3), (.int i2), (.int i1), (.int i0), (.int (4 : Int32)), (.int pp5), (.int (3 : Int32)), (.int (if i3 = (3 : Int32) then (-1 : Int32) else (if i2 = (3 : Int32) then (-1 : Int32) else (if i1 = (3 : Int32) then (-1 : Int32) else (if i0 = (3 : Int32) then (-1 : Int32) else pp5)))))])) rfl (by rw [hml]; rfl) (argsL := [(.int (3 : Int32)), (.int pp5), (.int (4 : Int32)), (.int i0), (.int i1), (.int i2), (.int i3)]) (rest := [(.int (if i3 = (3 : Int32) then (-1 : Int32) else (if i2 = (3 : Int32) then (-1 : Int32) else (if i1 = (3 : Int32) then (-1 : Int32) else (if i0 = (3 : Int32) then (-1 : Int32) else pp5)))))]) (lenOf pd__28_IIIIIII_29_I rfl) rfl (by show 2 * 0 + _ ≤ _; exact Nat.le_of_eq rfl) (hb hby at_210) (fun _ _ => ⟨rfl, e139, (by decide : 2 + 0 ≤ _), (by decide : 8 + 0 ≤ _)⟩)
    dsimp only [Pt.U, Pt.locs, Pt.cells, Pt.slots] at X141 l141 y141 z141 st141 hQ141
    subst l141 y141 z141
    obtain ⟨rfl, N141q, e141⟩ := hQ141
    have N141 := Fr.app N139 N141q
    have hc213_5 : (if i3 = (3 : Int32) then (-1 : Int32) else (if i2 = (3 : Int32) then (-1 : Int32) else (if i1 = (3 : Int32) then (-1 : Int32) else (if i0 = (3 : Int32) then (-1 : Int32) else pp5)))) = (if i0 = (3 : Int32) then (-1 : Int32) else (if i1 = (3 : Int32) then (-1 : Int32) else (if i2 = (3 : Int32) then (-1 : Int32) else (if i3 = (3 : Int32) then (-1 : Int32) else pp5)))) := own_re4 _ _ _ _ _ _ 
    have V_142 : Arv Z T132.heap b113 k113 .int (4 : Int32) [(.int i0), (.int i1), (.int i2), (.int i3)] (.int (0 : Int32)) := (V_131.keep K132c (ninS (Nat.ne_of_lt (Nat.lt_of_lt_of_le V121.lt (Nat.le_of_eq g122.symm))) nin0))
    obtain ⟨cl_143, Ar_143, -, Sz_143, Nn_143, -, -⟩ := id V_142
    have hc228_5 : (4 : Int32) = (4 : Int32) := by decide
    have hc233_5 : (0 : Int32) < (4 : Int32) := by decide
    obtain ⟨cl_144, Ar_144, qq_144, Sz_144, Nn_144, Hh_144, Gg_144⟩ := id V_142
    have hin_144 : ¬ ((0 : Int32) < 0 ∨ cl_144.slots.size ≤ ((0 : Int32)).toNatClampNeg) := inb_of Sz_144 ⟨by decide, by decide⟩
    have hat_144 : cl_144.slots[((0 : Int32)).toNatClampNeg]? = some (.int i0) := Has.at Hh_144 hin_144 rfl
    have hc248_5 : (1 : Int32) < (4 : Int32) := by decide
    obtain ⟨cl_145, Ar_145, qq_145, Sz_145, Nn_145, Hh_145, Gg_145⟩ := id V_142
    have hin_145 : ¬ ((1 : Int32) < 0 ∨ cl_145.slots.size ≤ ((1 : Int32)).toNatClampNeg) := inb_of Sz_145 ⟨by decide, by decide⟩
    have hat_145 : cl_145.slots[((1 : Int32)).toNatClampNeg]? = some (.int i1) := Has.at Hh_145 hin_145 rfl
    have hc263_5 : (2 : Int32) < (4 : Int32) := by decide
    obtain ⟨cl_146, Ar_146, qq_146, Sz_146, Nn_146, Hh_146, Gg_146⟩ := id V_142
    have hin_146 : ¬ ((2 : Int32) < 0 ∨ cl_146.slots.size ≤ ((2 : Int32)).toNatClampNeg) := inb_of Sz_146 ⟨by decide, by decide⟩
    have hat_146 : cl_146.slots[((2 : Int32)).toNatClampNeg]? = some (.int i2) := Has.at Hh_146 hin_146 rfl
    have hc278_5 : (3 : Int32) < (4 : Int32) := by decide
    obtain ⟨cl_147, Ar_147, qq_147, Sz_147, Nn_147, Hh_147, Gg_147⟩ := id V_142
    have hin_147 : ¬ ((3 : Int32) < 0 ∨ cl_147.slots.size ≤ ((3 : Int32)).toNatClampNeg) := inb_of Sz_147 ⟨by decide, by decide⟩
    have hat_147 : cl_147.slots[((3 : Int32)).toNatClampNeg]? = some (.int i3) := Has.at Hh_147 hin_147 rfl
    have hc299_5 : ¬ ((1 : Int32) = (0 : Int32)) := by decide
    have hc304_5 : ¬ ((1 : Int32) = (0 : Int32)) := by decide
    obtain ⟨fs, hr, hrun, hended, hW, hsame⟩ := X141.leave (v := some (.int (1 : Int32))) (fun h => by rw [Bd.returns] at h; cases h)
    refine ⟨_, _, pre2 _ ?_, hrun, hended, _, _, rfl, ?_, ⟨_, rfl⟩, hW, hsame.mono (by decide) (by decide)⟩
    · show Steps p.tables e below (s₁.setTop (mkF m 38 #[.val (.int pp1), .val (.int pp2), .val (.int pp3), .val (.int pp4), .val (.int pp5), .val (.int (4 : Int32)), .val (.int i0), .val (.int i1), .val (.int i2), .val (.int i3), .unset, .unset, .unset, .unset] [])) _
      refine XS.iload X0.here hx rfl (hb hby at_38) rfl ?_
      show Steps p.tables e below (s₁.setTop (mkF m 40 #[.val (.int pp1), .val (.int pp2), .val (.int pp3), .val (.int pp4), .val (.int pp5), .val (.int (4 : Int32)), .val (.int i0), .val (.int i1), .val (.int i2), .val (.int i3), .unset, .unset, .unset, .unset] [(.int (4 : Int32))])) _
      refine st113 _ ?_
      show Steps p.tables e below (T113.setTop (mkF m 42 #[.val (.int pp1), .val (.int pp2), .val (.int pp3), .val (.int pp4), .val (.int pp5), .val (.int (4 : Int32)), .val (.int i0), .val (.int i1), .val (.int i2), .val (.int i3), .unset, .unset, .unset, .unset] [(.ref b113)])) _
      refine XS.astore X113.here hx rfl (hb hby at_42) rfl rfl (l' := #[.val (.int pp1), .val (.int pp2), .val (.int pp3), .val (.int pp4), .val (.int pp5), .val (.int (4 : Int32)), .val (.int i0), .val (.int i1), .val (.int i2), .val (.int i3), .val (.ref b113), .unset, .unset, .unset]) rfl ?_
      show Steps p.tables e below (T113.setTop (mkF m 44 #[.val (.int pp1), .val (.int pp2), .val (.int pp3), .val (.int pp4), .val (.int pp5), .val (.int (4 : Int32)), .val (.int i0), .val (.int i1), .val (.int i2), .val (.int i3), .val (.ref b113), .unset, .unset, .unset] [])) _
      refine XS.iload X113.here hx rfl (hb hby at_44) rfl ?_
      show Steps p.tables e below (T113.setTop (mkF m 46 #[.val (.int pp1), .val (.int pp2), .val (.int pp3), .val (.int pp4), .val (.int pp5), .val (.int (4 : Int32)), .val (.int i0), .val (.int i1), .val (.int i2), .val (.int i3), .val (.ref b113), .unset, .unset, .unset] [(.int (4 : Int32))])) _
      refine XS.ifNo X113.here hx rfl (hb hby at_46) rfl ((if0 _ _).trans (tlt hc46_5).2.2.2) ?_
      show Steps p.tables e below (T113.setTop (mkF m 49 #[.val (.int pp1), .val (.int pp2), .val (.int pp3), .val (.int pp4), .val (.int pp5), .val (.int (4 : Int32)), .val (.int i0), .val (.int i1), .val (.int i2), .val (.int i3), .val (.ref b113), .unset, .unset, .unset] [])) _
      refine XS.aload X113.here hx rfl (hb hby at_49) rfl rfl ?_
      show Steps p.tables e below (T113.setTop (mkF m 51 #[.val (.int pp1), .val (.int pp2), .val (.int pp3), .val (.int pp4), .val (.int pp5), .val (.int (4 : Int32)), .val (.int i0), .val (.int i1), .val (.int i2), .val (.int i3), .val (.ref b113), .unset, .unset, .unset] [(.ref b113)])) _
      refine XS.iconst X113.here hx rfl (hb hby at_51) ?_
      show Steps p.tables e below (T113.setTop (mkF m 52 #[.val (.int pp1), .val (.int pp2), .val (.int pp3), .val (.int pp4), .val (.int pp5), .val (.int (4 : Int32)), .val (.int i0), .val (.int i1), .val (.int i2), .val (.int i3), .val (.ref b113), .unset, .unset, .unset] [(.int (0 : Int32)), (.ref b113)])) _
      refine XS.iload X113.here hx rfl (hb hby at_52) rfl ?_
      show Steps p.tables e below (T113.setTop (mkF m 54 #[.val (.int pp1), .val (.int pp2), .val (.int pp3), .val (.int pp4), .val (.int pp5), .val (.int (4 : Int32)), .val (.int i0), .val (.int i1), .val (.int i2), .val (.int i3), .val (.ref b113), .unset, .unset, .unset] [(.int i0), (.int (0 : Int32)), (.ref b113)])) _
      refine st115 _ ?_
      show Steps p.tables e below (T115.setTop (mkF m 55 #[.val (.int pp1), .val (.int pp2), .val (.int pp3), .val (.int pp4), .val (.int pp5), .val (.int (4 : Int32)), .val (.int i0), .val (.int i1), .val (.int i2), .val (.int i3), .val (.ref b113), .unset, .unset, .unset] [])) _
      refine XS.iload X115.here hx rfl (hb hby at_55) rfl ?_
      show Steps p.tables e below (T115.setTop (mkF m 57 #[.val (.int pp1), .val (.int pp2), .val (.int pp3), .val (.int pp4), .val (.int pp5), .val (.int (4 : Int32)), .val (.int i0), .val (.int i1), .val (.int i2), .val (.int i3), .val (.ref b113), .unset, .unset, .unset] [(.int (4 : Int32))])) _
      refine XS.iconst X115.here hx rfl (hb hby at_57) ?_
      show Steps p.tables e below (T115.setTop (mkF m 58 #[.val (.int pp1), .val (.int pp2), .val (.int pp3), .val (.int pp4), .val (.int pp5), .val (.int (4 : Int32)), .val (.int i0), .val (.int i1), .val (.int i2), .val (.int i3), .val (.ref b113), .unset, .unset, .unset] [(.int (1 : Int32)), (.int (4 : Int32))])) _
      refine XS.icmpNo X115.here hx rfl (hb hby at_58) rfl (tlt hc58_5).2.2.2 ?_
      show Steps p.tables e below (T115.setTop (mkF m 61 #[.val (.int pp1), .val (.int pp2), .val (.int pp3), .val (.int pp4), .val (.int pp5), .val (.int (4 : Int32)), .val (.int i0), .val (.int i1), .val (.int i2), .val (.int i3), .val (.ref b113), .unset, .unset, .unset] [])) _
      refine XS.aload X115.here hx rfl (hb hby at_61) rfl rfl ?_
      show Steps p.tables e below (T115.setTop (mkF m 63 #[.val (.int pp1), .val (.int pp2), .val (.int pp3), .val (.int pp4), .val (.int pp5), .val (.int (4 : Int32)), .val (.int i0), .val (.int i1), .val (.int i2), .val (.int i3), .val (.ref b113), .unset, .unset, .unset] [(.ref b113)])) _
      refine XS.iconst X115.here hx rfl (hb hby at_63) ?_
      show Steps p.tables e below (T115.setTop (mkF m 64 #[.val (.int pp1), .val (.int pp2), .val (.int pp3), .val (.int pp4), .val (.int pp5), .val (.int (4 : Int32)), .val (.int i0), .val (.int i1), .val (.int i2), .val (.int i3), .val (.ref b113), .unset, .unset, .unset] [(.int (1 : Int32)), (.ref b113)])) _
      refine XS.iload X115.here hx rfl (hb hby at_64) rfl ?_
      show Steps p.tables e below (T115.setTop (mkF m 66 #[.val (.int pp1), .val (.int pp2), .val (.int pp3), .val (.int pp4), .val (.int pp5), .val (.int (4 : Int32)), .val (.int i0), .val (.int i1), .val (.int i2), .val (.int i3), .val (.ref b113), .unset, .unset, .unset] [(.int i1), (.int (1 : Int32)), (.ref b113)])) _
      refine st117 _ ?_
      show Steps p.tables e below (T117.setTop (mkF m 67 #[.val (.int pp1), .val (.int pp2), .val (.int pp3), .val (.int pp4), .val (.int pp5), .val (.int (4 : Int32)), .val (.int i0), .val (.int i1), .val (.int i2), .val (.int i3), .val (.ref b113), .unset, .unset, .unset] [])) _
      refine XS.iload X117.here hx rfl (hb hby at_67) rfl ?_
      show Steps p.tables e below (T117.setTop (mkF m 69 #[.val (.int pp1), .val (.int pp2), .val (.int pp3), .val (.int pp4), .val (.int pp5), .val (.int (4 : Int32)), .val (.int i0), .val (.int i1), .val (.int i2), .val (.int i3), .val (.ref b113), .unset, .unset, .unset] [(.int (4 : Int32))])) _
      refine XS.iconst X117.here hx rfl (hb hby at_69) ?_
      show Steps p.tables e below (T117.setTop (mkF m 70 #[.val (.int pp1), .val (.int pp2), .val (.int pp3), .val (.int pp4), .val (.int pp5), .val (.int (4 : Int32)), .val (.int i0), .val (.int i1), .val (.int i2), .val (.int i3), .val (.ref b113), .unset, .unset, .unset] [(.int (2 : Int32)), (.int (4 : Int32))])) _
      refine XS.icmpNo X117.here hx rfl (hb hby at_70) rfl (tlt hc70_5).2.2.2 ?_
      show Steps p.tables e below (T117.setTop (mkF m 73 #[.val (.int pp1), .val (.int pp2), .val (.int pp3), .val (.int pp4), .val (.int pp5), .val (.int (4 : Int32)), .val (.int i0), .val (.int i1), .val (.int i2), .val (.int i3), .val (.ref b113), .unset, .unset, .unset] [])) _
      refine XS.aload X117.here hx rfl (hb hby at_73) rfl rfl ?_
      show Steps p.tables e below (T117.setTop (mkF m 75 #[.val (.int pp1), .val (.int pp2), .val (.int pp3), .val (.int pp4), .val (.int pp5), .val (.int (4 : Int32)), .val (.int i0), .val (.int i1), .val (.int i2), .val (.int i3), .val (.ref b113), .unset, .unset, .unset] [(.ref b113)])) _
      refine XS.iconst X117.here hx rfl (hb hby at_75) ?_
      show Steps p.tables e below (T117.setTop (mkF m 76 #[.val (.int pp1), .val (.int pp2), .val (.int pp3), .val (.int pp4), .val (.int pp5), .val (.int (4 : Int32)), .val (.int i0), .val (.int i1), .val (.int i2), .val (.int i3), .val (.ref b113), .unset, .unset, .unset] [(.int (2 : Int32)), (.ref b113)])) _
      refine XS.iload X117.here hx rfl (hb hby at_76) rfl ?_
      show Steps p.tables e below (T117.setTop (mkF m 78 #[.val (.int pp1), .val (.int pp2), .val (.int pp3), .val (.int pp4), .val (.int pp5), .val (.int (4 : Int32)), .val (.int i0), .val (.int i1), .val (.int i2), .val (.int i3), .val (.ref b113), .unset, .unset, .unset] [(.int i2), (.int (2 : Int32)), (.ref b113)])) _
      refine st119 _ ?_
      show Steps p.tables e below (T119.setTop (mkF m 79 #[.val (.int pp1), .val (.int pp2), .val (.int pp3), .val (.int pp4), .val (.int pp5), .val (.int (4 : Int32)), .val (.int i0), .val (.int i1), .val (.int i2), .val (.int i3), .val (.ref b113), .unset, .unset, .unset] [])) _
      refine XS.iload X119.here hx rfl (hb hby at_79) rfl ?_
      show Steps p.tables e below (T119.setTop (mkF m 81 #[.val (.int pp1), .val (.int pp2), .val (.int pp3), .val (.int pp4), .val (.int pp5), .val (.int (4 : Int32)), .val (.int i0), .val (.int i1), .val (.int i2), .val (.int i3), .val (.ref b113), .unset, .unset, .unset] [(.int (4 : Int32))])) _
      refine XS.iconst X119.here hx rfl (hb hby at_81) ?_
      show Steps p.tables e below (T119.setTop (mkF m 82 #[.val (.int pp1), .val (.int pp2), .val (.int pp3), .val (.int pp4), .val (.int pp5), .val (.int (4 : Int32)), .val (.int i0), .val (.int i1), .val (.int i2), .val (.int i3), .val (.ref b113), .unset, .unset, .unset] [(.int (3 : Int32)), (.int (4 : Int32))])) _
      refine XS.icmpNo X119.here hx rfl (hb hby at_82) rfl (tlt hc82_5).2.2.2 ?_
      show Steps p.tables e below (T119.setTop (mkF m 85 #[.val (.int pp1), .val (.int pp2), .val (.int pp3), .val (.int pp4), .val (.int pp5), .val (.int (4 : Int32)), .val (.int i0), .val (.int i1), .val (.int i2), .val (.int i3), .val (.ref b113), .unset, .unset, .unset] [])) _
      refine XS.aload X119.here hx rfl (hb hby at_85) rfl rfl ?_
      show Steps p.tables e below (T119.setTop (mkF m 87 #[.val (.int pp1), .val (.int pp2), .val (.int pp3), .val (.int pp4), .val (.int pp5), .val (.int (4 : Int32)), .val (.int i0), .val (.int i1), .val (.int i2), .val (.int i3), .val (.ref b113), .unset, .unset, .unset] [(.ref b113)])) _
      refine XS.iconst X119.here hx rfl (hb hby at_87) ?_
      show Steps p.tables e below (T119.setTop (mkF m 88 #[.val (.int pp1), .val (.int pp2), .val (.int pp3), .val (.int pp4), .val (.int pp5), .val (.int (4 : Int32)), .val (.int i0), .val (.int i1), .val (.int i2), .val (.int i3), .val (.ref b113), .unset, .unset, .unset] [(.int (3 : Int32)), (.ref b113)])) _
      refine XS.iload X119.here hx rfl (hb hby at_88) rfl ?_
      show Steps p.tables e below (T119.setTop (mkF m 90 #[.val (.int pp1), .val (.int pp2), .val (.int pp3), .val (.int pp4), .val (.int pp5), .val (.int (4 : Int32)), .val (.int i0), .val (.int i1), .val (.int i2), .val (.int i3), .val (.ref b113), .unset, .unset, .unset] [(.int i3), (.int (3 : Int32)), (.ref b113)])) _
      refine st121 _ ?_
      show Steps p.tables e below (T121.setTop (mkF m 91 #[.val (.int pp1), .val (.int pp2), .val (.int pp3), .val (.int pp4), .val (.int pp5), .val (.int (4 : Int32)), .val (.int i0), .val (.int i1), .val (.int i2), .val (.int i3), .val (.ref b113), .unset, .unset, .unset] [])) _
      refine XS.iconst X121.here hx rfl (hb hby at_91) ?_
      show Steps p.tables e below (T121.setTop (mkF m 92 #[.val (.int pp1), .val (.int pp2), .val (.int pp3), .val (.int pp4), .val (.int pp5), .val (.int (4 : Int32)), .val (.int i0), .val (.int i1), .val (.int i2), .val (.int i3), .val (.ref b113), .unset, .unset, .unset] [(.int (4 : Int32))])) _
      refine st122 _ ?_
      show Steps p.tables e below (T122.setTop (mkF m 94 #[.val (.int pp1), .val (.int pp2), .val (.int pp3), .val (.int pp4), .val (.int pp5), .val (.int (4 : Int32)), .val (.int i0), .val (.int i1), .val (.int i2), .val (.int i3), .val (.ref b113), .unset, .unset, .unset] [(.ref b122)])) _
      refine XS.dup X122.here hx rfl (hb hby at_94) rfl rfl ?_
      show Steps p.tables e below (T122.setTop (mkF m 95 #[.val (.int pp1), .val (.int pp2), .val (.int pp3), .val (.int pp4), .val (.int pp5), .val (.int (4 : Int32)), .val (.int i0), .val (.int i1), .val (.int i2), .val (.int i3), .val (.ref b113), .unset, .unset, .unset] [(.ref b122), (.ref b122)])) _
      refine XS.iconst X122.here hx rfl (hb hby at_95) ?_
      show Steps p.tables e below (T122.setTop (mkF m 96 #[.val (.int pp1), .val (.int pp2), .val (.int pp3), .val (.int pp4), .val (.int pp5), .val (.int (4 : Int32)), .val (.int i0), .val (.int i1), .val (.int i2), .val (.int i3), .val (.ref b113), .unset, .unset, .unset] [(.int (0 : Int32)), (.ref b122), (.ref b122)])) _
      refine XS.iloadN X122.here hx rfl (hb hby at_96) rfl ?_
      show Steps p.tables e below (T122.setTop (mkF m 97 #[.val (.int pp1), .val (.int pp2), .val (.int pp3), .val (.int pp4), .val (.int pp5), .val (.int (4 : Int32)), .val (.int i0), .val (.int i1), .val (.int i2), .val (.int i3), .val (.ref b113), .unset, .unset, .unset] [(.int pp2), (.int (0 : Int32)), (.ref b122), (.ref b122)])) _
      refine st124 _ ?_
      show Steps p.tables e below (T124.setTop (mkF m 98 #[.val (.int pp1), .val (.int pp2), .val (.int pp3), .val (.int pp4), .val (.int pp5), .val (.int (4 : Int32)), .val (.int i0), .val (.int i1), .val (.int i2), .val (.int i3), .val (.ref b113), .unset, .unset, .unset] [(.ref b122)])) _
      refine XS.dup X124.here hx rfl (hb hby at_98) rfl rfl ?_
      show Steps p.tables e below (T124.setTop (mkF m 99 #[.val (.int pp1), .val (.int pp2), .val (.int pp3), .val (.int pp4), .val (.int pp5), .val (.int (4 : Int32)), .val (.int i0), .val (.int i1), .val (.int i2), .val (.int i3), .val (.ref b113), .unset, .unset, .unset] [(.ref b122), (.ref b122)])) _
      refine XS.iconst X124.here hx rfl (hb hby at_99) ?_
      show Steps p.tables e below (T124.setTop (mkF m 100 #[.val (.int pp1), .val (.int pp2), .val (.int pp3), .val (.int pp4), .val (.int pp5), .val (.int (4 : Int32)), .val (.int i0), .val (.int i1), .val (.int i2), .val (.int i3), .val (.ref b113), .unset, .unset, .unset] [(.int (1 : Int32)), (.ref b122), (.ref b122)])) _
      refine XS.iloadN X124.here hx rfl (hb hby at_100) rfl ?_
      show Steps p.tables e below (T124.setTop (mkF m 101 #[.val (.int pp1), .val (.int pp2), .val (.int pp3), .val (.int pp4), .val (.int pp5), .val (.int (4 : Int32)), .val (.int i0), .val (.int i1), .val (.int i2), .val (.int i3), .val (.ref b113), .unset, .unset, .unset] [(.int pp3), (.int (1 : Int32)), (.ref b122), (.ref b122)])) _
      refine st126 _ ?_
      show Steps p.tables e below (T126.setTop (mkF m 102 #[.val (.int pp1), .val (.int pp2), .val (.int pp3), .val (.int pp4), .val (.int pp5), .val (.int (4 : Int32)), .val (.int i0), .val (.int i1), .val (.int i2), .val (.int i3), .val (.ref b113), .unset, .unset, .unset] [(.ref b122)])) _
      refine XS.dup X126.here hx rfl (hb hby at_102) rfl rfl ?_
      show Steps p.tables e below (T126.setTop (mkF m 103 #[.val (.int pp1), .val (.int pp2), .val (.int pp3), .val (.int pp4), .val (.int pp5), .val (.int (4 : Int32)), .val (.int i0), .val (.int i1), .val (.int i2), .val (.int i3), .val (.ref b113), .unset, .unset, .unset] [(.ref b122), (.ref b122)])) _
      refine XS.iconst X126.here hx rfl (hb hby at_103) ?_
      show Steps p.tables e below (T126.setTop (mkF m 104 #[.val (.int pp1), .val (.int pp2), .val (.int pp3), .val (.int pp4), .val (.int pp5), .val (.int (4 : Int32)), .val (.int i0), .val (.int i1), .val (.int i2), .val (.int i3), .val (.ref b113), .unset, .unset, .unset] [(.int (2 : Int32)), (.ref b122), (.ref b122)])) _
      refine XS.iloadN X126.here hx rfl (hb hby at_104) rfl ?_
      show Steps p.tables e below (T126.setTop (mkF m 105 #[.val (.int pp1), .val (.int pp2), .val (.int pp3), .val (.int pp4), .val (.int pp5), .val (.int (4 : Int32)), .val (.int i0), .val (.int i1), .val (.int i2), .val (.int i3), .val (.ref b113), .unset, .unset, .unset] [(.int pp4), (.int (2 : Int32)), (.ref b122), (.ref b122)])) _
      refine st128 _ ?_
      show Steps p.tables e below (T128.setTop (mkF m 106 #[.val (.int pp1), .val (.int pp2), .val (.int pp3), .val (.int pp4), .val (.int pp5), .val (.int (4 : Int32)), .val (.int i0), .val (.int i1), .val (.int i2), .val (.int i3), .val (.ref b113), .unset, .unset, .unset] [(.ref b122)])) _
      refine XS.dup X128.here hx rfl (hb hby at_106) rfl rfl ?_
      show Steps p.tables e below (T128.setTop (mkF m 107 #[.val (.int pp1), .val (.int pp2), .val (.int pp3), .val (.int pp4), .val (.int pp5), .val (.int (4 : Int32)), .val (.int i0), .val (.int i1), .val (.int i2), .val (.int i3), .val (.ref b113), .unset, .unset, .unset] [(.ref b122), (.ref b122)])) _
      refine XS.iconst X128.here hx rfl (hb hby at_107) ?_
      show Steps p.tables e below (T128.setTop (mkF m 108 #[.val (.int pp1), .val (.int pp2), .val (.int pp3), .val (.int pp4), .val (.int pp5), .val (.int (4 : Int32)), .val (.int i0), .val (.int i1), .val (.int i2), .val (.int i3), .val (.ref b113), .unset, .unset, .unset] [(.int (3 : Int32)), (.ref b122), (.ref b122)])) _
      refine XS.iload X128.here hx rfl (hb hby at_108) rfl ?_
      show Steps p.tables e below (T128.setTop (mkF m 110 #[.val (.int pp1), .val (.int pp2), .val (.int pp3), .val (.int pp4), .val (.int pp5), .val (.int (4 : Int32)), .val (.int i0), .val (.int i1), .val (.int i2), .val (.int i3), .val (.ref b113), .unset, .unset, .unset] [(.int pp5), (.int (3 : Int32)), (.ref b122), (.ref b122)])) _
      refine st130 _ ?_
      show Steps p.tables e below (T130.setTop (mkF m 111 #[.val (.int pp1), .val (.int pp2), .val (.int pp3), .val (.int pp4), .val (.int pp5), .val (.int (4 : Int32)), .val (.int i0), .val (.int i1), .val (.int i2), .val (.int i3), .val (.ref b113), .unset, .unset, .unset] [(.ref b122)])) _
      refine XS.astore X130.here hx rfl (hb hby at_111) rfl rfl (l' := #[.val (.int pp1), .val (.int pp2), .val (.int pp3), .val (.int pp4), .val (.int pp5), .val (.int (4 : Int32)), .val (.int i0), .val (.int i1), .val (.int i2), .val (.int i3), .val (.ref b113), .val (.ref b122), .unset, .unset]) rfl ?_
      show Steps p.tables e below (T130.setTop (mkF m 113 #[.val (.int pp1), .val (.int pp2), .val (.int pp3), .val (.int pp4), .val (.int pp5), .val (.int (4 : Int32)), .val (.int i0), .val (.int i1), .val (.int i2), .val (.int i3), .val (.ref b113), .val (.ref b122), .unset, .unset] [])) _
      refine XS.aload X130.here hx rfl (hb hby at_113) rfl rfl ?_
      show Steps p.tables e below (T130.setTop (mkF m 115 #[.val (.int pp1), .val (.int pp2), .val (.int pp3), .val (.int pp4), .val (.int pp5), .val (.int (4 : Int32)), .val (.int i0), .val (.int i1), .val (.int i2), .val (.int i3), .val (.ref b113), .val (.ref b122), .unset, .unset] [(.ref b113)])) _
      refine XS.aload X130.here hx rfl (hb hby at_115) rfl rfl ?_
      show Steps p.tables e below (T130.setTop (mkF m 117 #[.val (.int pp1), .val (.int pp2), .val (.int pp3), .val (.int pp4), .val (.int pp5), .val (.int (4 : Int32)), .val (.int i0), .val (.int i1), .val (.int i2), .val (.int i3), .val (.ref b113), .val (.ref b122), .unset, .unset] [(.ref b122), (.ref b113)])) _
      refine st132 _ ?_
      show Steps p.tables e below (T132.setTop (mkF m 120 #[.val (.int pp1), .val (.int pp2), .val (.int pp3), .val (.int pp4), .val (.int pp5), .val (.int (4 : Int32)), .val (.int i0), .val (.int i1), .val (.int i2), .val (.int i3), .val (.ref b113), .val (.ref b122), .unset, .unset] [])) _
      refine XS.aload X132.here hx rfl (hb hby at_120) rfl rfl ?_
      show Steps p.tables e below (T132.setTop (mkF m 122 #[.val (.int pp1), .val (.int pp2), .val (.int pp3), .val (.int pp4), .val (.int pp5), .val (.int (4 : Int32)), .val (.int i0), .val (.int i1), .val (.int i2), .val (.int i3), .val (.ref b113), .val (.ref b122), .unset, .unset] [(.ref b122)])) _
      refine X132.arraylength hx (Ar_133.1) (State.isArrayOf_alike hZ.alike Ar_133.2.1) (g := (mkF m 122 #[.val (.int pp1), .val (.int pp2), .val (.int pp3), .val (.int pp4), .val (.int pp5), .val (.int (4 : Int32)), .val (.int i0), .val (.int i1), .val (.int i2), .val (.int i3), .val (.ref b113), .val (.ref b122), .unset, .unset] [(.ref b122)])) rfl rfl (hb hby at_122) _ ?_
      rw [len_of Sz_133 Nn_133]
      show Steps p.tables e below (T132.setTop (mkF m 123 #[.val (.int pp1), .val (.int pp2), .val (.int pp3), .val (.int pp4), .val (.int pp5), .val (.int (4 : Int32)), .val (.int i0), .val (.int i1), .val (.int i2), .val (.int i3), .val (.ref b113), .val (.ref b122), .unset, .unset] [(.int (4 : Int32))])) _
      refine XS.iconst X132.here hx rfl (hb hby at_123) ?_
      show Steps p.tables e below (T132.setTop (mkF m 124 #[.val (.int pp1), .val (.int pp2), .val (.int pp3), .val (.int pp4), .val (.int pp5), .val (.int (4 : Int32)), .val (.int i0), .val (.int i1), .val (.int i2), .val (.int i3), .val (.ref b113), .val (.ref b122), .unset, .unset] [(.int (4 : Int32)), (.int (4 : Int32))])) _
      refine XS.icmpNo X132.here hx rfl (hb hby at_124) rfl (teq hc124_5).2 ?_
      show Steps p.tables e below (T132.setTop (mkF m 127 #[.val (.int pp1), .val (.int pp2), .val (.int pp3), .val (.int pp4), .val (.int pp5), .val (.int (4 : Int32)), .val (.int i0), .val (.int i1), .val (.int i2), .val (.int i3), .val (.ref b113), .val (.ref b122), .unset, .unset] [])) _
      refine XS.aload X132.here hx rfl (hb hby at_127) rfl rfl ?_
      show Steps p.tables e below (T132.setTop (mkF m 129 #[.val (.int pp1), .val (.int pp2), .val (.int pp3), .val (.int pp4), .val (.int pp5), .val (.int (4 : Int32)), .val (.int i0), .val (.int i1), .val (.int i2), .val (.int i3), .val (.ref b113), .val (.ref b122), .unset, .unset] [(.ref b122)])) _
      refine XS.iconst X132.here hx rfl (hb hby at_129) ?_
      show Steps p.tables e below (T132.setTop (mkF m 130 #[.val (.int pp1), .val (.int pp2), .val (.int pp3), .val (.int pp4), .val (.int pp5), .val (.int (4 : Int32)), .val (.int i0), .val (.int i1), .val (.int i2), .val (.int i3), .val (.ref b113), .val (.ref b122), .unset, .unset] [(.int (0 : Int32)), (.ref b122)])) _
      refine X132.iaload hx (j := (0 : Int32)) (v := (.int (if i3 = (0 : Int32) then (-1 : Int32) else (if i2 = (0 : Int32) then (-1 : Int32) else (if i1 = (0 : Int32) then (-1 : Int32) else (if i0 = (0 : Int32) then (-1 : Int32) else pp2)))))) (Ar_134.1) (State.isArrayOf_alike hZ.alike Ar_134.2.1) Ar_134.2.2 hin_134 hat_134 (g := (mkF m 130 #[.val (.int pp1), .val (.int pp2), .val (.int pp3), .val (.int pp4), .val (.int pp5), .val (.int (4 : Int32)), .val (.int i0), .val (.int i1), .val (.int i2), .val (.int i3), .val (.ref b113), .val (.ref b122), .unset, .unset] [(.int (0 : Int32)), (.ref b122)])) rfl rfl (hb hby at_130) _ ?_
      show Steps p.tables e below (T132.setTop (mkF m 131 #[.val (.int pp1), .val (.int pp2), .val (.int pp3), .val (.int pp4), .val (.int pp5), .val (.int (4 : Int32)), .val (.int i0), .val (.int i1), .val (.int i2), .val (.int i3), .val (.ref b113), .val (.ref b122), .unset, .unset] [(.int (if i3 = (0 : Int32) then (-1 : Int32) else (if i2 = (0 : Int32) then (-1 : Int32) else (if i1 = (0 : Int32) then (-1 : Int32) else (if i0 = (0 : Int32) then (-1 : Int32) else pp2)))))])) _
      refine XS.iconst X132.here hx rfl (hb hby at_131) ?_
      show Steps p.tables e below (T132.setTop (mkF m 132 #[.val (.int pp1), .val (.int pp2), .val (.int pp3), .val (.int pp4), .val (.int pp5), .val (.int (4 : Int32)), .val (.int i0), .val (.int i1), .val (.int i2), .val (.int i3), .val (.ref b113), .val (.ref b122), .unset, .unset] [(.int (0 : Int32)), (.int (if i3 = (0 : Int32) then (-1 : Int32) else (if i2 = (0 : Int32) then (-1 : Int32) else (if i1 = (0 : Int32) then (-1 : Int32) else (if i0 = (0 : Int32) then (-1 : Int32) else pp2)))))])) _
      refine XS.iloadN X132.here hx rfl (hb hby at_132) rfl ?_
      show Steps p.tables e below (T132.setTop (mkF m 133 #[.val (.int pp1), .val (.int pp2), .val (.int pp3), .val (.int pp4), .val (.int pp5), .val (.int (4 : Int32)), .val (.int i0), .val (.int i1), .val (.int i2), .val (.int i3), .val (.ref b113), .val (.ref b122), .unset, .unset] [(.int pp2), (.int (0 : Int32)), (.int (if i3 = (0 : Int32) then (-1 : Int32) else (if i2 = (0 : Int32) then (-1 : Int32) else (if i1 = (0 : Int32) then (-1 : Int32) else (if i0 = (0 : Int32) then (-1 : Int32) else pp2)))))])) _
      refine XS.iload X132.here hx rfl (hb hby at_133) rfl ?_
      show Steps p.tables e below (T132.setTop (mkF m 135 #[.val (.int pp1), .val (.int pp2), .val (.int pp3), .val (.int pp4), .val (.int pp5), .val (.int (4 : Int32)), .val (.int i0), .val (.int i1), .val (.int i2), .val (.int i3), .val (.ref b113), .val (.ref b122), .unset, .unset] [(.int (4 : Int32)), (.int pp2), (.int (0 : Int32)), (.int (if i3 = (0 : Int32) then (-1 : Int32) else (if i2 = (0 : Int32) then (-1 : Int32) else (if i1 = (0 : Int32) then (-1 : Int32) else (if i0 = (0 : Int32) then (-1 : Int32) else pp2)))))])) _
      refine XS.iload X132.here hx rfl (hb hby at_135) rfl ?_
      show Steps p.tables e below (T132.setTop (mkF m 137 #[.val (.int pp1), .val (.int pp2), .val (.int pp3), .val (.int pp4), .val (.int pp5), .val (.int (4 : Int32)), .val (.int i0), .val (.int i1), .val (.int i2), .val (.int i3), .val (.ref b113), .val (.ref b122), .unset, .unset] [(.int i0), (.int (4 : Int32)), (.int pp2), (.int (0 : Int32)), (.int (if i3 = (0 : Int32) then (-1 : Int32) else (if i2 = (0 : Int32) then (-1 : Int32) else (if i1 = (0 : Int32) then (-1 : Int32) else (if i0 = (0 : Int32) then (-1 : Int32) else pp2)))))])) _
      refine XS.iload X132.here hx rfl (hb hby at_137) rfl ?_
      show Steps p.tables e below (T132.setTop (mkF m 139 #[.val (.int pp1), .val (.int pp2), .val (.int pp3), .val (.int pp4), .val (.int pp5), .val (.int (4 : Int32)), .val (.int i0), .val (.int i1), .val (.int i2), .val (.int i3), .val (.ref b113), .val (.ref b122), .unset, .unset] [(.int i1), (.int i0), (.int (4 : Int32)), (.int pp2), (.int (0 : Int32)), (.int (if i3 = (0 : Int32) then (-1 : Int32) else (if i2 = (0 : Int32) then (-1 : Int32) else (if i1 = (0 : Int32) then (-1 : Int32) else (if i0 = (0 : Int32) then (-1 : Int32) else pp2)))))])) _
      refine XS.iload X132.here hx rfl (hb hby at_139) rfl ?_
      show Steps p.tables e below (T132.setTop (mkF m 141 #[.val (.int pp1), .val (.int pp2), .val (.int pp3), .val (.int pp4), .val (.int pp5), .val (.int (4 : Int32)), .val (.int i0), .val (.int i1), .val (.int i2), .val (.int i3), .val (.ref b113), .val (.ref b122), .unset, .unset] [(.int i2), (.int i1), (.int i0), (.int (4 : Int32)), (.int pp2), (.int (0 : Int32)), (.int (if i3 = (0 : Int32) then (-1 : Int32) else (if i2 = (0 : Int32) then (-1 : Int32) else (if i1 = (0 : Int32) then (-1 : Int32) else (if i0 = (0 : Int32) then (-1 : Int32) else pp2)))))])) _
      refine XS.iload X132.here hx rfl (hb hby at_141) rfl ?_
      show Steps p.tables e below (T132.setTop (mkF m 143 #[.val (.int pp1), .val (.int pp2), .val (.int pp3), .val (.int pp4), .val (.int pp5), .val (.int (4 : Int32)), .val (.int i0), .val (.int i1), .val (.int i2), .val (.int i3), .val (.ref b113), .val (.ref b122), .unset, .unset] [(.int i3), (.int i2), (.int i1), (.int i0), (.int (4 : Int32)), (.int pp2), (.int (0 : Int32)), (.int (if i3 = (0 : Int32) then (-1 : Int32) else (if i2 = (0 : Int32) then (-1 : Int32) else (if i1 = (0 : Int32) then (-1 : Int32) else (if i0 = (0 : Int32) then (-1 : Int32) else pp2)))))])) _
      refine st135 _ ?_
      show Steps p.tables e below (T135.setTop (mkF m 146 #[.val (.int pp1), .val (.int pp2), .val (.int pp3), .val (.int pp4), .val (.int pp5), .val (.int (4 : Int32)), .val (.int i0), .val (.int i1), .val (.int i2), .val (.int i3), .val (.ref b113), .val (.ref b122), .unset, .unset] [(.int (if i0 = (0 : Int32) then (-1 : Int32) else (if i1 = (0 : Int32) then (-1 : Int32) else (if i2 = (0 : Int32) then (-1 : Int32) else (if i3 = (0 : Int32) then (-1 : Int32) else pp2))))), (.int (if i3 = (0 : Int32) then (-1 : Int32) else (if i2 = (0 : Int32) then (-1 : Int32) else (if i1 = (0 : Int32) then (-1 : Int32) else (if i0 = (0 : Int32) then (-1 : Int32) else pp2)))))])) _
      refine XS.icmpNo X135.here hx rfl (hb hby at_146) rfl (teq hc146_5).2 ?_
      show Steps p.tables e below (T135.setTop (mkF m 149 #[.val (.int pp1), .val (.int pp2), .val (.int pp3), .val (.int pp4), .val (.int pp5), .val (.int (4 : Int32)), .val (.int i0), .val (.int i1), .val (.int i2), .val (.int i3), .val (.ref b113), .val (.ref b122), .unset, .unset] [])) _
      refine XS.aload X135.here hx rfl (hb hby at_149) rfl rfl ?_
      show Steps p.tables e below (T135.setTop (mkF m 151 #[.val (.int pp1), .val (.int pp2), .val (.int pp3), .val (.int pp4), .val (.int pp5), .val (.int (4 : Int32)), .val (.int i0), .val (.int i1), .val (.int i2), .val (.int i3), .val (.ref b113), .val (.ref b122), .unset, .unset] [(.ref b122)])) _
      refine XS.iconst X135.here hx rfl (hb hby at_151) ?_
      show Steps p.tables e below (T135.setTop (mkF m 152 #[.val (.int pp1), .val (.int pp2), .val (.int pp3), .val (.int pp4), .val (.int pp5), .val (.int (4 : Int32)), .val (.int i0), .val (.int i1), .val (.int i2), .val (.int i3), .val (.ref b113), .val (.ref b122), .unset, .unset] [(.int (1 : Int32)), (.ref b122)])) _
      refine X135.iaload hx (j := (1 : Int32)) (v := (.int (if i3 = (1 : Int32) then (-1 : Int32) else (if i2 = (1 : Int32) then (-1 : Int32) else (if i1 = (1 : Int32) then (-1 : Int32) else (if i0 = (1 : Int32) then (-1 : Int32) else pp3)))))) (by rw [e135]; exact Ar_136.1) (State.isArrayOf_alike hZ.alike Ar_136.2.1) Ar_136.2.2 hin_136 hat_136 (g := (mkF m 152 #[.val (.int pp1), .val (.int pp2), .val (.int pp3), .val (.int pp4), .val (.int pp5), .val (.int (4 : Int32)), .val (.int i0), .val (.int i1), .val (.int i2), .val (.int i3), .val (.ref b113), .val (.ref b122), .unset, .unset] [(.int (1 : Int32)), (.ref b122)])) rfl rfl (hb hby at_152) _ ?_
      show Steps p.tables e below (T135.setTop (mkF m 153 #[.val (.int pp1), .val (.int pp2), .val (.int pp3), .val (.int pp4), .val (.int pp5), .val (.int (4 : Int32)), .val (.int i0), .val (.int i1), .val (.int i2), .val (.int i3), .val (.ref b113), .val (.ref b122), .unset, .unset] [(.int (if i3 = (1 : Int32) then (-1 : Int32) else (if i2 = (1 : Int32) then (-1 : Int32) else (if i1 = (1 : Int32) then (-1 : Int32) else (if i0 = (1 : Int32) then (-1 : Int32) else pp3)))))])) _
      refine XS.iconst X135.here hx rfl (hb hby at_153) ?_
      show Steps p.tables e below (T135.setTop (mkF m 154 #[.val (.int pp1), .val (.int pp2), .val (.int pp3), .val (.int pp4), .val (.int pp5), .val (.int (4 : Int32)), .val (.int i0), .val (.int i1), .val (.int i2), .val (.int i3), .val (.ref b113), .val (.ref b122), .unset, .unset] [(.int (1 : Int32)), (.int (if i3 = (1 : Int32) then (-1 : Int32) else (if i2 = (1 : Int32) then (-1 : Int32) else (if i1 = (1 : Int32) then (-1 : Int32) else (if i0 = (1 : Int32) then (-1 : Int32) else pp3)))))])) _
      refine XS.iloadN X135.here hx rfl (hb hby at_154) rfl ?_
      show Steps p.tables e below (T135.setTop (mkF m 155 #[.val (.int pp1), .val (.int pp2), .val (.int pp3), .val (.int pp4), .val (.int pp5), .val (.int (4 : Int32)), .val (.int i0), .val (.int i1), .val (.int i2), .val (.int i3), .val (.ref b113), .val (.ref b122), .unset, .unset] [(.int pp3), (.int (1 : Int32)), (.int (if i3 = (1 : Int32) then (-1 : Int32) else (if i2 = (1 : Int32) then (-1 : Int32) else (if i1 = (1 : Int32) then (-1 : Int32) else (if i0 = (1 : Int32) then (-1 : Int32) else pp3)))))])) _
      refine XS.iload X135.here hx rfl (hb hby at_155) rfl ?_
      show Steps p.tables e below (T135.setTop (mkF m 157 #[.val (.int pp1), .val (.int pp2), .val (.int pp3), .val (.int pp4), .val (.int pp5), .val (.int (4 : Int32)), .val (.int i0), .val (.int i1), .val (.int i2), .val (.int i3), .val (.ref b113), .val (.ref b122), .unset, .unset] [(.int (4 : Int32)), (.int pp3), (.int (1 : Int32)), (.int (if i3 = (1 : Int32) then (-1 : Int32) else (if i2 = (1 : Int32) then (-1 : Int32) else (if i1 = (1 : Int32) then (-1 : Int32) else (if i0 = (1 : Int32) then (-1 : Int32) else pp3)))))])) _
      refine XS.iload X135.here hx rfl (hb hby at_157) rfl ?_
      show Steps p.tables e below (T135.setTop (mkF m 159 #[.val (.int pp1), .val (.int pp2), .val (.int pp3), .val (.int pp4), .val (.int pp5), .val (.int (4 : Int32)), .val (.int i0), .val (.int i1), .val (.int i2), .val (.int i3), .val (.ref b113), .val (.ref b122), .unset, .unset] [(.int i0), (.int (4 : Int32)), (.int pp3), (.int (1 : Int32)), (.int (if i3 = (1 : Int32) then (-1 : Int32) else (if i2 = (1 : Int32) then (-1 : Int32) else (if i1 = (1 : Int32) then (-1 : Int32) else (if i0 = (1 : Int32) then (-1 : Int32) else pp3)))))])) _
      refine XS.iload X135.here hx rfl (hb hby at_159) rfl ?_
      show Steps p.tables e below (T135.setTop (mkF m 161 #[.val (.int pp1), .val (.int pp2), .val (.int pp3), .val (.int pp4), .val (.int pp5), .val (.int (4 : Int32)), .val (.int i0), .val (.int i1), .val (.int i2), .val (.int i3), .val (.ref b113), .val (.ref b122), .unset, .unset] [(.int i1), (.int i0), (.int (4 : Int32)), (.int pp3), (.int (1 : Int32)), (.int (if i3 = (1 : Int32) then (-1 : Int32) else (if i2 = (1 : Int32) then (-1 : Int32) else (if i1 = (1 : Int32) then (-1 : Int32) else (if i0 = (1 : Int32) then (-1 : Int32) else pp3)))))])) _
      refine XS.iload X135.here hx rfl (hb hby at_161) rfl ?_
      show Steps p.tables e below (T135.setTop (mkF m 163 #[.val (.int pp1), .val (.int pp2), .val (.int pp3), .val (.int pp4), .val (.int pp5), .val (.int (4 : Int32)), .val (.int i0), .val (.int i1), .val (.int i2), .val (.int i3), .val (.ref b113), .val (.ref b122), .unset, .unset] [(.int i2), (.int i1), (.int i0), (.int (4 : Int32)), (.int pp3), (.int (1 : Int32)), (.int (if i3 = (1 : Int32) then (-1 : Int32) else (if i2 = (1 : Int32) then (-1 : Int32) else (if i1 = (1 : Int32) then (-1 : Int32) else (if i0 = (1 : Int32) then (-1 : Int32) else pp3)))))])) _
      refine XS.iload X135.here hx rfl (hb hby at_163) rfl ?_
      show Steps p.tables e below (T135.setTop (mkF m 165 #[.val (.int pp1), .val (.int pp2), .val (.int pp3), .val (.int pp4), .val (.int pp5), .val (.int (4 : Int32)), .val (.int i0), .val (.int i1), .val (.int i2), .val (.int i3), .val (.ref b113), .val (.ref b122), .unset, .unset] [(.int i3), (.int i2), (.int i1), (.int i0), (.int (4 : Int32)), (.int pp3), (.int (1 : Int32)), (.int (if i3 = (1 : Int32) then (-1 : Int32) else (if i2 = (1 : Int32) then (-1 : Int32) else (if i1 = (1 : Int32) then (-1 : Int32) else (if i0 = (1 : Int32) then (-1 : Int32) else pp3)))))])) _
      refine st137 _ ?_
      show Steps p.tables e below (T137.setTop (mkF m 168 #[.val (.int pp1), .val (.int pp2), .val (.int pp3), .val (.int pp4), .val (.int pp5), .val (.int (4 : Int32)), .val (.int i0), .val (.int i1), .val (.int i2), .val (.int i3), .val (.ref b113), .val (.ref b122), .unset, .unset] [(.int (if i0 = (1 : Int32) then (-1 : Int32) else (if i1 = (1 : Int32) then (-1 : Int32) else (if i2 = (1 : Int32) then (-1 : Int32) else (if i3 = (1 : Int32) then (-1 : Int32) else pp3))))), (.int (if i3 = (1 : Int32) then (-1 : Int32) else (if i2 = (1 : Int32) then (-1 : Int32) else (if i1 = (1 : Int32) then (-1 : Int32) else (if i0 = (1 : Int32) then (-1 : Int32) else pp3)))))])) _
      refine XS.icmpNo X137.here hx rfl (hb hby at_168) rfl (teq hc168_5).2 ?_
      show Steps p.tables e below (T137.setTop (mkF m 171 #[.val (.int pp1), .val (.int pp2), .val (.int pp3), .val (.int pp4), .val (.int pp5), .val (.int (4 : Int32)), .val (.int i0), .val (.int i1), .val (.int i2), .val (.int i3), .val (.ref b113), .val (.ref b122), .unset, .unset] [])) _
      refine XS.aload X137.here hx rfl (hb hby at_171) rfl rfl ?_
      show Steps p.tables e below (T137.setTop (mkF m 173 #[.val (.int pp1), .val (.int pp2), .val (.int pp3), .val (.int pp4), .val (.int pp5), .val (.int (4 : Int32)), .val (.int i0), .val (.int i1), .val (.int i2), .val (.int i3), .val (.ref b113), .val (.ref b122), .unset, .unset] [(.ref b122)])) _
      refine XS.iconst X137.here hx rfl (hb hby at_173) ?_
      show Steps p.tables e below (T137.setTop (mkF m 174 #[.val (.int pp1), .val (.int pp2), .val (.int pp3), .val (.int pp4), .val (.int pp5), .val (.int (4 : Int32)), .val (.int i0), .val (.int i1), .val (.int i2), .val (.int i3), .val (.ref b113), .val (.ref b122), .unset, .unset] [(.int (2 : Int32)), (.ref b122)])) _
      refine X137.iaload hx (j := (2 : Int32)) (v := (.int (if i3 = (2 : Int32) then (-1 : Int32) else (if i2 = (2 : Int32) then (-1 : Int32) else (if i1 = (2 : Int32) then (-1 : Int32) else (if i0 = (2 : Int32) then (-1 : Int32) else pp4)))))) (by rw [e137]; exact Ar_138.1) (State.isArrayOf_alike hZ.alike Ar_138.2.1) Ar_138.2.2 hin_138 hat_138 (g := (mkF m 174 #[.val (.int pp1), .val (.int pp2), .val (.int pp3), .val (.int pp4), .val (.int pp5), .val (.int (4 : Int32)), .val (.int i0), .val (.int i1), .val (.int i2), .val (.int i3), .val (.ref b113), .val (.ref b122), .unset, .unset] [(.int (2 : Int32)), (.ref b122)])) rfl rfl (hb hby at_174) _ ?_
      show Steps p.tables e below (T137.setTop (mkF m 175 #[.val (.int pp1), .val (.int pp2), .val (.int pp3), .val (.int pp4), .val (.int pp5), .val (.int (4 : Int32)), .val (.int i0), .val (.int i1), .val (.int i2), .val (.int i3), .val (.ref b113), .val (.ref b122), .unset, .unset] [(.int (if i3 = (2 : Int32) then (-1 : Int32) else (if i2 = (2 : Int32) then (-1 : Int32) else (if i1 = (2 : Int32) then (-1 : Int32) else (if i0 = (2 : Int32) then (-1 : Int32) else pp4)))))])) _
      refine XS.iconst X137.here hx rfl (hb hby at_175) ?_
      show Steps p.tables e below (T137.setTop (mkF m 176 #[.val (.int pp1), .val (.int pp2), .val (.int pp3), .val (.int pp4), .val (.int pp5), .val (.int (4 : Int32)), .val (.int i0), .val (.int i1), .val (.int i2), .val (.int i3), .val (.ref b113), .val (.ref b122), .unset, .unset] [(.int (2 : Int32)), (.int (if i3 = (2 : Int32) then (-1 : Int32) else (if i2 = (2 : Int32) then (-1 : Int32) else (if i1 = (2 : Int32) then (-1 : Int32) else (if i0 = (2 : Int32) then (-1 : Int32) else pp4)))))])) _
      refine XS.iloadN X137.here hx rfl (hb hby at_176) rfl ?_
      show Steps p.tables e below (T137.setTop (mkF m 177 #[.val (.int pp1), .val (.int pp2), .val (.int pp3), .val (.int pp4), .val (.int pp5), .val (.int (4 : Int32)), .val (.int i0), .val (.int i1), .val (.int i2), .val (.int i3), .val (.ref b113), .val (.ref b122), .unset, .unset] [(.int pp4), (.int (2 : Int32)), (.int (if i3 = (2 : Int32) then (-1 : Int32) else (if i2 = (2 : Int32) then (-1 : Int32) else (if i1 = (2 : Int32) then (-1 : Int32) else (if i0 = (2 : Int32) then (-1 : Int32) else pp4)))))])) _
      refine XS.iload X137.here hx rfl (hb hby at_177) rfl ?_
      show Steps p.tables e below (T137.setTop (mkF m 179 #[.val (.int pp1), .val (.int pp2), .val (.int pp3), .val (.int pp4), .val (.int pp5), .val (.int (4 : Int32)), .val (.int i0), .val (.int i1), .val (.int i2), .val (.int i3), .val (.ref b113), .val (.ref b122), .unset, .unset] [(.int (4 : Int32)), (.int pp4), (.int (2 : Int32)), (.int (if i3 = (2 : Int32) then (-1 : Int32) else (if i2 = (2 : Int32) then (-1 : Int32) else (if i1 = (2 : Int32) then (-1 : Int32) else (if i0 = (2 : Int32) then (-1 : Int32) else pp4)))))])) _
      refine XS.iload X137.here hx rfl (hb hby at_179) rfl ?_
      show Steps p.tables e below (T137.setTop (mkF m 181 #[.val (.int pp1), .val (.int pp2), .val (.int pp3), .val (.int pp4), .val (.int pp5), .val (.int (4 : Int32)), .val (.int i0), .val (.int i1), .val (.int i2), .val (.int i3), .val (.ref b113), .val (.ref b122), .unset, .unset] [(.int i0), (.int (4 : Int32)), (.int pp4), (.int (2 : Int32)), (.int (if i3 = (2 : Int32) then (-1 : Int32) else (if i2 = (2 : Int32) then (-1 : Int32) else (if i1 = (2 : Int32) then (-1 : Int32) else (if i0 = (2 : Int32) then (-1 : Int32) else pp4)))))])) _
      refine XS.iload X137.here hx rfl (hb hby at_181) rfl ?_
      show Steps p.tables e below (T137.setTop (mkF m 183 #[.val (.int pp1), .val (.int pp2), .val (.int pp3), .val (.int pp4), .val (.int pp5), .val (.int (4 : Int32)), .val (.int i0), .val (.int i1), .val (.int i2), .val (.int i3), .val (.ref b113), .val (.ref b122), .unset, .unset] [(.int i1), (.int i0), (.int (4 : Int32)), (.int pp4), (.int (2 : Int32)), (.int (if i3 = (2 : Int32) then (-1 : Int32) else (if i2 = (2 : Int32) then (-1 : Int32) else (if i1 = (2 : Int32) then (-1 : Int32) else (if i0 = (2 : Int32) then (-1 : Int32) else pp4)))))])) _
      refine XS.iload X137.here hx rfl (hb hby at_183) rfl ?_
      show Steps p.tables e below (T137.setTop (mkF m 185 #[.val (.int pp1), .val (.int pp2), .val (.int pp3), .val (.int pp4), .val (.int pp5), .val (.int (4 : Int32)), .val (.int i0), .val (.int i1), .val (.int i2), .val (.int i3), .val (.ref b113), .val (.ref b122), .unset, .unset] [(.int i2), (.int i1), (.int i0), (.int (4 : Int32)), (.int pp4), (.int (2 : Int32)), (.int (if i3 = (2 : Int32) then (-1 : Int32) else (if i2 = (2 : Int32) then (-1 : Int32) else (if i1 = (2 : Int32) then (-1 : Int32) else (if i0 = (2 : Int32) then (-1 : Int32) else pp4)))))])) _
      refine XS.iload X137.here hx rfl (hb hby at_185) rfl ?_
      show Steps p.tables e below (T137.setTop (mkF m 187 #[.val (.int pp1), .val (.int pp2), .val (.int pp3), .val (.int pp4), .val (.int pp5), .val (.int (4 : Int32)), .val (.int i0), .val (.int i1), .val (.int i2), .val (.int i3), .val (.ref b113), .val (.ref b122), .unset, .unset] [(.int i3), (.int i2), (.int i1), (.int i0), (.int (4 : Int32)), (.int pp4), (.int (2 : Int32)), (.int (if i3 = (2 : Int32) then (-1 : Int32) else (if i2 = (2 : Int32) then (-1 : Int32) else (if i1 = (2 : Int32) then (-1 : Int32) else (if i0 = (2 : Int32) then (-1 : Int32) else pp4)))))])) _
      refine st139 _ ?_
      show Steps p.tables e below (T139.setTop (mkF m 190 #[.val (.int pp1), .val (.int pp2), .val (.int pp3), .val (.int pp4), .val (.int pp5), .val (.int (4 : Int32)), .val (.int i0), .val (.int i1), .val (.int i2), .val (.int i3), .val (.ref b113), .val (.ref b122), .unset, .unset] [(.int (if i0 = (2 : Int32) then (-1 : Int32) else (if i1 = (2 : Int32) then (-1 : Int32) else (if i2 = (2 : Int32) then (-1 : Int32) else (if i3 = (2 : Int32) then (-1 : Int32) else pp4))))), (.int (if i3 = (2 : Int32) then (-1 : Int32) else (if i2 = (2 : Int32) then (-1 : Int32) else (if i1 = (2 : Int32) then (-1 : Int32) else (if i0 = (2 : Int32) then (-1 : Int32) else pp4)))))])) _
      refine XS.icmpNo X139.here hx rfl (hb hby at_190) rfl (teq hc190_5).2 ?_
      show Steps p.tables e below (T139.setTop (mkF m 193 #[.val (.int pp1), .val (.int pp2), .val (.int pp3), .val (.int pp4), .val (.int pp5), .val (.int (4 : Int32)), .val (.int i0), .val (.int i1), .val (.int i2), .val (.int i3), .val (.ref b113), .val (.ref b122), .unset, .unset] [])) _
      refine XS.aload X139.here hx rfl (hb hby at_193) rfl rfl ?_
      show Steps p.tables e below (T139.setTop (mkF m 195 #[.val (.int pp1), .val (.int pp2), .val (.int pp3), .val (.int pp4), .val (.int pp5), .val (.int (4 : Int32)), .val (.int i0), .val (.int i1), .val (.int i2), .val (.int i3), .val (.ref b113), .val (.ref b122), .unset, .unset] [(.ref b122)])) _
      refine XS.iconst X139.here hx rfl (hb hby at_195) ?_
      show Steps p.tables e below (T139.setTop (mkF m 196 #[.val (.int pp1), .val (.int pp2), .val (.int pp3), .val (.int pp4), .val (.int pp5), .val (.int (4 : Int32)), .val (.int i0), .val (.int i1), .val (.int i2), .val (.int i3), .val (.ref b113), .val (.ref b122), .unset, .unset] [(.int (3 : Int32)), (.ref b122)])) _
      refine X139.iaload hx (j := (3 : Int32)) (v := (.int (if i3 = (3 : Int32) then (-1 : Int32) else (if i2 = (3 : Int32) then (-1 : Int32) else (if i1 = (3 : Int32) then (-1 : Int32) else (if i0 = (3 : Int32) then (-1 : Int32) else pp5)))))) (by rw [e139]; exact Ar_140.1) (State.isArrayOf_alike hZ.alike Ar_140.2.1) Ar_140.2.2 hin_140 hat_140 (g := (mkF m 196 #[.val (.int pp1), .val (.int pp2), .val (.int pp3), .val (.int pp4), .val (.int pp5), .val (.int (4 : Int32)), .val (.int i0), .val (.int i1), .val (.int i2), .val (.int i3), .val (.ref b113), .val (.ref b122), .unset, .unset] [(.int (3 : Int32)), (.ref b122)])) rfl rfl (hb hby at_196) _ ?_
      show Steps p.tables e below (T139.setTop (mkF m 197 #[.val (.int pp1), .val (.int pp2), .val (.int pp3), .val (.int pp4), .val (.int pp5), .val (.int (4 : Int32)), .val (.int i0), .val (.int i1), .val (.int i2), .val (.int i3), .val (.ref b113), .val (.ref b122), .unset, .unset] [(.int (if i3 = (3 : Int32) then (-1 : Int32) else (if i2 = (3 : Int32) then (-1 : Int32) else (if i1 = (3 : Int32) then (-1 : Int32) else (if i0 = (3 : Int32) then (-1 : Int32) else pp5)))))])) _
      refine XS.iconst X139.here hx rfl (hb hby at_197) ?_
      show Steps p.tables e below (T139.setTop (mkF m 198 #[.val (.int pp1), .val (.int pp2), .val (.int pp3), .val (.int pp4), .val (.int pp5), .val (.int (4 : Int32)), .val (.int i0), .val (.int i1), .val (.int i2), .val (.int i3), .val (.ref b113), .val (.ref b122), .unset, .unset] [(.int (3 : Int32)), (.int (if i3 = (3 : Int32) then (-1 : Int32) else (if i2 = (3 : Int32) then (-1 : Int32) else (if i1 = (3 : Int32) then (-1 : Int32) else (if i0 = (3 : Int32) then (-1 : Int32) else pp5)))))])) _
      refine XS.iload X139.here hx rfl (hb hby at_198) rfl ?_
      show Steps p.tables e below (T139.setTop (mkF m 200 #[.val (.int pp1), .val (.int pp2), .val (.int pp3), .val (.int pp4), .val (.int pp5), .val (.int (4 : Int32)), .val (.int i0), .val (.int i1), .val (.int i2), .val (.int i3), .val (.ref b113), .val (.ref b122), .unset, .unset] [(.int pp5), (.int (3 : Int32)), (.int (if i3 = (3 : Int32) then (-1 : Int32) else (if i2 = (3 : Int32) then (-1 : Int32) else (if i1 = (3 : Int32) then (-1 : Int32) else (if i0 = (3 : Int32) then (-1 : Int32) else pp5)))))])) _
      refine XS.iload X139.here hx rfl (hb hby at_200) rfl ?_
      show Steps p.tables e below (T139.setTop (mkF m 202 #[.val (.int pp1), .val (.int pp2), .val (.int pp3), .val (.int pp4), .val (.int pp5), .val (.int (4 : Int32)), .val (.int i0), .val (.int i1), .val (.int i2), .val (.int i3), .val (.ref b113), .val (.ref b122), .unset, .unset] [(.int (4 : Int32)), (.int pp5), (.int (3 : Int32)), (.int (if i3 = (3 : Int32) then (-1 : Int32) else (if i2 = (3 : Int32) then (-1 : Int32) else (if i1 = (3 : Int32) then (-1 : Int32) else (if i0 = (3 : Int32) then (-1 : Int32) else pp5)))))])) _
      refine XS.iload X139.here hx rfl (hb hby at_202) rfl ?_
      show Steps p.tables e below (T139.setTop (mkF m 204 #[.val (.int pp1), .val (.int pp2), .val (.int pp3), .val (.int pp4), .val (.int pp5), .val (.int (4 : Int32)), .val (.int i0), .val (.int i1), .val (.int i2), .val (.int i3), .val (.ref b113), .val (.ref b122), .unset, .unset] [(.int i0), (.int (4 : Int32)), (.int pp5), (.int (3 : Int32)), (.int (if i3 = (3 : Int32) then (-1 : Int32) else (if i2 = (3 : Int32) then (-1 : Int32) else (if i1 = (3 : Int32) then (-1 : Int32) else (if i0 = (3 : Int32) then (-1 : Int32) else pp5)))))])) _
      refine XS.iload X139.here hx rfl (hb hby at_204) rfl ?_
      show Steps p.tables e below (T139.setTop (mkF m 206 #[.val (.int pp1), .val (.int pp2), .val (.int pp3), .val (.int pp4), .val (.int pp5), .val (.int (4 : Int32)), .val (.int i0), .val (.int i1), .val (.int i2), .val (.int i3), .val (.ref b113), .val (.ref b122), .unset, .unset] [(.int i1), (.int i0), (.int (4 : Int32)), (.int pp5), (.int (3 : Int32)), (.int (if i3 = (3 : Int32) then (-1 : Int32) else (if i2 = (3 : Int32) then (-1 : Int32) else (if i1 = (3 : Int32) then (-1 : Int32) else (if i0 = (3 : Int32) then (-1 : Int32) else pp5)))))])) _
      refine XS.iload X139.here hx rfl (hb hby at_206) rfl ?_
      show Steps p.tables e below (T139.setTop (mkF m 208 #[.val (.int pp1), .val (.int pp2), .val (.int pp3), .val (.int pp4), .val (.int pp5), .val (.int (4 : Int32)), .val (.int i0), .val (.int i1), .val (.int i2), .val (.int i3), .val (.ref b113), .val (.ref b122), .unset, .unset] [(.int i2), (.int i1), (.int i0), (.int (4 : Int32)), (.int pp5), (.int (3 : Int32)), (.int (if i3 = (3 : Int32) then (-1 : Int32) else (if i2 = (3 : Int32) then (-1 : Int32) else (if i1 = (3 : Int32) then (-1 : Int32) else (if i0 = (3 : Int32) then (-1 : Int32) else pp5)))))])) _
      refine XS.iload X139.here hx rfl (hb hby at_208) rfl ?_
      show Steps p.tables e below (T139.setTop (mkF m 210 #[.val (.int pp1), .val (.int pp2), .val (.int pp3), .val (.int pp4), .val (.int pp5), .val (.int (4 : Int32)), .val (.int i0), .val (.int i1), .val (.int i2), .val (.int i3), .val (.ref b113), .val (.ref b122), .unset, .unset] [(.int i3), (.int i2), (.int i1), (.int i0), (.int (4 : Int32)), (.int pp5), (.int (3 : Int32)), (.int (if i3 = (3 : Int32) then (-1 : Int32) else (if i2 = (3 : Int32) then (-1 : Int32) else (if i1 = (3 : Int32) then (-1 : Int32) else (if i0 = (3 : Int32) then (-1 : Int32) else pp5)))))])) _
      refine st141 _ ?_
      show Steps p.tables e below (T141.setTop (mkF m 213 #[.val (.int pp1), .val (.int pp2), .val (.int pp3), .val (.int pp4), .val (.int pp5), .val (.int (4 : Int32)), .val (.int i0), .val (.int i1), .val (.int i2), .val (.int i3), .val (.ref b113), .val (.ref b122), .unset, .unset] [(.int (if i0 = (3 : Int32) then (-1 : Int32) else (if i1 = (3 : Int32) then (-1 : Int32) else (if i2 = (3 : Int32) then (-1 : Int32) else (if i3 = (3 : Int32) then (-1 : Int32) else pp5))))), (.int (if i3 = (3 : Int32) then (-1 : Int32) else (if i2 = (3 : Int32) then (-1 : Int32) else (if i1 = (3 : Int32) then (-1 : Int32) else (if i0 = (3 : Int32) then (-1 : Int32) else pp5)))))])) _
      refine XS.icmpNo X141.here hx rfl (hb hby at_213) rfl (teq hc213_5).2 ?_
      show Steps p.tables e below (T141.setTop (mkF m 216 #[.val (.int pp1), .val (.int pp2), .val (.int pp3), .val (.int pp4), .val (.int pp5), .val (.int (4 : Int32)), .val (.int i0), .val (.int i1), .val (.int i2), .val (.int i3), .val (.ref b113), .val (.ref b122), .unset, .unset] [])) _
      refine XS.iconst X141.here hx rfl (hb hby at_216) ?_
      show Steps p.tables e below (T141.setTop (mkF m 217 #[.val (.int pp1), .val (.int pp2), .val (.int pp3), .val (.int pp4), .val (.int pp5), .val (.int (4 : Int32)), .val (.int i0), .val (.int i1), .val (.int i2), .val (.int i3), .val (.ref b113), .val (.ref b122), .unset, .unset] [(.int (1 : Int32))])) _
      refine XS.goto X141.here hx rfl (pc0 := 217) (pc' := 221) rfl (hb hby at_217) (by decide) (by decide) ?_
      show Steps p.tables e below (T141.setTop (mkF m 221 #[.val (.int pp1), .val (.int pp2), .val (.int pp3), .val (.int pp4), .val (.int pp5), .val (.int (4 : Int32)), .val (.int i0), .val (.int i1), .val (.int i2), .val (.int i3), .val (.ref b113), .val (.ref b122), .unset, .unset] [(.int (1 : Int32))])) _
      refine XS.istore X141.here hx rfl (hb hby at_221) rfl (l' := #[.val (.int pp1), .val (.int pp2), .val (.int pp3), .val (.int pp4), .val (.int pp5), .val (.int (4 : Int32)), .val (.int i0), .val (.int i1), .val (.int i2), .val (.int i3), .val (.ref b113), .val (.ref b122), .val (.int (1 : Int32)), .unset]) rfl ?_
      show Steps p.tables e below (T141.setTop (mkF m 223 #[.val (.int pp1), .val (.int pp2), .val (.int pp3), .val (.int pp4), .val (.int pp5), .val (.int (4 : Int32)), .val (.int i0), .val (.int i1), .val (.int i2), .val (.int i3), .val (.ref b113), .val (.ref b122), .val (.int (1 : Int32)), .unset] [])) _
      refine XS.aload X141.here hx rfl (hb hby at_223) rfl rfl ?_
      show Steps p.tables e below (T141.setTop (mkF m 225 #[.val (.int pp1), .val (.int pp2), .val (.int pp3), .val (.int pp4), .val (.int pp5), .val (.int (4 : Int32)), .val (.int i0), .val (.int i1), .val (.int i2), .val (.int i3), .val (.ref b113), .val (.ref b122), .val (.int (1 : Int32)), .unset] [(.ref b113)])) _
      refine X141.arraylength hx (by rw [e141]; exact Ar_143.1) (State.isArrayOf_alike hZ.alike Ar_143.2.1) (g := (mkF m 225 #[.val (.int pp1), .val (.int pp2), .val (.int pp3), .val (.int pp4), .val (.int pp5), .val (.int (4 : Int32)), .val (.int i0), .val (.int i1), .val (.int i2), .val (.int i3), .val (.ref b113), .val (.ref b122), .val (.int (1 : Int32)), .unset] [(.ref b113)])) rfl rfl (hb hby at_225) _ ?_
      rw [len_of Sz_143 Nn_143]
      show Steps p.tables e below (T141.setTop (mkF m 226 #[.val (.int pp1), .val (.int pp2), .val (.int pp3), .val (.int pp4), .val (.int pp5), .val (.int (4 : Int32)), .val (.int i0), .val (.int i1), .val (.int i2), .val (.int i3), .val (.ref b113), .val (.ref b122), .val (.int (1 : Int32)), .unset] [(.int (4 : Int32))])) _
      refine XS.iload X141.here hx rfl (hb hby at_226) rfl ?_
      show Steps p.tables e below (T141.setTop (mkF m 228 #[.val (.int pp1), .val (.int pp2), .val (.int pp3), .val (.int pp4), .val (.int pp5), .val (.int (4 : Int32)), .val (.int i0), .val (.int i1), .val (.int i2), .val (.int i3), .val (.ref b113), .val (.ref b122), .val (.int (1 : Int32)), .unset] [(.int (4 : Int32)), (.int (4 : Int32))])) _
      refine XS.icmpNo X141.here hx rfl (hb hby at_228) rfl (teq hc228_5).2 ?_
      show Steps p.tables e below (T141.setTop (mkF m 231 #[.val (.int pp1), .val (.int pp2), .val (.int pp3), .val (.int pp4), .val (.int pp5), .val (.int (4 : Int32)), .val (.int i0), .val (.int i1), .val (.int i2), .val (.int i3), .val (.ref b113), .val (.ref b122), .val (.int (1 : Int32)), .unset] [])) _
      refine XS.iload X141.here hx rfl (hb hby at_231) rfl ?_
      show Steps p.tables e below (T141.setTop (mkF m 233 #[.val (.int pp1), .val (.int pp2), .val (.int pp3), .val (.int pp4), .val (.int pp5), .val (.int (4 : Int32)), .val (.int i0), .val (.int i1), .val (.int i2), .val (.int i3), .val (.ref b113), .val (.ref b122), .val (.int (1 : Int32)), .unset] [(.int (4 : Int32))])) _
      refine XS.ifNo X141.here hx rfl (hb hby at_233) rfl ((if0 _ _).trans (tlt hc233_5).2.2.2) ?_
      show Steps p.tables e below (T141.setTop (mkF m 236 #[.val (.int pp1), .val (.int pp2), .val (.int pp3), .val (.int pp4), .val (.int pp5), .val (.int (4 : Int32)), .val (.int i0), .val (.int i1), .val (.int i2), .val (.int i3), .val (.ref b113), .val (.ref b122), .val (.int (1 : Int32)), .unset] [])) _
      refine XS.aload X141.here hx rfl (hb hby at_236) rfl rfl ?_
      show Steps p.tables e below (T141.setTop (mkF m 238 #[.val (.int pp1), .val (.int pp2), .val (.int pp3), .val (.int pp4), .val (.int pp5), .val (.int (4 : Int32)), .val (.int i0), .val (.int i1), .val (.int i2), .val (.int i3), .val (.ref b113), .val (.ref b122), .val (.int (1 : Int32)), .unset] [(.ref b113)])) _
      refine XS.iconst X141.here hx rfl (hb hby at_238) ?_
      show Steps p.tables e below (T141.setTop (mkF m 239 #[.val (.int pp1), .val (.int pp2), .val (.int pp3), .val (.int pp4), .val (.int pp5), .val (.int (4 : Int32)), .val (.int i0), .val (.int i1), .val (.int i2), .val (.int i3), .val (.ref b113), .val (.ref b122), .val (.int (1 : Int32)), .unset] [(.int (0 : Int32)), (.ref b113)])) _
      refine X141.iaload hx (j := (0 : Int32)) (v := (.int i0)) (by rw [e141]; exact Ar_144.1) (State.isArrayOf_alike hZ.alike Ar_144.2.1) Ar_144.2.2 hin_144 hat_144 (g := (mkF m 239 #[.val (.int pp1), .val (.int pp2), .val (.int pp3), .val (.int pp4), .val (.int pp5), .val (.int (4 : Int32)), .val (.int i0), .val (.int i1), .val (.int i2), .val (.int i3), .val (.ref b113), .val (.ref b122), .val (.int (1 : Int32)), .unset] [(.int (0 : Int32)), (.ref b113)])) rfl rfl (hb hby at_239) _ ?_
      show Steps p.tables e below (T141.setTop (mkF m 240 #[.val (.int pp1), .val (.int pp2), .val (.int pp3), .val (.int pp4), .val (.int pp5), .val (.int (4 : Int32)), .val (.int i0), .val (.int i1), .val (.int i2), .val (.int i3), .val (.ref b113), .val (.ref b122), .val (.int (1 : Int32)), .unset] [(.int i0)])) _
      refine XS.iload X141.here hx rfl (hb hby at_240) rfl ?_
      show Steps p.tables e below (T141.setTop (mkF m 242 #[.val (.int pp1), .val (.int pp2), .val (.int pp3), .val (.int pp4), .val (.int pp5), .val (.int (4 : Int32)), .val (.int i0), .val (.int i1), .val (.int i2), .val (.int i3), .val (.ref b113), .val (.ref b122), .val (.int (1 : Int32)), .unset] [(.int i0), (.int i0)])) _
      refine XS.icmpNo X141.here hx rfl (hb hby at_242) rfl (teq (rfl : i0 = i0)).2 ?_
      show Steps p.tables e below (T141.setTop (mkF m 245 #[.val (.int pp1), .val (.int pp2), .val (.int pp3), .val (.int pp4), .val (.int pp5), .val (.int (4 : Int32)), .val (.int i0), .val (.int i1), .val (.int i2), .val (.int i3), .val (.ref b113), .val (.ref b122), .val (.int (1 : Int32)), .unset] [])) _
      refine XS.iload X141.here hx rfl (hb hby at_245) rfl ?_
      show Steps p.tables e below (T141.setTop (mkF m 247 #[.val (.int pp1), .val (.int pp2), .val (.int pp3), .val (.int pp4), .val (.int pp5), .val (.int (4 : Int32)), .val (.int i0), .val (.int i1), .val (.int i2), .val (.int i3), .val (.ref b113), .val (.ref b122), .val (.int (1 : Int32)), .unset] [(.int (4 : Int32))])) _
      refine XS.iconst X141.here hx rfl (hb hby at_247) ?_
      show Steps p.tables e below (T141.setTop (mkF m 248 #[.val (.int pp1), .val (.int pp2), .val (.int pp3), .val (.int pp4), .val (.int pp5), .val (.int (4 : Int32)), .val (.int i0), .val (.int i1), .val (.int i2), .val (.int i3), .val (.ref b113), .val (.ref b122), .val (.int (1 : Int32)), .unset] [(.int (1 : Int32)), (.int (4 : Int32))])) _
      refine XS.icmpNo X141.here hx rfl (hb hby at_248) rfl (tlt hc248_5).2.2.2 ?_
      show Steps p.tables e below (T141.setTop (mkF m 251 #[.val (.int pp1), .val (.int pp2), .val (.int pp3), .val (.int pp4), .val (.int pp5), .val (.int (4 : Int32)), .val (.int i0), .val (.int i1), .val (.int i2), .val (.int i3), .val (.ref b113), .val (.ref b122), .val (.int (1 : Int32)), .unset] [])) _
      refine XS.aload X141.here hx rfl (hb hby at_251) rfl rfl ?_
      show Steps p.tables e below (T141.setTop (mkF m 253 #[.val (.int pp1), .val (.int pp2), .val (.int pp3), .val (.int pp4), .val (.int pp5), .val (.int (4 : Int32)), .val (.int i0), .val (.int i1), .val (.int i2), .val (.int i3), .val (.ref b113), .val (.ref b122), .val (.int (1 : Int32)), .unset] [(.ref b113)])) _
      refine XS.iconst X141.here hx rfl (hb hby at_253) ?_
      show Steps p.tables e below (T141.setTop (mkF m 254 #[.val (.int pp1), .val (.int pp2), .val (.int pp3), .val (.int pp4), .val (.int pp5), .val (.int (4 : Int32)), .val (.int i0), .val (.int i1), .val (.int i2), .val (.int i3), .val (.ref b113), .val (.ref b122), .val (.int (1 : Int32)), .unset] [(.int (1 : Int32)), (.ref b113)])) _
      refine X141.iaload hx (j := (1 : Int32)) (v := (.int i1)) (by rw [e141]; exact Ar_145.1) (State.isArrayOf_alike hZ.alike Ar_145.2.1) Ar_145.2.2 hin_145 hat_145 (g := (mkF m 254 #[.val (.int pp1), .val (.int pp2), .val (.int pp3), .val (.int pp4), .val (.int pp5), .val (.int (4 : Int32)), .val (.int i0), .val (.int i1), .val (.int i2), .val (.int i3), .val (.ref b113), .val (.ref b122), .val (.int (1 : Int32)), .unset] [(.int (1 : Int32)), (.ref b113)])) rfl rfl (hb hby at_254) _ ?_
      show Steps p.tables e below (T141.setTop (mkF m 255 #[.val (.int pp1), .val (.int pp2), .val (.int pp3), .val (.int pp4), .val (.int pp5), .val (.int (4 : Int32)), .val (.int i0), .val (.int i1), .val (.int i2), .val (.int i3), .val (.ref b113), .val (.ref b122), .val (.int (1 : Int32)), .unset] [(.int i1)])) _
      refine XS.iload X141.here hx rfl (hb hby at_255) rfl ?_
      show Steps p.tables e below (T141.setTop (mkF m 257 #[.val (.int pp1), .val (.int pp2), .val (.int pp3), .val (.int pp4), .val (.int pp5), .val (.int (4 : Int32)), .val (.int i0), .val (.int i1), .val (.int i2), .val (.int i3), .val (.ref b113), .val (.ref b122), .val (.int (1 : Int32)), .unset] [(.int i1), (.int i1)])) _
      refine XS.icmpNo X141.here hx rfl (hb hby at_257) rfl (teq (rfl : i1 = i1)).2 ?_
      show Steps p.tables e below (T141.setTop (mkF m 260 #[.val (.int pp1), .val (.int pp2), .val (.int pp3), .val (.int pp4), .val (.int pp5), .val (.int (4 : Int32)), .val (.int i0), .val (.int i1), .val (.int i2), .val (.int i3), .val (.ref b113), .val (.ref b122), .val (.int (1 : Int32)), .unset] [])) _
      refine XS.iload X141.here hx rfl (hb hby at_260) rfl ?_
      show Steps p.tables e below (T141.setTop (mkF m 262 #[.val (.int pp1), .val (.int pp2), .val (.int pp3), .val (.int pp4), .val (.int pp5), .val (.int (4 : Int32)), .val (.int i0), .val (.int i1), .val (.int i2), .val (.int i3), .val (.ref b113), .val (.ref b122), .val (.int (1 : Int32)), .unset] [(.int (4 : Int32))])) _
      refine XS.iconst X141.here hx rfl (hb hby at_262) ?_
      show Steps p.tables e below (T141.setTop (mkF m 263 #[.val (.int pp1), .val (.int pp2), .val (.int pp3), .val (.int pp4), .val (.int pp5), .val (.int (4 : Int32)), .val (.int i0), .val (.int i1), .val (.int i2), .val (.int i3), .val (.ref b113), .val (.ref b122), .val (.int (1 : Int32)), .unset] [(.int (2 : Int32)), (.int (4 : Int32))])) _
      refine XS.icmpNo X141.here hx rfl (hb hby at_263) rfl (tlt hc263_5).2.2.2 ?_
      show Steps p.tables e below (T141.setTop (mkF m 266 #[.val (.int pp1), .val (.int pp2), .val (.int pp3), .val (.int pp4), .val (.int pp5), .val (.int (4 : Int32)), .val (.int i0), .val (.int i1), .val (.int i2), .val (.int i3), .val (.ref b113), .val (.ref b122), .val (.int (1 : Int32)), .unset] [])) _
      refine XS.aload X141.here hx rfl (hb hby at_266) rfl rfl ?_
      show Steps p.tables e below (T141.setTop (mkF m 268 #[.val (.int pp1), .val (.int pp2), .val (.int pp3), .val (.int pp4), .val (.int pp5), .val (.int (4 : Int32)), .val (.int i0), .val (.int i1), .val (.int i2), .val (.int i3), .val (.ref b113), .val (.ref b122), .val (.int (1 : Int32)), .unset] [(.ref b113)])) _
      refine XS.iconst X141.here hx rfl (hb hby at_268) ?_
      show Steps p.tables e below (T141.setTop (mkF m 269 #[.val (.int pp1), .val (.int pp2), .val (.int pp3), .val (.int pp4), .val (.int pp5), .val (.int (4 : Int32)), .val (.int i0), .val (.int i1), .val (.int i2), .val (.int i3), .val (.ref b113), .val (.ref b122), .val (.int (1 : Int32)), .unset] [(.int (2 : Int32)), (.ref b113)])) _
      refine X141.iaload hx (j := (2 : Int32)) (v := (.int i2)) (by rw [e141]; exact Ar_146.1) (State.isArrayOf_alike hZ.alike Ar_146.2.1) Ar_146.2.2 hin_146 hat_146 (g := (mkF m 269 #[.val (.int pp1), .val (.int pp2), .val (.int pp3), .val (.int pp4), .val (.int pp5), .val (.int (4 : Int32)), .val (.int i0), .val (.int i1), .val (.int i2), .val (.int i3), .val (.ref b113), .val (.ref b122), .val (.int (1 : Int32)), .unset] [(.int (2 : Int32)), (.ref b113)])) rfl rfl (hb hby at_269) _ ?_
      show Steps p.tables e below (T141.setTop (mkF m 270 #[.val (.int pp1), .val (.int pp2), .val (.int pp3), .val (.int pp4), .val (.int pp5), .val (.int (4 : Int32)), .val (.int i0), .val (.int i1), .val (.int i2), .val (.int i3), .val (.ref b113), .val (.ref b122), .val (.int (1 : Int32)), .unset] [(.int i2)])) _
      refine XS.iload X141.here hx rfl (hb hby at_270) rfl ?_
      show Steps p.tables e below (T141.setTop (mkF m 272 #[.val (.int pp1), .val (.int pp2), .val (.int pp3), .val (.int pp4), .val (.int pp5), .val (.int (4 : Int32)), .val (.int i0), .val (.int i1), .val (.int i2), .val (.int i3), .val (.ref b113), .val (.ref b122), .val (.int (1 : Int32)), .unset] [(.int i2), (.int i2)])) _
      refine XS.icmpNo X141.here hx rfl (hb hby at_272) rfl (teq (rfl : i2 = i2)).2 ?_
      show Steps p.tables e below (T141.setTop (mkF m 275 #[.val (.int pp1), .val (.int pp2), .val (.int pp3), .val (.int pp4), .val (.int pp5), .val (.int (4 : Int32)), .val (.int i0), .val (.int i1), .val (.int i2), .val (.int i3), .val (.ref b113), .val (.ref b122), .val (.int (1 : Int32)), .unset] [])) _
      refine XS.iload X141.here hx rfl (hb hby at_275) rfl ?_
      show Steps p.tables e below (T141.setTop (mkF m 277 #[.val (.int pp1), .val (.int pp2), .val (.int pp3), .val (.int pp4), .val (.int pp5), .val (.int (4 : Int32)), .val (.int i0), .val (.int i1), .val (.int i2), .val (.int i3), .val (.ref b113), .val (.ref b122), .val (.int (1 : Int32)), .unset] [(.int (4 : Int32))])) _
      refine XS.iconst X141.here hx rfl (hb hby at_277) ?_
      show Steps p.tables e below (T141.setTop (mkF m 278 #[.val (.int pp1), .val (.int pp2), .val (.int pp3), .val (.int pp4), .val (.int pp5), .val (.int (4 : Int32)), .val (.int i0), .val (.int i1), .val (.int i2), .val (.int i3), .val (.ref b113), .val (.ref b122), .val (.int (1 : Int32)), .unset] [(.int (3 : Int32)), (.int (4 : Int32))])) _
      refine XS.icmpNo X141.here hx rfl (hb hby at_278) rfl (tlt hc278_5).2.2.2 ?_
      show Steps p.tables e below (T141.setTop (mkF m 281 #[.val (.int pp1), .val (.int pp2), .val (.int pp3), .val (.int pp4), .val (.int pp5), .val (.int (4 : Int32)), .val (.int i0), .val (.int i1), .val (.int i2), .val (.int i3), .val (.ref b113), .val (.ref b122), .val (.int (1 : Int32)), .unset] [])) _
      refine XS.aload X141.here hx rfl (hb hby at_281) rfl rfl ?_
      show Steps p.tables e below (T141.setTop (mkF m 283 #[.val (.int pp1), .val (.int pp2), .val (.int pp3), .val (.int pp4), .val (.int pp5), .val (.int (4 : Int32)), .val (.int i0), .val (.int i1), .val (.int i2), .val (.int i3), .val (.ref b113), .val (.ref b122), .val (.int (1 : Int32)), .unset] [(.ref b113)])) _
      refine XS.iconst X141.here hx rfl (hb hby at_283) ?_
      show Steps p.tables e below (T141.setTop (mkF m 284 #[.val (.int pp1), .val (.int pp2), .val (.int pp3), .val (.int pp4), .val (.int pp5), .val (.int (4 : Int32)), .val (.int i0), .val (.int i1), .val (.int i2), .val (.int i3), .val (.ref b113), .val (.ref b122), .val (.int (1 : Int32)), .unset] [(.int (3 : Int32)), (.ref b113)])) _
      refine X141.iaload hx (j := (3 : Int32)) (v := (.int i3)) (by rw [e141]; exact Ar_147.1) (State.isArrayOf_alike hZ.alike Ar_147.2.1) Ar_147.2.2 hin_147 hat_147 (g := (mkF m 284 #[.val (.int pp1), .val (.int pp2), .val (.int pp3), .val (.int pp4), .val (.int pp5), .val (.int (4 : Int32)), .val (.int i0), .val (.int i1), .val (.int i2), .val (.int i3), .val (.ref b113), .val (.ref b122), .val (.int (1 : Int32)), .unset] [(.int (3 : Int32)), (.ref b113)])) rfl rfl (hb hby at_284) _ ?_
      show Steps p.tables e below (T141.setTop (mkF m 285 #[.val (.int pp1), .val (.int pp2), .val (.int pp3), .val (.int pp4), .val (.int pp5), .val (.int (4 : Int32)), .val (.int i0), .val (.int i1), .val (.int i2), .val (.int i3), .val (.ref b113), .val (.ref b122), .val (.int (1 : Int32)), .unset] [(.int i3)])) _
      refine XS.iload X141.here hx rfl (hb hby at_285) rfl ?_
      show Steps p.tables e below (T141.setTop (mkF m 287 #[.val (.int pp1), .val (.int pp2), .val (.int pp3), .val (.int pp4), .val (.int pp5), .val (.int (4 : Int32)), .val (.int i0), .val (.int i1), .val (.int i2), .val (.int i3), .val (.ref b113), .val (.ref b122), .val (.int (1 : Int32)), .unset] [(.int i3), (.int i3)])) _
      refine XS.icmpNo X141.here hx rfl (hb hby at_287) rfl (teq (rfl : i3 = i3)).2 ?_
      show Steps p.tables e below (T141.setTop (mkF m 290 #[.val (.int pp1), .val (.int pp2), .val (.int pp3), .val (.int pp4), .val (.int pp5), .val (.int (4 : Int32)), .val (.int i0), .val (.int i1), .val (.int i2), .val (.int i3), .val (.ref b113), .val (.ref b122), .val (.int (1 : Int32)), .unset] [])) _
      refine XS.iconst X141.here hx rfl (hb hby at_290) ?_
      show Steps p.tables e below (T141.setTop (mkF m 291 #[.val (.int pp1), .val (.int pp2), .val (.int pp3), .val (.int pp4), .val (.int pp5), .val (.int (4 : Int32)), .val (.int i0), .val (.int i1), .val (.int i2), .val (.int i3), .val (.ref b113), .val (.ref b122), .val (.int (1 : Int32)), .unset] [(.int (1 : Int32))])) _
      refine XS.goto X141.here hx rfl (pc0 := 291) (pc' := 295) rfl (hb hby at_291) (by decide) (by decide) ?_
      show Steps p.tables e below (T141.setTop (mkF m 295 #[.val (.int pp1), .val (.int pp2), .val (.int pp3), .val (.int pp4), .val (.int pp5), .val (.int (4 : Int32)), .val (.int i0), .val (.int i1), .val (.int i2), .val (.int i3), .val (.ref b113), .val (.ref b122), .val (.int (1 : Int32)), .unset] [(.int (1 : Int32))])) _
      refine XS.istore X141.here hx rfl (hb hby at_295) rfl (l' := #[.val (.int pp1), .val (.int pp2), .val (.int pp3), .val (.int pp4), .val (.int pp5), .val (.int (4 : Int32)), .val (.int i0), .val (.int i1), .val (.int i2), .val (.int i3), .val (.ref b113), .val (.ref b122), .val (.int (1 : Int32)), .val (.int (1 : Int32))]) rfl ?_
      show Steps p.tables e below (T141.setTop (mkF m 297 #[.val (.int pp1), .val (.int pp2), .val (.int pp3), .val (.int pp4), .val (.int pp5), .val (.int (4 : Int32)), .val (.int i0), .val (.int i1), .val (.int i2), .val (.int i3), .val (.ref b113), .val (.ref b122), .val (.int (1 : Int32)), .val (.int (1 : Int32))] [])) _
      refine XS.iload X141.here hx rfl (hb hby at_297) rfl ?_
      show Steps p.tables e below (T141.setTop (mkF m 299 #[.val (.int pp1), .val (.int pp2), .val (.int pp3), .val (.int pp4), .val (.int pp5), .val (.int (4 : Int32)), .val (.int i0), .val (.int i1), .val (.int i2), .val (.int i3), .val (.ref b113), .val (.ref b122), .val (.int (1 : Int32)), .val (.int (1 : Int32))] [(.int (1 : Int32))])) _
      refine XS.ifNo X141.here hx rfl (hb hby at_299) rfl ((if0 _ _).trans (feq hc299_5).1) ?_
      show Steps p.tables e below (T141.setTop (mkF m 302 #[.val (.int pp1), .val (.int pp2), .val (.int pp3), .val (.int pp4), .val (.int pp5), .val (.int (4 : Int32)), .val (.int i0), .val (.int i1), .val (.int i2), .val (.int i3), .val (.ref b113), .val (.ref b122), .val (.int (1 : Int32)), .val (.int (1 : Int32))] [])) _
      refine XS.iload X141.here hx rfl (hb hby at_302) rfl ?_
      show Steps p.tables e below (T141.setTop (mkF m 304 #[.val (.int pp1), .val (.int pp2), .val (.int pp3), .val (.int pp4), .val (.int pp5), .val (.int (4 : Int32)), .val (.int i0), .val (.int i1), .val (.int i2), .val (.int i3), .val (.ref b113), .val (.ref b122), .val (.int (1 : Int32)), .val (.int (1 : Int32))] [(.int (1 : Int32))])) _
      refine XS.ifNo X141.here hx rfl (hb hby at_304) rfl ((if0 _ _).trans (feq hc304_5).1) ?_
      show Steps p.tables e below (T141.setTop (mkF m 307 #[.val (.int pp1), .val (.int pp2), .val (.int pp3), .val (.int pp4), .val (.int pp5), .val (.int (4 : Int32)), .val (.int i0), .val (.int i1), .val (.int i2), .val (.int i3), .val (.ref b113), .val (.ref b122), .val (.int (1 : Int32)), .val (.int (1 : Int32))] [])) _
      refine XS.iconst X141.here hx rfl (hb hby at_307) ?_
      show Steps p.tables e below (T141.setTop (mkF m 308 #[.val (.int pp1), .val (.int pp2), .val (.int pp3), .val (.int pp4), .val (.int pp5), .val (.int (4 : Int32)), .val (.int i0), .val (.int i1), .val (.int i2), .val (.int i3), .val (.ref b113), .val (.ref b122), .val (.int (1 : Int32)), .val (.int (1 : Int32))] [(.int (1 : Int32))])) _
      refine XS.goto X141.here hx rfl (pc0 := 308) (pc' := 312) rfl (hb hby at_308) (by decide) (by decide) ?_
      show Steps p.tables e below (T141.setTop (mkF m 312 #[.val (.int pp1), .val (.int pp2), .val (.int pp3), .val (.int pp4), .val (.int pp5), .val (.int (4 : Int32)), .val (.int i0), .val (.int i1), .val (.int i2), .val (.int i3), .val (.ref b113), .val (.ref b122), .val (.int (1 : Int32)), .val (.int (1 : Int32))] [(.int (1 : Int32))])) _
      exact retN X141 hx (t := .boolean) Bd.returns (by simp) (hb hby at_312) hr
    · show Q0 Z pp1 pp2 pp3 pp4 pp5 h0 n0 _ T141.heap _
      rw [e141]
      exact ⟨rfl, N141⟩
set_option maxRecDepth 65536 in
set_option maxHeartbeats 40000000 in
theorem comes_1 {Post : Tables → Env → Array Value → State → Outcome → State → Prop} (hpost : ∀ tb e args s v u, (limb_1_1.after args s (.returned v) u = true ∧ limb_1_2.after args s (.returned v) u = true ∧ True) → FrameEnd s (.returned v) u (Jvm.fieldLocs frame_1_writes args s ++ Jvm.arrayLocs frame_1_arrays args s ++ Jvm.staticLocs frame_1_statics s) 16 128 → Post tb e args s (.returned v) u) :
    ArmFor flags0 classFile x code maxLocals ret World_1 tables_1 room_1 Calls_1 rest_1 Pre_1 Post := by
  intro l hfl _ _ p e ha hc hk s m args below hf hA hF happ hP
  obtain ⟨hcalls, hrest, hpre⟩ := hP
  obtain ⟨-, -, -, hnamed, -, -, -, hat⟩ := (Spec.applies_iff hf).mp happ
  obtain ⟨hg, hn⟩ := and_e (Cond.before_iff.mp (show (Jvm.Cond.and given_1 narrow_1).before args s = true from hpre))
  obtain ⟨g1, g2⟩ := and_e hg
  obtain ⟨g3, g4⟩ := and_e g2
  obtain ⟨g5, g6⟩ := and_e g4
  obtain ⟨g7, g8⟩ := and_e g6
  obtain ⟨g9, g10⟩ := and_e g8
  obtain ⟨w0, w1, w2, w3, w4, rfl⟩ : ∃ w0 w1 w2 w3 w4 : Value, args = #[w0, w1, w2, w3, w4] := by
    have hs : args.size = 5 := by simpa [Cond.value, given_1] using g1
    obtain ⟨L⟩ := args
    match L, hs with
    | [w0, w1, w2, w3, w4], _ => exact ⟨w0, w1, w2, w3, w4, rfl⟩
  have hw := fun d (hd : d ∈ tables_1) => atoms_spec (ws := Jvm.Cond.code x code maxLocals ret :: tables_1) hat d (List.mem_cons_of_mem _ hd)
  have hfit : Fit s := fun {y c} hc i hi => by
    obtain ⟨ha, rfl⟩ := Array.getElem?_eq_some_iff.mp hc
    have q := List.all_eq_true.mp ((Array.all_eq_true_iff_forall_mem.mp hF) _ (Array.getElem_mem ha)) i (List.mem_range.mpr hi)
    simpa [Array.getElem?_eq_getElem hi] using q
  obtain ⟨i0, ei0⟩ := is_v g3
  obtain rfl : w0 = (.int i0) := Option.some.inj ei0
  obtain ⟨i1, ei1⟩ := is_v g5
  obtain rfl : w1 = (.int i1) := Option.some.inj ei1
  obtain ⟨i2, ei2⟩ := is_v g7
  obtain rfl : w2 = (.int i2) := Option.some.inj ei2
  obtain ⟨i3, ei3⟩ := is_v g9
  obtain rfl : w3 = (.int i3) := Option.some.inj ei3
  obtain ⟨i4, ei4⟩ := is_v g10
  obtain rfl : w4 = (.int i4) := Option.some.inj ei4
  obtain ⟨n, o, h1, h2, h3, _, L, rfl, ⟨rfl, N⟩, hq⟩ := rm0 l s _ hw tables_1 i0 i1 i2 i3 i4 s.heap s.heap.size (Nat.le_refl _)  p e ha hc hk s m _ below hf ((Spec.applies_iff_loose hf).mp happ).1 ⟨rfl, State.Warmed39.refl s, rfl⟩ trivial
  refine ⟨n, _, h1, h2, h3, hpost _ _ _ _ _ _ ⟨Cond.after_iff.mpr rfl, Cond.after_iff.mpr (eq_i res_at (Term.int_eval (1)) rfl), trivial⟩ ⟨hq.1, hq.2.1, (hq.2.2.sift fun y hy => Or.inr (N y hy)).mono (by decide) (by decide)⟩⟩
theorem main_1_1 : Claimed_1_1 := comes_1 fun _ _ _ _ _ _ h hF => ⟨h.1, hF⟩
theorem main_1_2 : Claimed_1_2 := comes_1 fun _ _ _ _ _ _ h hF => ⟨h.2.1, hF⟩
end Jvm.Pilot.@@N@@
namespace Jvm.Pilot.@@N@@
open Jvm Jvm.ClassFile Sem Op Lib Jvm.Free Jvm.Stand Jvm.Pilot.@@N@@.Jvm.D
/-! MADE BY PROGRAM (witnessworld.py) out of the Statement's table words and the real class files: 9 classes; the members and pool entries that the words name. The judged class is class 1, her method 1. -/
namespace start1
open Jvm.ClassFile
def u (s : String) : CpInfo := .utf8 (stringToUtf16 s)
/-- a pool by its gaps: so many unusable entries, then the entry; so many at the end -/
def gap : Nat → List CpInfo → List CpInfo
  | 0, r => r
  | n + 1, r => .unusable :: gap n r
def poolList (es : List (Nat × CpInfo)) (last : Nat) : List CpInfo := es.foldr (fun e r => gap e.1 (e.2 :: r)) (gap last [])
def pool (es : List (Nat × CpInfo)) (last : Nat) : Array CpInfo := ⟨poolList es last⟩
def fileOf (pool : Array CpInfo) (this : Nat) (attrs : Array Attribute := #[]) (ms : Array MethodInfo := #[]) (fl : Nat := 33) (sup : Nat := 0) (ifs : Array Nat := #[]) (fds : Array FieldInfo := #[]) : ClassFile where
  minorVersion := 0
  majorVersion := 65
  constantPool := pool
  accessFlags := fl
  thisClass := this
  superClass := sup
  interfaces := ifs
  fields := fds
  methods := ms
  attributes := attrs
def plain (name : String) (sup : Option ClassId) : Class where
  name := name
  kind := .ordinary
  loader := none
  accessFlags := 33
  super := sup
  interfaces := #[]
  cf := none
  fields := #[]
  methods := #[]
  instanceTypes := #[]
  staticTypes := #[]
  resolved := #[]
  callSites := []
  init := .initialized
  statics := none
  mirror := none

def pool0 : Array CpInfo := pool [(5, u "<init>"), (0, u "()V"), (1, .class_ 10), (1, u "java/lang/Object")] 113

def k0m0 : Method := { name := "<init>", desc := "()V", sig := { parameters := [], returnType := none }, accessFlags := 1, code := none }
/-- java/lang/Object -/
def k0 : Class := { plain "java/lang/Object" none with
  accessFlags := 33
  interfaces := #[]
  cf := some (fileOf pool0 8 #[] #[{ accessFlags := 1, nameIndex := 5, descriptorIndex := 6, attributes := #[] }] 33 0 #[] #[])
  fields := #[]
  methods := #[k0m0]
  instanceTypes := #[]
  staticTypes := #[]
  resolved := Array.replicate 124 none
  statics := none }

def pool1 : Array CpInfo := pool [(2, .class_ 4), (1, u "java/lang/Object"), (0, u "<init>"), (0, u "()V"), (0, .methodref 8 9), (0, .class_ 10), (0, .nameAndType 11 12), (0, u "com/example/splitgrain/splitgrain/parse/ChartItems"), (0, u "clearPlaces"), (0, u "([I[I)V"), (0, .methodref 14 15), (0, .class_ 16), (0, .nameAndType 17 18), (0, u "com/example/splitgrain/splitgrain/parse/ChartItemsClearPlacesPinLaw"), (0, u "expect"), (0, u "(IIIIIII)I"), (0, .methodref 14 20), (0, .nameAndType 21 22), (0, u "cleared"), (0, u "(IIIIII)Z"), (2, u "law"), (0, u "(IIIII)Z")] 5

def k1m0 : Method := { name := "<init>", desc := "()V", sig := { parameters := [], returnType := none }, accessFlags := 1, code := none }
def k1c1 : Code := { maxStack := 8, maxLocals := 14, code := code, exceptionTable := #[], attributes := #[] }
def k1m1 : Method := { name := "law", desc := "(IIIII)Z", sig := { parameters := [.int, .int, .int, .int, .int], returnType := some .boolean }, accessFlags := 9, code := some k1c1 }
def k1c2 : Code := { maxStack := 2, maxLocals := 6, code := method_3_code, exceptionTable := #[], attributes := #[] }
def k1m2 : Method := { name := "cleared", desc := "(IIIIII)Z", sig := { parameters := [.int, .int, .int, .int, .int, .int], returnType := some .boolean }, accessFlags := 10, code := some k1c2 }
def k1c3 : Code := { maxStack := 6, maxLocals := 7, code := method_4_code, exceptionTable := #[], attributes := #[] }
def k1m3 : Method := { name := "expect", desc := "(IIIIIII)I", sig := { parameters := [.int, .int, .int, .int, .int, .int, .int], returnType := some .int }, accessFlags := 10, code := some k1c3 }
/-- com/example/splitgrain/splitgrain/parse/ChartItemsClearPlacesPinLaw -/
def k1 : Class := { plain "com/example/splitgrain/splitgrain/parse/ChartItemsClearPlacesPinLaw" (some 0) with
  accessFlags := 49
  interfaces := #[]
  cf := some (fileOf pool1 14 #[] #[{ accessFlags := 1, nameIndex := 5, descriptorIndex := 6, attributes := #[] }, { accessFlags := 9, nameIndex := 25, descriptorIndex := 26, attributes := #[] }, { accessFlags := 10, nameIndex := 21, descriptorIndex := 22, attributes := #[] }, { accessFlags := 10, nameIndex := 17, descriptorIndex := 18, attributes := #[] }] 49 2 #[] #[])
  fields := #[]
  methods := #[k1m0, k1m1, k1m2, k1m3]
  instanceTypes := #[]
  staticTypes := #[]
  resolved := Array.replicate 32 none
  statics := none }

def pool2 : Array CpInfo := pool [(2, .class_ 4), (1, u "java/lang/Object"), (3, .class_ 10), (1, u "com/example/splitgrain/splitgrain/parse/ChartItems"), (0, u "_items"), (0, u "[[I"), (2, u "_offsets"), (0, u "[I"), (46, u "([I[I)V"), (0, u "clearPlaces")] 2

def k2c0 : Code := { maxStack := 3, maxLocals := 6, code := prog_31_method_9_code, exceptionTable := #[], attributes := #[] }
def k2m0 : Method := { name := "clearPlaces", desc := "([I[I)V", sig := { parameters := [(.array .int), (.array .int)], returnType := none }, accessFlags := 8, code := some k2c0 }
/-- com/example/splitgrain/splitgrain/parse/ChartItems -/
def k2 : Class := { plain "com/example/splitgrain/splitgrain/parse/ChartItems" (some 0) with
  accessFlags := 48
  interfaces := #[]
  cf := some (fileOf pool2 8 #[] #[{ accessFlags := 8, nameIndex := 64, descriptorIndex := 63, attributes := #[] }] 48 2 #[] #[{ accessFlags := 18, nameIndex := 11, descriptorIndex := 12, attributes := #[] }, { accessFlags := 18, nameIndex := 15, descriptorIndex := 16, attributes := #[] }])
  fields := #[{ name := "_items", type := (.array (.array .int)), accessFlags := 18, slot := 0, constantValue := 0 }, { name := "_offsets", type := (.array .int), accessFlags := 18, slot := 1, constantValue := 0 }]
  methods := #[k2m0]
  instanceTypes := #[(.array (.array .int)), (.array .int)]
  staticTypes := #[]
  resolved := Array.replicate 67 none
  statics := none }

def pool3 : Array CpInfo := pool [(1, u "java/lang/Cloneable"), (0, .class_ 1), (0, u "java/lang/Object"), (0, .class_ 3)] 3

/-- java/lang/Cloneable -/
def k3 : Class := { plain "java/lang/Cloneable" (some 0) with
  accessFlags := 1537
  interfaces := #[]
  cf := some (fileOf pool3 2 #[] #[] 1537 4 #[] #[])
  fields := #[]
  methods := #[]
  instanceTypes := #[]
  staticTypes := #[]
  resolved := Array.replicate 8 none
  statics := none }

def pool4 : Array CpInfo := pool [(1, u "java/io/Serializable"), (0, .class_ 1), (0, u "java/lang/Object"), (0, .class_ 3)] 3

/-- java/io/Serializable -/
def k4 : Class := { plain "java/io/Serializable" (some 0) with
  accessFlags := 1537
  interfaces := #[]
  cf := some (fileOf pool4 2 #[] #[] 1537 4 #[] #[])
  fields := #[]
  methods := #[]
  instanceTypes := #[]
  staticTypes := #[]
  resolved := Array.replicate 8 none
  statics := none }

/-- the primitive byte -/
def k5 : Class := { plain "byte" none with kind := .primitive 'B', accessFlags := 0x411 }
/-- [B -/
def k6 : Class := { plain "[B" (some 0) with kind := .array 5 .byte, interfaces := #[3, 4], accessFlags := 1041 }

/-- the primitive int -/
def k7 : Class := { plain "int" none with kind := .primitive 'I', accessFlags := 0x411 }
/-- [I -/
def k8 : Class := { plain "[I" (some 0) with kind := .array 7 .int, interfaces := #[3, 4], accessFlags := 1041 }

def heap : Heap := #[]
def classes : Array Class := #[k0, k1, k2, k3, k4, k5, k6, k7, k8]
def interned : List (Array UInt16 × Addr) := []
def slotsUsed : Nat := 0
def theMethod : MethodId := ⟨1, 1⟩
def args0 : Array Value := #[.int 83, .int 1, .int 2, .int 3, .int 4]
def aboutOver (below : List Frame) : State where
  vm := { classes := classes, interned := interned.toArray }
  heap := heap
  slotsUsed := slotsUsed
  threads := #[{ frames := .invoking theMethod args0 :: below }]
def below0 : List Frame := [.native { method := ⟨0, 0⟩, args := #[] }]
def about1 : State := aboutOver below0
def p0 : Program := .bare "" "" ""
def e0 : Env := launch0.env 0 0 0
theorem w_frames : about1.frames = Frame.invoking theMethod args0 :: below0 := rfl
set_option maxRecDepth 65536 in
theorem w_args : argsFit about1.vm theMethod args0 = true := by decide +kernel
set_option maxRecDepth 65536 in
theorem w_heap : heapFits about1 = true := by decide +kernel
set_option maxRecDepth 65536 in
theorem w_runnable : about1.curStatus? = some .runnable := by decide +kernel
set_option maxRecDepth 65536 in
theorem w_alone : about1.alone = true := by decide +kernel
set_option maxRecDepth 65536 in
theorem w_named : about1.methodNamed? x = some theMethod := by decide +kernel
set_option maxRecDepth 65536 in
theorem w_hears : about1.hears theMethod below0 = true := by decide +kernel
set_option maxRecDepth 65536 in
theorem w_ripe : about1.ripe theMethod args0 below0 = true := by decide +kernel
theorem w_running : about1.status = .running := rfl
set_option maxRecDepth 65536 in
theorem w_room : about1.hasRoom e0.platform room_1 = true :=
  launch0.hasRoom_least _ room_1 (by decide +kernel) (by decide +kernel) (by decide +kernel) (by decide +kernel) (by decide +kernel) (by decide +kernel)
theorem allAtoms_all (ts : List Jvm.Cond) (a : Array Jvm.Value) (st : Jvm.State) : (allAtoms ts).before a st = ts.all (fun c => c.before a st) := by
  induction ts with
  | nil => rfl
  | cons c t ih =>
    show (Jvm.Cond.and c (allAtoms t)).before a st = _
    rw [Jvm.Cond.before_and, ih, List.all_cons]
def words1 : List Jvm.Cond := Jvm.Cond.code x code maxLocals ret :: tables_1
/-- a 'code' word, met by the world's own term for the bytes: nothing is compared byte by byte -/
theorem code_word {y : MethodName} {bytes : ByteArray} {mx : Nat} {rt : Option FieldType} {a : Array Value} {s : State} {m : MethodId} {meth : Method} {c : Code} (h1 : s.methodNamed? y = some m) (h2 : s.vm.method? m = some meth) (h3 : meth.code = some c) (h4 : c.code = bytes)
    (h5 : (c.maxLocals == mx && c.exceptionTable.isEmpty && decide (c.maxStack ≤ mostOperands) && decide (meth.sig.returnType = rt) && !meth.locks && decide (parseMethodDescriptor y.desc = some meth.sig)) = true) : (Jvm.Cond.code y bytes mx rt).before a s = true := by
  simp only [Bool.and_eq_true, beq_iff_eq, Bool.not_eq_true', decide_eq_true_eq] at h5
  obtain ⟨⟨⟨⟨⟨g1, g2⟩, g3⟩, g4⟩, g5⟩, g6⟩ := h5
  simp [Cond.before, Cond.holds, Cond.value, h1, h2, h3, h4, g1, g2, g3, g4, g5, g6]
def isCode : Jvm.Cond → Bool
  | .code _ _ _ _ => true
  | _ => false
theorem all_split {L : List Jvm.Cond} {P : Jvm.Cond → Bool} (h1 : L.all (fun c => isCode c || P c) = true) (h2 : ∀ c ∈ L.filter isCode, P c = true) : L.all P = true := by
  refine List.all_eq_true.mpr fun c hc => ?_
  have h := List.all_eq_true.mp h1 c hc
  rcases Bool.eq_false_or_eq_true (isCode c) with hi | hi
  · exact h2 c (List.mem_filter.mpr ⟨hc, hi⟩)
  · simpa [hi] using h
set_option maxRecDepth 65536 in
theorem w_c0 : (Jvm.Cond.code x code maxLocals ret).before args0 about1 = true := code_word (m := ⟨1, 1⟩) (meth := k1m1) (c := k1c1) (by decide +kernel) rfl rfl rfl (by decide +kernel)
set_option maxRecDepth 65536 in
theorem w_c1 : (Jvm.Cond.code ({ cls := "com/example/splitgrain/splitgrain/parse/ChartItems", name := "clearPlaces", desc := "([I[I)V" } : Jvm.MethodName) prog_31_method_9_code (6 : Nat) (Option.none : Option Jvm.ClassFile.FieldType)).before args0 about1 = true := code_word (m := ⟨2, 0⟩) (meth := k2m0) (c := k2c0) (by decide +kernel) rfl rfl rfl (by decide +kernel)
set_option maxRecDepth 65536 in
theorem w_c2 : (Jvm.Cond.code ({ cls := "com/example/splitgrain/splitgrain/parse/ChartItemsClearPlacesPinLaw", name := "expect", desc := "(IIIIIII)I" } : Jvm.MethodName) method_4_code (7 : Nat) (Option.some Jvm.ClassFile.FieldType.int)).before args0 about1 = true := code_word (m := ⟨1, 3⟩) (meth := k1m3) (c := k1c3) (by decide +kernel) rfl rfl rfl (by decide +kernel)
set_option maxRecDepth 65536 in
theorem w_c3 : (Jvm.Cond.code ({ cls := "com/example/splitgrain/splitgrain/parse/ChartItemsClearPlacesPinLaw", name := "cleared", desc := "(IIIIII)Z" } : Jvm.MethodName) method_3_code (6 : Nat) (Option.some Jvm.ClassFile.FieldType.boolean)).before args0 about1 = true := code_word (m := ⟨1, 2⟩) (meth := k1m2) (c := k1c2) (by decide +kernel) rfl rfl rfl (by decide +kernel)
def codes1 : List Jvm.Cond := [Jvm.Cond.code x code maxLocals ret, Jvm.Cond.code ({ cls := "com/example/splitgrain/splitgrain/parse/ChartItems", name := "clearPlaces", desc := "([I[I)V" } : Jvm.MethodName) prog_31_method_9_code (6 : Nat) (Option.none : Option Jvm.ClassFile.FieldType), Jvm.Cond.code ({ cls := "com/example/splitgrain/splitgrain/parse/ChartItemsClearPlacesPinLaw", name := "expect", desc := "(IIIIIII)I" } : Jvm.MethodName) method_4_code (7 : Nat) (Option.some Jvm.ClassFile.FieldType.int), Jvm.Cond.code ({ cls := "com/example/splitgrain/splitgrain/parse/ChartItemsClearPlacesPinLaw", name := "cleared", desc := "(IIIIII)Z" } : Jvm.MethodName) method_3_code (6 : Nat) (Option.some Jvm.ClassFile.FieldType.boolean)]
set_option maxRecDepth 65536 in
theorem codes_eq : words1.filter isCode = codes1 := rfl
theorem w_codes : ∀ c ∈ words1.filter isCode, c.before args0 about1 = true := by
  rw [codes_eq]
  intro c hc
  simp only [codes1, List.mem_cons, List.not_mem_nil, or_false] at hc
  rcases hc with rfl | rfl | rfl | rfl
  · exact w_c0
  · exact w_c1
  · exact w_c2
  · exact w_c3
set_option maxRecDepth 65536 in
theorem w_t1 : words1.all (fun c => isCode c || c.before args0 about1) = true := by decide +kernel
theorem w_tables : (allAtoms (Jvm.Cond.code x code maxLocals ret :: tables_1)).before args0 about1 = true := by
  rw [allAtoms_all]
  show words1.all (fun c => c.before args0 about1) = true
  refine all_split ?_ w_codes
  rw [w_t1]
set_option maxRecDepth 65536 in
theorem w_case : (Jvm.Cond.and given_1 narrow_1).before args0 about1 = true := by decide +kernel
theorem w_applies : (headSpec (Jvm.Cond.code x code maxLocals ret :: tables_1) room_1).applies x e0.platform about1 = true :=
  (Spec.applies_iff w_frames).mpr ⟨w_running, w_runnable, w_alone, w_named, w_hears, w_ripe, w_room, w_tables⟩
theorem atStart : AtStart classFile x code maxLocals ret World_1 tables_1 room_1 Calls_1 rest_1 Pre_1 launch0 p0 e0 about1 theMethod args0 below0 :=
  ⟨lists_1, trivial, launch0.admits_env _ _ _, launch0.least_env, fairChoices_fair.cas, fairChoices_fair.clock, w_frames, w_args, w_heap, w_applies, trivial, trivial, w_case⟩
end start1
theorem witness_1 : WitnessClaimed_1 := ⟨start1.p0, start1.e0, start1.about1, start1.theMethod, start1.args0, start1.below0, start1.atStart⟩
end Jvm.Pilot.@@N@@
