import JvmDerived
import JvmDerived.Pilot.@@N@@Statement
import JvmDerived.Pilot.@@N@@Code
set_option linter.unusedVariables false
set_option linter.unusedSimpArgs false
namespace Jvm.RoadKit
open Sem ClassFile Op Lib Jvm.Stand Jvm.Free Jvm.LawKit
section New
variable {p : Program} {l : Launch} {e : Env} {R : Room} {s : State} {m : MethodId} {args : Array Value} {below : List Frame} {meth : Method} {c : Code} {T : State} {locs : List Loc} {cells slots : Nat}
theorem retI (X : Stand p l e R s m args below meth c T locs cells slots) (hx : p.tables.exec = Jvm.exec) {pc : Nat} {Ls : Array Slot} {z : Int32} {rest : List Value} (hret : meth.sig.returnType = some .int) (hd : decode c.code pc = .ok (.ireturn, 1)) {fs : List Frame}
    (hl : ∀ (f : JFrame) (acts : List Action), f.method = m → f.locked = none → f.entered = [] → (doReturn e (T.setTop f) acts (some (.int z))).1 = T.setFrames fs) : Steps p.tables e below (T.setTop (mkF m pc Ls (.int z :: rest))) (T.setFrames fs) := by
  have hm' : T.vm.method? m = some meth := X.method'
  have hn : narrow .int (.int z) = .int z := rfl
  show Steps p.tables e below (T.setTop { method := m, pc := pc, locals := Ls, stack := _ :: rest, locked := none }) _
  jvm_step X.here [X.here.top, hx, hd, hm', hret, hn]
  first | (intro acts; rw [hl _ acts rfl rfl rfl]) | rw [hl _ _ rfl rfl rfl]
  exact Steps.refl _
theorem retJ (X : Stand p l e R s m args below meth c T locs cells slots) (hx : p.tables.exec = Jvm.exec) {pc : Nat} {Ls : Array Slot} {z : Int64} {rest : List Value} (hret : meth.sig.returnType = some .long) (hd : decode c.code pc = .ok (.lreturn, 1)) {fs : List Frame}
    (hl : ∀ (f : JFrame) (acts : List Action), f.method = m → f.locked = none → f.entered = [] → (doReturn e (T.setTop f) acts (some (.long z))).1 = T.setFrames fs) : Steps p.tables e below (T.setTop (mkF m pc Ls (.long z :: rest))) (T.setFrames fs) := by
  have hm' : T.vm.method? m = some meth := X.method'
  have hn : narrow .long (.long z) = .long z := rfl
  show Steps p.tables e below (T.setTop { method := m, pc := pc, locals := Ls, stack := _ :: rest, locked := none }) _
  jvm_step X.here [X.here.top, hx, hd, hm', hret, hn]
  first | (intro acts; rw [hl _ acts rfl rfl rfl]) | rw [hl _ _ rfl rfl rfl]
  exact Steps.refl _
theorem retD (X : Stand p l e R s m args below meth c T locs cells slots) (hx : p.tables.exec = Jvm.exec) {pc : Nat} {Ls : Array Slot} {z : UInt64} {rest : List Value} (hret : meth.sig.returnType = some .double) (hd : decode c.code pc = .ok (.dreturn, 1)) {fs : List Frame}
    (hl : ∀ (f : JFrame) (acts : List Action), f.method = m → f.locked = none → f.entered = [] → (doReturn e (T.setTop f) acts (some (.double z))).1 = T.setFrames fs) : Steps p.tables e below (T.setTop (mkF m pc Ls (.double z :: rest))) (T.setFrames fs) := by
  have hm' : T.vm.method? m = some meth := X.method'
  have hn : narrow .double (.double z) = .double z := rfl
  show Steps p.tables e below (T.setTop { method := m, pc := pc, locals := Ls, stack := _ :: rest, locked := none }) _
  jvm_step X.here [X.here.top, hx, hd, hm', hret, hn]
  first | (intro acts; rw [hl _ acts rfl rfl rfl]) | rw [hl _ _ rfl rfl rfl]
  exact Steps.refl _
end New
end Jvm.RoadKit
@@BLOCK:NumsL.lean.txt@@
namespace Jvm.Pilot.@@N@@
open Jvm Jvm.ClassFile Sem Op Lib Jvm.Free Jvm.Stand Jvm.LawKit Jvm.RoadKit Bundle Jvm.Pilot.@@N@@.Jvm.D
theorem own_inteq {args : Array Value} {s : State} {t : Term} {n : Int32} (h : (Jvm.Cond.eq t (Jvm.Term.int n)).value args s none s [] = some true) : t.eval args s none [] s = some (.int n) := by
  obtain ⟨v, w, h1, h2, k1, k2⟩ := cmp_v (Or.inl h)
  have hw : w = .int n := by simpa [Term.eval] using h2.symm
  subst hw
  obtain ⟨z, rfl⟩ := k2
  simp only [Cond.value, h1, h2] at h
  have hz : z = n := by simpa using h
  rw [h1, hz]
theorem own_leneq {args : Array Value} {s : State} {t : Term} {x : Addr} {cl : Cell} {ty : FieldType} {n : Int32} (ht : t.eval args s none [] s = some (.ref x)) (A : Arr s s.heap x cl ty) (h : (Jvm.Cond.eq (Jvm.Term.length t) (Jvm.Term.int n)).value args s none s [] = some true) : cl.slots.size < 2 ^ 31 ∧ cl.slots.size.toInt32 = n := by
  have ha := A.fin (Vm.Alike.refl s.vm)
  have e := own_inteq h
  by_cases q : cl.slots.size < 2 ^ 31
  · rw [len_f ht ha q] at e
    exact ⟨q, by simpa using e⟩
  · simp [Term.eval, ht, ha, q] at e
theorem own_eleq {args : Array Value} {s : State} {t u : Term} {x y : Addr} {cl : Cell} {j : Int32} (ht : t.eval args s none [] s = some (.ref x)) (hu : u.eval args s none [] s = some (.ref y)) (hc : s.heap[x]? = some cl) (h : (Jvm.Cond.eq (Jvm.Term.elem t (Jvm.Term.int j)) u).value args s none s [] = some true) : cl.slots[j.toNatClampNeg]? = some (.ref y) := by
  obtain ⟨v, w, h1, h2, k1, k2⟩ := cmp_v (Or.inl h)
  cases hu.symm.trans h2
  obtain ⟨-, q⟩ := elem_in h1 ht (Term.int_eval j) hc
  have hr : v.isRef = true := k2.2
  have := gotT (eq_R h1 h2 hr rfl) h
  rw [q, this]
theorem own_hasL (c : Cell) : ∀ (vs : List Value) (i : Nat), (∀ j v, vs[j]? = some v → c.slots[i + j]? = some v) → HasL c i vs
  | [], _, _ => trivial
  | v :: vs, i, h => ⟨by simpa using h 0 v rfl, own_hasL c vs (i + 1) fun j w q => by
      have := h (j + 1) w (by simpa using q)
      rw [← this]; congr 1; omega⟩
theorem own_anyArv {s : State} {a : Addr} {cl : Cell} {ty : FieldType} {z : Int32} {dv : Value} (hf : Fit s) (A : Arr s s.heap a cl ty) (q : cl.slots.size < 2 ^ 31) (e : cl.slots.size.toInt32 = z) (hz : ¬ z < 0) : Arv s s.heap a cl.cls ty z cl.slots.toList dv :=
  Arv.start hf A q e hz (by rw [← e, Array.length_toList]; exact Int32.toNatClampNeg_ofNat_of_lt q) (own_hasL cl _ 0 fun j v h => by simpa using h)
def own_up (c : Int32) : Int32 := if c < (97 : Int32) then c else if (122 : Int32) < c then c else c - (32 : Int32)
def own_tab (u : Int32) : Int32 := if u = (65 : Int32) then (1 : Int32) else if u = (67 : Int32) then (2 : Int32) else if u = (71 : Int32) then (4 : Int32) else if u = (84 : Int32) then (8 : Int32) else if u = (85 : Int32) then (8 : Int32) else if u = (82 : Int32) then (5 : Int32) else if u = (89 : Int32) then (10 : Int32) else if u = (75 : Int32) then (12 : Int32) else if u = (77 : Int32) then (3 : Int32) else if u = (83 : Int32) then (6 : Int32) else if u = (87 : Int32) then (9 : Int32) else if u = (66 : Int32) then (14 : Int32) else if u = (68 : Int32) then (13 : Int32) else if u = (72 : Int32) then (11 : Int32) else if u = (86 : Int32) then (7 : Int32) else if u = (78 : Int32) then (15 : Int32) else if u = (45 : Int32) then (15 : Int32) else if u = (63 : Int32) then (15 : Int32) else (0 : Int32)
def own_exp (c : Int32) : Int32 := own_tab (own_up c)
theorem own_cnn (y : Int32) : ¬ (y.toUInt32.toUInt16.toUInt32.toInt32) < (0 : Int32) := by
  have h := fits_nar_char y
  simp only [fits, Bool.and_eq_true, decide_eq_true_eq] at h
  exact Int32.not_lt.mpr h.1
theorem own_exp_hi {c : Int32} (h : ¬ c < (128 : Int32)) : own_exp c = (0 : Int32) := by
  have e : (128 : Int32).toInt = 128 := by decide
  have e97 : (97 : Int32).toInt = 97 := by decide
  have e122 : (122 : Int32).toInt = 122 := by decide
  rw [Int32.lt_iff_toInt_lt, e] at h
  have h1 : own_up c = c := by
    unfold own_up
    rw [if_neg (by rw [Int32.lt_iff_toInt_lt, e97]; omega), if_pos (by rw [Int32.lt_iff_toInt_lt, e122]; omega)]
  unfold own_exp
  rw [h1]
  have q : ∀ n : Int32, n.toInt < 128 → ¬ c = n := fun n hn g => by rw [g] at h; omega
  unfold own_tab
  rw [if_neg (q 65 (by decide)), if_neg (q 67 (by decide)), if_neg (q 71 (by decide)), if_neg (q 84 (by decide)), if_neg (q 85 (by decide)), if_neg (q 82 (by decide)), if_neg (q 89 (by decide)), if_neg (q 75 (by decide)), if_neg (q 77 (by decide)), if_neg (q 83 (by decide)), if_neg (q 87 (by decide)), if_neg (q 66 (by decide)), if_neg (q 68 (by decide)), if_neg (q 72 (by decide)), if_neg (q 86 (by decide)), if_neg (q 78 (by decide)), if_neg (q 45 (by decide)), if_neg (q 63 (by decide))]
theorem pn_com_example_escapement_escapement_model_Nucleotides : plainName "com/example/escapement/escapement/model/Nucleotides" = true := by first | (simp [plainName, overriddenIn]; done) | decide +kernel
theorem d1_0 : decode prog_24_method_2_code 0 = .ok (.iload_n 0, 1) := by decide +kernel
theorem d1_1 : decode prog_24_method_2_code 1 = .ok (.getstatic 7, 3) := by decide +kernel
theorem d1_4 : decode prog_24_method_2_code 4 = .ok (.arraylength, 1) := by decide +kernel
theorem d1_5 : decode prog_24_method_2_code 5 = .ok (.if_icmp .ge 11, 3) := by decide +kernel
theorem d1_8 : decode prog_24_method_2_code 8 = .ok (.getstatic 7, 3) := by decide +kernel
theorem d1_11 : decode prog_24_method_2_code 11 = .ok (.iload_n 0, 1) := by decide +kernel
theorem d1_12 : decode prog_24_method_2_code 12 = .ok (.iaload, 1) := by decide +kernel
theorem d1_13 : decode prog_24_method_2_code 13 = .ok (.goto 4, 3) := by decide +kernel
theorem d1_16 : decode prog_24_method_2_code 16 = .ok (.iconst 0, 1) := by decide +kernel
theorem d1_17 : decode prog_24_method_2_code 17 = .ok (.ireturn, 1) := by decide +kernel
theorem ef_1 (m : MethodId) (x0 : Int32) : entryFrame m #[(.int x0)] 1 = mkF m 0 #[.val (.int x0)] [] := by first | (simp [entryFrame, mkF, argsToLocals, Value.category]; done) | rfl
def Q1 (Z : State) (pp1 : Int32) (tb : Addr) (kt : ClassId) (vx : List Value) (rr : Int32) (h0 : Heap) (n0 : Nat) (v : Option Value) (h : Heap) (L : List Loc) : Prop := v = some (.int rr) ∧ Fr n0 L ∧ h = h0
set_option maxRecDepth 65536 in
set_option maxHeartbeats 40000000 in
theorem rm1 (l : Launch) (Z : State) (a0 : Array Value) (hw : ∀ d ∈ tables_1, d.before a0 Z = true) (ws : List Jvm.Cond) (pp1 : Int32) (tb : Addr) (kt : ClassId) (vx : List Value) (rr : Int32) (h0 : Heap) (n0 : Nat) (Z0 : n0 ≤ h0.size) (O0 : Old Z n0 h0) (S_STATE_SETS : Sta Z Z.heap "com/example/escapement/escapement/model/Nucleotides" "STATE_SETS" "[I" (.ref tb)) (V_tb : Arv Z h0 tb kt .int (128 : Int32) vx (.int (0 : Int32))) (hn : ¬ pp1 < (0 : Int32)) (hr : pp1 < (128 : Int32) → vx.getD (pp1).toNatClampNeg (.int (0 : Int32)) = .int rr) (hz : ¬ pp1 < (128 : Int32) → rr = (0 : Int32)) :
    MetFree l (⟨"com/example/escapement/escapement/model/Nucleotides", "stateSet", "(C)I"⟩ : MethodName) (head1 (Jvm.Cond.code (⟨"com/example/escapement/escapement/model/Nucleotides", "stateSet", "(C)I"⟩ : MethodName) prog_24_method_2_code 1 (some .int) :: ws) ({ frames := 0, cells := 0, slots := 0, locals := 0 } : Room)) (fun a U => a = #[(.int pp1)] ∧ Z.Warmed39 U.vm ∧ U.heap = h0) (fun _ _ _ _ _ => True) (fun _ U o U' => ∃ v L, o = .returned v ∧ Q1 Z pp1 tb kt vx rr h0 n0 v U'.heap L ∧ FrameEnd U o U' L ({ frames := 0, cells := 0, slots := 0, locals := 0 } : Room).cells ({ frames := 0, cells := 0, slots := 0, locals := 0 } : Room).slots) := by
  refine MetFree.of_bodySF (plainFor_of_name pn_com_example_escapement_escapement_model_Nucleotides) hisR ?_
  intro p e s m args below meth c s₁ Bd hml0 hP hK
  obtain ⟨rfl, hZ, hh⟩ := hP
  have hx := Bd.exec
  have hby := Bd.bytes
  have hml : c.maxLocals = 1 := hml0
  have hown : s.vm.findClass "com/example/escapement/escapement/model/Nucleotides" = some m.cls := findClass_of_methodNamed Bd.named
  have hnm := (name_of_methodNamed Bd.named Bd.method).1
  have X0 : Stand p l e ({ frames := 0, cells := 0, slots := 0, locals := 0 } : Room) s m #[(.int pp1)] below meth c s₁ [] 0 0 := Stand.of_body Bd
  have e0 : s₁.heap = h0 := by rw [← hh, Bd.state]; rfl
  have N0 := Fr.nil n0
  have pre0 : ∀ t, Steps p.tables e below (s₁.setTop (mkF m 0 #[.val (.int pp1)] [])) t → Steps p.tables e below (s₁.setTop (entryFrame m #[(.int pp1)] 1)) t := fun t k => castTop (ef_1 m pp1) k
  obtain ⟨T1, X1, e1, st1⟩ := getS2 X0 hx hZ hown (host := "") (Or.inl (hw _ (List.mem_of_getElem? (i := 4) rfl))) Via.refl e0 (S_STATE_SETS.ext O0.2) (g := (mkF m 1 #[.val (.int pp1)] [(.int pp1)])) rfl (hb hby d1_1)
  obtain ⟨cl_2, Ar_2, -, Sz_2, Nn_2, -, -⟩ := id V_tb
  have pre3 : ∀ t, Steps p.tables e below (T1.setTop (mkF m 5 #[.val (.int pp1)] [(.int (128 : Int32)), (.int pp1)])) t → Steps p.tables e below (s₁.setTop (entryFrame m #[(.int pp1)] 1)) t := fun t kt => pre0 t (by
    show Steps p.tables e below (s₁.setTop (mkF m 0 #[.val (.int pp1)] [])) _
    refine XS.iloadN X0.here hx rfl (hb hby d1_0) rfl ?_
    show Steps p.tables e below (s₁.setTop (mkF m 1 #[.val (.int pp1)] [(.int pp1)])) _
    refine st1 _ ?_
    show Steps p.tables e below (T1.setTop (mkF m 4 #[.val (.int pp1)] [(.ref tb), (.int pp1)])) _
    refine X1.arraylength hx (by rw [e1]; exact Ar_2.1) (State.isArrayOf_alike hZ.alike Ar_2.2.1) (g := (mkF m 4 #[.val (.int pp1)] [(.ref tb), (.int pp1)])) rfl rfl (hb hby d1_4) _ ?_
    rw [len_of Sz_2 Nn_2]
    exact kt)
  by_cases hc5 : pp1 < (128 : Int32)
  · skip
    obtain ⟨T4, X4, e4, st4⟩ := getS2 X1 hx hZ hown (host := "") (Or.inl (hw _ (List.mem_of_getElem? (i := 4) rfl))) Via.refl e1 (S_STATE_SETS.ext O0.2) (g := (mkF m 8 #[.val (.int pp1)] [])) rfl (hb hby d1_8)
    obtain ⟨cl_5, Ar_5, qq_5, Sz_5, Nn_5, Hh_5, Gg_5⟩ := id V_tb
    have hin_5 : ¬ (pp1 < 0 ∨ cl_5.slots.size ≤ (pp1).toNatClampNeg) := inb_of Sz_5 ⟨hn, hc5⟩
    have hat_5 : cl_5.slots[(pp1).toNatClampNeg]? = some (.int rr) := Has.at Hh_5 hin_5 (hr hc5)
    obtain ⟨fs, hr, hrun, hended, hW, hsame⟩ := X4.leave (v := some (.int rr)) (fun h => by rw [Bd.returns] at h; cases h)
    refine ⟨_, _, pre3 _ ?_, hrun, hended, _, _, rfl, ?_, ⟨_, rfl⟩, hW, hsame.mono (by decide) (by decide)⟩
    · show Steps p.tables e below (T1.setTop (mkF m 5 #[.val (.int pp1)] [(.int (128 : Int32)), (.int pp1)])) _
      refine XS.icmpNo X1.here hx rfl (hb hby d1_5) rfl (tlt hc5).2.1 ?_
      show Steps p.tables e below (T1.setTop (mkF m 8 #[.val (.int pp1)] [])) _
      refine st4 _ ?_
      show Steps p.tables e below (T4.setTop (mkF m 11 #[.val (.int pp1)] [(.ref tb)])) _
      refine XS.iloadN X4.here hx rfl (hb hby d1_11) rfl ?_
      show Steps p.tables e below (T4.setTop (mkF m 12 #[.val (.int pp1)] [(.int pp1), (.ref tb)])) _
      refine X4.iaload hx (j := pp1) (v := (.int rr)) (by rw [e4]; exact Ar_5.1) (State.isArrayOf_alike hZ.alike Ar_5.2.1) Ar_5.2.2 hin_5 hat_5 (g := (mkF m 12 #[.val (.int pp1)] [(.int pp1), (.ref tb)])) rfl rfl (hb hby d1_12) _ ?_
      show Steps p.tables e below (T4.setTop (mkF m 13 #[.val (.int pp1)] [(.int rr)])) _
      refine XS.goto X4.here hx rfl (pc0 := 13) (pc' := 17) rfl (hb hby d1_13) (by decide) (by decide) ?_
      show Steps p.tables e below (T4.setTop (mkF m 17 #[.val (.int pp1)] [(.int rr)])) _
      exact retI X4 hx Bd.returns (hb hby d1_17) hr
    · show Q1 Z pp1 tb kt vx rr h0 n0 _ T4.heap _
      rw [e4]
      exact ⟨rfl, N0, rfl⟩
  · skip
    obtain ⟨fs, hr, hrun, hended, hW, hsame⟩ := X1.leave (v := some (.int (0 : Int32))) (fun h => by rw [Bd.returns] at h; cases h)
    refine ⟨_, _, pre3 _ ?_, hrun, hended, _, _, rfl, ?_, ⟨_, rfl⟩, hW, hsame.mono (by decide) (by decide)⟩
    · show Steps p.tables e below (T1.setTop (mkF m 5 #[.val (.int pp1)] [(.int (128 : Int32)), (.int pp1)])) _
      refine XS.icmpYes X1.here hx rfl (pc0 := 5) (pc' := 16) rfl (hb hby d1_5) rfl (flt hc5).2.1 (by decide) (by decide) ?_
      show Steps p.tables e below (T1.setTop (mkF m 16 #[.val (.int pp1)] [])) _
      refine XS.iconst X1.here hx rfl (hb hby d1_16) ?_
      show Steps p.tables e below (T1.setTop (mkF m 17 #[.val (.int pp1)] [(.int (0 : Int32))])) _
      exact retI X1 hx Bd.returns (hb hby d1_17) hr
    · show Q1 Z pp1 tb kt vx rr h0 n0 _ T1.heap _
      rw [e1]
      exact ⟨(by rw [hz hc5]), N0, rfl⟩
theorem pn_com_example_escapement_escapement_model_NucleotidesStateSetPinLaw : plainName "com/example/escapement/escapement/model/NucleotidesStateSetPinLaw" = true := by first | (simp [plainName, overriddenIn]; done) | decide +kernel
theorem d2_0 : decode method_3_code 0 = .ok (.iload_n 0, 1) := by decide +kernel
theorem d2_1 : decode method_3_code 1 = .ok (.istore_n 1, 1) := by decide +kernel
theorem d2_2 : decode method_3_code 2 = .ok (.iload_n 1, 1) := by decide +kernel
theorem d2_3 : decode method_3_code 3 = .ok (.bipush 97, 2) := by decide +kernel
theorem d2_5 : decode method_3_code 5 = .ok (.if_icmp .lt 14, 3) := by decide +kernel
theorem d2_8 : decode method_3_code 8 = .ok (.iload_n 1, 1) := by decide +kernel
theorem d2_9 : decode method_3_code 9 = .ok (.bipush 122, 2) := by decide +kernel
theorem d2_11 : decode method_3_code 11 = .ok (.if_icmp .gt 8, 3) := by decide +kernel
theorem d2_14 : decode method_3_code 14 = .ok (.iload_n 1, 1) := by decide +kernel
theorem d2_15 : decode method_3_code 15 = .ok (.bipush 32, 2) := by decide +kernel
theorem d2_17 : decode method_3_code 17 = .ok (.isub, 1) := by decide +kernel
theorem d2_18 : decode method_3_code 18 = .ok (.istore_n 1, 1) := by decide +kernel
theorem d2_19 : decode method_3_code 19 = .ok (.iconst 1, 1) := by decide +kernel
theorem d2_20 : decode method_3_code 20 = .ok (.istore_n 2, 1) := by decide +kernel
theorem d2_21 : decode method_3_code 21 = .ok (.iconst 2, 1) := by decide +kernel
theorem d2_22 : decode method_3_code 22 = .ok (.istore_n 3, 1) := by decide +kernel
theorem d2_23 : decode method_3_code 23 = .ok (.iconst 4, 1) := by decide +kernel
theorem d2_24 : decode method_3_code 24 = .ok (.istore 4, 2) := by decide +kernel
theorem d2_26 : decode method_3_code 26 = .ok (.bipush 8, 2) := by decide +kernel
theorem d2_28 : decode method_3_code 28 = .ok (.istore 5, 2) := by decide +kernel
theorem d2_30 : decode method_3_code 30 = .ok (.iload_n 1, 1) := by decide +kernel
theorem d2_31 : decode method_3_code 31 = .ok (.bipush 65, 2) := by decide +kernel
theorem d2_33 : decode method_3_code 33 = .ok (.if_icmp .ne 5, 3) := by decide +kernel
theorem d2_36 : decode method_3_code 36 = .ok (.iload_n 2, 1) := by decide +kernel
theorem d2_37 : decode method_3_code 37 = .ok (.ireturn, 1) := by decide +kernel
theorem d2_38 : decode method_3_code 38 = .ok (.iload_n 1, 1) := by decide +kernel
theorem d2_39 : decode method_3_code 39 = .ok (.bipush 67, 2) := by decide +kernel
theorem d2_41 : decode method_3_code 41 = .ok (.if_icmp .ne 5, 3) := by decide +kernel
theorem d2_44 : decode method_3_code 44 = .ok (.iload_n 3, 1) := by decide +kernel
theorem d2_45 : decode method_3_code 45 = .ok (.ireturn, 1) := by decide +kernel
theorem d2_46 : decode method_3_code 46 = .ok (.iload_n 1, 1) := by decide +kernel
theorem d2_47 : decode method_3_code 47 = .ok (.bipush 71, 2) := by decide +kernel
theorem d2_49 : decode method_3_code 49 = .ok (.if_icmp .ne 6, 3) := by decide +kernel
theorem d2_52 : decode method_3_code 52 = .ok (.iload 4, 2) := by decide +kernel
theorem d2_54 : decode method_3_code 54 = .ok (.ireturn, 1) := by decide +kernel
theorem d2_55 : decode method_3_code 55 = .ok (.iload_n 1, 1) := by decide +kernel
theorem d2_56 : decode method_3_code 56 = .ok (.bipush 84, 2) := by decide +kernel
theorem d2_58 : decode method_3_code 58 = .ok (.if_icmp .ne 6, 3) := by decide +kernel
theorem d2_61 : decode method_3_code 61 = .ok (.iload 5, 2) := by decide +kernel
theorem d2_63 : decode method_3_code 63 = .ok (.ireturn, 1) := by decide +kernel
theorem d2_64 : decode method_3_code 64 = .ok (.iload_n 1, 1) := by decide +kernel
theorem d2_65 : decode method_3_code 65 = .ok (.bipush 85, 2) := by decide +kernel
theorem d2_67 : decode method_3_code 67 = .ok (.if_icmp .ne 6, 3) := by decide +kernel
theorem d2_70 : decode method_3_code 70 = .ok (.iload 5, 2) := by decide +kernel
theorem d2_72 : decode method_3_code 72 = .ok (.ireturn, 1) := by decide +kernel
theorem d2_73 : decode method_3_code 73 = .ok (.iload_n 1, 1) := by decide +kernel
theorem d2_74 : decode method_3_code 74 = .ok (.bipush 82, 2) := by decide +kernel
theorem d2_76 : decode method_3_code 76 = .ok (.if_icmp .ne 8, 3) := by decide +kernel
theorem d2_79 : decode method_3_code 79 = .ok (.iload_n 2, 1) := by decide +kernel
theorem d2_80 : decode method_3_code 80 = .ok (.iload 4, 2) := by decide +kernel
theorem d2_82 : decode method_3_code 82 = .ok (.ior, 1) := by decide +kernel
theorem d2_83 : decode method_3_code 83 = .ok (.ireturn, 1) := by decide +kernel
theorem d2_84 : decode method_3_code 84 = .ok (.iload_n 1, 1) := by decide +kernel
theorem d2_85 : decode method_3_code 85 = .ok (.bipush 89, 2) := by decide +kernel
theorem d2_87 : decode method_3_code 87 = .ok (.if_icmp .ne 8, 3) := by decide +kernel
theorem d2_90 : decode method_3_code 90 = .ok (.iload_n 3, 1) := by decide +kernel
theorem d2_91 : decode method_3_code 91 = .ok (.iload 5, 2) := by decide +kernel
theorem d2_93 : decode method_3_code 93 = .ok (.ior, 1) := by decide +kernel
theorem d2_94 : decode method_3_code 94 = .ok (.ireturn, 1) := by decide +kernel
theorem d2_95 : decode method_3_code 95 = .ok (.iload_n 1, 1) := by decide +kernel
theorem d2_96 : decode method_3_code 96 = .ok (.bipush 75, 2) := by decide +kernel
theorem d2_98 : decode method_3_code 98 = .ok (.if_icmp .ne 9, 3) := by decide +kernel
theorem d2_101 : decode method_3_code 101 = .ok (.iload 4, 2) := by decide +kernel
theorem d2_103 : decode method_3_code 103 = .ok (.iload 5, 2) := by decide +kernel
theorem d2_105 : decode method_3_code 105 = .ok (.ior, 1) := by decide +kernel
theorem d2_106 : decode method_3_code 106 = .ok (.ireturn, 1) := by decide +kernel
theorem d2_107 : decode method_3_code 107 = .ok (.iload_n 1, 1) := by decide +kernel
theorem d2_108 : decode method_3_code 108 = .ok (.bipush 77, 2) := by decide +kernel
theorem d2_110 : decode method_3_code 110 = .ok (.if_icmp .ne 7, 3) := by decide +kernel
theorem d2_113 : decode method_3_code 113 = .ok (.iload_n 2, 1) := by decide +kernel
theorem d2_114 : decode method_3_code 114 = .ok (.iload_n 3, 1) := by decide +kernel
theorem d2_115 : decode method_3_code 115 = .ok (.ior, 1) := by decide +kernel
theorem d2_116 : decode method_3_code 116 = .ok (.ireturn, 1) := by decide +kernel
theorem d2_117 : decode method_3_code 117 = .ok (.iload_n 1, 1) := by decide +kernel
theorem d2_118 : decode method_3_code 118 = .ok (.bipush 83, 2) := by decide +kernel
theorem d2_120 : decode method_3_code 120 = .ok (.if_icmp .ne 8, 3) := by decide +kernel
theorem d2_123 : decode method_3_code 123 = .ok (.iload_n 3, 1) := by decide +kernel
theorem d2_124 : decode method_3_code 124 = .ok (.iload 4, 2) := by decide +kernel
theorem d2_126 : decode method_3_code 126 = .ok (.ior, 1) := by decide +kernel
theorem d2_127 : decode method_3_code 127 = .ok (.ireturn, 1) := by decide +kernel
theorem d2_128 : decode method_3_code 128 = .ok (.iload_n 1, 1) := by decide +kernel
theorem d2_129 : decode method_3_code 129 = .ok (.bipush 87, 2) := by decide +kernel
theorem d2_131 : decode method_3_code 131 = .ok (.if_icmp .ne 8, 3) := by decide +kernel
theorem d2_134 : decode method_3_code 134 = .ok (.iload_n 2, 1) := by decide +kernel
theorem d2_135 : decode method_3_code 135 = .ok (.iload 5, 2) := by decide +kernel
theorem d2_137 : decode method_3_code 137 = .ok (.ior, 1) := by decide +kernel
theorem d2_138 : decode method_3_code 138 = .ok (.ireturn, 1) := by decide +kernel
theorem d2_139 : decode method_3_code 139 = .ok (.iload_n 1, 1) := by decide +kernel
theorem d2_140 : decode method_3_code 140 = .ok (.bipush 66, 2) := by decide +kernel
theorem d2_142 : decode method_3_code 142 = .ok (.if_icmp .ne 11, 3) := by decide +kernel
theorem d2_145 : decode method_3_code 145 = .ok (.iload_n 3, 1) := by decide +kernel
theorem d2_146 : decode method_3_code 146 = .ok (.iload 4, 2) := by decide +kernel
theorem d2_148 : decode method_3_code 148 = .ok (.ior, 1) := by decide +kernel
theorem d2_149 : decode method_3_code 149 = .ok (.iload 5, 2) := by decide +kernel
theorem d2_151 : decode method_3_code 151 = .ok (.ior, 1) := by decide +kernel
theorem d2_152 : decode method_3_code 152 = .ok (.ireturn, 1) := by decide +kernel
theorem d2_153 : decode method_3_code 153 = .ok (.iload_n 1, 1) := by decide +kernel
theorem d2_154 : decode method_3_code 154 = .ok (.bipush 68, 2) := by decide +kernel
theorem d2_156 : decode method_3_code 156 = .ok (.if_icmp .ne 11, 3) := by decide +kernel
theorem d2_159 : decode method_3_code 159 = .ok (.iload_n 2, 1) := by decide +kernel
theorem d2_160 : decode method_3_code 160 = .ok (.iload 4, 2) := by decide +kernel
theorem d2_162 : decode method_3_code 162 = .ok (.ior, 1) := by decide +kernel
theorem d2_163 : decode method_3_code 163 = .ok (.iload 5, 2) := by decide +kernel
theorem d2_165 : decode method_3_code 165 = .ok (.ior, 1) := by decide +kernel
theorem d2_166 : decode method_3_code 166 = .ok (.ireturn, 1) := by decide +kernel
theorem d2_167 : decode method_3_code 167 = .ok (.iload_n 1, 1) := by decide +kernel
theorem d2_168 : decode method_3_code 168 = .ok (.bipush 72, 2) := by decide +kernel
theorem d2_170 : decode method_3_code 170 = .ok (.if_icmp .ne 10, 3) := by decide +kernel
theorem d2_173 : decode method_3_code 173 = .ok (.iload_n 2, 1) := by decide +kernel
theorem d2_174 : decode method_3_code 174 = .ok (.iload_n 3, 1) := by decide +kernel
theorem d2_175 : decode method_3_code 175 = .ok (.ior, 1) := by decide +kernel
theorem d2_176 : decode method_3_code 176 = .ok (.iload 5, 2) := by decide +kernel
theorem d2_178 : decode method_3_code 178 = .ok (.ior, 1) := by decide +kernel
theorem d2_179 : decode method_3_code 179 = .ok (.ireturn, 1) := by decide +kernel
theorem d2_180 : decode method_3_code 180 = .ok (.iload_n 1, 1) := by decide +kernel
theorem d2_181 : decode method_3_code 181 = .ok (.bipush 86, 2) := by decide +kernel
theorem d2_183 : decode method_3_code 183 = .ok (.if_icmp .ne 10, 3) := by decide +kernel
theorem d2_186 : decode method_3_code 186 = .ok (.iload_n 2, 1) := by decide +kernel
theorem d2_187 : decode method_3_code 187 = .ok (.iload_n 3, 1) := by decide +kernel
theorem d2_188 : decode method_3_code 188 = .ok (.ior, 1) := by decide +kernel
theorem d2_189 : decode method_3_code 189 = .ok (.iload 4, 2) := by decide +kernel
theorem d2_191 : decode method_3_code 191 = .ok (.ior, 1) := by decide +kernel
theorem d2_192 : decode method_3_code 192 = .ok (.ireturn, 1) := by decide +kernel
theorem d2_193 : decode method_3_code 193 = .ok (.iload_n 1, 1) := by decide +kernel
theorem d2_194 : decode method_3_code 194 = .ok (.bipush 78, 2) := by decide +kernel
theorem d2_196 : decode method_3_code 196 = .ok (.if_icmp .ne 6, 3) := by decide +kernel
theorem d2_199 : decode method_3_code 199 = .ok (.bipush 15, 2) := by decide +kernel
theorem d2_201 : decode method_3_code 201 = .ok (.ireturn, 1) := by decide +kernel
theorem d2_202 : decode method_3_code 202 = .ok (.iload_n 1, 1) := by decide +kernel
theorem d2_203 : decode method_3_code 203 = .ok (.bipush 45, 2) := by decide +kernel
theorem d2_205 : decode method_3_code 205 = .ok (.if_icmp .ne 6, 3) := by decide +kernel
theorem d2_208 : decode method_3_code 208 = .ok (.bipush 15, 2) := by decide +kernel
theorem d2_210 : decode method_3_code 210 = .ok (.ireturn, 1) := by decide +kernel
theorem d2_211 : decode method_3_code 211 = .ok (.iload_n 1, 1) := by decide +kernel
theorem d2_212 : decode method_3_code 212 = .ok (.bipush 63, 2) := by decide +kernel
theorem d2_214 : decode method_3_code 214 = .ok (.if_icmp .ne 6, 3) := by decide +kernel
theorem d2_217 : decode method_3_code 217 = .ok (.bipush 15, 2) := by decide +kernel
theorem d2_219 : decode method_3_code 219 = .ok (.ireturn, 1) := by decide +kernel
theorem d2_220 : decode method_3_code 220 = .ok (.iconst 0, 1) := by decide +kernel
theorem d2_221 : decode method_3_code 221 = .ok (.ireturn, 1) := by decide +kernel
theorem ef_2 (m : MethodId) (x0 : Int32) : entryFrame m #[(.int x0)] 6 = mkF m 0 #[.val (.int x0), .unset, .unset, .unset, .unset, .unset] [] := by first | (simp [entryFrame, mkF, argsToLocals, Value.category]; done) | rfl
def Q2 (Z : State) (pp1 : Int32) (h0 : Heap) (n0 : Nat) (v : Option Value) (h : Heap) (L : List Loc) : Prop := v = some (.int (own_exp pp1)) ∧ Fr n0 L ∧ h = h0
set_option maxRecDepth 65536 in
set_option maxHeartbeats 40000000 in
theorem rm2 (l : Launch) (Z : State) (a0 : Array Value) (hw : ∀ d ∈ tables_1, d.before a0 Z = true) (ws : List Jvm.Cond) (pp1 : Int32) (h0 : Heap) (n0 : Nat) (Z0 : n0 ≤ h0.size) :
    MetFree l (⟨"com/example/escapement/escapement/model/NucleotidesStateSetPinLaw", "expected", "(C)I"⟩ : MethodName) (head1 (Jvm.Cond.code (⟨"com/example/escapement/escapement/model/NucleotidesStateSetPinLaw", "expected", "(C)I"⟩ : MethodName) method_3_code 6 (some .int) :: ws) ({ frames := 0, cells := 0, slots := 0, locals := 0 } : Room)) (fun a U => a = #[(.int pp1)] ∧ Z.Warmed39 U.vm ∧ U.heap = h0) (fun _ _ _ _ _ => True) (fun _ U o U' => ∃ v L, o = .returned v ∧ Q2 Z pp1 h0 n0 v U'.heap L ∧ FrameEnd U o U' L ({ frames := 0, cells := 0, slots := 0, locals := 0 } : Room).cells ({ frames := 0, cells := 0, slots := 0, locals := 0 } : Room).slots) := by
  refine MetFree.of_bodySF (plainFor_of_name pn_com_example_escapement_escapement_model_NucleotidesStateSetPinLaw) hisR ?_
  intro p e s m args below meth c s₁ Bd hml0 hP hK
  obtain ⟨rfl, hZ, hh⟩ := hP
  have hx := Bd.exec
  have hby := Bd.bytes
  have hml : c.maxLocals = 6 := hml0
  have hown : s.vm.findClass "com/example/escapement/escapement/model/NucleotidesStateSetPinLaw" = some m.cls := findClass_of_methodNamed Bd.named
  have hnm := (name_of_methodNamed Bd.named Bd.method).1
  have X0 : Stand p l e ({ frames := 0, cells := 0, slots := 0, locals := 0 } : Room) s m #[(.int pp1)] below meth c s₁ [] 0 0 := Stand.of_body Bd
  have e0 : s₁.heap = h0 := by rw [← hh, Bd.state]; rfl
  have N0 := Fr.nil n0
  have pre0 : ∀ t, Steps p.tables e below (s₁.setTop (mkF m 0 #[.val (.int pp1), .unset, .unset, .unset, .unset, .unset] [])) t → Steps p.tables e below (s₁.setTop (entryFrame m #[(.int pp1)] 6)) t := fun t k => castTop (ef_2 m pp1) k
  obtain ⟨uu, T1, L1, h_uu, X1, e1, N1, pre1⟩ : ∃ (uu : Int32) (T' : State) (L' : List Loc), (uu = own_up pp1) ∧ Stand p l e ({ frames := 0, cells := 0, slots := 0, locals := 0 } : Room) s m #[(.int pp1)] below meth c T' L' 0 0 ∧ T'.heap = h0 ∧ Fr n0 L' ∧ ∀ t, Steps p.tables e below (T'.setTop (mkF m 19 #[.val (.int pp1), .val (.int uu), .unset, .unset, .unset, .unset] [])) t → Steps p.tables e below (s₁.setTop (entryFrame m #[(.int pp1)] 6)) t := by
    have pre2 : ∀ t, Steps p.tables e below (s₁.setTop (mkF m 5 #[.val (.int pp1), .val (.int pp1), .unset, .unset, .unset, .unset] [(.int (97 : Int32)), (.int pp1)])) t → Steps p.tables e below (s₁.setTop (entryFrame m #[(.int pp1)] 6)) t := fun t kt => pre0 t (by
      show Steps p.tables e below (s₁.setTop (mkF m 0 #[.val (.int pp1), .unset, .unset, .unset, .unset, .unset] [])) _
      refine XS.iloadN X0.here hx rfl (hb hby d2_0) rfl ?_
      show Steps p.tables e below (s₁.setTop (mkF m 1 #[.val (.int pp1), .unset, .unset, .unset, .unset, .unset] [(.int pp1)])) _
      refine XS.istoreN X0.here hx rfl (hb hby d2_1) rfl (l' := #[.val (.int pp1), .val (.int pp1), .unset, .unset, .unset, .unset]) rfl ?_
      show Steps p.tables e below (s₁.setTop (mkF m 2 #[.val (.int pp1), .val (.int pp1), .unset, .unset, .unset, .unset] [])) _
      refine XS.iloadN X0.here hx rfl (hb hby d2_2) rfl ?_
      show Steps p.tables e below (s₁.setTop (mkF m 3 #[.val (.int pp1), .val (.int pp1), .unset, .unset, .unset, .unset] [(.int pp1)])) _
      refine XS.bipush X0.here hx rfl (hb hby d2_3) ?_
      exact kt)
    by_cases hc5 : pp1 < (97 : Int32)
    · skip
      exact ⟨pp1, _, _, (by unfold own_up; first | rw [if_pos hc5] | rw [if_neg hc5, if_pos hc11] | rw [if_neg hc5, if_neg hc11]), X0, e0, N0, fun t kt => pre2 t (by
          show Steps p.tables e below (s₁.setTop (mkF m 5 #[.val (.int pp1), .val (.int pp1), .unset, .unset, .unset, .unset] [(.int (97 : Int32)), (.int pp1)])) _
          refine XS.icmpYes X0.here hx rfl (pc0 := 5) (pc' := 19) rfl (hb hby d2_5) rfl (tlt hc5).1 (by decide) (by decide) ?_
          exact kt)⟩
    · skip
      have pre3 : ∀ t, Steps p.tables e below (s₁.setTop (mkF m 11 #[.val (.int pp1), .val (.int pp1), .unset, .unset, .unset, .unset] [(.int (122 : Int32)), (.int pp1)])) t → Steps p.tables e below (s₁.setTop (entryFrame m #[(.int pp1)] 6)) t := fun t kt => pre2 t (by
        show Steps p.tables e below (s₁.setTop (mkF m 5 #[.val (.int pp1), .val (.int pp1), .unset, .unset, .unset, .unset] [(.int (97 : Int32)), (.int pp1)])) _
        refine XS.icmpNo X0.here hx rfl (hb hby d2_5) rfl (flt hc5).1 ?_
        show Steps p.tables e below (s₁.setTop (mkF m 8 #[.val (.int pp1), .val (.int pp1), .unset, .unset, .unset, .unset] [])) _
        refine XS.iloadN X0.here hx rfl (hb hby d2_8) rfl ?_
        show Steps p.tables e below (s₁.setTop (mkF m 9 #[.val (.int pp1), .val (.int pp1), .unset, .unset, .unset, .unset] [(.int pp1)])) _
        refine XS.bipush X0.here hx rfl (hb hby d2_9) ?_
        exact kt)
      by_cases hc11 : (122 : Int32) < pp1
      · skip
        exact ⟨pp1, _, _, (by unfold own_up; first | rw [if_pos hc5] | rw [if_neg hc5, if_pos hc11] | rw [if_neg hc5, if_neg hc11]), X0, e0, N0, fun t kt => pre3 t (by
            show Steps p.tables e below (s₁.setTop (mkF m 11 #[.val (.int pp1), .val (.int pp1), .unset, .unset, .unset, .unset] [(.int (122 : Int32)), (.int pp1)])) _
            refine XS.icmpYes X0.here hx rfl (pc0 := 11) (pc' := 19) rfl (hb hby d2_11) rfl (tlt hc11).2.2.1 (by decide) (by decide) ?_
            exact kt)⟩
      · skip
        exact ⟨(pp1 - (32 : Int32)), _, _, (by unfold own_up; first | rw [if_pos hc5] | rw [if_neg hc5, if_pos hc11] | rw [if_neg hc5, if_neg hc11]), X0, e0, N0, fun t kt => pre3 t (by
            show Steps p.tables e below (s₁.setTop (mkF m 11 #[.val (.int pp1), .val (.int pp1), .unset, .unset, .unset, .unset] [(.int (122 : Int32)), (.int pp1)])) _
            refine XS.icmpNo X0.here hx rfl (hb hby d2_11) rfl (flt hc11).2.2.1 ?_
            show Steps p.tables e below (s₁.setTop (mkF m 14 #[.val (.int pp1), .val (.int pp1), .unset, .unset, .unset, .unset] [])) _
            refine XS.iloadN X0.here hx rfl (hb hby d2_14) rfl ?_
            show Steps p.tables e below (s₁.setTop (mkF m 15 #[.val (.int pp1), .val (.int pp1), .unset, .unset, .unset, .unset] [(.int pp1)])) _
            refine XS.bipush X0.here hx rfl (hb hby d2_15) ?_
            show Steps p.tables e below (s₁.setTop (mkF m 17 #[.val (.int pp1), .val (.int pp1), .unset, .unset, .unset, .unset] [(.int (32 : Int32)), (.int pp1)])) _
            refine XS.isub X0.here hx rfl (hb hby d2_17) rfl ?_
            show Steps p.tables e below (s₁.setTop (mkF m 18 #[.val (.int pp1), .val (.int pp1), .unset, .unset, .unset, .unset] [(.int (pp1 - (32 : Int32)))])) _
            refine XS.istoreN X0.here hx rfl (hb hby d2_18) rfl (l' := #[.val (.int pp1), .val (.int (pp1 - (32 : Int32))), .unset, .unset, .unset, .unset]) rfl ?_
            exact kt)⟩
  have pre4 : ∀ t, Steps p.tables e below (T1.setTop (mkF m 33 #[.val (.int pp1), .val (.int uu), .val (.int (1 : Int32)), .val (.int (2 : Int32)), .val (.int (4 : Int32)), .val (.int (8 : Int32))] [(.int (65 : Int32)), (.int uu)])) t → Steps p.tables e below (s₁.setTop (entryFrame m #[(.int pp1)] 6)) t := fun t kt => pre1 t (by
    show Steps p.tables e below (T1.setTop (mkF m 19 #[.val (.int pp1), .val (.int uu), .unset, .unset, .unset, .unset] [])) _
    refine XS.iconst X1.here hx rfl (hb hby d2_19) ?_
    show Steps p.tables e below (T1.setTop (mkF m 20 #[.val (.int pp1), .val (.int uu), .unset, .unset, .unset, .unset] [(.int (1 : Int32))])) _
    refine XS.istoreN X1.here hx rfl (hb hby d2_20) rfl (l' := #[.val (.int pp1), .val (.int uu), .val (.int (1 : Int32)), .unset, .unset, .unset]) rfl ?_
    show Steps p.tables e below (T1.setTop (mkF m 21 #[.val (.int pp1), .val (.int uu), .val (.int (1 : Int32)), .unset, .unset, .unset] [])) _
    refine XS.iconst X1.here hx rfl (hb hby d2_21) ?_
    show Steps p.tables e below (T1.setTop (mkF m 22 #[.val (.int pp1), .val (.int uu), .val (.int (1 : Int32)), .unset, .unset, .unset] [(.int (2 : Int32))])) _
    refine XS.istoreN X1.here hx rfl (hb hby d2_22) rfl (l' := #[.val (.int pp1), .val (.int uu), .val (.int (1 : Int32)), .val (.int (2 : Int32)), .unset, .unset]) rfl ?_
    show Steps p.tables e below (T1.setTop (mkF m 23 #[.val (.int pp1), .val (.int uu), .val (.int (1 : Int32)), .val (.int (2 : Int32)), .unset, .unset] [])) _
    refine XS.iconst X1.here hx rfl (hb hby d2_23) ?_
    show Steps p.tables e below (T1.setTop (mkF m 24 #[.val (.int pp1), .val (.int uu), .val (.int (1 : Int32)), .val (.int (2 : Int32)), .unset, .unset] [(.int (4 : Int32))])) _
    refine XS.istore X1.here hx rfl (hb hby d2_24) rfl (l' := #[.val (.int pp1), .val (.int uu), .val (.int (1 : Int32)), .val (.int (2 : Int32)), .val (.int (4 : Int32)), .unset]) rfl ?_
    show Steps p.tables e below (T1.setTop (mkF m 26 #[.val (.int pp1), .val (.int uu), .val (.int (1 : Int32)), .val (.int (2 : Int32)), .val (.int (4 : Int32)), .unset] [])) _
    refine XS.bipush X1.here hx rfl (hb hby d2_26) ?_
    show Steps p.tables e below (T1.setTop (mkF m 28 #[.val (.int pp1), .val (.int uu), .val (.int (1 : Int32)), .val (.int (2 : Int32)), .val (.int (4 : Int32)), .unset] [(.int (8 : Int32))])) _
    refine XS.istore X1.here hx rfl (hb hby d2_28) rfl (l' := #[.val (.int pp1), .val (.int uu), .val (.int (1 : Int32)), .val (.int (2 : Int32)), .val (.int (4 : Int32)), .val (.int (8 : Int32))]) rfl ?_
    show Steps p.tables e below (T1.setTop (mkF m 30 #[.val (.int pp1), .val (.int uu), .val (.int (1 : Int32)), .val (.int (2 : Int32)), .val (.int (4 : Int32)), .val (.int (8 : Int32))] [])) _
    refine XS.iloadN X1.here hx rfl (hb hby d2_30) rfl ?_
    show Steps p.tables e below (T1.setTop (mkF m 31 #[.val (.int pp1), .val (.int uu), .val (.int (1 : Int32)), .val (.int (2 : Int32)), .val (.int (4 : Int32)), .val (.int (8 : Int32))] [(.int uu)])) _
    refine XS.bipush X1.here hx rfl (hb hby d2_31) ?_
    exact kt)
  by_cases hc33 : uu = (65 : Int32)
  · skip
    obtain ⟨fs, hr, hrun, hended, hW, hsame⟩ := X1.leave (v := some (.int (1 : Int32))) (fun h => by rw [Bd.returns] at h; cases h)
    refine ⟨_, _, pre4 _ ?_, hrun, hended, _, _, rfl, ?_, ⟨_, rfl⟩, hW, hsame.mono (by decide) (by decide)⟩
    · show Steps p.tables e below (T1.setTop (mkF m 33 #[.val (.int pp1), .val (.int uu), .val (.int (1 : Int32)), .val (.int (2 : Int32)), .val (.int (4 : Int32)), .val (.int (8 : Int32))] [(.int (65 : Int32)), (.int uu)])) _
      refine XS.icmpNo X1.here hx rfl (hb hby d2_33) rfl (teq hc33).2 ?_
      show Steps p.tables e below (T1.setTop (mkF m 36 #[.val (.int pp1), .val (.int uu), .val (.int (1 : Int32)), .val (.int (2 : Int32)), .val (.int (4 : Int32)), .val (.int (8 : Int32))] [])) _
      refine XS.iloadN X1.here hx rfl (hb hby d2_36) rfl ?_
      show Steps p.tables e below (T1.setTop (mkF m 37 #[.val (.int pp1), .val (.int uu), .val (.int (1 : Int32)), .val (.int (2 : Int32)), .val (.int (4 : Int32)), .val (.int (8 : Int32))] [(.int (1 : Int32))])) _
      exact retI X1 hx Bd.returns (hb hby d2_37) hr
    · show Q2 Z pp1 h0 n0 _ T1.heap _
      rw [e1]
      exact ⟨(by unfold own_exp own_tab; rw [← h_uu, if_pos hc33]), N1, rfl⟩
  · skip
    have pre5 : ∀ t, Steps p.tables e below (T1.setTop (mkF m 41 #[.val (.int pp1), .val (.int uu), .val (.int (1 : Int32)), .val (.int (2 : Int32)), .val (.int (4 : Int32)), .val (.int (8 : Int32))] [(.int (67 : Int32)), (.int uu)])) t → Steps p.tables e below (s₁.setTop (entryFrame m #[(.int pp1)] 6)) t := fun t kt => pre4 t (by
      show Steps p.tables e below (T1.setTop (mkF m 33 #[.val (.int pp1), .val (.int uu), .val (.int (1 : Int32)), .val (.int (2 : Int32)), .val (.int (4 : Int32)), .val (.int (8 : Int32))] [(.int (65 : Int32)), (.int uu)])) _
      refine XS.icmpYes X1.here hx rfl (pc0 := 33) (pc' := 38) rfl (hb hby d2_33) rfl (feq hc33).2 (by decide) (by decide) ?_
      show Steps p.tables e below (T1.setTop (mkF m 38 #[.val (.int pp1), .val (.int uu), .val (.int (1 : Int32)), .val (.int (2 : Int32)), .val (.int (4 : Int32)), .val (.int (8 : Int32))] [])) _
      refine XS.iloadN X1.here hx rfl (hb hby d2_38) rfl ?_
      show Steps p.tables e below (T1.setTop (mkF m 39 #[.val (.int pp1), .val (.int uu), .val (.int (1 : Int32)), .val (.int (2 : Int32)), .val (.int (4 : Int32)), .val (.int (8 : Int32))] [(.int uu)])) _
      refine XS.bipush X1.here hx rfl (hb hby d2_39) ?_
      exact kt)
    by_cases hc41 : uu = (67 : Int32)
    · skip
      obtain ⟨fs, hr, hrun, hended, hW, hsame⟩ := X1.leave (v := some (.int (2 : Int32))) (fun h => by rw [Bd.returns] at h; cases h)
      refine ⟨_, _, pre5 _ ?_, hrun, hended, _, _, rfl, ?_, ⟨_, rfl⟩, hW, hsame.mono (by decide) (by decide)⟩
      · show Steps p.tables e below (T1.setTop (mkF m 41 #[.val (.int pp1), .val (.int uu), .val (.int (1 : Int32)), .val (.int (2 : Int32)), .val (.int (4 : Int32)), .val (.int (8 : Int32))] [(.int (67 : Int32)), (.int uu)])) _
        refine XS.icmpNo X1.here hx rfl (hb hby d2_41) rfl (teq hc41).2 ?_
        show Steps p.tables e below (T1.setTop (mkF m 44 #[.val (.int pp1), .val (.int uu), .val (.int (1 : Int32)), .val (.int (2 : Int32)), .val (.int (4 : Int32)), .val (.int (8 : Int32))] [])) _
        refine XS.iloadN X1.here hx rfl (hb hby d2_44) rfl ?_
        show Steps p.tables e below (T1.setTop (mkF m 45 #[.val (.int pp1), .val (.int uu), .val (.int (1 : Int32)), .val (.int (2 : Int32)), .val (.int (4 : Int32)), .val (.int (8 : Int32))] [(.int (2 : Int32))])) _
        exact retI X1 hx Bd.returns (hb hby d2_45) hr
      · show Q2 Z pp1 h0 n0 _ T1.heap _
        rw [e1]
        exact ⟨(by unfold own_exp own_tab; rw [← h_uu, if_neg hc33, if_pos hc41]), N1, rfl⟩
    · skip
      have pre6 : ∀ t, Steps p.tables e below (T1.setTop (mkF m 49 #[.val (.int pp1), .val (.int uu), .val (.int (1 : Int32)), .val (.int (2 : Int32)), .val (.int (4 : Int32)), .val (.int (8 : Int32))] [(.int (71 : Int32)), (.int uu)])) t → Steps p.tables e below (s₁.setTop (entryFrame m #[(.int pp1)] 6)) t := fun t kt => pre5 t (by
        show Steps p.tables e below (T1.setTop (mkF m 41 #[.val (.int pp1), .val (.int uu), .val (.int (1 : Int32)), .val (.int (2 : Int32)), .val (.int (4 : Int32)), .val (.int (8 : Int32))] [(.int (67 : Int32)), (.int uu)])) _
        refine XS.icmpYes X1.here hx rfl (pc0 := 41) (pc' := 46) rfl (hb hby d2_41) rfl (feq hc41).2 (by decide) (by decide) ?_
        show Steps p.tables e below (T1.setTop (mkF m 46 #[.val (.int pp1), .val (.int uu), .val (.int (1 : Int32)), .val (.int (2 : Int32)), .val (.int (4 : Int32)), .val (.int (8 : Int32))] [])) _
        refine XS.iloadN X1.here hx rfl (hb hby d2_46) rfl ?_
        show Steps p.tables e below (T1.setTop (mkF m 47 #[.val (.int pp1), .val (.int uu), .val (.int (1 : Int32)), .val (.int (2 : Int32)), .val (.int (4 : Int32)), .val (.int (8 : Int32))] [(.int uu)])) _
        refine XS.bipush X1.here hx rfl (hb hby d2_47) ?_
        exact kt)
      by_cases hc49 : uu = (71 : Int32)
      · skip
        obtain ⟨fs, hr, hrun, hended, hW, hsame⟩ := X1.leave (v := some (.int (4 : Int32))) (fun h => by rw [Bd.returns] at h; cases h)
        refine ⟨_, _, pre6 _ ?_, hrun, hended, _, _, rfl, ?_, ⟨_, rfl⟩, hW, hsame.mono (by decide) (by decide)⟩
        · show Steps p.tables e below (T1.setTop (mkF m 49 #[.val (.int pp1), .val (.int uu), .val (.int (1 : Int32)), .val (.int (2 : Int32)), .val (.int (4 : Int32)), .val (.int (8 : Int32))] [(.int (71 : Int32)), (.int uu)])) _
          refine XS.icmpNo X1.here hx rfl (hb hby d2_49) rfl (teq hc49).2 ?_
          show Steps p.tables e below (T1.setTop (mkF m 52 #[.val (.int pp1), .val (.int uu), .val (.int (1 : Int32)), .val (.int (2 : Int32)), .val (.int (4 : Int32)), .val (.int (8 : Int32))] [])) _
          refine XS.iload X1.here hx rfl (hb hby d2_52) rfl ?_
          show Steps p.tables e below (T1.setTop (mkF m 54 #[.val (.int pp1), .val (.int uu), .val (.int (1 : Int32)), .val (.int (2 : Int32)), .val (.int (4 : Int32)), .val (.int (8 : Int32))] [(.int (4 : Int32))])) _
          exact retI X1 hx Bd.returns (hb hby d2_54) hr
        · show Q2 Z pp1 h0 n0 _ T1.heap _
          rw [e1]
          exact ⟨(by unfold own_exp own_tab; rw [← h_uu, if_neg hc33, if_neg hc41, if_pos hc49]), N1, rfl⟩
      · skip
        have pre7 : ∀ t, Steps p.tables e below (T1.setTop (mkF m 58 #[.val (.int pp1), .val (.int uu), .val (.int (1 : Int32)), .val (.int (2 : Int32)), .val (.int (4 : Int32)), .val (.int (8 : Int32))] [(.int (84 : Int32)), (.int uu)])) t → Steps p.tables e below (s₁.setTop (entryFrame m #[(.int pp1)] 6)) t := fun t kt => pre6 t (by
          show Steps p.tables e below (T1.setTop (mkF m 49 #[.val (.int pp1), .val (.int uu), .val (.int (1 : Int32)), .val (.int (2 : Int32)), .val (.int (4 : Int32)), .val (.int (8 : Int32))] [(.int (71 : Int32)), (.int uu)])) _
          refine XS.icmpYes X1.here hx rfl (pc0 := 49) (pc' := 55) rfl (hb hby d2_49) rfl (feq hc49).2 (by decide) (by decide) ?_
          show Steps p.tables e below (T1.setTop (mkF m 55 #[.val (.int pp1), .val (.int uu), .val (.int (1 : Int32)), .val (.int (2 : Int32)), .val (.int (4 : Int32)), .val (.int (8 : Int32))] [])) _
          refine XS.iloadN X1.here hx rfl (hb hby d2_55) rfl ?_
          show Steps p.tables e below (T1.setTop (mkF m 56 #[.val (.int pp1), .val (.int uu), .val (.int (1 : Int32)), .val (.int (2 : Int32)), .val (.int (4 : Int32)), .val (.int (8 : Int32))] [(.int uu)])) _
          refine XS.bipush X1.here hx rfl (hb hby d2_56) ?_
          exact kt)
        by_cases hc58 : uu = (84 : Int32)
        · skip
          obtain ⟨fs, hr, hrun, hended, hW, hsame⟩ := X1.leave (v := some (.int (8 : Int32))) (fun h => by rw [Bd.returns] at h; cases h)
          refine ⟨_, _, pre7 _ ?_, hrun, hended, _, _, rfl, ?_, ⟨_, rfl⟩, hW, hsame.mono (by decide) (by decide)⟩
          · show Steps p.tables e below (T1.setTop (mkF m 58 #[.val (.int pp1), .val (.int uu), .val (.int (1 : Int32)), .val (.int (2 : Int32)), .val (.int (4 : Int32)), .val (.int (8 : Int32))] [(.int (84 : Int32)), (.int uu)])) _
            refine XS.icmpNo X1.here hx rfl (hb hby d2_58) rfl (teq hc58).2 ?_
            show Steps p.tables e below (T1.setTop (mkF m 61 #[.val (.int pp1), .val (.int uu), .val (.int (1 : Int32)), .val (.int (2 : Int32)), .val (.int (4 : Int32)), .val (.int (8 : Int32))] [])) _
            refine XS.iload X1.here hx rfl (hb hby d2_61) rfl ?_
            show Steps p.tables e below (T1.setTop (mkF m 63 #[.val (.int pp1), .val (.int uu), .val (.int (1 : Int32)), .val (.int (2 : Int32)), .val (.int (4 : Int32)), .val (.int (8 : Int32))] [(.int (8 : Int32))])) _
            exact retI X1 hx Bd.returns (hb hby d2_63) hr
          · show Q2 Z pp1 h0 n0 _ T1.heap _
            rw [e1]
            exact ⟨(by unfold own_exp own_tab; rw [← h_uu, if_neg hc33, if_neg hc41, if_neg hc49, if_pos hc58]), N1, rfl⟩
        · skip
          have pre8 : ∀ t, Steps p.tables e below (T1.setTop (mkF m 67 #[.val (.int pp1), .val (.int uu), .val (.int (1 : Int32)), .val (.int (2 : Int32)), .val (.int (4 : Int32)), .val (.int (8 : Int32))] [(.int (85 : Int32)), (.int uu)])) t → Steps p.tables e below (s₁.setTop (entryFrame m #[(.int pp1)] 6)) t := fun t kt => pre7 t (by
            show Steps p.tables e below (T1.setTop (mkF m 58 #[.val (.int pp1), .val (.int uu), .val (.int (1 : Int32)), .val (.int (2 : Int32)), .val (.int (4 : Int32)), .val (.int (8 : Int32))] [(.int (84 : Int32)), (.int uu)])) _
            refine XS.icmpYes X1.here hx rfl (pc0 := 58) (pc' := 64) rfl (hb hby d2_58) rfl (feq hc58).2 (by decide) (by decide) ?_
            show Steps p.tables e below (T1.setTop (mkF m 64 #[.val (.int pp1), .val (.int uu), .val (.int (1 : Int32)), .val (.int (2 : Int32)), .val (.int (4 : Int32)), .val (.int (8 : Int32))] [])) _
            refine XS.iloadN X1.here hx rfl (hb hby d2_64) rfl ?_
            show Steps p.tables e below (T1.setTop (mkF m 65 #[.val (.int pp1), .val (.int uu), .val (.int (1 : Int32)), .val (.int (2 : Int32)), .val (.int (4 : Int32)), .val (.int (8 : Int32))] [(.int uu)])) _
            refine XS.bipush X1.here hx rfl (hb hby d2_65) ?_
            exact kt)
          by_cases hc67 : uu = (85 : Int32)
          · skip
            obtain ⟨fs, hr, hrun, hended, hW, hsame⟩ := X1.leave (v := some (.int (8 : Int32))) (fun h => by rw [Bd.returns] at h; cases h)
            refine ⟨_, _, pre8 _ ?_, hrun, hended, _, _, rfl, ?_, ⟨_, rfl⟩, hW, hsame.mono (by decide) (by decide)⟩
            · show Steps p.tables e below (T1.setTop (mkF m 67 #[.val (.int pp1), .val (.int uu), .val (.int (1 : Int32)), .val (.int (2 : Int32)), .val (.int (4 : Int32)), .val (.int (8 : Int32))] [(.int (85 : Int32)), (.int uu)])) _
              refine XS.icmpNo X1.here hx rfl (hb hby d2_67) rfl (teq hc67).2 ?_
              show Steps p.tables e below (T1.setTop (mkF m 70 #[.val (.int pp1), .val (.int uu), .val (.int (1 : Int32)), .val (.int (2 : Int32)), .val (.int (4 : Int32)), .val (.int (8 : Int32))] [])) _
              refine XS.iload X1.here hx rfl (hb hby d2_70) rfl ?_
              show Steps p.tables e below (T1.setTop (mkF m 72 #[.val (.int pp1), .val (.int uu), .val (.int (1 : Int32)), .val (.int (2 : Int32)), .val (.int (4 : Int32)), .val (.int (8 : Int32))] [(.int (8 : Int32))])) _
              exact retI X1 hx Bd.returns (hb hby d2_72) hr
            · show Q2 Z pp1 h0 n0 _ T1.heap _
              rw [e1]
              exact ⟨(by unfold own_exp own_tab; rw [← h_uu, if_neg hc33, if_neg hc41, if_neg hc49, if_neg hc58, if_pos hc67]), N1, rfl⟩
          · skip
            have pre9 : ∀ t, Steps p.tables e below (T1.setTop (mkF m 76 #[.val (.int pp1), .val (.int uu), .val (.int (1 : Int32)), .val (.int (2 : Int32)), .val (.int (4 : Int32)), .val (.int (8 : Int32))] [(.int (82 : Int32)), (.int uu)])) t → Steps p.tables e below (s₁.setTop (entryFrame m #[(.int pp1)] 6)) t := fun t kt => pre8 t (by
              show Steps p.tables e below (T1.setTop (mkF m 67 #[.val (.int pp1), .val (.int uu), .val (.int (1 : Int32)), .val (.int (2 : Int32)), .val (.int (4 : Int32)), .val (.int (8 : Int32))] [(.int (85 : Int32)), (.int uu)])) _
              refine XS.icmpYes X1.here hx rfl (pc0 := 67) (pc' := 73) rfl (hb hby d2_67) rfl (feq hc67).2 (by decide) (by decide) ?_
              show Steps p.tables e below (T1.setTop (mkF m 73 #[.val (.int pp1), .val (.int uu), .val (.int (1 : Int32)), .val (.int (2 : Int32)), .val (.int (4 : Int32)), .val (.int (8 : Int32))] [])) _
              refine XS.iloadN X1.here hx rfl (hb hby d2_73) rfl ?_
              show Steps p.tables e below (T1.setTop (mkF m 74 #[.val (.int pp1), .val (.int uu), .val (.int (1 : Int32)), .val (.int (2 : Int32)), .val (.int (4 : Int32)), .val (.int (8 : Int32))] [(.int uu)])) _
              refine XS.bipush X1.here hx rfl (hb hby d2_74) ?_
              exact kt)
            by_cases hc76 : uu = (82 : Int32)
            · skip
              obtain ⟨fs, hr, hrun, hended, hW, hsame⟩ := X1.leave (v := some (.int (5 : Int32))) (fun h => by rw [Bd.returns] at h; cases h)
              refine ⟨_, _, pre9 _ ?_, hrun, hended, _, _, rfl, ?_, ⟨_, rfl⟩, hW, hsame.mono (by decide) (by decide)⟩
              · show Steps p.tables e below (T1.setTop (mkF m 76 #[.val (.int pp1), .val (.int uu), .val (.int (1 : Int32)), .val (.int (2 : Int32)), .val (.int (4 : Int32)), .val (.int (8 : Int32))] [(.int (82 : Int32)), (.int uu)])) _
                refine XS.icmpNo X1.here hx rfl (hb hby d2_76) rfl (teq hc76).2 ?_
                show Steps p.tables e below (T1.setTop (mkF m 79 #[.val (.int pp1), .val (.int uu), .val (.int (1 : Int32)), .val (.int (2 : Int32)), .val (.int (4 : Int32)), .val (.int (8 : Int32))] [])) _
                refine XS.iloadN X1.here hx rfl (hb hby d2_79) rfl ?_
                show Steps p.tables e below (T1.setTop (mkF m 80 #[.val (.int pp1), .val (.int uu), .val (.int (1 : Int32)), .val (.int (2 : Int32)), .val (.int (4 : Int32)), .val (.int (8 : Int32))] [(.int (1 : Int32))])) _
                refine XS.iload X1.here hx rfl (hb hby d2_80) rfl ?_
                show Steps p.tables e below (T1.setTop (mkF m 82 #[.val (.int pp1), .val (.int uu), .val (.int (1 : Int32)), .val (.int (2 : Int32)), .val (.int (4 : Int32)), .val (.int (8 : Int32))] [(.int (4 : Int32)), (.int (1 : Int32))])) _
                refine XS.ior X1.here hx rfl (hb hby d2_82) rfl ?_
                show Steps p.tables e below (T1.setTop (mkF m 83 #[.val (.int pp1), .val (.int uu), .val (.int (1 : Int32)), .val (.int (2 : Int32)), .val (.int (4 : Int32)), .val (.int (8 : Int32))] [(.int (5 : Int32))])) _
                exact retI X1 hx Bd.returns (hb hby d2_83) hr
              · show Q2 Z pp1 h0 n0 _ T1.heap _
                rw [e1]
                exact ⟨(by unfold own_exp own_tab; rw [← h_uu, if_neg hc33, if_neg hc41, if_neg hc49, if_neg hc58, if_neg hc67, if_pos hc76]), N1, rfl⟩
            · skip
              have pre10 : ∀ t, Steps p.tables e below (T1.setTop (mkF m 87 #[.val (.int pp1), .val (.int uu), .val (.int (1 : Int32)), .val (.int (2 : Int32)), .val (.int (4 : Int32)), .val (.int (8 : Int32))] [(.int (89 : Int32)), (.int uu)])) t → Steps p.tables e below (s₁.setTop (entryFrame m #[(.int pp1)] 6)) t := fun t kt => pre9 t (by
                show Steps p.tables e below (T1.setTop (mkF m 76 #[.val (.int pp1), .val (.int uu), .val (.int (1 : Int32)), .val (.int (2 : Int32)), .val (.int (4 : Int32)), .val (.int (8 : Int32))] [(.int (82 : Int32)), (.int uu)])) _
                refine XS.icmpYes X1.here hx rfl (pc0 := 76) (pc' := 84) rfl (hb hby d2_76) rfl (feq hc76).2 (by decide) (by decide) ?_
                show Steps p.tables e below (T1.setTop (mkF m 84 #[.val (.int pp1), .val (.int uu), .val (.int (1 : Int32)), .val (.int (2 : Int32)), .val (.int (4 : Int32)), .val (.int (8 : Int32))] [])) _
                refine XS.iloadN X1.here hx rfl (hb hby d2_84) rfl ?_
                show Steps p.tables e below (T1.setTop (mkF m 85 #[.val (.int pp1), .val (.int uu), .val (.int (1 : Int32)), .val (.int (2 : Int32)), .val (.int (4 : Int32)), .val (.int (8 : Int32))] [(.int uu)])) _
                refine XS.bipush X1.here hx rfl (hb hby d2_85) ?_
                exact kt)
              by_cases hc87 : uu = (89 : Int32)
              · skip
                obtain ⟨fs, hr, hrun, hended, hW, hsame⟩ := X1.leave (v := some (.int (10 : Int32))) (fun h => by rw [Bd.returns] at h; cases h)
                refine ⟨_, _, pre10 _ ?_, hrun, hended, _, _, rfl, ?_, ⟨_, rfl⟩, hW, hsame.mono (by decide) (by decide)⟩
                · show Steps p.tables e below (T1.setTop (mkF m 87 #[.val (.int pp1), .val (.int uu), .val (.int (1 : Int32)), .val (.int (2 : Int32)), .val (.int (4 : Int32)), .val (.int (8 : Int32))] [(.int (89 : Int32)), (.int uu)])) _
                  refine XS.icmpNo X1.here hx rfl (hb hby d2_87) rfl (teq hc87).2 ?_
                  show Steps p.tables e below (T1.setTop (mkF m 90 #[.val (.int pp1), .val (.int uu), .val (.int (1 : Int32)), .val (.int (2 : Int32)), .val (.int (4 : Int32)), .val (.int (8 : Int32))] [])) _
                  refine XS.iloadN X1.here hx rfl (hb hby d2_90) rfl ?_
                  show Steps p.tables e below (T1.setTop (mkF m 91 #[.val (.int pp1), .val (.int uu), .val (.int (1 : Int32)), .val (.int (2 : Int32)), .val (.int (4 : Int32)), .val (.int (8 : Int32))] [(.int (2 : Int32))])) _
                  refine XS.iload X1.here hx rfl (hb hby d2_91) rfl ?_
                  show Steps p.tables e below (T1.setTop (mkF m 93 #[.val (.int pp1), .val (.int uu), .val (.int (1 : Int32)), .val (.int (2 : Int32)), .val (.int (4 : Int32)), .val (.int (8 : Int32))] [(.int (8 : Int32)), (.int (2 : Int32))])) _
                  refine XS.ior X1.here hx rfl (hb hby d2_93) rfl ?_
                  show Steps p.tables e below (T1.setTop (mkF m 94 #[.val (.int pp1), .val (.int uu), .val (.int (1 : Int32)), .val (.int (2 : Int32)), .val (.int (4 : Int32)), .val (.int (8 : Int32))] [(.int (10 : Int32))])) _
                  exact retI X1 hx Bd.returns (hb hby d2_94) hr
                · show Q2 Z pp1 h0 n0 _ T1.heap _
                  rw [e1]
                  exact ⟨(by unfold own_exp own_tab; rw [← h_uu, if_neg hc33, if_neg hc41, if_neg hc49, if_neg hc58, if_neg hc67, if_neg hc76, if_pos hc87]), N1, rfl⟩
              · skip
                have pre11 : ∀ t, Steps p.tables e below (T1.setTop (mkF m 98 #[.val (.int pp1), .val (.int uu), .val (.int (1 : Int32)), .val (.int (2 : Int32)), .val (.int (4 : Int32)), .val (.int (8 : Int32))] [(.int (75 : Int32)), (.int uu)])) t → Steps p.tables e below (s₁.setTop (entryFrame m #[(.int pp1)] 6)) t := fun t kt => pre10 t (by
                  show Steps p.tables e below (T1.setTop (mkF m 87 #[.val (.int pp1), .val (.int uu), .val (.int (1 : Int32)), .val (.int (2 : Int32)), .val (.int (4 : Int32)), .val (.int (8 : Int32))] [(.int (89 : Int32)), (.int uu)])) _
                  refine XS.icmpYes X1.here hx rfl (pc0 := 87) (pc' := 95) rfl (hb hby d2_87) rfl (feq hc87).2 (by decide) (by decide) ?_
                  show Steps p.tables e below (T1.setTop (mkF m 95 #[.val (.int pp1), .val (.int uu), .val (.int (1 : Int32)), .val (.int (2 : Int32)), .val (.int (4 : Int32)), .val (.int (8 : Int32))] [])) _
                  refine XS.iloadN X1.here hx rfl (hb hby d2_95) rfl ?_
                  show Steps p.tables e below (T1.setTop (mkF m 96 #[.val (.int pp1), .val (.int uu), .val (.int (1 : Int32)), .val (.int (2 : Int32)), .val (.int (4 : Int32)), .val (.int (8 : Int32))] [(.int uu)])) _
                  refine XS.bipush X1.here hx rfl (hb hby d2_96) ?_
                  exact kt)
                by_cases hc98 : uu = (75 : Int32)
                · skip
                  obtain ⟨fs, hr, hrun, hended, hW, hsame⟩ := X1.leave (v := some (.int (12 : Int32))) (fun h => by rw [Bd.returns] at h; cases h)
                  refine ⟨_, _, pre11 _ ?_, hrun, hended, _, _, rfl, ?_, ⟨_, rfl⟩, hW, hsame.mono (by decide) (by decide)⟩
                  · show Steps p.tables e below (T1.setTop (mkF m 98 #[.val (.int pp1), .val (.int uu), .val (.int (1 : Int32)), .val (.int (2 : Int32)), .val (.int (4 : Int32)), .val (.int (8 : Int32))] [(.int (75 : Int32)), (.int uu)])) _
                    refine XS.icmpNo X1.here hx rfl (hb hby d2_98) rfl (teq hc98).2 ?_
                    show Steps p.tables e below (T1.setTop (mkF m 101 #[.val (.int pp1), .val (.int uu), .val (.int (1 : Int32)), .val (.int (2 : Int32)), .val (.int (4 : Int32)), .val (.int (8 : Int32))] [])) _
                    refine XS.iload X1.here hx rfl (hb hby d2_101) rfl ?_
                    show Steps p.tables e below (T1.setTop (mkF m 103 #[.val (.int pp1), .val (.int uu), .val (.int (1 : Int32)), .val (.int (2 : Int32)), .val (.int (4 : Int32)), .val (.int (8 : Int32))] [(.int (4 : Int32))])) _
                    refine XS.iload X1.here hx rfl (hb hby d2_103) rfl ?_
                    show Steps p.tables e below (T1.setTop (mkF m 105 #[.val (.int pp1), .val (.int uu), .val (.int (1 : Int32)), .val (.int (2 : Int32)), .val (.int (4 : Int32)), .val (.int (8 : Int32))] [(.int (8 : Int32)), (.int (4 : Int32))])) _
                    refine XS.ior X1.here hx rfl (hb hby d2_105) rfl ?_
                    show Steps p.tables e below (T1.setTop (mkF m 106 #[.val (.int pp1), .val (.int uu), .val (.int (1 : Int32)), .val (.int (2 : Int32)), .val (.int (4 : Int32)), .val (.int (8 : Int32))] [(.int (12 : Int32))])) _
                    exact retI X1 hx Bd.returns (hb hby d2_106) hr
                  · show Q2 Z pp1 h0 n0 _ T1.heap _
                    rw [e1]
                    exact ⟨(by unfold own_exp own_tab; rw [← h_uu, if_neg hc33, if_neg hc41, if_neg hc49, if_neg hc58, if_neg hc67, if_neg hc76, if_neg hc87, if_pos hc98]), N1, rfl⟩
                · skip
                  have pre12 : ∀ t, Steps p.tables e below (T1.setTop (mkF m 110 #[.val (.int pp1), .val (.int uu), .val (.int (1 : Int32)), .val (.int (2 : Int32)), .val (.int (4 : Int32)), .val (.int (8 : Int32))] [(.int (77 : Int32)), (.int uu)])) t → Steps p.tables e below (s₁.setTop (entryFrame m #[(.int pp1)] 6)) t := fun t kt => pre11 t (by
                    show Steps p.tables e below (T1.setTop (mkF m 98 #[.val (.int pp1), .val (.int uu), .val (.int (1 : Int32)), .val (.int (2 : Int32)), .val (.int (4 : Int32)), .val (.int (8 : Int32))] [(.int (75 : Int32)), (.int uu)])) _
                    refine XS.icmpYes X1.here hx rfl (pc0 := 98) (pc' := 107) rfl (hb hby d2_98) rfl (feq hc98).2 (by decide) (by decide) ?_
                    show Steps p.tables e below (T1.setTop (mkF m 107 #[.val (.int pp1), .val (.int uu), .val (.int (1 : Int32)), .val (.int (2 : Int32)), .val (.int (4 : Int32)), .val (.int (8 : Int32))] [])) _
                    refine XS.iloadN X1.here hx rfl (hb hby d2_107) rfl ?_
                    show Steps p.tables e below (T1.setTop (mkF m 108 #[.val (.int pp1), .val (.int uu), .val (.int (1 : Int32)), .val (.int (2 : Int32)), .val (.int (4 : Int32)), .val (.int (8 : Int32))] [(.int uu)])) _
                    refine XS.bipush X1.here hx rfl (hb hby d2_108) ?_
                    exact kt)
                  by_cases hc110 : uu = (77 : Int32)
                  · skip
                    obtain ⟨fs, hr, hrun, hended, hW, hsame⟩ := X1.leave (v := some (.int (3 : Int32))) (fun h => by rw [Bd.returns] at h; cases h)
                    refine ⟨_, _, pre12 _ ?_, hrun, hended, _, _, rfl, ?_, ⟨_, rfl⟩, hW, hsame.mono (by decide) (by decide)⟩
                    · show Steps p.tables e below (T1.setTop (mkF m 110 #[.val (.int pp1), .val (.int uu), .val (.int (1 : Int32)), .val (.int (2 : Int32)), .val (.int (4 : Int32)), .val (.int (8 : Int32))] [(.int (77 : Int32)), (.int uu)])) _
                      refine XS.icmpNo X1.here hx rfl (hb hby d2_110) rfl (teq hc110).2 ?_
                      show Steps p.tables e below (T1.setTop (mkF m 113 #[.val (.int pp1), .val (.int uu), .val (.int (1 : Int32)), .val (.int (2 : Int32)), .val (.int (4 : Int32)), .val (.int (8 : Int32))] [])) _
                      refine XS.iloadN X1.here hx rfl (hb hby d2_113) rfl ?_
                      show Steps p.tables e below (T1.setTop (mkF m 114 #[.val (.int pp1), .val (.int uu), .val (.int (1 : Int32)), .val (.int (2 : Int32)), .val (.int (4 : Int32)), .val (.int (8 : Int32))] [(.int (1 : Int32))])) _
                      refine XS.iloadN X1.here hx rfl (hb hby d2_114) rfl ?_
                      show Steps p.tables e below (T1.setTop (mkF m 115 #[.val (.int pp1), .val (.int uu), .val (.int (1 : Int32)), .val (.int (2 : Int32)), .val (.int (4 : Int32)), .val (.int (8 : Int32))] [(.int (2 : Int32)), (.int (1 : Int32))])) _
                      refine XS.ior X1.here hx rfl (hb hby d2_115) rfl ?_
                      show Steps p.tables e below (T1.setTop (mkF m 116 #[.val (.int pp1), .val (.int uu), .val (.int (1 : Int32)), .val (.int (2 : Int32)), .val (.int (4 : Int32)), .val (.int (8 : Int32))] [(.int (3 : Int32))])) _
                      exact retI X1 hx Bd.returns (hb hby d2_116) hr
                    · show Q2 Z pp1 h0 n0 _ T1.heap _
                      rw [e1]
                      exact ⟨(by unfold own_exp own_tab; rw [← h_uu, if_neg hc33, if_neg hc41, if_neg hc49, if_neg hc58, if_neg hc67, if_neg hc76, if_neg hc87, if_neg hc98, if_pos hc110]), N1, rfl⟩
                  · skip
                    have pre13 : ∀ t, Steps p.tables e below (T1.setTop (mkF m 120 #[.val (.int pp1), .val (.int uu), .val (.int (1 : Int32)), .val (.int (2 : Int32)), .val (.int (4 : Int32)), .val (.int (8 : Int32))] [(.int (83 : Int32)), (.int uu)])) t → Steps p.tables e below (s₁.setTop (entryFrame m #[(.int pp1)] 6)) t := fun t kt => pre12 t (by
                      show Steps p.tables e below (T1.setTop (mkF m 110 #[.val (.int pp1), .val (.int uu), .val (.int (1 : Int32)), .val (.int (2 : Int32)), .val (.int (4 : Int32)), .val (.int (8 : Int32))] [(.int (77 : Int32)), (.int uu)])) _
                      refine XS.icmpYes X1.here hx rfl (pc0 := 110) (pc' := 117) rfl (hb hby d2_110) rfl (feq hc110).2 (by decide) (by decide) ?_
                      show Steps p.tables e below (T1.setTop (mkF m 117 #[.val (.int pp1), .val (.int uu), .val (.int (1 : Int32)), .val (.int (2 : Int32)), .val (.int (4 : Int32)), .val (.int (8 : Int32))] [])) _
                      refine XS.iloadN X1.here hx rfl (hb hby d2_117) rfl ?_
                      show Steps p.tables e below (T1.setTop (mkF m 118 #[.val (.int pp1), .val (.int uu), .val (.int (1 : Int32)), .val (.int (2 : Int32)), .val (.int (4 : Int32)), .val (.int (8 : Int32))] [(.int uu)])) _
                      refine XS.bipush X1.here hx rfl (hb hby d2_118) ?_
                      exact kt)
                    by_cases hc120 : uu = (83 : Int32)
                    · skip
                      obtain ⟨fs, hr, hrun, hended, hW, hsame⟩ := X1.leave (v := some (.int (6 : Int32))) (fun h => by rw [Bd.returns] at h; cases h)
                      refine ⟨_, _, pre13 _ ?_, hrun, hended, _, _, rfl, ?_, ⟨_, rfl⟩, hW, hsame.mono (by decide) (by decide)⟩
                      · show Steps p.tables e below (T1.setTop (mkF m 120 #[.val (.int pp1), .val (.int uu), .val (.int (1 : Int32)), .val (.int (2 : Int32)), .val (.int (4 : Int32)), .val (.int (8 : Int32))] [(.int (83 : Int32)), (.int uu)])) _
                        refine XS.icmpNo X1.here hx rfl (hb hby d2_120) rfl (teq hc120).2 ?_
                        show Steps p.tables e below (T1.setTop (mkF m 123 #[.val (.int pp1), .val (.int uu), .val (.int (1 : Int32)), .val (.int (2 : Int32)), .val (.int (4 : Int32)), .val (.int (8 : Int32))] [])) _
                        refine XS.iloadN X1.here hx rfl (hb hby d2_123) rfl ?_
                        show Steps p.tables e below (T1.setTop (mkF m 124 #[.val (.int pp1), .val (.int uu), .val (.int (1 : Int32)), .val (.int (2 : Int32)), .val (.int (4 : Int32)), .val (.int (8 : Int32))] [(.int (2 : Int32))])) _
                        refine XS.iload X1.here hx rfl (hb hby d2_124) rfl ?_
                        show Steps p.tables e below (T1.setTop (mkF m 126 #[.val (.int pp1), .val (.int uu), .val (.int (1 : Int32)), .val (.int (2 : Int32)), .val (.int (4 : Int32)), .val (.int (8 : Int32))] [(.int (4 : Int32)), (.int (2 : Int32))])) _
                        refine XS.ior X1.here hx rfl (hb hby d2_126) rfl ?_
                        show Steps p.tables e below (T1.setTop (mkF m 127 #[.val (.int pp1), .val (.int uu), .val (.int (1 : Int32)), .val (.int (2 : Int32)), .val (.int (4 : Int32)), .val (.int (8 : Int32))] [(.int (6 : Int32))])) _
                        exact retI X1 hx Bd.returns (hb hby d2_127) hr
                      · show Q2 Z pp1 h0 n0 _ T1.heap _
                        rw [e1]
                        exact ⟨(by unfold own_exp own_tab; rw [← h_uu, if_neg hc33, if_neg hc41, if_neg hc49, if_neg hc58, if_neg hc67, if_neg hc76, if_neg hc87, if_neg hc98, if_neg hc110, if_pos hc120]), N1, rfl⟩
                    · skip
                      have pre14 : ∀ t, Steps p.tables e below (T1.setTop (mkF m 131 #[.val (.int pp1), .val (.int uu), .val (.int (1 : Int32)), .val (.int (2 : Int32)), .val (.int (4 : Int32)), .val (.int (8 : Int32))] [(.int (87 : Int32)), (.int uu)])) t → Steps p.tables e below (s₁.setTop (entryFrame m #[(.int pp1)] 6)) t := fun t kt => pre13 t (by
                        show Steps p.tables e below (T1.setTop (mkF m 120 #[.val (.int pp1), .val (.int uu), .val (.int (1 : Int32)), .val (.int (2 : Int32)), .val (.int (4 : Int32)), .val (.int (8 : Int32))] [(.int (83 : Int32)), (.int uu)])) _
                        refine XS.icmpYes X1.here hx rfl (pc0 := 120) (pc' := 128) rfl (hb hby d2_120) rfl (feq hc120).2 (by decide) (by decide) ?_
                        show Steps p.tables e below (T1.setTop (mkF m 128 #[.val (.int pp1), .val (.int uu), .val (.int (1 : Int32)), .val (.int (2 : Int32)), .val (.int (4 : Int32)), .val (.int (8 : Int32))] [])) _
                        refine XS.iloadN X1.here hx rfl (hb hby d2_128) rfl ?_
                        show Steps p.tables e below (T1.setTop (mkF m 129 #[.val (.int pp1), .val (.int uu), .val (.int (1 : Int32)), .val (.int (2 : Int32)), .val (.int (4 : Int32)), .val (.int (8 : Int32))] [(.int uu)])) _
                        refine XS.bipush X1.here hx rfl (hb hby d2_129) ?_
                        exact kt)
                      by_cases hc131 : uu = (87 : Int32)
                      · skip
                        obtain ⟨fs, hr, hrun, hended, hW, hsame⟩ := X1.leave (v := some (.int (9 : Int32))) (fun h => by rw [Bd.returns] at h; cases h)
                        refine ⟨_, _, pre14 _ ?_, hrun, hended, _, _, rfl, ?_, ⟨_, rfl⟩, hW, hsame.mono (by decide) (by decide)⟩
                        · show Steps p.tables e below (T1.setTop (mkF m 131 #[.val (.int pp1), .val (.int uu), .val (.int (1 : Int32)), .val (.int (2 : Int32)), .val (.int (4 : Int32)), .val (.int (8 : Int32))] [(.int (87 : Int32)), (.int uu)])) _
                          refine XS.icmpNo X1.here hx rfl (hb hby d2_131) rfl (teq hc131).2 ?_
                          show Steps p.tables e below (T1.setTop (mkF m 134 #[.val (.int pp1), .val (.int uu), .val (.int (1 : Int32)), .val (.int (2 : Int32)), .val (.int (4 : Int32)), .val (.int (8 : Int32))] [])) _
                          refine XS.iloadN X1.here hx rfl (hb hby d2_134) rfl ?_
                          show Steps p.tables e below (T1.setTop (mkF m 135 #[.val (.int pp1), .val (.int uu), .val (.int (1 : Int32)), .val (.int (2 : Int32)), .val (.int (4 : Int32)), .val (.int (8 : Int32))] [(.int (1 : Int32))])) _
                          refine XS.iload X1.here hx rfl (hb hby d2_135) rfl ?_
                          show Steps p.tables e below (T1.setTop (mkF m 137 #[.val (.int pp1), .val (.int uu), .val (.int (1 : Int32)), .val (.int (2 : Int32)), .val (.int (4 : Int32)), .val (.int (8 : Int32))] [(.int (8 : Int32)), (.int (1 : Int32))])) _
                          refine XS.ior X1.here hx rfl (hb hby d2_137) rfl ?_
                          show Steps p.tables e below (T1.setTop (mkF m 138 #[.val (.int pp1), .val (.int uu), .val (.int (1 : Int32)), .val (.int (2 : Int32)), .val (.int (4 : Int32)), .val (.int (8 : Int32))] [(.int (9 : Int32))])) _
                          exact retI X1 hx Bd.returns (hb hby d2_138) hr
                        · show Q2 Z pp1 h0 n0 _ T1.heap _
                          rw [e1]
                          exact ⟨(by unfold own_exp own_tab; rw [← h_uu, if_neg hc33, if_neg hc41, if_neg hc49, if_neg hc58, if_neg hc67, if_neg hc76, if_neg hc87, if_neg hc98, if_neg hc110, if_neg hc120, if_pos hc131]), N1, rfl⟩
                      · skip
                        have pre15 : ∀ t, Steps p.tables e below (T1.setTop (mkF m 142 #[.val (.int pp1), .val (.int uu), .val (.int (1 : Int32)), .val (.int (2 : Int32)), .val (.int (4 : Int32)), .val (.int (8 : Int32))] [(.int (66 : Int32)), (.int uu)])) t → Steps p.tables e below (s₁.setTop (entryFrame m #[(.int pp1)] 6)) t := fun t kt => pre14 t (by
                          show Steps p.tables e below (T1.setTop (mkF m 131 #[.val (.int pp1), .val (.int uu), .val (.int (1 : Int32)), .val (.int (2 : Int32)), .val (.int (4 : Int32)), .val (.int (8 : Int32))] [(.int (87 : Int32)), (.int uu)])) _
                          refine XS.icmpYes X1.here hx rfl (pc0 := 131) (pc' := 139) rfl (hb hby d2_131) rfl (feq hc131).2 (by decide) (by decide) ?_
                          show Steps p.tables e below (T1.setTop (mkF m 139 #[.val (.int pp1), .val (.int uu), .val (.int (1 : Int32)), .val (.int (2 : Int32)), .val (.int (4 : Int32)), .val (.int (8 : Int32))] [])) _
                          refine XS.iloadN X1.here hx rfl (hb hby d2_139) rfl ?_
                          show Steps p.tables e below (T1.setTop (mkF m 140 #[.val (.int pp1), .val (.int uu), .val (.int (1 : Int32)), .val (.int (2 : Int32)), .val (.int (4 : Int32)), .val (.int (8 : Int32))] [(.int uu)])) _
                          refine XS.bipush X1.here hx rfl (hb hby d2_140) ?_
                          exact kt)
                        by_cases hc142 : uu = (66 : Int32)
                        · skip
                          obtain ⟨fs, hr, hrun, hended, hW, hsame⟩ := X1.leave (v := some (.int (14 : Int32))) (fun h => by rw [Bd.returns] at h; cases h)
                          refine ⟨_, _, pre15 _ ?_, hrun, hended, _, _, rfl, ?_, ⟨_, rfl⟩, hW, hsame.mono (by decide) (by decide)⟩
                          · show Steps p.tables e below (T1.setTop (mkF m 142 #[.val (.int pp1), .val (.int uu), .val (.int (1 : Int32)), .val (.int (2 : Int32)), .val (.int (4 : Int32)), .val (.int (8 : Int32))] [(.int (66 : Int32)), (.int uu)])) _
                            refine XS.icmpNo X1.here hx rfl (hb hby d2_142) rfl (teq hc142).2 ?_
                            show Steps p.tables e below (T1.setTop (mkF m 145 #[.val (.int pp1), .val (.int uu), .val (.int (1 : Int32)), .val (.int (2 : Int32)), .val (.int (4 : Int32)), .val (.int (8 : Int32))] [])) _
                            refine XS.iloadN X1.here hx rfl (hb hby d2_145) rfl ?_
                            show Steps p.tables e below (T1.setTop (mkF m 146 #[.val (.int pp1), .val (.int uu), .val (.int (1 : Int32)), .val (.int (2 : Int32)), .val (.int (4 : Int32)), .val (.int (8 : Int32))] [(.int (2 : Int32))])) _
                            refine XS.iload X1.here hx rfl (hb hby d2_146) rfl ?_
                            show Steps p.tables e below (T1.setTop (mkF m 148 #[.val (.int pp1), .val (.int uu), .val (.int (1 : Int32)), .val (.int (2 : Int32)), .val (.int (4 : Int32)), .val (.int (8 : Int32))] [(.int (4 : Int32)), (.int (2 : Int32))])) _
                            refine XS.ior X1.here hx rfl (hb hby d2_148) rfl ?_
                            show Steps p.tables e below (T1.setTop (mkF m 149 #[.val (.int pp1), .val (.int uu), .val (.int (1 : Int32)), .val (.int (2 : Int32)), .val (.int (4 : Int32)), .val (.int (8 : Int32))] [(.int (6 : Int32))])) _
                            refine XS.iload X1.here hx rfl (hb hby d2_149) rfl ?_
                            show Steps p.tables e below (T1.setTop (mkF m 151 #[.val (.int pp1), .val (.int uu), .val (.int (1 : Int32)), .val (.int (2 : Int32)), .val (.int (4 : Int32)), .val (.int (8 : Int32))] [(.int (8 : Int32)), (.int (6 : Int32))])) _
                            refine XS.ior X1.here hx rfl (hb hby d2_151) rfl ?_
                            show Steps p.tables e below (T1.setTop (mkF m 152 #[.val (.int pp1), .val (.int uu), .val (.int (1 : Int32)), .val (.int (2 : Int32)), .val (.int (4 : Int32)), .val (.int (8 : Int32))] [(.int (14 : Int32))])) _
                            exact retI X1 hx Bd.returns (hb hby d2_152) hr
                          · show Q2 Z pp1 h0 n0 _ T1.heap _
                            rw [e1]
                            exact ⟨(by unfold own_exp own_tab; rw [← h_uu, if_neg hc33, if_neg hc41, if_neg hc49, if_neg hc58, if_neg hc67, if_neg hc76, if_neg hc87, if_neg hc98, if_neg hc110, if_neg hc120, if_neg hc131, if_pos hc142]), N1, rfl⟩
                        · skip
                          have pre16 : ∀ t, Steps p.tables e below (T1.setTop (mkF m 156 #[.val (.int pp1), .val (.int uu), .val (.int (1 : Int32)), .val (.int (2 : Int32)), .val (.int (4 : Int32)), .val (.int (8 : Int32))] [(.int (68 : Int32)), (.int uu)])) t → Steps p.tables e below (s₁.setTop (entryFrame m #[(.int pp1)] 6)) t := fun t kt => pre15 t (by
                            show Steps p.tables e below (T1.setTop (mkF m 142 #[.val (.int pp1), .val (.int uu), .val (.int (1 : Int32)), .val (.int (2 : Int32)), .val (.int (4 : Int32)), .val (.int (8 : Int32))] [(.int (66 : Int32)), (.int uu)])) _
                            refine XS.icmpYes X1.here hx rfl (pc0 := 142) (pc' := 153) rfl (hb hby d2_142) rfl (feq hc142).2 (by decide) (by decide) ?_
                            show Steps p.tables e below (T1.setTop (mkF m 153 #[.val (.int pp1), .val (.int uu), .val (.int (1 : Int32)), .val (.int (2 : Int32)), .val (.int (4 : Int32)), .val (.int (8 : Int32))] [])) _
                            refine XS.iloadN X1.here hx rfl (hb hby d2_153) rfl ?_
                            show Steps p.tables e below (T1.setTop (mkF m 154 #[.val (.int pp1), .val (.int uu), .val (.int (1 : Int32)), .val (.int (2 : Int32)), .val (.int (4 : Int32)), .val (.int (8 : Int32))] [(.int uu)])) _
                            refine XS.bipush X1.here hx rfl (hb hby d2_154) ?_
                            exact kt)
                          by_cases hc156 : uu = (68 : Int32)
                          · skip
                            obtain ⟨fs, hr, hrun, hended, hW, hsame⟩ := X1.leave (v := some (.int (13 : Int32))) (fun h => by rw [Bd.returns] at h; cases h)
                            refine ⟨_, _, pre16 _ ?_, hrun, hended, _, _, rfl, ?_, ⟨_, rfl⟩, hW, hsame.mono (by decide) (by decide)⟩
                            · show Steps p.tables e below (T1.setTop (mkF m 156 #[.val (.int pp1), .val (.int uu), .val (.int (1 : Int32)), .val (.int (2 : Int32)), .val (.int (4 : Int32)), .val (.int (8 : Int32))] [(.int (68 : Int32)), (.int uu)])) _
                              refine XS.icmpNo X1.here hx rfl (hb hby d2_156) rfl (teq hc156).2 ?_
                              show Steps p.tables e below (T1.setTop (mkF m 159 #[.val (.int pp1), .val (.int uu), .val (.int (1 : Int32)), .val (.int (2 : Int32)), .val (.int (4 : Int32)), .val (.int (8 : Int32))] [])) _
                              refine XS.iloadN X1.here hx rfl (hb hby d2_159) rfl ?_
                              show Steps p.tables e below (T1.setTop (mkF m 160 #[.val (.int pp1), .val (.int uu), .val (.int (1 : Int32)), .val (.int (2 : Int32)), .val (.int (4 : Int32)), .val (.int (8 : Int32))] [(.int (1 : Int32))])) _
                              refine XS.iload X1.here hx rfl (hb hby d2_160) rfl ?_
                              show Steps p.tables e below (T1.setTop (mkF m 162 #[.val (.int pp1), .val (.int uu), .val (.int (1 : Int32)), .val (.int (2 : Int32)), .val (.int (4 : Int32)), .val (.int (8 : Int32))] [(.int (4 : Int32)), (.int (1 : Int32))])) _
                              refine XS.ior X1.here hx rfl (hb hby d2_162) rfl ?_
                              show Steps p.tables e below (T1.setTop (mkF m 163 #[.val (.int pp1), .val (.int uu), .val (.int (1 : Int32)), .val (.int (2 : Int32)), .val (.int (4 : Int32)), .val (.int (8 : Int32))] [(.int (5 : Int32))])) _
                              refine XS.iload X1.here hx rfl (hb hby d2_163) rfl ?_
                              show Steps p.tables e below (T1.setTop (mkF m 165 #[.val (.int pp1), .val (.int uu), .val (.int (1 : Int32)), .val (.int (2 : Int32)), .val (.int (4 : Int32)), .val (.int (8 : Int32))] [(.int (8 : Int32)), (.int (5 : Int32))])) _
                              refine XS.ior X1.here hx rfl (hb hby d2_165) rfl ?_
                              show Steps p.tables e below (T1.setTop (mkF m 166 #[.val (.int pp1), .val (.int uu), .val (.int (1 : Int32)), .val (.int (2 : Int32)), .val (.int (4 : Int32)), .val (.int (8 : Int32))] [(.int (13 : Int32))])) _
                              exact retI X1 hx Bd.returns (hb hby d2_166) hr
                            · show Q2 Z pp1 h0 n0 _ T1.heap _
                              rw [e1]
                              exact ⟨(by unfold own_exp own_tab; rw [← h_uu, if_neg hc33, if_neg hc41, if_neg hc49, if_neg hc58, if_neg hc67, if_neg hc76, if_neg hc87, if_neg hc98, if_neg hc110, if_neg hc120, if_neg hc131, if_neg hc142, if_pos hc156]), N1, rfl⟩
                          · skip
                            have pre17 : ∀ t, Steps p.tables e below (T1.setTop (mkF m 170 #[.val (.int pp1), .val (.int uu), .val (.int (1 : Int32)), .val (.int (2 : Int32)), .val (.int (4 : Int32)), .val (.int (8 : Int32))] [(.int (72 : Int32)), (.int uu)])) t → Steps p.tables e below (s₁.setTop (entryFrame m #[(.int pp1)] 6)) t := fun t kt => pre16 t (by
                              show Steps p.tables e below (T1.setTop (mkF m 156 #[.val (.int pp1), .val (.int uu), .val (.int (1 : Int32)), .val (.int (2 : Int32)), .val (.int (4 : Int32)), .val (.int (8 : Int32))] [(.int (68 : Int32)), (.int uu)])) _
                              refine XS.icmpYes X1.here hx rfl (pc0 := 156) (pc' := 167) rfl (hb hby d2_156) rfl (feq hc156).2 (by decide) (by decide) ?_
                              show Steps p.tables e below (T1.setTop (mkF m 167 #[.val (.int pp1), .val (.int uu), .val (.int (1 : Int32)), .val (.int (2 : Int32)), .val (.int (4 : Int32)), .val (.int (8 : Int32))] [])) _
                              refine XS.iloadN X1.here hx rfl (hb hby d2_167) rfl ?_
                              show Steps p.tables e below (T1.setTop (mkF m 168 #[.val (.int pp1), .val (.int uu), .val (.int (1 : Int32)), .val (.int (2 : Int32)), .val (.int (4 : Int32)), .val (.int (8 : Int32))] [(.int uu)])) _
                              refine XS.bipush X1.here hx rfl (hb hby d2_168) ?_
                              exact kt)
                            by_cases hc170 : uu = (72 : Int32)
                            · skip
                              obtain ⟨fs, hr, hrun, hended, hW, hsame⟩ := X1.leave (v := some (.int (11 : Int32))) (fun h => by rw [Bd.returns] at h; cases h)
                              refine ⟨_, _, pre17 _ ?_, hrun, hended, _, _, rfl, ?_, ⟨_, rfl⟩, hW, hsame.mono (by decide) (by decide)⟩
                              · show Steps p.tables e below (T1.setTop (mkF m 170 #[.val (.int pp1), .val (.int uu), .val (.int (1 : Int32)), .val (.int (2 : Int32)), .val (.int (4 : Int32)), .val (.int (8 : Int32))] [(.int (72 : Int32)), (.int uu)])) _
                                refine XS.icmpNo X1.here hx rfl (hb hby d2_170) rfl (teq hc170).2 ?_
                                show Steps p.tables e below (T1.setTop (mkF m 173 #[.val (.int pp1), .val (.int uu), .val (.int (1 : Int32)), .val (.int (2 : Int32)), .val (.int (4 : Int32)), .val (.int (8 : Int32))] [])) _
                                refine XS.iloadN X1.here hx rfl (hb hby d2_173) rfl ?_
                                show Steps p.tables e below (T1.setTop (mkF m 174 #[.val (.int pp1), .val (.int uu), .val (.int (1 : Int32)), .val (.int (2 : Int32)), .val (.int (4 : Int32)), .val (.int (8 : Int32))] [(.int (1 : Int32))])) _
                                refine XS.iloadN X1.here hx rfl (hb hby d2_174) rfl ?_
                                show Steps p.tables e below (T1.setTop (mkF m 175 #[.val (.int pp1), .val (.int uu), .val (.int (1 : Int32)), .val (.int (2 : Int32)), .val (.int (4 : Int32)), .val (.int (8 : Int32))] [(.int (2 : Int32)), (.int (1 : Int32))])) _
                                refine XS.ior X1.here hx rfl (hb hby d2_175) rfl ?_
                                show Steps p.tables e below (T1.setTop (mkF m 176 #[.val (.int pp1), .val (.int uu), .val (.int (1 : Int32)), .val (.int (2 : Int32)), .val (.int (4 : Int32)), .val (.int (8 : Int32))] [(.int (3 : Int32))])) _
                                refine XS.iload X1.here hx rfl (hb hby d2_176) rfl ?_
                                show Steps p.tables e below (T1.setTop (mkF m 178 #[.val (.int pp1), .val (.int uu), .val (.int (1 : Int32)), .val (.int (2 : Int32)), .val (.int (4 : Int32)), .val (.int (8 : Int32))] [(.int (8 : Int32)), (.int (3 : Int32))])) _
                                refine XS.ior X1.here hx rfl (hb hby d2_178) rfl ?_
                                show Steps p.tables e below (T1.setTop (mkF m 179 #[.val (.int pp1), .val (.int uu), .val (.int (1 : Int32)), .val (.int (2 : Int32)), .val (.int (4 : Int32)), .val (.int (8 : Int32))] [(.int (11 : Int32))])) _
                                exact retI X1 hx Bd.returns (hb hby d2_179) hr
                              · show Q2 Z pp1 h0 n0 _ T1.heap _
                                rw [e1]
                                exact ⟨(by unfold own_exp own_tab; rw [← h_uu, if_neg hc33, if_neg hc41, if_neg hc49, if_neg hc58, if_neg hc67, if_neg hc76, if_neg hc87, if_neg hc98, if_neg hc110, if_neg hc120, if_neg hc131, if_neg hc142, if_neg hc156, if_pos hc170]), N1, rfl⟩
                            · skip
                              have pre18 : ∀ t, Steps p.tables e below (T1.setTop (mkF m 183 #[.val (.int pp1), .val (.int uu), .val (.int (1 : Int32)), .val (.int (2 : Int32)), .val (.int (4 : Int32)), .val (.int (8 : Int32))] [(.int (86 : Int32)), (.int uu)])) t → Steps p.tables e below (s₁.setTop (entryFrame m #[(.int pp1)] 6)) t := fun t kt => pre17 t (by
                                show Steps p.tables e below (T1.setTop (mkF m 170 #[.val (.int pp1), .val (.int uu), .val (.int (1 : Int32)), .val (.int (2 : Int32)), .val (.int (4 : Int32)), .val (.int (8 : Int32))] [(.int (72 : Int32)), (.int uu)])) _
                                refine XS.icmpYes X1.here hx rfl (pc0 := 170) (pc' := 180) rfl (hb hby d2_170) rfl (feq hc170).2 (by decide) (by decide) ?_
                                show Steps p.tables e below (T1.setTop (mkF m 180 #[.val (.int pp1), .val (.int uu), .val (.int (1 : Int32)), .val (.int (2 : Int32)), .val (.int (4 : Int32)), .val (.int (8 : Int32))] [])) _
                                refine XS.iloadN X1.here hx rfl (hb hby d2_180) rfl ?_
                                show Steps p.tables e below (T1.setTop (mkF m 181 #[.val (.int pp1), .val (.int uu), .val (.int (1 : Int32)), .val (.int (2 : Int32)), .val (.int (4 : Int32)), .val (.int (8 : Int32))] [(.int uu)])) _
                                refine XS.bipush X1.here hx rfl (hb hby d2_181) ?_
                                exact kt)
                              by_cases hc183 : uu = (86 : Int32)
                              · skip
                                obtain ⟨fs, hr, hrun, hended, hW, hsame⟩ := X1.leave (v := some (.int (7 : Int32))) (fun h => by rw [Bd.returns] at h; cases h)
                                refine ⟨_, _, pre18 _ ?_, hrun, hended, _, _, rfl, ?_, ⟨_, rfl⟩, hW, hsame.mono (by decide) (by decide)⟩
                                · show Steps p.tables e below (T1.setTop (mkF m 183 #[.val (.int pp1), .val (.int uu), .val (.int (1 : Int32)), .val (.int (2 : Int32)), .val (.int (4 : Int32)), .val (.int (8 : Int32))] [(.int (86 : Int32)), (.int uu)])) _
                                  refine XS.icmpNo X1.here hx rfl (hb hby d2_183) rfl (teq hc183).2 ?_
                                  show Steps p.tables e below (T1.setTop (mkF m 186 #[.val (.int pp1), .val (.int uu), .val (.int (1 : Int32)), .val (.int (2 : Int32)), .val (.int (4 : Int32)), .val (.int (8 : Int32))] [])) _
                                  refine XS.iloadN X1.here hx rfl (hb hby d2_186) rfl ?_
                                  show Steps p.tables e below (T1.setTop (mkF m 187 #[.val (.int pp1), .val (.int uu), .val (.int (1 : Int32)), .val (.int (2 : Int32)), .val (.int (4 : Int32)), .val (.int (8 : Int32))] [(.int (1 : Int32))])) _
                                  refine XS.iloadN X1.here hx rfl (hb hby d2_187) rfl ?_
                                  show Steps p.tables e below (T1.setTop (mkF m 188 #[.val (.int pp1), .val (.int uu), .val (.int (1 : Int32)), .val (.int (2 : Int32)), .val (.int (4 : Int32)), .val (.int (8 : Int32))] [(.int (2 : Int32)), (.int (1 : Int32))])) _
                                  refine XS.ior X1.here hx rfl (hb hby d2_188) rfl ?_
                                  show Steps p.tables e below (T1.setTop (mkF m 189 #[.val (.int pp1), .val (.int uu), .val (.int (1 : Int32)), .val (.int (2 : Int32)), .val (.int (4 : Int32)), .val (.int (8 : Int32))] [(.int (3 : Int32))])) _
                                  refine XS.iload X1.here hx rfl (hb hby d2_189) rfl ?_
                                  show Steps p.tables e below (T1.setTop (mkF m 191 #[.val (.int pp1), .val (.int uu), .val (.int (1 : Int32)), .val (.int (2 : Int32)), .val (.int (4 : Int32)), .val (.int (8 : Int32))] [(.int (4 : Int32)), (.int (3 : Int32))])) _
                                  refine XS.ior X1.here hx rfl (hb hby d2_191) rfl ?_
                                  show Steps p.tables e below (T1.setTop (mkF m 192 #[.val (.int pp1), .val (.int uu), .val (.int (1 : Int32)), .val (.int (2 : Int32)), .val (.int (4 : Int32)), .val (.int (8 : Int32))] [(.int (7 : Int32))])) _
                                  exact retI X1 hx Bd.returns (hb hby d2_192) hr
                                · show Q2 Z pp1 h0 n0 _ T1.heap _
                                  rw [e1]
                                  exact ⟨(by unfold own_exp own_tab; rw [← h_uu, if_neg hc33, if_neg hc41, if_neg hc49, if_neg hc58, if_neg hc67, if_neg hc76, if_neg hc87, if_neg hc98, if_neg hc110, if_neg hc120, if_neg hc131, if_neg hc142, if_neg hc156, if_neg hc170, if_pos hc183]), N1, rfl⟩
                              · skip
                                have pre19 : ∀ t, Steps p.tables e below (T1.setTop (mkF m 196 #[.val (.int pp1), .val (.int uu), .val (.int (1 : Int32)), .val (.int (2 : Int32)), .val (.int (4 : Int32)), .val (.int (8 : Int32))] [(.int (78 : Int32)), (.int uu)])) t → Steps p.tables e below (s₁.setTop (entryFrame m #[(.int pp1)] 6)) t := fun t kt => pre18 t (by
                                  show Steps p.tables e below (T1.setTop (mkF m 183 #[.val (.int pp1), .val (.int uu), .val (.int (1 : Int32)), .val (.int (2 : Int32)), .val (.int (4 : Int32)), .val (.int (8 : Int32))] [(.int (86 : Int32)), (.int uu)])) _
                                  refine XS.icmpYes X1.here hx rfl (pc0 := 183) (pc' := 193) rfl (hb hby d2_183) rfl (feq hc183).2 (by decide) (by decide) ?_
                                  show Steps p.tables e below (T1.setTop (mkF m 193 #[.val (.int pp1), .val (.int uu), .val (.int (1 : Int32)), .val (.int (2 : Int32)), .val (.int (4 : Int32)), .val (.int (8 : Int32))] [])) _
                                  refine XS.iloadN X1.here hx rfl (hb hby d2_193) rfl ?_
                                  show Steps p.tables e below (T1.setTop (mkF m 194 #[.val (.int pp1), .val (.int uu), .val (.int (1 : Int32)), .val (.int (2 : Int32)), .val (.int (4 : Int32)), .val (.int (8 : Int32))] [(.int uu)])) _
                                  refine XS.bipush X1.here hx rfl (hb hby d2_194) ?_
                                  exact kt)
                                by_cases hc196 : uu = (78 : Int32)
                                · skip
                                  obtain ⟨fs, hr, hrun, hended, hW, hsame⟩ := X1.leave (v := some (.int (15 : Int32))) (fun h => by rw [Bd.returns] at h; cases h)
                                  refine ⟨_, _, pre19 _ ?_, hrun, hended, _, _, rfl, ?_, ⟨_, rfl⟩, hW, hsame.mono (by decide) (by decide)⟩
                                  · show Steps p.tables e below (T1.setTop (mkF m 196 #[.val (.int pp1), .val (.int uu), .val (.int (1 : Int32)), .val (.int (2 : Int32)), .val (.int (4 : Int32)), .val (.int (8 : Int32))] [(.int (78 : Int32)), (.int uu)])) _
                                    refine XS.icmpNo X1.here hx rfl (hb hby d2_196) rfl (teq hc196).2 ?_
                                    show Steps p.tables e below (T1.setTop (mkF m 199 #[.val (.int pp1), .val (.int uu), .val (.int (1 : Int32)), .val (.int (2 : Int32)), .val (.int (4 : Int32)), .val (.int (8 : Int32))] [])) _
                                    refine XS.bipush X1.here hx rfl (hb hby d2_199) ?_
                                    show Steps p.tables e below (T1.setTop (mkF m 201 #[.val (.int pp1), .val (.int uu), .val (.int (1 : Int32)), .val (.int (2 : Int32)), .val (.int (4 : Int32)), .val (.int (8 : Int32))] [(.int (15 : Int32))])) _
                                    exact retI X1 hx Bd.returns (hb hby d2_201) hr
                                  · show Q2 Z pp1 h0 n0 _ T1.heap _
                                    rw [e1]
                                    exact ⟨(by unfold own_exp own_tab; rw [← h_uu, if_neg hc33, if_neg hc41, if_neg hc49, if_neg hc58, if_neg hc67, if_neg hc76, if_neg hc87, if_neg hc98, if_neg hc110, if_neg hc120, if_neg hc131, if_neg hc142, if_neg hc156, if_neg hc170, if_neg hc183, if_pos hc196]), N1, rfl⟩
                                · skip
                                  have pre20 : ∀ t, Steps p.tables e below (T1.setTop (mkF m 205 #[.val (.int pp1), .val (.int uu), .val (.int (1 : Int32)), .val (.int (2 : Int32)), .val (.int (4 : Int32)), .val (.int (8 : Int32))] [(.int (45 : Int32)), (.int uu)])) t → Steps p.tables e below (s₁.setTop (entryFrame m #[(.int pp1)] 6)) t := fun t kt => pre19 t (by
                                    show Steps p.tables e below (T1.setTop (mkF m 196 #[.val (.int pp1), .val (.int uu), .val (.int (1 : Int32)), .val (.int (2 : Int32)), .val (.int (4 : Int32)), .val (.int (8 : Int32))] [(.int (78 : Int32)), (.int uu)])) _
                                    refine XS.icmpYes X1.here hx rfl (pc0 := 196) (pc' := 202) rfl (hb hby d2_196) rfl (feq hc196).2 (by decide) (by decide) ?_
                                    show Steps p.tables e below (T1.setTop (mkF m 202 #[.val (.int pp1), .val (.int uu), .val (.int (1 : Int32)), .val (.int (2 : Int32)), .val (.int (4 : Int32)), .val (.int (8 : Int32))] [])) _
                                    refine XS.iloadN X1.here hx rfl (hb hby d2_202) rfl ?_
                                    show Steps p.tables e below (T1.setTop (mkF m 203 #[.val (.int pp1), .val (.int uu), .val (.int (1 : Int32)), .val (.int (2 : Int32)), .val (.int (4 : Int32)), .val (.int (8 : Int32))] [(.int uu)])) _
                                    refine XS.bipush X1.here hx rfl (hb hby d2_203) ?_
                                    exact kt)
                                  by_cases hc205 : uu = (45 : Int32)
                                  · skip
                                    obtain ⟨fs, hr, hrun, hended, hW, hsame⟩ := X1.leave (v := some (.int (15 : Int32))) (fun h => by rw [Bd.returns] at h; cases h)
                                    refine ⟨_, _, pre20 _ ?_, hrun, hended, _, _, rfl, ?_, ⟨_, rfl⟩, hW, hsame.mono (by decide) (by decide)⟩
                                    · show Steps p.tables e below (T1.setTop (mkF m 205 #[.val (.int pp1), .val (.int uu), .val (.int (1 : Int32)), .val (.int (2 : Int32)), .val (.int (4 : Int32)), .val (.int (8 : Int32))] [(.int (45 : Int32)), (.int uu)])) _
                                      refine XS.icmpNo X1.here hx rfl (hb hby d2_205) rfl (teq hc205).2 ?_
                                      show Steps p.tables e below (T1.setTop (mkF m 208 #[.val (.int pp1), .val (.int uu), .val (.int (1 : Int32)), .val (.int (2 : Int32)), .val (.int (4 : Int32)), .val (.int (8 : Int32))] [])) _
                                      refine XS.bipush X1.here hx rfl (hb hby d2_208) ?_
                                      show Steps p.tables e below (T1.setTop (mkF m 210 #[.val (.int pp1), .val (.int uu), .val (.int (1 : Int32)), .val (.int (2 : Int32)), .val (.int (4 : Int32)), .val (.int (8 : Int32))] [(.int (15 : Int32))])) _
                                      exact retI X1 hx Bd.returns (hb hby d2_210) hr
                                    · show Q2 Z pp1 h0 n0 _ T1.heap _
                                      rw [e1]
                                      exact ⟨(by unfold own_exp own_tab; rw [← h_uu, if_neg hc33, if_neg hc41, if_neg hc49, if_neg hc58, if_neg hc67, if_neg hc76, if_neg hc87, if_neg hc98, if_neg hc110, if_neg hc120, if_neg hc131, if_neg hc142, if_neg hc156, if_neg hc170, if_neg hc183, if_neg hc196, if_pos hc205]), N1, rfl⟩
                                  · skip
                                    have pre21 : ∀ t, Steps p.tables e below (T1.setTop (mkF m 214 #[.val (.int pp1), .val (.int uu), .val (.int (1 : Int32)), .val (.int (2 : Int32)), .val (.int (4 : Int32)), .val (.int (8 : Int32))] [(.int (63 : Int32)), (.int uu)])) t → Steps p.tables e below (s₁.setTop (entryFrame m #[(.int pp1)] 6)) t := fun t kt => pre20 t (by
                                      show Steps p.tables e below (T1.setTop (mkF m 205 #[.val (.int pp1), .val (.int uu), .val (.int (1 : Int32)), .val (.int (2 : Int32)), .val (.int (4 : Int32)), .val (.int (8 : Int32))] [(.int (45 : Int32)), (.int uu)])) _
                                      refine XS.icmpYes X1.here hx rfl (pc0 := 205) (pc' := 211) rfl (hb hby d2_205) rfl (feq hc205).2 (by decide) (by decide) ?_
                                      show Steps p.tables e below (T1.setTop (mkF m 211 #[.val (.int pp1), .val (.int uu), .val (.int (1 : Int32)), .val (.int (2 : Int32)), .val (.int (4 : Int32)), .val (.int (8 : Int32))] [])) _
                                      refine XS.iloadN X1.here hx rfl (hb hby d2_211) rfl ?_
                                      show Steps p.tables e below (T1.setTop (mkF m 212 #[.val (.int pp1), .val (.int uu), .val (.int (1 : Int32)), .val (.int (2 : Int32)), .val (.int (4 : Int32)), .val (.int (8 : Int32))] [(.int uu)])) _
                                      refine XS.bipush X1.here hx rfl (hb hby d2_212) ?_
                                      exact kt)
                                    by_cases hc214 : uu = (63 : Int32)
                                    · skip
                                      obtain ⟨fs, hr, hrun, hended, hW, hsame⟩ := X1.leave (v := some (.int (15 : Int32))) (fun h => by rw [Bd.returns] at h; cases h)
                                      refine ⟨_, _, pre21 _ ?_, hrun, hended, _, _, rfl, ?_, ⟨_, rfl⟩, hW, hsame.mono (by decide) (by decide)⟩
                                      · show Steps p.tables e below (T1.setTop (mkF m 214 #[.val (.int pp1), .val (.int uu), .val (.int (1 : Int32)), .val (.int (2 : Int32)), .val (.int (4 : Int32)), .val (.int (8 : Int32))] [(.int (63 : Int32)), (.int uu)])) _
                                        refine XS.icmpNo X1.here hx rfl (hb hby d2_214) rfl (teq hc214).2 ?_
                                        show Steps p.tables e below (T1.setTop (mkF m 217 #[.val (.int pp1), .val (.int uu), .val (.int (1 : Int32)), .val (.int (2 : Int32)), .val (.int (4 : Int32)), .val (.int (8 : Int32))] [])) _
                                        refine XS.bipush X1.here hx rfl (hb hby d2_217) ?_
                                        show Steps p.tables e below (T1.setTop (mkF m 219 #[.val (.int pp1), .val (.int uu), .val (.int (1 : Int32)), .val (.int (2 : Int32)), .val (.int (4 : Int32)), .val (.int (8 : Int32))] [(.int (15 : Int32))])) _
                                        exact retI X1 hx Bd.returns (hb hby d2_219) hr
                                      · show Q2 Z pp1 h0 n0 _ T1.heap _
                                        rw [e1]
                                        exact ⟨(by unfold own_exp own_tab; rw [← h_uu, if_neg hc33, if_neg hc41, if_neg hc49, if_neg hc58, if_neg hc67, if_neg hc76, if_neg hc87, if_neg hc98, if_neg hc110, if_neg hc120, if_neg hc131, if_neg hc142, if_neg hc156, if_neg hc170, if_neg hc183, if_neg hc196, if_neg hc205, if_pos hc214]), N1, rfl⟩
                                    · skip
                                      obtain ⟨fs, hr, hrun, hended, hW, hsame⟩ := X1.leave (v := some (.int (0 : Int32))) (fun h => by rw [Bd.returns] at h; cases h)
                                      refine ⟨_, _, pre21 _ ?_, hrun, hended, _, _, rfl, ?_, ⟨_, rfl⟩, hW, hsame.mono (by decide) (by decide)⟩
                                      · show Steps p.tables e below (T1.setTop (mkF m 214 #[.val (.int pp1), .val (.int uu), .val (.int (1 : Int32)), .val (.int (2 : Int32)), .val (.int (4 : Int32)), .val (.int (8 : Int32))] [(.int (63 : Int32)), (.int uu)])) _
                                        refine XS.icmpYes X1.here hx rfl (pc0 := 214) (pc' := 220) rfl (hb hby d2_214) rfl (feq hc214).2 (by decide) (by decide) ?_
                                        show Steps p.tables e below (T1.setTop (mkF m 220 #[.val (.int pp1), .val (.int uu), .val (.int (1 : Int32)), .val (.int (2 : Int32)), .val (.int (4 : Int32)), .val (.int (8 : Int32))] [])) _
                                        refine XS.iconst X1.here hx rfl (hb hby d2_220) ?_
                                        show Steps p.tables e below (T1.setTop (mkF m 221 #[.val (.int pp1), .val (.int uu), .val (.int (1 : Int32)), .val (.int (2 : Int32)), .val (.int (4 : Int32)), .val (.int (8 : Int32))] [(.int (0 : Int32))])) _
                                        exact retI X1 hx Bd.returns (hb hby d2_221) hr
                                      · show Q2 Z pp1 h0 n0 _ T1.heap _
                                        rw [e1]
                                        exact ⟨(by unfold own_exp own_tab; rw [← h_uu, if_neg hc33, if_neg hc41, if_neg hc49, if_neg hc58, if_neg hc67, if_neg hc76, if_neg hc87, if_neg hc98, if_neg hc110, if_neg hc120, if_neg hc131, if_neg hc142, if_neg hc156, if_neg hc170, if_neg hc183, if_neg hc196, if_neg hc205, if_neg hc214]), N1, rfl⟩
theorem pd__28_C_29_I : parseMethodDescriptor "(C)I" = some ⟨[.char], some .int⟩ := by decide +kernel
theorem ef_0 (m : MethodId) (x0 : Int32) (x1 : Int32) : entryFrame m #[(.int x0), (.int x1)] maxLocals = mkF m 0 #[.val (.int x0), .val (.int x1), .unset] [] := by first | (simp [entryFrame, mkF, argsToLocals, Value.category, maxLocals]; done) | rfl
def Q0 (Z : State) (pp1 : Int32) (pp2 : Int32) (tb : Addr) (kt : ClassId) (vx : List Value) (h0 : Heap) (n0 : Nat) (v : Option Value) (h : Heap) (L : List Loc) : Prop := v = some (.int 1) ∧ Fr n0 L
set_option maxRecDepth 65536 in
set_option maxHeartbeats 40000000 in
theorem rm0 (l : Launch) (Z : State) (a0 : Array Value) (hw : ∀ d ∈ tables_1, d.before a0 Z = true) (ws : List Jvm.Cond) (pp1 : Int32) (pp2 : Int32) (tb : Addr) (kt : ClassId) (vx : List Value) (h0 : Heap) (n0 : Nat) (Z0 : n0 ≤ h0.size) (O0 : Old Z n0 h0) (S_STATE_SETS : Sta Z Z.heap "com/example/escapement/escapement/model/Nucleotides" "STATE_SETS" "[I" (.ref tb)) (V_tb : Arv Z h0 tb kt .int (128 : Int32) vx (.int (0 : Int32))) (htab : ∀ z : Int32, ¬ z < (0 : Int32) → z < (128 : Int32) → vx.getD z.toNatClampNeg (.int (0 : Int32)) = .int (own_exp z)) :
    MetFree l x (head1 (Jvm.Cond.code x code maxLocals ret :: ws) room_1) (fun a U => a = #[(.int pp1), (.int pp2)] ∧ Z.Warmed39 U.vm ∧ U.heap = h0) (fun _ _ _ _ _ => True) (fun _ U o U' => ∃ v L, o = .returned v ∧ Q0 Z pp1 pp2 tb kt vx h0 n0 v U'.heap L ∧ FrameEnd U o U' L room_1.cells room_1.slots) := by
  refine MetFree.of_bodySF (plainFor_of_name pn_com_example_escapement_escapement_model_NucleotidesStateSetPinLaw) hisR ?_
  intro p e s m args below meth c s₁ Bd hml0 hP hK
  obtain ⟨rfl, hZ, hh⟩ := hP
  have hx := Bd.exec
  have hby := Bd.bytes
  have hml : c.maxLocals = 3 := hml0
  have hown : s.vm.findClass "com/example/escapement/escapement/model/NucleotidesStateSetPinLaw" = some m.cls := findClass_of_methodNamed Bd.named
  have hnm := (name_of_methodNamed Bd.named Bd.method).1
  have X0 : Stand p l e room_1 s m #[(.int pp1), (.int pp2)] below meth c s₁ [] 0 0 := Stand.of_body Bd
  have e0 : s₁.heap = h0 := by rw [← hh, Bd.state]; rfl
  have N0 := Fr.nil n0
  have pre0 : ∀ t, Steps p.tables e below (s₁.setTop (mkF m 0 #[.val (.int pp1), .val (.int pp2), .unset] [])) t → Steps p.tables e below (s₁.setTop (entryFrame m #[(.int pp1), (.int pp2)] maxLocals)) t := fun t k => castTop (ef_0 m pp1 pp2) k
  obtain ⟨cc, T1, L1, h_cc, X1, e1, N1, pre1⟩ : ∃ (cc : Int32) (T' : State) (L' : List Loc), (¬ cc < (0 : Int32)) ∧ Stand p l e room_1 s m #[(.int pp1), (.int pp2)] below meth c T' L' 0 0 ∧ T'.heap = h0 ∧ Fr n0 L' ∧ ∀ t, Steps p.tables e below (T'.setTop (mkF m 16 #[.val (.int pp1), .val (.int pp2), .unset] [(.int cc)])) t → Steps p.tables e below (s₁.setTop (entryFrame m #[(.int pp1), (.int pp2)] maxLocals)) t := by
    have pre2 : ∀ t, Steps p.tables e below (s₁.setTop (mkF m 3 #[.val (.int pp1), .val (.int pp2), .unset] [(.int (pp2 &&& (1 : Int32)))])) t → Steps p.tables e below (s₁.setTop (entryFrame m #[(.int pp1), (.int pp2)] maxLocals)) t := fun t kt => pre0 t (by
      show Steps p.tables e below (s₁.setTop (mkF m 0 #[.val (.int pp1), .val (.int pp2), .unset] [])) _
      refine XS.iloadN X0.here hx rfl (hb hby at_0) rfl ?_
      show Steps p.tables e below (s₁.setTop (mkF m 1 #[.val (.int pp1), .val (.int pp2), .unset] [(.int pp2)])) _
      refine XS.iconst X0.here hx rfl (hb hby at_1) ?_
      show Steps p.tables e below (s₁.setTop (mkF m 2 #[.val (.int pp1), .val (.int pp2), .unset] [(.int (1 : Int32)), (.int pp2)])) _
      refine XS.iand X0.here hx rfl (hb hby at_2) rfl ?_
      exact kt)
    by_cases hc3 : (pp2 &&& (1 : Int32)) = (0 : Int32)
    · skip
      exact ⟨(pp1.toUInt32.toUInt16.toUInt32.toInt32), _, _, own_cnn _, X0, e0, N0, fun t kt => pre2 t (by
          show Steps p.tables e below (s₁.setTop (mkF m 3 #[.val (.int pp1), .val (.int pp2), .unset] [(.int (pp2 &&& (1 : Int32)))])) _
          refine XS.ifYes X0.here hx rfl (pc0 := 3) (pc' := 14) rfl (hb hby at_3) rfl ((if0 _ _).trans (teq hc3).1) (by decide) (by decide) ?_
          show Steps p.tables e below (s₁.setTop (mkF m 14 #[.val (.int pp1), .val (.int pp2), .unset] [])) _
          refine XS.iloadN X0.here hx rfl (hb hby at_14) rfl ?_
          show Steps p.tables e below (s₁.setTop (mkF m 15 #[.val (.int pp1), .val (.int pp2), .unset] [(.int pp1)])) _
          refine XS.i2c X0.here hx rfl (hb hby at_15) rfl ?_
          exact kt)⟩
    · skip
      exact ⟨((pp1 &&& (127 : Int32)).toUInt32.toUInt16.toUInt32.toInt32), _, _, own_cnn _, X0, e0, N0, fun t kt => pre2 t (by
          show Steps p.tables e below (s₁.setTop (mkF m 3 #[.val (.int pp1), .val (.int pp2), .unset] [(.int (pp2 &&& (1 : Int32)))])) _
          refine XS.ifNo X0.here hx rfl (hb hby at_3) rfl ((if0 _ _).trans (feq hc3).1) ?_
          show Steps p.tables e below (s₁.setTop (mkF m 6 #[.val (.int pp1), .val (.int pp2), .unset] [])) _
          refine XS.iloadN X0.here hx rfl (hb hby at_6) rfl ?_
          show Steps p.tables e below (s₁.setTop (mkF m 7 #[.val (.int pp1), .val (.int pp2), .unset] [(.int pp1)])) _
          refine XS.bipush X0.here hx rfl (hb hby at_7) ?_
          show Steps p.tables e below (s₁.setTop (mkF m 9 #[.val (.int pp1), .val (.int pp2), .unset] [(.int (127 : Int32)), (.int pp1)])) _
          refine XS.iand X0.here hx rfl (hb hby at_9) rfl ?_
          show Steps p.tables e below (s₁.setTop (mkF m 10 #[.val (.int pp1), .val (.int pp2), .unset] [(.int (pp1 &&& (127 : Int32)))])) _
          refine XS.i2c X0.here hx rfl (hb hby at_10) rfl ?_
          show Steps p.tables e below (s₁.setTop (mkF m 11 #[.val (.int pp1), .val (.int pp2), .unset] [(.int ((pp1 &&& (127 : Int32)).toUInt32.toUInt16.toUInt32.toInt32))])) _
          refine XS.goto X0.here hx rfl (pc0 := 11) (pc' := 16) rfl (hb hby at_11) (by decide) (by decide) ?_
          exact kt)⟩
  obtain ⟨_, _, ⟨T3, L3, k3, n3⟩, -, X3, ⟨Lc3, hQ3, l3, y3, z3⟩, st3⟩ := Jvm.LawKit.callS X1 hx (y := (⟨"com/example/escapement/escapement/model/Nucleotides", "stateSet", "(C)I"⟩ : MethodName)) hown (mvT hZ (hw _ (List.mem_of_getElem? (i := 0) rfl))) (mvT hZ (hw _ (List.mem_of_getElem? (i := 1) rfl))) (mvT hZ (hw _ (List.mem_of_getElem? (i := 2) rfl))) (mvT hZ (hw _ (List.mem_of_getElem? (i := 3) rfl))) (by decide) (backOf (W := 0) (rm1 l Z a0 hw [] cc tb kt vx (own_exp cc) h0 n0 Z0 O0 S_STATE_SETS V_tb (show ¬ cc < (0 : Int32) from h_cc) (show cc < (128 : Int32) → vx.getD (cc).toNatClampNeg (.int (0 : Int32)) = .int (own_exp cc) from htab _ h_cc) (show ¬ cc < (128 : Int32) → (own_exp cc) = (0 : Int32) from own_exp_hi)) hZ (hw _ (List.mem_of_getElem? (i := 3) rfl)) (hw _ (List.mem_of_getElem? (i := 2) rfl)) (by decide) (by decide)) (g := (mkF m 18 #[.val (.int pp1), .val (.int pp2), .val (.int cc)] [(.int cc)])) rfl (by rw [hml]; rfl) (argsL := [(.int cc)]) (rest := []) (lenOf pd__28_C_29_I rfl) rfl (by show 2 * 0 + _ ≤ _; exact Nat.le_of_eq rfl) (hb hby at_18) (fun _ _ => ⟨rfl, e1, (by decide : 0 + 0 ≤ _), (by decide : 0 + 0 ≤ _)⟩)
  dsimp only [Pt.U, Pt.locs, Pt.cells, Pt.slots] at X3 l3 y3 z3 st3 hQ3
  subst l3 y3 z3
  obtain ⟨rfl, N3q, e3⟩ := hQ3
  have N3 := Fr.app N1 N3q
  obtain ⟨_, _, ⟨T4, L4, k4, n4⟩, -, X4, ⟨Lc4, hQ4, l4, y4, z4⟩, st4⟩ := Jvm.LawKit.callS X3 hx (y := (⟨"com/example/escapement/escapement/model/NucleotidesStateSetPinLaw", "expected", "(C)I"⟩ : MethodName)) hown (mvT hZ (hw _ (List.mem_of_getElem? (i := 6) rfl))) (mvT hZ (hw _ (List.mem_of_getElem? (i := 7) rfl))) (mvT hZ (hw _ (List.mem_of_getElem? (i := 8) rfl))) (mvT hZ (hw _ (List.mem_of_getElem? (i := 9) rfl))) (by decide) (backOf (W := 1) (rm2 l Z a0 hw [] cc h0 n0 Z0 ) hZ (hw _ (List.mem_of_getElem? (i := 9) rfl)) (hw _ (List.mem_of_getElem? (i := 8) rfl)) (by decide) (by decide)) (g := (mkF m 22 #[.val (.int pp1), .val (.int pp2), .val (.int cc)] [(.int cc), (.int (own_exp cc))])) rfl (by rw [hml]; rfl) (argsL := [(.int cc)]) (rest := [(.int (own_exp cc))]) (lenOf pd__28_C_29_I rfl) rfl (by show 2 * 0 + _ ≤ _; exact Nat.le_of_eq rfl) (hb hby at_22) (fun _ _ => ⟨rfl, e3, (by decide : 0 + 0 ≤ _), (by decide : 0 + 0 ≤ _)⟩)
  dsimp only [Pt.U, Pt.locs, Pt.cells, Pt.slots] at X4 l4 y4 z4 st4 hQ4
  subst l4 y4 z4
  obtain ⟨rfl, N4q, e4⟩ := hQ4
  have N4 := Fr.app N3 N4q
  obtain ⟨fs, hr, hrun, hended, hW, hsame⟩ := X4.leave (v := some (.int (1 : Int32))) (fun h => by rw [Bd.returns] at h; cases h)
  refine ⟨_, _, pre1 _ ?_, hrun, hended, _, _, rfl, ?_, ⟨_, rfl⟩, hW, hsame.mono (by decide) (by decide)⟩
  · show Steps p.tables e below (T1.setTop (mkF m 16 #[.val (.int pp1), .val (.int pp2), .unset] [(.int cc)])) _
    refine XS.istoreN X1.here hx rfl (hb hby at_16) rfl (l' := #[.val (.int pp1), .val (.int pp2), .val (.int cc)]) rfl ?_
    show Steps p.tables e below (T1.setTop (mkF m 17 #[.val (.int pp1), .val (.int pp2), .val (.int cc)] [])) _
    refine XS.iloadN X1.here hx rfl (hb hby at_17) rfl ?_
    show Steps p.tables e below (T1.setTop (mkF m 18 #[.val (.int pp1), .val (.int pp2), .val (.int cc)] [(.int cc)])) _
    refine st3 _ ?_
    show Steps p.tables e below (T3.setTop (mkF m 21 #[.val (.int pp1), .val (.int pp2), .val (.int cc)] [(.int (own_exp cc))])) _
    refine XS.iloadN X3.here hx rfl (hb hby at_21) rfl ?_
    show Steps p.tables e below (T3.setTop (mkF m 22 #[.val (.int pp1), .val (.int pp2), .val (.int cc)] [(.int cc), (.int (own_exp cc))])) _
    refine st4 _ ?_
    show Steps p.tables e below (T4.setTop (mkF m 25 #[.val (.int pp1), .val (.int pp2), .val (.int cc)] [(.int (own_exp cc)), (.int (own_exp cc))])) _
    refine XS.icmpNo X4.here hx rfl (hb hby at_25) rfl (teq (rfl : (own_exp cc) = (own_exp cc))).2 ?_
    show Steps p.tables e below (T4.setTop (mkF m 28 #[.val (.int pp1), .val (.int pp2), .val (.int cc)] [])) _
    refine XS.iconst X4.here hx rfl (hb hby at_28) ?_
    show Steps p.tables e below (T4.setTop (mkF m 29 #[.val (.int pp1), .val (.int pp2), .val (.int cc)] [(.int (1 : Int32))])) _
    refine XS.goto X4.here hx rfl (pc0 := 29) (pc' := 33) rfl (hb hby at_29) (by decide) (by decide) ?_
    show Steps p.tables e below (T4.setTop (mkF m 33 #[.val (.int pp1), .val (.int pp2), .val (.int cc)] [(.int (1 : Int32))])) _
    exact retN X4 hx (t := .boolean) Bd.returns (by simp) (hb hby at_33) hr
  · show Q0 Z pp1 pp2 tb kt vx h0 n0 _ T4.heap _
    rw [e4]
    exact ⟨rfl, N4⟩
theorem own_elint {args : Array Value} {s : State} {t : Term} {x : Addr} {cl : Cell} {j n : Int32} (ht : t.eval args s none [] s = some (.ref x)) (hc : s.heap[x]? = some cl) (h : (Jvm.Cond.eq (Jvm.Term.elem t (Jvm.Term.int j)) (Jvm.Term.int n)).value args s none s [] = some true) : cl.slots[j.toNatClampNeg]? = some (.int n) := (elem_in (own_inteq h) ht (Term.int_eval j) hc).2
theorem own_allz {args : Array Value} {s : State} {t : Term} {x : Addr} {cl : Cell} {ty : FieldType} {cd : Jvm.Cond} (ht : t.eval args s none [] s = some (.ref x)) (A : Arr s s.heap x cl ty) (h : (Jvm.Cond.all t cd).value args s none s [] = some true) : ∀ i, i < cl.slots.size → cd.value args s none s [i] = some true :=
  Cond.all_elim ht (A.fin (Vm.Alike.refl s.vm)) h
def own_tb : List Int32 := [0, 0, 0, 0, 0, 0, 0, 0, 0, 0, 0, 0, 0, 0, 0, 0, 0, 0, 0, 0, 0, 0, 0, 0, 0, 0, 0, 0, 0, 0, 0, 0, 0, 0, 0, 0, 0, 0, 0, 0, 0, 0, 0, 0, 0, 15, 0, 0, 0, 0, 0, 0, 0, 0, 0, 0, 0, 0, 0, 0, 0, 0, 0, 15, 0, 1, 14, 2, 13, 0, 0, 4, 11, 0, 0, 12, 0, 3, 15, 0, 0, 0, 5, 6, 8, 8, 7, 9, 0, 10, 0, 0, 0, 0, 0, 0, 0, 1, 14, 2, 13, 0, 0, 4, 11, 0, 0, 12, 0, 3, 15, 0, 0, 0, 5, 6, 8, 8, 7, 9, 0, 10, 0, 0, 0, 0, 0, 0]
set_option maxRecDepth 20000 in
theorem own_expk : ∀ k, k < 128 → own_exp (Nat.toInt32 k) = own_tb.getD k 0 := by decide +kernel
theorem own_expz {z : Int32} (h0 : ¬ z < (0 : Int32)) (h1 : z < (128 : Int32)) : own_exp z = own_tb.getD z.toNatClampNeg 0 ∧ z.toNatClampNeg < 128 := by
  have e : (128 : Int32).toInt = 128 := by decide
  have hk : z.toNatClampNeg < 128 := by
    have := nat_of h0
    rw [Int32.lt_iff_toInt_lt, e] at h1; omega
  refine ⟨?_, hk⟩
  rw [← own_expk _ hk, (back32 h0).1]
theorem own_inteqi {args : Array Value} {s : State} {t : Term} {n : Int32} {idx : List Nat} (h : (Jvm.Cond.eq t (Jvm.Term.int n)).value args s none s idx = some true) : t.eval args s none idx s = some (.int n) := by
  obtain ⟨v, w, h1, h2, k1, k2⟩ := cmp_v (Or.inl h)
  have hw : w = .int n := by simpa [Term.eval] using h2.symm
  subst hw
  obtain ⟨z, rfl⟩ := k2
  simp only [Cond.value, h1, h2] at h
  have hz : z = n := by simpa using h
  rw [h1, hz]
theorem own_elk {args : Array Value} {s : State} {t : Term} {x : Addr} {cl : Cell} {k : Nat} {n : Int32} (hk : k < 2 ^ 31) (ht : t.eval args s none [k] s = some (.ref x)) (hc : s.heap[x]? = some cl) (h : (Jvm.Cond.eq (Jvm.Term.elem t (Jvm.Term.index (0 : Nat))) (Jvm.Term.int n)).value args s none s [k] = some true) : cl.slots[k]? = some (.int n) := by
  have q := (elem_in (own_inteqi h) ht (Term.index_eval k) hc).2
  rwa [show k.toInt32.toNatClampNeg = k from Int32.toNatClampNeg_ofNat_of_lt hk] at q
theorem own_skl {args : Array Value} {s : State} {k : Nat} {a : Int32} {Y : Jvm.Cond} (ha : ¬ k.toInt32 < a) (h : (Jvm.Cond.or (Jvm.Cond.lt (Jvm.Term.index (0 : Nat)) (Jvm.Term.int a)) Y).value args s none s [k] = some true) : Y.value args s none s [k] = some true := by
  rwa [Cond.or_of_right (by simp [Cond.value, Term.eval, ha])] at h
theorem own_skr {args : Array Value} {s : State} {k : Nat} {a : Int32} {Y : Jvm.Cond} (ha : ¬ a ≤ k.toInt32) (h : (Jvm.Cond.or (Jvm.Cond.le (Jvm.Term.int a) (Jvm.Term.index (0 : Nat))) Y).value args s none s [k] = some true) : Y.value args s none s [k] = some true := by
  rwa [Cond.or_of_right (by simp [Cond.value, Term.eval, ha])] at h
theorem own_nge {k n : Nat} (h : n ≤ k) (hk : k < 2 ^ 31) : ¬ k.toInt32 < n.toInt32 := by
  rw [Int32.lt_iff_toInt_lt]
  have a : (k.toInt32).toInt = k := Int32.toInt_ofNat_of_lt hk
  have b : (n.toInt32).toInt = n := Int32.toInt_ofNat_of_lt (by omega)
  omega
theorem own_ngt {k n : Nat} (h : k < n) (hn : n < 2 ^ 31) : ¬ n.toInt32 ≤ k.toInt32 := by
  rw [Int32.le_iff_toInt_le]
  have a : (k.toInt32).toInt = k := Int32.toInt_ofNat_of_lt (by omega)
  have b : (n.toInt32).toInt = n := Int32.toInt_ofNat_of_lt hn
  omega
theorem own_z0 : ∀ k, k < 128 → (k < 45) → own_tb.getD k 0 = 0 := by decide +kernel
theorem own_z1 : ∀ k, k < 128 → (46 ≤ k ∧ k < 63) → own_tb.getD k 0 = 0 := by decide +kernel
theorem own_z2 : ∀ k, k < 128 → (90 ≤ k ∧ k < 97) → own_tb.getD k 0 = 0 := by decide +kernel
theorem own_z3 : ∀ k, k < 128 → (122 ≤ k) → own_tb.getD k 0 = 0 := by decide +kernel
theorem own_sg {k : Nat} (hk : k < 128) (q0 : ¬ (k < 45)) (q1 : ¬ (46 ≤ k ∧ k < 63)) (q2 : ¬ (90 ≤ k ∧ k < 97)) (q3 : ¬ (122 ≤ k)) : k = 45 ∨ (63 ≤ k ∧ k ≤ 89) ∨ (97 ≤ k ∧ k ≤ 121) := by omega
theorem own_s1 {k : Nat} (h : 63 ≤ k ∧ k ≤ 89) : k = 63 ∨ k = 64 ∨ k = 65 ∨ k = 66 ∨ k = 67 ∨ k = 68 ∨ k = 69 ∨ k = 70 ∨ k = 71 ∨ k = 72 ∨ k = 73 ∨ k = 74 ∨ k = 75 ∨ k = 76 ∨ k = 77 ∨ k = 78 ∨ k = 79 ∨ k = 80 ∨ k = 81 ∨ k = 82 ∨ k = 83 ∨ k = 84 ∨ k = 85 ∨ k = 86 ∨ k = 87 ∨ k = 88 ∨ k = 89 := by omega
theorem own_s2 {k : Nat} (h : 97 ≤ k ∧ k ≤ 121) : k = 97 ∨ k = 98 ∨ k = 99 ∨ k = 100 ∨ k = 101 ∨ k = 102 ∨ k = 103 ∨ k = 104 ∨ k = 105 ∨ k = 106 ∨ k = 107 ∨ k = 108 ∨ k = 109 ∨ k = 110 ∨ k = 111 ∨ k = 112 ∨ k = 113 ∨ k = 114 ∨ k = 115 ∨ k = 116 ∨ k = 117 ∨ k = 118 ∨ k = 119 ∨ k = 120 ∨ k = 121 := by omega
set_option maxRecDepth 65536 in
set_option maxHeartbeats 40000000 in
theorem comes_1 {Post : Tables → Env → Array Value → State → Outcome → State → Prop} (hpost : ∀ tb e args s v u, (limb_1_1.after args s (.returned v) u = true ∧ limb_1_2.after args s (.returned v) u = true ∧ True) → FrameEnd s (.returned v) u (Jvm.fieldLocs frame_1_writes args s ++ Jvm.arrayLocs frame_1_arrays args s ++ Jvm.staticLocs frame_1_statics s) 0 0 → Post tb e args s (.returned v) u) :
    ArmFor flags0 classFile x code maxLocals ret World_1 tables_1 room_1 Calls_1 rest_1 Pre_1 Post := by
  intro l hfl _ _ p e ha hc hk s m args below hf hA hF happ hP
  obtain ⟨hcalls, hrest, hpre⟩ := hP
  obtain ⟨-, -, -, hnamed, -, -, -, hat⟩ := (Spec.applies_iff hf).mp happ
  obtain ⟨hg, hn⟩ := and_e (Cond.before_iff.mp (show (Jvm.Cond.and given_1 narrow_1).before args s = true from hpre))
  obtain ⟨g1, g2⟩ := and_e hg
  obtain ⟨g3, g4⟩ := and_e g2
  obtain ⟨w0, w1, rfl⟩ : ∃ w0 w1 : Value, args = #[w0, w1] := by
    have hs : args.size = 2 := by simpa [Cond.value, given_1] using g1
    obtain ⟨L⟩ := args
    match L, hs with
    | [w0, w1], _ => exact ⟨w0, w1, rfl⟩
  have hw := fun d (hd : d ∈ tables_1) => atoms_spec (ws := Jvm.Cond.code x code maxLocals ret :: tables_1) hat d (List.mem_cons_of_mem _ hd)
  have hfit : Fit s := fun {y c} hc i hi => by
    obtain ⟨ha, rfl⟩ := Array.getElem?_eq_some_iff.mp hc
    have q := List.all_eq_true.mp ((Array.all_eq_true_iff_forall_mem.mp hF) _ (Array.getElem_mem ha)) i (List.mem_range.mpr hi)
    simpa [Array.getElem?_eq_getElem hi] using q
  obtain ⟨i0, ei0⟩ := is_v g3
  obtain rfl : w0 = (.int i0) := Option.some.inj ei0
  obtain ⟨i1, ei1⟩ := is_v g4
  obtain rfl : w1 = (.int i1) := Option.some.inj ei1
  obtain ⟨na1, nb1⟩ := and_e hn
  obtain ⟨na2, nb2⟩ := and_e nb1
  obtain ⟨na3, nb3⟩ := and_e nb2
  obtain ⟨na4, nb4⟩ := and_e nb3
  obtain ⟨na5, nb5⟩ := and_e nb4
  obtain ⟨na6, nb6⟩ := and_e nb5
  obtain ⟨na7, nb7⟩ := and_e nb6
  obtain ⟨na8, nb8⟩ := and_e nb7
  obtain ⟨na9, nb9⟩ := and_e nb8
  obtain ⟨na10, nb10⟩ := and_e nb9
  obtain ⟨na11, nb11⟩ := and_e nb10
  obtain ⟨na12, nb12⟩ := and_e nb11
  obtain ⟨na13, nb13⟩ := and_e nb12
  obtain ⟨na14, nb14⟩ := and_e nb13
  obtain ⟨na15, nb15⟩ := and_e nb14
  obtain ⟨na16, nb16⟩ := and_e nb15
  obtain ⟨na17, nb17⟩ := and_e nb16
  obtain ⟨na18, nb18⟩ := and_e nb17
  obtain ⟨na19, nb19⟩ := and_e nb18
  obtain ⟨na20, nb20⟩ := and_e nb19
  obtain ⟨na21, nb21⟩ := and_e nb20
  obtain ⟨na22, nb22⟩ := and_e nb21
  obtain ⟨na23, nb23⟩ := and_e nb22
  obtain ⟨na24, nb24⟩ := and_e nb23
  obtain ⟨na25, nb25⟩ := and_e nb24
  obtain ⟨na26, nb26⟩ := and_e nb25
  obtain ⟨na27, nb27⟩ := and_e nb26
  obtain ⟨na28, nb28⟩ := and_e nb27
  obtain ⟨na29, nb29⟩ := and_e nb28
  obtain ⟨na30, nb30⟩ := and_e nb29
  obtain ⟨na31, nb31⟩ := and_e nb30
  obtain ⟨na32, nb32⟩ := and_e nb31
  obtain ⟨na33, nb33⟩ := and_e nb32
  obtain ⟨na34, nb34⟩ := and_e nb33
  obtain ⟨na35, nb35⟩ := and_e nb34
  obtain ⟨na36, nb36⟩ := and_e nb35
  obtain ⟨na37, nb37⟩ := and_e nb36
  obtain ⟨na38, nb38⟩ := and_e nb37
  obtain ⟨na39, nb39⟩ := and_e nb38
  obtain ⟨na40, nb40⟩ := and_e nb39
  obtain ⟨na41, nb41⟩ := and_e nb40
  obtain ⟨na42, nb42⟩ := and_e nb41
  obtain ⟨na43, nb43⟩ := and_e nb42
  obtain ⟨na44, nb44⟩ := and_e nb43
  obtain ⟨na45, nb45⟩ := and_e nb44
  obtain ⟨na46, nb46⟩ := and_e nb45
  obtain ⟨na47, nb47⟩ := and_e nb46
  obtain ⟨na48, nb48⟩ := and_e nb47
  obtain ⟨na49, nb49⟩ := and_e nb48
  obtain ⟨na50, nb50⟩ := and_e nb49
  obtain ⟨na51, nb51⟩ := and_e nb50
  obtain ⟨na52, nb52⟩ := and_e nb51
  obtain ⟨na53, nb53⟩ := and_e nb52
  obtain ⟨na54, nb54⟩ := and_e nb53
  obtain ⟨na55, nb55⟩ := and_e nb54
  obtain ⟨na56, nb56⟩ := and_e nb55
  obtain ⟨na57, nb57⟩ := and_e nb56
  obtain ⟨na58, nb58⟩ := and_e nb57
  obtain ⟨xt, evt⟩ := arr_v na1
  obtain ⟨clt, Art⟩ := Arr.start evt na1
  obtain ⟨szt, let_⟩ := own_leneq evt Art na2
  have stat := Sta.start evt (Or.inr ⟨(hw _ (List.mem_of_getElem? (i := 2) rfl)), (hw _ (List.mem_of_getElem? (i := 5) rfl))⟩)
  have arvt := own_anyArv (dv := (.int (0 : Int32))) hfit Art szt let_ (by decide)
  have sz128 : clt.slots.size = 128 := by
    have h1 := len_toInt szt
    rw [let_] at h1
    have e : (128 : Int32).toInt = 128 := by decide
    omega
  have htk : ∀ k : Nat, k < 128 → clt.slots[k]? = some (.int (own_tb.getD k 0)) := by
    intro k hk
    have h31 : k < 2 ^ 31 := by omega
    have hs : k < clt.slots.size := by omega
    by_cases q0 : k < 45
    · rw [own_z0 k hk q0]; exact own_elk h31 evt Art.1 (own_skr (own_ngt (n := 45) q0 (by decide)) (own_allz evt Art na3 k hs))
    by_cases q1 : 46 ≤ k ∧ k < 63
    · rw [own_z1 k hk q1]; exact own_elk h31 evt Art.1 (own_skr (own_ngt (n := 63) q1.2 (by decide)) (own_skl (own_nge (n := 46) q1.1 h31) (own_allz evt Art na5 k hs)))
    by_cases q2 : 90 ≤ k ∧ k < 97
    · rw [own_z2 k hk q2]; exact own_elk h31 evt Art.1 (own_skr (own_ngt (n := 97) q2.2 (by decide)) (own_skl (own_nge (n := 90) q2.1 h31) (own_allz evt Art na33 k hs)))
    by_cases q3 : 122 ≤ k
    · rw [own_z3 k hk q3]; exact own_elk h31 evt Art.1 (own_skl (own_nge (n := 122) q3 h31) (own_allz evt Art nb58 k hs))
    rcases own_sg hk q0 q1 q2 q3 with rfl | hm | hm
    · exact own_elint evt Art.1 na4
    · rcases own_s1 hm with rfl | rfl | rfl | rfl | rfl | rfl | rfl | rfl | rfl | rfl | rfl | rfl | rfl | rfl | rfl | rfl | rfl | rfl | rfl | rfl | rfl | rfl | rfl | rfl | rfl | rfl | rfl
      · exact own_elint evt Art.1 na6
      · exact own_elint evt Art.1 na7
      · exact own_elint evt Art.1 na8
      · exact own_elint evt Art.1 na9
      · exact own_elint evt Art.1 na10
      · exact own_elint evt Art.1 na11
      · exact own_elint evt Art.1 na12
      · exact own_elint evt Art.1 na13
      · exact own_elint evt Art.1 na14
      · exact own_elint evt Art.1 na15
      · exact own_elint evt Art.1 na16
      · exact own_elint evt Art.1 na17
      · exact own_elint evt Art.1 na18
      · exact own_elint evt Art.1 na19
      · exact own_elint evt Art.1 na20
      · exact own_elint evt Art.1 na21
      · exact own_elint evt Art.1 na22
      · exact own_elint evt Art.1 na23
      · exact own_elint evt Art.1 na24
      · exact own_elint evt Art.1 na25
      · exact own_elint evt Art.1 na26
      · exact own_elint evt Art.1 na27
      · exact own_elint evt Art.1 na28
      · exact own_elint evt Art.1 na29
      · exact own_elint evt Art.1 na30
      · exact own_elint evt Art.1 na31
      · exact own_elint evt Art.1 na32
    · rcases own_s2 hm with rfl | rfl | rfl | rfl | rfl | rfl | rfl | rfl | rfl | rfl | rfl | rfl | rfl | rfl | rfl | rfl | rfl | rfl | rfl | rfl | rfl | rfl | rfl | rfl | rfl
      · exact own_elint evt Art.1 na34
      · exact own_elint evt Art.1 na35
      · exact own_elint evt Art.1 na36
      · exact own_elint evt Art.1 na37
      · exact own_elint evt Art.1 na38
      · exact own_elint evt Art.1 na39
      · exact own_elint evt Art.1 na40
      · exact own_elint evt Art.1 na41
      · exact own_elint evt Art.1 na42
      · exact own_elint evt Art.1 na43
      · exact own_elint evt Art.1 na44
      · exact own_elint evt Art.1 na45
      · exact own_elint evt Art.1 na46
      · exact own_elint evt Art.1 na47
      · exact own_elint evt Art.1 na48
      · exact own_elint evt Art.1 na49
      · exact own_elint evt Art.1 na50
      · exact own_elint evt Art.1 na51
      · exact own_elint evt Art.1 na52
      · exact own_elint evt Art.1 na53
      · exact own_elint evt Art.1 na54
      · exact own_elint evt Art.1 na55
      · exact own_elint evt Art.1 na56
      · exact own_elint evt Art.1 na57
      · exact own_elint evt Art.1 na58
  have htab : ∀ z : Int32, ¬ z < (0 : Int32) → z < (128 : Int32) → clt.slots.toList.getD z.toNatClampNeg (.int (0 : Int32)) = .int (own_exp z) := by
    intro z ha hb
    obtain ⟨e, hk⟩ := own_expz ha hb
    rw [e, List.getD_eq_getElem?_getD, Array.getElem?_toList, htk _ hk]; rfl
  obtain ⟨n, o, h1, h2, h3, _, L, rfl, ⟨rfl, N⟩, hq⟩ := rm0 l s _ hw tables_1 i0 i1 xt _ _ s.heap s.heap.size (Nat.le_refl _) (Old.start s) stat arvt htab p e ha hc hk s m _ below hf ((Spec.applies_iff_loose hf).mp happ).1 ⟨rfl, State.Warmed39.refl s, rfl⟩ trivial
  refine ⟨n, _, h1, h2, h3, hpost _ _ _ _ _ _ ⟨Cond.after_iff.mpr rfl, Cond.after_iff.mpr (eq_i res_at (Term.int_eval (1)) rfl), trivial⟩ ⟨hq.1, hq.2.1, (hq.2.2.sift fun y hy => Or.inr (N y hy)).mono (by decide) (by decide)⟩⟩
theorem main_1_1 : Claimed_1_1 := comes_1 fun _ _ _ _ _ _ h hF => ⟨h.1, hF⟩
theorem main_1_2 : Claimed_1_2 := comes_1 fun _ _ _ _ _ _ h hF => ⟨h.2.1, hF⟩
end Jvm.Pilot.@@N@@
namespace Jvm.Pilot.@@N@@
open Jvm Jvm.ClassFile Sem Op Lib Jvm.Free Jvm.Stand Jvm.Pilot.@@N@@.Jvm.D
/-! MADE BY PROGRAM (witnessworld.py) out of the Statement's table words and the real class files: 9 classes; the members and pool entries that the words name. The judged class is class 1, her method 1. -/
namespace start1
open Jvm.ClassFile
def u (s : String) : CpInfo := .utf8 (stringToUtf16 s)
/-- a pool by its gaps: so many unusable entries, then the entry; so many at the end -/
def gap : Nat → List CpInfo → List CpInfo
  | 0, r => r
  | n + 1, r => .unusable :: gap n r
def poolList (es : List (Nat × CpInfo)) (last : Nat) : List CpInfo := es.foldr (fun e r => gap e.1 (e.2 :: r)) (gap last [])
def pool (es : List (Nat × CpInfo)) (last : Nat) : Array CpInfo := ⟨poolList es last⟩
def fileOf (pool : Array CpInfo) (this : Nat) (attrs : Array Attribute := #[]) (ms : Array MethodInfo := #[]) (fl : Nat := 33) (sup : Nat := 0) (ifs : Array Nat := #[]) (fds : Array FieldInfo := #[]) : ClassFile where
  minorVersion := 0
  majorVersion := 65
  constantPool := pool
  accessFlags := fl
  thisClass := this
  superClass := sup
  interfaces := ifs
  fields := fds
  methods := ms
  attributes := attrs
def plain (name : String) (sup : Option ClassId) : Class where
  name := name
  kind := .ordinary
  loader := none
  accessFlags := 33
  super := sup
  interfaces := #[]
  cf := none
  fields := #[]
  methods := #[]
  instanceTypes := #[]
  staticTypes := #[]
  resolved := #[]
  callSites := []
  init := .initialized
  statics := none
  mirror := none

def pool0 : Array CpInfo := pool [(5, u "<init>"), (0, u "()V"), (1, .class_ 10), (1, u "java/lang/Object")] 113

def k0m0 : Method := { name := "<init>", desc := "()V", sig := { parameters := [], returnType := none }, accessFlags := 1, code := none }
/-- java/lang/Object -/
def k0 : Class := { plain "java/lang/Object" none with
  accessFlags := 33
  interfaces := #[]
  cf := some (fileOf pool0 8 #[] #[{ accessFlags := 1, nameIndex := 5, descriptorIndex := 6, attributes := #[] }] 33 0 #[] #[])
  fields := #[]
  methods := #[k0m0]
  instanceTypes := #[]
  staticTypes := #[]
  resolved := Array.replicate 124 none
  statics := none }

def pool1 : Array CpInfo := pool [(2, .class_ 4), (1, u "java/lang/Object"), (0, u "<init>"), (0, u "()V"), (0, .methodref 8 9), (0, .class_ 10), (0, .nameAndType 11 12), (0, u "com/example/escapement/escapement/model/Nucleotides"), (0, u "stateSet"), (0, u "(C)I"), (0, .methodref 14 15), (0, .class_ 16), (0, .nameAndType 17 12), (0, u "com/example/escapement/escapement/model/NucleotidesStateSetPinLaw"), (0, u "expected"), (2, u "law"), (0, u "(II)Z")] 3

def k1m0 : Method := { name := "<init>", desc := "()V", sig := { parameters := [], returnType := none }, accessFlags := 2, code := none }
def k1c1 : Code := { maxStack := 2, maxLocals := 3, code := code, exceptionTable := #[], attributes := #[] }
def k1m1 : Method := { name := "law", desc := "(II)Z", sig := { parameters := [.int, .int], returnType := some .boolean }, accessFlags := 9, code := some k1c1 }
def k1c2 : Code := { maxStack := 2, maxLocals := 6, code := method_3_code, exceptionTable := #[], attributes := #[] }
def k1m2 : Method := { name := "expected", desc := "(C)I", sig := { parameters := [.char], returnType := some .int }, accessFlags := 10, code := some k1c2 }
/-- com/example/escapement/escapement/model/NucleotidesStateSetPinLaw -/
def k1 : Class := { plain "com/example/escapement/escapement/model/NucleotidesStateSetPinLaw" (some 0) with
  accessFlags := 49
  interfaces := #[]
  cf := some (fileOf pool1 14 #[] #[{ accessFlags := 2, nameIndex := 5, descriptorIndex := 6, attributes := #[] }, { accessFlags := 9, nameIndex := 20, descriptorIndex := 21, attributes := #[] }, { accessFlags := 10, nameIndex := 17, descriptorIndex := 12, attributes := #[] }] 49 2 #[] #[])
  fields := #[]
  methods := #[k1m0, k1m1, k1m2]
  instanceTypes := #[]
  staticTypes := #[]
  resolved := Array.replicate 25 none
  statics := none }

def pool2 : Array CpInfo := pool [(2, .class_ 4), (1, u "java/lang/Object"), (0, u "<init>"), (0, u "()V"), (0, .fieldref 8 9), (0, .class_ 10), (0, .nameAndType 11 12), (0, u "com/example/escapement/escapement/model/Nucleotides"), (0, u "STATE_SETS"), (0, u "[I"), (22, u "STATES"), (0, u "I"), (2, u "UNKNOWN"), (1, u "A"), (1, u "C"), (1, u "G"), (0, u "T"), (3, u "stateSet"), (0, u "(C)I")] 5

def k2m0 : Method := { name := "<init>", desc := "()V", sig := { parameters := [], returnType := none }, accessFlags := 2, code := none }
def k2c1 : Code := { maxStack := 2, maxLocals := 1, code := prog_24_method_2_code, exceptionTable := #[], attributes := #[] }
def k2m1 : Method := { name := "stateSet", desc := "(C)I", sig := { parameters := [.char], returnType := some .int }, accessFlags := 9, code := some k2c1 }
/-- com/example/escapement/escapement/model/Nucleotides -/
def k2 : Class := { plain "com/example/escapement/escapement/model/Nucleotides" (some 0) with
  accessFlags := 49
  interfaces := #[]
  cf := some (fileOf pool2 8 #[] #[{ accessFlags := 2, nameIndex := 5, descriptorIndex := 6, attributes := #[] }, { accessFlags := 9, nameIndex := 50, descriptorIndex := 51, attributes := #[] }] 49 2 #[] #[{ accessFlags := 25, nameIndex := 35, descriptorIndex := 36, attributes := #[] }, { accessFlags := 25, nameIndex := 39, descriptorIndex := 36, attributes := #[] }, { accessFlags := 26, nameIndex := 41, descriptorIndex := 36, attributes := #[] }, { accessFlags := 26, nameIndex := 43, descriptorIndex := 36, attributes := #[] }, { accessFlags := 26, nameIndex := 45, descriptorIndex := 36, attributes := #[] }, { accessFlags := 26, nameIndex := 46, descriptorIndex := 36, attributes := #[] }, { accessFlags := 26, nameIndex := 11, descriptorIndex := 12, attributes := #[] }])
  fields := #[{ name := "STATES", type := .int, accessFlags := 25, slot := 0, constantValue := 0 }, { name := "UNKNOWN", type := .int, accessFlags := 25, slot := 1, constantValue := 0 }, { name := "A", type := .int, accessFlags := 26, slot := 2, constantValue := 0 }, { name := "C", type := .int, accessFlags := 26, slot := 3, constantValue := 0 }, { name := "G", type := .int, accessFlags := 26, slot := 4, constantValue := 0 }, { name := "T", type := .int, accessFlags := 26, slot := 5, constantValue := 0 }, { name := "STATE_SETS", type := (.array .int), accessFlags := 26, slot := 6, constantValue := 0 }]
  methods := #[k2m0, k2m1]
  instanceTypes := #[]
  staticTypes := #[.int, .int, .int, .int, .int, .int, (.array .int)]
  resolved := Array.replicate 57 none
  statics := some 0 }

def pool3 : Array CpInfo := pool [(1, u "java/lang/Cloneable"), (0, .class_ 1), (0, u "java/lang/Object"), (0, .class_ 3)] 3

/-- java/lang/Cloneable -/
def k3 : Class := { plain "java/lang/Cloneable" (some 0) with
  accessFlags := 1537
  interfaces := #[]
  cf := some (fileOf pool3 2 #[] #[] 1537 4 #[] #[])
  fields := #[]
  methods := #[]
  instanceTypes := #[]
  staticTypes := #[]
  resolved := Array.replicate 8 none
  statics := none }

def pool4 : Array CpInfo := pool [(1, u "java/io/Serializable"), (0, .class_ 1), (0, u "java/lang/Object"), (0, .class_ 3)] 3

/-- java/io/Serializable -/
def k4 : Class := { plain "java/io/Serializable" (some 0) with
  accessFlags := 1537
  interfaces := #[]
  cf := some (fileOf pool4 2 #[] #[] 1537 4 #[] #[])
  fields := #[]
  methods := #[]
  instanceTypes := #[]
  staticTypes := #[]
  resolved := Array.replicate 8 none
  statics := none }

/-- the primitive byte -/
def k5 : Class := { plain "byte" none with kind := .primitive 'B', accessFlags := 0x411 }
/-- [B -/
def k6 : Class := { plain "[B" (some 0) with kind := .array 5 .byte, interfaces := #[3, 4], accessFlags := 1041 }

/-- the primitive int -/
def k7 : Class := { plain "int" none with kind := .primitive 'I', accessFlags := 0x411 }
/-- [I -/
def k8 : Class := { plain "[I" (some 0) with kind := .array 7 .int, interfaces := #[3, 4], accessFlags := 1041 }

def heap : Heap := #[{ cls := 2, slots := #[.int 0, .int 0, .int 0, .int 0, .int 0, .int 0, .ref 1], vm := .statics 2 },
  { cls := 8, slots := #[.int 0, .int 0, .int 0, .int 0, .int 0, .int 0, .int 0, .int 0, .int 0, .int 0, .int 0, .int 0, .int 0, .int 0, .int 0, .int 0, .int 0, .int 0, .int 0, .int 0, .int 0, .int 0, .int 0, .int 0, .int 0, .int 0, .int 0, .int 0, .int 0, .int 0, .int 0, .int 0, .int 0, .int 0, .int 0, .int 0, .int 0, .int 0, .int 0, .int 0, .int 0, .int 0, .int 0, .int 0, .int 0, .int 15, .int 0, .int 0, .int 0, .int 0, .int 0, .int 0, .int 0, .int 0, .int 0, .int 0, .int 0, .int 0, .int 0, .int 0, .int 0, .int 0, .int 0, .int 15, .int 0, .int 1, .int 14, .int 2, .int 13, .int 0, .int 0, .int 4, .int 11, .int 0, .int 0, .int 12, .int 0, .int 3, .int 15, .int 0, .int 0, .int 0, .int 5, .int 6, .int 8, .int 8, .int 7, .int 9, .int 0, .int 10, .int 0, .int 0, .int 0, .int 0, .int 0, .int 0, .int 0, .int 1, .int 14, .int 2, .int 13, .int 0, .int 0, .int 4, .int 11, .int 0, .int 0, .int 12, .int 0, .int 3, .int 15, .int 0, .int 0, .int 0, .int 5, .int 6, .int 8, .int 8, .int 7, .int 9, .int 0, .int 10, .int 0, .int 0, .int 0, .int 0, .int 0, .int 0], vm := .none }]
def classes : Array Class := #[k0, k1, k2, k3, k4, k5, k6, k7, k8]
def interned : List (Array UInt16 × Addr) := []
def slotsUsed : Nat := 135
def theMethod : MethodId := ⟨1, 1⟩
def args0 : Array Value := #[.int 65, .int 1]
def aboutOver (below : List Frame) : State where
  vm := { classes := classes, interned := interned.toArray }
  heap := heap
  slotsUsed := slotsUsed
  threads := #[{ frames := .invoking theMethod args0 :: below }]
def below0 : List Frame := [.native { method := ⟨0, 0⟩, args := #[] }]
def about1 : State := aboutOver below0
def p0 : Program := .bare "" "" ""
def e0 : Env := launch0.env 0 0 0
theorem w_frames : about1.frames = Frame.invoking theMethod args0 :: below0 := rfl
set_option maxRecDepth 65536 in
theorem w_args : argsFit about1.vm theMethod args0 = true := by decide +kernel
set_option maxRecDepth 65536 in
theorem w_heap : heapFits about1 = true := by decide +kernel
set_option maxRecDepth 65536 in
theorem w_runnable : about1.curStatus? = some .runnable := by decide +kernel
set_option maxRecDepth 65536 in
theorem w_alone : about1.alone = true := by decide +kernel
set_option maxRecDepth 65536 in
theorem w_named : about1.methodNamed? x = some theMethod := by decide +kernel
set_option maxRecDepth 65536 in
theorem w_hears : about1.hears theMethod below0 = true := by decide +kernel
set_option maxRecDepth 65536 in
theorem w_ripe : about1.ripe theMethod args0 below0 = true := by decide +kernel
theorem w_running : about1.status = .running := rfl
set_option maxRecDepth 65536 in
theorem w_room : about1.hasRoom e0.platform room_1 = true :=
  launch0.hasRoom_least _ room_1 (by decide +kernel) (by decide +kernel) (by decide +kernel) (by decide +kernel) (by decide +kernel) (by decide +kernel)
theorem allAtoms_all (ts : List Jvm.Cond) (a : Array Jvm.Value) (st : Jvm.State) : (allAtoms ts).before a st = ts.all (fun c => c.before a st) := by
  induction ts with
  | nil => rfl
  | cons c t ih =>
    show (Jvm.Cond.and c (allAtoms t)).before a st = _
    rw [Jvm.Cond.before_and, ih, List.all_cons]
def words1 : List Jvm.Cond := Jvm.Cond.code x code maxLocals ret :: tables_1
/-- a 'code' word, met by the world's own term for the bytes: nothing is compared byte by byte -/
theorem code_word {y : MethodName} {bytes : ByteArray} {mx : Nat} {rt : Option FieldType} {a : Array Value} {s : State} {m : MethodId} {meth : Method} {c : Code} (h1 : s.methodNamed? y = some m) (h2 : s.vm.method? m = some meth) (h3 : meth.code = some c) (h4 : c.code = bytes)
    (h5 : (c.maxLocals == mx && c.exceptionTable.isEmpty && decide (c.maxStack ≤ mostOperands) && decide (meth.sig.returnType = rt) && !meth.locks && decide (parseMethodDescriptor y.desc = some meth.sig)) = true) : (Jvm.Cond.code y bytes mx rt).before a s = true := by
  simp only [Bool.and_eq_true, beq_iff_eq, Bool.not_eq_true', decide_eq_true_eq] at h5
  obtain ⟨⟨⟨⟨⟨g1, g2⟩, g3⟩, g4⟩, g5⟩, g6⟩ := h5
  simp [Cond.before, Cond.holds, Cond.value, h1, h2, h3, h4, g1, g2, g3, g4, g5, g6]
def isCode : Jvm.Cond → Bool
  | .code _ _ _ _ => true
  | _ => false
theorem all_split {L : List Jvm.Cond} {P : Jvm.Cond → Bool} (h1 : L.all (fun c => isCode c || P c) = true) (h2 : ∀ c ∈ L.filter isCode, P c = true) : L.all P = true := by
  refine List.all_eq_true.mpr fun c hc => ?_
  have h := List.all_eq_true.mp h1 c hc
  rcases Bool.eq_false_or_eq_true (isCode c) with hi | hi
  · exact h2 c (List.mem_filter.mpr ⟨hc, hi⟩)
  · simpa [hi] using h
set_option maxRecDepth 65536 in
theorem w_c0 : (Jvm.Cond.code x code maxLocals ret).before args0 about1 = true := code_word (m := ⟨1, 1⟩) (meth := k1m1) (c := k1c1) (by decide +kernel) rfl rfl rfl (by decide +kernel)
set_option maxRecDepth 65536 in
theorem w_c1 : (Jvm.Cond.code ({ cls := "com/example/escapement/escapement/model/Nucleotides", name := "stateSet", desc := "(C)I" } : Jvm.MethodName) prog_24_method_2_code (1 : Nat) (Option.some Jvm.ClassFile.FieldType.int)).before args0 about1 = true := code_word (m := ⟨2, 1⟩) (meth := k2m1) (c := k2c1) (by decide +kernel) rfl rfl rfl (by decide +kernel)
set_option maxRecDepth 65536 in
theorem w_c2 : (Jvm.Cond.code ({ cls := "com/example/escapement/escapement/model/NucleotidesStateSetPinLaw", name := "expected", desc := "(C)I" } : Jvm.MethodName) method_3_code (6 : Nat) (Option.some Jvm.ClassFile.FieldType.int)).before args0 about1 = true := code_word (m := ⟨1, 2⟩) (meth := k1m2) (c := k1c2) (by decide +kernel) rfl rfl rfl (by decide +kernel)
def codes1 : List Jvm.Cond := [Jvm.Cond.code x code maxLocals ret, Jvm.Cond.code ({ cls := "com/example/escapement/escapement/model/Nucleotides", name := "stateSet", desc := "(C)I" } : Jvm.MethodName) prog_24_method_2_code (1 : Nat) (Option.some Jvm.ClassFile.FieldType.int), Jvm.Cond.code ({ cls := "com/example/escapement/escapement/model/NucleotidesStateSetPinLaw", name := "expected", desc := "(C)I" } : Jvm.MethodName) method_3_code (6 : Nat) (Option.some Jvm.ClassFile.FieldType.int)]
set_option maxRecDepth 65536 in
theorem codes_eq : words1.filter isCode = codes1 := rfl
theorem w_codes : ∀ c ∈ words1.filter isCode, c.before args0 about1 = true := by
  rw [codes_eq]
  intro c hc
  simp only [codes1, List.mem_cons, List.not_mem_nil, or_false] at hc
  rcases hc with rfl | rfl | rfl
  · exact w_c0
  · exact w_c1
  · exact w_c2
set_option maxRecDepth 65536 in
theorem w_t1 : words1.all (fun c => isCode c || c.before args0 about1) = true := by decide +kernel
theorem w_tables : (allAtoms (Jvm.Cond.code x code maxLocals ret :: tables_1)).before args0 about1 = true := by
  rw [allAtoms_all]
  show words1.all (fun c => c.before args0 about1) = true
  refine all_split ?_ w_codes
  rw [w_t1]
set_option maxRecDepth 65536 in
theorem w_case : (Jvm.Cond.and given_1 narrow_1).before args0 about1 = true := by decide +kernel
theorem w_applies : (headSpec (Jvm.Cond.code x code maxLocals ret :: tables_1) room_1).applies x e0.platform about1 = true :=
  (Spec.applies_iff w_frames).mpr ⟨w_running, w_runnable, w_alone, w_named, w_hears, w_ripe, w_room, w_tables⟩
theorem atStart : AtStart classFile x code maxLocals ret World_1 tables_1 room_1 Calls_1 rest_1 Pre_1 launch0 p0 e0 about1 theMethod args0 below0 :=
  ⟨lists_1, trivial, launch0.admits_env _ _ _, launch0.least_env, fairChoices_fair.cas, fairChoices_fair.clock, w_frames, w_args, w_heap, w_applies, trivial, trivial, w_case⟩
end start1
theorem witness_1 : WitnessClaimed_1 := ⟨start1.p0, start1.e0, start1.about1, start1.theMethod, start1.args0, start1.below0, start1.atStart⟩
end Jvm.Pilot.@@N@@
