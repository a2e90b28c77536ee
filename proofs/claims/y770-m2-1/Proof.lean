import JvmDerived
import JvmDerived.Pilot.@@N@@Statement
import JvmDerived.Pilot.@@N@@Code
set_option linter.unusedVariables false
set_option linter.unusedSimpArgs false
namespace Jvm.RoadKit
open Sem ClassFile Op Lib Jvm.Stand Jvm.Free Jvm.LawKit
section New
variable {p : Program} {l : Launch} {e : Env} {R : Room} {s : State} {m : MethodId} {args : Array Value} {below : List Frame} {meth : Method} {c : Code} {T : State} {locs : List Loc} {cells slots : Nat}
theorem retI (X : Stand p l e R s m args below meth c T locs cells slots) (hx : p.tables.exec = Jvm.exec) {pc : Nat} {Ls : Array Slot} {z : Int32} {rest : List Value} (hret : meth.sig.returnType = some .int) (hd : decode c.code pc = .ok (.ireturn, 1)) {fs : List Frame}
    (hl : ∀ (f : JFrame) (acts : List Action), f.method = m → f.locked = none → f.entered = [] → (doReturn e (T.setTop f) acts (some (.int z))).1 = T.setFrames fs) : Steps p.tables e below (T.setTop (mkF m pc Ls (.int z :: rest))) (T.setFrames fs) := by
  have hm' : T.vm.method? m = some meth := X.method'
  have hn : narrow .int (.int z) = .int z := rfl
  show Steps p.tables e below (T.setTop { method := m, pc := pc, locals := Ls, stack := _ :: rest, locked := none }) _
  jvm_step X.here [X.here.top, hx, hd, hm', hret, hn]
  first | (intro acts; rw [hl _ acts rfl rfl rfl]) | rw [hl _ _ rfl rfl rfl]
  exact Steps.refl _
theorem retJ (X : Stand p l e R s m args below meth c T locs cells slots) (hx : p.tables.exec = Jvm.exec) {pc : Nat} {Ls : Array Slot} {z : Int64} {rest : List Value} (hret : meth.sig.returnType = some .long) (hd : decode c.code pc = .ok (.lreturn, 1)) {fs : List Frame}
    (hl : ∀ (f : JFrame) (acts : List Action), f.method = m → f.locked = none → f.entered = [] → (doReturn e (T.setTop f) acts (some (.long z))).1 = T.setFrames fs) : Steps p.tables e below (T.setTop (mkF m pc Ls (.long z :: rest))) (T.setFrames fs) := by
  have hm' : T.vm.method? m = some meth := X.method'
  have hn : narrow .long (.long z) = .long z := rfl
  show Steps p.tables e below (T.setTop { method := m, pc := pc, locals := Ls, stack := _ :: rest, locked := none }) _
  jvm_step X.here [X.here.top, hx, hd, hm', hret, hn]
  first | (intro acts; rw [hl _ acts rfl rfl rfl]) | rw [hl _ _ rfl rfl rfl]
  exact Steps.refl _
theorem retD (X : Stand p l e R s m args below meth c T locs cells slots) (hx : p.tables.exec = Jvm.exec) {pc : Nat} {Ls : Array Slot} {z : UInt64} {rest : List Value} (hret : meth.sig.returnType = some .double) (hd : decode c.code pc = .ok (.dreturn, 1)) {fs : List Frame}
    (hl : ∀ (f : JFrame) (acts : List Action), f.method = m → f.locked = none → f.entered = [] → (doReturn e (T.setTop f) acts (some (.double z))).1 = T.setFrames fs) : Steps p.tables e below (T.setTop (mkF m pc Ls (.double z :: rest))) (T.setFrames fs) := by
  have hm' : T.vm.method? m = some meth := X.method'
  have hn : narrow .double (.double z) = .double z := rfl
  show Steps p.tables e below (T.setTop { method := m, pc := pc, locals := Ls, stack := _ :: rest, locked := none }) _
  jvm_step X.here [X.here.top, hx, hd, hm', hret, hn]
  first | (intro acts; rw [hl _ acts rfl rfl rfl]) | rw [hl _ _ rfl rfl rfl]
  exact Steps.refl _
end New
end Jvm.RoadKit
@@BLOCK:NumsL.lean.txt@@
namespace Jvm.Pilot.@@N@@
open Jvm Jvm.ClassFile Sem Op Lib Jvm.Free Jvm.Stand Jvm.LawKit Jvm.RoadKit Bundle Jvm.Pilot.@@N@@.Jvm.D
theorem own_e0 : (0 : Int64).toInt = 0 := by decide
theorem own_e1 : (1 : Int64).toInt = 1 := by decide
theorem own_nn63 (k : Int64) : 0 ≤ (k &&& (9223372036854775807 : Int64)).toInt := by
  rw [Jvm.Kit.i64_mask k 9223372036854775807 (k := 63) (by decide) (by decide)]; omega
theorem own_nn8 (k : Int64) : 0 ≤ (k &&& (255 : Int64)).toInt := by
  rw [Jvm.Kit.i64_mask k 255 (k := 8) (by decide) (by decide)]; omega
theorem own_nlt {k : Int64} (h : 0 ≤ k.toInt) : ¬ k < (0 : Int64) := by rw [Int64.lt_iff_toInt_lt, own_e0]; omega
theorem own_lg (x : Int64) : ¬ (if (1 : Int64) < x then x else (1 : Int64)) < (1 : Int64) := by
  split
  · rename_i h; rw [Int64.lt_iff_toInt_lt] at *; omega
  · exact Int64.lt_irrefl
def own_okd (d : UInt64) : Prop := ¬ (cmpValue (FP.dcmp d (0 : UInt64)) .l) < (0 : Int32) ∧ (cmpValue (FP.dcmp d (4607182418800017408 : UInt64)) .g) < (0 : Int32)
theorem own_div (x : Int32) : Jvm.Free.Fl.NoNaN64 (FP.ddiv (FP.i2d (x &&& (7 : Int32))) (4620693217682128896 : UInt64)) ∧ own_okd (FP.ddiv (FP.i2d (x &&& (7 : Int32))) (4620693217682128896 : UInt64)) := by
  have m := Jvm.Kit.i32_mask x 7 (k := 3) (by decide) (by decide)
  have h : ∀ n : Fin 8, (x &&& (7 : Int32)).toInt = (n.1 : Int) → (x &&& (7 : Int32)) = Int32.ofNat n.1 := fun n q => Int32.toInt_inj.mp (by rw [q]; clear q; revert n; decide)
  have g : ∀ n : Fin 8, Jvm.Free.Fl.NoNaN64 (FP.ddiv (FP.i2d (Int32.ofNat n.1)) (4620693217682128896 : UInt64)) ∧ own_okd (FP.ddiv (FP.i2d (Int32.ofNat n.1)) (4620693217682128896 : UInt64)) := by
    unfold own_okd Jvm.Free.Fl.NoNaN64
    decide +kernel
  have b : (x &&& (7 : Int32)).toInt.toNat < 8 := by rw [m]; omega
  have e : (x &&& (7 : Int32)) = Int32.ofNat (x &&& (7 : Int32)).toInt.toNat := h ⟨_, b⟩ (by show _ = (((x &&& (7 : Int32)).toInt.toNat : Nat) : Int); rw [m]; omega)
  rw [e]; exact g ⟨_, b⟩
def own_chk (k t : Int64) : Int32 := if (0 : Int64) < k then (if (t - (t / k) * k) = (0 : Int64) then (1 : Int32) else (0 : Int32)) else (0 : Int32)
theorem own_kz {k : Int64} (h : (0 : Int64) < k) : k ≠ (0 : Int64) := fun e => by rw [e] at h; exact Int64.lt_irrefl h
theorem own_kpos {k : Int64} (h : 0 ≤ k.toInt) (q : ¬ k = (0 : Int64)) : 0 < k.toInt := by
  have : k.toInt ≠ 0 := fun e => q (Int64.toInt_inj.mp (e.trans own_e0.symm))
  omega
theorem own_chk0 {k : Int64} (t : Int64) (h : k = (0 : Int64)) : own_chk k t = (0 : Int32) := by
  unfold own_chk; rw [h, if_neg Int64.lt_irrefl]
def own_rd (k r : Int64) : Prop := 0 ≤ r.toInt ∧ r.toInt < k.toInt
theorem own_rem {k : Int64} (x : Int64) (hk : 0 < k.toInt) : own_rd k ((x &&& (9223372036854775807 : Int64)) - ((x &&& (9223372036854775807 : Int64)) / k) * k) := by
  have r := Jvm.Kit.i64_rem_nonneg (y := k) (own_nn63 x)
  unfold own_rd
  rw [r]
  exact ⟨Int.emod_nonneg _ (by omega), Int.emod_lt_of_pos _ hk⟩
theorem own_rz {k : Int64} (hk : 0 < k.toInt) : own_rd k (0 : Int64) := by unfold own_rd; rw [own_e0]; omega
def own_st (k r t : Int64) : Prop := 0 ≤ t.toInt ∧ t.toInt % k.toInt = r.toInt
theorem own_q (x : Int64) : 0 ≤ (x &&& (2147483647 : Int64)).toInt ∧ (x &&& (2147483647 : Int64)).toInt < 2147483648 := by
  rw [Jvm.Kit.i64_mask x 2147483647 (k := 31) (by decide) (by decide)]; omega
theorem own_s1 {k r q : Int64} (hk : 0 < k.toInt) (hr : own_rd k r) (hq : 0 ≤ q.toInt ∧ q.toInt < 2147483648) (hl : ¬ (2147483647 : Int64) < k) : own_st k r ((q * k) + r) := by
  have e : (2147483647 : Int64).toInt = 2147483647 := by decide
  rw [Int64.lt_iff_toInt_lt, e] at hl
  obtain ⟨r1, r2⟩ := hr
  have b1 : 0 ≤ q.toInt * k.toInt := Int.mul_nonneg hq.1 (by omega)
  have b2 : q.toInt * k.toInt ≤ 2147483648 * 2147483647 := Int.mul_le_mul (by omega) (by omega) (by omega) (by omega)
  have m := Jvm.Kit.i64_mul (x := q) (y := k) (by omega) (by omega)
  have a : ((q * k) + r).toInt = q.toInt * k.toInt + r.toInt := by rw [Jvm.Kit.i64_add (by rw [m]; omega) (by rw [m]; omega), m]
  unfold own_st
  rw [a]
  exact ⟨by omega, by rw [Int.add_comm, Int.add_mul_emod_self_right, Int.emod_eq_of_lt r1 r2]⟩
theorem own_s2 {k r : Int64} (hk : 0 < k.toInt) (hr : own_rd k r) (hl : ¬ ((9223372036854775807 : Int64) - k) < r) : own_st k r (k + r) := by
  have e : (9223372036854775807 : Int64).toInt = 9223372036854775807 := by decide
  have hb := rng64 k
  have s : ((9223372036854775807 : Int64) - k).toInt = 9223372036854775807 - k.toInt := by rw [Jvm.Kit.i64_sub (by rw [e]; omega) (by rw [e]; omega), e]
  rw [Int64.lt_iff_toInt_lt, s] at hl
  obtain ⟨r1, r2⟩ := hr
  have a : (k + r).toInt = k.toInt + r.toInt := Jvm.Kit.i64_add (by omega) (by omega)
  unfold own_st
  rw [a]
  exact ⟨by omega, by rw [Int.add_emod_left, Int.emod_eq_of_lt r1 r2]⟩
theorem own_s3 {k r : Int64} (hr : own_rd k r) : own_st k r r := ⟨hr.1, Int.emod_eq_of_lt hr.1 hr.2⟩
theorem own_chkv {k r t : Int64} (hk : 0 < k.toInt) (hs : own_st k r t) : own_chk k t = if r = (0 : Int64) then (1 : Int32) else (0 : Int32) := by
  have h0 : (0 : Int64) < k := by rw [Int64.lt_iff_toInt_lt, own_e0]; exact hk
  have e := Jvm.Kit.i64_rem_nonneg (y := k) hs.1
  rw [hs.2] at e
  have e' : t - (t / k) * k = r := Int64.toInt_inj.mp e
  unfold own_chk
  rw [if_pos h0, e']
theorem d1_0 : decode jdk_29_method_66_code 0 = .ok (.lload_n 0, 1) := by decide +kernel
theorem d1_1 : decode jdk_29_method_66_code 1 = .ok (.lload_n 2, 1) := by decide +kernel
theorem d1_2 : decode jdk_29_method_66_code 2 = .ok (.lcmp, 1) := by decide +kernel
theorem d1_3 : decode jdk_29_method_66_code 3 = .ok (.ifCond .lt 7, 3) := by decide +kernel
theorem d1_6 : decode jdk_29_method_66_code 6 = .ok (.lload_n 0, 1) := by decide +kernel
theorem d1_7 : decode jdk_29_method_66_code 7 = .ok (.goto 4, 3) := by decide +kernel
theorem d1_10 : decode jdk_29_method_66_code 10 = .ok (.lload_n 2, 1) := by decide +kernel
theorem d1_11 : decode jdk_29_method_66_code 11 = .ok (.lreturn, 1) := by decide +kernel
theorem ef_1 (m : MethodId) (x0 : Int64) (x1 : Int64) : entryFrame m #[(.long x0), (.long x1)] 4 = mkF m 0 #[.val (.long x0), .second, .val (.long x1), .second] [] := by first | (simp [entryFrame, mkF, argsToLocals, Value.category]; done) | rfl
def Q1 (Z : State) (qq1 : Int64) (qq2 : Int64) (h0 : Heap) (n0 : Nat) (v : Option Value) (h : Heap) (L : List Loc) : Prop := v = some (.long (if qq1 < qq2 then qq2 else qq1)) ∧ Fr n0 L ∧ h = h0
set_option maxRecDepth 65536 in
set_option maxHeartbeats 40000000 in
theorem rm1 (l : Launch) (Z : State) (a0 : Array Value) (hw : ∀ d ∈ tables_1, d.before a0 Z = true) (ws : List Jvm.Cond) (qq1 : Int64) (qq2 : Int64) (h0 : Heap) (n0 : Nat) (Z0 : n0 ≤ h0.size) :
    MetFree l (⟨"java/lang/Math", "max", "(JJ)J"⟩ : MethodName) (head1 (Jvm.Cond.code (⟨"java/lang/Math", "max", "(JJ)J"⟩ : MethodName) jdk_29_method_66_code 4 (some .long) :: ws) ({ frames := 0, cells := 0, slots := 0, locals := 0 } : Room)) (fun a U => a = #[(.long qq1), (.long qq2)] ∧ Z.Warmed39 U.vm ∧ U.heap = h0) (fun _ _ _ _ _ => True) (fun _ U o U' => ∃ v L, o = .returned v ∧ Q1 Z qq1 qq2 h0 n0 v U'.heap L ∧ FrameEnd U o U' L ({ frames := 0, cells := 0, slots := 0, locals := 0 } : Room).cells ({ frames := 0, cells := 0, slots := 0, locals := 0 } : Room).slots) := by
  refine MetFree.of_bodySF (Jvm.Free.JP.mathPlain rfl (by decide +kernel)) hisR ?_
  intro p e s m args below meth c s₁ Bd hml0 hP hK
  obtain ⟨rfl, hZ, hh⟩ := hP
  have hx := Bd.exec
  have hby := Bd.bytes
  have hml : c.maxLocals = 4 := hml0
  have hown : s.vm.findClass "java/lang/Math" = some m.cls := findClass_of_methodNamed Bd.named
  have hnm := (name_of_methodNamed Bd.named Bd.method).1
  have X0 : Stand p l e ({ frames := 0, cells := 0, slots := 0, locals := 0 } : Room) s m #[(.long qq1), (.long qq2)] below meth c s₁ [] 0 0 := Stand.of_body Bd
  have e0 : s₁.heap = h0 := by rw [← hh, Bd.state]; rfl
  have N0 := Fr.nil n0
  have pre0 : ∀ t, Steps p.tables e below (s₁.setTop (mkF m 0 #[.val (.long qq1), .second, .val (.long qq2), .second] [])) t → Steps p.tables e below (s₁.setTop (entryFrame m #[(.long qq1), (.long qq2)] 4)) t := fun t k => castTop (ef_1 m qq1 qq2) k
  have pre1 : ∀ t, Steps p.tables e below (s₁.setTop (mkF m 3 #[.val (.long qq1), .second, .val (.long qq2), .second] [(.int (lcmpW qq1 qq2))])) t → Steps p.tables e below (s₁.setTop (entryFrame m #[(.long qq1), (.long qq2)] 4)) t := fun t kt => pre0 t (by
    show Steps p.tables e below (s₁.setTop (mkF m 0 #[.val (.long qq1), .second, .val (.long qq2), .second] [])) _
    refine XS.lloadN X0.here hx rfl (hb hby d1_0) rfl ?_
    show Steps p.tables e below (s₁.setTop (mkF m 1 #[.val (.long qq1), .second, .val (.long qq2), .second] [(.long qq1)])) _
    refine XS.lloadN X0.here hx rfl (hb hby d1_1) rfl ?_
    show Steps p.tables e below (s₁.setTop (mkF m 2 #[.val (.long qq1), .second, .val (.long qq2), .second] [(.long qq2), (.long qq1)])) _
    refine XS.lcmp X0.here hx rfl (hb hby d1_2) rfl ?_
    exact kt)
  by_cases hc3 : qq1 < qq2
  · skip
    obtain ⟨fs, hr, hrun, hended, hW, hsame⟩ := X0.leave (v := some (.long qq2)) (fun h => by rw [Bd.returns] at h; cases h)
    refine ⟨_, _, pre1 _ ?_, hrun, hended, _, _, rfl, ?_, ⟨_, rfl⟩, hW, hsame.mono (by decide) (by decide)⟩
    · show Steps p.tables e below (s₁.setTop (mkF m 3 #[.val (.long qq1), .second, .val (.long qq2), .second] [(.int (lcmpW qq1 qq2))])) _
      refine XS.ifYes X0.here hx rfl (pc0 := 3) (pc' := 10) rfl (hb hby d1_3) rfl ((if0 _ _).trans (tlt ((lw_lt _ _).mpr hc3)).1) (by decide) (by decide) ?_
      show Steps p.tables e below (s₁.setTop (mkF m 10 #[.val (.long qq1), .second, .val (.long qq2), .second] [])) _
      refine XS.lloadN X0.here hx rfl (hb hby d1_10) rfl ?_
      show Steps p.tables e below (s₁.setTop (mkF m 11 #[.val (.long qq1), .second, .val (.long qq2), .second] [(.long qq2)])) _
      exact retJ X0 hx Bd.returns (hb hby d1_11) hr
    · show Q1 Z qq1 qq2 h0 n0 _ s₁.heap _
      rw [e0]
      exact ⟨(by first | rw [if_pos hc3] | rw [if_neg hc3]), N0, rfl⟩
  · skip
    obtain ⟨fs, hr, hrun, hended, hW, hsame⟩ := X0.leave (v := some (.long qq1)) (fun h => by rw [Bd.returns] at h; cases h)
    refine ⟨_, _, pre1 _ ?_, hrun, hended, _, _, rfl, ?_, ⟨_, rfl⟩, hW, hsame.mono (by decide) (by decide)⟩
    · show Steps p.tables e below (s₁.setTop (mkF m 3 #[.val (.long qq1), .second, .val (.long qq2), .second] [(.int (lcmpW qq1 qq2))])) _
      refine XS.ifNo X0.here hx rfl (hb hby d1_3) rfl ((if0 _ _).trans (flt (mt (lw_lt _ _).mp hc3)).1) ?_
      show Steps p.tables e below (s₁.setTop (mkF m 6 #[.val (.long qq1), .second, .val (.long qq2), .second] [])) _
      refine XS.lloadN X0.here hx rfl (hb hby d1_6) rfl ?_
      show Steps p.tables e below (s₁.setTop (mkF m 7 #[.val (.long qq1), .second, .val (.long qq2), .second] [(.long qq1)])) _
      refine XS.goto X0.here hx rfl (pc0 := 7) (pc' := 11) rfl (hb hby d1_7) (by decide) (by decide) ?_
      show Steps p.tables e below (s₁.setTop (mkF m 11 #[.val (.long qq1), .second, .val (.long qq2), .second] [(.long qq1)])) _
      exact retJ X0 hx Bd.returns (hb hby d1_11) hr
    · show Q1 Z qq1 qq2 h0 n0 _ s₁.heap _
      rw [e0]
      exact ⟨(by first | rw [if_pos hc3] | rw [if_neg hc3]), N0, rfl⟩
theorem pn_java_lang_Record : plainName "java/lang/Record" = true := by first | (simp [plainName, overriddenIn]; done) | decide +kernel
theorem d3_0 : decode jdk_30_method_1_code 0 = .ok (.aload_n 0, 1) := by decide +kernel
theorem d3_1 : decode jdk_30_method_1_code 1 = .ok (.invokespecial 1, 3) := by decide +kernel
theorem d3_4 : decode jdk_30_method_1_code 4 = .ok (.return_, 1) := by decide +kernel
theorem ef_3 (m : MethodId) (x0 : Addr) : entryFrame m #[(.ref x0)] 1 = mkF m 0 #[.val (.ref x0)] [] := by first | (simp [entryFrame, mkF, argsToLocals, Value.category]; done) | rfl
def Q3 (Z : State) (aa0 : Addr) (h0 : Heap) (n0 : Nat) (v : Option Value) (h : Heap) (L : List Loc) : Prop := v = none ∧ Fr n0 L ∧ h = h0
set_option maxRecDepth 65536 in
set_option maxHeartbeats 40000000 in
theorem rm3 (l : Launch) (Z : State) (a0 : Array Value) (hw : ∀ d ∈ tables_1, d.before a0 Z = true) (ws : List Jvm.Cond) (aa0 : Addr) (h0 : Heap) (n0 : Nat) (Z0 : n0 ≤ h0.size) :
    MetFree l (⟨"java/lang/Record", "<init>", "()V"⟩ : MethodName) (head1 (Jvm.Cond.code (⟨"java/lang/Record", "<init>", "()V"⟩ : MethodName) jdk_30_method_1_code 1 none :: ws) ({ frames := 1, cells := 0, slots := 0, locals := 12 } : Room)) (fun a U => a = #[(.ref aa0)] ∧ Z.Warmed39 U.vm ∧ U.heap = h0) (fun _ _ _ _ _ => True) (fun _ U o U' => ∃ v L, o = .returned v ∧ Q3 Z aa0 h0 n0 v U'.heap L ∧ FrameEnd U o U' L ({ frames := 1, cells := 0, slots := 0, locals := 12 } : Room).cells ({ frames := 1, cells := 0, slots := 0, locals := 12 } : Room).slots) := by
  refine MetFree.of_bodySF (plainFor_of_name pn_java_lang_Record) hisR ?_
  intro p e s m args below meth c s₁ Bd hml0 hP hK
  obtain ⟨rfl, hZ, hh⟩ := hP
  have hx := Bd.exec
  have hby := Bd.bytes
  have hml : c.maxLocals = 1 := hml0
  have hown : s.vm.findClass "java/lang/Record" = some m.cls := findClass_of_methodNamed Bd.named
  have hnm := (name_of_methodNamed Bd.named Bd.method).1
  have X0 : Stand p l e ({ frames := 1, cells := 0, slots := 0, locals := 12 } : Room) s m #[(.ref aa0)] below meth c s₁ [] 0 0 := Stand.of_body Bd
  have e0 : s₁.heap = h0 := by rw [← hh, Bd.state]; rfl
  have N0 := Fr.nil n0
  have pre0 : ∀ t, Steps p.tables e below (s₁.setTop (mkF m 0 #[.val (.ref aa0)] [])) t → Steps p.tables e below (s₁.setTop (entryFrame m #[(.ref aa0)] 1)) t := fun t k => castTop (ef_3 m aa0) k
  obtain ⟨T1, X1, e1, st1⟩ := initO X0 hx hZ hown (hw _ (List.mem_of_getElem? (i := 17) rfl)) (hw _ (List.mem_of_getElem? (i := 18) rfl)) (hw _ (List.mem_of_getElem? (i := 19) rfl)) e0 (g := (mkF m 1 #[.val (.ref aa0)] [(.ref aa0)])) rfl (by rw [hml]; rfl) rfl (hb hby d3_1) (by decide) (W := 0) (by show 2 * 0 + _ ≤ _; exact Nat.le_of_eq rfl) (by decide)
  obtain ⟨fs, hr, hrun, hended, hW, hsame⟩ := X1.leave (v := none) (fun _ => rfl)
  refine ⟨_, _, pre0 _ ?_, hrun, hended, _, _, rfl, ?_, ⟨_, rfl⟩, hW, hsame.mono (by decide) (by decide)⟩
  · show Steps p.tables e below (s₁.setTop (mkF m 0 #[.val (.ref aa0)] [])) _
    refine XS.aloadN X0.here hx rfl (hb hby d3_0) rfl rfl ?_
    show Steps p.tables e below (s₁.setTop (mkF m 1 #[.val (.ref aa0)] [(.ref aa0)])) _
    refine st1 _ ?_
    show Steps p.tables e below (T1.setTop (mkF m 4 #[.val (.ref aa0)] [])) _
    exact X1.returnOut hx Bd.returns (hb hby d3_4) hr
  · show Q3 Z aa0 h0 n0 _ T1.heap _
    rw [e1]
    exact ⟨rfl, N0, rfl⟩
theorem pd__28__29_V : parseMethodDescriptor "()V" = some ⟨[], none⟩ := by decide +kernel
theorem pn_com_example_escapement_escapement_inference_Schedule : plainName "com/example/escapement/escapement/inference/Schedule" = true := by first | (simp [plainName, overriddenIn]; done) | decide +kernel
theorem d2_0 : decode prog_22_method_1_code 0 = .ok (.aload_n 0, 1) := by decide +kernel
theorem d2_1 : decode prog_22_method_1_code 1 = .ok (.invokespecial 1, 3) := by decide +kernel
theorem d2_4 : decode prog_22_method_1_code 4 = .ok (.lload_n 1, 1) := by decide +kernel
theorem d2_5 : decode prog_22_method_1_code 5 = .ok (.lconst 0, 1) := by decide +kernel
theorem d2_6 : decode prog_22_method_1_code 6 = .ok (.lcmp, 1) := by decide +kernel
theorem d2_7 : decode prog_22_method_1_code 7 = .ok (.ifCond .lt 30, 3) := by decide +kernel
theorem d2_10 : decode prog_22_method_1_code 10 = .ok (.lload_n 3, 1) := by decide +kernel
theorem d2_11 : decode prog_22_method_1_code 11 = .ok (.lconst 1, 1) := by decide +kernel
theorem d2_12 : decode prog_22_method_1_code 12 = .ok (.lcmp, 1) := by decide +kernel
theorem d2_13 : decode prog_22_method_1_code 13 = .ok (.ifCond .lt 24, 3) := by decide +kernel
theorem d2_16 : decode prog_22_method_1_code 16 = .ok (.dload 5, 2) := by decide +kernel
theorem d2_18 : decode prog_22_method_1_code 18 = .ok (.dconst 0, 1) := by decide +kernel
theorem d2_19 : decode prog_22_method_1_code 19 = .ok (.dcmp .l, 1) := by decide +kernel
theorem d2_20 : decode prog_22_method_1_code 20 = .ok (.ifCond .lt 17, 3) := by decide +kernel
theorem d2_23 : decode prog_22_method_1_code 23 = .ok (.dload 5, 2) := by decide +kernel
theorem d2_25 : decode prog_22_method_1_code 25 = .ok (.dconst 1, 1) := by decide +kernel
theorem d2_26 : decode prog_22_method_1_code 26 = .ok (.dcmp .g, 1) := by decide +kernel
theorem d2_27 : decode prog_22_method_1_code 27 = .ok (.ifCond .ge 10, 3) := by decide +kernel
theorem d2_30 : decode prog_22_method_1_code 30 = .ok (.lload 7, 2) := by decide +kernel
theorem d2_32 : decode prog_22_method_1_code 32 = .ok (.lconst 0, 1) := by decide +kernel
theorem d2_33 : decode prog_22_method_1_code 33 = .ok (.lcmp, 1) := by decide +kernel
theorem d2_34 : decode prog_22_method_1_code 34 = .ok (.ifCond .ge 22, 3) := by decide +kernel
theorem d2_56 : decode prog_22_method_1_code 56 = .ok (.aload_n 0, 1) := by decide +kernel
theorem d2_57 : decode prog_22_method_1_code 57 = .ok (.lload_n 1, 1) := by decide +kernel
theorem d2_58 : decode prog_22_method_1_code 58 = .ok (.putfield 16, 3) := by decide +kernel
theorem d2_61 : decode prog_22_method_1_code 61 = .ok (.aload_n 0, 1) := by decide +kernel
theorem d2_62 : decode prog_22_method_1_code 62 = .ok (.lload_n 3, 1) := by decide +kernel
theorem d2_63 : decode prog_22_method_1_code 63 = .ok (.putfield 22, 3) := by decide +kernel
theorem d2_66 : decode prog_22_method_1_code 66 = .ok (.aload_n 0, 1) := by decide +kernel
theorem d2_67 : decode prog_22_method_1_code 67 = .ok (.dload 5, 2) := by decide +kernel
theorem d2_69 : decode prog_22_method_1_code 69 = .ok (.putfield 25, 3) := by decide +kernel
theorem d2_72 : decode prog_22_method_1_code 72 = .ok (.aload_n 0, 1) := by decide +kernel
theorem d2_73 : decode prog_22_method_1_code 73 = .ok (.lload 7, 2) := by decide +kernel
theorem d2_75 : decode prog_22_method_1_code 75 = .ok (.putfield 29, 3) := by decide +kernel
theorem d2_78 : decode prog_22_method_1_code 78 = .ok (.return_, 1) := by decide +kernel
theorem ef_2 (m : MethodId) (x0 : Addr) (x1 : Int64) (x2 : Int64) (x3 : UInt64) (x4 : Int64) : entryFrame m #[(.ref x0), (.long x1), (.long x2), (.double x3), (.long x4)] 9 = mkF m 0 #[.val (.ref x0), .val (.long x1), .second, .val (.long x2), .second, .val (.double x3), .second, .val (.long x4), .second] [] := by first | (simp [entryFrame, mkF, argsToLocals, Value.category]; done) | rfl
def Q2 (Z : State) (aa0 : Addr) (qq1 : Int64) (qq2 : Int64) (dd3 : UInt64) (qq4 : Int64) (u_length : Value) (u_logEvery : Value) (u_burnin : Value) (u_checkpointEvery : Value) (h0 : Heap) (n0 : Nat) (v : Option Value) (h : Heap) (L : List Loc) : Prop := v = none ∧ Fr n0 L ∧ Keep h0 h [aa0] ∧ (Fld Z h aa0 "com/example/escapement/escapement/inference/Schedule" "length" "J" (.long qq1)) ∧ (Fld Z h aa0 "com/example/escapement/escapement/inference/Schedule" "logEvery" "J" (.long qq2)) ∧ (Fld Z h aa0 "com/example/escapement/escapement/inference/Schedule" "burnin" "D" (.double dd3)) ∧ (Fld Z h aa0 "com/example/escapement/escapement/inference/Schedule" "checkpointEvery" "J" (.long qq4))
set_option maxRecDepth 65536 in
set_option maxHeartbeats 40000000 in
theorem rm2 (l : Launch) (Z : State) (a0 : Array Value) (hw : ∀ d ∈ tables_1, d.before a0 Z = true) (ws : List Jvm.Cond) (aa0 : Addr) (qq1 : Int64) (qq2 : Int64) (dd3 : UInt64) (qq4 : Int64) (u_length : Value) (u_logEvery : Value) (u_burnin : Value) (u_checkpointEvery : Value) (h0 : Heap) (n0 : Nat) (Z0 : n0 ≤ h0.size) (E_aa0 : Exa Z h0 aa0 "com/example/escapement/escapement/inference/Schedule") (g_aa0 : n0 ≤ aa0) (F_aa0_length : Fld Z h0 aa0 "com/example/escapement/escapement/inference/Schedule" "length" "J" u_length) (F_aa0_logEvery : Fld Z h0 aa0 "com/example/escapement/escapement/inference/Schedule" "logEvery" "J" u_logEvery) (F_aa0_burnin : Fld Z h0 aa0 "com/example/escapement/escapement/inference/Schedule" "burnin" "D" u_burnin) (F_aa0_checkpointEvery : Fld Z h0 aa0 "com/example/escapement/escapement/inference/Schedule" "checkpointEvery" "J" u_checkpointEvery) (hl : ¬ qq1 < (0 : Int64)) (hg : ¬ qq2 < (1 : Int64)) (hd : own_okd dd3) (hk : ¬ qq4 < (0 : Int64)) :
    MetFree l (⟨"com/example/escapement/escapement/inference/Schedule", "<init>", "(JJDJ)V"⟩ : MethodName) (head1 (Jvm.Cond.code (⟨"com/example/escapement/escapement/inference/Schedule", "<init>", "(JJDJ)V"⟩ : MethodName) prog_22_method_1_code 9 none :: ws) ({ frames := 2, cells := 0, slots := 0, locals := 24 } : Room)) (fun a U => a = #[(.ref aa0), (.long qq1), (.long qq2), (.double dd3), (.long qq4)] ∧ Z.Warmed39 U.vm ∧ U.heap = h0) (fun _ _ _ _ _ => True) (fun _ U o U' => ∃ v L, o = .returned v ∧ Q2 Z aa0 qq1 qq2 dd3 qq4 u_length u_logEvery u_burnin u_checkpointEvery h0 n0 v U'.heap L ∧ FrameEnd U o U' L ({ frames := 2, cells := 0, slots := 0, locals := 24 } : Room).cells ({ frames := 2, cells := 0, slots := 0, locals := 24 } : Room).slots) := by
  refine MetFree.of_bodySF (plainFor_of_name pn_com_example_escapement_escapement_inference_Schedule) hisR ?_
  intro p e s m args below meth c s₁ Bd hml0 hP hK
  obtain ⟨rfl, hZ, hh⟩ := hP
  have hx := Bd.exec
  have hby := Bd.bytes
  have hml : c.maxLocals = 9 := hml0
  have hown : s.vm.findClass "com/example/escapement/escapement/inference/Schedule" = some m.cls := findClass_of_methodNamed Bd.named
  have hnm := (name_of_methodNamed Bd.named Bd.method).1
  have X0 : Stand p l e ({ frames := 2, cells := 0, slots := 0, locals := 24 } : Room) s m #[(.ref aa0), (.long qq1), (.long qq2), (.double dd3), (.long qq4)] below meth c s₁ [] 0 0 := Stand.of_body Bd
  have e0 : s₁.heap = h0 := by rw [← hh, Bd.state]; rfl
  have N0 := Fr.nil n0
  have pre0 : ∀ t, Steps p.tables e below (s₁.setTop (mkF m 0 #[.val (.ref aa0), .val (.long qq1), .second, .val (.long qq2), .second, .val (.double dd3), .second, .val (.long qq4), .second] [])) t → Steps p.tables e below (s₁.setTop (entryFrame m #[(.ref aa0), (.long qq1), (.long qq2), (.double dd3), (.long qq4)] 9)) t := fun t k => castTop (ef_2 m aa0 qq1 qq2 dd3 qq4) k
  obtain ⟨_, _, ⟨T1, L1, k1, n1⟩, -, X1, ⟨Lc1, hQ1, l1, y1, z1⟩, st1⟩ := X0.specialBack hx (y := (⟨"java/lang/Record", "<init>", "()V"⟩ : MethodName)) rfl hown (mvT hZ (hw _ (List.mem_of_getElem? (i := 12) rfl))) (mvT hZ (hw _ (List.mem_of_getElem? (i := 13) rfl))) (mvT hZ (hw _ (List.mem_of_getElem? (i := 16) rfl))) (by decide) (backOf (W := 0) (rm3 l Z a0 hw [] aa0 h0 n0 Z0 ) hZ (hw _ (List.mem_of_getElem? (i := 16) rfl)) (hw _ (List.mem_of_getElem? (i := 15) rfl)) (by decide) (by decide)) (g := (mkF m 1 #[.val (.ref aa0), .val (.long qq1), .second, .val (.long qq2), .second, .val (.double dd3), .second, .val (.long qq4), .second] [(.ref aa0)])) rfl (by rw [hml]; rfl) (Steps.refl _) (a := aa0) (argsL := []) (rest := []) (lenOf pd__28__29_V rfl) rfl (by show 2 * 0 + _ ≤ _; exact Nat.le_of_eq rfl) (hb hby d2_1) (fun _ _ => ⟨rfl, e0, (by decide : 0 + 0 ≤ _), (by decide : 0 + 0 ≤ _)⟩)
  dsimp only [Pt.U, Pt.locs, Pt.cells, Pt.slots] at X1 l1 y1 z1 st1 hQ1
  subst l1 y1 z1
  obtain ⟨rfl, N1q, e1⟩ := hQ1
  have N1 := Fr.app N0 N1q
  have hc7 : ¬ (qq1 < (0 : Int64)) := hl
  have hc13 : ¬ (qq2 < (1 : Int64)) := hg
  have hc20 : ¬ ((cmpValue (FP.dcmp dd3 (0 : UInt64)) .l) < (0 : Int32)) := hd.1
  have hc27 : (cmpValue (FP.dcmp dd3 (4607182418800017408 : UInt64)) .g) < (0 : Int32) := hd.2
  have hc34 : ¬ (qq4 < (0 : Int64)) := hk
  obtain ⟨T2, h2, X2, e2, W2, st2⟩ := putF X1 hx hZ hown (host := "") (Or.inl (hw _ (List.mem_of_getElem? (i := 20) rfl))) Via.refl e1 F_aa0_length E_aa0 (Or.inr ⟨(hw _ (List.mem_of_getElem? (i := 21) rfl)), rfl, hnm⟩) (hw _ (List.mem_of_getElem? (i := 7) rfl)) (ty := .long) (by decide) rfl rfl (g := (mkF m 58 #[.val (.ref aa0), .val (.long qq1), .second, .val (.long qq2), .second, .val (.double dd3), .second, .val (.long qq4), .second] [(.long qq1), (.ref aa0)])) rfl rfl (hb hby d2_58)
  have N2 := Fr.snoc X2 N1 g_aa0
  have Z2 : n0 ≤ h2.size := Nat.le_trans Z0 (Keep.of_wr W2).1
  have K2 : Keep h0 h2 [aa0] := (Keep.refl h0 [aa0]).wr W2 (Or.inl (List.mem_of_getElem? (i := 0) rfl))
  have F2 : Fld Z h2 aa0 "com/example/escapement/escapement/inference/Schedule" "length" "J" (.long qq1) := F_aa0_length.same W2
  have E_3 : Exa Z h2 aa0 "com/example/escapement/escapement/inference/Schedule" := (E_aa0.wr W2)
  have F_4 : Fld Z h2 aa0 "com/example/escapement/escapement/inference/Schedule" "logEvery" "J" u_logEvery := (F_aa0_logEvery.other W2 (Or.inr (slot_ne (Or.inr (hw _ (List.mem_of_getElem? (i := 23) rfl))) (Or.inr (hw _ (List.mem_of_getElem? (i := 21) rfl))) (by decide) (t := .long) (t' := .long) (by decide) (by decide))))
  obtain ⟨T5, h5, X5, e5, W5, st5⟩ := putF X2 hx hZ hown (host := "") (Or.inl (hw _ (List.mem_of_getElem? (i := 22) rfl))) Via.refl e2 F_4 E_3 (Or.inr ⟨(hw _ (List.mem_of_getElem? (i := 23) rfl)), rfl, hnm⟩) (hw _ (List.mem_of_getElem? (i := 7) rfl)) (ty := .long) (by decide) rfl rfl (g := (mkF m 63 #[.val (.ref aa0), .val (.long qq1), .second, .val (.long qq2), .second, .val (.double dd3), .second, .val (.long qq4), .second] [(.long qq2), (.ref aa0)])) rfl rfl (hb hby d2_63)
  have N5 := Fr.snoc X5 N2 g_aa0
  have Z5 : n0 ≤ h5.size := Nat.le_trans Z2 (Keep.of_wr W5).1
  have K5 : Keep h0 h5 [aa0] := K2.wr W5 (Or.inl (List.mem_of_getElem? (i := 0) rfl))
  have F5 : Fld Z h5 aa0 "com/example/escapement/escapement/inference/Schedule" "logEvery" "J" (.long qq2) := F_4.same W5
  have E_6 : Exa Z h5 aa0 "com/example/escapement/escapement/inference/Schedule" := (E_3.wr W5)
  have F_7 : Fld Z h5 aa0 "com/example/escapement/escapement/inference/Schedule" "burnin" "D" u_burnin := ((F_aa0_burnin.other W2 (Or.inr (slot_ne (Or.inr (hw _ (List.mem_of_getElem? (i := 25) rfl))) (Or.inr (hw _ (List.mem_of_getElem? (i := 21) rfl))) (by decide) (t := .double) (t' := .long) (by decide) (by decide)))).other W5 (Or.inr (slot_ne (Or.inr (hw _ (List.mem_of_getElem? (i := 25) rfl))) (Or.inr (hw _ (List.mem_of_getElem? (i := 23) rfl))) (by decide) (t := .double) (t' := .long) (by decide) (by decide))))
  obtain ⟨T8, h8, X8, e8, W8, st8⟩ := putF X5 hx hZ hown (host := "") (Or.inl (hw _ (List.mem_of_getElem? (i := 24) rfl))) Via.refl e5 F_7 E_6 (Or.inr ⟨(hw _ (List.mem_of_getElem? (i := 25) rfl)), rfl, hnm⟩) (hw _ (List.mem_of_getElem? (i := 7) rfl)) (ty := .double) (by decide) rfl rfl (g := (mkF m 69 #[.val (.ref aa0), .val (.long qq1), .second, .val (.long qq2), .second, .val (.double dd3), .second, .val (.long qq4), .second] [(.double dd3), (.ref aa0)])) rfl rfl (hb hby d2_69)
  have N8 := Fr.snoc X8 N5 g_aa0
  have Z8 : n0 ≤ h8.size := Nat.le_trans Z5 (Keep.of_wr W8).1
  have K8 : Keep h0 h8 [aa0] := K5.wr W8 (Or.inl (List.mem_of_getElem? (i := 0) rfl))
  have F8 : Fld Z h8 aa0 "com/example/escapement/escapement/inference/Schedule" "burnin" "D" (.double dd3) := F_7.same W8
  have E_9 : Exa Z h8 aa0 "com/example/escapement/escapement/inference/Schedule" := (E_6.wr W8)
  have F_10 : Fld Z h8 aa0 "com/example/escapement/escapement/inference/Schedule" "checkpointEvery" "J" u_checkpointEvery := (((F_aa0_checkpointEvery.other W2 (Or.inr (slot_ne (Or.inr (hw _ (List.mem_of_getElem? (i := 27) rfl))) (Or.inr (hw _ (List.mem_of_getElem? (i := 21) rfl))) (by decide) (t := .long) (t' := .long) (by decide) (by decide)))).other W5 (Or.inr (slot_ne (Or.inr (hw _ (List.mem_of_getElem? (i := 27) rfl))) (Or.inr (hw _ (List.mem_of_getElem? (i := 23) rfl))) (by decide) (t := .long) (t' := .long) (by decide) (by decide)))).other W8 (Or.inr (slot_ne (Or.inr (hw _ (List.mem_of_getElem? (i := 27) rfl))) (Or.inr (hw _ (List.mem_of_getElem? (i := 25) rfl))) (by decide) (t := .long) (t' := .double) (by decide) (by decide))))
  obtain ⟨T11, h11, X11, e11, W11, st11⟩ := putF X8 hx hZ hown (host := "") (Or.inl (hw _ (List.mem_of_getElem? (i := 26) rfl))) Via.refl e8 F_10 E_9 (Or.inr ⟨(hw _ (List.mem_of_getElem? (i := 27) rfl)), rfl, hnm⟩) (hw _ (List.mem_of_getElem? (i := 7) rfl)) (ty := .long) (by decide) rfl rfl (g := (mkF m 75 #[.val (.ref aa0), .val (.long qq1), .second, .val (.long qq2), .second, .val (.double dd3), .second, .val (.long qq4), .second] [(.long qq4), (.ref aa0)])) rfl rfl (hb hby d2_75)
  have N11 := Fr.snoc X11 N8 g_aa0
  have Z11 : n0 ≤ h11.size := Nat.le_trans Z8 (Keep.of_wr W11).1
  have K11 : Keep h0 h11 [aa0] := K8.wr W11 (Or.inl (List.mem_of_getElem? (i := 0) rfl))
  have F11 : Fld Z h11 aa0 "com/example/escapement/escapement/inference/Schedule" "checkpointEvery" "J" (.long qq4) := F_10.same W11
  have F_12 : Fld Z h11 aa0 "com/example/escapement/escapement/inference/Schedule" "length" "J" (.long qq1) := (((F2.other W5 (Or.inr (slot_ne (Or.inr (hw _ (List.mem_of_getElem? (i := 21) rfl))) (Or.inr (hw _ (List.mem_of_getElem? (i := 23) rfl))) (by decide) (t := .long) (t' := .long) (by decide) (by decide)))).other W8 (Or.inr (slot_ne (Or.inr (hw _ (List.mem_of_getElem? (i := 21) rfl))) (Or.inr (hw _ (List.mem_of_getElem? (i := 25) rfl))) (by decide) (t := .long) (t' := .double) (by decide) (by decide)))).other W11 (Or.inr (slot_ne (Or.inr (hw _ (List.mem_of_getElem? (i := 21) rfl))) (Or.inr (hw _ (List.mem_of_getElem? (i := 27) rfl))) (by decide) (t := .long) (t' := .long) (by decide) (by decide))))
  have F_13 : Fld Z h11 aa0 "com/example/escapement/escapement/inference/Schedule" "logEvery" "J" (.long qq2) := ((F5.other W8 (Or.inr (slot_ne (Or.inr (hw _ (List.mem_of_getElem? (i := 23) rfl))) (Or.inr (hw _ (List.mem_of_getElem? (i := 25) rfl))) (by decide) (t := .long) (t' := .double) (by decide) (by decide)))).other W11 (Or.inr (slot_ne (Or.inr (hw _ (List.mem_of_getElem? (i := 23) rfl))) (Or.inr (hw _ (List.mem_of_getElem? (i := 27) rfl))) (by decide) (t := .long) (t' := .long) (by decide) (by decide))))
  have F_14 : Fld Z h11 aa0 "com/example/escapement/escapement/inference/Schedule" "burnin" "D" (.double dd3) := (F8.other W11 (Or.inr (slot_ne (Or.inr (hw _ (List.mem_of_getElem? (i := 25) rfl))) (Or.inr (hw _ (List.mem_of_getElem? (i := 27) rfl))) (by decide) (t := .double) (t' := .long) (by decide) (by decide))))
  obtain ⟨fs, hr, hrun, hended, hW, hsame⟩ := X11.leave (v := none) (fun _ => rfl)
  refine ⟨_, _, pre0 _ ?_, hrun, hended, _, _, rfl, ?_, ⟨_, rfl⟩, hW, hsame.mono (by decide) (by decide)⟩
  · show Steps p.tables e below (s₁.setTop (mkF m 0 #[.val (.ref aa0), .val (.long qq1), .second, .val (.long qq2), .second, .val (.double dd3), .second, .val (.long qq4), .second] [])) _
    refine XS.aloadN X0.here hx rfl (hb hby d2_0) rfl rfl ?_
    show Steps p.tables e below (s₁.setTop (mkF m 1 #[.val (.ref aa0), .val (.long qq1), .second, .val (.long qq2), .second, .val (.double dd3), .second, .val (.long qq4), .second] [(.ref aa0)])) _
    refine st1.trans ?_
    show Steps p.tables e below (T1.setTop (mkF m 4 #[.val (.ref aa0), .val (.long qq1), .second, .val (.long qq2), .second, .val (.double dd3), .second, .val (.long qq4), .second] [])) _
    refine XS.lloadN X1.here hx rfl (hb hby d2_4) rfl ?_
    show Steps p.tables e below (T1.setTop (mkF m 5 #[.val (.ref aa0), .val (.long qq1), .second, .val (.long qq2), .second, .val (.double dd3), .second, .val (.long qq4), .second] [(.long qq1)])) _
    refine XS.lconst X1.here hx rfl (hb hby d2_5) ?_
    show Steps p.tables e below (T1.setTop (mkF m 6 #[.val (.ref aa0), .val (.long qq1), .second, .val (.long qq2), .second, .val (.double dd3), .second, .val (.long qq4), .second] [(.long (0 : Int64)), (.long qq1)])) _
    refine XS.lcmp X1.here hx rfl (hb hby d2_6) rfl ?_
    show Steps p.tables e below (T1.setTop (mkF m 7 #[.val (.ref aa0), .val (.long qq1), .second, .val (.long qq2), .second, .val (.double dd3), .second, .val (.long qq4), .second] [(.int (lcmpW qq1 (0 : Int64)))])) _
    refine XS.ifNo X1.here hx rfl (hb hby d2_7) rfl ((if0 _ _).trans (flt (mt (lw_lt _ _).mp hc7)).1) ?_
    show Steps p.tables e below (T1.setTop (mkF m 10 #[.val (.ref aa0), .val (.long qq1), .second, .val (.long qq2), .second, .val (.double dd3), .second, .val (.long qq4), .second] [])) _
    refine XS.lloadN X1.here hx rfl (hb hby d2_10) rfl ?_
    show Steps p.tables e below (T1.setTop (mkF m 11 #[.val (.ref aa0), .val (.long qq1), .second, .val (.long qq2), .second, .val (.double dd3), .second, .val (.long qq4), .second] [(.long qq2)])) _
    refine XS.lconst X1.here hx rfl (hb hby d2_11) ?_
    show Steps p.tables e below (T1.setTop (mkF m 12 #[.val (.ref aa0), .val (.long qq1), .second, .val (.long qq2), .second, .val (.double dd3), .second, .val (.long qq4), .second] [(.long (1 : Int64)), (.long qq2)])) _
    refine XS.lcmp X1.here hx rfl (hb hby d2_12) rfl ?_
    show Steps p.tables e below (T1.setTop (mkF m 13 #[.val (.ref aa0), .val (.long qq1), .second, .val (.long qq2), .second, .val (.double dd3), .second, .val (.long qq4), .second] [(.int (lcmpW qq2 (1 : Int64)))])) _
    refine XS.ifNo X1.here hx rfl (hb hby d2_13) rfl ((if0 _ _).trans (flt (mt (lw_lt _ _).mp hc13)).1) ?_
    show Steps p.tables e below (T1.setTop (mkF m 16 #[.val (.ref aa0), .val (.long qq1), .second, .val (.long qq2), .second, .val (.double dd3), .second, .val (.long qq4), .second] [])) _
    refine XS.dload X1.here hx rfl (hb hby d2_16) rfl ?_
    show Steps p.tables e below (T1.setTop (mkF m 18 #[.val (.ref aa0), .val (.long qq1), .second, .val (.long qq2), .second, .val (.double dd3), .second, .val (.long qq4), .second] [(.double dd3)])) _
    refine XS.dconst0 X1.here hx rfl (hb hby d2_18) (v := (0 : UInt64)) (by decide +kernel) ?_
    show Steps p.tables e below (T1.setTop (mkF m 19 #[.val (.ref aa0), .val (.long qq1), .second, .val (.long qq2), .second, .val (.double dd3), .second, .val (.long qq4), .second] [(.double (0 : UInt64)), (.double dd3)])) _
    refine XS.dcmpS X1.here hx rfl (hb hby d2_19) rfl (v := (cmpValue (FP.dcmp dd3 (0 : UInt64)) .l)) rfl ?_
    show Steps p.tables e below (T1.setTop (mkF m 20 #[.val (.ref aa0), .val (.long qq1), .second, .val (.long qq2), .second, .val (.double dd3), .second, .val (.long qq4), .second] [(.int (cmpValue (FP.dcmp dd3 (0 : UInt64)) .l))])) _
    refine XS.ifNo X1.here hx rfl (hb hby d2_20) rfl ((if0 _ _).trans (flt hc20).1) ?_
    show Steps p.tables e below (T1.setTop (mkF m 23 #[.val (.ref aa0), .val (.long qq1), .second, .val (.long qq2), .second, .val (.double dd3), .second, .val (.long qq4), .second] [])) _
    refine XS.dload X1.here hx rfl (hb hby d2_23) rfl ?_
    show Steps p.tables e below (T1.setTop (mkF m 25 #[.val (.ref aa0), .val (.long qq1), .second, .val (.long qq2), .second, .val (.double dd3), .second, .val (.long qq4), .second] [(.double dd3)])) _
    refine XS.dconst1 X1.here hx rfl (hb hby d2_25) (v := (4607182418800017408 : UInt64)) (by decide +kernel) ?_
    show Steps p.tables e below (T1.setTop (mkF m 26 #[.val (.ref aa0), .val (.long qq1), .second, .val (.long qq2), .second, .val (.double dd3), .second, .val (.long qq4), .second] [(.double (4607182418800017408 : UInt64)), (.double dd3)])) _
    refine XS.dcmpS X1.here hx rfl (hb hby d2_26) rfl (v := (cmpValue (FP.dcmp dd3 (4607182418800017408 : UInt64)) .g)) rfl ?_
    show Steps p.tables e below (T1.setTop (mkF m 27 #[.val (.ref aa0), .val (.long qq1), .second, .val (.long qq2), .second, .val (.double dd3), .second, .val (.long qq4), .second] [(.int (cmpValue (FP.dcmp dd3 (4607182418800017408 : UInt64)) .g))])) _
    refine XS.ifNo X1.here hx rfl (hb hby d2_27) rfl ((if0 _ _).trans (tlt hc27).2.1) ?_
    show Steps p.tables e below (T1.setTop (mkF m 30 #[.val (.ref aa0), .val (.long qq1), .second, .val (.long qq2), .second, .val (.double dd3), .second, .val (.long qq4), .second] [])) _
    refine XS.lload X1.here hx rfl (hb hby d2_30) rfl ?_
    show Steps p.tables e below (T1.setTop (mkF m 32 #[.val (.ref aa0), .val (.long qq1), .second, .val (.long qq2), .second, .val (.double dd3), .second, .val (.long qq4), .second] [(.long qq4)])) _
    refine XS.lconst X1.here hx rfl (hb hby d2_32) ?_
    show Steps p.tables e below (T1.setTop (mkF m 33 #[.val (.ref aa0), .val (.long qq1), .second, .val (.long qq2), .second, .val (.double dd3), .second, .val (.long qq4), .second] [(.long (0 : Int64)), (.long qq4)])) _
    refine XS.lcmp X1.here hx rfl (hb hby d2_33) rfl ?_
    show Steps p.tables e below (T1.setTop (mkF m 34 #[.val (.ref aa0), .val (.long qq1), .second, .val (.long qq2), .second, .val (.double dd3), .second, .val (.long qq4), .second] [(.int (lcmpW qq4 (0 : Int64)))])) _
    refine XS.ifYes X1.here hx rfl (pc0 := 34) (pc' := 56) rfl (hb hby d2_34) rfl ((if0 _ _).trans (flt (mt (lw_lt _ _).mp hc34)).2.1) (by decide) (by decide) ?_
    show Steps p.tables e below (T1.setTop (mkF m 56 #[.val (.ref aa0), .val (.long qq1), .second, .val (.long qq2), .second, .val (.double dd3), .second, .val (.long qq4), .second] [])) _
    refine XS.aloadN X1.here hx rfl (hb hby d2_56) rfl rfl ?_
    show Steps p.tables e below (T1.setTop (mkF m 57 #[.val (.ref aa0), .val (.long qq1), .second, .val (.long qq2), .second, .val (.double dd3), .second, .val (.long qq4), .second] [(.ref aa0)])) _
    refine XS.lloadN X1.here hx rfl (hb hby d2_57) rfl ?_
    show Steps p.tables e below (T1.setTop (mkF m 58 #[.val (.ref aa0), .val (.long qq1), .second, .val (.long qq2), .second, .val (.double dd3), .second, .val (.long qq4), .second] [(.long qq1), (.ref aa0)])) _
    refine st2 _ ?_
    show Steps p.tables e below (T2.setTop (mkF m 61 #[.val (.ref aa0), .val (.long qq1), .second, .val (.long qq2), .second, .val (.double dd3), .second, .val (.long qq4), .second] [])) _
    refine XS.aloadN X2.here hx rfl (hb hby d2_61) rfl rfl ?_
    show Steps p.tables e below (T2.setTop (mkF m 62 #[.val (.ref aa0), .val (.long qq1), .second, .val (.long qq2), .second, .val (.double dd3), .second, .val (.long qq4), .second] [(.ref aa0)])) _
    refine XS.lloadN X2.here hx rfl (hb hby d2_62) rfl ?_
    show Steps p.tables e below (T2.setTop (mkF m 63 #[.val (.ref aa0), .val (.long qq1), .second, .val (.long qq2), .second, .val (.double dd3), .second, .val (.long qq4), .second] [(.long qq2), (.ref aa0)])) _
    refine st5 _ ?_
    show Steps p.tables e below (T5.setTop (mkF m 66 #[.val (.ref aa0), .val (.long qq1), .second, .val (.long qq2), .second, .val (.double dd3), .second, .val (.long qq4), .second] [])) _
    refine XS.aloadN X5.here hx rfl (hb hby d2_66) rfl rfl ?_
    show Steps p.tables e below (T5.setTop (mkF m 67 #[.val (.ref aa0), .val (.long qq1), .second, .val (.long qq2), .second, .val (.double dd3), .second, .val (.long qq4), .second] [(.ref aa0)])) _
    refine XS.dload X5.here hx rfl (hb hby d2_67) rfl ?_
    show Steps p.tables e below (T5.setTop (mkF m 69 #[.val (.ref aa0), .val (.long qq1), .second, .val (.long qq2), .second, .val (.double dd3), .second, .val (.long qq4), .second] [(.double dd3), (.ref aa0)])) _
    refine st8 _ ?_
    show Steps p.tables e below (T8.setTop (mkF m 72 #[.val (.ref aa0), .val (.long qq1), .second, .val (.long qq2), .second, .val (.double dd3), .second, .val (.long qq4), .second] [])) _
    refine XS.aloadN X8.here hx rfl (hb hby d2_72) rfl rfl ?_
    show Steps p.tables e below (T8.setTop (mkF m 73 #[.val (.ref aa0), .val (.long qq1), .second, .val (.long qq2), .second, .val (.double dd3), .second, .val (.long qq4), .second] [(.ref aa0)])) _
    refine XS.lload X8.here hx rfl (hb hby d2_73) rfl ?_
    show Steps p.tables e below (T8.setTop (mkF m 75 #[.val (.ref aa0), .val (.long qq1), .second, .val (.long qq2), .second, .val (.double dd3), .second, .val (.long qq4), .second] [(.long qq4), (.ref aa0)])) _
    refine st11 _ ?_
    show Steps p.tables e below (T11.setTop (mkF m 78 #[.val (.ref aa0), .val (.long qq1), .second, .val (.long qq2), .second, .val (.double dd3), .second, .val (.long qq4), .second] [])) _
    exact X11.returnOut hx Bd.returns (hb hby d2_78) hr
  · show Q2 Z aa0 qq1 qq2 dd3 qq4 u_length u_logEvery u_burnin u_checkpointEvery h0 n0 _ T11.heap _
    rw [e11]
    exact ⟨rfl, N11, K11, F_12, F_13, F_14, F11⟩
theorem d5_0 : decode prog_22_method_5_code 0 = .ok (.aload_n 0, 1) := by decide +kernel
theorem d5_1 : decode prog_22_method_5_code 1 = .ok (.getfield 29, 3) := by decide +kernel
theorem d5_4 : decode prog_22_method_5_code 4 = .ok (.lconst 0, 1) := by decide +kernel
theorem d5_5 : decode prog_22_method_5_code 5 = .ok (.lcmp, 1) := by decide +kernel
theorem d5_6 : decode prog_22_method_5_code 6 = .ok (.ifCond .le 18, 3) := by decide +kernel
theorem d5_9 : decode prog_22_method_5_code 9 = .ok (.lload_n 1, 1) := by decide +kernel
theorem d5_10 : decode prog_22_method_5_code 10 = .ok (.aload_n 0, 1) := by decide +kernel
theorem d5_11 : decode prog_22_method_5_code 11 = .ok (.getfield 29, 3) := by decide +kernel
theorem d5_14 : decode prog_22_method_5_code 14 = .ok (.lrem, 1) := by decide +kernel
theorem d5_15 : decode prog_22_method_5_code 15 = .ok (.lconst 0, 1) := by decide +kernel
theorem d5_16 : decode prog_22_method_5_code 16 = .ok (.lcmp, 1) := by decide +kernel
theorem d5_17 : decode prog_22_method_5_code 17 = .ok (.ifCond .ne 7, 3) := by decide +kernel
theorem d5_20 : decode prog_22_method_5_code 20 = .ok (.iconst 1, 1) := by decide +kernel
theorem d5_21 : decode prog_22_method_5_code 21 = .ok (.goto 4, 3) := by decide +kernel
theorem d5_24 : decode prog_22_method_5_code 24 = .ok (.iconst 0, 1) := by decide +kernel
theorem d5_25 : decode prog_22_method_5_code 25 = .ok (.ireturn, 1) := by decide +kernel
theorem ef_5 (m : MethodId) (x0 : Addr) (x1 : Int64) : entryFrame m #[(.ref x0), (.long x1)] 3 = mkF m 0 #[.val (.ref x0), .val (.long x1), .second] [] := by first | (simp [entryFrame, mkF, argsToLocals, Value.category]; done) | rfl
def Q5 (Z : State) (aa0 : Addr) (qq1 : Int64) (ce : Int64) (h0 : Heap) (n0 : Nat) (v : Option Value) (h : Heap) (L : List Loc) : Prop := v = some (.int (own_chk ce qq1)) ∧ Fr n0 L ∧ h = h0
set_option maxRecDepth 65536 in
set_option maxHeartbeats 40000000 in
theorem rm5 (l : Launch) (Z : State) (a0 : Array Value) (hw : ∀ d ∈ tables_1, d.before a0 Z = true) (ws : List Jvm.Cond) (aa0 : Addr) (qq1 : Int64) (ce : Int64) (h0 : Heap) (n0 : Nat) (Z0 : n0 ≤ h0.size) (F_aa0_checkpointEvery : Fld Z h0 aa0 "com/example/escapement/escapement/inference/Schedule" "checkpointEvery" "J" (.long ce)) :
    MetFree l (⟨"com/example/escapement/escapement/inference/Schedule", "checkpoints", "(J)Z"⟩ : MethodName) (head1 (Jvm.Cond.code (⟨"com/example/escapement/escapement/inference/Schedule", "checkpoints", "(J)Z"⟩ : MethodName) prog_22_method_5_code 3 (some .boolean) :: ws) ({ frames := 0, cells := 0, slots := 0, locals := 0 } : Room)) (fun a U => a = #[(.ref aa0), (.long qq1)] ∧ Z.Warmed39 U.vm ∧ U.heap = h0) (fun _ _ _ _ _ => True) (fun _ U o U' => ∃ v L, o = .returned v ∧ Q5 Z aa0 qq1 ce h0 n0 v U'.heap L ∧ FrameEnd U o U' L ({ frames := 0, cells := 0, slots := 0, locals := 0 } : Room).cells ({ frames := 0, cells := 0, slots := 0, locals := 0 } : Room).slots) := by
  refine MetFree.of_bodySF (plainFor_of_name pn_com_example_escapement_escapement_inference_Schedule) hisR ?_
  intro p e s m args below meth c s₁ Bd hml0 hP hK
  obtain ⟨rfl, hZ, hh⟩ := hP
  have hx := Bd.exec
  have hby := Bd.bytes
  have hml : c.maxLocals = 3 := hml0
  have hown : s.vm.findClass "com/example/escapement/escapement/inference/Schedule" = some m.cls := findClass_of_methodNamed Bd.named
  have hnm := (name_of_methodNamed Bd.named Bd.method).1
  have X0 : Stand p l e ({ frames := 0, cells := 0, slots := 0, locals := 0 } : Room) s m #[(.ref aa0), (.long qq1)] below meth c s₁ [] 0 0 := Stand.of_body Bd
  have e0 : s₁.heap = h0 := by rw [← hh, Bd.state]; rfl
  have N0 := Fr.nil n0
  have pre0 : ∀ t, Steps p.tables e below (s₁.setTop (mkF m 0 #[.val (.ref aa0), .val (.long qq1), .second] [])) t → Steps p.tables e below (s₁.setTop (entryFrame m #[(.ref aa0), (.long qq1)] 3)) t := fun t k => castTop (ef_5 m aa0 qq1) k
  obtain ⟨T1, X1, e1, st1⟩ := getF X0 hx hZ hown (host := "") (Or.inl (hw _ (List.mem_of_getElem? (i := 26) rfl))) Via.refl e0 F_aa0_checkpointEvery (g := (mkF m 1 #[.val (.ref aa0), .val (.long qq1), .second] [(.ref aa0)])) rfl rfl (hb hby d5_1)
  have pre2 : ∀ t, Steps p.tables e below (T1.setTop (mkF m 6 #[.val (.ref aa0), .val (.long qq1), .second] [(.int (lcmpW ce (0 : Int64)))])) t → Steps p.tables e below (s₁.setTop (entryFrame m #[(.ref aa0), (.long qq1)] 3)) t := fun t kt => pre0 t (by
    show Steps p.tables e below (s₁.setTop (mkF m 0 #[.val (.ref aa0), .val (.long qq1), .second] [])) _
    refine XS.aloadN X0.here hx rfl (hb hby d5_0) rfl rfl ?_
    show Steps p.tables e below (s₁.setTop (mkF m 1 #[.val (.ref aa0), .val (.long qq1), .second] [(.ref aa0)])) _
    refine st1 _ ?_
    show Steps p.tables e below (T1.setTop (mkF m 4 #[.val (.ref aa0), .val (.long qq1), .second] [(.long ce)])) _
    refine XS.lconst X1.here hx rfl (hb hby d5_4) ?_
    show Steps p.tables e below (T1.setTop (mkF m 5 #[.val (.ref aa0), .val (.long qq1), .second] [(.long (0 : Int64)), (.long ce)])) _
    refine XS.lcmp X1.here hx rfl (hb hby d5_5) rfl ?_
    exact kt)
  by_cases hc6 : (0 : Int64) < ce
  · skip
    obtain ⟨T3, X3, e3, st3⟩ := getF X1 hx hZ hown (host := "") (Or.inl (hw _ (List.mem_of_getElem? (i := 26) rfl))) Via.refl e1 F_aa0_checkpointEvery (g := (mkF m 11 #[.val (.ref aa0), .val (.long qq1), .second] [(.ref aa0), (.long qq1)])) rfl rfl (hb hby d5_11)
    have hc14 : ce ≠ (0 : Int64) := own_kz hc6
    have pre4 : ∀ t, Steps p.tables e below (T3.setTop (mkF m 17 #[.val (.ref aa0), .val (.long qq1), .second] [(.int (lcmpW (qq1 - (qq1 / ce) * ce) (0 : Int64)))])) t → Steps p.tables e below (s₁.setTop (entryFrame m #[(.ref aa0), (.long qq1)] 3)) t := fun t kt => pre2 t (by
      show Steps p.tables e below (T1.setTop (mkF m 6 #[.val (.ref aa0), .val (.long qq1), .second] [(.int (lcmpW ce (0 : Int64)))])) _
      refine XS.ifNo X1.here hx rfl (hb hby d5_6) rfl ((if0 _ _).trans (tlt ((lw_gt _ _).mpr hc6)).2.2.2) ?_
      show Steps p.tables e below (T1.setTop (mkF m 9 #[.val (.ref aa0), .val (.long qq1), .second] [])) _
      refine XS.lloadN X1.here hx rfl (hb hby d5_9) rfl ?_
      show Steps p.tables e below (T1.setTop (mkF m 10 #[.val (.ref aa0), .val (.long qq1), .second] [(.long qq1)])) _
      refine XS.aloadN X1.here hx rfl (hb hby d5_10) rfl rfl ?_
      show Steps p.tables e below (T1.setTop (mkF m 11 #[.val (.ref aa0), .val (.long qq1), .second] [(.ref aa0), (.long qq1)])) _
      refine st3 _ ?_
      show Steps p.tables e below (T3.setTop (mkF m 14 #[.val (.ref aa0), .val (.long qq1), .second] [(.long ce), (.long qq1)])) _
      refine XS.lrem X3.here hx rfl (hb hby d5_14) rfl hc14 ?_
      show Steps p.tables e below (T3.setTop (mkF m 15 #[.val (.ref aa0), .val (.long qq1), .second] [(.long (qq1 - (qq1 / ce) * ce))])) _
      refine XS.lconst X3.here hx rfl (hb hby d5_15) ?_
      show Steps p.tables e below (T3.setTop (mkF m 16 #[.val (.ref aa0), .val (.long qq1), .second] [(.long (0 : Int64)), (.long (qq1 - (qq1 / ce) * ce))])) _
      refine XS.lcmp X3.here hx rfl (hb hby d5_16) rfl ?_
      exact kt)
    by_cases hc17 : (qq1 - (qq1 / ce) * ce) = (0 : Int64)
    · skip
      obtain ⟨fs, hr, hrun, hended, hW, hsame⟩ := X3.leave (v := some (.int (1 : Int32))) (fun h => by rw [Bd.returns] at h; cases h)
      refine ⟨_, _, pre4 _ ?_, hrun, hended, _, _, rfl, ?_, ⟨_, rfl⟩, hW, hsame.mono (by decide) (by decide)⟩
      · show Steps p.tables e below (T3.setTop (mkF m 17 #[.val (.ref aa0), .val (.long qq1), .second] [(.int (lcmpW (qq1 - (qq1 / ce) * ce) (0 : Int64)))])) _
        refine XS.ifNo X3.here hx rfl (hb hby d5_17) rfl ((if0 _ _).trans (teq ((lw_eq _ _).mpr hc17)).2) ?_
        show Steps p.tables e below (T3.setTop (mkF m 20 #[.val (.ref aa0), .val (.long qq1), .second] [])) _
        refine XS.iconst X3.here hx rfl (hb hby d5_20) ?_
        show Steps p.tables e below (T3.setTop (mkF m 21 #[.val (.ref aa0), .val (.long qq1), .second] [(.int (1 : Int32))])) _
        refine XS.goto X3.here hx rfl (pc0 := 21) (pc' := 25) rfl (hb hby d5_21) (by decide) (by decide) ?_
        show Steps p.tables e below (T3.setTop (mkF m 25 #[.val (.ref aa0), .val (.long qq1), .second] [(.int (1 : Int32))])) _
        exact retN X3 hx (t := .boolean) Bd.returns (by simp) (hb hby d5_25) hr
      · show Q5 Z aa0 qq1 ce h0 n0 _ T3.heap _
        rw [e3]
        exact ⟨(by unfold own_chk; rw [if_pos hc6, if_pos hc17]), N0, rfl⟩
    · skip
      obtain ⟨fs, hr, hrun, hended, hW, hsame⟩ := X3.leave (v := some (.int (0 : Int32))) (fun h => by rw [Bd.returns] at h; cases h)
      refine ⟨_, _, pre4 _ ?_, hrun, hended, _, _, rfl, ?_, ⟨_, rfl⟩, hW, hsame.mono (by decide) (by decide)⟩
      · show Steps p.tables e below (T3.setTop (mkF m 17 #[.val (.ref aa0), .val (.long qq1), .second] [(.int (lcmpW (qq1 - (qq1 / ce) * ce) (0 : Int64)))])) _
        refine XS.ifYes X3.here hx rfl (pc0 := 17) (pc' := 24) rfl (hb hby d5_17) rfl ((if0 _ _).trans (feq (mt (lw_eq _ _).mp hc17)).2) (by decide) (by decide) ?_
        show Steps p.tables e below (T3.setTop (mkF m 24 #[.val (.ref aa0), .val (.long qq1), .second] [])) _
        refine XS.iconst X3.here hx rfl (hb hby d5_24) ?_
        show Steps p.tables e below (T3.setTop (mkF m 25 #[.val (.ref aa0), .val (.long qq1), .second] [(.int (0 : Int32))])) _
        exact retN X3 hx (t := .boolean) Bd.returns (by simp) (hb hby d5_25) hr
      · show Q5 Z aa0 qq1 ce h0 n0 _ T3.heap _
        rw [e3]
        exact ⟨(by unfold own_chk; rw [if_pos hc6, if_neg hc17]), N0, rfl⟩
  · skip
    obtain ⟨fs, hr, hrun, hended, hW, hsame⟩ := X1.leave (v := some (.int (0 : Int32))) (fun h => by rw [Bd.returns] at h; cases h)
    refine ⟨_, _, pre2 _ ?_, hrun, hended, _, _, rfl, ?_, ⟨_, rfl⟩, hW, hsame.mono (by decide) (by decide)⟩
    · show Steps p.tables e below (T1.setTop (mkF m 6 #[.val (.ref aa0), .val (.long qq1), .second] [(.int (lcmpW ce (0 : Int64)))])) _
      refine XS.ifYes X1.here hx rfl (pc0 := 6) (pc' := 24) rfl (hb hby d5_6) rfl ((if0 _ _).trans (flt (mt (lw_gt _ _).mp hc6)).2.2.2) (by decide) (by decide) ?_
      show Steps p.tables e below (T1.setTop (mkF m 24 #[.val (.ref aa0), .val (.long qq1), .second] [])) _
      refine XS.iconst X1.here hx rfl (hb hby d5_24) ?_
      show Steps p.tables e below (T1.setTop (mkF m 25 #[.val (.ref aa0), .val (.long qq1), .second] [(.int (0 : Int32))])) _
      exact retN X1 hx (t := .boolean) Bd.returns (by simp) (hb hby d5_25) hr
    · show Q5 Z aa0 qq1 ce h0 n0 _ T1.heap _
      rw [e1]
      exact ⟨(by unfold own_chk; rw [if_neg hc6]), N0, rfl⟩
theorem pd__28_JJ_29_J : parseMethodDescriptor "(JJ)J" = some ⟨[.long, .long], some .long⟩ := by decide +kernel
theorem pd__28_JJDJ_29_V : parseMethodDescriptor "(JJDJ)V" = some ⟨[.long, .long, .double, .long], none⟩ := by decide +kernel
theorem pd__28_J_29_Z : parseMethodDescriptor "(J)Z" = some ⟨[.long], some .boolean⟩ := by decide +kernel
theorem pn_com_example_escapement_escapement_inference_ScheduleCheckpointsPinLaw : plainName "com/example/escapement/escapement/inference/ScheduleCheckpointsPinLaw" = true := by first | (simp [plainName, overriddenIn]; done) | decide +kernel
theorem ef_0 (m : MethodId) (x0 : Int64) (x1 : Int64) (x2 : Int64) (x3 : Int64) (x4 : Int64) (x5 : Int32) : entryFrame m #[(.long x0), (.long x1), (.long x2), (.long x3), (.long x4), (.int x5)] maxLocals = mkF m 0 #[.val (.long x0), .second, .val (.long x1), .second, .val (.long x2), .second, .val (.long x3), .second, .val (.long x4), .second, .val (.int x5), .unset, .unset, .unset, .unset, .unset, .unset, .unset, .unset, .unset, .unset, .unset, .unset, .unset, .unset, .unset] [] := by first | (simp [entryFrame, mkF, argsToLocals, Value.category, maxLocals]; done) | rfl
def Q0 (Z : State) (qq1 : Int64) (qq2 : Int64) (qq3 : Int64) (qq4 : Int64) (qq5 : Int64) (pp6 : Int32) (h0 : Heap) (n0 : Nat) (v : Option Value) (h : Heap) (L : List Loc) : Prop := v = some (.int 1) ∧ Fr n0 L
set_option maxRecDepth 65536 in
set_option maxHeartbeats 40000000 in
theorem rm0 (l : Launch) (Z : State) (a0 : Array Value) (hw : ∀ d ∈ tables_1, d.before a0 Z = true) (ws : List Jvm.Cond) (qq1 : Int64) (qq2 : Int64) (qq3 : Int64) (qq4 : Int64) (qq5 : Int64) (pp6 : Int32) (h0 : Heap) (n0 : Nat) (Z0 : n0 ≤ h0.size) :
    MetFree l x (head1 (Jvm.Cond.code x code maxLocals ret :: ws) room_1) (fun a U => a = #[(.long qq1), (.long qq2), (.long qq3), (.long qq4), (.long qq5), (.int pp6)] ∧ Z.Warmed39 U.vm ∧ U.heap = h0) (fun _ _ _ _ _ => True) (fun _ U o U' => ∃ v L, o = .returned v ∧ Q0 Z qq1 qq2 qq3 qq4 qq5 pp6 h0 n0 v U'.heap L ∧ FrameEnd U o U' L room_1.cells room_1.slots) := by
  refine MetFree.of_bodySF (plainFor_of_name pn_com_example_escapement_escapement_inference_ScheduleCheckpointsPinLaw) hisR ?_
  intro p e s m args below meth c s₁ Bd hml0 hP hK
  obtain ⟨rfl, hZ, hh⟩ := hP
  have hx := Bd.exec
  have hby := Bd.bytes
  have hml : c.maxLocals = 26 := hml0
  have hown : s.vm.findClass "com/example/escapement/escapement/inference/ScheduleCheckpointsPinLaw" = some m.cls := findClass_of_methodNamed Bd.named
  have hnm := (name_of_methodNamed Bd.named Bd.method).1
  have X0 : Stand p l e room_1 s m #[(.long qq1), (.long qq2), (.long qq3), (.long qq4), (.long qq5), (.int pp6)] below meth c s₁ [] 0 0 := Stand.of_body Bd
  have e0 : s₁.heap = h0 := by rw [← hh, Bd.state]; rfl
  have N0 := Fr.nil n0
  have pre0 : ∀ t, Steps p.tables e below (s₁.setTop (mkF m 0 #[.val (.long qq1), .second, .val (.long qq2), .second, .val (.long qq3), .second, .val (.long qq4), .second, .val (.long qq5), .second, .val (.int pp6), .unset, .unset, .unset, .unset, .unset, .unset, .unset, .unset, .unset, .unset, .unset, .unset, .unset, .unset, .unset] [])) t → Steps p.tables e below (s₁.setTop (entryFrame m #[(.long qq1), (.long qq2), (.long qq3), (.long qq4), (.long qq5), (.int pp6)] maxLocals)) t := fun t k => castTop (ef_0 m qq1 qq2 qq3 qq4 qq5 pp6) k
  have pre1 : ∀ t, Steps p.tables e below (s₁.setTop (mkF m 7 #[.val (.long qq1), .second, .val (.long qq2), .second, .val (.long qq3), .second, .val (.long qq4), .second, .val (.long qq5), .second, .val (.int pp6), .val (.long (qq1 &&& (9223372036854775807 : Int64))), .second, .unset, .unset, .unset, .unset, .unset, .unset, .unset, .unset, .unset, .unset, .unset, .unset, .unset] [])) t → Steps p.tables e below (s₁.setTop (entryFrame m #[(.long qq1), (.long qq2), (.long qq3), (.long qq4), (.long qq5), (.int pp6)] maxLocals)) t := fun t kt => pre0 t (by
    show Steps p.tables e below (s₁.setTop (mkF m 0 #[.val (.long qq1), .second, .val (.long qq2), .second, .val (.long qq3), .second, .val (.long qq4), .second, .val (.long qq5), .second, .val (.int pp6), .unset, .unset, .unset, .unset, .unset, .unset, .unset, .unset, .unset, .unset, .unset, .unset, .unset, .unset, .unset] [])) _
    refine XS.lloadN X0.here hx rfl (hb hby at_0) rfl ?_
    show Steps p.tables e below (s₁.setTop (mkF m 1 #[.val (.long qq1), .second, .val (.long qq2), .second, .val (.long qq3), .second, .val (.long qq4), .second, .val (.long qq5), .second, .val (.int pp6), .unset, .unset, .unset, .unset, .unset, .unset, .unset, .unset, .unset, .unset, .unset, .unset, .unset, .unset, .unset] [(.long qq1)])) _
    refine X0.ldc2Long hx hown (mvT hZ (hw _ (List.mem_of_getElem? (i := 0) rfl))) (g := (mkF m 1 #[.val (.long qq1), .second, .val (.long qq2), .second, .val (.long qq3), .second, .val (.long qq4), .second, .val (.long qq5), .second, .val (.int pp6), .unset, .unset, .unset, .unset, .unset, .unset, .unset, .unset, .unset, .unset, .unset, .unset, .unset, .unset, .unset] [(.long qq1)])) rfl (hb hby at_1) _ ?_
    show Steps p.tables e below (s₁.setTop (mkF m 4 #[.val (.long qq1), .second, .val (.long qq2), .second, .val (.long qq3), .second, .val (.long qq4), .second, .val (.long qq5), .second, .val (.int pp6), .unset, .unset, .unset, .unset, .unset, .unset, .unset, .unset, .unset, .unset, .unset, .unset, .unset, .unset, .unset] [(.long (9223372036854775807 : Int64)), (.long qq1)])) _
    refine XS.land X0.here hx rfl (hb hby at_4) rfl ?_
    show Steps p.tables e below (s₁.setTop (mkF m 5 #[.val (.long qq1), .second, .val (.long qq2), .second, .val (.long qq3), .second, .val (.long qq4), .second, .val (.long qq5), .second, .val (.int pp6), .unset, .unset, .unset, .unset, .unset, .unset, .unset, .unset, .unset, .unset, .unset, .unset, .unset, .unset, .unset] [(.long (qq1 &&& (9223372036854775807 : Int64)))])) _
    refine XS.lstore X0.here hx rfl (hb hby at_5) rfl (l' := #[.val (.long qq1), .second, .val (.long qq2), .second, .val (.long qq3), .second, .val (.long qq4), .second, .val (.long qq5), .second, .val (.int pp6), .val (.long (qq1 &&& (9223372036854775807 : Int64))), .second, .unset, .unset, .unset, .unset, .unset, .unset, .unset, .unset, .unset, .unset, .unset, .unset, .unset]) rfl ?_
    exact kt)
  obtain ⟨kk, T2, L2, h_kk, X2, e2, N2, pre2⟩ : ∃ (kk : Int64) (T' : State) (L' : List Loc), (0 ≤ kk.toInt) ∧ Stand p l e room_1 s m #[(.long qq1), (.long qq2), (.long qq3), (.long qq4), (.long qq5), (.int pp6)] below meth c T' L' 0 0 ∧ T'.heap = h0 ∧ Fr n0 L' ∧ ∀ t, Steps p.tables e below (T'.setTop (mkF m 23 #[.val (.long qq1), .second, .val (.long qq2), .second, .val (.long qq3), .second, .val (.long qq4), .second, .val (.long qq5), .second, .val (.int pp6), .val (.long kk), .second, .unset, .unset, .unset, .unset, .unset, .unset, .unset, .unset, .unset, .unset, .unset, .unset, .unset] [])) t → Steps p.tables e below (s₁.setTop (entryFrame m #[(.long qq1), (.long qq2), (.long qq3), (.long qq4), (.long qq5), (.int pp6)] maxLocals)) t := by
    have pre3 : ∀ t, Steps p.tables e below (s₁.setTop (mkF m 12 #[.val (.long qq1), .second, .val (.long qq2), .second, .val (.long qq3), .second, .val (.long qq4), .second, .val (.long qq5), .second, .val (.int pp6), .val (.long (qq1 &&& (9223372036854775807 : Int64))), .second, .unset, .unset, .unset, .unset, .unset, .unset, .unset, .unset, .unset, .unset, .unset, .unset, .unset] [(.int (pp6 &&& (8 : Int32)))])) t → Steps p.tables e below (s₁.setTop (entryFrame m #[(.long qq1), (.long qq2), (.long qq3), (.long qq4), (.long qq5), (.int pp6)] maxLocals)) t := fun t kt => pre1 t (by
      show Steps p.tables e below (s₁.setTop (mkF m 7 #[.val (.long qq1), .second, .val (.long qq2), .second, .val (.long qq3), .second, .val (.long qq4), .second, .val (.long qq5), .second, .val (.int pp6), .val (.long (qq1 &&& (9223372036854775807 : Int64))), .second, .unset, .unset, .unset, .unset, .unset, .unset, .unset, .unset, .unset, .unset, .unset, .unset, .unset] [])) _
      refine XS.iload X0.here hx rfl (hb hby at_7) rfl ?_
      show Steps p.tables e below (s₁.setTop (mkF m 9 #[.val (.long qq1), .second, .val (.long qq2), .second, .val (.long qq3), .second, .val (.long qq4), .second, .val (.long qq5), .second, .val (.int pp6), .val (.long (qq1 &&& (9223372036854775807 : Int64))), .second, .unset, .unset, .unset, .unset, .unset, .unset, .unset, .unset, .unset, .unset, .unset, .unset, .unset] [(.int pp6)])) _
      refine XS.bipush X0.here hx rfl (hb hby at_9) ?_
      show Steps p.tables e below (s₁.setTop (mkF m 11 #[.val (.long qq1), .second, .val (.long qq2), .second, .val (.long qq3), .second, .val (.long qq4), .second, .val (.long qq5), .second, .val (.int pp6), .val (.long (qq1 &&& (9223372036854775807 : Int64))), .second, .unset, .unset, .unset, .unset, .unset, .unset, .unset, .unset, .unset, .unset, .unset, .unset, .unset] [(.int (8 : Int32)), (.int pp6)])) _
      refine XS.iand X0.here hx rfl (hb hby at_11) rfl ?_
      exact kt)
    by_cases hc12 : (pp6 &&& (8 : Int32)) = (0 : Int32)
    · skip
      exact ⟨(qq1 &&& (9223372036854775807 : Int64)), _, _, own_nn63 _, X0, e0, N0, fun t kt => pre3 t (by
          show Steps p.tables e below (s₁.setTop (mkF m 12 #[.val (.long qq1), .second, .val (.long qq2), .second, .val (.long qq3), .second, .val (.long qq4), .second, .val (.long qq5), .second, .val (.int pp6), .val (.long (qq1 &&& (9223372036854775807 : Int64))), .second, .unset, .unset, .unset, .unset, .unset, .unset, .unset, .unset, .unset, .unset, .unset, .unset, .unset] [(.int (pp6 &&& (8 : Int32)))])) _
          refine XS.ifYes X0.here hx rfl (pc0 := 12) (pc' := 23) rfl (hb hby at_12) rfl ((if0 _ _).trans (teq hc12).1) (by decide) (by decide) ?_
          exact kt)⟩
    · skip
      exact ⟨((qq1 &&& (9223372036854775807 : Int64)) &&& (255 : Int64)), _, _, own_nn8 _, X0, e0, N0, fun t kt => pre3 t (by
          show Steps p.tables e below (s₁.setTop (mkF m 12 #[.val (.long qq1), .second, .val (.long qq2), .second, .val (.long qq3), .second, .val (.long qq4), .second, .val (.long qq5), .second, .val (.int pp6), .val (.long (qq1 &&& (9223372036854775807 : Int64))), .second, .unset, .unset, .unset, .unset, .unset, .unset, .unset, .unset, .unset, .unset, .unset, .unset, .unset] [(.int (pp6 &&& (8 : Int32)))])) _
          refine XS.ifNo X0.here hx rfl (hb hby at_12) rfl ((if0 _ _).trans (feq hc12).1) ?_
          show Steps p.tables e below (s₁.setTop (mkF m 15 #[.val (.long qq1), .second, .val (.long qq2), .second, .val (.long qq3), .second, .val (.long qq4), .second, .val (.long qq5), .second, .val (.int pp6), .val (.long (qq1 &&& (9223372036854775807 : Int64))), .second, .unset, .unset, .unset, .unset, .unset, .unset, .unset, .unset, .unset, .unset, .unset, .unset, .unset] [])) _
          refine XS.lload X0.here hx rfl (hb hby at_15) rfl ?_
          show Steps p.tables e below (s₁.setTop (mkF m 17 #[.val (.long qq1), .second, .val (.long qq2), .second, .val (.long qq3), .second, .val (.long qq4), .second, .val (.long qq5), .second, .val (.int pp6), .val (.long (qq1 &&& (9223372036854775807 : Int64))), .second, .unset, .unset, .unset, .unset, .unset, .unset, .unset, .unset, .unset, .unset, .unset, .unset, .unset] [(.long (qq1 &&& (9223372036854775807 : Int64)))])) _
          refine X0.ldc2Long hx hown (mvT hZ (hw _ (List.mem_of_getElem? (i := 34) rfl))) (g := (mkF m 17 #[.val (.long qq1), .second, .val (.long qq2), .second, .val (.long qq3), .second, .val (.long qq4), .second, .val (.long qq5), .second, .val (.int pp6), .val (.long (qq1 &&& (9223372036854775807 : Int64))), .second, .unset, .unset, .unset, .unset, .unset, .unset, .unset, .unset, .unset, .unset, .unset, .unset, .unset] [(.long (qq1 &&& (9223372036854775807 : Int64)))])) rfl (hb hby at_17) _ ?_
          show Steps p.tables e below (s₁.setTop (mkF m 20 #[.val (.long qq1), .second, .val (.long qq2), .second, .val (.long qq3), .second, .val (.long qq4), .second, .val (.long qq5), .second, .val (.int pp6), .val (.long (qq1 &&& (9223372036854775807 : Int64))), .second, .unset, .unset, .unset, .unset, .unset, .unset, .unset, .unset, .unset, .unset, .unset, .unset, .unset] [(.long (255 : Int64)), (.long (qq1 &&& (9223372036854775807 : Int64)))])) _
          refine XS.land X0.here hx rfl (hb hby at_20) rfl ?_
          show Steps p.tables e below (s₁.setTop (mkF m 21 #[.val (.long qq1), .second, .val (.long qq2), .second, .val (.long qq3), .second, .val (.long qq4), .second, .val (.long qq5), .second, .val (.int pp6), .val (.long (qq1 &&& (9223372036854775807 : Int64))), .second, .unset, .unset, .unset, .unset, .unset, .unset, .unset, .unset, .unset, .unset, .unset, .unset, .unset] [(.long ((qq1 &&& (9223372036854775807 : Int64)) &&& (255 : Int64)))])) _
          refine XS.lstore X0.here hx rfl (hb hby at_21) rfl (l' := #[.val (.long qq1), .second, .val (.long qq2), .second, .val (.long qq3), .second, .val (.long qq4), .second, .val (.long qq5), .second, .val (.int pp6), .val (.long ((qq1 &&& (9223372036854775807 : Int64)) &&& (255 : Int64))), .second, .unset, .unset, .unset, .unset, .unset, .unset, .unset, .unset, .unset, .unset, .unset, .unset, .unset]) rfl ?_
          exact kt)⟩
  obtain ⟨_, _, ⟨T4, L4, k4, n4⟩, -, X4, ⟨Lc4, hQ4, l4, y4, z4⟩, st4⟩ := Jvm.LawKit.callS X2 hx (y := (⟨"java/lang/Math", "max", "(JJ)J"⟩ : MethodName)) hown (mvT hZ (hw _ (List.mem_of_getElem? (i := 1) rfl))) (mvT hZ (hw _ (List.mem_of_getElem? (i := 2) rfl))) (mvT hZ (hw _ (List.mem_of_getElem? (i := 3) rfl))) (mvT hZ (hw _ (List.mem_of_getElem? (i := 4) rfl))) (by decide) (backOf (W := 0) (rm1 l Z a0 hw [] (1 : Int64) (qq5 &&& (9223372036854775807 : Int64)) h0 n0 Z0 ) hZ (hw _ (List.mem_of_getElem? (i := 4) rfl)) (hw _ (List.mem_of_getElem? (i := 3) rfl)) (by decide) (by decide)) (g := (mkF m 38 #[.val (.long qq1), .second, .val (.long qq2), .second, .val (.long qq3), .second, .val (.long qq4), .second, .val (.long qq5), .second, .val (.int pp6), .val (.long kk), .second, .val (.long (qq4 &&& (9223372036854775807 : Int64))), .second, .unset, .unset, .unset, .unset, .unset, .unset, .unset, .unset, .unset, .unset, .unset] [(.long (qq5 &&& (9223372036854775807 : Int64))), (.long (1 : Int64))])) rfl (by rw [hml]; rfl) (argsL := [(.long (1 : Int64)), (.long (qq5 &&& (9223372036854775807 : Int64)))]) (rest := []) (lenOf pd__28_JJ_29_J rfl) rfl (by show 2 * 0 + _ ≤ _; exact Nat.le_of_eq rfl) (hb hby at_38) (fun _ _ => ⟨rfl, e2, (by decide : 0 + 0 ≤ _), (by decide : 0 + 0 ≤ _)⟩)
  dsimp only [Pt.U, Pt.locs, Pt.cells, Pt.slots] at X4 l4 y4 z4 st4 hQ4
  subst l4 y4 z4
  obtain ⟨rfl, N4q, e4⟩ := hQ4
  have N4 := Fr.app N2 N4q
  have pre5 : ∀ t, Steps p.tables e below (T4.setTop (mkF m 43 #[.val (.long qq1), .second, .val (.long qq2), .second, .val (.long qq3), .second, .val (.long qq4), .second, .val (.long qq5), .second, .val (.int pp6), .val (.long kk), .second, .val (.long (qq4 &&& (9223372036854775807 : Int64))), .second, .val (.long (if (1 : Int64) < (qq5 &&& (9223372036854775807 : Int64)) then (qq5 &&& (9223372036854775807 : Int64)) else (1 : Int64))), .second, .unset, .unset, .unset, .unset, .unset, .unset, .unset, .unset, .unset] [])) t → Steps p.tables e below (s₁.setTop (entryFrame m #[(.long qq1), (.long qq2), (.long qq3), (.long qq4), (.long qq5), (.int pp6)] maxLocals)) t := fun t kt => pre2 t (by
    show Steps p.tables e below (T2.setTop (mkF m 23 #[.val (.long qq1), .second, .val (.long qq2), .second, .val (.long qq3), .second, .val (.long qq4), .second, .val (.long qq5), .second, .val (.int pp6), .val (.long kk), .second, .unset, .unset, .unset, .unset, .unset, .unset, .unset, .unset, .unset, .unset, .unset, .unset, .unset] [])) _
    refine XS.lload X2.here hx rfl (hb hby at_23) rfl ?_
    show Steps p.tables e below (T2.setTop (mkF m 25 #[.val (.long qq1), .second, .val (.long qq2), .second, .val (.long qq3), .second, .val (.long qq4), .second, .val (.long qq5), .second, .val (.int pp6), .val (.long kk), .second, .unset, .unset, .unset, .unset, .unset, .unset, .unset, .unset, .unset, .unset, .unset, .unset, .unset] [(.long qq4)])) _
    refine X2.ldc2Long hx hown (mvT hZ (hw _ (List.mem_of_getElem? (i := 0) rfl))) (g := (mkF m 25 #[.val (.long qq1), .second, .val (.long qq2), .second, .val (.long qq3), .second, .val (.long qq4), .second, .val (.long qq5), .second, .val (.int pp6), .val (.long kk), .second, .unset, .unset, .unset, .unset, .unset, .unset, .unset, .unset, .unset, .unset, .unset, .unset, .unset] [(.long qq4)])) rfl (hb hby at_25) _ ?_
    show Steps p.tables e below (T2.setTop (mkF m 28 #[.val (.long qq1), .second, .val (.long qq2), .second, .val (.long qq3), .second, .val (.long qq4), .second, .val (.long qq5), .second, .val (.int pp6), .val (.long kk), .second, .unset, .unset, .unset, .unset, .unset, .unset, .unset, .unset, .unset, .unset, .unset, .unset, .unset] [(.long (9223372036854775807 : Int64)), (.long qq4)])) _
    refine XS.land X2.here hx rfl (hb hby at_28) rfl ?_
    show Steps p.tables e below (T2.setTop (mkF m 29 #[.val (.long qq1), .second, .val (.long qq2), .second, .val (.long qq3), .second, .val (.long qq4), .second, .val (.long qq5), .second, .val (.int pp6), .val (.long kk), .second, .unset, .unset, .unset, .unset, .unset, .unset, .unset, .unset, .unset, .unset, .unset, .unset, .unset] [(.long (qq4 &&& (9223372036854775807 : Int64)))])) _
    refine XS.lstore X2.here hx rfl (hb hby at_29) rfl (l' := #[.val (.long qq1), .second, .val (.long qq2), .second, .val (.long qq3), .second, .val (.long qq4), .second, .val (.long qq5), .second, .val (.int pp6), .val (.long kk), .second, .val (.long (qq4 &&& (9223372036854775807 : Int64))), .second, .unset, .unset, .unset, .unset, .unset, .unset, .unset, .unset, .unset, .unset, .unset]) rfl ?_
    show Steps p.tables e below (T2.setTop (mkF m 31 #[.val (.long qq1), .second, .val (.long qq2), .second, .val (.long qq3), .second, .val (.long qq4), .second, .val (.long qq5), .second, .val (.int pp6), .val (.long kk), .second, .val (.long (qq4 &&& (9223372036854775807 : Int64))), .second, .unset, .unset, .unset, .unset, .unset, .unset, .unset, .unset, .unset, .unset, .unset] [])) _
    refine XS.lconst X2.here hx rfl (hb hby at_31) ?_
    show Steps p.tables e below (T2.setTop (mkF m 32 #[.val (.long qq1), .second, .val (.long qq2), .second, .val (.long qq3), .second, .val (.long qq4), .second, .val (.long qq5), .second, .val (.int pp6), .val (.long kk), .second, .val (.long (qq4 &&& (9223372036854775807 : Int64))), .second, .unset, .unset, .unset, .unset, .unset, .unset, .unset, .unset, .unset, .unset, .unset] [(.long (1 : Int64))])) _
    refine XS.lload X2.here hx rfl (hb hby at_32) rfl ?_
    show Steps p.tables e below (T2.setTop (mkF m 34 #[.val (.long qq1), .second, .val (.long qq2), .second, .val (.long qq3), .second, .val (.long qq4), .second, .val (.long qq5), .second, .val (.int pp6), .val (.long kk), .second, .val (.long (qq4 &&& (9223372036854775807 : Int64))), .second, .unset, .unset, .unset, .unset, .unset, .unset, .unset, .unset, .unset, .unset, .unset] [(.long qq5), (.long (1 : Int64))])) _
    refine X2.ldc2Long hx hown (mvT hZ (hw _ (List.mem_of_getElem? (i := 0) rfl))) (g := (mkF m 34 #[.val (.long qq1), .second, .val (.long qq2), .second, .val (.long qq3), .second, .val (.long qq4), .second, .val (.long qq5), .second, .val (.int pp6), .val (.long kk), .second, .val (.long (qq4 &&& (9223372036854775807 : Int64))), .second, .unset, .unset, .unset, .unset, .unset, .unset, .unset, .unset, .unset, .unset, .unset] [(.long qq5), (.long (1 : Int64))])) rfl (hb hby at_34) _ ?_
    show Steps p.tables e below (T2.setTop (mkF m 37 #[.val (.long qq1), .second, .val (.long qq2), .second, .val (.long qq3), .second, .val (.long qq4), .second, .val (.long qq5), .second, .val (.int pp6), .val (.long kk), .second, .val (.long (qq4 &&& (9223372036854775807 : Int64))), .second, .unset, .unset, .unset, .unset, .unset, .unset, .unset, .unset, .unset, .unset, .unset] [(.long (9223372036854775807 : Int64)), (.long qq5), (.long (1 : Int64))])) _
    refine XS.land X2.here hx rfl (hb hby at_37) rfl ?_
    show Steps p.tables e below (T2.setTop (mkF m 38 #[.val (.long qq1), .second, .val (.long qq2), .second, .val (.long qq3), .second, .val (.long qq4), .second, .val (.long qq5), .second, .val (.int pp6), .val (.long kk), .second, .val (.long (qq4 &&& (9223372036854775807 : Int64))), .second, .unset, .unset, .unset, .unset, .unset, .unset, .unset, .unset, .unset, .unset, .unset] [(.long (qq5 &&& (9223372036854775807 : Int64))), (.long (1 : Int64))])) _
    refine st4 _ ?_
    show Steps p.tables e below (T4.setTop (mkF m 41 #[.val (.long qq1), .second, .val (.long qq2), .second, .val (.long qq3), .second, .val (.long qq4), .second, .val (.long qq5), .second, .val (.int pp6), .val (.long kk), .second, .val (.long (qq4 &&& (9223372036854775807 : Int64))), .second, .unset, .unset, .unset, .unset, .unset, .unset, .unset, .unset, .unset, .unset, .unset] [(.long (if (1 : Int64) < (qq5 &&& (9223372036854775807 : Int64)) then (qq5 &&& (9223372036854775807 : Int64)) else (1 : Int64)))])) _
    refine XS.lstore X4.here hx rfl (hb hby at_41) rfl (l' := #[.val (.long qq1), .second, .val (.long qq2), .second, .val (.long qq3), .second, .val (.long qq4), .second, .val (.long qq5), .second, .val (.int pp6), .val (.long kk), .second, .val (.long (qq4 &&& (9223372036854775807 : Int64))), .second, .val (.long (if (1 : Int64) < (qq5 &&& (9223372036854775807 : Int64)) then (qq5 &&& (9223372036854775807 : Int64)) else (1 : Int64))), .second, .unset, .unset, .unset, .unset, .unset, .unset, .unset, .unset, .unset]) rfl ?_
    exact kt)
  obtain ⟨lg, ln, h_lg, h_ln, pre6⟩ : ∃ (lg : Int64) (ln : Int64), (¬ lg < (1 : Int64)) ∧ (0 ≤ ln.toInt) ∧ ∀ t, Steps p.tables e below (T4.setTop (mkF m 43 #[.val (.long qq1), .second, .val (.long qq2), .second, .val (.long qq3), .second, .val (.long qq4), .second, .val (.long qq5), .second, .val (.int pp6), .val (.long kk), .second, .val (.long ln), .second, .val (.long lg), .second, .unset, .unset, .unset, .unset, .unset, .unset, .unset, .unset, .unset] [])) t → Steps p.tables e below (s₁.setTop (entryFrame m #[(.long qq1), (.long qq2), (.long qq3), (.long qq4), (.long qq5), (.int pp6)] maxLocals)) t := ⟨(if (1 : Int64) < (qq5 &&& (9223372036854775807 : Int64)) then (qq5 &&& (9223372036854775807 : Int64)) else (1 : Int64)), (qq4 &&& (9223372036854775807 : Int64)), own_lg _, own_nn63 _, pre5⟩
  have hc52 : Jvm.Free.Fl.NoNaN64 (FP.ddiv (FP.i2d (pp6 &&& (7 : Int32))) (4620693217682128896 : UInt64)) := (own_div _).1
  have pre7 : ∀ t, Steps p.tables e below (T4.setTop (mkF m 55 #[.val (.long qq1), .second, .val (.long qq2), .second, .val (.long qq3), .second, .val (.long qq4), .second, .val (.long qq5), .second, .val (.int pp6), .val (.long kk), .second, .val (.long ln), .second, .val (.long lg), .second, .val (.double (FP.ddiv (FP.i2d (pp6 &&& (7 : Int32))) (4620693217682128896 : UInt64))), .second, .unset, .unset, .unset, .unset, .unset, .unset, .unset] [])) t → Steps p.tables e below (s₁.setTop (entryFrame m #[(.long qq1), (.long qq2), (.long qq3), (.long qq4), (.long qq5), (.int pp6)] maxLocals)) t := fun t kt => pre6 t (by
    show Steps p.tables e below (T4.setTop (mkF m 43 #[.val (.long qq1), .second, .val (.long qq2), .second, .val (.long qq3), .second, .val (.long qq4), .second, .val (.long qq5), .second, .val (.int pp6), .val (.long kk), .second, .val (.long ln), .second, .val (.long lg), .second, .unset, .unset, .unset, .unset, .unset, .unset, .unset, .unset, .unset] [])) _
    refine XS.iload X4.here hx rfl (hb hby at_43) rfl ?_
    show Steps p.tables e below (T4.setTop (mkF m 45 #[.val (.long qq1), .second, .val (.long qq2), .second, .val (.long qq3), .second, .val (.long qq4), .second, .val (.long qq5), .second, .val (.int pp6), .val (.long kk), .second, .val (.long ln), .second, .val (.long lg), .second, .unset, .unset, .unset, .unset, .unset, .unset, .unset, .unset, .unset] [(.int pp6)])) _
    refine XS.bipush X4.here hx rfl (hb hby at_45) ?_
    show Steps p.tables e below (T4.setTop (mkF m 47 #[.val (.long qq1), .second, .val (.long qq2), .second, .val (.long qq3), .second, .val (.long qq4), .second, .val (.long qq5), .second, .val (.int pp6), .val (.long kk), .second, .val (.long ln), .second, .val (.long lg), .second, .unset, .unset, .unset, .unset, .unset, .unset, .unset, .unset, .unset] [(.int (7 : Int32)), (.int pp6)])) _
    refine XS.iand X4.here hx rfl (hb hby at_47) rfl ?_
    show Steps p.tables e below (T4.setTop (mkF m 48 #[.val (.long qq1), .second, .val (.long qq2), .second, .val (.long qq3), .second, .val (.long qq4), .second, .val (.long qq5), .second, .val (.int pp6), .val (.long kk), .second, .val (.long ln), .second, .val (.long lg), .second, .unset, .unset, .unset, .unset, .unset, .unset, .unset, .unset, .unset] [(.int (pp6 &&& (7 : Int32)))])) _
    refine XS.i2dS X4.here hx rfl (hb hby at_48) rfl (v := (FP.i2d (pp6 &&& (7 : Int32)))) rfl ?_
    show Steps p.tables e below (T4.setTop (mkF m 49 #[.val (.long qq1), .second, .val (.long qq2), .second, .val (.long qq3), .second, .val (.long qq4), .second, .val (.long qq5), .second, .val (.int pp6), .val (.long kk), .second, .val (.long ln), .second, .val (.long lg), .second, .unset, .unset, .unset, .unset, .unset, .unset, .unset, .unset, .unset] [(.double (FP.i2d (pp6 &&& (7 : Int32))))])) _
    refine X4.ldc2DoubleC hx hown (mvT hZ (hw _ (List.mem_of_getElem? (i := 5) rfl))) (g := (mkF m 49 #[.val (.long qq1), .second, .val (.long qq2), .second, .val (.long qq3), .second, .val (.long qq4), .second, .val (.long qq5), .second, .val (.int pp6), .val (.long kk), .second, .val (.long ln), .second, .val (.long lg), .second, .unset, .unset, .unset, .unset, .unset, .unset, .unset, .unset, .unset] [(.double (FP.i2d (pp6 &&& (7 : Int32))))])) rfl (hb hby at_49) _ ?_
    show Steps p.tables e below (T4.setTop (mkF m 52 #[.val (.long qq1), .second, .val (.long qq2), .second, .val (.long qq3), .second, .val (.long qq4), .second, .val (.long qq5), .second, .val (.int pp6), .val (.long kk), .second, .val (.long ln), .second, .val (.long lg), .second, .unset, .unset, .unset, .unset, .unset, .unset, .unset, .unset, .unset] [(.double (4620693217682128896 : UInt64)), (.double (FP.i2d (pp6 &&& (7 : Int32))))])) _
    refine XS.ddivS X4.here hx rfl (hb hby at_52) rfl hc52 (v := (FP.ddiv (FP.i2d (pp6 &&& (7 : Int32))) (4620693217682128896 : UInt64))) rfl ?_
    show Steps p.tables e below (T4.setTop (mkF m 53 #[.val (.long qq1), .second, .val (.long qq2), .second, .val (.long qq3), .second, .val (.long qq4), .second, .val (.long qq5), .second, .val (.int pp6), .val (.long kk), .second, .val (.long ln), .second, .val (.long lg), .second, .unset, .unset, .unset, .unset, .unset, .unset, .unset, .unset, .unset] [(.double (FP.ddiv (FP.i2d (pp6 &&& (7 : Int32))) (4620693217682128896 : UInt64)))])) _
    refine XS.dstore X4.here hx rfl (hb hby at_53) rfl (l' := #[.val (.long qq1), .second, .val (.long qq2), .second, .val (.long qq3), .second, .val (.long qq4), .second, .val (.long qq5), .second, .val (.int pp6), .val (.long kk), .second, .val (.long ln), .second, .val (.long lg), .second, .val (.double (FP.ddiv (FP.i2d (pp6 &&& (7 : Int32))) (4620693217682128896 : UInt64))), .second, .unset, .unset, .unset, .unset, .unset, .unset, .unset]) rfl ?_
    exact kt)
  obtain ⟨dv, h_dv, pre8⟩ : ∃ (dv : UInt64), (own_okd dv) ∧ ∀ t, Steps p.tables e below (T4.setTop (mkF m 55 #[.val (.long qq1), .second, .val (.long qq2), .second, .val (.long qq3), .second, .val (.long qq4), .second, .val (.long qq5), .second, .val (.int pp6), .val (.long kk), .second, .val (.long ln), .second, .val (.long lg), .second, .val (.double dv), .second, .unset, .unset, .unset, .unset, .unset, .unset, .unset] [])) t → Steps p.tables e below (s₁.setTop (entryFrame m #[(.long qq1), (.long qq2), (.long qq3), (.long qq4), (.long qq5), (.int pp6)] maxLocals)) t := ⟨(FP.ddiv (FP.i2d (pp6 &&& (7 : Int32))) (4620693217682128896 : UInt64)), (own_div _).2, pre7⟩
  obtain ⟨T9, h9, X9, e9, E9, A9, D9, -, st9⟩ := newO X4 hx hZ hown (hw _ (List.mem_of_getElem? (i := 6) rfl)) (hw _ (List.mem_of_getElem? (i := 7) rfl)) (hw _ (List.mem_of_getElem? (i := 8) rfl)) e4 (g := (mkF m 55 #[.val (.long qq1), .second, .val (.long qq2), .second, .val (.long qq3), .second, .val (.long qq4), .second, .val (.long qq5), .second, .val (.int pp6), .val (.long kk), .second, .val (.long ln), .second, .val (.long lg), .second, .val (.double dv), .second, .unset, .unset, .unset, .unset, .unset, .unset, .unset] [])) rfl (hb hby at_55) (by decide) (by decide)
  obtain ⟨b9, g9⟩ : ∃ z, z = h0.size := ⟨_, rfl⟩
  rw [← g9] at A9 D9 st9
  have g_b9 : n0 ≤ b9 := Nat.le_trans Z0 (Nat.le_of_eq g9.symm)
  have Z9 : n0 ≤ h9.size := Nat.le_trans Z0 E9.1
  have F9_length : Fld Z h9 b9 "com/example/escapement/escapement/inference/Schedule" "length" "J" (.long (0 : Int64)) := D9 (Or.inr (hw _ (List.mem_of_getElem? (i := 21) rfl))) (ty := .long) (by decide)
  have F9_logEvery : Fld Z h9 b9 "com/example/escapement/escapement/inference/Schedule" "logEvery" "J" (.long (0 : Int64)) := D9 (Or.inr (hw _ (List.mem_of_getElem? (i := 23) rfl))) (ty := .long) (by decide)
  have F9_burnin : Fld Z h9 b9 "com/example/escapement/escapement/inference/Schedule" "burnin" "D" (defaultValue .double) := D9 (Or.inr (hw _ (List.mem_of_getElem? (i := 25) rfl))) (ty := .double) (by decide)
  have F9_checkpointEvery : Fld Z h9 b9 "com/example/escapement/escapement/inference/Schedule" "checkpointEvery" "J" (.long (0 : Int64)) := D9 (Or.inr (hw _ (List.mem_of_getElem? (i := 27) rfl))) (ty := .long) (by decide)
  obtain ⟨_, _, ⟨T10, L10, k10, n10⟩, -, X10, ⟨Lc10, hQ10, l10, y10, z10⟩, st10⟩ := X9.specialBack hx (y := (⟨"com/example/escapement/escapement/inference/Schedule", "<init>", "(JJDJ)V"⟩ : MethodName)) rfl hown (mvT hZ (hw _ (List.mem_of_getElem? (i := 9) rfl))) (mvT hZ (hw _ (List.mem_of_getElem? (i := 10) rfl))) (mvT hZ (hw _ (List.mem_of_getElem? (i := 11) rfl))) (by decide) (backOf (W := 1) (rm2 l Z a0 hw [] b9 ln lg dv kk (.long (0 : Int64)) (.long (0 : Int64)) (defaultValue .double) (.long (0 : Int64)) h9 n0 Z9 A9 g_b9 F9_length F9_logEvery F9_burnin F9_checkpointEvery (show ¬ ln < (0 : Int64) from own_nlt h_ln) (show ¬ lg < (1 : Int64) from h_lg) (show own_okd dv from h_dv) (show ¬ kk < (0 : Int64) from own_nlt h_kk)) hZ (hw _ (List.mem_of_getElem? (i := 11) rfl)) (hw _ (List.mem_of_getElem? (i := 8) rfl)) (by decide) (by decide)) (g := (mkF m 67 #[.val (.long qq1), .second, .val (.long qq2), .second, .val (.long qq3), .second, .val (.long qq4), .second, .val (.long qq5), .second, .val (.int pp6), .val (.long kk), .second, .val (.long ln), .second, .val (.long lg), .second, .val (.double dv), .second, .unset, .unset, .unset, .unset, .unset, .unset, .unset] [(.long kk), (.double dv), (.long lg), (.long ln), (.ref b9), (.ref b9)])) rfl (by rw [hml]; rfl) (Steps.refl _) (a := b9) (argsL := [(.long ln), (.long lg), (.double dv), (.long kk)]) (rest := [(.ref b9)]) (lenOf pd__28_JJDJ_29_V rfl) rfl (by show 2 * 0 + _ ≤ _; exact Nat.le_of_eq rfl) (hb hby at_67) (fun _ _ => ⟨rfl, e9, (by decide : 1 + 0 ≤ _), (by decide : 4 + 0 ≤ _)⟩)
  dsimp only [Pt.U, Pt.locs, Pt.cells, Pt.slots] at X10 l10 y10 z10 st10 hQ10
  subst l10 y10 z10
  obtain ⟨rfl, N10q, K10c, R10_0, R10_1, R10_2, R10_3⟩ := hQ10
  have N10 := Fr.app N4 N10q
  have Z10 : n0 ≤ T10.heap.size := Nat.le_trans Z9 K10c.1
  have pre11 : ∀ t, Steps p.tables e below (T10.setTop (mkF m 72 #[.val (.long qq1), .second, .val (.long qq2), .second, .val (.long qq3), .second, .val (.long qq4), .second, .val (.long qq5), .second, .val (.int pp6), .val (.long kk), .second, .val (.long ln), .second, .val (.long lg), .second, .val (.double dv), .second, .val (.ref b9), .unset, .unset, .unset, .unset, .unset, .unset] [])) t → Steps p.tables e below (s₁.setTop (entryFrame m #[(.long qq1), (.long qq2), (.long qq3), (.long qq4), (.long qq5), (.int pp6)] maxLocals)) t := fun t kt => pre8 t (by
    show Steps p.tables e below (T4.setTop (mkF m 55 #[.val (.long qq1), .second, .val (.long qq2), .second, .val (.long qq3), .second, .val (.long qq4), .second, .val (.long qq5), .second, .val (.int pp6), .val (.long kk), .second, .val (.long ln), .second, .val (.long lg), .second, .val (.double dv), .second, .unset, .unset, .unset, .unset, .unset, .unset, .unset] [])) _
    refine st9 _ ?_
    show Steps p.tables e below (T9.setTop (mkF m 58 #[.val (.long qq1), .second, .val (.long qq2), .second, .val (.long qq3), .second, .val (.long qq4), .second, .val (.long qq5), .second, .val (.int pp6), .val (.long kk), .second, .val (.long ln), .second, .val (.long lg), .second, .val (.double dv), .second, .unset, .unset, .unset, .unset, .unset, .unset, .unset] [(.ref b9)])) _
    refine XS.dup X9.here hx rfl (hb hby at_58) rfl rfl ?_
    show Steps p.tables e below (T9.setTop (mkF m 59 #[.val (.long qq1), .second, .val (.long qq2), .second, .val (.long qq3), .second, .val (.long qq4), .second, .val (.long qq5), .second, .val (.int pp6), .val (.long kk), .second, .val (.long ln), .second, .val (.long lg), .second, .val (.double dv), .second, .unset, .unset, .unset, .unset, .unset, .unset, .unset] [(.ref b9), (.ref b9)])) _
    refine XS.lload X9.here hx rfl (hb hby at_59) rfl ?_
    show Steps p.tables e below (T9.setTop (mkF m 61 #[.val (.long qq1), .second, .val (.long qq2), .second, .val (.long qq3), .second, .val (.long qq4), .second, .val (.long qq5), .second, .val (.int pp6), .val (.long kk), .second, .val (.long ln), .second, .val (.long lg), .second, .val (.double dv), .second, .unset, .unset, .unset, .unset, .unset, .unset, .unset] [(.long ln), (.ref b9), (.ref b9)])) _
    refine XS.lload X9.here hx rfl (hb hby at_61) rfl ?_
    show Steps p.tables e below (T9.setTop (mkF m 63 #[.val (.long qq1), .second, .val (.long qq2), .second, .val (.long qq3), .second, .val (.long qq4), .second, .val (.long qq5), .second, .val (.int pp6), .val (.long kk), .second, .val (.long ln), .second, .val (.long lg), .second, .val (.double dv), .second, .unset, .unset, .unset, .unset, .unset, .unset, .unset] [(.long lg), (.long ln), (.ref b9), (.ref b9)])) _
    refine XS.dload X9.here hx rfl (hb hby at_63) rfl ?_
    show Steps p.tables e below (T9.setTop (mkF m 65 #[.val (.long qq1), .second, .val (.long qq2), .second, .val (.long qq3), .second, .val (.long qq4), .second, .val (.long qq5), .second, .val (.int pp6), .val (.long kk), .second, .val (.long ln), .second, .val (.long lg), .second, .val (.double dv), .second, .unset, .unset, .unset, .unset, .unset, .unset, .unset] [(.double dv), (.long lg), (.long ln), (.ref b9), (.ref b9)])) _
    refine XS.lload X9.here hx rfl (hb hby at_65) rfl ?_
    show Steps p.tables e below (T9.setTop (mkF m 67 #[.val (.long qq1), .second, .val (.long qq2), .second, .val (.long qq3), .second, .val (.long qq4), .second, .val (.long qq5), .second, .val (.int pp6), .val (.long kk), .second, .val (.long ln), .second, .val (.long lg), .second, .val (.double dv), .second, .unset, .unset, .unset, .unset, .unset, .unset, .unset] [(.long kk), (.double dv), (.long lg), (.long ln), (.ref b9), (.ref b9)])) _
    refine st10.trans ?_
    show Steps p.tables e below (T10.setTop (mkF m 70 #[.val (.long qq1), .second, .val (.long qq2), .second, .val (.long qq3), .second, .val (.long qq4), .second, .val (.long qq5), .second, .val (.int pp6), .val (.long kk), .second, .val (.long ln), .second, .val (.long lg), .second, .val (.double dv), .second, .unset, .unset, .unset, .unset, .unset, .unset, .unset] [(.ref b9)])) _
    refine XS.astore X10.here hx rfl (hb hby at_70) rfl rfl (l' := #[.val (.long qq1), .second, .val (.long qq2), .second, .val (.long qq3), .second, .val (.long qq4), .second, .val (.long qq5), .second, .val (.int pp6), .val (.long kk), .second, .val (.long ln), .second, .val (.long lg), .second, .val (.double dv), .second, .val (.ref b9), .unset, .unset, .unset, .unset, .unset, .unset]) rfl ?_
    exact kt)
  by_cases hkz : kk = (0 : Int64)
  · skip
    have hc76 : kk = (0 : Int64) := hkz
    have E_13 : Exa Z T10.heap b9 "com/example/escapement/escapement/inference/Schedule" := (A9.keep K10c)
    obtain ⟨cq12, kq12, q12a, q12b, q12c⟩ := isOf hZ rfl E_13
    obtain ⟨_, _, ⟨T12, L12, k12, n12⟩, -, X12, ⟨Lc12, hQ12, l12, y12, z12⟩, st12⟩ := X10.virtualBack hx (y := (⟨"com/example/escapement/escapement/inference/Schedule", "checkpoints", "(J)Z"⟩ : MethodName)) (z := (⟨"com/example/escapement/escapement/inference/Schedule", "checkpoints", "(J)Z"⟩ : MethodName)) hown (mvT hZ (hw _ (List.mem_of_getElem? (i := 29) rfl))) (mvT hZ (hw _ (List.mem_of_getElem? (i := 30) rfl))) (notFace_of_selects (args := #[]) (mvT hZ (hw _ (List.mem_of_getElem? (i := 32) rfl)))) (mvT hZ (hw _ (List.mem_of_getElem? (i := 32) rfl))) (mvT hZ (hw _ (List.mem_of_getElem? (i := 31) rfl))) (by decide) (backOf (W := 0) (rm5 l Z a0 hw [] b9 (qq2 &&& (9223372036854775807 : Int64)) kk T10.heap n0 Z10 R10_3) hZ (hw _ (List.mem_of_getElem? (i := 33) rfl)) (hw _ (List.mem_of_getElem? (i := 8) rfl)) (by decide) (by decide)) q12a q12c (g := (mkF m 86 #[.val (.long qq1), .second, .val (.long qq2), .second, .val (.long qq3), .second, .val (.long qq4), .second, .val (.long qq5), .second, .val (.int pp6), .val (.long kk), .second, .val (.long ln), .second, .val (.long lg), .second, .val (.double dv), .second, .val (.ref b9), .unset, .unset, .unset, .unset, .unset, .unset] [(.long (qq2 &&& (9223372036854775807 : Int64))), (.ref b9)])) rfl (by rw [hml]; rfl) (Steps.refl _) (argsL := [(.long (qq2 &&& (9223372036854775807 : Int64)))]) (rest := []) (lenOf pd__28_J_29_Z rfl) rfl (by show 2 * 0 + _ ≤ _; exact Nat.le_of_eq rfl) (hb hby at_86) (fun _ _ => ⟨rfl, rfl, (by decide : 1 + 0 ≤ _), (by decide : 4 + 0 ≤ _)⟩)
    dsimp only [Pt.U, Pt.locs, Pt.cells, Pt.slots] at X12 l12 y12 z12 st12 hQ12
    subst l12 y12 z12
    obtain ⟨rfl, N12q, e12⟩ := hQ12
    have N12 := Fr.app N10 N12q
    have hc89 : (own_chk kk (qq2 &&& (9223372036854775807 : Int64))) = (0 : Int32) := own_chk0 _ hkz
    obtain ⟨fs, hr, hrun, hended, hW, hsame⟩ := X12.leave (v := some (.int (1 : Int32))) (fun h => by rw [Bd.returns] at h; cases h)
    refine ⟨_, _, pre11 _ ?_, hrun, hended, _, _, rfl, ?_, ⟨_, rfl⟩, hW, hsame.mono (by decide) (by decide)⟩
    · show Steps p.tables e below (T10.setTop (mkF m 72 #[.val (.long qq1), .second, .val (.long qq2), .second, .val (.long qq3), .second, .val (.long qq4), .second, .val (.long qq5), .second, .val (.int pp6), .val (.long kk), .second, .val (.long ln), .second, .val (.long lg), .second, .val (.double dv), .second, .val (.ref b9), .unset, .unset, .unset, .unset, .unset, .unset] [])) _
      refine XS.lload X10.here hx rfl (hb hby at_72) rfl ?_
      show Steps p.tables e below (T10.setTop (mkF m 74 #[.val (.long qq1), .second, .val (.long qq2), .second, .val (.long qq3), .second, .val (.long qq4), .second, .val (.long qq5), .second, .val (.int pp6), .val (.long kk), .second, .val (.long ln), .second, .val (.long lg), .second, .val (.double dv), .second, .val (.ref b9), .unset, .unset, .unset, .unset, .unset, .unset] [(.long kk)])) _
      refine XS.lconst X10.here hx rfl (hb hby at_74) ?_
      show Steps p.tables e below (T10.setTop (mkF m 75 #[.val (.long qq1), .second, .val (.long qq2), .second, .val (.long qq3), .second, .val (.long qq4), .second, .val (.long qq5), .second, .val (.int pp6), .val (.long kk), .second, .val (.long ln), .second, .val (.long lg), .second, .val (.double dv), .second, .val (.ref b9), .unset, .unset, .unset, .unset, .unset, .unset] [(.long (0 : Int64)), (.long kk)])) _
      refine XS.lcmp X10.here hx rfl (hb hby at_75) rfl ?_
      show Steps p.tables e below (T10.setTop (mkF m 76 #[.val (.long qq1), .second, .val (.long qq2), .second, .val (.long qq3), .second, .val (.long qq4), .second, .val (.long qq5), .second, .val (.int pp6), .val (.long kk), .second, .val (.long ln), .second, .val (.long lg), .second, .val (.double dv), .second, .val (.ref b9), .unset, .unset, .unset, .unset, .unset, .unset] [(.int (lcmpW kk (0 : Int64)))])) _
      refine XS.ifNo X10.here hx rfl (hb hby at_76) rfl ((if0 _ _).trans (teq ((lw_eq _ _).mpr hc76)).2) ?_
      show Steps p.tables e below (T10.setTop (mkF m 79 #[.val (.long qq1), .second, .val (.long qq2), .second, .val (.long qq3), .second, .val (.long qq4), .second, .val (.long qq5), .second, .val (.int pp6), .val (.long kk), .second, .val (.long ln), .second, .val (.long lg), .second, .val (.double dv), .second, .val (.ref b9), .unset, .unset, .unset, .unset, .unset, .unset] [])) _
      refine XS.aload X10.here hx rfl (hb hby at_79) rfl rfl ?_
      show Steps p.tables e below (T10.setTop (mkF m 81 #[.val (.long qq1), .second, .val (.long qq2), .second, .val (.long qq3), .second, .val (.long qq4), .second, .val (.long qq5), .second, .val (.int pp6), .val (.long kk), .second, .val (.long ln), .second, .val (.long lg), .second, .val (.double dv), .second, .val (.ref b9), .unset, .unset, .unset, .unset, .unset, .unset] [(.ref b9)])) _
      refine XS.lloadN X10.here hx rfl (hb hby at_81) rfl ?_
      show Steps p.tables e below (T10.setTop (mkF m 82 #[.val (.long qq1), .second, .val (.long qq2), .second, .val (.long qq3), .second, .val (.long qq4), .second, .val (.long qq5), .second, .val (.int pp6), .val (.long kk), .second, .val (.long ln), .second, .val (.long lg), .second, .val (.double dv), .second, .val (.ref b9), .unset, .unset, .unset, .unset, .unset, .unset] [(.long qq2), (.ref b9)])) _
      refine X10.ldc2Long hx hown (mvT hZ (hw _ (List.mem_of_getElem? (i := 0) rfl))) (g := (mkF m 82 #[.val (.long qq1), .second, .val (.long qq2), .second, .val (.long qq3), .second, .val (.long qq4), .second, .val (.long qq5), .second, .val (.int pp6), .val (.long kk), .second, .val (.long ln), .second, .val (.long lg), .second, .val (.double dv), .second, .val (.ref b9), .unset, .unset, .unset, .unset, .unset, .unset] [(.long qq2), (.ref b9)])) rfl (hb hby at_82) _ ?_
      show Steps p.tables e below (T10.setTop (mkF m 85 #[.val (.long qq1), .second, .val (.long qq2), .second, .val (.long qq3), .second, .val (.long qq4), .second, .val (.long qq5), .second, .val (.int pp6), .val (.long kk), .second, .val (.long ln), .second, .val (.long lg), .second, .val (.double dv), .second, .val (.ref b9), .unset, .unset, .unset, .unset, .unset, .unset] [(.long (9223372036854775807 : Int64)), (.long qq2), (.ref b9)])) _
      refine XS.land X10.here hx rfl (hb hby at_85) rfl ?_
      show Steps p.tables e below (T10.setTop (mkF m 86 #[.val (.long qq1), .second, .val (.long qq2), .second, .val (.long qq3), .second, .val (.long qq4), .second, .val (.long qq5), .second, .val (.int pp6), .val (.long kk), .second, .val (.long ln), .second, .val (.long lg), .second, .val (.double dv), .second, .val (.ref b9), .unset, .unset, .unset, .unset, .unset, .unset] [(.long (qq2 &&& (9223372036854775807 : Int64))), (.ref b9)])) _
      refine st12.trans ?_
      show Steps p.tables e below (T12.setTop (mkF m 89 #[.val (.long qq1), .second, .val (.long qq2), .second, .val (.long qq3), .second, .val (.long qq4), .second, .val (.long qq5), .second, .val (.int pp6), .val (.long kk), .second, .val (.long ln), .second, .val (.long lg), .second, .val (.double dv), .second, .val (.ref b9), .unset, .unset, .unset, .unset, .unset, .unset] [(.int (own_chk kk (qq2 &&& (9223372036854775807 : Int64))))])) _
      refine XS.ifNo X12.here hx rfl (hb hby at_89) rfl ((if0 _ _).trans (teq hc89).2) ?_
      show Steps p.tables e below (T12.setTop (mkF m 92 #[.val (.long qq1), .second, .val (.long qq2), .second, .val (.long qq3), .second, .val (.long qq4), .second, .val (.long qq5), .second, .val (.int pp6), .val (.long kk), .second, .val (.long ln), .second, .val (.long lg), .second, .val (.double dv), .second, .val (.ref b9), .unset, .unset, .unset, .unset, .unset, .unset] [])) _
      refine XS.iconst X12.here hx rfl (hb hby at_92) ?_
      show Steps p.tables e below (T12.setTop (mkF m 93 #[.val (.long qq1), .second, .val (.long qq2), .second, .val (.long qq3), .second, .val (.long qq4), .second, .val (.long qq5), .second, .val (.int pp6), .val (.long kk), .second, .val (.long ln), .second, .val (.long lg), .second, .val (.double dv), .second, .val (.ref b9), .unset, .unset, .unset, .unset, .unset, .unset] [(.int (1 : Int32))])) _
      refine XS.goto X12.here hx rfl (pc0 := 93) (pc' := 97) rfl (hb hby at_93) (by decide) (by decide) ?_
      show Steps p.tables e below (T12.setTop (mkF m 97 #[.val (.long qq1), .second, .val (.long qq2), .second, .val (.long qq3), .second, .val (.long qq4), .second, .val (.long qq5), .second, .val (.int pp6), .val (.long kk), .second, .val (.long ln), .second, .val (.long lg), .second, .val (.double dv), .second, .val (.ref b9), .unset, .unset, .unset, .unset, .unset, .unset] [(.int (1 : Int32))])) _
      exact retN X12 hx (t := .boolean) Bd.returns (by simp) (hb hby at_97) hr
    · show Q0 Z qq1 qq2 qq3 qq4 qq5 pp6 h0 n0 _ T12.heap _
      rw [e12]
      exact ⟨rfl, N12⟩
  · skip
    have hkp : 0 < kk.toInt := own_kpos h_kk hkz
    have hc76_2 : ¬ (kk = (0 : Int64)) := hkz
    have hc106 : kk ≠ (0 : Int64) := hkz
    have pre14 : ∀ t, Steps p.tables e below (T10.setTop (mkF m 109 #[.val (.long qq1), .second, .val (.long qq2), .second, .val (.long qq3), .second, .val (.long qq4), .second, .val (.long qq5), .second, .val (.int pp6), .val (.long kk), .second, .val (.long ln), .second, .val (.long lg), .second, .val (.double dv), .second, .val (.ref b9), .val (.long ((qq3 &&& (9223372036854775807 : Int64)) - ((qq3 &&& (9223372036854775807 : Int64)) / kk) * kk)), .second, .unset, .unset, .unset, .unset] [])) t → Steps p.tables e below (s₁.setTop (entryFrame m #[(.long qq1), (.long qq2), (.long qq3), (.long qq4), (.long qq5), (.int pp6)] maxLocals)) t := fun t kt => pre11 t (by
      show Steps p.tables e below (T10.setTop (mkF m 72 #[.val (.long qq1), .second, .val (.long qq2), .second, .val (.long qq3), .second, .val (.long qq4), .second, .val (.long qq5), .second, .val (.int pp6), .val (.long kk), .second, .val (.long ln), .second, .val (.long lg), .second, .val (.double dv), .second, .val (.ref b9), .unset, .unset, .unset, .unset, .unset, .unset] [])) _
      refine XS.lload X10.here hx rfl (hb hby at_72) rfl ?_
      show Steps p.tables e below (T10.setTop (mkF m 74 #[.val (.long qq1), .second, .val (.long qq2), .second, .val (.long qq3), .second, .val (.long qq4), .second, .val (.long qq5), .second, .val (.int pp6), .val (.long kk), .second, .val (.long ln), .second, .val (.long lg), .second, .val (.double dv), .second, .val (.ref b9), .unset, .unset, .unset, .unset, .unset, .unset] [(.long kk)])) _
      refine XS.lconst X10.here hx rfl (hb hby at_74) ?_
      show Steps p.tables e below (T10.setTop (mkF m 75 #[.val (.long qq1), .second, .val (.long qq2), .second, .val (.long qq3), .second, .val (.long qq4), .second, .val (.long qq5), .second, .val (.int pp6), .val (.long kk), .second, .val (.long ln), .second, .val (.long lg), .second, .val (.double dv), .second, .val (.ref b9), .unset, .unset, .unset, .unset, .unset, .unset] [(.long (0 : Int64)), (.long kk)])) _
      refine XS.lcmp X10.here hx rfl (hb hby at_75) rfl ?_
      show Steps p.tables e below (T10.setTop (mkF m 76 #[.val (.long qq1), .second, .val (.long qq2), .second, .val (.long qq3), .second, .val (.long qq4), .second, .val (.long qq5), .second, .val (.int pp6), .val (.long kk), .second, .val (.long ln), .second, .val (.long lg), .second, .val (.double dv), .second, .val (.ref b9), .unset, .unset, .unset, .unset, .unset, .unset] [(.int (lcmpW kk (0 : Int64)))])) _
      refine XS.ifYes X10.here hx rfl (pc0 := 76) (pc' := 98) rfl (hb hby at_76) rfl ((if0 _ _).trans (feq (mt (lw_eq _ _).mp hc76_2)).2) (by decide) (by decide) ?_
      show Steps p.tables e below (T10.setTop (mkF m 98 #[.val (.long qq1), .second, .val (.long qq2), .second, .val (.long qq3), .second, .val (.long qq4), .second, .val (.long qq5), .second, .val (.int pp6), .val (.long kk), .second, .val (.long ln), .second, .val (.long lg), .second, .val (.double dv), .second, .val (.ref b9), .unset, .unset, .unset, .unset, .unset, .unset] [])) _
      refine XS.lload X10.here hx rfl (hb hby at_98) rfl ?_
      show Steps p.tables e below (T10.setTop (mkF m 100 #[.val (.long qq1), .second, .val (.long qq2), .second, .val (.long qq3), .second, .val (.long qq4), .second, .val (.long qq5), .second, .val (.int pp6), .val (.long kk), .second, .val (.long ln), .second, .val (.long lg), .second, .val (.double dv), .second, .val (.ref b9), .unset, .unset, .unset, .unset, .unset, .unset] [(.long qq3)])) _
      refine X10.ldc2Long hx hown (mvT hZ (hw _ (List.mem_of_getElem? (i := 0) rfl))) (g := (mkF m 100 #[.val (.long qq1), .second, .val (.long qq2), .second, .val (.long qq3), .second, .val (.long qq4), .second, .val (.long qq5), .second, .val (.int pp6), .val (.long kk), .second, .val (.long ln), .second, .val (.long lg), .second, .val (.double dv), .second, .val (.ref b9), .unset, .unset, .unset, .unset, .unset, .unset] [(.long qq3)])) rfl (hb hby at_100) _ ?_
      show Steps p.tables e below (T10.setTop (mkF m 103 #[.val (.long qq1), .second, .val (.long qq2), .second, .val (.long qq3), .second, .val (.long qq4), .second, .val (.long qq5), .second, .val (.int pp6), .val (.long kk), .second, .val (.long ln), .second, .val (.long lg), .second, .val (.double dv), .second, .val (.ref b9), .unset, .unset, .unset, .unset, .unset, .unset] [(.long (9223372036854775807 : Int64)), (.long qq3)])) _
      refine XS.land X10.here hx rfl (hb hby at_103) rfl ?_
      show Steps p.tables e below (T10.setTop (mkF m 104 #[.val (.long qq1), .second, .val (.long qq2), .second, .val (.long qq3), .second, .val (.long qq4), .second, .val (.long qq5), .second, .val (.int pp6), .val (.long kk), .second, .val (.long ln), .second, .val (.long lg), .second, .val (.double dv), .second, .val (.ref b9), .unset, .unset, .unset, .unset, .unset, .unset] [(.long (qq3 &&& (9223372036854775807 : Int64)))])) _
      refine XS.lload X10.here hx rfl (hb hby at_104) rfl ?_
      show Steps p.tables e below (T10.setTop (mkF m 106 #[.val (.long qq1), .second, .val (.long qq2), .second, .val (.long qq3), .second, .val (.long qq4), .second, .val (.long qq5), .second, .val (.int pp6), .val (.long kk), .second, .val (.long ln), .second, .val (.long lg), .second, .val (.double dv), .second, .val (.ref b9), .unset, .unset, .unset, .unset, .unset, .unset] [(.long kk), (.long (qq3 &&& (9223372036854775807 : Int64)))])) _
      refine XS.lrem X10.here hx rfl (hb hby at_106) rfl hc106 ?_
      show Steps p.tables e below (T10.setTop (mkF m 107 #[.val (.long qq1), .second, .val (.long qq2), .second, .val (.long qq3), .second, .val (.long qq4), .second, .val (.long qq5), .second, .val (.int pp6), .val (.long kk), .second, .val (.long ln), .second, .val (.long lg), .second, .val (.double dv), .second, .val (.ref b9), .unset, .unset, .unset, .unset, .unset, .unset] [(.long ((qq3 &&& (9223372036854775807 : Int64)) - ((qq3 &&& (9223372036854775807 : Int64)) / kk) * kk))])) _
      refine XS.lstore X10.here hx rfl (hb hby at_107) rfl (l' := #[.val (.long qq1), .second, .val (.long qq2), .second, .val (.long qq3), .second, .val (.long qq4), .second, .val (.long qq5), .second, .val (.int pp6), .val (.long kk), .second, .val (.long ln), .second, .val (.long lg), .second, .val (.double dv), .second, .val (.ref b9), .val (.long ((qq3 &&& (9223372036854775807 : Int64)) - ((qq3 &&& (9223372036854775807 : Int64)) / kk) * kk)), .second, .unset, .unset, .unset, .unset]) rfl ?_
      exact kt)
    obtain ⟨rr, T15, L15, h_rr, X15, e15, N15, pre15⟩ : ∃ (rr : Int64) (T' : State) (L' : List Loc), (own_rd kk rr) ∧ Stand p l e room_1 s m #[(.long qq1), (.long qq2), (.long qq3), (.long qq4), (.long qq5), (.int pp6)] below meth c T' L' 1 4 ∧ T'.heap = T10.heap ∧ Fr n0 L' ∧ ∀ t, Steps p.tables e below (T'.setTop (mkF m 120 #[.val (.long qq1), .second, .val (.long qq2), .second, .val (.long qq3), .second, .val (.long qq4), .second, .val (.long qq5), .second, .val (.int pp6), .val (.long kk), .second, .val (.long ln), .second, .val (.long lg), .second, .val (.double dv), .second, .val (.ref b9), .val (.long rr), .second, .unset, .unset, .unset, .unset] [])) t → Steps p.tables e below (s₁.setTop (entryFrame m #[(.long qq1), (.long qq2), (.long qq3), (.long qq4), (.long qq5), (.int pp6)] maxLocals)) t := by
      have pre16 : ∀ t, Steps p.tables e below (T10.setTop (mkF m 114 #[.val (.long qq1), .second, .val (.long qq2), .second, .val (.long qq3), .second, .val (.long qq4), .second, .val (.long qq5), .second, .val (.int pp6), .val (.long kk), .second, .val (.long ln), .second, .val (.long lg), .second, .val (.double dv), .second, .val (.ref b9), .val (.long ((qq3 &&& (9223372036854775807 : Int64)) - ((qq3 &&& (9223372036854775807 : Int64)) / kk) * kk)), .second, .unset, .unset, .unset, .unset] [(.int (pp6 &&& (16 : Int32)))])) t → Steps p.tables e below (s₁.setTop (entryFrame m #[(.long qq1), (.long qq2), (.long qq3), (.long qq4), (.long qq5), (.int pp6)] maxLocals)) t := fun t kt => pre14 t (by
        show Steps p.tables e below (T10.setTop (mkF m 109 #[.val (.long qq1), .second, .val (.long qq2), .second, .val (.long qq3), .second, .val (.long qq4), .second, .val (.long qq5), .second, .val (.int pp6), .val (.long kk), .second, .val (.long ln), .second, .val (.long lg), .second, .val (.double dv), .second, .val (.ref b9), .val (.long ((qq3 &&& (9223372036854775807 : Int64)) - ((qq3 &&& (9223372036854775807 : Int64)) / kk) * kk)), .second, .unset, .unset, .unset, .unset] [])) _
        refine XS.iload X10.here hx rfl (hb hby at_109) rfl ?_
        show Steps p.tables e below (T10.setTop (mkF m 111 #[.val (.long qq1), .second, .val (.long qq2), .second, .val (.long qq3), .second, .val (.long qq4), .second, .val (.long qq5), .second, .val (.int pp6), .val (.long kk), .second, .val (.long ln), .second, .val (.long lg), .second, .val (.double dv), .second, .val (.ref b9), .val (.long ((qq3 &&& (9223372036854775807 : Int64)) - ((qq3 &&& (9223372036854775807 : Int64)) / kk) * kk)), .second, .unset, .unset, .unset, .unset] [(.int pp6)])) _
        refine XS.bipush X10.here hx rfl (hb hby at_111) ?_
        show Steps p.tables e below (T10.setTop (mkF m 113 #[.val (.long qq1), .second, .val (.long qq2), .second, .val (.long qq3), .second, .val (.long qq4), .second, .val (.long qq5), .second, .val (.int pp6), .val (.long kk), .second, .val (.long ln), .second, .val (.long lg), .second, .val (.double dv), .second, .val (.ref b9), .val (.long ((qq3 &&& (9223372036854775807 : Int64)) - ((qq3 &&& (9223372036854775807 : Int64)) / kk) * kk)), .second, .unset, .unset, .unset, .unset] [(.int (16 : Int32)), (.int pp6)])) _
        refine XS.iand X10.here hx rfl (hb hby at_113) rfl ?_
        exact kt)
      by_cases hc114 : (pp6 &&& (16 : Int32)) = (0 : Int32)
      · skip
        exact ⟨((qq3 &&& (9223372036854775807 : Int64)) - ((qq3 &&& (9223372036854775807 : Int64)) / kk) * kk), _, _, own_rem _ hkp, X10, rfl, N10, fun t kt => pre16 t (by
            show Steps p.tables e below (T10.setTop (mkF m 114 #[.val (.long qq1), .second, .val (.long qq2), .second, .val (.long qq3), .second, .val (.long qq4), .second, .val (.long qq5), .second, .val (.int pp6), .val (.long kk), .second, .val (.long ln), .second, .val (.long lg), .second, .val (.double dv), .second, .val (.ref b9), .val (.long ((qq3 &&& (9223372036854775807 : Int64)) - ((qq3 &&& (9223372036854775807 : Int64)) / kk) * kk)), .second, .unset, .unset, .unset, .unset] [(.int (pp6 &&& (16 : Int32)))])) _
            refine XS.ifYes X10.here hx rfl (pc0 := 114) (pc' := 120) rfl (hb hby at_114) rfl ((if0 _ _).trans (teq hc114).1) (by decide) (by decide) ?_
            exact kt)⟩
      · skip
        exact ⟨(0 : Int64), _, _, own_rz hkp, X10, rfl, N10, fun t kt => pre16 t (by
            show Steps p.tables e below (T10.setTop (mkF m 114 #[.val (.long qq1), .second, .val (.long qq2), .second, .val (.long qq3), .second, .val (.long qq4), .second, .val (.long qq5), .second, .val (.int pp6), .val (.long kk), .second, .val (.long ln), .second, .val (.long lg), .second, .val (.double dv), .second, .val (.ref b9), .val (.long ((qq3 &&& (9223372036854775807 : Int64)) - ((qq3 &&& (9223372036854775807 : Int64)) / kk) * kk)), .second, .unset, .unset, .unset, .unset] [(.int (pp6 &&& (16 : Int32)))])) _
            refine XS.ifNo X10.here hx rfl (hb hby at_114) rfl ((if0 _ _).trans (feq hc114).1) ?_
            show Steps p.tables e below (T10.setTop (mkF m 117 #[.val (.long qq1), .second, .val (.long qq2), .second, .val (.long qq3), .second, .val (.long qq4), .second, .val (.long qq5), .second, .val (.int pp6), .val (.long kk), .second, .val (.long ln), .second, .val (.long lg), .second, .val (.double dv), .second, .val (.ref b9), .val (.long ((qq3 &&& (9223372036854775807 : Int64)) - ((qq3 &&& (9223372036854775807 : Int64)) / kk) * kk)), .second, .unset, .unset, .unset, .unset] [])) _
            refine XS.lconst X10.here hx rfl (hb hby at_117) ?_
            show Steps p.tables e below (T10.setTop (mkF m 118 #[.val (.long qq1), .second, .val (.long qq2), .second, .val (.long qq3), .second, .val (.long qq4), .second, .val (.long qq5), .second, .val (.int pp6), .val (.long kk), .second, .val (.long ln), .second, .val (.long lg), .second, .val (.double dv), .second, .val (.ref b9), .val (.long ((qq3 &&& (9223372036854775807 : Int64)) - ((qq3 &&& (9223372036854775807 : Int64)) / kk) * kk)), .second, .unset, .unset, .unset, .unset] [(.long (0 : Int64))])) _
            refine XS.lstore X10.here hx rfl (hb hby at_118) rfl (l' := #[.val (.long qq1), .second, .val (.long qq2), .second, .val (.long qq3), .second, .val (.long qq4), .second, .val (.long qq5), .second, .val (.int pp6), .val (.long kk), .second, .val (.long ln), .second, .val (.long lg), .second, .val (.double dv), .second, .val (.ref b9), .val (.long (0 : Int64)), .second, .unset, .unset, .unset, .unset]) rfl ?_
            exact kt)⟩
    have pre17 : ∀ t, Steps p.tables e below (T15.setTop (mkF m 127 #[.val (.long qq1), .second, .val (.long qq2), .second, .val (.long qq3), .second, .val (.long qq4), .second, .val (.long qq5), .second, .val (.int pp6), .val (.long kk), .second, .val (.long ln), .second, .val (.long lg), .second, .val (.double dv), .second, .val (.ref b9), .val (.long rr), .second, .val (.long (qq2 &&& (2147483647 : Int64))), .second, .unset, .unset] [])) t → Steps p.tables e below (s₁.setTop (entryFrame m #[(.long qq1), (.long qq2), (.long qq3), (.long qq4), (.long qq5), (.int pp6)] maxLocals)) t := fun t kt => pre15 t (by
      show Steps p.tables e below (T15.setTop (mkF m 120 #[.val (.long qq1), .second, .val (.long qq2), .second, .val (.long qq3), .second, .val (.long qq4), .second, .val (.long qq5), .second, .val (.int pp6), .val (.long kk), .second, .val (.long ln), .second, .val (.long lg), .second, .val (.double dv), .second, .val (.ref b9), .val (.long rr), .second, .unset, .unset, .unset, .unset] [])) _
      refine XS.lloadN X15.here hx rfl (hb hby at_120) rfl ?_
      show Steps p.tables e below (T15.setTop (mkF m 121 #[.val (.long qq1), .second, .val (.long qq2), .second, .val (.long qq3), .second, .val (.long qq4), .second, .val (.long qq5), .second, .val (.int pp6), .val (.long kk), .second, .val (.long ln), .second, .val (.long lg), .second, .val (.double dv), .second, .val (.ref b9), .val (.long rr), .second, .unset, .unset, .unset, .unset] [(.long qq2)])) _
      refine X15.ldc2Long hx hown (mvT hZ (hw _ (List.mem_of_getElem? (i := 28) rfl))) (g := (mkF m 121 #[.val (.long qq1), .second, .val (.long qq2), .second, .val (.long qq3), .second, .val (.long qq4), .second, .val (.long qq5), .second, .val (.int pp6), .val (.long kk), .second, .val (.long ln), .second, .val (.long lg), .second, .val (.double dv), .second, .val (.ref b9), .val (.long rr), .second, .unset, .unset, .unset, .unset] [(.long qq2)])) rfl (hb hby at_121) _ ?_
      show Steps p.tables e below (T15.setTop (mkF m 124 #[.val (.long qq1), .second, .val (.long qq2), .second, .val (.long qq3), .second, .val (.long qq4), .second, .val (.long qq5), .second, .val (.int pp6), .val (.long kk), .second, .val (.long ln), .second, .val (.long lg), .second, .val (.double dv), .second, .val (.ref b9), .val (.long rr), .second, .unset, .unset, .unset, .unset] [(.long (2147483647 : Int64)), (.long qq2)])) _
      refine XS.land X15.here hx rfl (hb hby at_124) rfl ?_
      show Steps p.tables e below (T15.setTop (mkF m 125 #[.val (.long qq1), .second, .val (.long qq2), .second, .val (.long qq3), .second, .val (.long qq4), .second, .val (.long qq5), .second, .val (.int pp6), .val (.long kk), .second, .val (.long ln), .second, .val (.long lg), .second, .val (.double dv), .second, .val (.ref b9), .val (.long rr), .second, .unset, .unset, .unset, .unset] [(.long (qq2 &&& (2147483647 : Int64)))])) _
      refine XS.lstore X15.here hx rfl (hb hby at_125) rfl (l' := #[.val (.long qq1), .second, .val (.long qq2), .second, .val (.long qq3), .second, .val (.long qq4), .second, .val (.long qq5), .second, .val (.int pp6), .val (.long kk), .second, .val (.long ln), .second, .val (.long lg), .second, .val (.double dv), .second, .val (.ref b9), .val (.long rr), .second, .val (.long (qq2 &&& (2147483647 : Int64))), .second, .unset, .unset]) rfl ?_
      exact kt)
    obtain ⟨qv, h_qv, pre18⟩ : ∃ (qv : Int64), (0 ≤ qv.toInt ∧ qv.toInt < 2147483648) ∧ ∀ t, Steps p.tables e below (T15.setTop (mkF m 127 #[.val (.long qq1), .second, .val (.long qq2), .second, .val (.long qq3), .second, .val (.long qq4), .second, .val (.long qq5), .second, .val (.int pp6), .val (.long kk), .second, .val (.long ln), .second, .val (.long lg), .second, .val (.double dv), .second, .val (.ref b9), .val (.long rr), .second, .val (.long qv), .second, .unset, .unset] [])) t → Steps p.tables e below (s₁.setTop (entryFrame m #[(.long qq1), (.long qq2), (.long qq3), (.long qq4), (.long qq5), (.int pp6)] maxLocals)) t := ⟨(qq2 &&& (2147483647 : Int64)), own_q _, pre17⟩
    obtain ⟨sv, T19, L19, h_sv, X19, e19, N19, pre19⟩ : ∃ (sv : Int64) (T' : State) (L' : List Loc), (own_st kk rr sv) ∧ Stand p l e room_1 s m #[(.long qq1), (.long qq2), (.long qq3), (.long qq4), (.long qq5), (.int pp6)] below meth c T' L' 1 4 ∧ T'.heap = T10.heap ∧ Fr n0 L' ∧ ∀ t, Steps p.tables e below (T'.setTop (mkF m 184 #[.val (.long qq1), .second, .val (.long qq2), .second, .val (.long qq3), .second, .val (.long qq4), .second, .val (.long qq5), .second, .val (.int pp6), .val (.long kk), .second, .val (.long ln), .second, .val (.long lg), .second, .val (.double dv), .second, .val (.ref b9), .val (.long rr), .second, .val (.long qv), .second, .val (.long sv), .second] [])) t → Steps p.tables e below (s₁.setTop (entryFrame m #[(.long qq1), (.long qq2), (.long qq3), (.long qq4), (.long qq5), (.int pp6)] maxLocals)) t := by
      have pre20 : ∀ t, Steps p.tables e below (T15.setTop (mkF m 133 #[.val (.long qq1), .second, .val (.long qq2), .second, .val (.long qq3), .second, .val (.long qq4), .second, .val (.long qq5), .second, .val (.int pp6), .val (.long kk), .second, .val (.long ln), .second, .val (.long lg), .second, .val (.double dv), .second, .val (.ref b9), .val (.long rr), .second, .val (.long qv), .second, .unset, .unset] [(.int (lcmpW kk (2147483647 : Int64)))])) t → Steps p.tables e below (s₁.setTop (entryFrame m #[(.long qq1), (.long qq2), (.long qq3), (.long qq4), (.long qq5), (.int pp6)] maxLocals)) t := fun t kt => pre18 t (by
        show Steps p.tables e below (T15.setTop (mkF m 127 #[.val (.long qq1), .second, .val (.long qq2), .second, .val (.long qq3), .second, .val (.long qq4), .second, .val (.long qq5), .second, .val (.int pp6), .val (.long kk), .second, .val (.long ln), .second, .val (.long lg), .second, .val (.double dv), .second, .val (.ref b9), .val (.long rr), .second, .val (.long qv), .second, .unset, .unset] [])) _
        refine XS.lload X15.here hx rfl (hb hby at_127) rfl ?_
        show Steps p.tables e below (T15.setTop (mkF m 129 #[.val (.long qq1), .second, .val (.long qq2), .second, .val (.long qq3), .second, .val (.long qq4), .second, .val (.long qq5), .second, .val (.int pp6), .val (.long kk), .second, .val (.long ln), .second, .val (.long lg), .second, .val (.double dv), .second, .val (.ref b9), .val (.long rr), .second, .val (.long qv), .second, .unset, .unset] [(.long kk)])) _
        refine X15.ldc2Long hx hown (mvT hZ (hw _ (List.mem_of_getElem? (i := 28) rfl))) (g := (mkF m 129 #[.val (.long qq1), .second, .val (.long qq2), .second, .val (.long qq3), .second, .val (.long qq4), .second, .val (.long qq5), .second, .val (.int pp6), .val (.long kk), .second, .val (.long ln), .second, .val (.long lg), .second, .val (.double dv), .second, .val (.ref b9), .val (.long rr), .second, .val (.long qv), .second, .unset, .unset] [(.long kk)])) rfl (hb hby at_129) _ ?_
        show Steps p.tables e below (T15.setTop (mkF m 132 #[.val (.long qq1), .second, .val (.long qq2), .second, .val (.long qq3), .second, .val (.long qq4), .second, .val (.long qq5), .second, .val (.int pp6), .val (.long kk), .second, .val (.long ln), .second, .val (.long lg), .second, .val (.double dv), .second, .val (.ref b9), .val (.long rr), .second, .val (.long qv), .second, .unset, .unset] [(.long (2147483647 : Int64)), (.long kk)])) _
        refine XS.lcmp X15.here hx rfl (hb hby at_132) rfl ?_
        exact kt)
      by_cases hc133 : (2147483647 : Int64) < kk
      · skip
        have pre21 : ∀ t, Steps p.tables e below (T15.setTop (mkF m 155 #[.val (.long qq1), .second, .val (.long qq2), .second, .val (.long qq3), .second, .val (.long qq4), .second, .val (.long qq5), .second, .val (.int pp6), .val (.long kk), .second, .val (.long ln), .second, .val (.long lg), .second, .val (.double dv), .second, .val (.ref b9), .val (.long rr), .second, .val (.long qv), .second, .unset, .unset] [(.int (lcmpW (qv &&& (1 : Int64)) (0 : Int64)))])) t → Steps p.tables e below (s₁.setTop (entryFrame m #[(.long qq1), (.long qq2), (.long qq3), (.long qq4), (.long qq5), (.int pp6)] maxLocals)) t := fun t kt => pre20 t (by
          show Steps p.tables e below (T15.setTop (mkF m 133 #[.val (.long qq1), .second, .val (.long qq2), .second, .val (.long qq3), .second, .val (.long qq4), .second, .val (.long qq5), .second, .val (.int pp6), .val (.long kk), .second, .val (.long ln), .second, .val (.long lg), .second, .val (.double dv), .second, .val (.ref b9), .val (.long rr), .second, .val (.long qv), .second, .unset, .unset] [(.int (lcmpW kk (2147483647 : Int64)))])) _
          refine XS.ifYes X15.here hx rfl (pc0 := 133) (pc' := 149) rfl (hb hby at_133) rfl ((if0 _ _).trans (tlt ((lw_gt _ _).mpr hc133)).2.2.1) (by decide) (by decide) ?_
          show Steps p.tables e below (T15.setTop (mkF m 149 #[.val (.long qq1), .second, .val (.long qq2), .second, .val (.long qq3), .second, .val (.long qq4), .second, .val (.long qq5), .second, .val (.int pp6), .val (.long kk), .second, .val (.long ln), .second, .val (.long lg), .second, .val (.double dv), .second, .val (.ref b9), .val (.long rr), .second, .val (.long qv), .second, .unset, .unset] [])) _
          refine XS.lload X15.here hx rfl (hb hby at_149) rfl ?_
          show Steps p.tables e below (T15.setTop (mkF m 151 #[.val (.long qq1), .second, .val (.long qq2), .second, .val (.long qq3), .second, .val (.long qq4), .second, .val (.long qq5), .second, .val (.int pp6), .val (.long kk), .second, .val (.long ln), .second, .val (.long lg), .second, .val (.double dv), .second, .val (.ref b9), .val (.long rr), .second, .val (.long qv), .second, .unset, .unset] [(.long qv)])) _
          refine XS.lconst X15.here hx rfl (hb hby at_151) ?_
          show Steps p.tables e below (T15.setTop (mkF m 152 #[.val (.long qq1), .second, .val (.long qq2), .second, .val (.long qq3), .second, .val (.long qq4), .second, .val (.long qq5), .second, .val (.int pp6), .val (.long kk), .second, .val (.long ln), .second, .val (.long lg), .second, .val (.double dv), .second, .val (.ref b9), .val (.long rr), .second, .val (.long qv), .second, .unset, .unset] [(.long (1 : Int64)), (.long qv)])) _
          refine XS.land X15.here hx rfl (hb hby at_152) rfl ?_
          show Steps p.tables e below (T15.setTop (mkF m 153 #[.val (.long qq1), .second, .val (.long qq2), .second, .val (.long qq3), .second, .val (.long qq4), .second, .val (.long qq5), .second, .val (.int pp6), .val (.long kk), .second, .val (.long ln), .second, .val (.long lg), .second, .val (.double dv), .second, .val (.ref b9), .val (.long rr), .second, .val (.long qv), .second, .unset, .unset] [(.long (qv &&& (1 : Int64)))])) _
          refine XS.lconst X15.here hx rfl (hb hby at_153) ?_
          show Steps p.tables e below (T15.setTop (mkF m 154 #[.val (.long qq1), .second, .val (.long qq2), .second, .val (.long qq3), .second, .val (.long qq4), .second, .val (.long qq5), .second, .val (.int pp6), .val (.long kk), .second, .val (.long ln), .second, .val (.long lg), .second, .val (.double dv), .second, .val (.ref b9), .val (.long rr), .second, .val (.long qv), .second, .unset, .unset] [(.long (0 : Int64)), (.long (qv &&& (1 : Int64)))])) _
          refine XS.lcmp X15.here hx rfl (hb hby at_154) rfl ?_
          exact kt)
        by_cases hc155 : (qv &&& (1 : Int64)) = (0 : Int64)
        · skip
          exact ⟨rr, _, _, own_s3 h_rr, X15, e15, N15, fun t kt => pre21 t (by
              show Steps p.tables e below (T15.setTop (mkF m 155 #[.val (.long qq1), .second, .val (.long qq2), .second, .val (.long qq3), .second, .val (.long qq4), .second, .val (.long qq5), .second, .val (.int pp6), .val (.long kk), .second, .val (.long ln), .second, .val (.long lg), .second, .val (.double dv), .second, .val (.ref b9), .val (.long rr), .second, .val (.long qv), .second, .unset, .unset] [(.int (lcmpW (qv &&& (1 : Int64)) (0 : Int64)))])) _
              refine XS.ifYes X15.here hx rfl (pc0 := 155) (pc' := 180) rfl (hb hby at_155) rfl ((if0 _ _).trans (teq ((lw_eq _ _).mpr hc155)).1) (by decide) (by decide) ?_
              show Steps p.tables e below (T15.setTop (mkF m 180 #[.val (.long qq1), .second, .val (.long qq2), .second, .val (.long qq3), .second, .val (.long qq4), .second, .val (.long qq5), .second, .val (.int pp6), .val (.long kk), .second, .val (.long ln), .second, .val (.long lg), .second, .val (.double dv), .second, .val (.ref b9), .val (.long rr), .second, .val (.long qv), .second, .unset, .unset] [])) _
              refine XS.lload X15.here hx rfl (hb hby at_180) rfl ?_
              show Steps p.tables e below (T15.setTop (mkF m 182 #[.val (.long qq1), .second, .val (.long qq2), .second, .val (.long qq3), .second, .val (.long qq4), .second, .val (.long qq5), .second, .val (.int pp6), .val (.long kk), .second, .val (.long ln), .second, .val (.long lg), .second, .val (.double dv), .second, .val (.ref b9), .val (.long rr), .second, .val (.long qv), .second, .unset, .unset] [(.long rr)])) _
              refine XS.lstore X15.here hx rfl (hb hby at_182) rfl (l' := #[.val (.long qq1), .second, .val (.long qq2), .second, .val (.long qq3), .second, .val (.long qq4), .second, .val (.long qq5), .second, .val (.int pp6), .val (.long kk), .second, .val (.long ln), .second, .val (.long lg), .second, .val (.double dv), .second, .val (.ref b9), .val (.long rr), .second, .val (.long qv), .second, .val (.long rr), .second]) rfl ?_
              exact kt)⟩
        · skip
          have pre22 : ∀ t, Steps p.tables e below (T15.setTop (mkF m 167 #[.val (.long qq1), .second, .val (.long qq2), .second, .val (.long qq3), .second, .val (.long qq4), .second, .val (.long qq5), .second, .val (.int pp6), .val (.long kk), .second, .val (.long ln), .second, .val (.long lg), .second, .val (.double dv), .second, .val (.ref b9), .val (.long rr), .second, .val (.long qv), .second, .unset, .unset] [(.int (lcmpW rr ((9223372036854775807 : Int64) - kk)))])) t → Steps p.tables e below (s₁.setTop (entryFrame m #[(.long qq1), (.long qq2), (.long qq3), (.long qq4), (.long qq5), (.int pp6)] maxLocals)) t := fun t kt => pre21 t (by
            show Steps p.tables e below (T15.setTop (mkF m 155 #[.val (.long qq1), .second, .val (.long qq2), .second, .val (.long qq3), .second, .val (.long qq4), .second, .val (.long qq5), .second, .val (.int pp6), .val (.long kk), .second, .val (.long ln), .second, .val (.long lg), .second, .val (.double dv), .second, .val (.ref b9), .val (.long rr), .second, .val (.long qv), .second, .unset, .unset] [(.int (lcmpW (qv &&& (1 : Int64)) (0 : Int64)))])) _
            refine XS.ifNo X15.here hx rfl (hb hby at_155) rfl ((if0 _ _).trans (feq (mt (lw_eq _ _).mp hc155)).1) ?_
            show Steps p.tables e below (T15.setTop (mkF m 158 #[.val (.long qq1), .second, .val (.long qq2), .second, .val (.long qq3), .second, .val (.long qq4), .second, .val (.long qq5), .second, .val (.int pp6), .val (.long kk), .second, .val (.long ln), .second, .val (.long lg), .second, .val (.double dv), .second, .val (.ref b9), .val (.long rr), .second, .val (.long qv), .second, .unset, .unset] [])) _
            refine XS.lload X15.here hx rfl (hb hby at_158) rfl ?_
            show Steps p.tables e below (T15.setTop (mkF m 160 #[.val (.long qq1), .second, .val (.long qq2), .second, .val (.long qq3), .second, .val (.long qq4), .second, .val (.long qq5), .second, .val (.int pp6), .val (.long kk), .second, .val (.long ln), .second, .val (.long lg), .second, .val (.double dv), .second, .val (.ref b9), .val (.long rr), .second, .val (.long qv), .second, .unset, .unset] [(.long rr)])) _
            refine X15.ldc2Long hx hown (mvT hZ (hw _ (List.mem_of_getElem? (i := 0) rfl))) (g := (mkF m 160 #[.val (.long qq1), .second, .val (.long qq2), .second, .val (.long qq3), .second, .val (.long qq4), .second, .val (.long qq5), .second, .val (.int pp6), .val (.long kk), .second, .val (.long ln), .second, .val (.long lg), .second, .val (.double dv), .second, .val (.ref b9), .val (.long rr), .second, .val (.long qv), .second, .unset, .unset] [(.long rr)])) rfl (hb hby at_160) _ ?_
            show Steps p.tables e below (T15.setTop (mkF m 163 #[.val (.long qq1), .second, .val (.long qq2), .second, .val (.long qq3), .second, .val (.long qq4), .second, .val (.long qq5), .second, .val (.int pp6), .val (.long kk), .second, .val (.long ln), .second, .val (.long lg), .second, .val (.double dv), .second, .val (.ref b9), .val (.long rr), .second, .val (.long qv), .second, .unset, .unset] [(.long (9223372036854775807 : Int64)), (.long rr)])) _
            refine XS.lload X15.here hx rfl (hb hby at_163) rfl ?_
            show Steps p.tables e below (T15.setTop (mkF m 165 #[.val (.long qq1), .second, .val (.long qq2), .second, .val (.long qq3), .second, .val (.long qq4), .second, .val (.long qq5), .second, .val (.int pp6), .val (.long kk), .second, .val (.long ln), .second, .val (.long lg), .second, .val (.double dv), .second, .val (.ref b9), .val (.long rr), .second, .val (.long qv), .second, .unset, .unset] [(.long kk), (.long (9223372036854775807 : Int64)), (.long rr)])) _
            refine XS.lsub X15.here hx rfl (hb hby at_165) rfl ?_
            show Steps p.tables e below (T15.setTop (mkF m 166 #[.val (.long qq1), .second, .val (.long qq2), .second, .val (.long qq3), .second, .val (.long qq4), .second, .val (.long qq5), .second, .val (.int pp6), .val (.long kk), .second, .val (.long ln), .second, .val (.long lg), .second, .val (.double dv), .second, .val (.ref b9), .val (.long rr), .second, .val (.long qv), .second, .unset, .unset] [(.long ((9223372036854775807 : Int64) - kk)), (.long rr)])) _
            refine XS.lcmp X15.here hx rfl (hb hby at_166) rfl ?_
            exact kt)
          by_cases hc167 : ((9223372036854775807 : Int64) - kk) < rr
          · skip
            exact ⟨rr, _, _, own_s3 h_rr, X15, e15, N15, fun t kt => pre22 t (by
                show Steps p.tables e below (T15.setTop (mkF m 167 #[.val (.long qq1), .second, .val (.long qq2), .second, .val (.long qq3), .second, .val (.long qq4), .second, .val (.long qq5), .second, .val (.int pp6), .val (.long kk), .second, .val (.long ln), .second, .val (.long lg), .second, .val (.double dv), .second, .val (.ref b9), .val (.long rr), .second, .val (.long qv), .second, .unset, .unset] [(.int (lcmpW rr ((9223372036854775807 : Int64) - kk)))])) _
                refine XS.ifYes X15.here hx rfl (pc0 := 167) (pc' := 180) rfl (hb hby at_167) rfl ((if0 _ _).trans (tlt ((lw_gt _ _).mpr hc167)).2.2.1) (by decide) (by decide) ?_
                show Steps p.tables e below (T15.setTop (mkF m 180 #[.val (.long qq1), .second, .val (.long qq2), .second, .val (.long qq3), .second, .val (.long qq4), .second, .val (.long qq5), .second, .val (.int pp6), .val (.long kk), .second, .val (.long ln), .second, .val (.long lg), .second, .val (.double dv), .second, .val (.ref b9), .val (.long rr), .second, .val (.long qv), .second, .unset, .unset] [])) _
                refine XS.lload X15.here hx rfl (hb hby at_180) rfl ?_
                show Steps p.tables e below (T15.setTop (mkF m 182 #[.val (.long qq1), .second, .val (.long qq2), .second, .val (.long qq3), .second, .val (.long qq4), .second, .val (.long qq5), .second, .val (.int pp6), .val (.long kk), .second, .val (.long ln), .second, .val (.long lg), .second, .val (.double dv), .second, .val (.ref b9), .val (.long rr), .second, .val (.long qv), .second, .unset, .unset] [(.long rr)])) _
                refine XS.lstore X15.here hx rfl (hb hby at_182) rfl (l' := #[.val (.long qq1), .second, .val (.long qq2), .second, .val (.long qq3), .second, .val (.long qq4), .second, .val (.long qq5), .second, .val (.int pp6), .val (.long kk), .second, .val (.long ln), .second, .val (.long lg), .second, .val (.double dv), .second, .val (.ref b9), .val (.long rr), .second, .val (.long qv), .second, .val (.long rr), .second]) rfl ?_
                exact kt)⟩
          · skip
            exact ⟨(kk + rr), _, _, own_s2 hkp h_rr hc167, X15, e15, N15, fun t kt => pre22 t (by
                show Steps p.tables e below (T15.setTop (mkF m 167 #[.val (.long qq1), .second, .val (.long qq2), .second, .val (.long qq3), .second, .val (.long qq4), .second, .val (.long qq5), .second, .val (.int pp6), .val (.long kk), .second, .val (.long ln), .second, .val (.long lg), .second, .val (.double dv), .second, .val (.ref b9), .val (.long rr), .second, .val (.long qv), .second, .unset, .unset] [(.int (lcmpW rr ((9223372036854775807 : Int64) - kk)))])) _
                refine XS.ifNo X15.here hx rfl (hb hby at_167) rfl ((if0 _ _).trans (flt (mt (lw_gt _ _).mp hc167)).2.2.1) ?_
                show Steps p.tables e below (T15.setTop (mkF m 170 #[.val (.long qq1), .second, .val (.long qq2), .second, .val (.long qq3), .second, .val (.long qq4), .second, .val (.long qq5), .second, .val (.int pp6), .val (.long kk), .second, .val (.long ln), .second, .val (.long lg), .second, .val (.double dv), .second, .val (.ref b9), .val (.long rr), .second, .val (.long qv), .second, .unset, .unset] [])) _
                refine XS.lload X15.here hx rfl (hb hby at_170) rfl ?_
                show Steps p.tables e below (T15.setTop (mkF m 172 #[.val (.long qq1), .second, .val (.long qq2), .second, .val (.long qq3), .second, .val (.long qq4), .second, .val (.long qq5), .second, .val (.int pp6), .val (.long kk), .second, .val (.long ln), .second, .val (.long lg), .second, .val (.double dv), .second, .val (.ref b9), .val (.long rr), .second, .val (.long qv), .second, .unset, .unset] [(.long kk)])) _
                refine XS.lload X15.here hx rfl (hb hby at_172) rfl ?_
                show Steps p.tables e below (T15.setTop (mkF m 174 #[.val (.long qq1), .second, .val (.long qq2), .second, .val (.long qq3), .second, .val (.long qq4), .second, .val (.long qq5), .second, .val (.int pp6), .val (.long kk), .second, .val (.long ln), .second, .val (.long lg), .second, .val (.double dv), .second, .val (.ref b9), .val (.long rr), .second, .val (.long qv), .second, .unset, .unset] [(.long rr), (.long kk)])) _
                refine XS.ladd X15.here hx rfl (hb hby at_174) rfl ?_
                show Steps p.tables e below (T15.setTop (mkF m 175 #[.val (.long qq1), .second, .val (.long qq2), .second, .val (.long qq3), .second, .val (.long qq4), .second, .val (.long qq5), .second, .val (.int pp6), .val (.long kk), .second, .val (.long ln), .second, .val (.long lg), .second, .val (.double dv), .second, .val (.ref b9), .val (.long rr), .second, .val (.long qv), .second, .unset, .unset] [(.long (kk + rr))])) _
                refine XS.lstore X15.here hx rfl (hb hby at_175) rfl (l' := #[.val (.long qq1), .second, .val (.long qq2), .second, .val (.long qq3), .second, .val (.long qq4), .second, .val (.long qq5), .second, .val (.int pp6), .val (.long kk), .second, .val (.long ln), .second, .val (.long lg), .second, .val (.double dv), .second, .val (.ref b9), .val (.long rr), .second, .val (.long qv), .second, .val (.long (kk + rr)), .second]) rfl ?_
                show Steps p.tables e below (T15.setTop (mkF m 177 #[.val (.long qq1), .second, .val (.long qq2), .second, .val (.long qq3), .second, .val (.long qq4), .second, .val (.long qq5), .second, .val (.int pp6), .val (.long kk), .second, .val (.long ln), .second, .val (.long lg), .second, .val (.double dv), .second, .val (.ref b9), .val (.long rr), .second, .val (.long qv), .second, .val (.long (kk + rr)), .second] [])) _
                refine XS.goto X15.here hx rfl (pc0 := 177) (pc' := 184) rfl (hb hby at_177) (by decide) (by decide) ?_
                exact kt)⟩
      · skip
        exact ⟨((qv * kk) + rr), _, _, own_s1 hkp h_rr h_qv hc133, X15, e15, N15, fun t kt => pre20 t (by
            show Steps p.tables e below (T15.setTop (mkF m 133 #[.val (.long qq1), .second, .val (.long qq2), .second, .val (.long qq3), .second, .val (.long qq4), .second, .val (.long qq5), .second, .val (.int pp6), .val (.long kk), .second, .val (.long ln), .second, .val (.long lg), .second, .val (.double dv), .second, .val (.ref b9), .val (.long rr), .second, .val (.long qv), .second, .unset, .unset] [(.int (lcmpW kk (2147483647 : Int64)))])) _
            refine XS.ifNo X15.here hx rfl (hb hby at_133) rfl ((if0 _ _).trans (flt (mt (lw_gt _ _).mp hc133)).2.2.1) ?_
            show Steps p.tables e below (T15.setTop (mkF m 136 #[.val (.long qq1), .second, .val (.long qq2), .second, .val (.long qq3), .second, .val (.long qq4), .second, .val (.long qq5), .second, .val (.int pp6), .val (.long kk), .second, .val (.long ln), .second, .val (.long lg), .second, .val (.double dv), .second, .val (.ref b9), .val (.long rr), .second, .val (.long qv), .second, .unset, .unset] [])) _
            refine XS.lload X15.here hx rfl (hb hby at_136) rfl ?_
            show Steps p.tables e below (T15.setTop (mkF m 138 #[.val (.long qq1), .second, .val (.long qq2), .second, .val (.long qq3), .second, .val (.long qq4), .second, .val (.long qq5), .second, .val (.int pp6), .val (.long kk), .second, .val (.long ln), .second, .val (.long lg), .second, .val (.double dv), .second, .val (.ref b9), .val (.long rr), .second, .val (.long qv), .second, .unset, .unset] [(.long qv)])) _
            refine XS.lload X15.here hx rfl (hb hby at_138) rfl ?_
            show Steps p.tables e below (T15.setTop (mkF m 140 #[.val (.long qq1), .second, .val (.long qq2), .second, .val (.long qq3), .second, .val (.long qq4), .second, .val (.long qq5), .second, .val (.int pp6), .val (.long kk), .second, .val (.long ln), .second, .val (.long lg), .second, .val (.double dv), .second, .val (.ref b9), .val (.long rr), .second, .val (.long qv), .second, .unset, .unset] [(.long kk), (.long qv)])) _
            refine XS.lmul X15.here hx rfl (hb hby at_140) rfl ?_
            show Steps p.tables e below (T15.setTop (mkF m 141 #[.val (.long qq1), .second, .val (.long qq2), .second, .val (.long qq3), .second, .val (.long qq4), .second, .val (.long qq5), .second, .val (.int pp6), .val (.long kk), .second, .val (.long ln), .second, .val (.long lg), .second, .val (.double dv), .second, .val (.ref b9), .val (.long rr), .second, .val (.long qv), .second, .unset, .unset] [(.long (qv * kk))])) _
            refine XS.lload X15.here hx rfl (hb hby at_141) rfl ?_
            show Steps p.tables e below (T15.setTop (mkF m 143 #[.val (.long qq1), .second, .val (.long qq2), .second, .val (.long qq3), .second, .val (.long qq4), .second, .val (.long qq5), .second, .val (.int pp6), .val (.long kk), .second, .val (.long ln), .second, .val (.long lg), .second, .val (.double dv), .second, .val (.ref b9), .val (.long rr), .second, .val (.long qv), .second, .unset, .unset] [(.long rr), (.long (qv * kk))])) _
            refine XS.ladd X15.here hx rfl (hb hby at_143) rfl ?_
            show Steps p.tables e below (T15.setTop (mkF m 144 #[.val (.long qq1), .second, .val (.long qq2), .second, .val (.long qq3), .second, .val (.long qq4), .second, .val (.long qq5), .second, .val (.int pp6), .val (.long kk), .second, .val (.long ln), .second, .val (.long lg), .second, .val (.double dv), .second, .val (.ref b9), .val (.long rr), .second, .val (.long qv), .second, .unset, .unset] [(.long ((qv * kk) + rr))])) _
            refine XS.lstore X15.here hx rfl (hb hby at_144) rfl (l' := #[.val (.long qq1), .second, .val (.long qq2), .second, .val (.long qq3), .second, .val (.long qq4), .second, .val (.long qq5), .second, .val (.int pp6), .val (.long kk), .second, .val (.long ln), .second, .val (.long lg), .second, .val (.double dv), .second, .val (.ref b9), .val (.long rr), .second, .val (.long qv), .second, .val (.long ((qv * kk) + rr)), .second]) rfl ?_
            show Steps p.tables e below (T15.setTop (mkF m 146 #[.val (.long qq1), .second, .val (.long qq2), .second, .val (.long qq3), .second, .val (.long qq4), .second, .val (.long qq5), .second, .val (.int pp6), .val (.long kk), .second, .val (.long ln), .second, .val (.long lg), .second, .val (.double dv), .second, .val (.ref b9), .val (.long rr), .second, .val (.long qv), .second, .val (.long ((qv * kk) + rr)), .second] [])) _
            refine XS.goto X15.here hx rfl (pc0 := 146) (pc' := 184) rfl (hb hby at_146) (by decide) (by decide) ?_
            exact kt)⟩
    have E_24 : Exa Z T10.heap b9 "com/example/escapement/escapement/inference/Schedule" := (A9.keep K10c)
    obtain ⟨cq23, kq23, q23a, q23b, q23c⟩ := isOf hZ e19 E_24
    obtain ⟨_, _, ⟨T23, L23, k23, n23⟩, -, X23, ⟨Lc23, hQ23, l23, y23, z23⟩, st23⟩ := X19.virtualBack hx (y := (⟨"com/example/escapement/escapement/inference/Schedule", "checkpoints", "(J)Z"⟩ : MethodName)) (z := (⟨"com/example/escapement/escapement/inference/Schedule", "checkpoints", "(J)Z"⟩ : MethodName)) hown (mvT hZ (hw _ (List.mem_of_getElem? (i := 29) rfl))) (mvT hZ (hw _ (List.mem_of_getElem? (i := 30) rfl))) (notFace_of_selects (args := #[]) (mvT hZ (hw _ (List.mem_of_getElem? (i := 32) rfl)))) (mvT hZ (hw _ (List.mem_of_getElem? (i := 32) rfl))) (mvT hZ (hw _ (List.mem_of_getElem? (i := 31) rfl))) (by decide) (backOf (W := 0) (rm5 l Z a0 hw [] b9 sv kk T10.heap n0 Z10 R10_3) hZ (hw _ (List.mem_of_getElem? (i := 33) rfl)) (hw _ (List.mem_of_getElem? (i := 8) rfl)) (by decide) (by decide)) q23a q23c (g := (mkF m 188 #[.val (.long qq1), .second, .val (.long qq2), .second, .val (.long qq3), .second, .val (.long qq4), .second, .val (.long qq5), .second, .val (.int pp6), .val (.long kk), .second, .val (.long ln), .second, .val (.long lg), .second, .val (.double dv), .second, .val (.ref b9), .val (.long rr), .second, .val (.long qv), .second, .val (.long sv), .second] [(.long sv), (.ref b9)])) rfl (by rw [hml]; rfl) (Steps.refl _) (argsL := [(.long sv)]) (rest := []) (lenOf pd__28_J_29_Z rfl) rfl (by show 2 * 0 + _ ≤ _; exact Nat.le_of_eq rfl) (hb hby at_188) (fun _ _ => ⟨rfl, e19, (by decide : 1 + 0 ≤ _), (by decide : 4 + 0 ≤ _)⟩)
    dsimp only [Pt.U, Pt.locs, Pt.cells, Pt.slots] at X23 l23 y23 z23 st23 hQ23
    subst l23 y23 z23
    obtain ⟨rfl, N23q, e23⟩ := hQ23
    have N23 := Fr.app N19 N23q
    have pre25 : ∀ t, Steps p.tables e below (T23.setTop (mkF m 195 #[.val (.long qq1), .second, .val (.long qq2), .second, .val (.long qq3), .second, .val (.long qq4), .second, .val (.long qq5), .second, .val (.int pp6), .val (.long kk), .second, .val (.long ln), .second, .val (.long lg), .second, .val (.double dv), .second, .val (.ref b9), .val (.long rr), .second, .val (.long qv), .second, .val (.long sv), .second] [(.int (lcmpW rr (0 : Int64))), (.int (own_chk kk sv))])) t → Steps p.tables e below (s₁.setTop (entryFrame m #[(.long qq1), (.long qq2), (.long qq3), (.long qq4), (.long qq5), (.int pp6)] maxLocals)) t := fun t kt => pre19 t (by
      show Steps p.tables e below (T19.setTop (mkF m 184 #[.val (.long qq1), .second, .val (.long qq2), .second, .val (.long qq3), .second, .val (.long qq4), .second, .val (.long qq5), .second, .val (.int pp6), .val (.long kk), .second, .val (.long ln), .second, .val (.long lg), .second, .val (.double dv), .second, .val (.ref b9), .val (.long rr), .second, .val (.long qv), .second, .val (.long sv), .second] [])) _
      refine XS.aload X19.here hx rfl (hb hby at_184) rfl rfl ?_
      show Steps p.tables e below (T19.setTop (mkF m 186 #[.val (.long qq1), .second, .val (.long qq2), .second, .val (.long qq3), .second, .val (.long qq4), .second, .val (.long qq5), .second, .val (.int pp6), .val (.long kk), .second, .val (.long ln), .second, .val (.long lg), .second, .val (.double dv), .second, .val (.ref b9), .val (.long rr), .second, .val (.long qv), .second, .val (.long sv), .second] [(.ref b9)])) _
      refine XS.lload X19.here hx rfl (hb hby at_186) rfl ?_
      show Steps p.tables e below (T19.setTop (mkF m 188 #[.val (.long qq1), .second, .val (.long qq2), .second, .val (.long qq3), .second, .val (.long qq4), .second, .val (.long qq5), .second, .val (.int pp6), .val (.long kk), .second, .val (.long ln), .second, .val (.long lg), .second, .val (.double dv), .second, .val (.ref b9), .val (.long rr), .second, .val (.long qv), .second, .val (.long sv), .second] [(.long sv), (.ref b9)])) _
      refine st23.trans ?_
      show Steps p.tables e below (T23.setTop (mkF m 191 #[.val (.long qq1), .second, .val (.long qq2), .second, .val (.long qq3), .second, .val (.long qq4), .second, .val (.long qq5), .second, .val (.int pp6), .val (.long kk), .second, .val (.long ln), .second, .val (.long lg), .second, .val (.double dv), .second, .val (.ref b9), .val (.long rr), .second, .val (.long qv), .second, .val (.long sv), .second] [(.int (own_chk kk sv))])) _
      refine XS.lload X23.here hx rfl (hb hby at_191) rfl ?_
      show Steps p.tables e below (T23.setTop (mkF m 193 #[.val (.long qq1), .second, .val (.long qq2), .second, .val (.long qq3), .second, .val (.long qq4), .second, .val (.long qq5), .second, .val (.int pp6), .val (.long kk), .second, .val (.long ln), .second, .val (.long lg), .second, .val (.double dv), .second, .val (.ref b9), .val (.long rr), .second, .val (.long qv), .second, .val (.long sv), .second] [(.long rr), (.int (own_chk kk sv))])) _
      refine XS.lconst X23.here hx rfl (hb hby at_193) ?_
      show Steps p.tables e below (T23.setTop (mkF m 194 #[.val (.long qq1), .second, .val (.long qq2), .second, .val (.long qq3), .second, .val (.long qq4), .second, .val (.long qq5), .second, .val (.int pp6), .val (.long kk), .second, .val (.long ln), .second, .val (.long lg), .second, .val (.double dv), .second, .val (.ref b9), .val (.long rr), .second, .val (.long qv), .second, .val (.long sv), .second] [(.long (0 : Int64)), (.long rr), (.int (own_chk kk sv))])) _
      refine XS.lcmp X23.here hx rfl (hb hby at_194) rfl ?_
      exact kt)
    by_cases hc195 : rr = (0 : Int64)
    · skip
      have hc203 : (own_chk kk sv) = (1 : Int32) := (by rw [own_chkv hkp h_sv, if_pos hc195])
      obtain ⟨fs, hr, hrun, hended, hW, hsame⟩ := X23.leave (v := some (.int (1 : Int32))) (fun h => by rw [Bd.returns] at h; cases h)
      refine ⟨_, _, pre25 _ ?_, hrun, hended, _, _, rfl, ?_, ⟨_, rfl⟩, hW, hsame.mono (by decide) (by decide)⟩
      · show Steps p.tables e below (T23.setTop (mkF m 195 #[.val (.long qq1), .second, .val (.long qq2), .second, .val (.long qq3), .second, .val (.long qq4), .second, .val (.long qq5), .second, .val (.int pp6), .val (.long kk), .second, .val (.long ln), .second, .val (.long lg), .second, .val (.double dv), .second, .val (.ref b9), .val (.long rr), .second, .val (.long qv), .second, .val (.long sv), .second] [(.int (lcmpW rr (0 : Int64))), (.int (own_chk kk sv))])) _
        refine XS.ifNo X23.here hx rfl (hb hby at_195) rfl ((if0 _ _).trans (teq ((lw_eq _ _).mpr hc195)).2) ?_
        show Steps p.tables e below (T23.setTop (mkF m 198 #[.val (.long qq1), .second, .val (.long qq2), .second, .val (.long qq3), .second, .val (.long qq4), .second, .val (.long qq5), .second, .val (.int pp6), .val (.long kk), .second, .val (.long ln), .second, .val (.long lg), .second, .val (.double dv), .second, .val (.ref b9), .val (.long rr), .second, .val (.long qv), .second, .val (.long sv), .second] [(.int (own_chk kk sv))])) _
        refine XS.iconst X23.here hx rfl (hb hby at_198) ?_
        show Steps p.tables e below (T23.setTop (mkF m 199 #[.val (.long qq1), .second, .val (.long qq2), .second, .val (.long qq3), .second, .val (.long qq4), .second, .val (.long qq5), .second, .val (.int pp6), .val (.long kk), .second, .val (.long ln), .second, .val (.long lg), .second, .val (.double dv), .second, .val (.ref b9), .val (.long rr), .second, .val (.long qv), .second, .val (.long sv), .second] [(.int (1 : Int32)), (.int (own_chk kk sv))])) _
        refine XS.goto X23.here hx rfl (pc0 := 199) (pc' := 203) rfl (hb hby at_199) (by decide) (by decide) ?_
        show Steps p.tables e below (T23.setTop (mkF m 203 #[.val (.long qq1), .second, .val (.long qq2), .second, .val (.long qq3), .second, .val (.long qq4), .second, .val (.long qq5), .second, .val (.int pp6), .val (.long kk), .second, .val (.long ln), .second, .val (.long lg), .second, .val (.double dv), .second, .val (.ref b9), .val (.long rr), .second, .val (.long qv), .second, .val (.long sv), .second] [(.int (1 : Int32)), (.int (own_chk kk sv))])) _
        refine XS.icmpNo X23.here hx rfl (hb hby at_203) rfl (teq hc203).2 ?_
        show Steps p.tables e below (T23.setTop (mkF m 206 #[.val (.long qq1), .second, .val (.long qq2), .second, .val (.long qq3), .second, .val (.long qq4), .second, .val (.long qq5), .second, .val (.int pp6), .val (.long kk), .second, .val (.long ln), .second, .val (.long lg), .second, .val (.double dv), .second, .val (.ref b9), .val (.long rr), .second, .val (.long qv), .second, .val (.long sv), .second] [])) _
        refine XS.iconst X23.here hx rfl (hb hby at_206) ?_
        show Steps p.tables e below (T23.setTop (mkF m 207 #[.val (.long qq1), .second, .val (.long qq2), .second, .val (.long qq3), .second, .val (.long qq4), .second, .val (.long qq5), .second, .val (.int pp6), .val (.long kk), .second, .val (.long ln), .second, .val (.long lg), .second, .val (.double dv), .second, .val (.ref b9), .val (.long rr), .second, .val (.long qv), .second, .val (.long sv), .second] [(.int (1 : Int32))])) _
        refine XS.goto X23.here hx rfl (pc0 := 207) (pc' := 211) rfl (hb hby at_207) (by decide) (by decide) ?_
        show Steps p.tables e below (T23.setTop (mkF m 211 #[.val (.long qq1), .second, .val (.long qq2), .second, .val (.long qq3), .second, .val (.long qq4), .second, .val (.long qq5), .second, .val (.int pp6), .val (.long kk), .second, .val (.long ln), .second, .val (.long lg), .second, .val (.double dv), .second, .val (.ref b9), .val (.long rr), .second, .val (.long qv), .second, .val (.long sv), .second] [(.int (1 : Int32))])) _
        exact retN X23 hx (t := .boolean) Bd.returns (by simp) (hb hby at_211) hr
      · show Q0 Z qq1 qq2 qq3 qq4 qq5 pp6 h0 n0 _ T23.heap _
        rw [e23]
        exact ⟨rfl, N23⟩
    · skip
      have hc203_2 : (own_chk kk sv) = (0 : Int32) := (by rw [own_chkv hkp h_sv, if_neg hc195])
      obtain ⟨fs, hr, hrun, hended, hW, hsame⟩ := X23.leave (v := some (.int (1 : Int32))) (fun h => by rw [Bd.returns] at h; cases h)
      refine ⟨_, _, pre25 _ ?_, hrun, hended, _, _, rfl, ?_, ⟨_, rfl⟩, hW, hsame.mono (by decide) (by decide)⟩
      · show Steps p.tables e below (T23.setTop (mkF m 195 #[.val (.long qq1), .second, .val (.long qq2), .second, .val (.long qq3), .second, .val (.long qq4), .second, .val (.long qq5), .second, .val (.int pp6), .val (.long kk), .second, .val (.long ln), .second, .val (.long lg), .second, .val (.double dv), .second, .val (.ref b9), .val (.long rr), .second, .val (.long qv), .second, .val (.long sv), .second] [(.int (lcmpW rr (0 : Int64))), (.int (own_chk kk sv))])) _
        refine XS.ifYes X23.here hx rfl (pc0 := 195) (pc' := 202) rfl (hb hby at_195) rfl ((if0 _ _).trans (feq (mt (lw_eq _ _).mp hc195)).2) (by decide) (by decide) ?_
        show Steps p.tables e below (T23.setTop (mkF m 202 #[.val (.long qq1), .second, .val (.long qq2), .second, .val (.long qq3), .second, .val (.long qq4), .second, .val (.long qq5), .second, .val (.int pp6), .val (.long kk), .second, .val (.long ln), .second, .val (.long lg), .second, .val (.double dv), .second, .val (.ref b9), .val (.long rr), .second, .val (.long qv), .second, .val (.long sv), .second] [(.int (own_chk kk sv))])) _
        refine XS.iconst X23.here hx rfl (hb hby at_202) ?_
        show Steps p.tables e below (T23.setTop (mkF m 203 #[.val (.long qq1), .second, .val (.long qq2), .second, .val (.long qq3), .second, .val (.long qq4), .second, .val (.long qq5), .second, .val (.int pp6), .val (.long kk), .second, .val (.long ln), .second, .val (.long lg), .second, .val (.double dv), .second, .val (.ref b9), .val (.long rr), .second, .val (.long qv), .second, .val (.long sv), .second] [(.int (0 : Int32)), (.int (own_chk kk sv))])) _
        refine XS.icmpNo X23.here hx rfl (hb hby at_203) rfl (teq hc203_2).2 ?_
        show Steps p.tables e below (T23.setTop (mkF m 206 #[.val (.long qq1), .second, .val (.long qq2), .second, .val (.long qq3), .second, .val (.long qq4), .second, .val (.long qq5), .second, .val (.int pp6), .val (.long kk), .second, .val (.long ln), .second, .val (.long lg), .second, .val (.double dv), .second, .val (.ref b9), .val (.long rr), .second, .val (.long qv), .second, .val (.long sv), .second] [])) _
        refine XS.iconst X23.here hx rfl (hb hby at_206) ?_
        show Steps p.tables e below (T23.setTop (mkF m 207 #[.val (.long qq1), .second, .val (.long qq2), .second, .val (.long qq3), .second, .val (.long qq4), .second, .val (.long qq5), .second, .val (.int pp6), .val (.long kk), .second, .val (.long ln), .second, .val (.long lg), .second, .val (.double dv), .second, .val (.ref b9), .val (.long rr), .second, .val (.long qv), .second, .val (.long sv), .second] [(.int (1 : Int32))])) _
        refine XS.goto X23.here hx rfl (pc0 := 207) (pc' := 211) rfl (hb hby at_207) (by decide) (by decide) ?_
        show Steps p.tables e below (T23.setTop (mkF m 211 #[.val (.long qq1), .second, .val (.long qq2), .second, .val (.long qq3), .second, .val (.long qq4), .second, .val (.long qq5), .second, .val (.int pp6), .val (.long kk), .second, .val (.long ln), .second, .val (.long lg), .second, .val (.double dv), .second, .val (.ref b9), .val (.long rr), .second, .val (.long qv), .second, .val (.long sv), .second] [(.int (1 : Int32))])) _
        exact retN X23 hx (t := .boolean) Bd.returns (by simp) (hb hby at_211) hr
      · show Q0 Z qq1 qq2 qq3 qq4 qq5 pp6 h0 n0 _ T23.heap _
        rw [e23]
        exact ⟨rfl, N23⟩
set_option maxRecDepth 65536 in
set_option maxHeartbeats 40000000 in
theorem comes_1 {Post : Tables → Env → Array Value → State → Outcome → State → Prop} (hpost : ∀ tb e args s v u, (limb_1_1.after args s (.returned v) u = true ∧ limb_1_2.after args s (.returned v) u = true ∧ True) → FrameEnd s (.returned v) u (Jvm.fieldLocs frame_1_writes args s ++ Jvm.arrayLocs frame_1_arrays args s ++ Jvm.staticLocs frame_1_statics s) 16 128 → Post tb e args s (.returned v) u) :
    ArmFor flags0 classFile x code maxLocals ret World_1 tables_1 room_1 Calls_1 rest_1 Pre_1 Post := by
  intro l hfl _ _ p e ha hc hk s m args below hf hA hF happ hP
  obtain ⟨hcalls, hrest, hpre⟩ := hP
  obtain ⟨-, -, -, hnamed, -, -, -, hat⟩ := (Spec.applies_iff hf).mp happ
  obtain ⟨hg, hn⟩ := and_e (Cond.before_iff.mp (show (Jvm.Cond.and given_1 narrow_1).before args s = true from hpre))
  obtain ⟨g1, g2⟩ := and_e hg
  obtain ⟨g3, g4⟩ := and_e g2
  obtain ⟨g5, g6⟩ := and_e g4
  obtain ⟨g7, g8⟩ := and_e g6
  obtain ⟨g9, g10⟩ := and_e g8
  obtain ⟨g11, g12⟩ := and_e g10
  obtain ⟨w0, w1, w2, w3, w4, w5, rfl⟩ : ∃ w0 w1 w2 w3 w4 w5 : Value, args = #[w0, w1, w2, w3, w4, w5] := by
    have hs : args.size = 6 := by simpa [Cond.value, given_1] using g1
    obtain ⟨L⟩ := args
    match L, hs with
    | [w0, w1, w2, w3, w4, w5], _ => exact ⟨w0, w1, w2, w3, w4, w5, rfl⟩
  have hw := fun d (hd : d ∈ tables_1) => atoms_spec (ws := Jvm.Cond.code x code maxLocals ret :: tables_1) hat d (List.mem_cons_of_mem _ hd)
  have hfit : Fit s := fun {y c} hc i hi => by
    obtain ⟨ha, rfl⟩ := Array.getElem?_eq_some_iff.mp hc
    have q := List.all_eq_true.mp ((Array.all_eq_true_iff_forall_mem.mp hF) _ (Array.getElem_mem ha)) i (List.mem_range.mpr hi)
    simpa [Array.getElem?_eq_getElem hi] using q
  obtain ⟨i0, ei0⟩ := isL_v g3
  obtain rfl : w0 = (.long i0) := Option.some.inj ei0
  obtain ⟨i1, ei1⟩ := isL_v g5
  obtain rfl : w1 = (.long i1) := Option.some.inj ei1
  obtain ⟨i2, ei2⟩ := isL_v g7
  obtain rfl : w2 = (.long i2) := Option.some.inj ei2
  obtain ⟨i3, ei3⟩ := isL_v g9
  obtain rfl : w3 = (.long i3) := Option.some.inj ei3
  obtain ⟨i4, ei4⟩ := isL_v g11
  obtain rfl : w4 = (.long i4) := Option.some.inj ei4
  obtain ⟨i5, ei5⟩ := is_v g12
  obtain rfl : w5 = (.int i5) := Option.some.inj ei5
  obtain ⟨n, o, h1, h2, h3, _, L, rfl, ⟨rfl, N⟩, hq⟩ := rm0 l s _ hw tables_1 i0 i1 i2 i3 i4 i5 s.heap s.heap.size (Nat.le_refl _)  p e ha hc hk s m _ below hf ((Spec.applies_iff_loose hf).mp happ).1 ⟨rfl, State.Warmed39.refl s, rfl⟩ trivial
  refine ⟨n, _, h1, h2, h3, hpost _ _ _ _ _ _ ⟨Cond.after_iff.mpr rfl, Cond.after_iff.mpr (eq_i res_at (Term.int_eval (1)) rfl), trivial⟩ ⟨hq.1, hq.2.1, (hq.2.2.sift fun y hy => Or.inr (N y hy)).mono (by decide) (by decide)⟩⟩
theorem main_1_1 : Claimed_1_1 := comes_1 fun _ _ _ _ _ _ h hF => ⟨h.1, hF⟩
theorem main_1_2 : Claimed_1_2 := comes_1 fun _ _ _ _ _ _ h hF => ⟨h.2.1, hF⟩
end Jvm.Pilot.@@N@@
namespace Jvm.Pilot.@@N@@
open Jvm Jvm.ClassFile Sem Op Lib Jvm.Free Jvm.Stand Jvm.Pilot.@@N@@.Jvm.D
/-! MADE BY PROGRAM (witnessworld.py) out of the Statement's table words and the real class files: 11 classes; the members and pool entries that the words name. The judged class is class 1, her method 1. -/
namespace start1
open Jvm.ClassFile
def u (s : String) : CpInfo := .utf8 (stringToUtf16 s)
/-- a pool by its gaps: so many unusable entries, then the entry; so many at the end -/
def gap : Nat → List CpInfo → List CpInfo
  | 0, r => r
  | n + 1, r => .unusable :: gap n r
def poolList (es : List (Nat × CpInfo)) (last : Nat) : List CpInfo := es.foldr (fun e r => gap e.1 (e.2 :: r)) (gap last [])
def pool (es : List (Nat × CpInfo)) (last : Nat) : Array CpInfo := ⟨poolList es last⟩
def fileOf (pool : Array CpInfo) (this : Nat) (attrs : Array Attribute := #[]) (ms : Array MethodInfo := #[]) (fl : Nat := 33) (sup : Nat := 0) (ifs : Array Nat := #[]) (fds : Array FieldInfo := #[]) : ClassFile where
  minorVersion := 0
  majorVersion := 65
  constantPool := pool
  accessFlags := fl
  thisClass := this
  superClass := sup
  interfaces := ifs
  fields := fds
  methods := ms
  attributes := attrs
def plain (name : String) (sup : Option ClassId) : Class where
  name := name
  kind := .ordinary
  loader := none
  accessFlags := 33
  super := sup
  interfaces := #[]
  cf := none
  fields := #[]
  methods := #[]
  instanceTypes := #[]
  staticTypes := #[]
  resolved := #[]
  callSites := []
  init := .initialized
  statics := none
  mirror := none

def pool0 : Array CpInfo := pool [(5, u "<init>"), (0, u "()V"), (1, .class_ 10), (1, u "java/lang/Object")] 113

def k0c0 : Code := { maxStack := 0, maxLocals := 1, code := object_method_1_code, exceptionTable := #[], attributes := #[] }
def k0m0 : Method := { name := "<init>", desc := "()V", sig := { parameters := [], returnType := none }, accessFlags := 1, code := some k0c0 }
/-- java/lang/Object -/
def k0 : Class := { plain "java/lang/Object" none with
  accessFlags := 33
  interfaces := #[]
  cf := some (fileOf pool0 8 #[] #[{ accessFlags := 1, nameIndex := 5, descriptorIndex := 6, attributes := #[] }] 33 0 #[] #[])
  fields := #[]
  methods := #[k0m0]
  instanceTypes := #[]
  staticTypes := #[]
  resolved := Array.replicate 124 none
  statics := none }

def pool1 : Array CpInfo := pool [(2, .class_ 4), (1, u "java/lang/Object"), (0, u "<init>"), (0, u "()V"), (2, .long 9223372036854775807), (1, .long 255), (1, .methodref 14 15), (0, .class_ 16), (0, .nameAndType 17 18), (0, u "java/lang/Math"), (0, u "max"), (0, u "(JJ)J"), (0, .double 4620693217682128896), (1, .class_ 22), (0, u "com/example/escapement/escapement/inference/Schedule"), (0, .methodref 21 24), (0, .nameAndType 5 25), (0, u "(JJDJ)V"), (0, .methodref 21 27), (0, .nameAndType 28 29), (0, u "checkpoints"), (0, u "(J)Z"), (0, .long 2147483647), (1, .class_ 33), (0, u "com/example/escapement/escapement/inference/ScheduleCheckpointsPinLaw"), (2, u "law"), (0, u "(JJJJJI)Z")] 3

def k1m0 : Method := { name := "<init>", desc := "()V", sig := { parameters := [], returnType := none }, accessFlags := 1, code := none }
def k1c1 : Code := { maxStack := 10, maxLocals := 26, code := code, exceptionTable := #[], attributes := #[] }
def k1m1 : Method := { name := "law", desc := "(JJJJJI)Z", sig := { parameters := [.long, .long, .long, .long, .long, .int], returnType := some .boolean }, accessFlags := 9, code := some k1c1 }
/-- com/example/escapement/escapement/inference/ScheduleCheckpointsPinLaw -/
def k1 : Class := { plain "com/example/escapement/escapement/inference/ScheduleCheckpointsPinLaw" (some 0) with
  accessFlags := 49
  interfaces := #[]
  cf := some (fileOf pool1 32 #[] #[{ accessFlags := 1, nameIndex := 5, descriptorIndex := 6, attributes := #[] }, { accessFlags := 9, nameIndex := 36, descriptorIndex := 37, attributes := #[] }] 49 2 #[] #[])
  fields := #[]
  methods := #[k1m0, k1m1]
  instanceTypes := #[]
  staticTypes := #[]
  resolved := Array.replicate 41 none
  statics := none }

def pool2 : Array CpInfo := pool [(1, .class_ 2), (0, u "java/lang/Math"), (1, .class_ 6), (1, u "java/lang/Object"), (0, u "<init>"), (0, u "()V"), (89, .class_ 100), (1, u "java/lang/Math$RandomNumberGeneratorHolder"), (20, u "(JJ)J"), (50, u "negativeZeroFloatBits"), (0, u "J"), (2, u "negativeZeroDoubleBits"), (21, u "max"), (46, u "$assertionsDisabled"), (0, u "Z"), (91, u "twoToTheDoubleScaleDown"), (0, u "D"), (4, u "twoToTheDoubleScaleUp"), (9, u "E"), (3, u "PI"), (2, u "TAU"), (2, u "DEGREES_TO_RADIANS"), (0, u "RADIANS_TO_DEGREES")] 94

def k2m0 : Method := { name := "<init>", desc := "()V", sig := { parameters := [], returnType := none }, accessFlags := 2, code := none }
def k2c1 : Code := { maxStack := 4, maxLocals := 4, code := jdk_29_method_66_code, exceptionTable := #[], attributes := #[] }
def k2m1 : Method := { name := "max", desc := "(JJ)J", sig := { parameters := [.long, .long], returnType := some .long }, accessFlags := 9, code := some k2c1 }
/-- java/lang/Math -/
def k2 : Class := { plain "java/lang/Math" (some 0) with
  accessFlags := 49
  interfaces := #[]
  cf := some (fileOf pool2 1 #[.nestMembers #[98]] #[{ accessFlags := 2, nameIndex := 7, descriptorIndex := 8, attributes := #[] }, { accessFlags := 9, nameIndex := 198, descriptorIndex := 121, attributes := #[] }] 49 4 #[] #[{ accessFlags := 25, nameIndex := 354, descriptorIndex := 339, attributes := #[] }, { accessFlags := 25, nameIndex := 358, descriptorIndex := 339, attributes := #[] }, { accessFlags := 25, nameIndex := 361, descriptorIndex := 339, attributes := #[] }, { accessFlags := 26, nameIndex := 364, descriptorIndex := 339, attributes := #[] }, { accessFlags := 26, nameIndex := 365, descriptorIndex := 339, attributes := #[] }, { accessFlags := 26, nameIndex := 172, descriptorIndex := 173, attributes := #[] }, { accessFlags := 26, nameIndex := 176, descriptorIndex := 173, attributes := #[] }, { accessFlags := 8, nameIndex := 344, descriptorIndex := 339, attributes := #[] }, { accessFlags := 8, nameIndex := 338, descriptorIndex := 339, attributes := #[] }, { accessFlags := 4120, nameIndex := 245, descriptorIndex := 246, attributes := #[] }])
  fields := #[{ name := "E", type := .double, accessFlags := 25, slot := 0, constantValue := 0 }, { name := "PI", type := .double, accessFlags := 25, slot := 1, constantValue := 0 }, { name := "TAU", type := .double, accessFlags := 25, slot := 2, constantValue := 0 }, { name := "DEGREES_TO_RADIANS", type := .double, accessFlags := 26, slot := 3, constantValue := 0 }, { name := "RADIANS_TO_DEGREES", type := .double, accessFlags := 26, slot := 4, constantValue := 0 }, { name := "negativeZeroFloatBits", type := .long, accessFlags := 26, slot := 5, constantValue := 0 }, { name := "negativeZeroDoubleBits", type := .long, accessFlags := 26, slot := 6, constantValue := 0 }, { name := "twoToTheDoubleScaleUp", type := .double, accessFlags := 8, slot := 7, constantValue := 0 }, { name := "twoToTheDoubleScaleDown", type := .double, accessFlags := 8, slot := 8, constantValue := 0 }, { name := "$assertionsDisabled", type := .boolean, accessFlags := 4120, slot := 9, constantValue := 0 }]
  methods := #[k2m0, k2m1]
  instanceTypes := #[]
  staticTypes := #[.double, .double, .double, .double, .double, .long, .long, .double, .double, .boolean]
  resolved := Array.replicate 460 none
  statics := none }

def pool3 : Array CpInfo := pool [(1, .methodref 2 3), (0, .class_ 4), (0, .nameAndType 5 6), (0, u "java/lang/Object"), (0, u "<init>"), (0, u "()V"), (0, .class_ 8), (0, u "java/lang/Record")] 13

def k3c0 : Code := { maxStack := 1, maxLocals := 1, code := jdk_30_method_1_code, exceptionTable := #[], attributes := #[] }
def k3m0 : Method := { name := "<init>", desc := "()V", sig := { parameters := [], returnType := none }, accessFlags := 4, code := some k3c0 }
/-- java/lang/Record -/
def k3 : Class := { plain "java/lang/Record" (some 0) with
  accessFlags := 1057
  interfaces := #[]
  cf := some (fileOf pool3 7 #[] #[{ accessFlags := 4, nameIndex := 5, descriptorIndex := 6, attributes := #[] }] 1057 2 #[] #[])
  fields := #[]
  methods := #[k3m0]
  instanceTypes := #[]
  staticTypes := #[]
  resolved := Array.replicate 22 none
  statics := none }

def pool4 : Array CpInfo := pool [(1, .methodref 2 3), (0, .class_ 4), (0, .nameAndType 5 6), (0, u "java/lang/Record"), (0, u "<init>"), (0, u "()V"), (9, .fieldref 17 18), (0, .class_ 19), (0, .nameAndType 20 21), (0, u "com/example/escapement/escapement/inference/Schedule"), (0, u "length"), (0, u "J"), (0, .fieldref 17 23), (0, .nameAndType 24 21), (0, u "logEvery"), (0, .fieldref 17 26), (0, .nameAndType 27 28), (0, u "burnin"), (0, u "D"), (0, .fieldref 17 30), (0, .nameAndType 31 21), (0, u "checkpointEvery"), (25, u "(JJDJ)V"), (5, u "checkpoints"), (0, u "(J)Z")] 35

def k4c0 : Code := { maxStack := 10, maxLocals := 9, code := prog_22_method_1_code, exceptionTable := #[], attributes := #[] }
def k4m0 : Method := { name := "<init>", desc := "(JJDJ)V", sig := { parameters := [.long, .long, .double, .long], returnType := none }, accessFlags := 1, code := some k4c0 }
def k4c1 : Code := { maxStack := 4, maxLocals := 3, code := prog_22_method_5_code, exceptionTable := #[], attributes := #[] }
def k4m1 : Method := { name := "checkpoints", desc := "(J)Z", sig := { parameters := [.long], returnType := some .boolean }, accessFlags := 0, code := some k4c1 }
/-- com/example/escapement/escapement/inference/Schedule -/
def k4 : Class := { plain "com/example/escapement/escapement/inference/Schedule" (some 3) with
  accessFlags := 49
  interfaces := #[]
  cf := some (fileOf pool4 17 #[] #[{ accessFlags := 1, nameIndex := 5, descriptorIndex := 57, attributes := #[] }, { accessFlags := 0, nameIndex := 63, descriptorIndex := 64, attributes := #[] }] 49 2 #[] #[{ accessFlags := 18, nameIndex := 20, descriptorIndex := 21, attributes := #[] }, { accessFlags := 18, nameIndex := 24, descriptorIndex := 21, attributes := #[] }, { accessFlags := 18, nameIndex := 27, descriptorIndex := 28, attributes := #[] }, { accessFlags := 18, nameIndex := 31, descriptorIndex := 21, attributes := #[] }])
  fields := #[{ name := "length", type := .long, accessFlags := 18, slot := 0, constantValue := 0 }, { name := "logEvery", type := .long, accessFlags := 18, slot := 1, constantValue := 0 }, { name := "burnin", type := .double, accessFlags := 18, slot := 2, constantValue := 0 }, { name := "checkpointEvery", type := .long, accessFlags := 18, slot := 3, constantValue := 0 }]
  methods := #[k4m0, k4m1]
  instanceTypes := #[.long, .long, .double, .long]
  staticTypes := #[]
  resolved := Array.replicate 100 none
  statics := none }

def pool5 : Array CpInfo := pool [(1, u "java/lang/Cloneable"), (0, .class_ 1), (0, u "java/lang/Object"), (0, .class_ 3)] 3

/-- java/lang/Cloneable -/
def k5 : Class := { plain "java/lang/Cloneable" (some 0) with
  accessFlags := 1537
  interfaces := #[]
  cf := some (fileOf pool5 2 #[] #[] 1537 4 #[] #[])
  fields := #[]
  methods := #[]
  instanceTypes := #[]
  staticTypes := #[]
  resolved := Array.replicate 8 none
  statics := none }

def pool6 : Array CpInfo := pool [(1, u "java/io/Serializable"), (0, .class_ 1), (0, u "java/lang/Object"), (0, .class_ 3)] 3

/-- java/io/Serializable -/
def k6 : Class := { plain "java/io/Serializable" (some 0) with
  accessFlags := 1537
  interfaces := #[]
  cf := some (fileOf pool6 2 #[] #[] 1537 4 #[] #[])
  fields := #[]
  methods := #[]
  instanceTypes := #[]
  staticTypes := #[]
  resolved := Array.replicate 8 none
  statics := none }

/-- the primitive byte -/
def k7 : Class := { plain "byte" none with kind := .primitive 'B', accessFlags := 0x411 }
/-- [B -/
def k8 : Class := { plain "[B" (some 0) with kind := .array 7 .byte, interfaces := #[5, 6], accessFlags := 1041 }

/-- the primitive int -/
def k9 : Class := { plain "int" none with kind := .primitive 'I', accessFlags := 0x411 }
/-- [I -/
def k10 : Class := { plain "[I" (some 0) with kind := .array 9 .int, interfaces := #[5, 6], accessFlags := 1041 }

def heap : Heap := #[]
def classes : Array Class := #[k0, k1, k2, k3, k4, k5, k6, k7, k8, k9, k10]
def interned : List (Array UInt16 × Addr) := []
def slotsUsed : Nat := 0
def theMethod : MethodId := ⟨1, 1⟩
def args0 : Array Value := #[.long 3, .long 5, .long 7, .long 9, .long 11, .int 13]
def aboutOver (below : List Frame) : State where
  vm := { classes := classes, interned := interned.toArray }
  heap := heap
  slotsUsed := slotsUsed
  threads := #[{ frames := .invoking theMethod args0 :: below }]
def below0 : List Frame := [.native { method := ⟨0, 0⟩, args := #[] }]
def about1 : State := aboutOver below0
def p0 : Program := .bare "" "" ""
def e0 : Env := launch0.env 0 0 0
theorem w_frames : about1.frames = Frame.invoking theMethod args0 :: below0 := rfl
set_option maxRecDepth 65536 in
theorem w_args : argsFit about1.vm theMethod args0 = true := by decide +kernel
set_option maxRecDepth 65536 in
theorem w_heap : heapFits about1 = true := by decide +kernel
set_option maxRecDepth 65536 in
theorem w_runnable : about1.curStatus? = some .runnable := by decide +kernel
set_option maxRecDepth 65536 in
theorem w_alone : about1.alone = true := by decide +kernel
set_option maxRecDepth 65536 in
theorem w_named : about1.methodNamed? x = some theMethod := by decide +kernel
set_option maxRecDepth 65536 in
theorem w_hears : about1.hears theMethod below0 = true := by decide +kernel
set_option maxRecDepth 65536 in
theorem w_ripe : about1.ripe theMethod args0 below0 = true := by decide +kernel
theorem w_running : about1.status = .running := rfl
set_option maxRecDepth 65536 in
theorem w_room : about1.hasRoom e0.platform room_1 = true :=
  launch0.hasRoom_least _ room_1 (by decide +kernel) (by decide +kernel) (by decide +kernel) (by decide +kernel) (by decide +kernel) (by decide +kernel)
theorem allAtoms_all (ts : List Jvm.Cond) (a : Array Jvm.Value) (st : Jvm.State) : (allAtoms ts).before a st = ts.all (fun c => c.before a st) := by
  induction ts with
  | nil => rfl
  | cons c t ih =>
    show (Jvm.Cond.and c (allAtoms t)).before a st = _
    rw [Jvm.Cond.before_and, ih, List.all_cons]
def words1 : List Jvm.Cond := Jvm.Cond.code x code maxLocals ret :: tables_1
/-- a 'code' word, met by the world's own term for the bytes: nothing is compared byte by byte -/
theorem code_word {y : MethodName} {bytes : ByteArray} {mx : Nat} {rt : Option FieldType} {a : Array Value} {s : State} {m : MethodId} {meth : Method} {c : Code} (h1 : s.methodNamed? y = some m) (h2 : s.vm.method? m = some meth) (h3 : meth.code = some c) (h4 : c.code = bytes)
    (h5 : (c.maxLocals == mx && c.exceptionTable.isEmpty && decide (c.maxStack ≤ mostOperands) && decide (meth.sig.returnType = rt) && !meth.locks && decide (parseMethodDescriptor y.desc = some meth.sig)) = true) : (Jvm.Cond.code y bytes mx rt).before a s = true := by
  simp only [Bool.and_eq_true, beq_iff_eq, Bool.not_eq_true', decide_eq_true_eq] at h5
  obtain ⟨⟨⟨⟨⟨g1, g2⟩, g3⟩, g4⟩, g5⟩, g6⟩ := h5
  simp [Cond.before, Cond.holds, Cond.value, h1, h2, h3, h4, g1, g2, g3, g4, g5, g6]
def isCode : Jvm.Cond → Bool
  | .code _ _ _ _ => true
  | _ => false
theorem all_split {L : List Jvm.Cond} {P : Jvm.Cond → Bool} (h1 : L.all (fun c => isCode c || P c) = true) (h2 : ∀ c ∈ L.filter isCode, P c = true) : L.all P = true := by
  refine List.all_eq_true.mpr fun c hc => ?_
  have h := List.all_eq_true.mp h1 c hc
  rcases Bool.eq_false_or_eq_true (isCode c) with hi | hi
  · exact h2 c (List.mem_filter.mpr ⟨hc, hi⟩)
  · simpa [hi] using h
set_option maxRecDepth 65536 in
theorem w_c0 : (Jvm.Cond.code x code maxLocals ret).before args0 about1 = true := code_word (m := ⟨1, 1⟩) (meth := k1m1) (c := k1c1) (by decide +kernel) rfl rfl rfl (by decide +kernel)
set_option maxRecDepth 65536 in
theorem w_c1 : (Jvm.Cond.code ({ cls := "java/lang/Math", name := "max", desc := "(JJ)J" } : Jvm.MethodName) jdk_29_method_66_code (4 : Nat) (Option.some Jvm.ClassFile.FieldType.long)).before args0 about1 = true := code_word (m := ⟨2, 1⟩) (meth := k2m1) (c := k2c1) (by decide +kernel) rfl rfl rfl (by decide +kernel)
set_option maxRecDepth 65536 in
theorem w_c2 : (Jvm.Cond.code ({ cls := "com/example/escapement/escapement/inference/Schedule", name := "<init>", desc := "(JJDJ)V" } : Jvm.MethodName) prog_22_method_1_code (9 : Nat) (Option.none : Option Jvm.ClassFile.FieldType)).before args0 about1 = true := code_word (m := ⟨4, 0⟩) (meth := k4m0) (c := k4c0) (by decide +kernel) rfl rfl rfl (by decide +kernel)
set_option maxRecDepth 65536 in
theorem w_c3 : (Jvm.Cond.code ({ cls := "java/lang/Record", name := "<init>", desc := "()V" } : Jvm.MethodName) jdk_30_method_1_code (1 : Nat) (Option.none : Option Jvm.ClassFile.FieldType)).before args0 about1 = true := code_word (m := ⟨3, 0⟩) (meth := k3m0) (c := k3c0) (by decide +kernel) rfl rfl rfl (by decide +kernel)
set_option maxRecDepth 65536 in
theorem w_c4 : (Jvm.Cond.code ({ cls := "java/lang/Object", name := "<init>", desc := "()V" } : Jvm.MethodName) object_method_1_code (1 : Nat) (Option.none : Option Jvm.ClassFile.FieldType)).before args0 about1 = true := code_word (m := ⟨0, 0⟩) (meth := k0m0) (c := k0c0) (by decide +kernel) rfl rfl rfl (by decide +kernel)
set_option maxRecDepth 65536 in
theorem w_c5 : (Jvm.Cond.code ({ cls := "com/example/escapement/escapement/inference/Schedule", name := "checkpoints", desc := "(J)Z" } : Jvm.MethodName) prog_22_method_5_code (3 : Nat) (Option.some Jvm.ClassFile.FieldType.boolean)).before args0 about1 = true := code_word (m := ⟨4, 1⟩) (meth := k4m1) (c := k4c1) (by decide +kernel) rfl rfl rfl (by decide +kernel)
def codes1 : List Jvm.Cond := [Jvm.Cond.code x code maxLocals ret, Jvm.Cond.code ({ cls := "java/lang/Math", name := "max", desc := "(JJ)J" } : Jvm.MethodName) jdk_29_method_66_code (4 : Nat) (Option.some Jvm.ClassFile.FieldType.long), Jvm.Cond.code ({ cls := "com/example/escapement/escapement/inference/Schedule", name := "<init>", desc := "(JJDJ)V" } : Jvm.MethodName) prog_22_method_1_code (9 : Nat) (Option.none : Option Jvm.ClassFile.FieldType), Jvm.Cond.code ({ cls := "java/lang/Record", name := "<init>", desc := "()V" } : Jvm.MethodName) jdk_30_method_1_code (1 : Nat) (Option.none : Option Jvm.ClassFile.FieldType), Jvm.Cond.code ({ cls := "java/lang/Object", name := "<init>", desc := "()V" } : Jvm.MethodName) object_method_1_code (1 : Nat) (Option.none : Option Jvm.ClassFile.FieldType), Jvm.Cond.code ({ cls := "com/example/escapement/escapement/inference/Schedule", name := "checkpoints", desc := "(J)Z" } : Jvm.MethodName) prog_22_method_5_code (3 : Nat) (Option.some Jvm.ClassFile.FieldType.boolean)]
set_option maxRecDepth 65536 in
theorem codes_eq : words1.filter isCode = codes1 := rfl
theorem w_codes : ∀ c ∈ words1.filter isCode, c.before args0 about1 = true := by
  rw [codes_eq]
  intro c hc
  simp only [codes1, List.mem_cons, List.not_mem_nil, or_false] at hc
  rcases hc with rfl | rfl | rfl | rfl | rfl | rfl
  · exact w_c0
  · exact w_c1
  · exact w_c2
  · exact w_c3
  · exact w_c4
  · exact w_c5
set_option maxRecDepth 65536 in
theorem w_t1 : (words1.take 24).all (fun c => isCode c || c.before args0 about1) = true := by decide +kernel
set_option maxRecDepth 65536 in
theorem w_t2 : (words1.drop 24).all (fun c => isCode c || c.before args0 about1) = true := by decide +kernel
theorem w_tables : (allAtoms (Jvm.Cond.code x code maxLocals ret :: tables_1)).before args0 about1 = true := by
  rw [allAtoms_all]
  show words1.all (fun c => c.before args0 about1) = true
  refine all_split ?_ w_codes
  rw [← List.take_append_drop 24 words1, List.all_append, w_t1, w_t2]
  rfl
set_option maxRecDepth 65536 in
theorem w_case : (Jvm.Cond.and given_1 narrow_1).before args0 about1 = true := by decide +kernel
theorem w_applies : (headSpec (Jvm.Cond.code x code maxLocals ret :: tables_1) room_1).applies x e0.platform about1 = true :=
  (Spec.applies_iff w_frames).mpr ⟨w_running, w_runnable, w_alone, w_named, w_hears, w_ripe, w_room, w_tables⟩
theorem atStart : AtStart classFile x code maxLocals ret World_1 tables_1 room_1 Calls_1 rest_1 Pre_1 launch0 p0 e0 about1 theMethod args0 below0 :=
  ⟨lists_1, trivial, launch0.admits_env _ _ _, launch0.least_env, fairChoices_fair.cas, fairChoices_fair.clock, w_frames, w_args, w_heap, w_applies, trivial, trivial, w_case⟩
end start1
theorem witness_1 : WitnessClaimed_1 := ⟨start1.p0, start1.e0, start1.about1, start1.theMethod, start1.args0, start1.below0, start1.atStart⟩
end Jvm.Pilot.@@N@@
