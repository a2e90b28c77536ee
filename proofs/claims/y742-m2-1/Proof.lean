import JvmDerived
import JvmDerived.Pilot.@@N@@Statement
import JvmDerived.Pilot.@@N@@Code
set_option linter.unusedVariables false
set_option linter.unusedSimpArgs false
namespace Jvm.RoadKit
open Sem ClassFile Op Lib Jvm.Stand Jvm.Free Jvm.LawKit
section New
variable {p : Program} {l : Launch} {e : Env} {R : Room} {s : State} {m : MethodId} {args : Array Value} {below : List Frame} {meth : Method} {c : Code} {T : State} {locs : List Loc} {cells slots : Nat}
theorem retI (X : Stand p l e R s m args below meth c T locs cells slots) (hx : p.tables.exec = Jvm.exec) {pc : Nat} {Ls : Array Slot} {z : Int32} {rest : List Value} (hret : meth.sig.returnType = some .int) (hd : decode c.code pc = .ok (.ireturn, 1)) {fs : List Frame}
    (hl : ∀ (f : JFrame) (acts : List Action), f.method = m → f.locked = none → f.entered = [] → (doReturn e (T.setTop f) acts (some (.int z))).1 = T.setFrames fs) : Steps p.tables e below (T.setTop (mkF m pc Ls (.int z :: rest))) (T.setFrames fs) := by
  have hm' : T.vm.method? m = some meth := X.method'
  have hn : narrow .int (.int z) = .int z := rfl
  show Steps p.tables e below (T.setTop { method := m, pc := pc, locals := Ls, stack := _ :: rest, locked := none }) _
  jvm_step X.here [X.here.top, hx, hd, hm', hret, hn]
  first | (intro acts; rw [hl _ acts rfl rfl rfl]) | rw [hl _ _ rfl rfl rfl]
  exact Steps.refl _
theorem retJ (X : Stand p l e R s m args below meth c T locs cells slots) (hx : p.tables.exec = Jvm.exec) {pc : Nat} {Ls : Array Slot} {z : Int64} {rest : List Value} (hret : meth.sig.returnType = some .long) (hd : decode c.code pc = .ok (.lreturn, 1)) {fs : List Frame}
    (hl : ∀ (f : JFrame) (acts : List Action), f.method = m → f.locked = none → f.entered = [] → (doReturn e (T.setTop f) acts (some (.long z))).1 = T.setFrames fs) : Steps p.tables e below (T.setTop (mkF m pc Ls (.long z :: rest))) (T.setFrames fs) := by
  have hm' : T.vm.method? m = some meth := X.method'
  have hn : narrow .long (.long z) = .long z := rfl
  show Steps p.tables e below (T.setTop { method := m, pc := pc, locals := Ls, stack := _ :: rest, locked := none }) _
  jvm_step X.here [X.here.top, hx, hd, hm', hret, hn]
  first | (intro acts; rw [hl _ acts rfl rfl rfl]) | rw [hl _ _ rfl rfl rfl]
  exact Steps.refl _
theorem retD (X : Stand p l e R s m args below meth c T locs cells slots) (hx : p.tables.exec = Jvm.exec) {pc : Nat} {Ls : Array Slot} {z : UInt64} {rest : List Value} (hret : meth.sig.returnType = some .double) (hd : decode c.code pc = .ok (.dreturn, 1)) {fs : List Frame}
    (hl : ∀ (f : JFrame) (acts : List Action), f.method = m → f.locked = none → f.entered = [] → (doReturn e (T.setTop f) acts (some (.double z))).1 = T.setFrames fs) : Steps p.tables e below (T.setTop (mkF m pc Ls (.double z :: rest))) (T.setFrames fs) := by
  have hm' : T.vm.method? m = some meth := X.method'
  have hn : narrow .double (.double z) = .double z := rfl
  show Steps p.tables e below (T.setTop { method := m, pc := pc, locals := Ls, stack := _ :: rest, locked := none }) _
  jvm_step X.here [X.here.top, hx, hd, hm', hret, hn]
  first | (intro acts; rw [hl _ acts rfl rfl rfl]) | rw [hl _ _ rfl rfl rfl]
  exact Steps.refl _
end New
end Jvm.RoadKit
@@BLOCK:NumsL.lean.txt@@
namespace Jvm.Pilot.@@N@@
open Jvm Jvm.ClassFile Sem Op Lib Jvm.Free Jvm.Stand Jvm.LawKit Jvm.RoadKit Bundle Jvm.Pilot.@@N@@.Jvm.D
theorem own_charv (y : Int32) : (y &&& (255 : Int32)).toUInt32.toUInt16.toUInt32.toInt32 = y &&& (255 : Int32) := by
  have h : (y &&& (255 : Int32)).toBitVec.toNat ≤ 255 := by
    show (y.toBitVec &&& 255#32).toNat ≤ 255
    rw [BitVec.toNat_and]; exact Nat.and_le_right
  apply Int32.toBitVec_inj.mp
  apply BitVec.eq_of_toNat_eq
  show (((y &&& (255 : Int32)).toBitVec.setWidth 16).setWidth 32).toNat = _
  rw [BitVec.toNat_setWidth, BitVec.toNat_setWidth]
  omega
theorem own_c255 (y : Int32) : ¬ (y &&& (255 : Int32)) < (0 : Int32) ∧ ¬ (255 : Int32) < (y &&& (255 : Int32)) := by
  have m := Jvm.Kit.i32_mask y 255 (k := 8) (by decide) (by decide)
  have e0 : (0 : Int32).toInt = 0 := by decide
  have e5 : (255 : Int32).toInt = 255 := by decide
  rw [Int32.lt_iff_toInt_lt, Int32.lt_iff_toInt_lt, m, e0, e5]; omega
theorem own_ch (y : Int32) : ¬ (255 : Int32) < ((y &&& (255 : Int32)).toUInt32.toUInt16.toUInt32.toInt32) := by rw [own_charv]; exact (own_c255 y).2
theorem own_chn (y : Int32) : ¬ (nar .char ((y &&& (255 : Int32)).toUInt32.toUInt16.toUInt32.toInt32)) < (0 : Int32) ∧ ¬ (255 : Int32) < (nar .char ((y &&& (255 : Int32)).toUInt32.toUInt16.toUInt32.toInt32)) := by
  have e : nar .char ((y &&& (255 : Int32)).toUInt32.toUInt16.toUInt32.toInt32) = y &&& (255 : Int32) := by
    rw [own_charv]; exact own_charv y
  rw [e]; exact own_c255 y
theorem own_two_in {a b : Int32} (ha : ¬ a < (0 : Int32) ∧ ¬ (255 : Int32) < a) (hb : ¬ b < (0 : Int32) ∧ ¬ (255 : Int32) < b) : ∀ c ∈ ([a, b] : List Int32), ¬ c < 0 ∧ ¬ (255 : Int32) < c := by
  intro c hc
  simp only [List.mem_cons, List.not_mem_nil, or_false] at hc
  rcases hc with rfl | rfl
  · exact ha
  · exact hb
theorem own_neq {args : Array Value} {s : State} {t : Term} {v n : Int32} (ht : t.eval args s none [] s = some (.int v)) (h : (Jvm.Cond.not (Jvm.Cond.eq t (Jvm.Term.int n))).value args s none s [] = some true) : ¬ v = n := by
  have h' := not_v h
  intro e
  subst e
  simp [Cond.value, ht, Term.eval] at h'
theorem pn_java_lang_Record : plainName "java/lang/Record" = true := by first | (simp [plainName, overriddenIn]; done) | decide +kernel
theorem d7_0 : decode jdk_30_method_1_code 0 = .ok (.aload_n 0, 1) := by decide +kernel
theorem d7_1 : decode jdk_30_method_1_code 1 = .ok (.invokespecial 1, 3) := by decide +kernel
theorem d7_4 : decode jdk_30_method_1_code 4 = .ok (.return_, 1) := by decide +kernel
theorem ef_7 (m : MethodId) (x0 : Addr) : entryFrame m #[(.ref x0)] 1 = mkF m 0 #[.val (.ref x0)] [] := by first | (simp [entryFrame, mkF, argsToLocals, Value.category]; done) | rfl
def Q7 (Z : State) (aa0 : Addr) (h0 : Heap) (n0 : Nat) (v : Option Value) (h : Heap) (L : List Loc) : Prop := v = none ∧ Fr n0 L ∧ h = h0
set_option maxRecDepth 65536 in
set_option maxHeartbeats 40000000 in
theorem rm7 (l : Launch) (Z : State) (a0 : Array Value) (hw : ∀ d ∈ tables_1, d.before a0 Z = true) (ws : List Jvm.Cond) (aa0 : Addr) (h0 : Heap) (n0 : Nat) (Z0 : n0 ≤ h0.size) :
    MetFree l (⟨"java/lang/Record", "<init>", "()V"⟩ : MethodName) (head1 (Jvm.Cond.code (⟨"java/lang/Record", "<init>", "()V"⟩ : MethodName) jdk_30_method_1_code 1 none :: ws) ({ frames := 1, cells := 0, slots := 0, locals := 12 } : Room)) (fun a U => a = #[(.ref aa0)] ∧ Z.Warmed39 U.vm ∧ U.heap = h0) (fun _ _ _ _ _ => True) (fun _ U o U' => ∃ v L, o = .returned v ∧ Q7 Z aa0 h0 n0 v U'.heap L ∧ FrameEnd U o U' L ({ frames := 1, cells := 0, slots := 0, locals := 12 } : Room).cells ({ frames := 1, cells := 0, slots := 0, locals := 12 } : Room).slots) := by
  refine MetFree.of_bodySF (plainFor_of_name pn_java_lang_Record) hisR ?_
  intro p e s m args below meth c s₁ Bd hml0 hP hK
  obtain ⟨rfl, hZ, hh⟩ := hP
  have hx := Bd.exec
  have hby := Bd.bytes
  have hml : c.maxLocals = 1 := hml0
  have hown : s.vm.findClass "java/lang/Record" = some m.cls := findClass_of_methodNamed Bd.named
  have hnm := (name_of_methodNamed Bd.named Bd.method).1
  have X0 : Stand p l e ({ frames := 1, cells := 0, slots := 0, locals := 12 } : Room) s m #[(.ref aa0)] below meth c s₁ [] 0 0 := Stand.of_body Bd
  have e0 : s₁.heap = h0 := by rw [← hh, Bd.state]; rfl
  have N0 := Fr.nil n0
  have pre0 : ∀ t, Steps p.tables e below (s₁.setTop (mkF m 0 #[.val (.ref aa0)] [])) t → Steps p.tables e below (s₁.setTop (entryFrame m #[(.ref aa0)] 1)) t := fun t k => castTop (ef_7 m aa0) k
  obtain ⟨T1, X1, e1, st1⟩ := initO X0 hx hZ hown (hw _ (List.mem_of_getElem? (i := 37) rfl)) (hw _ (List.mem_of_getElem? (i := 23) rfl)) (hw _ (List.mem_of_getElem? (i := 24) rfl)) e0 (g := (mkF m 1 #[.val (.ref aa0)] [(.ref aa0)])) rfl (by rw [hml]; rfl) rfl (hb hby d7_1) (by decide) (W := 0) (by show 2 * 0 + _ ≤ _; exact Nat.le_of_eq rfl) (by decide)
  obtain ⟨fs, hr, hrun, hended, hW, hsame⟩ := X1.leave (v := none) (fun _ => rfl)
  refine ⟨_, _, pre0 _ ?_, hrun, hended, _, _, rfl, ?_, ⟨_, rfl⟩, hW, hsame.mono (by decide) (by decide)⟩
  · show Steps p.tables e below (s₁.setTop (mkF m 0 #[.val (.ref aa0)] [])) _
    refine XS.aloadN X0.here hx rfl (hb hby d7_0) rfl rfl ?_
    show Steps p.tables e below (s₁.setTop (mkF m 1 #[.val (.ref aa0)] [(.ref aa0)])) _
    refine st1 _ ?_
    show Steps p.tables e below (T1.setTop (mkF m 4 #[.val (.ref aa0)] [])) _
    exact X1.returnOut hx Bd.returns (hb hby d7_4) hr
  · show Q7 Z aa0 h0 n0 _ T1.heap _
    rw [e1]
    exact ⟨rfl, N0, rfl⟩
theorem pn_java_lang_StringLatin1 : plainName "java/lang/StringLatin1" = true := by first | (simp [plainName, overriddenIn]; done) | decide +kernel
theorem d2_0 : decode jdk_43_method_3_code 0 = .ok (.iload_n 0, 1) := by decide +kernel
theorem d2_1 : decode jdk_43_method_3_code 1 = .ok (.sipush 255, 3) := by decide +kernel
theorem d2_4 : decode jdk_43_method_3_code 4 = .ok (.if_icmp .gt 7, 3) := by decide +kernel
theorem d2_7 : decode jdk_43_method_3_code 7 = .ok (.iconst 1, 1) := by decide +kernel
theorem d2_8 : decode jdk_43_method_3_code 8 = .ok (.goto 4, 3) := by decide +kernel
theorem d2_12 : decode jdk_43_method_3_code 12 = .ok (.ireturn, 1) := by decide +kernel
theorem ef_2 (m : MethodId) (x0 : Int32) : entryFrame m #[(.int x0)] 1 = mkF m 0 #[.val (.int x0)] [] := by first | (simp [entryFrame, mkF, argsToLocals, Value.category]; done) | rfl
def Q2 (Z : State) (pp1 : Int32) (h0 : Heap) (n0 : Nat) (v : Option Value) (h : Heap) (L : List Loc) : Prop := v = some (.int (1 : Int32)) ∧ Fr n0 L ∧ h = h0
set_option maxRecDepth 65536 in
set_option maxHeartbeats 40000000 in
theorem rm2 (l : Launch) (Z : State) (a0 : Array Value) (hw : ∀ d ∈ tables_1, d.before a0 Z = true) (ws : List Jvm.Cond) (pp1 : Int32) (h0 : Heap) (n0 : Nat) (Z0 : n0 ≤ h0.size) (hc : ¬ (255 : Int32) < pp1) :
    MetFree l (⟨"java/lang/StringLatin1", "canEncode", "(C)Z"⟩ : MethodName) (head1 (Jvm.Cond.code (⟨"java/lang/StringLatin1", "canEncode", "(C)Z"⟩ : MethodName) jdk_43_method_3_code 1 (some .boolean) :: ws) ({ frames := 0, cells := 0, slots := 0, locals := 0 } : Room)) (fun a U => a = #[(.int pp1)] ∧ Z.Warmed39 U.vm ∧ U.heap = h0) (fun _ _ _ _ _ => True) (fun _ U o U' => ∃ v L, o = .returned v ∧ Q2 Z pp1 h0 n0 v U'.heap L ∧ FrameEnd U o U' L ({ frames := 0, cells := 0, slots := 0, locals := 0 } : Room).cells ({ frames := 0, cells := 0, slots := 0, locals := 0 } : Room).slots) := by
  refine MetFree.of_bodySF (plainFor_of_name pn_java_lang_StringLatin1) hisR ?_
  intro p e s m args below meth c s₁ Bd hml0 hP hK
  obtain ⟨rfl, hZ, hh⟩ := hP
  have hx := Bd.exec
  have hby := Bd.bytes
  have hml : c.maxLocals = 1 := hml0
  have hown : s.vm.findClass "java/lang/StringLatin1" = some m.cls := findClass_of_methodNamed Bd.named
  have hnm := (name_of_methodNamed Bd.named Bd.method).1
  have X0 : Stand p l e ({ frames := 0, cells := 0, slots := 0, locals := 0 } : Room) s m #[(.int pp1)] below meth c s₁ [] 0 0 := Stand.of_body Bd
  have e0 : s₁.heap = h0 := by rw [← hh, Bd.state]; rfl
  have N0 := Fr.nil n0
  have pre0 : ∀ t, Steps p.tables e below (s₁.setTop (mkF m 0 #[.val (.int pp1)] [])) t → Steps p.tables e below (s₁.setTop (entryFrame m #[(.int pp1)] 1)) t := fun t k => castTop (ef_2 m pp1) k
  have hc4 : ¬ ((255 : Int32) < pp1) := hc
  obtain ⟨fs, hr, hrun, hended, hW, hsame⟩ := X0.leave (v := some (.int (1 : Int32))) (fun h => by rw [Bd.returns] at h; cases h)
  refine ⟨_, _, pre0 _ ?_, hrun, hended, _, _, rfl, ?_, ⟨_, rfl⟩, hW, hsame.mono (by decide) (by decide)⟩
  · show Steps p.tables e below (s₁.setTop (mkF m 0 #[.val (.int pp1)] [])) _
    refine XS.iloadN X0.here hx rfl (hb hby d2_0) rfl ?_
    show Steps p.tables e below (s₁.setTop (mkF m 1 #[.val (.int pp1)] [(.int pp1)])) _
    refine XS.sipush X0.here hx rfl (hb hby d2_1) ?_
    show Steps p.tables e below (s₁.setTop (mkF m 4 #[.val (.int pp1)] [(.int (255 : Int32)), (.int pp1)])) _
    refine XS.icmpNo X0.here hx rfl (hb hby d2_4) rfl (flt hc4).2.2.1 ?_
    show Steps p.tables e below (s₁.setTop (mkF m 7 #[.val (.int pp1)] [])) _
    refine XS.iconst X0.here hx rfl (hb hby d2_7) ?_
    show Steps p.tables e below (s₁.setTop (mkF m 8 #[.val (.int pp1)] [(.int (1 : Int32))])) _
    refine XS.goto X0.here hx rfl (pc0 := 8) (pc' := 12) rfl (hb hby d2_8) (by decide) (by decide) ?_
    show Steps p.tables e below (s₁.setTop (mkF m 12 #[.val (.int pp1)] [(.int (1 : Int32))])) _
    exact retN X0 hx (t := .boolean) Bd.returns (by simp) (hb hby d2_12) hr
  · show Q2 Z pp1 h0 n0 _ s₁.heap _
    rw [e0]
    exact ⟨rfl, N0, rfl⟩
theorem d3_0 : decode jdk_43_method_46_code 0 = .ok (.iconst 1, 1) := by decide +kernel
theorem d3_1 : decode jdk_43_method_46_code 1 = .ok (.newarray .byte, 2) := by decide +kernel
theorem d3_3 : decode jdk_43_method_46_code 3 = .ok (.dup, 1) := by decide +kernel
theorem d3_4 : decode jdk_43_method_46_code 4 = .ok (.iconst 0, 1) := by decide +kernel
theorem d3_5 : decode jdk_43_method_46_code 5 = .ok (.iload_n 0, 1) := by decide +kernel
theorem d3_6 : decode jdk_43_method_46_code 6 = .ok (.i2b, 1) := by decide +kernel
theorem d3_7 : decode jdk_43_method_46_code 7 = .ok (.bastore, 1) := by decide +kernel
theorem d3_8 : decode jdk_43_method_46_code 8 = .ok (.areturn, 1) := by decide +kernel
theorem ef_3 (m : MethodId) (x0 : Int32) : entryFrame m #[(.int x0)] 1 = mkF m 0 #[.val (.int x0)] [] := by first | (simp [entryFrame, mkF, argsToLocals, Value.category]; done) | rfl
def Q3 (Z : State) (pp1 : Int32) (h0 : Heap) (n0 : Nat) (v : Option Value) (h : Heap) (L : List Loc) : Prop := ∃ (bx : Addr), v = some (.ref bx) ∧ Fr n0 L ∧ Keep h0 h [] ∧ n0 ≤ bx ∧ h0.size ≤ bx
set_option maxRecDepth 65536 in
set_option maxHeartbeats 40000000 in
theorem rm3 (l : Launch) (Z : State) (a0 : Array Value) (hw : ∀ d ∈ tables_1, d.before a0 Z = true) (ws : List Jvm.Cond) (pp1 : Int32) (h0 : Heap) (n0 : Nat) (Z0 : n0 ≤ h0.size) :
    MetFree l (⟨"java/lang/StringLatin1", "toBytes", "(C)[B"⟩ : MethodName) (head1 (Jvm.Cond.code (⟨"java/lang/StringLatin1", "toBytes", "(C)[B"⟩ : MethodName) jdk_43_method_46_code 1 (some (.array .byte)) :: ws) ({ frames := 0, cells := 1, slots := 1, locals := 0 } : Room)) (fun a U => a = #[(.int pp1)] ∧ Z.Warmed39 U.vm ∧ U.heap = h0) (fun _ _ _ _ _ => True) (fun _ U o U' => ∃ v L, o = .returned v ∧ Q3 Z pp1 h0 n0 v U'.heap L ∧ FrameEnd U o U' L ({ frames := 0, cells := 1, slots := 1, locals := 0 } : Room).cells ({ frames := 0, cells := 1, slots := 1, locals := 0 } : Room).slots) := by
  refine MetFree.of_bodySF (plainFor_of_name pn_java_lang_StringLatin1) hisR ?_
  intro p e s m args below meth c s₁ Bd hml0 hP hK
  obtain ⟨rfl, hZ, hh⟩ := hP
  have hx := Bd.exec
  have hby := Bd.bytes
  have hml : c.maxLocals = 1 := hml0
  have hown : s.vm.findClass "java/lang/StringLatin1" = some m.cls := findClass_of_methodNamed Bd.named
  have hnm := (name_of_methodNamed Bd.named Bd.method).1
  have X0 : Stand p l e ({ frames := 0, cells := 1, slots := 1, locals := 0 } : Room) s m #[(.int pp1)] below meth c s₁ [] 0 0 := Stand.of_body Bd
  have e0 : s₁.heap = h0 := by rw [← hh, Bd.state]; rfl
  have N0 := Fr.nil n0
  have pre0 : ∀ t, Steps p.tables e below (s₁.setTop (mkF m 0 #[.val (.int pp1)] [])) t → Steps p.tables e below (s₁.setTop (entryFrame m #[(.int pp1)] 1)) t := fun t k => castTop (ef_3 m pp1) k
  obtain ⟨T1, h1, k1, X1, e1, E1, A1, st1⟩ := newP X0 hx hZ (hw _ (List.mem_of_getElem? (i := 17) rfl)) e0 (g := (mkF m 1 #[.val (.int pp1)] [(.int (1 : Int32))])) rfl (hb hby d3_1) rfl (by decide) (cap := 1) (by decide) (by decide) (by decide) (by decide)
  obtain ⟨b1, g1⟩ : ∃ z, z = h0.size := ⟨_, rfl⟩
  rw [← g1] at A1 st1
  have g_b1 : n0 ≤ b1 := Nat.le_trans Z0 (Nat.le_of_eq g1.symm)
  have sz_b1 : h0.size ≤ b1 := Nat.le_trans (Keep.refl h0 []).1 (Nat.le_of_eq g1.symm)
  have Z1 : n0 ≤ h1.size := Nat.le_trans Z0 E1.1
  have K1 : Keep h0 h1 [] := (Keep.refl h0 []).ext E1
  have V1 : Arv Z h1 b1 k1 .byte (1 : Int32) [(.int (0 : Int32))] (.int (0 : Int32)) := (Arv.new A1 (by decide)).pad (pad_rep [] (.int (0 : Int32)) 1)
  obtain ⟨cl_2, Ar_2, qq_2, Sz_2, Nn_2, Hh_2, Gg_2⟩ := id V1
  have hin_2 : ¬ ((0 : Int32) < 0 ∨ cl_2.slots.size ≤ ((0 : Int32)).toNatClampNeg) := inb_of Sz_2 ⟨by decide, by decide⟩
  obtain ⟨T3, h3, X3, e3, W3, st3⟩ := stB X1 hx hZ e1 Ar_2 (j := (0 : Int32)) hin_2 (g := (mkF m 7 #[.val (.int pp1)] [(.int (pp1.toInt8.toInt32)), (.int (0 : Int32)), (.ref b1), (.ref b1)])) rfl rfl (hb hby d3_7)
  have N3 := Fr.snoc X3 N0 g_b1
  have Z3 : n0 ≤ h3.size := Nat.le_trans Z1 (Keep.of_wr W3).1
  have K3 : Keep h0 h3 [] := K1.wr W3 (Or.inr sz_b1)
  have V3 : Arv Z h3 b1 k1 .byte (1 : Int32) [(.int (nar .byte (pp1.toInt8.toInt32)))] (.int (0 : Int32)) := Arv.set Ar_2 qq_2 Sz_2 Nn_2 Hh_2 Gg_2 (fits_nar_byte _) W3 0 rfl (Nat.le_of_ble_eq_true rfl)
  obtain ⟨fs, hr, hrun, hended, hW, hsame⟩ := X3.leave (v := some (.ref b1)) (fun h => by rw [Bd.returns] at h; cases h)
  refine ⟨_, _, pre0 _ ?_, hrun, hended, _, _, rfl, ?_, ⟨_, rfl⟩, hW, hsame.mono (by decide) (by decide)⟩
  · show Steps p.tables e below (s₁.setTop (mkF m 0 #[.val (.int pp1)] [])) _
    refine XS.iconst X0.here hx rfl (hb hby d3_0) ?_
    show Steps p.tables e below (s₁.setTop (mkF m 1 #[.val (.int pp1)] [(.int (1 : Int32))])) _
    refine st1 _ ?_
    show Steps p.tables e below (T1.setTop (mkF m 3 #[.val (.int pp1)] [(.ref b1)])) _
    refine XS.dup X1.here hx rfl (hb hby d3_3) rfl rfl ?_
    show Steps p.tables e below (T1.setTop (mkF m 4 #[.val (.int pp1)] [(.ref b1), (.ref b1)])) _
    refine XS.iconst X1.here hx rfl (hb hby d3_4) ?_
    show Steps p.tables e below (T1.setTop (mkF m 5 #[.val (.int pp1)] [(.int (0 : Int32)), (.ref b1), (.ref b1)])) _
    refine XS.iloadN X1.here hx rfl (hb hby d3_5) rfl ?_
    show Steps p.tables e below (T1.setTop (mkF m 6 #[.val (.int pp1)] [(.int pp1), (.int (0 : Int32)), (.ref b1), (.ref b1)])) _
    refine XS.i2b X1.here hx rfl (hb hby d3_6) rfl ?_
    show Steps p.tables e below (T1.setTop (mkF m 7 #[.val (.int pp1)] [(.int (pp1.toInt8.toInt32)), (.int (0 : Int32)), (.ref b1), (.ref b1)])) _
    refine st3 _ ?_
    show Steps p.tables e below (T3.setTop (mkF m 8 #[.val (.int pp1)] [(.ref b1)])) _
    jvm_step X3.here [X3.here.top, hx, (hb hby d3_8), X3.method', Bd.returns, Value.isRef, FieldType.isReference]
    first | (intro acts; rw [hr _ acts rfl rfl rfl]) | rw [hr _ _ rfl rfl rfl]
    exact Steps.refl _
  · show Q3 Z pp1 h0 n0 _ T3.heap _
    rw [e3]
    exact ⟨b1, rfl, N3, K3, g_b1, sz_b1⟩
theorem pn_java_lang_String : plainName "java/lang/String" = true := by first | (simp [plainName, overriddenIn]; done) | decide +kernel
theorem d4_0 : decode jdk_42_method_151_code 0 = .ok (.aload_n 0, 1) := by decide +kernel
theorem d4_1 : decode jdk_42_method_151_code 1 = .ok (.invokespecial 1, 3) := by decide +kernel
theorem d4_4 : decode jdk_42_method_151_code 4 = .ok (.aload_n 0, 1) := by decide +kernel
theorem d4_5 : decode jdk_42_method_151_code 5 = .ok (.aload_n 1, 1) := by decide +kernel
theorem d4_6 : decode jdk_42_method_151_code 6 = .ok (.putfield 9, 3) := by decide +kernel
theorem d4_9 : decode jdk_42_method_151_code 9 = .ok (.aload_n 0, 1) := by decide +kernel
theorem d4_10 : decode jdk_42_method_151_code 10 = .ok (.iload_n 2, 1) := by decide +kernel
theorem d4_11 : decode jdk_42_method_151_code 11 = .ok (.putfield 15, 3) := by decide +kernel
theorem d4_14 : decode jdk_42_method_151_code 14 = .ok (.return_, 1) := by decide +kernel
theorem ef_4 (m : MethodId) (x0 : Addr) (x1 : Addr) : entryFrame m #[(.ref x0), (.ref x1), (.int (0 : Int32))] 3 = mkF m 0 #[.val (.ref x0), .val (.ref x1), .val (.int (0 : Int32))] [] := by first | (simp [entryFrame, mkF, argsToLocals, Value.category]; done) | rfl
def Q4 (Z : State) (aa0 : Addr) (aa1 : Addr) (u_value : Value) (u_coder : Value) (h0 : Heap) (n0 : Nat) (v : Option Value) (h : Heap) (L : List Loc) : Prop := v = none ∧ Fr n0 L ∧ Keep h0 h [aa0] ∧ (Fld Z h aa0 "java/lang/String" "value" "[B" (.ref aa1)) ∧ (Fld Z h aa0 "java/lang/String" "coder" "B" (.int (0 : Int32)))
set_option maxRecDepth 65536 in
set_option maxHeartbeats 40000000 in
theorem rm4 (l : Launch) (Z : State) (a0 : Array Value) (hw : ∀ d ∈ tables_1, d.before a0 Z = true) (ws : List Jvm.Cond) (aa0 : Addr) (aa1 : Addr) (u_value : Value) (u_coder : Value) (h0 : Heap) (n0 : Nat) (Z0 : n0 ≤ h0.size) (E_aa0 : Exa Z h0 aa0 "java/lang/String") (g_aa0 : n0 ≤ aa0) (F_aa0_value : Fld Z h0 aa0 "java/lang/String" "value" "[B" u_value) (F_aa0_coder : Fld Z h0 aa0 "java/lang/String" "coder" "B" u_coder) :
    MetFree l (⟨"java/lang/String", "<init>", "([BB)V"⟩ : MethodName) (head1 (Jvm.Cond.code (⟨"java/lang/String", "<init>", "([BB)V"⟩ : MethodName) jdk_42_method_151_code 3 none :: ws) ({ frames := 1, cells := 0, slots := 0, locals := 12 } : Room)) (fun a U => a = #[(.ref aa0), (.ref aa1), (.int (0 : Int32))] ∧ Z.Warmed39 U.vm ∧ U.heap = h0) (fun _ _ _ _ _ => True) (fun _ U o U' => ∃ v L, o = .returned v ∧ Q4 Z aa0 aa1 u_value u_coder h0 n0 v U'.heap L ∧ FrameEnd U o U' L ({ frames := 1, cells := 0, slots := 0, locals := 12 } : Room).cells ({ frames := 1, cells := 0, slots := 0, locals := 12 } : Room).slots) := by
  refine MetFree.of_bodySF (plainFor_of_name pn_java_lang_String) hisR ?_
  intro p e s m args below meth c s₁ Bd hml0 hP hK
  obtain ⟨rfl, hZ, hh⟩ := hP
  have hx := Bd.exec
  have hby := Bd.bytes
  have hml : c.maxLocals = 3 := hml0
  have hown : s.vm.findClass "java/lang/String" = some m.cls := findClass_of_methodNamed Bd.named
  have hnm := (name_of_methodNamed Bd.named Bd.method).1
  have X0 : Stand p l e ({ frames := 1, cells := 0, slots := 0, locals := 12 } : Room) s m #[(.ref aa0), (.ref aa1), (.int (0 : Int32))] below meth c s₁ [] 0 0 := Stand.of_body Bd
  have e0 : s₁.heap = h0 := by rw [← hh, Bd.state]; rfl
  have N0 := Fr.nil n0
  have pre0 : ∀ t, Steps p.tables e below (s₁.setTop (mkF m 0 #[.val (.ref aa0), .val (.ref aa1), .val (.int (0 : Int32))] [])) t → Steps p.tables e below (s₁.setTop (entryFrame m #[(.ref aa0), (.ref aa1), (.int (0 : Int32))] 3)) t := fun t k => castTop (ef_4 m aa0 aa1) k
  obtain ⟨T1, X1, e1, st1⟩ := initO X0 hx hZ hown (hw _ (List.mem_of_getElem? (i := 22) rfl)) (hw _ (List.mem_of_getElem? (i := 23) rfl)) (hw _ (List.mem_of_getElem? (i := 24) rfl)) e0 (g := (mkF m 1 #[.val (.ref aa0), .val (.ref aa1), .val (.int (0 : Int32))] [(.ref aa0)])) rfl (by rw [hml]; rfl) rfl (hb hby d4_1) (by decide) (W := 0) (by show 2 * 0 + _ ≤ _; exact Nat.le_of_eq rfl) (by decide)
  obtain ⟨T2, h2, X2, e2, W2, st2⟩ := putF X1 hx hZ hown (host := "") (Or.inl (hw _ (List.mem_of_getElem? (i := 25) rfl))) Via.refl e1 F_aa0_value E_aa0 (Or.inr ⟨(hw _ (List.mem_of_getElem? (i := 26) rfl)), rfl, hnm⟩) (hw _ (List.mem_of_getElem? (i := 13) rfl)) (ty := (.array .byte)) (by decide) rfl rfl (g := (mkF m 6 #[.val (.ref aa0), .val (.ref aa1), .val (.int (0 : Int32))] [(.ref aa1), (.ref aa0)])) rfl rfl (hb hby d4_6)
  have N2 := Fr.snoc X2 N0 g_aa0
  have Z2 : n0 ≤ h2.size := Nat.le_trans Z0 (Keep.of_wr W2).1
  have K2 : Keep h0 h2 [aa0] := (Keep.refl h0 [aa0]).wr W2 (Or.inl (List.mem_of_getElem? (i := 0) rfl))
  have F2 : Fld Z h2 aa0 "java/lang/String" "value" "[B" (.ref aa1) := F_aa0_value.same W2
  have E_3 : Exa Z h2 aa0 "java/lang/String" := (E_aa0.wr W2)
  have F_4 : Fld Z h2 aa0 "java/lang/String" "coder" "B" u_coder := (F_aa0_coder.other W2 (Or.inr (slot_ne (Or.inr (hw _ (List.mem_of_getElem? (i := 28) rfl))) (Or.inr (hw _ (List.mem_of_getElem? (i := 26) rfl))) (by decide) (t := .byte) (t' := (.array .byte)) (by decide) (by decide))))
  obtain ⟨T5, h5, X5, e5, W5, st5⟩ := putFN X2 hx hZ hown (hw _ (List.mem_of_getElem? (i := 27) rfl)) Via.refl e2 F_4 E_3 (Or.inr ⟨(hw _ (List.mem_of_getElem? (i := 28) rfl)), rfl, hnm⟩) (hw _ (List.mem_of_getElem? (i := 13) rfl)) (ty := .byte) (v' := (.int (0 : Int32))) (by decide) rfl rfl (g := (mkF m 11 #[.val (.ref aa0), .val (.ref aa1), .val (.int (0 : Int32))] [(.int (0 : Int32)), (.ref aa0)])) rfl rfl (hb hby d4_11)
  have N5 := Fr.snoc X5 N2 g_aa0
  have Z5 : n0 ≤ h5.size := Nat.le_trans Z2 (Keep.of_wr W5).1
  have K5 : Keep h0 h5 [aa0] := K2.wr W5 (Or.inl (List.mem_of_getElem? (i := 0) rfl))
  have F5 : Fld Z h5 aa0 "java/lang/String" "coder" "B" (.int (0 : Int32)) := F_4.same W5
  have F_6 : Fld Z h5 aa0 "java/lang/String" "value" "[B" (.ref aa1) := (F2.other W5 (Or.inr (slot_ne (Or.inr (hw _ (List.mem_of_getElem? (i := 26) rfl))) (Or.inr (hw _ (List.mem_of_getElem? (i := 28) rfl))) (by decide) (t := (.array .byte)) (t' := .byte) (by decide) (by decide))))
  obtain ⟨fs, hr, hrun, hended, hW, hsame⟩ := X5.leave (v := none) (fun _ => rfl)
  refine ⟨_, _, pre0 _ ?_, hrun, hended, _, _, rfl, ?_, ⟨_, rfl⟩, hW, hsame.mono (by decide) (by decide)⟩
  · show Steps p.tables e below (s₁.setTop (mkF m 0 #[.val (.ref aa0), .val (.ref aa1), .val (.int (0 : Int32))] [])) _
    refine XS.aloadN X0.here hx rfl (hb hby d4_0) rfl rfl ?_
    show Steps p.tables e below (s₁.setTop (mkF m 1 #[.val (.ref aa0), .val (.ref aa1), .val (.int (0 : Int32))] [(.ref aa0)])) _
    refine st1 _ ?_
    show Steps p.tables e below (T1.setTop (mkF m 4 #[.val (.ref aa0), .val (.ref aa1), .val (.int (0 : Int32))] [])) _
    refine XS.aloadN X1.here hx rfl (hb hby d4_4) rfl rfl ?_
    show Steps p.tables e below (T1.setTop (mkF m 5 #[.val (.ref aa0), .val (.ref aa1), .val (.int (0 : Int32))] [(.ref aa0)])) _
    refine XS.aloadN X1.here hx rfl (hb hby d4_5) rfl rfl ?_
    show Steps p.tables e below (T1.setTop (mkF m 6 #[.val (.ref aa0), .val (.ref aa1), .val (.int (0 : Int32))] [(.ref aa1), (.ref aa0)])) _
    refine st2 _ ?_
    show Steps p.tables e below (T2.setTop (mkF m 9 #[.val (.ref aa0), .val (.ref aa1), .val (.int (0 : Int32))] [])) _
    refine XS.aloadN X2.here hx rfl (hb hby d4_9) rfl rfl ?_
    show Steps p.tables e below (T2.setTop (mkF m 10 #[.val (.ref aa0), .val (.ref aa1), .val (.int (0 : Int32))] [(.ref aa0)])) _
    refine XS.iloadN X2.here hx rfl (hb hby d4_10) rfl ?_
    show Steps p.tables e below (T2.setTop (mkF m 11 #[.val (.ref aa0), .val (.ref aa1), .val (.int (0 : Int32))] [(.int (0 : Int32)), (.ref aa0)])) _
    refine st5 _ ?_
    show Steps p.tables e below (T5.setTop (mkF m 14 #[.val (.ref aa0), .val (.ref aa1), .val (.int (0 : Int32))] [])) _
    exact X5.returnOut hx Bd.returns (hb hby d4_14) hr
  · show Q4 Z aa0 aa1 u_value u_coder h0 n0 _ T5.heap _
    rw [e5]
    exact ⟨rfl, N5, K5, F_6, F5⟩
theorem pd__28_C_29_Z : parseMethodDescriptor "(C)Z" = some ⟨[.char], some .boolean⟩ := by decide +kernel
theorem pd__28_C_29__5b_B : parseMethodDescriptor "(C)[B" = some ⟨[.char], some (.array .byte)⟩ := by decide +kernel
theorem pd__28__5b_BB_29_V : parseMethodDescriptor "([BB)V" = some ⟨[(.array .byte), .byte], none⟩ := by decide +kernel
theorem d1_0 : decode jdk_42_method_139_code 0 = .ok (.getstatic 38, 3) := by decide +kernel
theorem d1_3 : decode jdk_42_method_139_code 3 = .ok (.ifCond .eq 23, 3) := by decide +kernel
theorem d1_6 : decode jdk_42_method_139_code 6 = .ok (.iload_n 0, 1) := by decide +kernel
theorem d1_7 : decode jdk_42_method_139_code 7 = .ok (.invokestatic 1015, 3) := by decide +kernel
theorem d1_10 : decode jdk_42_method_139_code 10 = .ok (.ifCond .eq 16, 3) := by decide +kernel
theorem d1_13 : decode jdk_42_method_139_code 13 = .ok (.new 10, 3) := by decide +kernel
theorem d1_16 : decode jdk_42_method_139_code 16 = .ok (.dup, 1) := by decide +kernel
theorem d1_17 : decode jdk_42_method_139_code 17 = .ok (.iload_n 0, 1) := by decide +kernel
theorem d1_18 : decode jdk_42_method_139_code 18 = .ok (.invokestatic 1018, 3) := by decide +kernel
theorem d1_21 : decode jdk_42_method_139_code 21 = .ok (.iconst 0, 1) := by decide +kernel
theorem d1_22 : decode jdk_42_method_139_code 22 = .ok (.invokespecial 209, 3) := by decide +kernel
theorem d1_25 : decode jdk_42_method_139_code 25 = .ok (.areturn, 1) := by decide +kernel
theorem ef_1 (m : MethodId) (x0 : Int32) : entryFrame m #[(.int x0)] 1 = mkF m 0 #[.val (.int x0)] [] := by first | (simp [entryFrame, mkF, argsToLocals, Value.category]; done) | rfl
def Q1 (Z : State) (pp1 : Int32) (cs : Int32) (h0 : Heap) (n0 : Nat) (v : Option Value) (h : Heap) (L : List Loc) : Prop := ∃ (bx : Addr), v = some (.ref bx) ∧ Fr n0 L ∧ Keep h0 h [] ∧ n0 ≤ bx ∧ h0.size ≤ bx
set_option maxRecDepth 65536 in
set_option maxHeartbeats 40000000 in
theorem rm1 (l : Launch) (Z : State) (a0 : Array Value) (hw : ∀ d ∈ tables_1, d.before a0 Z = true) (ws : List Jvm.Cond) (pp1 : Int32) (cs : Int32) (h0 : Heap) (n0 : Nat) (Z0 : n0 ≤ h0.size) (O0 : Old Z n0 h0) (S_COMPACT_STRINGS : Sta Z Z.heap "java/lang/String" "COMPACT_STRINGS" "Z" (.int cs)) (hcs : ¬ cs = (0 : Int32)) (hc : ¬ (255 : Int32) < pp1) :
    MetFree l (⟨"java/lang/String", "valueOf", "(C)Ljava/lang/String;"⟩ : MethodName) (head1 (Jvm.Cond.code (⟨"java/lang/String", "valueOf", "(C)Ljava/lang/String;"⟩ : MethodName) jdk_42_method_139_code 1 (some (.object "java/lang/String")) :: ws) ({ frames := 2, cells := 2, slots := 5, locals := 27 } : Room)) (fun a U => a = #[(.int pp1)] ∧ Z.Warmed39 U.vm ∧ U.heap = h0) (fun _ _ _ _ _ => True) (fun _ U o U' => ∃ v L, o = .returned v ∧ Q1 Z pp1 cs h0 n0 v U'.heap L ∧ FrameEnd U o U' L ({ frames := 2, cells := 2, slots := 5, locals := 27 } : Room).cells ({ frames := 2, cells := 2, slots := 5, locals := 27 } : Room).slots) := by
  refine MetFree.of_bodySF (plainFor_of_name pn_java_lang_String) hisR ?_
  intro p e s m args below meth c s₁ Bd hml0 hP hK
  obtain ⟨rfl, hZ, hh⟩ := hP
  have hx := Bd.exec
  have hby := Bd.bytes
  have hml : c.maxLocals = 1 := hml0
  have hown : s.vm.findClass "java/lang/String" = some m.cls := findClass_of_methodNamed Bd.named
  have hnm := (name_of_methodNamed Bd.named Bd.method).1
  have X0 : Stand p l e ({ frames := 2, cells := 2, slots := 5, locals := 27 } : Room) s m #[(.int pp1)] below meth c s₁ [] 0 0 := Stand.of_body Bd
  have e0 : s₁.heap = h0 := by rw [← hh, Bd.state]; rfl
  have N0 := Fr.nil n0
  have pre0 : ∀ t, Steps p.tables e below (s₁.setTop (mkF m 0 #[.val (.int pp1)] [])) t → Steps p.tables e below (s₁.setTop (entryFrame m #[(.int pp1)] 1)) t := fun t k => castTop (ef_1 m pp1) k
  obtain ⟨T1, X1, e1, st1⟩ := getS2 X0 hx hZ hown (host := "") (Or.inl (hw _ (List.mem_of_getElem? (i := 7) rfl))) Via.refl e0 (S_COMPACT_STRINGS.ext O0.2) (g := (mkF m 0 #[.val (.int pp1)] [])) rfl (hb hby d1_0)
  have hc3 : ¬ (cs = (0 : Int32)) := hcs
  obtain ⟨_, _, ⟨T2, L2, k2, n2⟩, -, X2, ⟨Lc2, hQ2, l2, y2, z2⟩, st2⟩ := Jvm.LawKit.callS X1 hx (y := (⟨"java/lang/StringLatin1", "canEncode", "(C)Z"⟩ : MethodName)) hown (mvT hZ (hw _ (List.mem_of_getElem? (i := 8) rfl))) (mvT hZ (hw _ (List.mem_of_getElem? (i := 9) rfl))) (mvT hZ (hw _ (List.mem_of_getElem? (i := 10) rfl))) (mvT hZ (hw _ (List.mem_of_getElem? (i := 11) rfl))) (by decide) (backOf (W := 0) (rm2 l Z a0 hw [] pp1 h0 n0 Z0 (show ¬ (255 : Int32) < pp1 from hc)) hZ (hw _ (List.mem_of_getElem? (i := 11) rfl)) (hw _ (List.mem_of_getElem? (i := 10) rfl)) (by decide) (by decide)) (g := (mkF m 7 #[.val (.int pp1)] [(.int pp1)])) rfl (by rw [hml]; rfl) (argsL := [(.int pp1)]) (rest := []) (lenOf pd__28_C_29_Z rfl) rfl (by show 2 * 0 + _ ≤ _; exact Nat.le_of_eq rfl) (hb hby d1_7) (fun _ _ => ⟨rfl, e1, (by decide : 0 + 0 ≤ _), (by decide : 0 + 0 ≤ _)⟩)
  dsimp only [Pt.U, Pt.locs, Pt.cells, Pt.slots] at X2 l2 y2 z2 st2 hQ2
  subst y2 z2
  obtain ⟨rfl, N2q, e2⟩ := hQ2
  have N2 : Fr n0 L2 := by rw [l2]; exact Fr.app N0 N2q
  change Stand _ _ _ _ _ _ _ _ _ _ _ _ 0 0 at X2
  have hc10 : ¬ ((1 : Int32) = (0 : Int32)) := by decide
  obtain ⟨T3, h3, X3, e3, E3, A3, D3, -, st3⟩ := newO X2 hx hZ hown (hw _ (List.mem_of_getElem? (i := 12) rfl)) (hw _ (List.mem_of_getElem? (i := 13) rfl)) (hw _ (List.mem_of_getElem? (i := 5) rfl)) e2 (g := (mkF m 13 #[.val (.int pp1)] [])) rfl (hb hby d1_13) (by decide) (by decide)
  obtain ⟨b3, g3⟩ : ∃ z, z = h0.size := ⟨_, rfl⟩
  rw [← g3] at A3 D3 st3
  have g_b3 : n0 ≤ b3 := Nat.le_trans Z0 (Nat.le_of_eq g3.symm)
  have sz_b3 : h0.size ≤ b3 := Nat.le_trans (Keep.refl h0 []).1 (Nat.le_of_eq g3.symm)
  have Z3 : n0 ≤ h3.size := Nat.le_trans Z0 E3.1
  have K3 : Keep h0 h3 [] := (Keep.refl h0 []).ext E3
  have F3_value : Fld Z h3 b3 "java/lang/String" "value" "[B" .null := D3 (Or.inr (hw _ (List.mem_of_getElem? (i := 26) rfl))) (ty := (.array .byte)) (by decide)
  have F3_coder : Fld Z h3 b3 "java/lang/String" "coder" "B" (.int (0 : Int32)) := D3 (Or.inr (hw _ (List.mem_of_getElem? (i := 28) rfl))) (ty := .byte) (by decide)
  obtain ⟨_, _, ⟨T4, L4, k4, n4⟩, -, X4, ⟨Lc4, hQ4, l4, y4, z4⟩, st4⟩ := Jvm.LawKit.callS X3 hx (y := (⟨"java/lang/StringLatin1", "toBytes", "(C)[B"⟩ : MethodName)) hown (mvT hZ (hw _ (List.mem_of_getElem? (i := 14) rfl))) (mvT hZ (hw _ (List.mem_of_getElem? (i := 15) rfl))) (mvT hZ (hw _ (List.mem_of_getElem? (i := 10) rfl))) (mvT hZ (hw _ (List.mem_of_getElem? (i := 16) rfl))) (by decide) (backOf (W := 2) (rm3 l Z a0 hw [] pp1 h3 n0 Z3 ) hZ (hw _ (List.mem_of_getElem? (i := 16) rfl)) (hw _ (List.mem_of_getElem? (i := 10) rfl)) (by decide) (by decide)) (g := (mkF m 18 #[.val (.int pp1)] [(.int pp1), (.ref b3), (.ref b3)])) rfl (by rw [hml]; rfl) (argsL := [(.int pp1)]) (rest := [(.ref b3), (.ref b3)]) (lenOf pd__28_C_29__5b_B rfl) rfl (by show 2 * 0 + _ ≤ _; exact Nat.le_of_eq rfl) (hb hby d1_18) (fun _ _ => ⟨rfl, e3, (by decide : 1 + 1 ≤ _), (by decide : 4 + 1 ≤ _)⟩)
  dsimp only [Pt.U, Pt.locs, Pt.cells, Pt.slots] at X4 l4 y4 z4 st4 hQ4
  subst y4 z4
  obtain ⟨bx_4, rfl, N4q, K4c, g_bx_4, sb_bx_4⟩ := hQ4
  have N4 : Fr n0 L4 := by rw [l4]; exact Fr.app N2 N4q
  have sz_bx_4 : h0.size ≤ bx_4 := Nat.le_trans K3.1 sb_bx_4
  have Z4 : n0 ≤ T4.heap.size := Nat.le_trans Z3 K4c.1
  have K4 : Keep h0 T4.heap [] := K3.trans K4c all0
  change Stand _ _ _ _ _ _ _ _ _ _ _ _ 2 5 at X4
  have E_5 : Exa Z T4.heap b3 "java/lang/String" := (A3.keep K4c)
  have F_6 : Fld Z T4.heap b3 "java/lang/String" "value" "[B" .null := (F3_value.keep K4c nin0)
  have F_7 : Fld Z T4.heap b3 "java/lang/String" "coder" "B" (.int (0 : Int32)) := (F3_coder.keep K4c nin0)
  obtain ⟨_, _, ⟨T8, L8, k8, n8⟩, -, X8, ⟨Lc8, hQ8, l8, y8, z8⟩, st8⟩ := X4.specialBack hx (y := (⟨"java/lang/String", "<init>", "([BB)V"⟩ : MethodName)) rfl hown (mvT hZ (hw _ (List.mem_of_getElem? (i := 18) rfl))) (mvT hZ (hw _ (List.mem_of_getElem? (i := 19) rfl))) (mvT hZ (hw _ (List.mem_of_getElem? (i := 21) rfl))) (by decide) (backOf (W := 1) (rm4 l Z a0 hw [] b3 bx_4 .null (.int (0 : Int32)) T4.heap n0 Z4 E_5 g_b3 F_6 F_7) hZ (hw _ (List.mem_of_getElem? (i := 21) rfl)) (hw _ (List.mem_of_getElem? (i := 5) rfl)) (by decide) (by decide)) (g := (mkF m 22 #[.val (.int pp1)] [(.int (0 : Int32)), (.ref bx_4), (.ref b3), (.ref b3)])) rfl (by rw [hml]; rfl) (Steps.refl _) (a := b3) (argsL := [(.ref bx_4), (.int (0 : Int32))]) (rest := [(.ref b3)]) (lenOf pd__28__5b_BB_29_V rfl) rfl (by show 2 * 0 + _ ≤ _; exact Nat.le_of_eq rfl) (hb hby d1_22) (fun _ _ => ⟨rfl, rfl, (by decide : 2 + 0 ≤ _), (by decide : 5 + 0 ≤ _)⟩)
  dsimp only [Pt.U, Pt.locs, Pt.cells, Pt.slots] at X8 l8 y8 z8 st8 hQ8
  subst y8 z8
  obtain ⟨rfl, N8q, K8c, R8_0, R8_1⟩ := hQ8
  have N8 : Fr n0 L8 := by rw [l8]; exact Fr.app N4 N8q
  have Z8 : n0 ≤ T8.heap.size := Nat.le_trans Z4 K8c.1
  have K8 : Keep h0 T8.heap [] := K4.trans K8c (allS (Or.inr sz_b3) all0)
  change Stand _ _ _ _ _ _ _ _ _ _ _ _ 2 5 at X8
  obtain ⟨fs, hr, hrun, hended, hW, hsame⟩ := X8.leave (v := some (.ref b3)) (fun h => by rw [Bd.returns] at h; cases h)
  refine ⟨_, _, pre0 _ ?_, hrun, hended, _, _, rfl, ?_, ⟨_, rfl⟩, hW, hsame.mono (by decide) (by decide)⟩
  · show Steps p.tables e below (s₁.setTop (mkF m 0 #[.val (.int pp1)] [])) _
    refine st1 _ ?_
    show Steps p.tables e below (T1.setTop (mkF m 3 #[.val (.int pp1)] [(.int cs)])) _
    refine XS.ifNo X1.here hx rfl (hb hby d1_3) rfl ((if0 _ _).trans (feq hc3).1) ?_
    show Steps p.tables e below (T1.setTop (mkF m 6 #[.val (.int pp1)] [])) _
    refine XS.iloadN X1.here hx rfl (hb hby d1_6) rfl ?_
    show Steps p.tables e below (T1.setTop (mkF m 7 #[.val (.int pp1)] [(.int pp1)])) _
    refine st2 _ ?_
    show Steps p.tables e below (T2.setTop (mkF m 10 #[.val (.int pp1)] [(.int (1 : Int32))])) _
    refine XS.ifNo X2.here hx rfl (hb hby d1_10) rfl ((if0 _ _).trans (feq hc10).1) ?_
    show Steps p.tables e below (T2.setTop (mkF m 13 #[.val (.int pp1)] [])) _
    refine st3 _ ?_
    show Steps p.tables e below (T3.setTop (mkF m 16 #[.val (.int pp1)] [(.ref b3)])) _
    refine XS.dup X3.here hx rfl (hb hby d1_16) rfl rfl ?_
    show Steps p.tables e below (T3.setTop (mkF m 17 #[.val (.int pp1)] [(.ref b3), (.ref b3)])) _
    refine XS.iloadN X3.here hx rfl (hb hby d1_17) rfl ?_
    show Steps p.tables e below (T3.setTop (mkF m 18 #[.val (.int pp1)] [(.int pp1), (.ref b3), (.ref b3)])) _
    refine st4 _ ?_
    show Steps p.tables e below (T4.setTop (mkF m 21 #[.val (.int pp1)] [(.ref bx_4), (.ref b3), (.ref b3)])) _
    refine XS.iconst X4.here hx rfl (hb hby d1_21) ?_
    show Steps p.tables e below (T4.setTop (mkF m 22 #[.val (.int pp1)] [(.int (0 : Int32)), (.ref bx_4), (.ref b3), (.ref b3)])) _
    refine st8.trans ?_
    show Steps p.tables e below (T8.setTop (mkF m 25 #[.val (.int pp1)] [(.ref b3)])) _
    jvm_step X8.here [X8.here.top, hx, (hb hby d1_25), X8.method', Bd.returns, Value.isRef, FieldType.isReference]
    first | (intro acts; rw [hr _ acts rfl rfl rfl]) | rw [hr _ _ rfl rfl rfl]
    exact Steps.refl _
  · show Q1 Z pp1 cs h0 n0 _ T8.heap _
    exact ⟨b3, rfl, N8, K8, g_b3, sz_b3⟩
theorem pd__28__29_V : parseMethodDescriptor "()V" = some ⟨[], none⟩ := by decide +kernel
theorem pn_com_example_outremer_engine_outremerengine_board_Unit : plainName "com/example/outremer_engine/outremerengine/board/Unit" = true := by first | (simp [plainName, overriddenIn]; done) | decide +kernel
theorem d6_0 : decode prog_8_method_1_code 0 = .ok (.aload_n 0, 1) := by decide +kernel
theorem d6_1 : decode prog_8_method_1_code 1 = .ok (.invokespecial 1, 3) := by decide +kernel
theorem d6_4 : decode prog_8_method_1_code 4 = .ok (.aload_n 0, 1) := by decide +kernel
theorem d6_5 : decode prog_8_method_1_code 5 = .ok (.aload_n 1, 1) := by decide +kernel
theorem d6_6 : decode prog_8_method_1_code 6 = .ok (.putfield 7, 3) := by decide +kernel
theorem d6_9 : decode prog_8_method_1_code 9 = .ok (.aload_n 0, 1) := by decide +kernel
theorem d6_10 : decode prog_8_method_1_code 10 = .ok (.aload_n 2, 1) := by decide +kernel
theorem d6_11 : decode prog_8_method_1_code 11 = .ok (.putfield 13, 3) := by decide +kernel
theorem d6_14 : decode prog_8_method_1_code 14 = .ok (.aload_n 0, 1) := by decide +kernel
theorem d6_15 : decode prog_8_method_1_code 15 = .ok (.aload_n 3, 1) := by decide +kernel
theorem d6_16 : decode prog_8_method_1_code 16 = .ok (.putfield 17, 3) := by decide +kernel
theorem d6_19 : decode prog_8_method_1_code 19 = .ok (.return_, 1) := by decide +kernel
theorem ef_6 (m : MethodId) (x0 : Addr) (x1 : Addr) : entryFrame m #[(.ref x0), (.ref x1), .null, .null] 4 = mkF m 0 #[.val (.ref x0), .val (.ref x1), .val .null, .val .null] [] := by first | (simp [entryFrame, mkF, argsToLocals, Value.category]; done) | rfl
def Q6 (Z : State) (aa0 : Addr) (aa1 : Addr) (u_nation : Value) (u_type : Value) (u_place : Value) (h0 : Heap) (n0 : Nat) (v : Option Value) (h : Heap) (L : List Loc) : Prop := v = none ∧ Fr n0 L ∧ Keep h0 h [aa0] ∧ (Fld Z h aa0 "com/example/outremer_engine/outremerengine/board/Unit" "nation" "Ljava/lang/String;" (.ref aa1)) ∧ (Fld Z h aa0 "com/example/outremer_engine/outremerengine/board/Unit" "type" "Lcom/example/outremer_engine/outremerengine/board/UnitType;" .null) ∧ (Fld Z h aa0 "com/example/outremer_engine/outremerengine/board/Unit" "place" "Lcom/example/outremer_engine/outremerengine/board/Place;" .null)
set_option maxRecDepth 65536 in
set_option maxHeartbeats 40000000 in
theorem rm6 (l : Launch) (Z : State) (a0 : Array Value) (hw : ∀ d ∈ tables_1, d.before a0 Z = true) (ws : List Jvm.Cond) (aa0 : Addr) (aa1 : Addr) (u_nation : Value) (u_type : Value) (u_place : Value) (h0 : Heap) (n0 : Nat) (Z0 : n0 ≤ h0.size) (E_aa0 : Exa Z h0 aa0 "com/example/outremer_engine/outremerengine/board/Unit") (g_aa0 : n0 ≤ aa0) (F_aa0_nation : Fld Z h0 aa0 "com/example/outremer_engine/outremerengine/board/Unit" "nation" "Ljava/lang/String;" u_nation) (F_aa0_type : Fld Z h0 aa0 "com/example/outremer_engine/outremerengine/board/Unit" "type" "Lcom/example/outremer_engine/outremerengine/board/UnitType;" u_type) (F_aa0_place : Fld Z h0 aa0 "com/example/outremer_engine/outremerengine/board/Unit" "place" "Lcom/example/outremer_engine/outremerengine/board/Place;" u_place) :
    MetFree l (⟨"com/example/outremer_engine/outremerengine/board/Unit", "<init>", "(Ljava/lang/String;Lcom/example/outremer_engine/outremerengine/board/UnitType;Lcom/example/outremer_engine/outremerengine/board/Place;)V"⟩ : MethodName) (head1 (Jvm.Cond.code (⟨"com/example/outremer_engine/outremerengine/board/Unit", "<init>", "(Ljava/lang/String;Lcom/example/outremer_engine/outremerengine/board/UnitType;Lcom/example/outremer_engine/outremerengine/board/Place;)V"⟩ : MethodName) prog_8_method_1_code 4 none :: ws) ({ frames := 2, cells := 0, slots := 0, locals := 24 } : Room)) (fun a U => a = #[(.ref aa0), (.ref aa1), .null, .null] ∧ Z.Warmed39 U.vm ∧ U.heap = h0) (fun _ _ _ _ _ => True) (fun _ U o U' => ∃ v L, o = .returned v ∧ Q6 Z aa0 aa1 u_nation u_type u_place h0 n0 v U'.heap L ∧ FrameEnd U o U' L ({ frames := 2, cells := 0, slots := 0, locals := 24 } : Room).cells ({ frames := 2, cells := 0, slots := 0, locals := 24 } : Room).slots) := by
  refine MetFree.of_bodySF (plainFor_of_name pn_com_example_outremer_engine_outremerengine_board_Unit) hisR ?_
  intro p e s m args below meth c s₁ Bd hml0 hP hK
  obtain ⟨rfl, hZ, hh⟩ := hP
  have hx := Bd.exec
  have hby := Bd.bytes
  have hml : c.maxLocals = 4 := hml0
  have hown : s.vm.findClass "com/example/outremer_engine/outremerengine/board/Unit" = some m.cls := findClass_of_methodNamed Bd.named
  have hnm := (name_of_methodNamed Bd.named Bd.method).1
  have X0 : Stand p l e ({ frames := 2, cells := 0, slots := 0, locals := 24 } : Room) s m #[(.ref aa0), (.ref aa1), .null, .null] below meth c s₁ [] 0 0 := Stand.of_body Bd
  have e0 : s₁.heap = h0 := by rw [← hh, Bd.state]; rfl
  have N0 := Fr.nil n0
  have pre0 : ∀ t, Steps p.tables e below (s₁.setTop (mkF m 0 #[.val (.ref aa0), .val (.ref aa1), .val .null, .val .null] [])) t → Steps p.tables e below (s₁.setTop (entryFrame m #[(.ref aa0), (.ref aa1), .null, .null] 4)) t := fun t k => castTop (ef_6 m aa0 aa1) k
  obtain ⟨_, _, ⟨T1, L1, k1, n1⟩, -, X1, ⟨Lc1, hQ1, l1, y1, z1⟩, st1⟩ := X0.specialBack hx (y := (⟨"java/lang/Record", "<init>", "()V"⟩ : MethodName)) rfl hown (mvT hZ (hw _ (List.mem_of_getElem? (i := 32) rfl))) (mvT hZ (hw _ (List.mem_of_getElem? (i := 33) rfl))) (mvT hZ (hw _ (List.mem_of_getElem? (i := 36) rfl))) (by decide) (backOf (W := 0) (rm7 l Z a0 hw [] aa0 h0 n0 Z0 ) hZ (hw _ (List.mem_of_getElem? (i := 36) rfl)) (hw _ (List.mem_of_getElem? (i := 35) rfl)) (by decide) (by decide)) (g := (mkF m 1 #[.val (.ref aa0), .val (.ref aa1), .val .null, .val .null] [(.ref aa0)])) rfl (by rw [hml]; rfl) (Steps.refl _) (a := aa0) (argsL := []) (rest := []) (lenOf pd__28__29_V rfl) rfl (by show 2 * 0 + _ ≤ _; exact Nat.le_of_eq rfl) (hb hby d6_1) (fun _ _ => ⟨rfl, e0, (by decide : 0 + 0 ≤ _), (by decide : 0 + 0 ≤ _)⟩)
  dsimp only [Pt.U, Pt.locs, Pt.cells, Pt.slots] at X1 l1 y1 z1 st1 hQ1
  subst y1 z1
  obtain ⟨rfl, N1q, e1⟩ := hQ1
  have N1 : Fr n0 L1 := by rw [l1]; exact Fr.app N0 N1q
  change Stand _ _ _ _ _ _ _ _ _ _ _ _ 0 0 at X1
  obtain ⟨T2, h2, X2, e2, W2, st2⟩ := putF X1 hx hZ hown (host := "") (Or.inl (hw _ (List.mem_of_getElem? (i := 38) rfl))) Via.refl e1 F_aa0_nation E_aa0 (Or.inr ⟨(hw _ (List.mem_of_getElem? (i := 39) rfl)), rfl, hnm⟩) (hw _ (List.mem_of_getElem? (i := 1) rfl)) (ty := (.object "java/lang/String")) (by decide) rfl rfl (g := (mkF m 6 #[.val (.ref aa0), .val (.ref aa1), .val .null, .val .null] [(.ref aa1), (.ref aa0)])) rfl rfl (hb hby d6_6)
  have N2 := Fr.snoc X2 N1 g_aa0
  have Z2 : n0 ≤ h2.size := Nat.le_trans Z0 (Keep.of_wr W2).1
  have K2 : Keep h0 h2 [aa0] := (Keep.refl h0 [aa0]).wr W2 (Or.inl (List.mem_of_getElem? (i := 0) rfl))
  have F2 : Fld Z h2 aa0 "com/example/outremer_engine/outremerengine/board/Unit" "nation" "Ljava/lang/String;" (.ref aa1) := F_aa0_nation.same W2
  have E_3 : Exa Z h2 aa0 "com/example/outremer_engine/outremerengine/board/Unit" := (E_aa0.wr W2)
  have F_4 : Fld Z h2 aa0 "com/example/outremer_engine/outremerengine/board/Unit" "type" "Lcom/example/outremer_engine/outremerengine/board/UnitType;" u_type := (F_aa0_type.other W2 (Or.inr (slot_ne (Or.inr (hw _ (List.mem_of_getElem? (i := 41) rfl))) (Or.inr (hw _ (List.mem_of_getElem? (i := 39) rfl))) (by decide) (t := (.object "com/example/outremer_engine/outremerengine/board/UnitType")) (t' := (.object "java/lang/String")) (by decide) (by decide))))
  obtain ⟨T5, h5, X5, e5, W5, st5⟩ := putF X2 hx hZ hown (host := "") (Or.inl (hw _ (List.mem_of_getElem? (i := 40) rfl))) Via.refl e2 F_4 E_3 (Or.inr ⟨(hw _ (List.mem_of_getElem? (i := 41) rfl)), rfl, hnm⟩) (hw _ (List.mem_of_getElem? (i := 1) rfl)) (ty := (.object "com/example/outremer_engine/outremerengine/board/UnitType")) (by decide) rfl rfl (g := (mkF m 11 #[.val (.ref aa0), .val (.ref aa1), .val .null, .val .null] [.null, (.ref aa0)])) rfl rfl (hb hby d6_11)
  have N5 := Fr.snoc X5 N2 g_aa0
  have Z5 : n0 ≤ h5.size := Nat.le_trans Z2 (Keep.of_wr W5).1
  have K5 : Keep h0 h5 [aa0] := K2.wr W5 (Or.inl (List.mem_of_getElem? (i := 0) rfl))
  have F5 : Fld Z h5 aa0 "com/example/outremer_engine/outremerengine/board/Unit" "type" "Lcom/example/outremer_engine/outremerengine/board/UnitType;" .null := F_4.same W5
  have E_6 : Exa Z h5 aa0 "com/example/outremer_engine/outremerengine/board/Unit" := (E_3.wr W5)
  have F_7 : Fld Z h5 aa0 "com/example/outremer_engine/outremerengine/board/Unit" "place" "Lcom/example/outremer_engine/outremerengine/board/Place;" u_place := ((F_aa0_place.other W2 (Or.inr (slot_ne (Or.inr (hw _ (List.mem_of_getElem? (i := 43) rfl))) (Or.inr (hw _ (List.mem_of_getElem? (i := 39) rfl))) (by decide) (t := (.object "com/example/outremer_engine/outremerengine/board/Place")) (t' := (.object "java/lang/String")) (by decide) (by decide)))).other W5 (Or.inr (slot_ne (Or.inr (hw _ (List.mem_of_getElem? (i := 43) rfl))) (Or.inr (hw _ (List.mem_of_getElem? (i := 41) rfl))) (by decide) (t := (.object "com/example/outremer_engine/outremerengine/board/Place")) (t' := (.object "com/example/outremer_engine/outremerengine/board/UnitType")) (by decide) (by decide))))
  obtain ⟨T8, h8, X8, e8, W8, st8⟩ := putF X5 hx hZ hown (host := "") (Or.inl (hw _ (List.mem_of_getElem? (i := 42) rfl))) Via.refl e5 F_7 E_6 (Or.inr ⟨(hw _ (List.mem_of_getElem? (i := 43) rfl)), rfl, hnm⟩) (hw _ (List.mem_of_getElem? (i := 1) rfl)) (ty := (.object "com/example/outremer_engine/outremerengine/board/Place")) (by decide) rfl rfl (g := (mkF m 16 #[.val (.ref aa0), .val (.ref aa1), .val .null, .val .null] [.null, (.ref aa0)])) rfl rfl (hb hby d6_16)
  have N8 := Fr.snoc X8 N5 g_aa0
  have Z8 : n0 ≤ h8.size := Nat.le_trans Z5 (Keep.of_wr W8).1
  have K8 : Keep h0 h8 [aa0] := K5.wr W8 (Or.inl (List.mem_of_getElem? (i := 0) rfl))
  have F8 : Fld Z h8 aa0 "com/example/outremer_engine/outremerengine/board/Unit" "place" "Lcom/example/outremer_engine/outremerengine/board/Place;" .null := F_7.same W8
  have F_9 : Fld Z h8 aa0 "com/example/outremer_engine/outremerengine/board/Unit" "nation" "Ljava/lang/String;" (.ref aa1) := ((F2.other W5 (Or.inr (slot_ne (Or.inr (hw _ (List.mem_of_getElem? (i := 39) rfl))) (Or.inr (hw _ (List.mem_of_getElem? (i := 41) rfl))) (by decide) (t := (.object "java/lang/String")) (t' := (.object "com/example/outremer_engine/outremerengine/board/UnitType")) (by decide) (by decide)))).other W8 (Or.inr (slot_ne (Or.inr (hw _ (List.mem_of_getElem? (i := 39) rfl))) (Or.inr (hw _ (List.mem_of_getElem? (i := 43) rfl))) (by decide) (t := (.object "java/lang/String")) (t' := (.object "com/example/outremer_engine/outremerengine/board/Place")) (by decide) (by decide))))
  have F_10 : Fld Z h8 aa0 "com/example/outremer_engine/outremerengine/board/Unit" "type" "Lcom/example/outremer_engine/outremerengine/board/UnitType;" .null := (F5.other W8 (Or.inr (slot_ne (Or.inr (hw _ (List.mem_of_getElem? (i := 41) rfl))) (Or.inr (hw _ (List.mem_of_getElem? (i := 43) rfl))) (by decide) (t := (.object "com/example/outremer_engine/outremerengine/board/UnitType")) (t' := (.object "com/example/outremer_engine/outremerengine/board/Place")) (by decide) (by decide))))
  obtain ⟨fs, hr, hrun, hended, hW, hsame⟩ := X8.leave (v := none) (fun _ => rfl)
  refine ⟨_, _, pre0 _ ?_, hrun, hended, _, _, rfl, ?_, ⟨_, rfl⟩, hW, hsame.mono (by decide) (by decide)⟩
  · show Steps p.tables e below (s₁.setTop (mkF m 0 #[.val (.ref aa0), .val (.ref aa1), .val .null, .val .null] [])) _
    refine XS.aloadN X0.here hx rfl (hb hby d6_0) rfl rfl ?_
    show Steps p.tables e below (s₁.setTop (mkF m 1 #[.val (.ref aa0), .val (.ref aa1), .val .null, .val .null] [(.ref aa0)])) _
    refine st1.trans ?_
    show Steps p.tables e below (T1.setTop (mkF m 4 #[.val (.ref aa0), .val (.ref aa1), .val .null, .val .null] [])) _
    refine XS.aloadN X1.here hx rfl (hb hby d6_4) rfl rfl ?_
    show Steps p.tables e below (T1.setTop (mkF m 5 #[.val (.ref aa0), .val (.ref aa1), .val .null, .val .null] [(.ref aa0)])) _
    refine XS.aloadN X1.here hx rfl (hb hby d6_5) rfl rfl ?_
    show Steps p.tables e below (T1.setTop (mkF m 6 #[.val (.ref aa0), .val (.ref aa1), .val .null, .val .null] [(.ref aa1), (.ref aa0)])) _
    refine st2 _ ?_
    show Steps p.tables e below (T2.setTop (mkF m 9 #[.val (.ref aa0), .val (.ref aa1), .val .null, .val .null] [])) _
    refine XS.aloadN X2.here hx rfl (hb hby d6_9) rfl rfl ?_
    show Steps p.tables e below (T2.setTop (mkF m 10 #[.val (.ref aa0), .val (.ref aa1), .val .null, .val .null] [(.ref aa0)])) _
    refine XS.aloadN X2.here hx rfl (hb hby d6_10) rfl rfl ?_
    show Steps p.tables e below (T2.setTop (mkF m 11 #[.val (.ref aa0), .val (.ref aa1), .val .null, .val .null] [.null, (.ref aa0)])) _
    refine st5 _ ?_
    show Steps p.tables e below (T5.setTop (mkF m 14 #[.val (.ref aa0), .val (.ref aa1), .val .null, .val .null] [])) _
    refine XS.aloadN X5.here hx rfl (hb hby d6_14) rfl rfl ?_
    show Steps p.tables e below (T5.setTop (mkF m 15 #[.val (.ref aa0), .val (.ref aa1), .val .null, .val .null] [(.ref aa0)])) _
    refine XS.aloadN X5.here hx rfl (hb hby d6_15) rfl rfl ?_
    show Steps p.tables e below (T5.setTop (mkF m 16 #[.val (.ref aa0), .val (.ref aa1), .val .null, .val .null] [.null, (.ref aa0)])) _
    refine st8 _ ?_
    show Steps p.tables e below (T8.setTop (mkF m 19 #[.val (.ref aa0), .val (.ref aa1), .val .null, .val .null] [])) _
    exact X8.returnOut hx Bd.returns (hb hby d6_19) hr
  · show Q6 Z aa0 aa1 u_nation u_type u_place h0 n0 _ T8.heap _
    rw [e8]
    exact ⟨rfl, N8, K8, F_9, F_10, F8⟩
theorem pn_com_example_outremer_engine_outremerengine_board_Place : plainName "com/example/outremer_engine/outremerengine/board/Place" = true := by first | (simp [plainName, overriddenIn]; done) | decide +kernel
theorem d8_0 : decode prog_5_method_2_code 0 = .ok (.aload_n 0, 1) := by decide +kernel
theorem d8_1 : decode prog_5_method_2_code 1 = .ok (.invokespecial 1, 3) := by decide +kernel
theorem d8_4 : decode prog_5_method_2_code 4 = .ok (.aload_n 0, 1) := by decide +kernel
theorem d8_5 : decode prog_5_method_2_code 5 = .ok (.aload_n 1, 1) := by decide +kernel
theorem d8_6 : decode prog_5_method_2_code 6 = .ok (.putfield 7, 3) := by decide +kernel
theorem d8_9 : decode prog_5_method_2_code 9 = .ok (.aload_n 0, 1) := by decide +kernel
theorem d8_10 : decode prog_5_method_2_code 10 = .ok (.aload_n 2, 1) := by decide +kernel
theorem d8_11 : decode prog_5_method_2_code 11 = .ok (.putfield 13, 3) := by decide +kernel
theorem d8_14 : decode prog_5_method_2_code 14 = .ok (.return_, 1) := by decide +kernel
theorem ef_8 (m : MethodId) (x0 : Addr) (x2 : Addr) : entryFrame m #[(.ref x0), .null, (.ref x2)] 3 = mkF m 0 #[.val (.ref x0), .val .null, .val (.ref x2)] [] := by first | (simp [entryFrame, mkF, argsToLocals, Value.category]; done) | rfl
def Q8 (Z : State) (aa0 : Addr) (aa2 : Addr) (u_province : Value) (u_coast : Value) (h0 : Heap) (n0 : Nat) (v : Option Value) (h : Heap) (L : List Loc) : Prop := v = none ∧ Fr n0 L ∧ Keep h0 h [aa0] ∧ (Fld Z h aa0 "com/example/outremer_engine/outremerengine/board/Place" "province" "Lcom/example/outremer_engine/outremerengine/board/Province;" .null) ∧ (Fld Z h aa0 "com/example/outremer_engine/outremerengine/board/Place" "coast" "Ljava/lang/String;" (.ref aa2))
set_option maxRecDepth 65536 in
set_option maxHeartbeats 40000000 in
theorem rm8 (l : Launch) (Z : State) (a0 : Array Value) (hw : ∀ d ∈ tables_1, d.before a0 Z = true) (ws : List Jvm.Cond) (aa0 : Addr) (aa2 : Addr) (u_province : Value) (u_coast : Value) (h0 : Heap) (n0 : Nat) (Z0 : n0 ≤ h0.size) (E_aa0 : Exa Z h0 aa0 "com/example/outremer_engine/outremerengine/board/Place") (g_aa0 : n0 ≤ aa0) (F_aa0_province : Fld Z h0 aa0 "com/example/outremer_engine/outremerengine/board/Place" "province" "Lcom/example/outremer_engine/outremerengine/board/Province;" u_province) (F_aa0_coast : Fld Z h0 aa0 "com/example/outremer_engine/outremerengine/board/Place" "coast" "Ljava/lang/String;" u_coast) :
    MetFree l (⟨"com/example/outremer_engine/outremerengine/board/Place", "<init>", "(Lcom/example/outremer_engine/outremerengine/board/Province;Ljava/lang/String;)V"⟩ : MethodName) (head1 (Jvm.Cond.code (⟨"com/example/outremer_engine/outremerengine/board/Place", "<init>", "(Lcom/example/outremer_engine/outremerengine/board/Province;Ljava/lang/String;)V"⟩ : MethodName) prog_5_method_2_code 3 none :: ws) ({ frames := 2, cells := 0, slots := 0, locals := 24 } : Room)) (fun a U => a = #[(.ref aa0), .null, (.ref aa2)] ∧ Z.Warmed39 U.vm ∧ U.heap = h0) (fun _ _ _ _ _ => True) (fun _ U o U' => ∃ v L, o = .returned v ∧ Q8 Z aa0 aa2 u_province u_coast h0 n0 v U'.heap L ∧ FrameEnd U o U' L ({ frames := 2, cells := 0, slots := 0, locals := 24 } : Room).cells ({ frames := 2, cells := 0, slots := 0, locals := 24 } : Room).slots) := by
  refine MetFree.of_bodySF (plainFor_of_name pn_com_example_outremer_engine_outremerengine_board_Place) hisR ?_
  intro p e s m args below meth c s₁ Bd hml0 hP hK
  obtain ⟨rfl, hZ, hh⟩ := hP
  have hx := Bd.exec
  have hby := Bd.bytes
  have hml : c.maxLocals = 3 := hml0
  have hown : s.vm.findClass "com/example/outremer_engine/outremerengine/board/Place" = some m.cls := findClass_of_methodNamed Bd.named
  have hnm := (name_of_methodNamed Bd.named Bd.method).1
  have X0 : Stand p l e ({ frames := 2, cells := 0, slots := 0, locals := 24 } : Room) s m #[(.ref aa0), .null, (.ref aa2)] below meth c s₁ [] 0 0 := Stand.of_body Bd
  have e0 : s₁.heap = h0 := by rw [← hh, Bd.state]; rfl
  have N0 := Fr.nil n0
  have pre0 : ∀ t, Steps p.tables e below (s₁.setTop (mkF m 0 #[.val (.ref aa0), .val .null, .val (.ref aa2)] [])) t → Steps p.tables e below (s₁.setTop (entryFrame m #[(.ref aa0), .null, (.ref aa2)] 3)) t := fun t k => castTop (ef_8 m aa0 aa2) k
  obtain ⟨_, _, ⟨T1, L1, k1, n1⟩, -, X1, ⟨Lc1, hQ1, l1, y1, z1⟩, st1⟩ := X0.specialBack hx (y := (⟨"java/lang/Record", "<init>", "()V"⟩ : MethodName)) rfl hown (mvT hZ (hw _ (List.mem_of_getElem? (i := 50) rfl))) (mvT hZ (hw _ (List.mem_of_getElem? (i := 33) rfl))) (mvT hZ (hw _ (List.mem_of_getElem? (i := 36) rfl))) (by decide) (backOf (W := 0) (rm7 l Z a0 hw [] aa0 h0 n0 Z0 ) hZ (hw _ (List.mem_of_getElem? (i := 36) rfl)) (hw _ (List.mem_of_getElem? (i := 35) rfl)) (by decide) (by decide)) (g := (mkF m 1 #[.val (.ref aa0), .val .null, .val (.ref aa2)] [(.ref aa0)])) rfl (by rw [hml]; rfl) (Steps.refl _) (a := aa0) (argsL := []) (rest := []) (lenOf pd__28__29_V rfl) rfl (by show 2 * 0 + _ ≤ _; exact Nat.le_of_eq rfl) (hb hby d8_1) (fun _ _ => ⟨rfl, e0, (by decide : 0 + 0 ≤ _), (by decide : 0 + 0 ≤ _)⟩)
  dsimp only [Pt.U, Pt.locs, Pt.cells, Pt.slots] at X1 l1 y1 z1 st1 hQ1
  subst y1 z1
  obtain ⟨rfl, N1q, e1⟩ := hQ1
  have N1 : Fr n0 L1 := by rw [l1]; exact Fr.app N0 N1q
  change Stand _ _ _ _ _ _ _ _ _ _ _ _ 0 0 at X1
  obtain ⟨T2, h2, X2, e2, W2, st2⟩ := putF X1 hx hZ hown (host := "") (Or.inl (hw _ (List.mem_of_getElem? (i := 51) rfl))) Via.refl e1 F_aa0_province E_aa0 (Or.inr ⟨(hw _ (List.mem_of_getElem? (i := 52) rfl)), rfl, hnm⟩) (hw _ (List.mem_of_getElem? (i := 45) rfl)) (ty := (.object "com/example/outremer_engine/outremerengine/board/Province")) (by decide) rfl rfl (g := (mkF m 6 #[.val (.ref aa0), .val .null, .val (.ref aa2)] [.null, (.ref aa0)])) rfl rfl (hb hby d8_6)
  have N2 := Fr.snoc X2 N1 g_aa0
  have Z2 : n0 ≤ h2.size := Nat.le_trans Z0 (Keep.of_wr W2).1
  have K2 : Keep h0 h2 [aa0] := (Keep.refl h0 [aa0]).wr W2 (Or.inl (List.mem_of_getElem? (i := 0) rfl))
  have F2 : Fld Z h2 aa0 "com/example/outremer_engine/outremerengine/board/Place" "province" "Lcom/example/outremer_engine/outremerengine/board/Province;" .null := F_aa0_province.same W2
  have E_3 : Exa Z h2 aa0 "com/example/outremer_engine/outremerengine/board/Place" := (E_aa0.wr W2)
  have F_4 : Fld Z h2 aa0 "com/example/outremer_engine/outremerengine/board/Place" "coast" "Ljava/lang/String;" u_coast := (F_aa0_coast.other W2 (Or.inr (slot_ne (Or.inr (hw _ (List.mem_of_getElem? (i := 54) rfl))) (Or.inr (hw _ (List.mem_of_getElem? (i := 52) rfl))) (by decide) (t := (.object "java/lang/String")) (t' := (.object "com/example/outremer_engine/outremerengine/board/Province")) (by decide) (by decide))))
  obtain ⟨T5, h5, X5, e5, W5, st5⟩ := putF X2 hx hZ hown (host := "") (Or.inl (hw _ (List.mem_of_getElem? (i := 53) rfl))) Via.refl e2 F_4 E_3 (Or.inr ⟨(hw _ (List.mem_of_getElem? (i := 54) rfl)), rfl, hnm⟩) (hw _ (List.mem_of_getElem? (i := 45) rfl)) (ty := (.object "java/lang/String")) (by decide) rfl rfl (g := (mkF m 11 #[.val (.ref aa0), .val .null, .val (.ref aa2)] [(.ref aa2), (.ref aa0)])) rfl rfl (hb hby d8_11)
  have N5 := Fr.snoc X5 N2 g_aa0
  have Z5 : n0 ≤ h5.size := Nat.le_trans Z2 (Keep.of_wr W5).1
  have K5 : Keep h0 h5 [aa0] := K2.wr W5 (Or.inl (List.mem_of_getElem? (i := 0) rfl))
  have F5 : Fld Z h5 aa0 "com/example/outremer_engine/outremerengine/board/Place" "coast" "Ljava/lang/String;" (.ref aa2) := F_4.same W5
  have F_6 : Fld Z h5 aa0 "com/example/outremer_engine/outremerengine/board/Place" "province" "Lcom/example/outremer_engine/outremerengine/board/Province;" .null := (F2.other W5 (Or.inr (slot_ne (Or.inr (hw _ (List.mem_of_getElem? (i := 52) rfl))) (Or.inr (hw _ (List.mem_of_getElem? (i := 54) rfl))) (by decide) (t := (.object "com/example/outremer_engine/outremerengine/board/Province")) (t' := (.object "java/lang/String")) (by decide) (by decide))))
  obtain ⟨fs, hr, hrun, hended, hW, hsame⟩ := X5.leave (v := none) (fun _ => rfl)
  refine ⟨_, _, pre0 _ ?_, hrun, hended, _, _, rfl, ?_, ⟨_, rfl⟩, hW, hsame.mono (by decide) (by decide)⟩
  · show Steps p.tables e below (s₁.setTop (mkF m 0 #[.val (.ref aa0), .val .null, .val (.ref aa2)] [])) _
    refine XS.aloadN X0.here hx rfl (hb hby d8_0) rfl rfl ?_
    show Steps p.tables e below (s₁.setTop (mkF m 1 #[.val (.ref aa0), .val .null, .val (.ref aa2)] [(.ref aa0)])) _
    refine st1.trans ?_
    show Steps p.tables e below (T1.setTop (mkF m 4 #[.val (.ref aa0), .val .null, .val (.ref aa2)] [])) _
    refine XS.aloadN X1.here hx rfl (hb hby d8_4) rfl rfl ?_
    show Steps p.tables e below (T1.setTop (mkF m 5 #[.val (.ref aa0), .val .null, .val (.ref aa2)] [(.ref aa0)])) _
    refine XS.aloadN X1.here hx rfl (hb hby d8_5) rfl rfl ?_
    show Steps p.tables e below (T1.setTop (mkF m 6 #[.val (.ref aa0), .val .null, .val (.ref aa2)] [.null, (.ref aa0)])) _
    refine st2 _ ?_
    show Steps p.tables e below (T2.setTop (mkF m 9 #[.val (.ref aa0), .val .null, .val (.ref aa2)] [])) _
    refine XS.aloadN X2.here hx rfl (hb hby d8_9) rfl rfl ?_
    show Steps p.tables e below (T2.setTop (mkF m 10 #[.val (.ref aa0), .val .null, .val (.ref aa2)] [(.ref aa0)])) _
    refine XS.aloadN X2.here hx rfl (hb hby d8_10) rfl rfl ?_
    show Steps p.tables e below (T2.setTop (mkF m 11 #[.val (.ref aa0), .val .null, .val (.ref aa2)] [(.ref aa2), (.ref aa0)])) _
    refine st5 _ ?_
    show Steps p.tables e below (T5.setTop (mkF m 14 #[.val (.ref aa0), .val .null, .val (.ref aa2)] [])) _
    exact X5.returnOut hx Bd.returns (hb hby d8_14) hr
  · show Q8 Z aa0 aa2 u_province u_coast h0 n0 _ T5.heap _
    rw [e5]
    exact ⟨rfl, N5, K5, F_6, F5⟩
theorem pn_com_example_outremer_engine_outremerengine_diplomacy_Order_Convoy : plainName "com/example/outremer_engine/outremerengine/diplomacy/Order$Convoy" = true := by first | (simp [plainName, overriddenIn]; done) | decide +kernel
theorem d9_0 : decode prog_76_method_1_code 0 = .ok (.aload_n 0, 1) := by decide +kernel
theorem d9_1 : decode prog_76_method_1_code 1 = .ok (.invokespecial 1, 3) := by decide +kernel
theorem d9_4 : decode prog_76_method_1_code 4 = .ok (.aload_n 0, 1) := by decide +kernel
theorem d9_5 : decode prog_76_method_1_code 5 = .ok (.aload_n 1, 1) := by decide +kernel
theorem d9_6 : decode prog_76_method_1_code 6 = .ok (.putfield 7, 3) := by decide +kernel
theorem d9_9 : decode prog_76_method_1_code 9 = .ok (.aload_n 0, 1) := by decide +kernel
theorem d9_10 : decode prog_76_method_1_code 10 = .ok (.aload_n 2, 1) := by decide +kernel
theorem d9_11 : decode prog_76_method_1_code 11 = .ok (.putfield 13, 3) := by decide +kernel
theorem d9_14 : decode prog_76_method_1_code 14 = .ok (.aload_n 0, 1) := by decide +kernel
theorem d9_15 : decode prog_76_method_1_code 15 = .ok (.aload_n 3, 1) := by decide +kernel
theorem d9_16 : decode prog_76_method_1_code 16 = .ok (.putfield 17, 3) := by decide +kernel
theorem d9_19 : decode prog_76_method_1_code 19 = .ok (.aload_n 0, 1) := by decide +kernel
theorem d9_20 : decode prog_76_method_1_code 20 = .ok (.aload 4, 2) := by decide +kernel
theorem d9_22 : decode prog_76_method_1_code 22 = .ok (.putfield 21, 3) := by decide +kernel
theorem d9_25 : decode prog_76_method_1_code 25 = .ok (.return_, 1) := by decide +kernel
theorem ef_9 (m : MethodId) (x0 : Addr) (x1 : Addr) (x3 : Addr) (x4 : Addr) : entryFrame m #[(.ref x0), (.ref x1), .null, (.ref x3), (.ref x4)] 5 = mkF m 0 #[.val (.ref x0), .val (.ref x1), .val .null, .val (.ref x3), .val (.ref x4)] [] := by first | (simp [entryFrame, mkF, argsToLocals, Value.category]; done) | rfl
def Q9 (Z : State) (aa0 : Addr) (aa1 : Addr) (aa3 : Addr) (aa4 : Addr) (u_unit : Value) (u_convoyedType : Value) (u_from : Value) (u_to : Value) (h0 : Heap) (n0 : Nat) (v : Option Value) (h : Heap) (L : List Loc) : Prop := v = none ∧ Fr n0 L ∧ Keep h0 h [aa0] ∧ (Fld Z h aa0 "com/example/outremer_engine/outremerengine/diplomacy/Order$Convoy" "unit" "Lcom/example/outremer_engine/outremerengine/board/Unit;" (.ref aa1)) ∧ (Fld Z h aa0 "com/example/outremer_engine/outremerengine/diplomacy/Order$Convoy" "convoyedType" "Lcom/example/outremer_engine/outremerengine/board/UnitType;" .null) ∧ (Fld Z h aa0 "com/example/outremer_engine/outremerengine/diplomacy/Order$Convoy" "from" "Lcom/example/outremer_engine/outremerengine/board/Place;" (.ref aa3)) ∧ (Fld Z h aa0 "com/example/outremer_engine/outremerengine/diplomacy/Order$Convoy" "to" "Lcom/example/outremer_engine/outremerengine/board/Place;" (.ref aa4))
set_option maxRecDepth 65536 in
set_option maxHeartbeats 40000000 in
theorem rm9 (l : Launch) (Z : State) (a0 : Array Value) (hw : ∀ d ∈ tables_1, d.before a0 Z = true) (ws : List Jvm.Cond) (aa0 : Addr) (aa1 : Addr) (aa3 : Addr) (aa4 : Addr) (u_unit : Value) (u_convoyedType : Value) (u_from : Value) (u_to : Value) (h0 : Heap) (n0 : Nat) (Z0 : n0 ≤ h0.size) (E_aa0 : Exa Z h0 aa0 "com/example/outremer_engine/outremerengine/diplomacy/Order$Convoy") (g_aa0 : n0 ≤ aa0) (F_aa0_unit : Fld Z h0 aa0 "com/example/outremer_engine/outremerengine/diplomacy/Order$Convoy" "unit" "Lcom/example/outremer_engine/outremerengine/board/Unit;" u_unit) (F_aa0_convoyedType : Fld Z h0 aa0 "com/example/outremer_engine/outremerengine/diplomacy/Order$Convoy" "convoyedType" "Lcom/example/outremer_engine/outremerengine/board/UnitType;" u_convoyedType) (F_aa0_from : Fld Z h0 aa0 "com/example/outremer_engine/outremerengine/diplomacy/Order$Convoy" "from" "Lcom/example/outremer_engine/outremerengine/board/Place;" u_from) (F_aa0_to : Fld Z h0 aa0 "com/example/outremer_engine/outremerengine/diplomacy/Order$Convoy" "to" "Lcom/example/outremer_engine/outremerengine/board/Place;" u_to) :
    MetFree l (⟨"com/example/outremer_engine/outremerengine/diplomacy/Order$Convoy", "<init>", "(Lcom/example/outremer_engine/outremerengine/board/Unit;Lcom/example/outremer_engine/outremerengine/board/UnitType;Lcom/example/outremer_engine/outremerengine/board/Place;Lcom/example/outremer_engine/outremerengine/board/Place;)V"⟩ : MethodName) (head1 (Jvm.Cond.code (⟨"com/example/outremer_engine/outremerengine/diplomacy/Order$Convoy", "<init>", "(Lcom/example/outremer_engine/outremerengine/board/Unit;Lcom/example/outremer_engine/outremerengine/board/UnitType;Lcom/example/outremer_engine/outremerengine/board/Place;Lcom/example/outremer_engine/outremerengine/board/Place;)V"⟩ : MethodName) prog_76_method_1_code 5 none :: ws) ({ frames := 2, cells := 0, slots := 0, locals := 24 } : Room)) (fun a U => a = #[(.ref aa0), (.ref aa1), .null, (.ref aa3), (.ref aa4)] ∧ Z.Warmed39 U.vm ∧ U.heap = h0) (fun _ _ _ _ _ => True) (fun _ U o U' => ∃ v L, o = .returned v ∧ Q9 Z aa0 aa1 aa3 aa4 u_unit u_convoyedType u_from u_to h0 n0 v U'.heap L ∧ FrameEnd U o U' L ({ frames := 2, cells := 0, slots := 0, locals := 24 } : Room).cells ({ frames := 2, cells := 0, slots := 0, locals := 24 } : Room).slots) := by
  refine MetFree.of_bodySF (plainFor_of_name pn_com_example_outremer_engine_outremerengine_diplomacy_Order_Convoy) hisR ?_
  intro p e s m args below meth c s₁ Bd hml0 hP hK
  obtain ⟨rfl, hZ, hh⟩ := hP
  have hx := Bd.exec
  have hby := Bd.bytes
  have hml : c.maxLocals = 5 := hml0
  have hown : s.vm.findClass "com/example/outremer_engine/outremerengine/diplomacy/Order$Convoy" = some m.cls := findClass_of_methodNamed Bd.named
  have hnm := (name_of_methodNamed Bd.named Bd.method).1
  have X0 : Stand p l e ({ frames := 2, cells := 0, slots := 0, locals := 24 } : Room) s m #[(.ref aa0), (.ref aa1), .null, (.ref aa3), (.ref aa4)] below meth c s₁ [] 0 0 := Stand.of_body Bd
  have e0 : s₁.heap = h0 := by rw [← hh, Bd.state]; rfl
  have N0 := Fr.nil n0
  have pre0 : ∀ t, Steps p.tables e below (s₁.setTop (mkF m 0 #[.val (.ref aa0), .val (.ref aa1), .val .null, .val (.ref aa3), .val (.ref aa4)] [])) t → Steps p.tables e below (s₁.setTop (entryFrame m #[(.ref aa0), (.ref aa1), .null, (.ref aa3), (.ref aa4)] 5)) t := fun t k => castTop (ef_9 m aa0 aa1 aa3 aa4) k
  obtain ⟨_, _, ⟨T1, L1, k1, n1⟩, -, X1, ⟨Lc1, hQ1, l1, y1, z1⟩, st1⟩ := X0.specialBack hx (y := (⟨"java/lang/Record", "<init>", "()V"⟩ : MethodName)) rfl hown (mvT hZ (hw _ (List.mem_of_getElem? (i := 61) rfl))) (mvT hZ (hw _ (List.mem_of_getElem? (i := 33) rfl))) (mvT hZ (hw _ (List.mem_of_getElem? (i := 36) rfl))) (by decide) (backOf (W := 0) (rm7 l Z a0 hw [] aa0 h0 n0 Z0 ) hZ (hw _ (List.mem_of_getElem? (i := 36) rfl)) (hw _ (List.mem_of_getElem? (i := 35) rfl)) (by decide) (by decide)) (g := (mkF m 1 #[.val (.ref aa0), .val (.ref aa1), .val .null, .val (.ref aa3), .val (.ref aa4)] [(.ref aa0)])) rfl (by rw [hml]; rfl) (Steps.refl _) (a := aa0) (argsL := []) (rest := []) (lenOf pd__28__29_V rfl) rfl (by show 2 * 0 + _ ≤ _; exact Nat.le_of_eq rfl) (hb hby d9_1) (fun _ _ => ⟨rfl, e0, (by decide : 0 + 0 ≤ _), (by decide : 0 + 0 ≤ _)⟩)
  dsimp only [Pt.U, Pt.locs, Pt.cells, Pt.slots] at X1 l1 y1 z1 st1 hQ1
  subst y1 z1
  obtain ⟨rfl, N1q, e1⟩ := hQ1
  have N1 : Fr n0 L1 := by rw [l1]; exact Fr.app N0 N1q
  change Stand _ _ _ _ _ _ _ _ _ _ _ _ 0 0 at X1
  obtain ⟨T2, h2, X2, e2, W2, st2⟩ := putF X1 hx hZ hown (host := "") (Or.inl (hw _ (List.mem_of_getElem? (i := 62) rfl))) Via.refl e1 F_aa0_unit E_aa0 (Or.inr ⟨(hw _ (List.mem_of_getElem? (i := 63) rfl)), rfl, hnm⟩) (hw _ (List.mem_of_getElem? (i := 56) rfl)) (ty := (.object "com/example/outremer_engine/outremerengine/board/Unit")) (by decide) rfl rfl (g := (mkF m 6 #[.val (.ref aa0), .val (.ref aa1), .val .null, .val (.ref aa3), .val (.ref aa4)] [(.ref aa1), (.ref aa0)])) rfl rfl (hb hby d9_6)
  have N2 := Fr.snoc X2 N1 g_aa0
  have Z2 : n0 ≤ h2.size := Nat.le_trans Z0 (Keep.of_wr W2).1
  have K2 : Keep h0 h2 [aa0] := (Keep.refl h0 [aa0]).wr W2 (Or.inl (List.mem_of_getElem? (i := 0) rfl))
  have F2 : Fld Z h2 aa0 "com/example/outremer_engine/outremerengine/diplomacy/Order$Convoy" "unit" "Lcom/example/outremer_engine/outremerengine/board/Unit;" (.ref aa1) := F_aa0_unit.same W2
  have E_3 : Exa Z h2 aa0 "com/example/outremer_engine/outremerengine/diplomacy/Order$Convoy" := (E_aa0.wr W2)
  have F_4 : Fld Z h2 aa0 "com/example/outremer_engine/outremerengine/diplomacy/Order$Convoy" "convoyedType" "Lcom/example/outremer_engine/outremerengine/board/UnitType;" u_convoyedType := (F_aa0_convoyedType.other W2 (Or.inr (slot_ne (Or.inr (hw _ (List.mem_of_getElem? (i := 65) rfl))) (Or.inr (hw _ (List.mem_of_getElem? (i := 63) rfl))) (by decide) (t := (.object "com/example/outremer_engine/outremerengine/board/UnitType")) (t' := (.object "com/example/outremer_engine/outremerengine/board/Unit")) (by decide) (by decide))))
  obtain ⟨T5, h5, X5, e5, W5, st5⟩ := putF X2 hx hZ hown (host := "") (Or.inl (hw _ (List.mem_of_getElem? (i := 64) rfl))) Via.refl e2 F_4 E_3 (Or.inr ⟨(hw _ (List.mem_of_getElem? (i := 65) rfl)), rfl, hnm⟩) (hw _ (List.mem_of_getElem? (i := 56) rfl)) (ty := (.object "com/example/outremer_engine/outremerengine/board/UnitType")) (by decide) rfl rfl (g := (mkF m 11 #[.val (.ref aa0), .val (.ref aa1), .val .null, .val (.ref aa3), .val (.ref aa4)] [.null, (.ref aa0)])) rfl rfl (hb hby d9_11)
  have N5 := Fr.snoc X5 N2 g_aa0
  have Z5 : n0 ≤ h5.size := Nat.le_trans Z2 (Keep.of_wr W5).1
  have K5 : Keep h0 h5 [aa0] := K2.wr W5 (Or.inl (List.mem_of_getElem? (i := 0) rfl))
  have F5 : Fld Z h5 aa0 "com/example/outremer_engine/outremerengine/diplomacy/Order$Convoy" "convoyedType" "Lcom/example/outremer_engine/outremerengine/board/UnitType;" .null := F_4.same W5
  have E_6 : Exa Z h5 aa0 "com/example/outremer_engine/outremerengine/diplomacy/Order$Convoy" := (E_3.wr W5)
  have F_7 : Fld Z h5 aa0 "com/example/outremer_engine/outremerengine/diplomacy/Order$Convoy" "from" "Lcom/example/outremer_engine/outremerengine/board/Place;" u_from := ((F_aa0_from.other W2 (Or.inr (slot_ne (Or.inr (hw _ (List.mem_of_getElem? (i := 67) rfl))) (Or.inr (hw _ (List.mem_of_getElem? (i := 63) rfl))) (by decide) (t := (.object "com/example/outremer_engine/outremerengine/board/Place")) (t' := (.object "com/example/outremer_engine/outremerengine/board/Unit")) (by decide) (by decide)))).other W5 (Or.inr (slot_ne (Or.inr (hw _ (List.mem_of_getElem? (i := 67) rfl))) (Or.inr (hw _ (List.mem_of_getElem? (i := 65) rfl))) (by decide) (t := (.object "com/example/outremer_engine/outremerengine/board/Place")) (t' := (.object "com/example/outremer_engine/outremerengine/board/UnitType")) (by decide) (by decide))))
  obtain ⟨T8, h8, X8, e8, W8, st8⟩ := putF X5 hx hZ hown (host := "") (Or.inl (hw _ (List.mem_of_getElem? (i := 66) rfl))) Via.refl e5 F_7 E_6 (Or.inr ⟨(hw _ (List.mem_of_getElem? (i := 67) rfl)), rfl, hnm⟩) (hw _ (List.mem_of_getElem? (i := 56) rfl)) (ty := (.object "com/example/outremer_engine/outremerengine/board/Place")) (by decide) rfl rfl (g := (mkF m 16 #[.val (.ref aa0), .val (.ref aa1), .val .null, .val (.ref aa3), .val (.ref aa4)] [(.ref aa3), (.ref aa0)])) rfl rfl (hb hby d9_16)
  have N8 := Fr.snoc X8 N5 g_aa0
  have Z8 : n0 ≤ h8.size := Nat.le_trans Z5 (Keep.of_wr W8).1
  have K8 : Keep h0 h8 [aa0] := K5.wr W8 (Or.inl (List.mem_of_getElem? (i := 0) rfl))
  have F8 : Fld Z h8 aa0 "com/example/outremer_engine/outremerengine/diplomacy/Order$Convoy" "from" "Lcom/example/outremer_engine/outremerengine/board/Place;" (.ref aa3) := F_7.same W8
  have E_9 : Exa Z h8 aa0 "com/example/outremer_engine/outremerengine/diplomacy/Order$Convoy" := (E_6.wr W8)
  have F_10 : Fld Z h8 aa0 "com/example/outremer_engine/outremerengine/diplomacy/Order$Convoy" "to" "Lcom/example/outremer_engine/outremerengine/board/Place;" u_to := (((F_aa0_to.other W2 (Or.inr (slot_ne (Or.inr (hw _ (List.mem_of_getElem? (i := 69) rfl))) (Or.inr (hw _ (List.mem_of_getElem? (i := 63) rfl))) (by decide) (t := (.object "com/example/outremer_engine/outremerengine/board/Place")) (t' := (.object "com/example/outremer_engine/outremerengine/board/Unit")) (by decide) (by decide)))).other W5 (Or.inr (slot_ne (Or.inr (hw _ (List.mem_of_getElem? (i := 69) rfl))) (Or.inr (hw _ (List.mem_of_getElem? (i := 65) rfl))) (by decide) (t := (.object "com/example/outremer_engine/outremerengine/board/Place")) (t' := (.object "com/example/outremer_engine/outremerengine/board/UnitType")) (by decide) (by decide)))).other W8 (Or.inr (slot_ne (Or.inr (hw _ (List.mem_of_getElem? (i := 69) rfl))) (Or.inr (hw _ (List.mem_of_getElem? (i := 67) rfl))) (by decide) (t := (.object "com/example/outremer_engine/outremerengine/board/Place")) (t' := (.object "com/example/outremer_engine/outremerengine/board/Place")) (by decide) (by decide))))
  obtain ⟨T11, h11, X11, e11, W11, st11⟩ := putF X8 hx hZ hown (host := "") (Or.inl (hw _ (List.mem_of_getElem? (i := 68) rfl))) Via.refl e8 F_10 E_9 (Or.inr ⟨(hw _ (List.mem_of_getElem? (i := 69) rfl)), rfl, hnm⟩) (hw _ (List.mem_of_getElem? (i := 56) rfl)) (ty := (.object "com/example/outremer_engine/outremerengine/board/Place")) (by decide) rfl rfl (g := (mkF m 22 #[.val (.ref aa0), .val (.ref aa1), .val .null, .val (.ref aa3), .val (.ref aa4)] [(.ref aa4), (.ref aa0)])) rfl rfl (hb hby d9_22)
  have N11 := Fr.snoc X11 N8 g_aa0
  have Z11 : n0 ≤ h11.size := Nat.le_trans Z8 (Keep.of_wr W11).1
  have K11 : Keep h0 h11 [aa0] := K8.wr W11 (Or.inl (List.mem_of_getElem? (i := 0) rfl))
  have F11 : Fld Z h11 aa0 "com/example/outremer_engine/outremerengine/diplomacy/Order$Convoy" "to" "Lcom/example/outremer_engine/outremerengine/board/Place;" (.ref aa4) := F_10.same W11
  have F_12 : Fld Z h11 aa0 "com/example/outremer_engine/outremerengine/diplomacy/Order$Convoy" "unit" "Lcom/example/outremer_engine/outremerengine/board/Unit;" (.ref aa1) := (((F2.other W5 (Or.inr (slot_ne (Or.inr (hw _ (List.mem_of_getElem? (i := 63) rfl))) (Or.inr (hw _ (List.mem_of_getElem? (i := 65) rfl))) (by decide) (t := (.object "com/example/outremer_engine/outremerengine/board/Unit")) (t' := (.object "com/example/outremer_engine/outremerengine/board/UnitType")) (by decide) (by decide)))).other W8 (Or.inr (slot_ne (Or.inr (hw _ (List.mem_of_getElem? (i := 63) rfl))) (Or.inr (hw _ (List.mem_of_getElem? (i := 67) rfl))) (by decide) (t := (.object "com/example/outremer_engine/outremerengine/board/Unit")) (t' := (.object "com/example/outremer_engine/outremerengine/board/Place")) (by decide) (by decide)))).other W11 (Or.inr (slot_ne (Or.inr (hw _ (List.mem_of_getElem? (i := 63) rfl))) (Or.inr (hw _ (List.mem_of_getElem? (i := 69) rfl))) (by decide) (t := (.object "com/example/outremer_engine/outremerengine/board/Unit")) (t' := (.object "com/example/outremer_engine/outremerengine/board/Place")) (by decide) (by decide))))
  have F_13 : Fld Z h11 aa0 "com/example/outremer_engine/outremerengine/diplomacy/Order$Convoy" "convoyedType" "Lcom/example/outremer_engine/outremerengine/board/UnitType;" .null := ((F5.other W8 (Or.inr (slot_ne (Or.inr (hw _ (List.mem_of_getElem? (i := 65) rfl))) (Or.inr (hw _ (List.mem_of_getElem? (i := 67) rfl))) (by decide) (t := (.object "com/example/outremer_engine/outremerengine/board/UnitType")) (t' := (.object "com/example/outremer_engine/outremerengine/board/Place")) (by decide) (by decide)))).other W11 (Or.inr (slot_ne (Or.inr (hw _ (List.mem_of_getElem? (i := 65) rfl))) (Or.inr (hw _ (List.mem_of_getElem? (i := 69) rfl))) (by decide) (t := (.object "com/example/outremer_engine/outremerengine/board/UnitType")) (t' := (.object "com/example/outremer_engine/outremerengine/board/Place")) (by decide) (by decide))))
  have F_14 : Fld Z h11 aa0 "com/example/outremer_engine/outremerengine/diplomacy/Order$Convoy" "from" "Lcom/example/outremer_engine/outremerengine/board/Place;" (.ref aa3) := (F8.other W11 (Or.inr (slot_ne (Or.inr (hw _ (List.mem_of_getElem? (i := 67) rfl))) (Or.inr (hw _ (List.mem_of_getElem? (i := 69) rfl))) (by decide) (t := (.object "com/example/outremer_engine/outremerengine/board/Place")) (t' := (.object "com/example/outremer_engine/outremerengine/board/Place")) (by decide) (by decide))))
  obtain ⟨fs, hr, hrun, hended, hW, hsame⟩ := X11.leave (v := none) (fun _ => rfl)
  refine ⟨_, _, pre0 _ ?_, hrun, hended, _, _, rfl, ?_, ⟨_, rfl⟩, hW, hsame.mono (by decide) (by decide)⟩
  · show Steps p.tables e below (s₁.setTop (mkF m 0 #[.val (.ref aa0), .val (.ref aa1), .val .null, .val (.ref aa3), .val (.ref aa4)] [])) _
    refine XS.aloadN X0.here hx rfl (hb hby d9_0) rfl rfl ?_
    show Steps p.tables e below (s₁.setTop (mkF m 1 #[.val (.ref aa0), .val (.ref aa1), .val .null, .val (.ref aa3), .val (.ref aa4)] [(.ref aa0)])) _
    refine st1.trans ?_
    show Steps p.tables e below (T1.setTop (mkF m 4 #[.val (.ref aa0), .val (.ref aa1), .val .null, .val (.ref aa3), .val (.ref aa4)] [])) _
    refine XS.aloadN X1.here hx rfl (hb hby d9_4) rfl rfl ?_
    show Steps p.tables e below (T1.setTop (mkF m 5 #[.val (.ref aa0), .val (.ref aa1), .val .null, .val (.ref aa3), .val (.ref aa4)] [(.ref aa0)])) _
    refine XS.aloadN X1.here hx rfl (hb hby d9_5) rfl rfl ?_
    show Steps p.tables e below (T1.setTop (mkF m 6 #[.val (.ref aa0), .val (.ref aa1), .val .null, .val (.ref aa3), .val (.ref aa4)] [(.ref aa1), (.ref aa0)])) _
    refine st2 _ ?_
    show Steps p.tables e below (T2.setTop (mkF m 9 #[.val (.ref aa0), .val (.ref aa1), .val .null, .val (.ref aa3), .val (.ref aa4)] [])) _
    refine XS.aloadN X2.here hx rfl (hb hby d9_9) rfl rfl ?_
    show Steps p.tables e below (T2.setTop (mkF m 10 #[.val (.ref aa0), .val (.ref aa1), .val .null, .val (.ref aa3), .val (.ref aa4)] [(.ref aa0)])) _
    refine XS.aloadN X2.here hx rfl (hb hby d9_10) rfl rfl ?_
    show Steps p.tables e below (T2.setTop (mkF m 11 #[.val (.ref aa0), .val (.ref aa1), .val .null, .val (.ref aa3), .val (.ref aa4)] [.null, (.ref aa0)])) _
    refine st5 _ ?_
    show Steps p.tables e below (T5.setTop (mkF m 14 #[.val (.ref aa0), .val (.ref aa1), .val .null, .val (.ref aa3), .val (.ref aa4)] [])) _
    refine XS.aloadN X5.here hx rfl (hb hby d9_14) rfl rfl ?_
    show Steps p.tables e below (T5.setTop (mkF m 15 #[.val (.ref aa0), .val (.ref aa1), .val .null, .val (.ref aa3), .val (.ref aa4)] [(.ref aa0)])) _
    refine XS.aloadN X5.here hx rfl (hb hby d9_15) rfl rfl ?_
    show Steps p.tables e below (T5.setTop (mkF m 16 #[.val (.ref aa0), .val (.ref aa1), .val .null, .val (.ref aa3), .val (.ref aa4)] [(.ref aa3), (.ref aa0)])) _
    refine st8 _ ?_
    show Steps p.tables e below (T8.setTop (mkF m 19 #[.val (.ref aa0), .val (.ref aa1), .val .null, .val (.ref aa3), .val (.ref aa4)] [])) _
    refine XS.aloadN X8.here hx rfl (hb hby d9_19) rfl rfl ?_
    show Steps p.tables e below (T8.setTop (mkF m 20 #[.val (.ref aa0), .val (.ref aa1), .val .null, .val (.ref aa3), .val (.ref aa4)] [(.ref aa0)])) _
    refine XS.aload X8.here hx rfl (hb hby d9_20) rfl rfl ?_
    show Steps p.tables e below (T8.setTop (mkF m 22 #[.val (.ref aa0), .val (.ref aa1), .val .null, .val (.ref aa3), .val (.ref aa4)] [(.ref aa4), (.ref aa0)])) _
    refine st11 _ ?_
    show Steps p.tables e below (T11.setTop (mkF m 25 #[.val (.ref aa0), .val (.ref aa1), .val .null, .val (.ref aa3), .val (.ref aa4)] [])) _
    exact X11.returnOut hx Bd.returns (hb hby d9_25) hr
  · show Q9 Z aa0 aa1 aa3 aa4 u_unit u_convoyedType u_from u_to h0 n0 _ T11.heap _
    rw [e11]
    exact ⟨rfl, N11, K11, F_12, F_13, F_14, F11⟩
theorem pd__28_Lcom_2f_example_2f_outremer_engine_2f_outremerengine_2f_board_2f_Unit_3b_Lcom_2f_example_2f_outremer_engine_2f_outremerengine_2f_board_2f_UnitType_3b_Lcom_2f_example_2f_outremer_engine_2f_outremerengine_2f_board_2f_Place_3b_Lcom_2f_example_2f_outremer_engine_2f_outremerengine_2f_board_2f_Place_3b__29_V : parseMethodDescriptor "(Lcom/example/outremer_engine/outremerengine/board/Unit;Lcom/example/outremer_engine/outremerengine/board/UnitType;Lcom/example/outremer_engine/outremerengine/board/Place;Lcom/example/outremer_engine/outremerengine/board/Place;)V" = some ⟨[(.object "com/example/outremer_engine/outremerengine/board/Unit"), (.object "com/example/outremer_engine/outremerengine/board/UnitType"), (.object "com/example/outremer_engine/outremerengine/board/Place"), (.object "com/example/outremer_engine/outremerengine/board/Place")], none⟩ := by decide +kernel
theorem d10_0 : decode prog_76_method_2_code 0 = .ok (.new 8, 3) := by decide +kernel
theorem d10_3 : decode prog_76_method_2_code 3 = .ok (.dup, 1) := by decide +kernel
theorem d10_4 : decode prog_76_method_2_code 4 = .ok (.aload_n 1, 1) := by decide +kernel
theorem d10_5 : decode prog_76_method_2_code 5 = .ok (.aload_n 0, 1) := by decide +kernel
theorem d10_6 : decode prog_76_method_2_code 6 = .ok (.getfield 13, 3) := by decide +kernel
theorem d10_9 : decode prog_76_method_2_code 9 = .ok (.aload_n 0, 1) := by decide +kernel
theorem d10_10 : decode prog_76_method_2_code 10 = .ok (.getfield 17, 3) := by decide +kernel
theorem d10_13 : decode prog_76_method_2_code 13 = .ok (.aload_n 0, 1) := by decide +kernel
theorem d10_14 : decode prog_76_method_2_code 14 = .ok (.getfield 21, 3) := by decide +kernel
theorem d10_17 : decode prog_76_method_2_code 17 = .ok (.invokespecial 24, 3) := by decide +kernel
theorem d10_20 : decode prog_76_method_2_code 20 = .ok (.areturn, 1) := by decide +kernel
theorem ef_10 (m : MethodId) (x0 : Addr) (x1 : Addr) : entryFrame m #[(.ref x0), (.ref x1)] 2 = mkF m 0 #[.val (.ref x0), .val (.ref x1)] [] := by first | (simp [entryFrame, mkF, argsToLocals, Value.category]; done) | rfl
def Q10 (Z : State) (aa0 : Addr) (aa1 : Addr) (ff : Addr) (tt : Addr) (h0 : Heap) (n0 : Nat) (v : Option Value) (h : Heap) (L : List Loc) : Prop := ∃ (bx : Addr), v = some (.ref bx) ∧ Fr n0 L ∧ Keep h0 h [] ∧ n0 ≤ bx ∧ h0.size ≤ bx ∧ (Exa Z h bx "com/example/outremer_engine/outremerengine/diplomacy/Order$Convoy") ∧ (Fld Z h bx "com/example/outremer_engine/outremerengine/diplomacy/Order$Convoy" "unit" "Lcom/example/outremer_engine/outremerengine/board/Unit;" (.ref aa1)) ∧ (Fld Z h bx "com/example/outremer_engine/outremerengine/diplomacy/Order$Convoy" "convoyedType" "Lcom/example/outremer_engine/outremerengine/board/UnitType;" .null) ∧ (Fld Z h bx "com/example/outremer_engine/outremerengine/diplomacy/Order$Convoy" "from" "Lcom/example/outremer_engine/outremerengine/board/Place;" (.ref ff)) ∧ (Fld Z h bx "com/example/outremer_engine/outremerengine/diplomacy/Order$Convoy" "to" "Lcom/example/outremer_engine/outremerengine/board/Place;" (.ref tt))
set_option maxRecDepth 65536 in
set_option maxHeartbeats 40000000 in
theorem rm10 (l : Launch) (Z : State) (a0 : Array Value) (hw : ∀ d ∈ tables_1, d.before a0 Z = true) (ws : List Jvm.Cond) (aa0 : Addr) (aa1 : Addr) (ff : Addr) (tt : Addr) (h0 : Heap) (n0 : Nat) (Z0 : n0 ≤ h0.size) (F_aa0_convoyedType : Fld Z h0 aa0 "com/example/outremer_engine/outremerengine/diplomacy/Order$Convoy" "convoyedType" "Lcom/example/outremer_engine/outremerengine/board/UnitType;" .null) (F_aa0_from : Fld Z h0 aa0 "com/example/outremer_engine/outremerengine/diplomacy/Order$Convoy" "from" "Lcom/example/outremer_engine/outremerengine/board/Place;" (.ref ff)) (F_aa0_to : Fld Z h0 aa0 "com/example/outremer_engine/outremerengine/diplomacy/Order$Convoy" "to" "Lcom/example/outremer_engine/outremerengine/board/Place;" (.ref tt)) :
    MetFree l (⟨"com/example/outremer_engine/outremerengine/diplomacy/Order$Convoy", "givenTo", "(Lcom/example/outremer_engine/outremerengine/board/Unit;)Lcom/example/outremer_engine/outremerengine/diplomacy/Order$Convoy;"⟩ : MethodName) (head1 (Jvm.Cond.code (⟨"com/example/outremer_engine/outremerengine/diplomacy/Order$Convoy", "givenTo", "(Lcom/example/outremer_engine/outremerengine/board/Unit;)Lcom/example/outremer_engine/outremerengine/diplomacy/Order$Convoy;"⟩ : MethodName) prog_76_method_2_code 2 (some (.object "com/example/outremer_engine/outremerengine/diplomacy/Order$Convoy")) :: ws) ({ frames := 3, cells := 1, slots := 4, locals := 41 } : Room)) (fun a U => a = #[(.ref aa0), (.ref aa1)] ∧ Z.Warmed39 U.vm ∧ U.heap = h0) (fun _ _ _ _ _ => True) (fun _ U o U' => ∃ v L, o = .returned v ∧ Q10 Z aa0 aa1 ff tt h0 n0 v U'.heap L ∧ FrameEnd U o U' L ({ frames := 3, cells := 1, slots := 4, locals := 41 } : Room).cells ({ frames := 3, cells := 1, slots := 4, locals := 41 } : Room).slots) := by
  refine MetFree.of_bodySF (plainFor_of_name pn_com_example_outremer_engine_outremerengine_diplomacy_Order_Convoy) hisR ?_
  intro p e s m args below meth c s₁ Bd hml0 hP hK
  obtain ⟨rfl, hZ, hh⟩ := hP
  have hx := Bd.exec
  have hby := Bd.bytes
  have hml : c.maxLocals = 2 := hml0
  have hown : s.vm.findClass "com/example/outremer_engine/outremerengine/diplomacy/Order$Convoy" = some m.cls := findClass_of_methodNamed Bd.named
  have hnm := (name_of_methodNamed Bd.named Bd.method).1
  have X0 : Stand p l e ({ frames := 3, cells := 1, slots := 4, locals := 41 } : Room) s m #[(.ref aa0), (.ref aa1)] below meth c s₁ [] 0 0 := Stand.of_body Bd
  have e0 : s₁.heap = h0 := by rw [← hh, Bd.state]; rfl
  have N0 := Fr.nil n0
  have pre0 : ∀ t, Steps p.tables e below (s₁.setTop (mkF m 0 #[.val (.ref aa0), .val (.ref aa1)] [])) t → Steps p.tables e below (s₁.setTop (entryFrame m #[(.ref aa0), (.ref aa1)] 2)) t := fun t k => castTop (ef_10 m aa0 aa1) k
  obtain ⟨T1, h1, X1, e1, E1, A1, D1, -, st1⟩ := newO X0 hx hZ hown (hw _ (List.mem_of_getElem? (i := 75) rfl)) (hw _ (List.mem_of_getElem? (i := 56) rfl)) (hw _ (List.mem_of_getElem? (i := 57) rfl)) e0 (g := (mkF m 0 #[.val (.ref aa0), .val (.ref aa1)] [])) rfl (hb hby d10_0) (by decide) (by decide)
  obtain ⟨b1, g1⟩ : ∃ z, z = h0.size := ⟨_, rfl⟩
  rw [← g1] at A1 D1 st1
  have g_b1 : n0 ≤ b1 := Nat.le_trans Z0 (Nat.le_of_eq g1.symm)
  have sz_b1 : h0.size ≤ b1 := Nat.le_trans (Keep.refl h0 []).1 (Nat.le_of_eq g1.symm)
  have Z1 : n0 ≤ h1.size := Nat.le_trans Z0 E1.1
  have K1 : Keep h0 h1 [] := (Keep.refl h0 []).ext E1
  have F1_unit : Fld Z h1 b1 "com/example/outremer_engine/outremerengine/diplomacy/Order$Convoy" "unit" "Lcom/example/outremer_engine/outremerengine/board/Unit;" .null := D1 (Or.inr (hw _ (List.mem_of_getElem? (i := 63) rfl))) (ty := (.object "com/example/outremer_engine/outremerengine/board/Unit")) (by decide)
  have F1_convoyedType : Fld Z h1 b1 "com/example/outremer_engine/outremerengine/diplomacy/Order$Convoy" "convoyedType" "Lcom/example/outremer_engine/outremerengine/board/UnitType;" .null := D1 (Or.inr (hw _ (List.mem_of_getElem? (i := 65) rfl))) (ty := (.object "com/example/outremer_engine/outremerengine/board/UnitType")) (by decide)
  have F1_from : Fld Z h1 b1 "com/example/outremer_engine/outremerengine/diplomacy/Order$Convoy" "from" "Lcom/example/outremer_engine/outremerengine/board/Place;" .null := D1 (Or.inr (hw _ (List.mem_of_getElem? (i := 67) rfl))) (ty := (.object "com/example/outremer_engine/outremerengine/board/Place")) (by decide)
  have F1_to : Fld Z h1 b1 "com/example/outremer_engine/outremerengine/diplomacy/Order$Convoy" "to" "Lcom/example/outremer_engine/outremerengine/board/Place;" .null := D1 (Or.inr (hw _ (List.mem_of_getElem? (i := 69) rfl))) (ty := (.object "com/example/outremer_engine/outremerengine/board/Place")) (by decide)
  have F_2 : Fld Z h1 aa0 "com/example/outremer_engine/outremerengine/diplomacy/Order$Convoy" "convoyedType" "Lcom/example/outremer_engine/outremerengine/board/UnitType;" .null := (F_aa0_convoyedType.ext E1)
  obtain ⟨T3, X3, e3, st3⟩ := getF X1 hx hZ hown (host := "") (Or.inl (hw _ (List.mem_of_getElem? (i := 64) rfl))) Via.refl e1 F_2 (g := (mkF m 6 #[.val (.ref aa0), .val (.ref aa1)] [(.ref aa0), (.ref aa1), (.ref b1), (.ref b1)])) rfl rfl (hb hby d10_6)
  have F_4 : Fld Z h1 aa0 "com/example/outremer_engine/outremerengine/diplomacy/Order$Convoy" "from" "Lcom/example/outremer_engine/outremerengine/board/Place;" (.ref ff) := (F_aa0_from.ext E1)
  obtain ⟨T5, X5, e5, st5⟩ := getF X3 hx hZ hown (host := "") (Or.inl (hw _ (List.mem_of_getElem? (i := 66) rfl))) Via.refl e3 F_4 (g := (mkF m 10 #[.val (.ref aa0), .val (.ref aa1)] [(.ref aa0), .null, (.ref aa1), (.ref b1), (.ref b1)])) rfl rfl (hb hby d10_10)
  have F_6 : Fld Z h1 aa0 "com/example/outremer_engine/outremerengine/diplomacy/Order$Convoy" "to" "Lcom/example/outremer_engine/outremerengine/board/Place;" (.ref tt) := (F_aa0_to.ext E1)
  obtain ⟨T7, X7, e7, st7⟩ := getF X5 hx hZ hown (host := "") (Or.inl (hw _ (List.mem_of_getElem? (i := 68) rfl))) Via.refl e5 F_6 (g := (mkF m 14 #[.val (.ref aa0), .val (.ref aa1)] [(.ref aa0), (.ref ff), .null, (.ref aa1), (.ref b1), (.ref b1)])) rfl rfl (hb hby d10_14)
  obtain ⟨_, _, ⟨T8, L8, k8, n8⟩, -, X8, ⟨Lc8, hQ8, l8, y8, z8⟩, st8⟩ := X7.specialBack hx (y := (⟨"com/example/outremer_engine/outremerengine/diplomacy/Order$Convoy", "<init>", "(Lcom/example/outremer_engine/outremerengine/board/Unit;Lcom/example/outremer_engine/outremerengine/board/UnitType;Lcom/example/outremer_engine/outremerengine/board/Place;Lcom/example/outremer_engine/outremerengine/board/Place;)V"⟩ : MethodName)) rfl hown (mvT hZ (hw _ (List.mem_of_getElem? (i := 76) rfl))) (mvT hZ (hw _ (List.mem_of_getElem? (i := 59) rfl))) (mvT hZ (hw _ (List.mem_of_getElem? (i := 60) rfl))) (by decide) (backOf (W := 1) (rm9 l Z a0 hw [] b1 aa1 ff tt .null .null .null .null h1 n0 Z1 A1 g_b1 F1_unit F1_convoyedType F1_from F1_to) hZ (hw _ (List.mem_of_getElem? (i := 60) rfl)) (hw _ (List.mem_of_getElem? (i := 57) rfl)) (by decide) (by decide)) (g := (mkF m 17 #[.val (.ref aa0), .val (.ref aa1)] [(.ref tt), (.ref ff), .null, (.ref aa1), (.ref b1), (.ref b1)])) rfl (by rw [hml]; rfl) (Steps.refl _) (a := b1) (argsL := [(.ref aa1), .null, (.ref ff), (.ref tt)]) (rest := [(.ref b1)]) (lenOf pd__28_Lcom_2f_example_2f_outremer_engine_2f_outremerengine_2f_board_2f_Unit_3b_Lcom_2f_example_2f_outremer_engine_2f_outremerengine_2f_board_2f_UnitType_3b_Lcom_2f_example_2f_outremer_engine_2f_outremerengine_2f_board_2f_Place_3b_Lcom_2f_example_2f_outremer_engine_2f_outremerengine_2f_board_2f_Place_3b__29_V rfl) rfl (by show 2 * 0 + _ ≤ _; exact Nat.le_of_eq rfl) (hb hby d10_17) (fun _ _ => ⟨rfl, e7, (by decide : 1 + 0 ≤ _), (by decide : 4 + 0 ≤ _)⟩)
  dsimp only [Pt.U, Pt.locs, Pt.cells, Pt.slots] at X8 l8 y8 z8 st8 hQ8
  subst y8 z8
  obtain ⟨rfl, N8q, K8c, R8_0, R8_1, R8_2, R8_3⟩ := hQ8
  have N8 : Fr n0 L8 := by rw [l8]; exact Fr.app N0 N8q
  have Z8 : n0 ≤ T8.heap.size := Nat.le_trans Z1 K8c.1
  have K8 : Keep h0 T8.heap [] := K1.trans K8c (allS (Or.inr sz_b1) all0)
  change Stand _ _ _ _ _ _ _ _ _ _ _ _ 1 4 at X8
  have E_9 : Exa Z T8.heap b1 "com/example/outremer_engine/outremerengine/diplomacy/Order$Convoy" := (A1.keep K8c)
  obtain ⟨fs, hr, hrun, hended, hW, hsame⟩ := X8.leave (v := some (.ref b1)) (fun h => by rw [Bd.returns] at h; cases h)
  refine ⟨_, _, pre0 _ ?_, hrun, hended, _, _, rfl, ?_, ⟨_, rfl⟩, hW, hsame.mono (by decide) (by decide)⟩
  · show Steps p.tables e below (s₁.setTop (mkF m 0 #[.val (.ref aa0), .val (.ref aa1)] [])) _
    refine st1 _ ?_
    show Steps p.tables e below (T1.setTop (mkF m 3 #[.val (.ref aa0), .val (.ref aa1)] [(.ref b1)])) _
    refine XS.dup X1.here hx rfl (hb hby d10_3) rfl rfl ?_
    show Steps p.tables e below (T1.setTop (mkF m 4 #[.val (.ref aa0), .val (.ref aa1)] [(.ref b1), (.ref b1)])) _
    refine XS.aloadN X1.here hx rfl (hb hby d10_4) rfl rfl ?_
    show Steps p.tables e below (T1.setTop (mkF m 5 #[.val (.ref aa0), .val (.ref aa1)] [(.ref aa1), (.ref b1), (.ref b1)])) _
    refine XS.aloadN X1.here hx rfl (hb hby d10_5) rfl rfl ?_
    show Steps p.tables e below (T1.setTop (mkF m 6 #[.val (.ref aa0), .val (.ref aa1)] [(.ref aa0), (.ref aa1), (.ref b1), (.ref b1)])) _
    refine st3 _ ?_
    show Steps p.tables e below (T3.setTop (mkF m 9 #[.val (.ref aa0), .val (.ref aa1)] [.null, (.ref aa1), (.ref b1), (.ref b1)])) _
    refine XS.aloadN X3.here hx rfl (hb hby d10_9) rfl rfl ?_
    show Steps p.tables e below (T3.setTop (mkF m 10 #[.val (.ref aa0), .val (.ref aa1)] [(.ref aa0), .null, (.ref aa1), (.ref b1), (.ref b1)])) _
    refine st5 _ ?_
    show Steps p.tables e below (T5.setTop (mkF m 13 #[.val (.ref aa0), .val (.ref aa1)] [(.ref ff), .null, (.ref aa1), (.ref b1), (.ref b1)])) _
    refine XS.aloadN X5.here hx rfl (hb hby d10_13) rfl rfl ?_
    show Steps p.tables e below (T5.setTop (mkF m 14 #[.val (.ref aa0), .val (.ref aa1)] [(.ref aa0), (.ref ff), .null, (.ref aa1), (.ref b1), (.ref b1)])) _
    refine st7 _ ?_
    show Steps p.tables e below (T7.setTop (mkF m 17 #[.val (.ref aa0), .val (.ref aa1)] [(.ref tt), (.ref ff), .null, (.ref aa1), (.ref b1), (.ref b1)])) _
    refine st8.trans ?_
    show Steps p.tables e below (T8.setTop (mkF m 20 #[.val (.ref aa0), .val (.ref aa1)] [(.ref b1)])) _
    jvm_step X8.here [X8.here.top, hx, (hb hby d10_20), X8.method', Bd.returns, Value.isRef, FieldType.isReference]
    first | (intro acts; rw [hr _ acts rfl rfl rfl]) | rw [hr _ _ rfl rfl rfl]
    exact Steps.refl _
  · show Q10 Z aa0 aa1 ff tt h0 n0 _ T8.heap _
    exact ⟨b1, rfl, N8, K8, g_b1, sz_b1, E_9, R8_0, R8_1, R8_2, R8_3⟩
theorem d11_0 : decode prog_76_method_6_code 0 = .ok (.aload_n 0, 1) := by decide +kernel
theorem d11_1 : decode prog_76_method_6_code 1 = .ok (.getfield 7, 3) := by decide +kernel
theorem d11_4 : decode prog_76_method_6_code 4 = .ok (.areturn, 1) := by decide +kernel
theorem ef_11 (m : MethodId) (x0 : Addr) : entryFrame m #[(.ref x0)] 1 = mkF m 0 #[.val (.ref x0)] [] := by first | (simp [entryFrame, mkF, argsToLocals, Value.category]; done) | rfl
def Q11 (Z : State) (aa0 : Addr) (vv : Addr) (h0 : Heap) (n0 : Nat) (v : Option Value) (h : Heap) (L : List Loc) : Prop := v = some (.ref vv) ∧ Fr n0 L ∧ h = h0
set_option maxRecDepth 65536 in
set_option maxHeartbeats 40000000 in
theorem rm11 (l : Launch) (Z : State) (a0 : Array Value) (hw : ∀ d ∈ tables_1, d.before a0 Z = true) (ws : List Jvm.Cond) (aa0 : Addr) (vv : Addr) (h0 : Heap) (n0 : Nat) (Z0 : n0 ≤ h0.size) (F_aa0_unit : Fld Z h0 aa0 "com/example/outremer_engine/outremerengine/diplomacy/Order$Convoy" "unit" "Lcom/example/outremer_engine/outremerengine/board/Unit;" (.ref vv)) :
    MetFree l (⟨"com/example/outremer_engine/outremerengine/diplomacy/Order$Convoy", "unit", "()Lcom/example/outremer_engine/outremerengine/board/Unit;"⟩ : MethodName) (head1 (Jvm.Cond.code (⟨"com/example/outremer_engine/outremerengine/diplomacy/Order$Convoy", "unit", "()Lcom/example/outremer_engine/outremerengine/board/Unit;"⟩ : MethodName) prog_76_method_6_code 1 (some (.object "com/example/outremer_engine/outremerengine/board/Unit")) :: ws) ({ frames := 0, cells := 0, slots := 0, locals := 0 } : Room)) (fun a U => a = #[(.ref aa0)] ∧ Z.Warmed39 U.vm ∧ U.heap = h0) (fun _ _ _ _ _ => True) (fun _ U o U' => ∃ v L, o = .returned v ∧ Q11 Z aa0 vv h0 n0 v U'.heap L ∧ FrameEnd U o U' L ({ frames := 0, cells := 0, slots := 0, locals := 0 } : Room).cells ({ frames := 0, cells := 0, slots := 0, locals := 0 } : Room).slots) := by
  refine MetFree.of_bodySF (plainFor_of_name pn_com_example_outremer_engine_outremerengine_diplomacy_Order_Convoy) hisR ?_
  intro p e s m args below meth c s₁ Bd hml0 hP hK
  obtain ⟨rfl, hZ, hh⟩ := hP
  have hx := Bd.exec
  have hby := Bd.bytes
  have hml : c.maxLocals = 1 := hml0
  have hown : s.vm.findClass "com/example/outremer_engine/outremerengine/diplomacy/Order$Convoy" = some m.cls := findClass_of_methodNamed Bd.named
  have hnm := (name_of_methodNamed Bd.named Bd.method).1
  have X0 : Stand p l e ({ frames := 0, cells := 0, slots := 0, locals := 0 } : Room) s m #[(.ref aa0)] below meth c s₁ [] 0 0 := Stand.of_body Bd
  have e0 : s₁.heap = h0 := by rw [← hh, Bd.state]; rfl
  have N0 := Fr.nil n0
  have pre0 : ∀ t, Steps p.tables e below (s₁.setTop (mkF m 0 #[.val (.ref aa0)] [])) t → Steps p.tables e below (s₁.setTop (entryFrame m #[(.ref aa0)] 1)) t := fun t k => castTop (ef_11 m aa0) k
  obtain ⟨T1, X1, e1, st1⟩ := getF X0 hx hZ hown (host := "") (Or.inl (hw _ (List.mem_of_getElem? (i := 62) rfl))) Via.refl e0 F_aa0_unit (g := (mkF m 1 #[.val (.ref aa0)] [(.ref aa0)])) rfl rfl (hb hby d11_1)
  obtain ⟨fs, hr, hrun, hended, hW, hsame⟩ := X1.leave (v := some (.ref vv)) (fun h => by rw [Bd.returns] at h; cases h)
  refine ⟨_, _, pre0 _ ?_, hrun, hended, _, _, rfl, ?_, ⟨_, rfl⟩, hW, hsame.mono (by decide) (by decide)⟩
  · show Steps p.tables e below (s₁.setTop (mkF m 0 #[.val (.ref aa0)] [])) _
    refine XS.aloadN X0.here hx rfl (hb hby d11_0) rfl rfl ?_
    show Steps p.tables e below (s₁.setTop (mkF m 1 #[.val (.ref aa0)] [(.ref aa0)])) _
    refine st1 _ ?_
    show Steps p.tables e below (T1.setTop (mkF m 4 #[.val (.ref aa0)] [(.ref vv)])) _
    jvm_step X1.here [X1.here.top, hx, (hb hby d11_4), X1.method', Bd.returns, Value.isRef, FieldType.isReference]
    first | (intro acts; rw [hr _ acts rfl rfl rfl]) | rw [hr _ _ rfl rfl rfl]
    exact Steps.refl _
  · show Q11 Z aa0 vv h0 n0 _ T1.heap _
    rw [e1]
    exact ⟨rfl, N0, rfl⟩
theorem d12_0 : decode prog_76_method_7_code 0 = .ok (.aload_n 0, 1) := by decide +kernel
theorem d12_1 : decode prog_76_method_7_code 1 = .ok (.getfield 13, 3) := by decide +kernel
theorem d12_4 : decode prog_76_method_7_code 4 = .ok (.areturn, 1) := by decide +kernel
theorem ef_12 (m : MethodId) (x0 : Addr) : entryFrame m #[(.ref x0)] 1 = mkF m 0 #[.val (.ref x0)] [] := by first | (simp [entryFrame, mkF, argsToLocals, Value.category]; done) | rfl
def Q12 (Z : State) (aa0 : Addr) (h0 : Heap) (n0 : Nat) (v : Option Value) (h : Heap) (L : List Loc) : Prop := v = some .null ∧ Fr n0 L ∧ h = h0
set_option maxRecDepth 65536 in
set_option maxHeartbeats 40000000 in
theorem rm12 (l : Launch) (Z : State) (a0 : Array Value) (hw : ∀ d ∈ tables_1, d.before a0 Z = true) (ws : List Jvm.Cond) (aa0 : Addr) (h0 : Heap) (n0 : Nat) (Z0 : n0 ≤ h0.size) (F_aa0_convoyedType : Fld Z h0 aa0 "com/example/outremer_engine/outremerengine/diplomacy/Order$Convoy" "convoyedType" "Lcom/example/outremer_engine/outremerengine/board/UnitType;" .null) :
    MetFree l (⟨"com/example/outremer_engine/outremerengine/diplomacy/Order$Convoy", "convoyedType", "()Lcom/example/outremer_engine/outremerengine/board/UnitType;"⟩ : MethodName) (head1 (Jvm.Cond.code (⟨"com/example/outremer_engine/outremerengine/diplomacy/Order$Convoy", "convoyedType", "()Lcom/example/outremer_engine/outremerengine/board/UnitType;"⟩ : MethodName) prog_76_method_7_code 1 (some (.object "com/example/outremer_engine/outremerengine/board/UnitType")) :: ws) ({ frames := 0, cells := 0, slots := 0, locals := 0 } : Room)) (fun a U => a = #[(.ref aa0)] ∧ Z.Warmed39 U.vm ∧ U.heap = h0) (fun _ _ _ _ _ => True) (fun _ U o U' => ∃ v L, o = .returned v ∧ Q12 Z aa0 h0 n0 v U'.heap L ∧ FrameEnd U o U' L ({ frames := 0, cells := 0, slots := 0, locals := 0 } : Room).cells ({ frames := 0, cells := 0, slots := 0, locals := 0 } : Room).slots) := by
  refine MetFree.of_bodySF (plainFor_of_name pn_com_example_outremer_engine_outremerengine_diplomacy_Order_Convoy) hisR ?_
  intro p e s m args below meth c s₁ Bd hml0 hP hK
  obtain ⟨rfl, hZ, hh⟩ := hP
  have hx := Bd.exec
  have hby := Bd.bytes
  have hml : c.maxLocals = 1 := hml0
  have hown : s.vm.findClass "com/example/outremer_engine/outremerengine/diplomacy/Order$Convoy" = some m.cls := findClass_of_methodNamed Bd.named
  have hnm := (name_of_methodNamed Bd.named Bd.method).1
  have X0 : Stand p l e ({ frames := 0, cells := 0, slots := 0, locals := 0 } : Room) s m #[(.ref aa0)] below meth c s₁ [] 0 0 := Stand.of_body Bd
  have e0 : s₁.heap = h0 := by rw [← hh, Bd.state]; rfl
  have N0 := Fr.nil n0
  have pre0 : ∀ t, Steps p.tables e below (s₁.setTop (mkF m 0 #[.val (.ref aa0)] [])) t → Steps p.tables e below (s₁.setTop (entryFrame m #[(.ref aa0)] 1)) t := fun t k => castTop (ef_12 m aa0) k
  obtain ⟨T1, X1, e1, st1⟩ := getF X0 hx hZ hown (host := "") (Or.inl (hw _ (List.mem_of_getElem? (i := 64) rfl))) Via.refl e0 F_aa0_convoyedType (g := (mkF m 1 #[.val (.ref aa0)] [(.ref aa0)])) rfl rfl (hb hby d12_1)
  obtain ⟨fs, hr, hrun, hended, hW, hsame⟩ := X1.leave (v := some .null) (fun h => by rw [Bd.returns] at h; cases h)
  refine ⟨_, _, pre0 _ ?_, hrun, hended, _, _, rfl, ?_, ⟨_, rfl⟩, hW, hsame.mono (by decide) (by decide)⟩
  · show Steps p.tables e below (s₁.setTop (mkF m 0 #[.val (.ref aa0)] [])) _
    refine XS.aloadN X0.here hx rfl (hb hby d12_0) rfl rfl ?_
    show Steps p.tables e below (s₁.setTop (mkF m 1 #[.val (.ref aa0)] [(.ref aa0)])) _
    refine st1 _ ?_
    show Steps p.tables e below (T1.setTop (mkF m 4 #[.val (.ref aa0)] [.null])) _
    jvm_step X1.here [X1.here.top, hx, (hb hby d12_4), X1.method', Bd.returns, Value.isRef, FieldType.isReference]
    first | (intro acts; rw [hr _ acts rfl rfl rfl]) | rw [hr _ _ rfl rfl rfl]
    exact Steps.refl _
  · show Q12 Z aa0 h0 n0 _ T1.heap _
    rw [e1]
    exact ⟨rfl, N0, rfl⟩
theorem d13_0 : decode prog_76_method_8_code 0 = .ok (.aload_n 0, 1) := by decide +kernel
theorem d13_1 : decode prog_76_method_8_code 1 = .ok (.getfield 17, 3) := by decide +kernel
theorem d13_4 : decode prog_76_method_8_code 4 = .ok (.areturn, 1) := by decide +kernel
theorem ef_13 (m : MethodId) (x0 : Addr) : entryFrame m #[(.ref x0)] 1 = mkF m 0 #[.val (.ref x0)] [] := by first | (simp [entryFrame, mkF, argsToLocals, Value.category]; done) | rfl
def Q13 (Z : State) (aa0 : Addr) (vv : Addr) (h0 : Heap) (n0 : Nat) (v : Option Value) (h : Heap) (L : List Loc) : Prop := v = some (.ref vv) ∧ Fr n0 L ∧ h = h0
set_option maxRecDepth 65536 in
set_option maxHeartbeats 40000000 in
theorem rm13 (l : Launch) (Z : State) (a0 : Array Value) (hw : ∀ d ∈ tables_1, d.before a0 Z = true) (ws : List Jvm.Cond) (aa0 : Addr) (vv : Addr) (h0 : Heap) (n0 : Nat) (Z0 : n0 ≤ h0.size) (F_aa0_from : Fld Z h0 aa0 "com/example/outremer_engine/outremerengine/diplomacy/Order$Convoy" "from" "Lcom/example/outremer_engine/outremerengine/board/Place;" (.ref vv)) :
    MetFree l (⟨"com/example/outremer_engine/outremerengine/diplomacy/Order$Convoy", "from", "()Lcom/example/outremer_engine/outremerengine/board/Place;"⟩ : MethodName) (head1 (Jvm.Cond.code (⟨"com/example/outremer_engine/outremerengine/diplomacy/Order$Convoy", "from", "()Lcom/example/outremer_engine/outremerengine/board/Place;"⟩ : MethodName) prog_76_method_8_code 1 (some (.object "com/example/outremer_engine/outremerengine/board/Place")) :: ws) ({ frames := 0, cells := 0, slots := 0, locals := 0 } : Room)) (fun a U => a = #[(.ref aa0)] ∧ Z.Warmed39 U.vm ∧ U.heap = h0) (fun _ _ _ _ _ => True) (fun _ U o U' => ∃ v L, o = .returned v ∧ Q13 Z aa0 vv h0 n0 v U'.heap L ∧ FrameEnd U o U' L ({ frames := 0, cells := 0, slots := 0, locals := 0 } : Room).cells ({ frames := 0, cells := 0, slots := 0, locals := 0 } : Room).slots) := by
  refine MetFree.of_bodySF (plainFor_of_name pn_com_example_outremer_engine_outremerengine_diplomacy_Order_Convoy) hisR ?_
  intro p e s m args below meth c s₁ Bd hml0 hP hK
  obtain ⟨rfl, hZ, hh⟩ := hP
  have hx := Bd.exec
  have hby := Bd.bytes
  have hml : c.maxLocals = 1 := hml0
  have hown : s.vm.findClass "com/example/outremer_engine/outremerengine/diplomacy/Order$Convoy" = some m.cls := findClass_of_methodNamed Bd.named
  have hnm := (name_of_methodNamed Bd.named Bd.method).1
  have X0 : Stand p l e ({ frames := 0, cells := 0, slots := 0, locals := 0 } : Room) s m #[(.ref aa0)] below meth c s₁ [] 0 0 := Stand.of_body Bd
  have e0 : s₁.heap = h0 := by rw [← hh, Bd.state]; rfl
  have N0 := Fr.nil n0
  have pre0 : ∀ t, Steps p.tables e below (s₁.setTop (mkF m 0 #[.val (.ref aa0)] [])) t → Steps p.tables e below (s₁.setTop (entryFrame m #[(.ref aa0)] 1)) t := fun t k => castTop (ef_13 m aa0) k
  obtain ⟨T1, X1, e1, st1⟩ := getF X0 hx hZ hown (host := "") (Or.inl (hw _ (List.mem_of_getElem? (i := 66) rfl))) Via.refl e0 F_aa0_from (g := (mkF m 1 #[.val (.ref aa0)] [(.ref aa0)])) rfl rfl (hb hby d13_1)
  obtain ⟨fs, hr, hrun, hended, hW, hsame⟩ := X1.leave (v := some (.ref vv)) (fun h => by rw [Bd.returns] at h; cases h)
  refine ⟨_, _, pre0 _ ?_, hrun, hended, _, _, rfl, ?_, ⟨_, rfl⟩, hW, hsame.mono (by decide) (by decide)⟩
  · show Steps p.tables e below (s₁.setTop (mkF m 0 #[.val (.ref aa0)] [])) _
    refine XS.aloadN X0.here hx rfl (hb hby d13_0) rfl rfl ?_
    show Steps p.tables e below (s₁.setTop (mkF m 1 #[.val (.ref aa0)] [(.ref aa0)])) _
    refine st1 _ ?_
    show Steps p.tables e below (T1.setTop (mkF m 4 #[.val (.ref aa0)] [(.ref vv)])) _
    jvm_step X1.here [X1.here.top, hx, (hb hby d13_4), X1.method', Bd.returns, Value.isRef, FieldType.isReference]
    first | (intro acts; rw [hr _ acts rfl rfl rfl]) | rw [hr _ _ rfl rfl rfl]
    exact Steps.refl _
  · show Q13 Z aa0 vv h0 n0 _ T1.heap _
    rw [e1]
    exact ⟨rfl, N0, rfl⟩
theorem d14_0 : decode prog_76_method_9_code 0 = .ok (.aload_n 0, 1) := by decide +kernel
theorem d14_1 : decode prog_76_method_9_code 1 = .ok (.getfield 21, 3) := by decide +kernel
theorem d14_4 : decode prog_76_method_9_code 4 = .ok (.areturn, 1) := by decide +kernel
theorem ef_14 (m : MethodId) (x0 : Addr) : entryFrame m #[(.ref x0)] 1 = mkF m 0 #[.val (.ref x0)] [] := by first | (simp [entryFrame, mkF, argsToLocals, Value.category]; done) | rfl
def Q14 (Z : State) (aa0 : Addr) (vv : Addr) (h0 : Heap) (n0 : Nat) (v : Option Value) (h : Heap) (L : List Loc) : Prop := v = some (.ref vv) ∧ Fr n0 L ∧ h = h0
set_option maxRecDepth 65536 in
set_option maxHeartbeats 40000000 in
theorem rm14 (l : Launch) (Z : State) (a0 : Array Value) (hw : ∀ d ∈ tables_1, d.before a0 Z = true) (ws : List Jvm.Cond) (aa0 : Addr) (vv : Addr) (h0 : Heap) (n0 : Nat) (Z0 : n0 ≤ h0.size) (F_aa0_to : Fld Z h0 aa0 "com/example/outremer_engine/outremerengine/diplomacy/Order$Convoy" "to" "Lcom/example/outremer_engine/outremerengine/board/Place;" (.ref vv)) :
    MetFree l (⟨"com/example/outremer_engine/outremerengine/diplomacy/Order$Convoy", "to", "()Lcom/example/outremer_engine/outremerengine/board/Place;"⟩ : MethodName) (head1 (Jvm.Cond.code (⟨"com/example/outremer_engine/outremerengine/diplomacy/Order$Convoy", "to", "()Lcom/example/outremer_engine/outremerengine/board/Place;"⟩ : MethodName) prog_76_method_9_code 1 (some (.object "com/example/outremer_engine/outremerengine/board/Place")) :: ws) ({ frames := 0, cells := 0, slots := 0, locals := 0 } : Room)) (fun a U => a = #[(.ref aa0)] ∧ Z.Warmed39 U.vm ∧ U.heap = h0) (fun _ _ _ _ _ => True) (fun _ U o U' => ∃ v L, o = .returned v ∧ Q14 Z aa0 vv h0 n0 v U'.heap L ∧ FrameEnd U o U' L ({ frames := 0, cells := 0, slots := 0, locals := 0 } : Room).cells ({ frames := 0, cells := 0, slots := 0, locals := 0 } : Room).slots) := by
  refine MetFree.of_bodySF (plainFor_of_name pn_com_example_outremer_engine_outremerengine_diplomacy_Order_Convoy) hisR ?_
  intro p e s m args below meth c s₁ Bd hml0 hP hK
  obtain ⟨rfl, hZ, hh⟩ := hP
  have hx := Bd.exec
  have hby := Bd.bytes
  have hml : c.maxLocals = 1 := hml0
  have hown : s.vm.findClass "com/example/outremer_engine/outremerengine/diplomacy/Order$Convoy" = some m.cls := findClass_of_methodNamed Bd.named
  have hnm := (name_of_methodNamed Bd.named Bd.method).1
  have X0 : Stand p l e ({ frames := 0, cells := 0, slots := 0, locals := 0 } : Room) s m #[(.ref aa0)] below meth c s₁ [] 0 0 := Stand.of_body Bd
  have e0 : s₁.heap = h0 := by rw [← hh, Bd.state]; rfl
  have N0 := Fr.nil n0
  have pre0 : ∀ t, Steps p.tables e below (s₁.setTop (mkF m 0 #[.val (.ref aa0)] [])) t → Steps p.tables e below (s₁.setTop (entryFrame m #[(.ref aa0)] 1)) t := fun t k => castTop (ef_14 m aa0) k
  obtain ⟨T1, X1, e1, st1⟩ := getF X0 hx hZ hown (host := "") (Or.inl (hw _ (List.mem_of_getElem? (i := 68) rfl))) Via.refl e0 F_aa0_to (g := (mkF m 1 #[.val (.ref aa0)] [(.ref aa0)])) rfl rfl (hb hby d14_1)
  obtain ⟨fs, hr, hrun, hended, hW, hsame⟩ := X1.leave (v := some (.ref vv)) (fun h => by rw [Bd.returns] at h; cases h)
  refine ⟨_, _, pre0 _ ?_, hrun, hended, _, _, rfl, ?_, ⟨_, rfl⟩, hW, hsame.mono (by decide) (by decide)⟩
  · show Steps p.tables e below (s₁.setTop (mkF m 0 #[.val (.ref aa0)] [])) _
    refine XS.aloadN X0.here hx rfl (hb hby d14_0) rfl rfl ?_
    show Steps p.tables e below (s₁.setTop (mkF m 1 #[.val (.ref aa0)] [(.ref aa0)])) _
    refine st1 _ ?_
    show Steps p.tables e below (T1.setTop (mkF m 4 #[.val (.ref aa0)] [(.ref vv)])) _
    jvm_step X1.here [X1.here.top, hx, (hb hby d14_4), X1.method', Bd.returns, Value.isRef, FieldType.isReference]
    first | (intro acts; rw [hr _ acts rfl rfl rfl]) | rw [hr _ _ rfl rfl rfl]
    exact Steps.refl _
  · show Q14 Z aa0 vv h0 n0 _ T1.heap _
    rw [e1]
    exact ⟨rfl, N0, rfl⟩
theorem pd__28_C_29_Ljava_2f_lang_2f_String_3b_ : parseMethodDescriptor "(C)Ljava/lang/String;" = some ⟨[.char], some (.object "java/lang/String")⟩ := by decide +kernel
theorem pd__28_Ljava_2f_lang_2f_String_3b_Lcom_2f_example_2f_outremer_engine_2f_outremerengine_2f_board_2f_UnitType_3b_Lcom_2f_example_2f_outremer_engine_2f_outremerengine_2f_board_2f_Place_3b__29_V : parseMethodDescriptor "(Ljava/lang/String;Lcom/example/outremer_engine/outremerengine/board/UnitType;Lcom/example/outremer_engine/outremerengine/board/Place;)V" = some ⟨[(.object "java/lang/String"), (.object "com/example/outremer_engine/outremerengine/board/UnitType"), (.object "com/example/outremer_engine/outremerengine/board/Place")], none⟩ := by decide +kernel
theorem pd__28_Lcom_2f_example_2f_outremer_engine_2f_outremerengine_2f_board_2f_Province_3b_Ljava_2f_lang_2f_String_3b__29_V : parseMethodDescriptor "(Lcom/example/outremer_engine/outremerengine/board/Province;Ljava/lang/String;)V" = some ⟨[(.object "com/example/outremer_engine/outremerengine/board/Province"), (.object "java/lang/String")], none⟩ := by decide +kernel
theorem pd__28_Lcom_2f_example_2f_outremer_engine_2f_outremerengine_2f_board_2f_Unit_3b__29_Lcom_2f_example_2f_outremer_engine_2f_outremerengine_2f_diplomacy_2f_Order_24_Convoy_3b_ : parseMethodDescriptor "(Lcom/example/outremer_engine/outremerengine/board/Unit;)Lcom/example/outremer_engine/outremerengine/diplomacy/Order$Convoy;" = some ⟨[(.object "com/example/outremer_engine/outremerengine/board/Unit")], some (.object "com/example/outremer_engine/outremerengine/diplomacy/Order$Convoy")⟩ := by decide +kernel
theorem pd__28__29_Lcom_2f_example_2f_outremer_engine_2f_outremerengine_2f_board_2f_Unit_3b_ : parseMethodDescriptor "()Lcom/example/outremer_engine/outremerengine/board/Unit;" = some ⟨[], some (.object "com/example/outremer_engine/outremerengine/board/Unit")⟩ := by decide +kernel
theorem pd__28__29_Lcom_2f_example_2f_outremer_engine_2f_outremerengine_2f_board_2f_UnitType_3b_ : parseMethodDescriptor "()Lcom/example/outremer_engine/outremerengine/board/UnitType;" = some ⟨[], some (.object "com/example/outremer_engine/outremerengine/board/UnitType")⟩ := by decide +kernel
theorem pd__28__29_Lcom_2f_example_2f_outremer_engine_2f_outremerengine_2f_board_2f_Place_3b_ : parseMethodDescriptor "()Lcom/example/outremer_engine/outremerengine/board/Place;" = some ⟨[], some (.object "com/example/outremer_engine/outremerengine/board/Place")⟩ := by decide +kernel
theorem pn_com_example_outremer_engine_outremerengine_diplomacy_ConvoyGivenToPinLaw : plainName "com/example/outremer_engine/outremerengine/diplomacy/ConvoyGivenToPinLaw" = true := by first | (simp [plainName, overriddenIn]; done) | decide +kernel
theorem ef_0 (m : MethodId) (x0 : Int32) (x1 : Int32) (x2 : Int32) (x3 : Int32) : entryFrame m #[(.int x0), (.int x1), (.int x2), (.int x3)] maxLocals = mkF m 0 #[.val (.int x0), .val (.int x1), .val (.int x2), .val (.int x3), .unset, .unset, .unset, .unset, .unset, .unset, .unset, .unset] [] := by first | (simp [entryFrame, mkF, argsToLocals, Value.category, maxLocals]; done) | rfl
def Q0 (Z : State) (pp1 : Int32) (pp2 : Int32) (pp3 : Int32) (pp4 : Int32) (cs : Int32) (h0 : Heap) (n0 : Nat) (v : Option Value) (h : Heap) (L : List Loc) : Prop := v = some (.int 1) ∧ Fr n0 L
set_option maxRecDepth 65536 in
set_option maxHeartbeats 40000000 in
theorem rm0 (l : Launch) (Z : State) (a0 : Array Value) (hw : ∀ d ∈ tables_1, d.before a0 Z = true) (ws : List Jvm.Cond) (pp1 : Int32) (pp2 : Int32) (pp3 : Int32) (pp4 : Int32) (cs : Int32) (h0 : Heap) (n0 : Nat) (Z0 : n0 ≤ h0.size) (O0 : Old Z n0 h0) (S_COMPACT_STRINGS : Sta Z Z.heap "java/lang/String" "COMPACT_STRINGS" "Z" (.int cs)) (hcs : ¬ cs = (0 : Int32)) :
    MetFree l x (head1 (Jvm.Cond.code x code maxLocals ret :: ws) room_1) (fun a U => a = #[(.int pp1), (.int pp2), (.int pp3), (.int pp4)] ∧ Z.Warmed39 U.vm ∧ U.heap = h0) (fun _ _ _ _ _ => True) (fun _ U o U' => ∃ v L, o = .returned v ∧ Q0 Z pp1 pp2 pp3 pp4 cs h0 n0 v U'.heap L ∧ FrameEnd U o U' L room_1.cells room_1.slots) := by
  refine MetFree.of_bodySF (plainFor_of_name pn_com_example_outremer_engine_outremerengine_diplomacy_ConvoyGivenToPinLaw) hisR ?_
  intro p e s m args below meth c s₁ Bd hml0 hP hK
  obtain ⟨rfl, hZ, hh⟩ := hP
  have hx := Bd.exec
  have hby := Bd.bytes
  have hml : c.maxLocals = 12 := hml0
  have hown : s.vm.findClass "com/example/outremer_engine/outremerengine/diplomacy/ConvoyGivenToPinLaw" = some m.cls := findClass_of_methodNamed Bd.named
  have hnm := (name_of_methodNamed Bd.named Bd.method).1
  have X0 : Stand p l e room_1 s m #[(.int pp1), (.int pp2), (.int pp3), (.int pp4)] below meth c s₁ [] 0 0 := Stand.of_body Bd
  have e0 : s₁.heap = h0 := by rw [← hh, Bd.state]; rfl
  have N0 := Fr.nil n0
  have pre0 : ∀ t, Steps p.tables e below (s₁.setTop (mkF m 0 #[.val (.int pp1), .val (.int pp2), .val (.int pp3), .val (.int pp4), .unset, .unset, .unset, .unset, .unset, .unset, .unset, .unset] [])) t → Steps p.tables e below (s₁.setTop (entryFrame m #[(.int pp1), (.int pp2), (.int pp3), (.int pp4)] maxLocals)) t := fun t k => castTop (ef_0 m pp1 pp2 pp3 pp4) k
  have pre1 : ∀ t, Steps p.tables e below (s₁.setTop (mkF m 19 #[.val (.int pp1), .val (.int pp2), .val (.int pp3), .val (.int pp4), .val (.int ((pp1 &&& (255 : Int32)).toUInt32.toUInt16.toUInt32.toInt32)), .val (.int ((((pp1.toUInt32 >>> ((8 : Int32) &&& 31).toUInt32).toInt32) &&& (255 : Int32)).toUInt32.toUInt16.toUInt32.toInt32)), .unset, .unset, .unset, .unset, .unset, .unset] [])) t → Steps p.tables e below (s₁.setTop (entryFrame m #[(.int pp1), (.int pp2), (.int pp3), (.int pp4)] maxLocals)) t := fun t kt => pre0 t (by
    show Steps p.tables e below (s₁.setTop (mkF m 0 #[.val (.int pp1), .val (.int pp2), .val (.int pp3), .val (.int pp4), .unset, .unset, .unset, .unset, .unset, .unset, .unset, .unset] [])) _
    refine XS.iloadN X0.here hx rfl (hb hby at_0) rfl ?_
    show Steps p.tables e below (s₁.setTop (mkF m 1 #[.val (.int pp1), .val (.int pp2), .val (.int pp3), .val (.int pp4), .unset, .unset, .unset, .unset, .unset, .unset, .unset, .unset] [(.int pp1)])) _
    refine XS.sipush X0.here hx rfl (hb hby at_1) ?_
    show Steps p.tables e below (s₁.setTop (mkF m 4 #[.val (.int pp1), .val (.int pp2), .val (.int pp3), .val (.int pp4), .unset, .unset, .unset, .unset, .unset, .unset, .unset, .unset] [(.int (255 : Int32)), (.int pp1)])) _
    refine XS.iand X0.here hx rfl (hb hby at_4) rfl ?_
    show Steps p.tables e below (s₁.setTop (mkF m 5 #[.val (.int pp1), .val (.int pp2), .val (.int pp3), .val (.int pp4), .unset, .unset, .unset, .unset, .unset, .unset, .unset, .unset] [(.int (pp1 &&& (255 : Int32)))])) _
    refine XS.i2c X0.here hx rfl (hb hby at_5) rfl ?_
    show Steps p.tables e below (s₁.setTop (mkF m 6 #[.val (.int pp1), .val (.int pp2), .val (.int pp3), .val (.int pp4), .unset, .unset, .unset, .unset, .unset, .unset, .unset, .unset] [(.int ((pp1 &&& (255 : Int32)).toUInt32.toUInt16.toUInt32.toInt32))])) _
    refine XS.istore X0.here hx rfl (hb hby at_6) rfl (l' := #[.val (.int pp1), .val (.int pp2), .val (.int pp3), .val (.int pp4), .val (.int ((pp1 &&& (255 : Int32)).toUInt32.toUInt16.toUInt32.toInt32)), .unset, .unset, .unset, .unset, .unset, .unset, .unset]) rfl ?_
    show Steps p.tables e below (s₁.setTop (mkF m 8 #[.val (.int pp1), .val (.int pp2), .val (.int pp3), .val (.int pp4), .val (.int ((pp1 &&& (255 : Int32)).toUInt32.toUInt16.toUInt32.toInt32)), .unset, .unset, .unset, .unset, .unset, .unset, .unset] [])) _
    refine XS.iloadN X0.here hx rfl (hb hby at_8) rfl ?_
    show Steps p.tables e below (s₁.setTop (mkF m 9 #[.val (.int pp1), .val (.int pp2), .val (.int pp3), .val (.int pp4), .val (.int ((pp1 &&& (255 : Int32)).toUInt32.toUInt16.toUInt32.toInt32)), .unset, .unset, .unset, .unset, .unset, .unset, .unset] [(.int pp1)])) _
    refine XS.bipush X0.here hx rfl (hb hby at_9) ?_
    show Steps p.tables e below (s₁.setTop (mkF m 11 #[.val (.int pp1), .val (.int pp2), .val (.int pp3), .val (.int pp4), .val (.int ((pp1 &&& (255 : Int32)).toUInt32.toUInt16.toUInt32.toInt32)), .unset, .unset, .unset, .unset, .unset, .unset, .unset] [(.int (8 : Int32)), (.int pp1)])) _
    refine XS.iushr X0.here hx rfl (hb hby at_11) rfl ?_
    show Steps p.tables e below (s₁.setTop (mkF m 12 #[.val (.int pp1), .val (.int pp2), .val (.int pp3), .val (.int pp4), .val (.int ((pp1 &&& (255 : Int32)).toUInt32.toUInt16.toUInt32.toInt32)), .unset, .unset, .unset, .unset, .unset, .unset, .unset] [(.int ((pp1.toUInt32 >>> ((8 : Int32) &&& 31).toUInt32).toInt32))])) _
    refine XS.sipush X0.here hx rfl (hb hby at_12) ?_
    show Steps p.tables e below (s₁.setTop (mkF m 15 #[.val (.int pp1), .val (.int pp2), .val (.int pp3), .val (.int pp4), .val (.int ((pp1 &&& (255 : Int32)).toUInt32.toUInt16.toUInt32.toInt32)), .unset, .unset, .unset, .unset, .unset, .unset, .unset] [(.int (255 : Int32)), (.int ((pp1.toUInt32 >>> ((8 : Int32) &&& 31).toUInt32).toInt32))])) _
    refine XS.iand X0.here hx rfl (hb hby at_15) rfl ?_
    show Steps p.tables e below (s₁.setTop (mkF m 16 #[.val (.int pp1), .val (.int pp2), .val (.int pp3), .val (.int pp4), .val (.int ((pp1 &&& (255 : Int32)).toUInt32.toUInt16.toUInt32.toInt32)), .unset, .unset, .unset, .unset, .unset, .unset, .unset] [(.int (((pp1.toUInt32 >>> ((8 : Int32) &&& 31).toUInt32).toInt32) &&& (255 : Int32)))])) _
    refine XS.i2c X0.here hx rfl (hb hby at_16) rfl ?_
    show Steps p.tables e below (s₁.setTop (mkF m 17 #[.val (.int pp1), .val (.int pp2), .val (.int pp3), .val (.int pp4), .val (.int ((pp1 &&& (255 : Int32)).toUInt32.toUInt16.toUInt32.toInt32)), .unset, .unset, .unset, .unset, .unset, .unset, .unset] [(.int ((((pp1.toUInt32 >>> ((8 : Int32) &&& 31).toUInt32).toInt32) &&& (255 : Int32)).toUInt32.toUInt16.toUInt32.toInt32))])) _
    refine XS.istore X0.here hx rfl (hb hby at_17) rfl (l' := #[.val (.int pp1), .val (.int pp2), .val (.int pp3), .val (.int pp4), .val (.int ((pp1 &&& (255 : Int32)).toUInt32.toUInt16.toUInt32.toInt32)), .val (.int ((((pp1.toUInt32 >>> ((8 : Int32) &&& 31).toUInt32).toInt32) &&& (255 : Int32)).toUInt32.toUInt16.toUInt32.toInt32)), .unset, .unset, .unset, .unset, .unset, .unset]) rfl ?_
    exact kt)
  obtain ⟨c1, c2, h_c1, h_c2, pre2⟩ : ∃ (c1 : Int32) (c2 : Int32), (¬ (255 : Int32) < c1) ∧ (¬ (255 : Int32) < c2) ∧ ∀ t, Steps p.tables e below (s₁.setTop (mkF m 19 #[.val (.int pp1), .val (.int pp2), .val (.int pp3), .val (.int pp4), .val (.int c1), .val (.int c2), .unset, .unset, .unset, .unset, .unset, .unset] [])) t → Steps p.tables e below (s₁.setTop (entryFrame m #[(.int pp1), (.int pp2), (.int pp3), (.int pp4)] maxLocals)) t := ⟨((pp1 &&& (255 : Int32)).toUInt32.toUInt16.toUInt32.toInt32), ((((pp1.toUInt32 >>> ((8 : Int32) &&& 31).toUInt32).toInt32) &&& (255 : Int32)).toUInt32.toUInt16.toUInt32.toInt32), own_ch _, own_ch _, pre1⟩
  obtain ⟨T3, h3, X3, e3, E3, A3, D3, -, st3⟩ := newO X0 hx hZ hown (hw _ (List.mem_of_getElem? (i := 0) rfl)) (hw _ (List.mem_of_getElem? (i := 1) rfl)) (hw _ (List.mem_of_getElem? (i := 2) rfl)) e0 (g := (mkF m 19 #[.val (.int pp1), .val (.int pp2), .val (.int pp3), .val (.int pp4), .val (.int c1), .val (.int c2), .unset, .unset, .unset, .unset, .unset, .unset] [])) rfl (hb hby at_19) (by decide) (by decide)
  obtain ⟨b3, g3⟩ : ∃ z, z = h0.size := ⟨_, rfl⟩
  rw [← g3] at A3 D3 st3
  have g_b3 : n0 ≤ b3 := Nat.le_trans Z0 (Nat.le_of_eq g3.symm)
  have Z3 : n0 ≤ h3.size := Nat.le_trans Z0 E3.1
  have F3_nation : Fld Z h3 b3 "com/example/outremer_engine/outremerengine/board/Unit" "nation" "Ljava/lang/String;" .null := D3 (Or.inr (hw _ (List.mem_of_getElem? (i := 39) rfl))) (ty := (.object "java/lang/String")) (by decide)
  have F3_type : Fld Z h3 b3 "com/example/outremer_engine/outremerengine/board/Unit" "type" "Lcom/example/outremer_engine/outremerengine/board/UnitType;" .null := D3 (Or.inr (hw _ (List.mem_of_getElem? (i := 41) rfl))) (ty := (.object "com/example/outremer_engine/outremerengine/board/UnitType")) (by decide)
  have F3_place : Fld Z h3 b3 "com/example/outremer_engine/outremerengine/board/Unit" "place" "Lcom/example/outremer_engine/outremerengine/board/Place;" .null := D3 (Or.inr (hw _ (List.mem_of_getElem? (i := 43) rfl))) (ty := (.object "com/example/outremer_engine/outremerengine/board/Place")) (by decide)
  have O_4 : Old Z n0 h3 := (O0.ext E3)
  obtain ⟨_, _, ⟨T5, L5, k5, n5⟩, -, X5, ⟨Lc5, hQ5, l5, y5, z5⟩, st5⟩ := Jvm.LawKit.callS X3 hx (y := (⟨"java/lang/String", "valueOf", "(C)Ljava/lang/String;"⟩ : MethodName)) hown (mvT hZ (hw _ (List.mem_of_getElem? (i := 3) rfl))) (mvT hZ (hw _ (List.mem_of_getElem? (i := 4) rfl))) (mvT hZ (hw _ (List.mem_of_getElem? (i := 5) rfl))) (mvT hZ (hw _ (List.mem_of_getElem? (i := 6) rfl))) (by decide) (backOf (W := 2) (rm1 l Z a0 hw [] c1 cs h3 n0 Z3 O_4 S_COMPACT_STRINGS (show ¬ cs = (0 : Int32) from hcs) (show ¬ (255 : Int32) < c1 from h_c1)) hZ (hw _ (List.mem_of_getElem? (i := 6) rfl)) (hw _ (List.mem_of_getElem? (i := 5) rfl)) (by decide) (by decide)) (g := (mkF m 25 #[.val (.int pp1), .val (.int pp2), .val (.int pp3), .val (.int pp4), .val (.int c1), .val (.int c2), .unset, .unset, .unset, .unset, .unset, .unset] [(.int c1), (.ref b3), (.ref b3)])) rfl (by rw [hml]; rfl) (argsL := [(.int c1)]) (rest := [(.ref b3), (.ref b3)]) (lenOf pd__28_C_29_Ljava_2f_lang_2f_String_3b_ rfl) rfl (by show 2 * 0 + _ ≤ _; exact Nat.le_of_eq rfl) (hb hby at_25) (fun _ _ => ⟨rfl, e3, (by decide : 1 + 2 ≤ _), (by decide : 3 + 5 ≤ _)⟩)
  dsimp only [Pt.U, Pt.locs, Pt.cells, Pt.slots] at X5 l5 y5 z5 st5 hQ5
  subst y5 z5
  obtain ⟨bx_5, rfl, N5q, K5c, g_bx_5, sb_bx_5⟩ := hQ5
  have N5 : Fr n0 L5 := by rw [l5]; exact Fr.app N0 N5q
  have Z5 : n0 ≤ T5.heap.size := Nat.le_trans Z3 K5c.1
  change Stand _ _ _ _ _ _ _ _ _ _ _ _ 3 8 at X5
  have E_6 : Exa Z T5.heap b3 "com/example/outremer_engine/outremerengine/board/Unit" := (A3.keep K5c)
  have F_7 : Fld Z T5.heap b3 "com/example/outremer_engine/outremerengine/board/Unit" "nation" "Ljava/lang/String;" .null := (F3_nation.keep K5c nin0)
  have F_8 : Fld Z T5.heap b3 "com/example/outremer_engine/outremerengine/board/Unit" "type" "Lcom/example/outremer_engine/outremerengine/board/UnitType;" .null := (F3_type.keep K5c nin0)
  have F_9 : Fld Z T5.heap b3 "com/example/outremer_engine/outremerengine/board/Unit" "place" "Lcom/example/outremer_engine/outremerengine/board/Place;" .null := (F3_place.keep K5c nin0)
  obtain ⟨_, _, ⟨T10, L10, k10, n10⟩, -, X10, ⟨Lc10, hQ10, l10, y10, z10⟩, st10⟩ := X5.specialBack hx (y := (⟨"com/example/outremer_engine/outremerengine/board/Unit", "<init>", "(Ljava/lang/String;Lcom/example/outremer_engine/outremerengine/board/UnitType;Lcom/example/outremer_engine/outremerengine/board/Place;)V"⟩ : MethodName)) rfl hown (mvT hZ (hw _ (List.mem_of_getElem? (i := 29) rfl))) (mvT hZ (hw _ (List.mem_of_getElem? (i := 30) rfl))) (mvT hZ (hw _ (List.mem_of_getElem? (i := 31) rfl))) (by decide) (backOf (W := 1) (rm6 l Z a0 hw [] b3 bx_5 .null .null .null T5.heap n0 Z5 E_6 g_b3 F_7 F_8 F_9) hZ (hw _ (List.mem_of_getElem? (i := 31) rfl)) (hw _ (List.mem_of_getElem? (i := 2) rfl)) (by decide) (by decide)) (g := (mkF m 30 #[.val (.int pp1), .val (.int pp2), .val (.int pp3), .val (.int pp4), .val (.int c1), .val (.int c2), .unset, .unset, .unset, .unset, .unset, .unset] [.null, .null, (.ref bx_5), (.ref b3), (.ref b3)])) rfl (by rw [hml]; rfl) (Steps.refl _) (a := b3) (argsL := [(.ref bx_5), .null, .null]) (rest := [(.ref b3)]) (lenOf pd__28_Ljava_2f_lang_2f_String_3b_Lcom_2f_example_2f_outremer_engine_2f_outremerengine_2f_board_2f_UnitType_3b_Lcom_2f_example_2f_outremer_engine_2f_outremerengine_2f_board_2f_Place_3b__29_V rfl) rfl (by show 2 * 0 + _ ≤ _; exact Nat.le_of_eq rfl) (hb hby at_30) (fun _ _ => ⟨rfl, rfl, (by decide : 3 + 0 ≤ _), (by decide : 8 + 0 ≤ _)⟩)
  dsimp only [Pt.U, Pt.locs, Pt.cells, Pt.slots] at X10 l10 y10 z10 st10 hQ10
  subst y10 z10
  obtain ⟨rfl, N10q, K10c, R10_0, R10_1, R10_2⟩ := hQ10
  have N10 : Fr n0 L10 := by rw [l10]; exact Fr.app N5 N10q
  have Z10 : n0 ≤ T10.heap.size := Nat.le_trans Z5 K10c.1
  change Stand _ _ _ _ _ _ _ _ _ _ _ _ 3 8 at X10
  obtain ⟨T11, h11, X11, e11, E11, A11, D11, -, st11⟩ := newO X10 hx hZ hown (hw _ (List.mem_of_getElem? (i := 0) rfl)) (hw _ (List.mem_of_getElem? (i := 1) rfl)) (hw _ (List.mem_of_getElem? (i := 2) rfl)) rfl (g := (mkF m 35 #[.val (.int pp1), .val (.int pp2), .val (.int pp3), .val (.int pp4), .val (.int c1), .val (.int c2), .val (.ref b3), .unset, .unset, .unset, .unset, .unset] [])) rfl (hb hby at_35) (by decide) (by decide)
  obtain ⟨b11, g11⟩ : ∃ z, z = T10.heap.size := ⟨_, rfl⟩
  rw [← g11] at A11 D11 st11
  have g_b11 : n0 ≤ b11 := Nat.le_trans Z10 (Nat.le_of_eq g11.symm)
  have Z11 : n0 ≤ h11.size := Nat.le_trans Z10 E11.1
  have F11_nation : Fld Z h11 b11 "com/example/outremer_engine/outremerengine/board/Unit" "nation" "Ljava/lang/String;" .null := D11 (Or.inr (hw _ (List.mem_of_getElem? (i := 39) rfl))) (ty := (.object "java/lang/String")) (by decide)
  have F11_type : Fld Z h11 b11 "com/example/outremer_engine/outremerengine/board/Unit" "type" "Lcom/example/outremer_engine/outremerengine/board/UnitType;" .null := D11 (Or.inr (hw _ (List.mem_of_getElem? (i := 41) rfl))) (ty := (.object "com/example/outremer_engine/outremerengine/board/UnitType")) (by decide)
  have F11_place : Fld Z h11 b11 "com/example/outremer_engine/outremerengine/board/Unit" "place" "Lcom/example/outremer_engine/outremerengine/board/Place;" .null := D11 (Or.inr (hw _ (List.mem_of_getElem? (i := 43) rfl))) (ty := (.object "com/example/outremer_engine/outremerengine/board/Place")) (by decide)
  have O_12 : Old Z n0 h11 := (((O_4.keep K5c all0).keep K10c (allS g_b3 all0)).ext E11)
  obtain ⟨_, _, ⟨T13, L13, k13, n13⟩, -, X13, ⟨Lc13, hQ13, l13, y13, z13⟩, st13⟩ := Jvm.LawKit.callS X11 hx (y := (⟨"java/lang/String", "valueOf", "(C)Ljava/lang/String;"⟩ : MethodName)) hown (mvT hZ (hw _ (List.mem_of_getElem? (i := 3) rfl))) (mvT hZ (hw _ (List.mem_of_getElem? (i := 4) rfl))) (mvT hZ (hw _ (List.mem_of_getElem? (i := 5) rfl))) (mvT hZ (hw _ (List.mem_of_getElem? (i := 6) rfl))) (by decide) (backOf (W := 2) (rm1 l Z a0 hw [] c2 cs h11 n0 Z11 O_12 S_COMPACT_STRINGS (show ¬ cs = (0 : Int32) from hcs) (show ¬ (255 : Int32) < c2 from h_c2)) hZ (hw _ (List.mem_of_getElem? (i := 6) rfl)) (hw _ (List.mem_of_getElem? (i := 5) rfl)) (by decide) (by decide)) (g := (mkF m 41 #[.val (.int pp1), .val (.int pp2), .val (.int pp3), .val (.int pp4), .val (.int c1), .val (.int c2), .val (.ref b3), .unset, .unset, .unset, .unset, .unset] [(.int c2), (.ref b11), (.ref b11)])) rfl (by rw [hml]; rfl) (argsL := [(.int c2)]) (rest := [(.ref b11), (.ref b11)]) (lenOf pd__28_C_29_Ljava_2f_lang_2f_String_3b_ rfl) rfl (by show 2 * 0 + _ ≤ _; exact Nat.le_of_eq rfl) (hb hby at_41) (fun _ _ => ⟨rfl, e11, (by decide : 4 + 2 ≤ _), (by decide : 11 + 5 ≤ _)⟩)
  dsimp only [Pt.U, Pt.locs, Pt.cells, Pt.slots] at X13 l13 y13 z13 st13 hQ13
  subst y13 z13
  obtain ⟨bx_13, rfl, N13q, K13c, g_bx_13, sb_bx_13⟩ := hQ13
  have N13 : Fr n0 L13 := by rw [l13]; exact Fr.app N10 N13q
  have Z13 : n0 ≤ T13.heap.size := Nat.le_trans Z11 K13c.1
  change Stand _ _ _ _ _ _ _ _ _ _ _ _ 6 16 at X13
  have E_14 : Exa Z T13.heap b11 "com/example/outremer_engine/outremerengine/board/Unit" := (A11.keep K13c)
  have F_15 : Fld Z T13.heap b11 "com/example/outremer_engine/outremerengine/board/Unit" "nation" "Ljava/lang/String;" .null := (F11_nation.keep K13c nin0)
  have F_16 : Fld Z T13.heap b11 "com/example/outremer_engine/outremerengine/board/Unit" "type" "Lcom/example/outremer_engine/outremerengine/board/UnitType;" .null := (F11_type.keep K13c nin0)
  have F_17 : Fld Z T13.heap b11 "com/example/outremer_engine/outremerengine/board/Unit" "place" "Lcom/example/outremer_engine/outremerengine/board/Place;" .null := (F11_place.keep K13c nin0)
  obtain ⟨_, _, ⟨T18, L18, k18, n18⟩, -, X18, ⟨Lc18, hQ18, l18, y18, z18⟩, st18⟩ := X13.specialBack hx (y := (⟨"com/example/outremer_engine/outremerengine/board/Unit", "<init>", "(Ljava/lang/String;Lcom/example/outremer_engine/outremerengine/board/UnitType;Lcom/example/outremer_engine/outremerengine/board/Place;)V"⟩ : MethodName)) rfl hown (mvT hZ (hw _ (List.mem_of_getElem? (i := 29) rfl))) (mvT hZ (hw _ (List.mem_of_getElem? (i := 30) rfl))) (mvT hZ (hw _ (List.mem_of_getElem? (i := 31) rfl))) (by decide) (backOf (W := 1) (rm6 l Z a0 hw [] b11 bx_13 .null .null .null T13.heap n0 Z13 E_14 g_b11 F_15 F_16 F_17) hZ (hw _ (List.mem_of_getElem? (i := 31) rfl)) (hw _ (List.mem_of_getElem? (i := 2) rfl)) (by decide) (by decide)) (g := (mkF m 46 #[.val (.int pp1), .val (.int pp2), .val (.int pp3), .val (.int pp4), .val (.int c1), .val (.int c2), .val (.ref b3), .unset, .unset, .unset, .unset, .unset] [.null, .null, (.ref bx_13), (.ref b11), (.ref b11)])) rfl (by rw [hml]; rfl) (Steps.refl _) (a := b11) (argsL := [(.ref bx_13), .null, .null]) (rest := [(.ref b11)]) (lenOf pd__28_Ljava_2f_lang_2f_String_3b_Lcom_2f_example_2f_outremer_engine_2f_outremerengine_2f_board_2f_UnitType_3b_Lcom_2f_example_2f_outremer_engine_2f_outremerengine_2f_board_2f_Place_3b__29_V rfl) rfl (by show 2 * 0 + _ ≤ _; exact Nat.le_of_eq rfl) (hb hby at_46) (fun _ _ => ⟨rfl, rfl, (by decide : 6 + 0 ≤ _), (by decide : 16 + 0 ≤ _)⟩)
  dsimp only [Pt.U, Pt.locs, Pt.cells, Pt.slots] at X18 l18 y18 z18 st18 hQ18
  subst y18 z18
  obtain ⟨rfl, N18q, K18c, R18_0, R18_1, R18_2⟩ := hQ18
  have N18 : Fr n0 L18 := by rw [l18]; exact Fr.app N13 N18q
  have Z18 : n0 ≤ T18.heap.size := Nat.le_trans Z13 K18c.1
  change Stand _ _ _ _ _ _ _ _ _ _ _ _ 6 16 at X18
  obtain ⟨T19, h19, X19, e19, E19, A19, D19, -, st19⟩ := newO X18 hx hZ hown (hw _ (List.mem_of_getElem? (i := 44) rfl)) (hw _ (List.mem_of_getElem? (i := 45) rfl)) (hw _ (List.mem_of_getElem? (i := 46) rfl)) rfl (g := (mkF m 51 #[.val (.int pp1), .val (.int pp2), .val (.int pp3), .val (.int pp4), .val (.int c1), .val (.int c2), .val (.ref b3), .val (.ref b11), .unset, .unset, .unset, .unset] [])) rfl (hb hby at_51) (by decide) (by decide)
  obtain ⟨b19, g19⟩ : ∃ z, z = T18.heap.size := ⟨_, rfl⟩
  rw [← g19] at A19 D19 st19
  have g_b19 : n0 ≤ b19 := Nat.le_trans Z18 (Nat.le_of_eq g19.symm)
  have Z19 : n0 ≤ h19.size := Nat.le_trans Z18 E19.1
  have F19_province : Fld Z h19 b19 "com/example/outremer_engine/outremerengine/board/Place" "province" "Lcom/example/outremer_engine/outremerengine/board/Province;" .null := D19 (Or.inr (hw _ (List.mem_of_getElem? (i := 52) rfl))) (ty := (.object "com/example/outremer_engine/outremerengine/board/Province")) (by decide)
  have F19_coast : Fld Z h19 b19 "com/example/outremer_engine/outremerengine/board/Place" "coast" "Ljava/lang/String;" .null := D19 (Or.inr (hw _ (List.mem_of_getElem? (i := 54) rfl))) (ty := (.object "java/lang/String")) (by decide)
  have pre20 : ∀ t, Steps p.tables e below (T19.setTop (mkF m 62 #[.val (.int pp1), .val (.int pp2), .val (.int pp3), .val (.int pp4), .val (.int c1), .val (.int c2), .val (.ref b3), .val (.ref b11), .unset, .unset, .unset, .unset] [(.int ((pp2 &&& (255 : Int32)).toUInt32.toUInt16.toUInt32.toInt32)), .null, (.ref b19), (.ref b19)])) t → Steps p.tables e below (s₁.setTop (entryFrame m #[(.int pp1), (.int pp2), (.int pp3), (.int pp4)] maxLocals)) t := fun t kt => pre2 t (by
    show Steps p.tables e below (s₁.setTop (mkF m 19 #[.val (.int pp1), .val (.int pp2), .val (.int pp3), .val (.int pp4), .val (.int c1), .val (.int c2), .unset, .unset, .unset, .unset, .unset, .unset] [])) _
    refine st3 _ ?_
    show Steps p.tables e below (T3.setTop (mkF m 22 #[.val (.int pp1), .val (.int pp2), .val (.int pp3), .val (.int pp4), .val (.int c1), .val (.int c2), .unset, .unset, .unset, .unset, .unset, .unset] [(.ref b3)])) _
    refine XS.dup X3.here hx rfl (hb hby at_22) rfl rfl ?_
    show Steps p.tables e below (T3.setTop (mkF m 23 #[.val (.int pp1), .val (.int pp2), .val (.int pp3), .val (.int pp4), .val (.int c1), .val (.int c2), .unset, .unset, .unset, .unset, .unset, .unset] [(.ref b3), (.ref b3)])) _
    refine XS.iload X3.here hx rfl (hb hby at_23) rfl ?_
    show Steps p.tables e below (T3.setTop (mkF m 25 #[.val (.int pp1), .val (.int pp2), .val (.int pp3), .val (.int pp4), .val (.int c1), .val (.int c2), .unset, .unset, .unset, .unset, .unset, .unset] [(.int c1), (.ref b3), (.ref b3)])) _
    refine st5 _ ?_
    show Steps p.tables e below (T5.setTop (mkF m 28 #[.val (.int pp1), .val (.int pp2), .val (.int pp3), .val (.int pp4), .val (.int c1), .val (.int c2), .unset, .unset, .unset, .unset, .unset, .unset] [(.ref bx_5), (.ref b3), (.ref b3)])) _
    refine XS.aconstNull X5.here hx rfl (hb hby at_28) ?_
    show Steps p.tables e below (T5.setTop (mkF m 29 #[.val (.int pp1), .val (.int pp2), .val (.int pp3), .val (.int pp4), .val (.int c1), .val (.int c2), .unset, .unset, .unset, .unset, .unset, .unset] [.null, (.ref bx_5), (.ref b3), (.ref b3)])) _
    refine XS.aconstNull X5.here hx rfl (hb hby at_29) ?_
    show Steps p.tables e below (T5.setTop (mkF m 30 #[.val (.int pp1), .val (.int pp2), .val (.int pp3), .val (.int pp4), .val (.int c1), .val (.int c2), .unset, .unset, .unset, .unset, .unset, .unset] [.null, .null, (.ref bx_5), (.ref b3), (.ref b3)])) _
    refine st10.trans ?_
    show Steps p.tables e below (T10.setTop (mkF m 33 #[.val (.int pp1), .val (.int pp2), .val (.int pp3), .val (.int pp4), .val (.int c1), .val (.int c2), .unset, .unset, .unset, .unset, .unset, .unset] [(.ref b3)])) _
    refine XS.astore X10.here hx rfl (hb hby at_33) rfl rfl (l' := #[.val (.int pp1), .val (.int pp2), .val (.int pp3), .val (.int pp4), .val (.int c1), .val (.int c2), .val (.ref b3), .unset, .unset, .unset, .unset, .unset]) rfl ?_
    show Steps p.tables e below (T10.setTop (mkF m 35 #[.val (.int pp1), .val (.int pp2), .val (.int pp3), .val (.int pp4), .val (.int c1), .val (.int c2), .val (.ref b3), .unset, .unset, .unset, .unset, .unset] [])) _
    refine st11 _ ?_
    show Steps p.tables e below (T11.setTop (mkF m 38 #[.val (.int pp1), .val (.int pp2), .val (.int pp3), .val (.int pp4), .val (.int c1), .val (.int c2), .val (.ref b3), .unset, .unset, .unset, .unset, .unset] [(.ref b11)])) _
    refine XS.dup X11.here hx rfl (hb hby at_38) rfl rfl ?_
    show Steps p.tables e below (T11.setTop (mkF m 39 #[.val (.int pp1), .val (.int pp2), .val (.int pp3), .val (.int pp4), .val (.int c1), .val (.int c2), .val (.ref b3), .unset, .unset, .unset, .unset, .unset] [(.ref b11), (.ref b11)])) _
    refine XS.iload X11.here hx rfl (hb hby at_39) rfl ?_
    show Steps p.tables e below (T11.setTop (mkF m 41 #[.val (.int pp1), .val (.int pp2), .val (.int pp3), .val (.int pp4), .val (.int c1), .val (.int c2), .val (.ref b3), .unset, .unset, .unset, .unset, .unset] [(.int c2), (.ref b11), (.ref b11)])) _
    refine st13 _ ?_
    show Steps p.tables e below (T13.setTop (mkF m 44 #[.val (.int pp1), .val (.int pp2), .val (.int pp3), .val (.int pp4), .val (.int c1), .val (.int c2), .val (.ref b3), .unset, .unset, .unset, .unset, .unset] [(.ref bx_13), (.ref b11), (.ref b11)])) _
    refine XS.aconstNull X13.here hx rfl (hb hby at_44) ?_
    show Steps p.tables e below (T13.setTop (mkF m 45 #[.val (.int pp1), .val (.int pp2), .val (.int pp3), .val (.int pp4), .val (.int c1), .val (.int c2), .val (.ref b3), .unset, .unset, .unset, .unset, .unset] [.null, (.ref bx_13), (.ref b11), (.ref b11)])) _
    refine XS.aconstNull X13.here hx rfl (hb hby at_45) ?_
    show Steps p.tables e below (T13.setTop (mkF m 46 #[.val (.int pp1), .val (.int pp2), .val (.int pp3), .val (.int pp4), .val (.int c1), .val (.int c2), .val (.ref b3), .unset, .unset, .unset, .unset, .unset] [.null, .null, (.ref bx_13), (.ref b11), (.ref b11)])) _
    refine st18.trans ?_
    show Steps p.tables e below (T18.setTop (mkF m 49 #[.val (.int pp1), .val (.int pp2), .val (.int pp3), .val (.int pp4), .val (.int c1), .val (.int c2), .val (.ref b3), .unset, .unset, .unset, .unset, .unset] [(.ref b11)])) _
    refine XS.astore X18.here hx rfl (hb hby at_49) rfl rfl (l' := #[.val (.int pp1), .val (.int pp2), .val (.int pp3), .val (.int pp4), .val (.int c1), .val (.int c2), .val (.ref b3), .val (.ref b11), .unset, .unset, .unset, .unset]) rfl ?_
    show Steps p.tables e below (T18.setTop (mkF m 51 #[.val (.int pp1), .val (.int pp2), .val (.int pp3), .val (.int pp4), .val (.int c1), .val (.int c2), .val (.ref b3), .val (.ref b11), .unset, .unset, .unset, .unset] [])) _
    refine st19 _ ?_
    show Steps p.tables e below (T19.setTop (mkF m 54 #[.val (.int pp1), .val (.int pp2), .val (.int pp3), .val (.int pp4), .val (.int c1), .val (.int c2), .val (.ref b3), .val (.ref b11), .unset, .unset, .unset, .unset] [(.ref b19)])) _
    refine XS.dup X19.here hx rfl (hb hby at_54) rfl rfl ?_
    show Steps p.tables e below (T19.setTop (mkF m 55 #[.val (.int pp1), .val (.int pp2), .val (.int pp3), .val (.int pp4), .val (.int c1), .val (.int c2), .val (.ref b3), .val (.ref b11), .unset, .unset, .unset, .unset] [(.ref b19), (.ref b19)])) _
    refine XS.aconstNull X19.here hx rfl (hb hby at_55) ?_
    show Steps p.tables e below (T19.setTop (mkF m 56 #[.val (.int pp1), .val (.int pp2), .val (.int pp3), .val (.int pp4), .val (.int c1), .val (.int c2), .val (.ref b3), .val (.ref b11), .unset, .unset, .unset, .unset] [.null, (.ref b19), (.ref b19)])) _
    refine XS.iloadN X19.here hx rfl (hb hby at_56) rfl ?_
    show Steps p.tables e below (T19.setTop (mkF m 57 #[.val (.int pp1), .val (.int pp2), .val (.int pp3), .val (.int pp4), .val (.int c1), .val (.int c2), .val (.ref b3), .val (.ref b11), .unset, .unset, .unset, .unset] [(.int pp2), .null, (.ref b19), (.ref b19)])) _
    refine XS.sipush X19.here hx rfl (hb hby at_57) ?_
    show Steps p.tables e below (T19.setTop (mkF m 60 #[.val (.int pp1), .val (.int pp2), .val (.int pp3), .val (.int pp4), .val (.int c1), .val (.int c2), .val (.ref b3), .val (.ref b11), .unset, .unset, .unset, .unset] [(.int (255 : Int32)), (.int pp2), .null, (.ref b19), (.ref b19)])) _
    refine XS.iand X19.here hx rfl (hb hby at_60) rfl ?_
    show Steps p.tables e below (T19.setTop (mkF m 61 #[.val (.int pp1), .val (.int pp2), .val (.int pp3), .val (.int pp4), .val (.int c1), .val (.int c2), .val (.ref b3), .val (.ref b11), .unset, .unset, .unset, .unset] [(.int (pp2 &&& (255 : Int32))), .null, (.ref b19), (.ref b19)])) _
    refine XS.i2c X19.here hx rfl (hb hby at_61) rfl ?_
    exact kt)
  obtain ⟨c3, h_c3, pre21⟩ : ∃ (c3 : Int32), (¬ (255 : Int32) < c3) ∧ ∀ t, Steps p.tables e below (T19.setTop (mkF m 62 #[.val (.int pp1), .val (.int pp2), .val (.int pp3), .val (.int pp4), .val (.int c1), .val (.int c2), .val (.ref b3), .val (.ref b11), .unset, .unset, .unset, .unset] [(.int c3), .null, (.ref b19), (.ref b19)])) t → Steps p.tables e below (s₁.setTop (entryFrame m #[(.int pp1), (.int pp2), (.int pp3), (.int pp4)] maxLocals)) t := ⟨((pp2 &&& (255 : Int32)).toUInt32.toUInt16.toUInt32.toInt32), own_ch _, pre20⟩
  have O_22 : Old Z n0 h19 := (((O_12.keep K13c all0).keep K18c (allS g_b11 all0)).ext E19)
  obtain ⟨_, _, ⟨T23, L23, k23, n23⟩, -, X23, ⟨Lc23, hQ23, l23, y23, z23⟩, st23⟩ := Jvm.LawKit.callS X19 hx (y := (⟨"java/lang/String", "valueOf", "(C)Ljava/lang/String;"⟩ : MethodName)) hown (mvT hZ (hw _ (List.mem_of_getElem? (i := 3) rfl))) (mvT hZ (hw _ (List.mem_of_getElem? (i := 4) rfl))) (mvT hZ (hw _ (List.mem_of_getElem? (i := 5) rfl))) (mvT hZ (hw _ (List.mem_of_getElem? (i := 6) rfl))) (by decide) (backOf (W := 3) (rm1 l Z a0 hw [] c3 cs h19 n0 Z19 O_22 S_COMPACT_STRINGS (show ¬ cs = (0 : Int32) from hcs) (show ¬ (255 : Int32) < c3 from h_c3)) hZ (hw _ (List.mem_of_getElem? (i := 6) rfl)) (hw _ (List.mem_of_getElem? (i := 5) rfl)) (by decide) (by decide)) (g := (mkF m 62 #[.val (.int pp1), .val (.int pp2), .val (.int pp3), .val (.int pp4), .val (.int c1), .val (.int c2), .val (.ref b3), .val (.ref b11), .unset, .unset, .unset, .unset] [(.int c3), .null, (.ref b19), (.ref b19)])) rfl (by rw [hml]; rfl) (argsL := [(.int c3)]) (rest := [.null, (.ref b19), (.ref b19)]) (lenOf pd__28_C_29_Ljava_2f_lang_2f_String_3b_ rfl) rfl (by show 2 * 0 + _ ≤ _; exact Nat.le_of_eq rfl) (hb hby at_62) (fun _ _ => ⟨rfl, e19, (by decide : 7 + 2 ≤ _), (by decide : 18 + 5 ≤ _)⟩)
  dsimp only [Pt.U, Pt.locs, Pt.cells, Pt.slots] at X23 l23 y23 z23 st23 hQ23
  subst y23 z23
  obtain ⟨bx_23, rfl, N23q, K23c, g_bx_23, sb_bx_23⟩ := hQ23
  have N23 : Fr n0 L23 := by rw [l23]; exact Fr.app N18 N23q
  have Z23 : n0 ≤ T23.heap.size := Nat.le_trans Z19 K23c.1
  change Stand _ _ _ _ _ _ _ _ _ _ _ _ 9 23 at X23
  have E_24 : Exa Z T23.heap b19 "com/example/outremer_engine/outremerengine/board/Place" := (A19.keep K23c)
  have F_25 : Fld Z T23.heap b19 "com/example/outremer_engine/outremerengine/board/Place" "province" "Lcom/example/outremer_engine/outremerengine/board/Province;" .null := (F19_province.keep K23c nin0)
  have F_26 : Fld Z T23.heap b19 "com/example/outremer_engine/outremerengine/board/Place" "coast" "Ljava/lang/String;" .null := (F19_coast.keep K23c nin0)
  obtain ⟨_, _, ⟨T27, L27, k27, n27⟩, -, X27, ⟨Lc27, hQ27, l27, y27, z27⟩, st27⟩ := X23.specialBack hx (y := (⟨"com/example/outremer_engine/outremerengine/board/Place", "<init>", "(Lcom/example/outremer_engine/outremerengine/board/Province;Ljava/lang/String;)V"⟩ : MethodName)) rfl hown (mvT hZ (hw _ (List.mem_of_getElem? (i := 47) rfl))) (mvT hZ (hw _ (List.mem_of_getElem? (i := 48) rfl))) (mvT hZ (hw _ (List.mem_of_getElem? (i := 49) rfl))) (by decide) (backOf (W := 1) (rm8 l Z a0 hw [] b19 bx_23 .null .null T23.heap n0 Z23 E_24 g_b19 F_25 F_26) hZ (hw _ (List.mem_of_getElem? (i := 49) rfl)) (hw _ (List.mem_of_getElem? (i := 46) rfl)) (by decide) (by decide)) (g := (mkF m 65 #[.val (.int pp1), .val (.int pp2), .val (.int pp3), .val (.int pp4), .val (.int c1), .val (.int c2), .val (.ref b3), .val (.ref b11), .unset, .unset, .unset, .unset] [(.ref bx_23), .null, (.ref b19), (.ref b19)])) rfl (by rw [hml]; rfl) (Steps.refl _) (a := b19) (argsL := [.null, (.ref bx_23)]) (rest := [(.ref b19)]) (lenOf pd__28_Lcom_2f_example_2f_outremer_engine_2f_outremerengine_2f_board_2f_Province_3b_Ljava_2f_lang_2f_String_3b__29_V rfl) rfl (by show 2 * 0 + _ ≤ _; exact Nat.le_of_eq rfl) (hb hby at_65) (fun _ _ => ⟨rfl, rfl, (by decide : 9 + 0 ≤ _), (by decide : 23 + 0 ≤ _)⟩)
  dsimp only [Pt.U, Pt.locs, Pt.cells, Pt.slots] at X27 l27 y27 z27 st27 hQ27
  subst y27 z27
  obtain ⟨rfl, N27q, K27c, R27_0, R27_1⟩ := hQ27
  have N27 : Fr n0 L27 := by rw [l27]; exact Fr.app N23 N27q
  have Z27 : n0 ≤ T27.heap.size := Nat.le_trans Z23 K27c.1
  change Stand _ _ _ _ _ _ _ _ _ _ _ _ 9 23 at X27
  have pre28 : ∀ t, Steps p.tables e below (T27.setTop (mkF m 73 #[.val (.int pp1), .val (.int pp2), .val (.int pp3), .val (.int pp4), .val (.int c1), .val (.int c2), .val (.ref b3), .val (.ref b11), .val (.ref b19), .unset, .unset, .unset] [(.int (pp4 &&& (1 : Int32)))])) t → Steps p.tables e below (s₁.setTop (entryFrame m #[(.int pp1), (.int pp2), (.int pp3), (.int pp4)] maxLocals)) t := fun t kt => pre21 t (by
    show Steps p.tables e below (T19.setTop (mkF m 62 #[.val (.int pp1), .val (.int pp2), .val (.int pp3), .val (.int pp4), .val (.int c1), .val (.int c2), .val (.ref b3), .val (.ref b11), .unset, .unset, .unset, .unset] [(.int c3), .null, (.ref b19), (.ref b19)])) _
    refine st23 _ ?_
    show Steps p.tables e below (T23.setTop (mkF m 65 #[.val (.int pp1), .val (.int pp2), .val (.int pp3), .val (.int pp4), .val (.int c1), .val (.int c2), .val (.ref b3), .val (.ref b11), .unset, .unset, .unset, .unset] [(.ref bx_23), .null, (.ref b19), (.ref b19)])) _
    refine st27.trans ?_
    show Steps p.tables e below (T27.setTop (mkF m 68 #[.val (.int pp1), .val (.int pp2), .val (.int pp3), .val (.int pp4), .val (.int c1), .val (.int c2), .val (.ref b3), .val (.ref b11), .unset, .unset, .unset, .unset] [(.ref b19)])) _
    refine XS.astore X27.here hx rfl (hb hby at_68) rfl rfl (l' := #[.val (.int pp1), .val (.int pp2), .val (.int pp3), .val (.int pp4), .val (.int c1), .val (.int c2), .val (.ref b3), .val (.ref b11), .val (.ref b19), .unset, .unset, .unset]) rfl ?_
    show Steps p.tables e below (T27.setTop (mkF m 70 #[.val (.int pp1), .val (.int pp2), .val (.int pp3), .val (.int pp4), .val (.int c1), .val (.int c2), .val (.ref b3), .val (.ref b11), .val (.ref b19), .unset, .unset, .unset] [])) _
    refine XS.iloadN X27.here hx rfl (hb hby at_70) rfl ?_
    show Steps p.tables e below (T27.setTop (mkF m 71 #[.val (.int pp1), .val (.int pp2), .val (.int pp3), .val (.int pp4), .val (.int c1), .val (.int c2), .val (.ref b3), .val (.ref b11), .val (.ref b19), .unset, .unset, .unset] [(.int pp4)])) _
    refine XS.iconst X27.here hx rfl (hb hby at_71) ?_
    show Steps p.tables e below (T27.setTop (mkF m 72 #[.val (.int pp1), .val (.int pp2), .val (.int pp3), .val (.int pp4), .val (.int c1), .val (.int c2), .val (.ref b3), .val (.ref b11), .val (.ref b19), .unset, .unset, .unset] [(.int (1 : Int32)), (.int pp4)])) _
    refine XS.iand X27.here hx rfl (hb hby at_72) rfl ?_
    exact kt)
  by_cases hc73 : (pp4 &&& (1 : Int32)) = (0 : Int32)
  · skip
    obtain ⟨T29, h29, X29, e29, E29, A29, D29, -, st29⟩ := newO X27 hx hZ hown (hw _ (List.mem_of_getElem? (i := 44) rfl)) (hw _ (List.mem_of_getElem? (i := 45) rfl)) (hw _ (List.mem_of_getElem? (i := 46) rfl)) rfl (g := (mkF m 81 #[.val (.int pp1), .val (.int pp2), .val (.int pp3), .val (.int pp4), .val (.int c1), .val (.int c2), .val (.ref b3), .val (.ref b11), .val (.ref b19), .unset, .unset, .unset] [])) rfl (hb hby at_81) (by decide) (by decide)
    obtain ⟨b29, g29⟩ : ∃ z, z = T27.heap.size := ⟨_, rfl⟩
    rw [← g29] at A29 D29 st29
    have g_b29 : n0 ≤ b29 := Nat.le_trans Z27 (Nat.le_of_eq g29.symm)
    have Z29 : n0 ≤ h29.size := Nat.le_trans Z27 E29.1
    have F29_province : Fld Z h29 b29 "com/example/outremer_engine/outremerengine/board/Place" "province" "Lcom/example/outremer_engine/outremerengine/board/Province;" .null := D29 (Or.inr (hw _ (List.mem_of_getElem? (i := 52) rfl))) (ty := (.object "com/example/outremer_engine/outremerengine/board/Province")) (by decide)
    have F29_coast : Fld Z h29 b29 "com/example/outremer_engine/outremerengine/board/Place" "coast" "Ljava/lang/String;" .null := D29 (Or.inr (hw _ (List.mem_of_getElem? (i := 54) rfl))) (ty := (.object "java/lang/String")) (by decide)
    have O_30 : Old Z n0 h29 := (((O_22.keep K23c all0).keep K27c (allS g_b19 all0)).ext E29)
    obtain ⟨_, _, ⟨T31, L31, k31, n31⟩, -, X31, ⟨Lc31, hQ31, l31, y31, z31⟩, st31⟩ := Jvm.LawKit.callS X29 hx (y := (⟨"java/lang/String", "valueOf", "(C)Ljava/lang/String;"⟩ : MethodName)) hown (mvT hZ (hw _ (List.mem_of_getElem? (i := 3) rfl))) (mvT hZ (hw _ (List.mem_of_getElem? (i := 4) rfl))) (mvT hZ (hw _ (List.mem_of_getElem? (i := 5) rfl))) (mvT hZ (hw _ (List.mem_of_getElem? (i := 6) rfl))) (by decide) (backOf (W := 3) (rm1 l Z a0 hw [] ((pp3 &&& (255 : Int32)).toUInt32.toUInt16.toUInt32.toInt32) cs h29 n0 Z29 O_30 S_COMPACT_STRINGS (show ¬ cs = (0 : Int32) from hcs) (show ¬ (255 : Int32) < ((pp3 &&& (255 : Int32)).toUInt32.toUInt16.toUInt32.toInt32) from own_ch _)) hZ (hw _ (List.mem_of_getElem? (i := 6) rfl)) (hw _ (List.mem_of_getElem? (i := 5) rfl)) (by decide) (by decide)) (g := (mkF m 92 #[.val (.int pp1), .val (.int pp2), .val (.int pp3), .val (.int pp4), .val (.int c1), .val (.int c2), .val (.ref b3), .val (.ref b11), .val (.ref b19), .unset, .unset, .unset] [(.int ((pp3 &&& (255 : Int32)).toUInt32.toUInt16.toUInt32.toInt32)), .null, (.ref b29), (.ref b29)])) rfl (by rw [hml]; rfl) (argsL := [(.int ((pp3 &&& (255 : Int32)).toUInt32.toUInt16.toUInt32.toInt32))]) (rest := [.null, (.ref b29), (.ref b29)]) (lenOf pd__28_C_29_Ljava_2f_lang_2f_String_3b_ rfl) rfl (by show 2 * 0 + _ ≤ _; exact Nat.le_of_eq rfl) (hb hby at_92) (fun _ _ => ⟨rfl, e29, (by decide : 10 + 2 ≤ _), (by decide : 25 + 5 ≤ _)⟩)
    dsimp only [Pt.U, Pt.locs, Pt.cells, Pt.slots] at X31 l31 y31 z31 st31 hQ31
    subst y31 z31
    obtain ⟨bx_31, rfl, N31q, K31c, g_bx_31, sb_bx_31⟩ := hQ31
    have N31 : Fr n0 L31 := by rw [l31]; exact Fr.app N27 N31q
    have Z31 : n0 ≤ T31.heap.size := Nat.le_trans Z29 K31c.1
    change Stand _ _ _ _ _ _ _ _ _ _ _ _ 12 30 at X31
    have E_32 : Exa Z T31.heap b29 "com/example/outremer_engine/outremerengine/board/Place" := (A29.keep K31c)
    have F_33 : Fld Z T31.heap b29 "com/example/outremer_engine/outremerengine/board/Place" "province" "Lcom/example/outremer_engine/outremerengine/board/Province;" .null := (F29_province.keep K31c nin0)
    have F_34 : Fld Z T31.heap b29 "com/example/outremer_engine/outremerengine/board/Place" "coast" "Ljava/lang/String;" .null := (F29_coast.keep K31c nin0)
    obtain ⟨_, _, ⟨T35, L35, k35, n35⟩, -, X35, ⟨Lc35, hQ35, l35, y35, z35⟩, st35⟩ := X31.specialBack hx (y := (⟨"com/example/outremer_engine/outremerengine/board/Place", "<init>", "(Lcom/example/outremer_engine/outremerengine/board/Province;Ljava/lang/String;)V"⟩ : MethodName)) rfl hown (mvT hZ (hw _ (List.mem_of_getElem? (i := 47) rfl))) (mvT hZ (hw _ (List.mem_of_getElem? (i := 48) rfl))) (mvT hZ (hw _ (List.mem_of_getElem? (i := 49) rfl))) (by decide) (backOf (W := 1) (rm8 l Z a0 hw [] b29 bx_31 .null .null T31.heap n0 Z31 E_32 g_b29 F_33 F_34) hZ (hw _ (List.mem_of_getElem? (i := 49) rfl)) (hw _ (List.mem_of_getElem? (i := 46) rfl)) (by decide) (by decide)) (g := (mkF m 95 #[.val (.int pp1), .val (.int pp2), .val (.int pp3), .val (.int pp4), .val (.int c1), .val (.int c2), .val (.ref b3), .val (.ref b11), .val (.ref b19), .unset, .unset, .unset] [(.ref bx_31), .null, (.ref b29), (.ref b29)])) rfl (by rw [hml]; rfl) (Steps.refl _) (a := b29) (argsL := [.null, (.ref bx_31)]) (rest := [(.ref b29)]) (lenOf pd__28_Lcom_2f_example_2f_outremer_engine_2f_outremerengine_2f_board_2f_Province_3b_Ljava_2f_lang_2f_String_3b__29_V rfl) rfl (by show 2 * 0 + _ ≤ _; exact Nat.le_of_eq rfl) (hb hby at_95) (fun _ _ => ⟨rfl, rfl, (by decide : 12 + 0 ≤ _), (by decide : 30 + 0 ≤ _)⟩)
    dsimp only [Pt.U, Pt.locs, Pt.cells, Pt.slots] at X35 l35 y35 z35 st35 hQ35
    subst y35 z35
    obtain ⟨rfl, N35q, K35c, R35_0, R35_1⟩ := hQ35
    have N35 : Fr n0 L35 := by rw [l35]; exact Fr.app N31 N35q
    have Z35 : n0 ≤ T35.heap.size := Nat.le_trans Z31 K35c.1
    change Stand _ _ _ _ _ _ _ _ _ _ _ _ 12 30 at X35
    obtain ⟨T36, h36, X36, e36, E36, A36, D36, -, st36⟩ := newO X35 hx hZ hown (hw _ (List.mem_of_getElem? (i := 55) rfl)) (hw _ (List.mem_of_getElem? (i := 56) rfl)) (hw _ (List.mem_of_getElem? (i := 57) rfl)) rfl (g := (mkF m 100 #[.val (.int pp1), .val (.int pp2), .val (.int pp3), .val (.int pp4), .val (.int c1), .val (.int c2), .val (.ref b3), .val (.ref b11), .val (.ref b19), .val (.ref b29), .unset, .unset] [])) rfl (hb hby at_100) (by decide) (by decide)
    obtain ⟨b36, g36⟩ : ∃ z, z = T35.heap.size := ⟨_, rfl⟩
    rw [← g36] at A36 D36 st36
    have g_b36 : n0 ≤ b36 := Nat.le_trans Z35 (Nat.le_of_eq g36.symm)
    have Z36 : n0 ≤ h36.size := Nat.le_trans Z35 E36.1
    have F36_unit : Fld Z h36 b36 "com/example/outremer_engine/outremerengine/diplomacy/Order$Convoy" "unit" "Lcom/example/outremer_engine/outremerengine/board/Unit;" .null := D36 (Or.inr (hw _ (List.mem_of_getElem? (i := 63) rfl))) (ty := (.object "com/example/outremer_engine/outremerengine/board/Unit")) (by decide)
    have F36_convoyedType : Fld Z h36 b36 "com/example/outremer_engine/outremerengine/diplomacy/Order$Convoy" "convoyedType" "Lcom/example/outremer_engine/outremerengine/board/UnitType;" .null := D36 (Or.inr (hw _ (List.mem_of_getElem? (i := 65) rfl))) (ty := (.object "com/example/outremer_engine/outremerengine/board/UnitType")) (by decide)
    have F36_from : Fld Z h36 b36 "com/example/outremer_engine/outremerengine/diplomacy/Order$Convoy" "from" "Lcom/example/outremer_engine/outremerengine/board/Place;" .null := D36 (Or.inr (hw _ (List.mem_of_getElem? (i := 67) rfl))) (ty := (.object "com/example/outremer_engine/outremerengine/board/Place")) (by decide)
    have F36_to : Fld Z h36 b36 "com/example/outremer_engine/outremerengine/diplomacy/Order$Convoy" "to" "Lcom/example/outremer_engine/outremerengine/board/Place;" .null := D36 (Or.inr (hw _ (List.mem_of_getElem? (i := 69) rfl))) (ty := (.object "com/example/outremer_engine/outremerengine/board/Place")) (by decide)
    obtain ⟨_, _, ⟨T37, L37, k37, n37⟩, -, X37, ⟨Lc37, hQ37, l37, y37, z37⟩, st37⟩ := X36.specialBack hx (y := (⟨"com/example/outremer_engine/outremerengine/diplomacy/Order$Convoy", "<init>", "(Lcom/example/outremer_engine/outremerengine/board/Unit;Lcom/example/outremer_engine/outremerengine/board/UnitType;Lcom/example/outremer_engine/outremerengine/board/Place;Lcom/example/outremer_engine/outremerengine/board/Place;)V"⟩ : MethodName)) rfl hown (mvT hZ (hw _ (List.mem_of_getElem? (i := 58) rfl))) (mvT hZ (hw _ (List.mem_of_getElem? (i := 59) rfl))) (mvT hZ (hw _ (List.mem_of_getElem? (i := 60) rfl))) (by decide) (backOf (W := 1) (rm9 l Z a0 hw [] b36 b3 b19 b29 .null .null .null .null h36 n0 Z36 A36 g_b36 F36_unit F36_convoyedType F36_from F36_to) hZ (hw _ (List.mem_of_getElem? (i := 60) rfl)) (hw _ (List.mem_of_getElem? (i := 57) rfl)) (by decide) (by decide)) (g := (mkF m 111 #[.val (.int pp1), .val (.int pp2), .val (.int pp3), .val (.int pp4), .val (.int c1), .val (.int c2), .val (.ref b3), .val (.ref b11), .val (.ref b19), .val (.ref b29), .unset, .unset] [(.ref b29), (.ref b19), .null, (.ref b3), (.ref b36), (.ref b36)])) rfl (by rw [hml]; rfl) (Steps.refl _) (a := b36) (argsL := [(.ref b3), .null, (.ref b19), (.ref b29)]) (rest := [(.ref b36)]) (lenOf pd__28_Lcom_2f_example_2f_outremer_engine_2f_outremerengine_2f_board_2f_Unit_3b_Lcom_2f_example_2f_outremer_engine_2f_outremerengine_2f_board_2f_UnitType_3b_Lcom_2f_example_2f_outremer_engine_2f_outremerengine_2f_board_2f_Place_3b_Lcom_2f_example_2f_outremer_engine_2f_outremerengine_2f_board_2f_Place_3b__29_V rfl) rfl (by show 2 * 0 + _ ≤ _; exact Nat.le_of_eq rfl) (hb hby at_111) (fun _ _ => ⟨rfl, e36, (by decide : 13 + 0 ≤ _), (by decide : 34 + 0 ≤ _)⟩)
    dsimp only [Pt.U, Pt.locs, Pt.cells, Pt.slots] at X37 l37 y37 z37 st37 hQ37
    subst y37 z37
    obtain ⟨rfl, N37q, K37c, R37_0, R37_1, R37_2, R37_3⟩ := hQ37
    have N37 : Fr n0 L37 := by rw [l37]; exact Fr.app N35 N37q
    have Z37 : n0 ≤ T37.heap.size := Nat.le_trans Z36 K37c.1
    change Stand _ _ _ _ _ _ _ _ _ _ _ _ 13 34 at X37
    have E_39 : Exa Z T37.heap b36 "com/example/outremer_engine/outremerengine/diplomacy/Order$Convoy" := (A36.keep K37c)
    obtain ⟨cq38, kq38, q38a, q38b, q38c⟩ := isOf hZ rfl E_39
    obtain ⟨_, _, ⟨T38, L38, k38, n38⟩, -, X38, ⟨Lc38, hQ38, l38, y38, z38⟩, st38⟩ := X37.virtualBack hx (y := (⟨"com/example/outremer_engine/outremerengine/diplomacy/Order$Convoy", "givenTo", "(Lcom/example/outremer_engine/outremerengine/board/Unit;)Lcom/example/outremer_engine/outremerengine/diplomacy/Order$Convoy;"⟩ : MethodName)) (z := (⟨"com/example/outremer_engine/outremerengine/diplomacy/Order$Convoy", "givenTo", "(Lcom/example/outremer_engine/outremerengine/board/Unit;)Lcom/example/outremer_engine/outremerengine/diplomacy/Order$Convoy;"⟩ : MethodName)) hown (mvT hZ (hw _ (List.mem_of_getElem? (i := 70) rfl))) (mvT hZ (hw _ (List.mem_of_getElem? (i := 71) rfl))) (notFace_of_selects (args := #[]) (mvT hZ (hw _ (List.mem_of_getElem? (i := 73) rfl)))) (mvT hZ (hw _ (List.mem_of_getElem? (i := 73) rfl))) (mvT hZ (hw _ (List.mem_of_getElem? (i := 72) rfl))) (by decide) (backOf (W := 0) (rm10 l Z a0 hw [] b36 b11 b19 b29 T37.heap n0 Z37 R37_1 R37_2 R37_3) hZ (hw _ (List.mem_of_getElem? (i := 74) rfl)) (hw _ (List.mem_of_getElem? (i := 57) rfl)) (by decide) (by decide)) q38a q38c (g := (mkF m 120 #[.val (.int pp1), .val (.int pp2), .val (.int pp3), .val (.int pp4), .val (.int c1), .val (.int c2), .val (.ref b3), .val (.ref b11), .val (.ref b19), .val (.ref b29), .val (.ref b36), .unset] [(.ref b11), (.ref b36)])) rfl (by rw [hml]; rfl) (Steps.refl _) (argsL := [(.ref b11)]) (rest := []) (lenOf pd__28_Lcom_2f_example_2f_outremer_engine_2f_outremerengine_2f_board_2f_Unit_3b__29_Lcom_2f_example_2f_outremer_engine_2f_outremerengine_2f_diplomacy_2f_Order_24_Convoy_3b_ rfl) rfl (by show 2 * 0 + _ ≤ _; exact Nat.le_of_eq rfl) (hb hby at_120) (fun _ _ => ⟨rfl, rfl, (by decide : 13 + 1 ≤ _), (by decide : 34 + 4 ≤ _)⟩)
    dsimp only [Pt.U, Pt.locs, Pt.cells, Pt.slots] at X38 l38 y38 z38 st38 hQ38
    subst y38 z38
    obtain ⟨bx_38, rfl, N38q, K38c, g_bx_38, sb_bx_38, R38_0, R38_1, R38_2, R38_3, R38_4⟩ := hQ38
    have N38 : Fr n0 L38 := by rw [l38]; exact Fr.app N37 N38q
    have Z38 : n0 ≤ T38.heap.size := Nat.le_trans Z37 K38c.1
    change Stand _ _ _ _ _ _ _ _ _ _ _ _ 14 38 at X38
    obtain ⟨cq40, kq40, q40a, q40b, q40c⟩ := isOf hZ rfl R38_0
    obtain ⟨_, _, ⟨T40, L40, k40, n40⟩, -, X40, ⟨Lc40, hQ40, l40, y40, z40⟩, st40⟩ := X38.virtualBack hx (y := (⟨"com/example/outremer_engine/outremerengine/diplomacy/Order$Convoy", "unit", "()Lcom/example/outremer_engine/outremerengine/board/Unit;"⟩ : MethodName)) (z := (⟨"com/example/outremer_engine/outremerengine/diplomacy/Order$Convoy", "unit", "()Lcom/example/outremer_engine/outremerengine/board/Unit;"⟩ : MethodName)) hown (mvT hZ (hw _ (List.mem_of_getElem? (i := 77) rfl))) (mvT hZ (hw _ (List.mem_of_getElem? (i := 78) rfl))) (notFace_of_selects (args := #[]) (mvT hZ (hw _ (List.mem_of_getElem? (i := 80) rfl)))) (mvT hZ (hw _ (List.mem_of_getElem? (i := 80) rfl))) (mvT hZ (hw _ (List.mem_of_getElem? (i := 79) rfl))) (by decide) (backOf (W := 0) (rm11 l Z a0 hw [] bx_38 b11 T38.heap n0 Z38 R38_1) hZ (hw _ (List.mem_of_getElem? (i := 81) rfl)) (hw _ (List.mem_of_getElem? (i := 57) rfl)) (by decide) (by decide)) q40a q40c (g := (mkF m 132 #[.val (.int pp1), .val (.int pp2), .val (.int pp3), .val (.int pp4), .val (.int c1), .val (.int c2), .val (.ref b3), .val (.ref b11), .val (.ref b19), .val (.ref b29), .val (.ref b36), .val (.ref bx_38)] [(.ref bx_38)])) rfl (by rw [hml]; rfl) (Steps.refl _) (argsL := []) (rest := []) (lenOf pd__28__29_Lcom_2f_example_2f_outremer_engine_2f_outremerengine_2f_board_2f_Unit_3b_ rfl) rfl (by show 2 * 0 + _ ≤ _; exact Nat.le_of_eq rfl) (hb hby at_132) (fun _ _ => ⟨rfl, rfl, (by decide : 14 + 0 ≤ _), (by decide : 38 + 0 ≤ _)⟩)
    dsimp only [Pt.U, Pt.locs, Pt.cells, Pt.slots] at X40 l40 y40 z40 st40 hQ40
    subst y40 z40
    obtain ⟨rfl, N40q, e40⟩ := hQ40
    have N40 : Fr n0 L40 := by rw [l40]; exact Fr.app N38 N40q
    change Stand _ _ _ _ _ _ _ _ _ _ _ _ 14 38 at X40
    obtain ⟨cq41, kq41, q41a, q41b, q41c⟩ := isOf hZ e40 R38_0
    obtain ⟨_, _, ⟨T41, L41, k41, n41⟩, -, X41, ⟨Lc41, hQ41, l41, y41, z41⟩, st41⟩ := X40.virtualBack hx (y := (⟨"com/example/outremer_engine/outremerengine/diplomacy/Order$Convoy", "convoyedType", "()Lcom/example/outremer_engine/outremerengine/board/UnitType;"⟩ : MethodName)) (z := (⟨"com/example/outremer_engine/outremerengine/diplomacy/Order$Convoy", "convoyedType", "()Lcom/example/outremer_engine/outremerengine/board/UnitType;"⟩ : MethodName)) hown (mvT hZ (hw _ (List.mem_of_getElem? (i := 82) rfl))) (mvT hZ (hw _ (List.mem_of_getElem? (i := 83) rfl))) (notFace_of_selects (args := #[]) (mvT hZ (hw _ (List.mem_of_getElem? (i := 85) rfl)))) (mvT hZ (hw _ (List.mem_of_getElem? (i := 85) rfl))) (mvT hZ (hw _ (List.mem_of_getElem? (i := 84) rfl))) (by decide) (backOf (W := 0) (rm12 l Z a0 hw [] bx_38 T38.heap n0 Z38 R38_2) hZ (hw _ (List.mem_of_getElem? (i := 86) rfl)) (hw _ (List.mem_of_getElem? (i := 57) rfl)) (by decide) (by decide)) q41a q41c (g := (mkF m 142 #[.val (.int pp1), .val (.int pp2), .val (.int pp3), .val (.int pp4), .val (.int c1), .val (.int c2), .val (.ref b3), .val (.ref b11), .val (.ref b19), .val (.ref b29), .val (.ref b36), .val (.ref bx_38)] [(.ref bx_38)])) rfl (by rw [hml]; rfl) (Steps.refl _) (argsL := []) (rest := []) (lenOf pd__28__29_Lcom_2f_example_2f_outremer_engine_2f_outremerengine_2f_board_2f_UnitType_3b_ rfl) rfl (by show 2 * 0 + _ ≤ _; exact Nat.le_of_eq rfl) (hb hby at_142) (fun _ _ => ⟨rfl, e40, (by decide : 14 + 0 ≤ _), (by decide : 38 + 0 ≤ _)⟩)
    dsimp only [Pt.U, Pt.locs, Pt.cells, Pt.slots] at X41 l41 y41 z41 st41 hQ41
    subst y41 z41
    obtain ⟨rfl, N41q, e41⟩ := hQ41
    have N41 : Fr n0 L41 := by rw [l41]; exact Fr.app N40 N41q
    change Stand _ _ _ _ _ _ _ _ _ _ _ _ 14 38 at X41
    obtain ⟨cq42, kq42, q42a, q42b, q42c⟩ := isOf hZ e41 R38_0
    obtain ⟨_, _, ⟨T42, L42, k42, n42⟩, -, X42, ⟨Lc42, hQ42, l42, y42, z42⟩, st42⟩ := X41.virtualBack hx (y := (⟨"com/example/outremer_engine/outremerengine/diplomacy/Order$Convoy", "from", "()Lcom/example/outremer_engine/outremerengine/board/Place;"⟩ : MethodName)) (z := (⟨"com/example/outremer_engine/outremerengine/diplomacy/Order$Convoy", "from", "()Lcom/example/outremer_engine/outremerengine/board/Place;"⟩ : MethodName)) hown (mvT hZ (hw _ (List.mem_of_getElem? (i := 87) rfl))) (mvT hZ (hw _ (List.mem_of_getElem? (i := 88) rfl))) (notFace_of_selects (args := #[]) (mvT hZ (hw _ (List.mem_of_getElem? (i := 90) rfl)))) (mvT hZ (hw _ (List.mem_of_getElem? (i := 90) rfl))) (mvT hZ (hw _ (List.mem_of_getElem? (i := 89) rfl))) (by decide) (backOf (W := 0) (rm13 l Z a0 hw [] bx_38 b19 T38.heap n0 Z38 R38_3) hZ (hw _ (List.mem_of_getElem? (i := 91) rfl)) (hw _ (List.mem_of_getElem? (i := 57) rfl)) (by decide) (by decide)) q42a q42c (g := (mkF m 150 #[.val (.int pp1), .val (.int pp2), .val (.int pp3), .val (.int pp4), .val (.int c1), .val (.int c2), .val (.ref b3), .val (.ref b11), .val (.ref b19), .val (.ref b29), .val (.ref b36), .val (.ref bx_38)] [(.ref bx_38)])) rfl (by rw [hml]; rfl) (Steps.refl _) (argsL := []) (rest := []) (lenOf pd__28__29_Lcom_2f_example_2f_outremer_engine_2f_outremerengine_2f_board_2f_Place_3b_ rfl) rfl (by show 2 * 0 + _ ≤ _; exact Nat.le_of_eq rfl) (hb hby at_150) (fun _ _ => ⟨rfl, e41, (by decide : 14 + 0 ≤ _), (by decide : 38 + 0 ≤ _)⟩)
    dsimp only [Pt.U, Pt.locs, Pt.cells, Pt.slots] at X42 l42 y42 z42 st42 hQ42
    subst y42 z42
    obtain ⟨rfl, N42q, e42⟩ := hQ42
    have N42 : Fr n0 L42 := by rw [l42]; exact Fr.app N41 N42q
    change Stand _ _ _ _ _ _ _ _ _ _ _ _ 14 38 at X42
    obtain ⟨cq43, kq43, q43a, q43b, q43c⟩ := isOf hZ e42 R38_0
    obtain ⟨_, _, ⟨T43, L43, k43, n43⟩, -, X43, ⟨Lc43, hQ43, l43, y43, z43⟩, st43⟩ := X42.virtualBack hx (y := (⟨"com/example/outremer_engine/outremerengine/diplomacy/Order$Convoy", "to", "()Lcom/example/outremer_engine/outremerengine/board/Place;"⟩ : MethodName)) (z := (⟨"com/example/outremer_engine/outremerengine/diplomacy/Order$Convoy", "to", "()Lcom/example/outremer_engine/outremerengine/board/Place;"⟩ : MethodName)) hown (mvT hZ (hw _ (List.mem_of_getElem? (i := 92) rfl))) (mvT hZ (hw _ (List.mem_of_getElem? (i := 93) rfl))) (notFace_of_selects (args := #[]) (mvT hZ (hw _ (List.mem_of_getElem? (i := 95) rfl)))) (mvT hZ (hw _ (List.mem_of_getElem? (i := 95) rfl))) (mvT hZ (hw _ (List.mem_of_getElem? (i := 94) rfl))) (by decide) (backOf (W := 0) (rm14 l Z a0 hw [] bx_38 b29 T38.heap n0 Z38 R38_4) hZ (hw _ (List.mem_of_getElem? (i := 96) rfl)) (hw _ (List.mem_of_getElem? (i := 57) rfl)) (by decide) (by decide)) q43a q43c (g := (mkF m 160 #[.val (.int pp1), .val (.int pp2), .val (.int pp3), .val (.int pp4), .val (.int c1), .val (.int c2), .val (.ref b3), .val (.ref b11), .val (.ref b19), .val (.ref b29), .val (.ref b36), .val (.ref bx_38)] [(.ref bx_38)])) rfl (by rw [hml]; rfl) (Steps.refl _) (argsL := []) (rest := []) (lenOf pd__28__29_Lcom_2f_example_2f_outremer_engine_2f_outremerengine_2f_board_2f_Place_3b_ rfl) rfl (by show 2 * 0 + _ ≤ _; exact Nat.le_of_eq rfl) (hb hby at_160) (fun _ _ => ⟨rfl, e42, (by decide : 14 + 0 ≤ _), (by decide : 38 + 0 ≤ _)⟩)
    dsimp only [Pt.U, Pt.locs, Pt.cells, Pt.slots] at X43 l43 y43 z43 st43 hQ43
    subst y43 z43
    obtain ⟨rfl, N43q, e43⟩ := hQ43
    have N43 : Fr n0 L43 := by rw [l43]; exact Fr.app N42 N43q
    change Stand _ _ _ _ _ _ _ _ _ _ _ _ 14 38 at X43
    have F_44 : Fld Z T38.heap b36 "com/example/outremer_engine/outremerengine/diplomacy/Order$Convoy" "unit" "Lcom/example/outremer_engine/outremerengine/board/Unit;" (.ref b3) := (R37_0.keep K38c nin0)
    have E_46 : Exa Z T38.heap b36 "com/example/outremer_engine/outremerengine/diplomacy/Order$Convoy" := (E_39.keep K38c)
    obtain ⟨cq45, kq45, q45a, q45b, q45c⟩ := isOf hZ e43 E_46
    obtain ⟨_, _, ⟨T45, L45, k45, n45⟩, -, X45, ⟨Lc45, hQ45, l45, y45, z45⟩, st45⟩ := X43.virtualBack hx (y := (⟨"com/example/outremer_engine/outremerengine/diplomacy/Order$Convoy", "unit", "()Lcom/example/outremer_engine/outremerengine/board/Unit;"⟩ : MethodName)) (z := (⟨"com/example/outremer_engine/outremerengine/diplomacy/Order$Convoy", "unit", "()Lcom/example/outremer_engine/outremerengine/board/Unit;"⟩ : MethodName)) hown (mvT hZ (hw _ (List.mem_of_getElem? (i := 77) rfl))) (mvT hZ (hw _ (List.mem_of_getElem? (i := 78) rfl))) (notFace_of_selects (args := #[]) (mvT hZ (hw _ (List.mem_of_getElem? (i := 80) rfl)))) (mvT hZ (hw _ (List.mem_of_getElem? (i := 80) rfl))) (mvT hZ (hw _ (List.mem_of_getElem? (i := 79) rfl))) (by decide) (backOf (W := 0) (rm11 l Z a0 hw [] b36 b3 T38.heap n0 Z38 F_44) hZ (hw _ (List.mem_of_getElem? (i := 81) rfl)) (hw _ (List.mem_of_getElem? (i := 57) rfl)) (by decide) (by decide)) q45a q45c (g := (mkF m 170 #[.val (.int pp1), .val (.int pp2), .val (.int pp3), .val (.int pp4), .val (.int c1), .val (.int c2), .val (.ref b3), .val (.ref b11), .val (.ref b19), .val (.ref b29), .val (.ref b36), .val (.ref bx_38)] [(.ref b36)])) rfl (by rw [hml]; rfl) (Steps.refl _) (argsL := []) (rest := []) (lenOf pd__28__29_Lcom_2f_example_2f_outremer_engine_2f_outremerengine_2f_board_2f_Unit_3b_ rfl) rfl (by show 2 * 0 + _ ≤ _; exact Nat.le_of_eq rfl) (hb hby at_170) (fun _ _ => ⟨rfl, e43, (by decide : 14 + 0 ≤ _), (by decide : 38 + 0 ≤ _)⟩)
    dsimp only [Pt.U, Pt.locs, Pt.cells, Pt.slots] at X45 l45 y45 z45 st45 hQ45
    subst y45 z45
    obtain ⟨rfl, N45q, e45⟩ := hQ45
    have N45 : Fr n0 L45 := by rw [l45]; exact Fr.app N43 N45q
    change Stand _ _ _ _ _ _ _ _ _ _ _ _ 14 38 at X45
    have F_47 : Fld Z T38.heap b36 "com/example/outremer_engine/outremerengine/diplomacy/Order$Convoy" "from" "Lcom/example/outremer_engine/outremerengine/board/Place;" (.ref b19) := (R37_2.keep K38c nin0)
    obtain ⟨cq48, kq48, q48a, q48b, q48c⟩ := isOf hZ e45 E_46
    obtain ⟨_, _, ⟨T48, L48, k48, n48⟩, -, X48, ⟨Lc48, hQ48, l48, y48, z48⟩, st48⟩ := X45.virtualBack hx (y := (⟨"com/example/outremer_engine/outremerengine/diplomacy/Order$Convoy", "from", "()Lcom/example/outremer_engine/outremerengine/board/Place;"⟩ : MethodName)) (z := (⟨"com/example/outremer_engine/outremerengine/diplomacy/Order$Convoy", "from", "()Lcom/example/outremer_engine/outremerengine/board/Place;"⟩ : MethodName)) hown (mvT hZ (hw _ (List.mem_of_getElem? (i := 87) rfl))) (mvT hZ (hw _ (List.mem_of_getElem? (i := 88) rfl))) (notFace_of_selects (args := #[]) (mvT hZ (hw _ (List.mem_of_getElem? (i := 90) rfl)))) (mvT hZ (hw _ (List.mem_of_getElem? (i := 90) rfl))) (mvT hZ (hw _ (List.mem_of_getElem? (i := 89) rfl))) (by decide) (backOf (W := 0) (rm13 l Z a0 hw [] b36 b19 T38.heap n0 Z38 F_47) hZ (hw _ (List.mem_of_getElem? (i := 91) rfl)) (hw _ (List.mem_of_getElem? (i := 57) rfl)) (by decide) (by decide)) q48a q48c (g := (mkF m 180 #[.val (.int pp1), .val (.int pp2), .val (.int pp3), .val (.int pp4), .val (.int c1), .val (.int c2), .val (.ref b3), .val (.ref b11), .val (.ref b19), .val (.ref b29), .val (.ref b36), .val (.ref bx_38)] [(.ref b36)])) rfl (by rw [hml]; rfl) (Steps.refl _) (argsL := []) (rest := []) (lenOf pd__28__29_Lcom_2f_example_2f_outremer_engine_2f_outremerengine_2f_board_2f_Place_3b_ rfl) rfl (by show 2 * 0 + _ ≤ _; exact Nat.le_of_eq rfl) (hb hby at_180) (fun _ _ => ⟨rfl, e45, (by decide : 14 + 0 ≤ _), (by decide : 38 + 0 ≤ _)⟩)
    dsimp only [Pt.U, Pt.locs, Pt.cells, Pt.slots] at X48 l48 y48 z48 st48 hQ48
    subst y48 z48
    obtain ⟨rfl, N48q, e48⟩ := hQ48
    have N48 : Fr n0 L48 := by rw [l48]; exact Fr.app N45 N48q
    change Stand _ _ _ _ _ _ _ _ _ _ _ _ 14 38 at X48
    have F_49 : Fld Z T38.heap b36 "com/example/outremer_engine/outremerengine/diplomacy/Order$Convoy" "to" "Lcom/example/outremer_engine/outremerengine/board/Place;" (.ref b29) := (R37_3.keep K38c nin0)
    obtain ⟨cq50, kq50, q50a, q50b, q50c⟩ := isOf hZ e48 E_46
    obtain ⟨_, _, ⟨T50, L50, k50, n50⟩, -, X50, ⟨Lc50, hQ50, l50, y50, z50⟩, st50⟩ := X48.virtualBack hx (y := (⟨"com/example/outremer_engine/outremerengine/diplomacy/Order$Convoy", "to", "()Lcom/example/outremer_engine/outremerengine/board/Place;"⟩ : MethodName)) (z := (⟨"com/example/outremer_engine/outremerengine/diplomacy/Order$Convoy", "to", "()Lcom/example/outremer_engine/outremerengine/board/Place;"⟩ : MethodName)) hown (mvT hZ (hw _ (List.mem_of_getElem? (i := 92) rfl))) (mvT hZ (hw _ (List.mem_of_getElem? (i := 93) rfl))) (notFace_of_selects (args := #[]) (mvT hZ (hw _ (List.mem_of_getElem? (i := 95) rfl)))) (mvT hZ (hw _ (List.mem_of_getElem? (i := 95) rfl))) (mvT hZ (hw _ (List.mem_of_getElem? (i := 94) rfl))) (by decide) (backOf (W := 0) (rm14 l Z a0 hw [] b36 b29 T38.heap n0 Z38 F_49) hZ (hw _ (List.mem_of_getElem? (i := 96) rfl)) (hw _ (List.mem_of_getElem? (i := 57) rfl)) (by decide) (by decide)) q50a q50c (g := (mkF m 190 #[.val (.int pp1), .val (.int pp2), .val (.int pp3), .val (.int pp4), .val (.int c1), .val (.int c2), .val (.ref b3), .val (.ref b11), .val (.ref b19), .val (.ref b29), .val (.ref b36), .val (.ref bx_38)] [(.ref b36)])) rfl (by rw [hml]; rfl) (Steps.refl _) (argsL := []) (rest := []) (lenOf pd__28__29_Lcom_2f_example_2f_outremer_engine_2f_outremerengine_2f_board_2f_Place_3b_ rfl) rfl (by show 2 * 0 + _ ≤ _; exact Nat.le_of_eq rfl) (hb hby at_190) (fun _ _ => ⟨rfl, e48, (by decide : 14 + 0 ≤ _), (by decide : 38 + 0 ≤ _)⟩)
    dsimp only [Pt.U, Pt.locs, Pt.cells, Pt.slots] at X50 l50 y50 z50 st50 hQ50
    subst y50 z50
    obtain ⟨rfl, N50q, e50⟩ := hQ50
    have N50 : Fr n0 L50 := by rw [l50]; exact Fr.app N48 N50q
    change Stand _ _ _ _ _ _ _ _ _ _ _ _ 14 38 at X50
    obtain ⟨fs, hr, hrun, hended, hW, hsame⟩ := X50.leave (v := some (.int (1 : Int32))) (fun h => by rw [Bd.returns] at h; cases h)
    refine ⟨_, _, pre28 _ ?_, hrun, hended, _, _, rfl, ?_, ⟨_, rfl⟩, hW, hsame.mono (by decide) (by decide)⟩
    · show Steps p.tables e below (T27.setTop (mkF m 73 #[.val (.int pp1), .val (.int pp2), .val (.int pp3), .val (.int pp4), .val (.int c1), .val (.int c2), .val (.ref b3), .val (.ref b11), .val (.ref b19), .unset, .unset, .unset] [(.int (pp4 &&& (1 : Int32)))])) _
      refine XS.ifYes X27.here hx rfl (pc0 := 73) (pc' := 81) rfl (hb hby at_73) rfl ((if0 _ _).trans (teq hc73).1) (by decide) (by decide) ?_
      show Steps p.tables e below (T27.setTop (mkF m 81 #[.val (.int pp1), .val (.int pp2), .val (.int pp3), .val (.int pp4), .val (.int c1), .val (.int c2), .val (.ref b3), .val (.ref b11), .val (.ref b19), .unset, .unset, .unset] [])) _
      refine st29 _ ?_
      show Steps p.tables e below (T29.setTop (mkF m 84 #[.val (.int pp1), .val (.int pp2), .val (.int pp3), .val (.int pp4), .val (.int c1), .val (.int c2), .val (.ref b3), .val (.ref b11), .val (.ref b19), .unset, .unset, .unset] [(.ref b29)])) _
      refine XS.dup X29.here hx rfl (hb hby at_84) rfl rfl ?_
      show Steps p.tables e below (T29.setTop (mkF m 85 #[.val (.int pp1), .val (.int pp2), .val (.int pp3), .val (.int pp4), .val (.int c1), .val (.int c2), .val (.ref b3), .val (.ref b11), .val (.ref b19), .unset, .unset, .unset] [(.ref b29), (.ref b29)])) _
      refine XS.aconstNull X29.here hx rfl (hb hby at_85) ?_
      show Steps p.tables e below (T29.setTop (mkF m 86 #[.val (.int pp1), .val (.int pp2), .val (.int pp3), .val (.int pp4), .val (.int c1), .val (.int c2), .val (.ref b3), .val (.ref b11), .val (.ref b19), .unset, .unset, .unset] [.null, (.ref b29), (.ref b29)])) _
      refine XS.iloadN X29.here hx rfl (hb hby at_86) rfl ?_
      show Steps p.tables e below (T29.setTop (mkF m 87 #[.val (.int pp1), .val (.int pp2), .val (.int pp3), .val (.int pp4), .val (.int c1), .val (.int c2), .val (.ref b3), .val (.ref b11), .val (.ref b19), .unset, .unset, .unset] [(.int pp3), .null, (.ref b29), (.ref b29)])) _
      refine XS.sipush X29.here hx rfl (hb hby at_87) ?_
      show Steps p.tables e below (T29.setTop (mkF m 90 #[.val (.int pp1), .val (.int pp2), .val (.int pp3), .val (.int pp4), .val (.int c1), .val (.int c2), .val (.ref b3), .val (.ref b11), .val (.ref b19), .unset, .unset, .unset] [(.int (255 : Int32)), (.int pp3), .null, (.ref b29), (.ref b29)])) _
      refine XS.iand X29.here hx rfl (hb hby at_90) rfl ?_
      show Steps p.tables e below (T29.setTop (mkF m 91 #[.val (.int pp1), .val (.int pp2), .val (.int pp3), .val (.int pp4), .val (.int c1), .val (.int c2), .val (.ref b3), .val (.ref b11), .val (.ref b19), .unset, .unset, .unset] [(.int (pp3 &&& (255 : Int32))), .null, (.ref b29), (.ref b29)])) _
      refine XS.i2c X29.here hx rfl (hb hby at_91) rfl ?_
      show Steps p.tables e below (T29.setTop (mkF m 92 #[.val (.int pp1), .val (.int pp2), .val (.int pp3), .val (.int pp4), .val (.int c1), .val (.int c2), .val (.ref b3), .val (.ref b11), .val (.ref b19), .unset, .unset, .unset] [(.int ((pp3 &&& (255 : Int32)).toUInt32.toUInt16.toUInt32.toInt32)), .null, (.ref b29), (.ref b29)])) _
      refine st31 _ ?_
      show Steps p.tables e below (T31.setTop (mkF m 95 #[.val (.int pp1), .val (.int pp2), .val (.int pp3), .val (.int pp4), .val (.int c1), .val (.int c2), .val (.ref b3), .val (.ref b11), .val (.ref b19), .unset, .unset, .unset] [(.ref bx_31), .null, (.ref b29), (.ref b29)])) _
      refine st35.trans ?_
      show Steps p.tables e below (T35.setTop (mkF m 98 #[.val (.int pp1), .val (.int pp2), .val (.int pp3), .val (.int pp4), .val (.int c1), .val (.int c2), .val (.ref b3), .val (.ref b11), .val (.ref b19), .unset, .unset, .unset] [(.ref b29)])) _
      refine XS.astore X35.here hx rfl (hb hby at_98) rfl rfl (l' := #[.val (.int pp1), .val (.int pp2), .val (.int pp3), .val (.int pp4), .val (.int c1), .val (.int c2), .val (.ref b3), .val (.ref b11), .val (.ref b19), .val (.ref b29), .unset, .unset]) rfl ?_
      show Steps p.tables e below (T35.setTop (mkF m 100 #[.val (.int pp1), .val (.int pp2), .val (.int pp3), .val (.int pp4), .val (.int c1), .val (.int c2), .val (.ref b3), .val (.ref b11), .val (.ref b19), .val (.ref b29), .unset, .unset] [])) _
      refine st36 _ ?_
      show Steps p.tables e below (T36.setTop (mkF m 103 #[.val (.int pp1), .val (.int pp2), .val (.int pp3), .val (.int pp4), .val (.int c1), .val (.int c2), .val (.ref b3), .val (.ref b11), .val (.ref b19), .val (.ref b29), .unset, .unset] [(.ref b36)])) _
      refine XS.dup X36.here hx rfl (hb hby at_103) rfl rfl ?_
      show Steps p.tables e below (T36.setTop (mkF m 104 #[.val (.int pp1), .val (.int pp2), .val (.int pp3), .val (.int pp4), .val (.int c1), .val (.int c2), .val (.ref b3), .val (.ref b11), .val (.ref b19), .val (.ref b29), .unset, .unset] [(.ref b36), (.ref b36)])) _
      refine XS.aload X36.here hx rfl (hb hby at_104) rfl rfl ?_
      show Steps p.tables e below (T36.setTop (mkF m 106 #[.val (.int pp1), .val (.int pp2), .val (.int pp3), .val (.int pp4), .val (.int c1), .val (.int c2), .val (.ref b3), .val (.ref b11), .val (.ref b19), .val (.ref b29), .unset, .unset] [(.ref b3), (.ref b36), (.ref b36)])) _
      refine XS.aconstNull X36.here hx rfl (hb hby at_106) ?_
      show Steps p.tables e below (T36.setTop (mkF m 107 #[.val (.int pp1), .val (.int pp2), .val (.int pp3), .val (.int pp4), .val (.int c1), .val (.int c2), .val (.ref b3), .val (.ref b11), .val (.ref b19), .val (.ref b29), .unset, .unset] [.null, (.ref b3), (.ref b36), (.ref b36)])) _
      refine XS.aload X36.here hx rfl (hb hby at_107) rfl rfl ?_
      show Steps p.tables e below (T36.setTop (mkF m 109 #[.val (.int pp1), .val (.int pp2), .val (.int pp3), .val (.int pp4), .val (.int c1), .val (.int c2), .val (.ref b3), .val (.ref b11), .val (.ref b19), .val (.ref b29), .unset, .unset] [(.ref b19), .null, (.ref b3), (.ref b36), (.ref b36)])) _
      refine XS.aload X36.here hx rfl (hb hby at_109) rfl rfl ?_
      show Steps p.tables e below (T36.setTop (mkF m 111 #[.val (.int pp1), .val (.int pp2), .val (.int pp3), .val (.int pp4), .val (.int c1), .val (.int c2), .val (.ref b3), .val (.ref b11), .val (.ref b19), .val (.ref b29), .unset, .unset] [(.ref b29), (.ref b19), .null, (.ref b3), (.ref b36), (.ref b36)])) _
      refine st37.trans ?_
      show Steps p.tables e below (T37.setTop (mkF m 114 #[.val (.int pp1), .val (.int pp2), .val (.int pp3), .val (.int pp4), .val (.int c1), .val (.int c2), .val (.ref b3), .val (.ref b11), .val (.ref b19), .val (.ref b29), .unset, .unset] [(.ref b36)])) _
      refine XS.astore X37.here hx rfl (hb hby at_114) rfl rfl (l' := #[.val (.int pp1), .val (.int pp2), .val (.int pp3), .val (.int pp4), .val (.int c1), .val (.int c2), .val (.ref b3), .val (.ref b11), .val (.ref b19), .val (.ref b29), .val (.ref b36), .unset]) rfl ?_
      show Steps p.tables e below (T37.setTop (mkF m 116 #[.val (.int pp1), .val (.int pp2), .val (.int pp3), .val (.int pp4), .val (.int c1), .val (.int c2), .val (.ref b3), .val (.ref b11), .val (.ref b19), .val (.ref b29), .val (.ref b36), .unset] [])) _
      refine XS.aload X37.here hx rfl (hb hby at_116) rfl rfl ?_
      show Steps p.tables e below (T37.setTop (mkF m 118 #[.val (.int pp1), .val (.int pp2), .val (.int pp3), .val (.int pp4), .val (.int c1), .val (.int c2), .val (.ref b3), .val (.ref b11), .val (.ref b19), .val (.ref b29), .val (.ref b36), .unset] [(.ref b36)])) _
      refine XS.aload X37.here hx rfl (hb hby at_118) rfl rfl ?_
      show Steps p.tables e below (T37.setTop (mkF m 120 #[.val (.int pp1), .val (.int pp2), .val (.int pp3), .val (.int pp4), .val (.int c1), .val (.int c2), .val (.ref b3), .val (.ref b11), .val (.ref b19), .val (.ref b29), .val (.ref b36), .unset] [(.ref b11), (.ref b36)])) _
      refine st38.trans ?_
      show Steps p.tables e below (T38.setTop (mkF m 123 #[.val (.int pp1), .val (.int pp2), .val (.int pp3), .val (.int pp4), .val (.int c1), .val (.int c2), .val (.ref b3), .val (.ref b11), .val (.ref b19), .val (.ref b29), .val (.ref b36), .unset] [(.ref bx_38)])) _
      refine XS.astore X38.here hx rfl (hb hby at_123) rfl rfl (l' := #[.val (.int pp1), .val (.int pp2), .val (.int pp3), .val (.int pp4), .val (.int c1), .val (.int c2), .val (.ref b3), .val (.ref b11), .val (.ref b19), .val (.ref b29), .val (.ref b36), .val (.ref bx_38)]) rfl ?_
      show Steps p.tables e below (T38.setTop (mkF m 125 #[.val (.int pp1), .val (.int pp2), .val (.int pp3), .val (.int pp4), .val (.int c1), .val (.int c2), .val (.ref b3), .val (.ref b11), .val (.ref b19), .val (.ref b29), .val (.ref b36), .val (.ref bx_38)] [])) _
      refine XS.aload X38.here hx rfl (hb hby at_125) rfl rfl ?_
      show Steps p.tables e below (T38.setTop (mkF m 127 #[.val (.int pp1), .val (.int pp2), .val (.int pp3), .val (.int pp4), .val (.int c1), .val (.int c2), .val (.ref b3), .val (.ref b11), .val (.ref b19), .val (.ref b29), .val (.ref b36), .val (.ref bx_38)] [(.ref bx_38)])) _
      refine XS.ifnullNo X38.here hx rfl (hb hby at_127) rfl ?_
      show Steps p.tables e below (T38.setTop (mkF m 130 #[.val (.int pp1), .val (.int pp2), .val (.int pp3), .val (.int pp4), .val (.int c1), .val (.int c2), .val (.ref b3), .val (.ref b11), .val (.ref b19), .val (.ref b29), .val (.ref b36), .val (.ref bx_38)] [])) _
      refine XS.aload X38.here hx rfl (hb hby at_130) rfl rfl ?_
      show Steps p.tables e below (T38.setTop (mkF m 132 #[.val (.int pp1), .val (.int pp2), .val (.int pp3), .val (.int pp4), .val (.int c1), .val (.int c2), .val (.ref b3), .val (.ref b11), .val (.ref b19), .val (.ref b29), .val (.ref b36), .val (.ref bx_38)] [(.ref bx_38)])) _
      refine st40.trans ?_
      show Steps p.tables e below (T40.setTop (mkF m 135 #[.val (.int pp1), .val (.int pp2), .val (.int pp3), .val (.int pp4), .val (.int c1), .val (.int c2), .val (.ref b3), .val (.ref b11), .val (.ref b19), .val (.ref b29), .val (.ref b36), .val (.ref bx_38)] [(.ref b11)])) _
      refine XS.aload X40.here hx rfl (hb hby at_135) rfl rfl ?_
      show Steps p.tables e below (T40.setTop (mkF m 137 #[.val (.int pp1), .val (.int pp2), .val (.int pp3), .val (.int pp4), .val (.int c1), .val (.int c2), .val (.ref b3), .val (.ref b11), .val (.ref b19), .val (.ref b29), .val (.ref b36), .val (.ref bx_38)] [(.ref b11), (.ref b11)])) _
      refine Jvm.RoadKit.acmp (g := (mkF m 137 #[.val (.int pp1), .val (.int pp2), .val (.int pp3), .val (.int pp4), .val (.int c1), .val (.int c2), .val (.ref b3), .val (.ref b11), .val (.ref b19), .val (.ref b29), .val (.ref b36), .val (.ref bx_38)] [(.ref b11), (.ref b11)])) X40 hx rfl rfl rfl (pc0 := 137) (pc' := 140) (same := true) rfl (hb hby at_137) rfl (decide_eq_true rfl) (by decide) (by decide) ?_
      show Steps p.tables e below (T40.setTop (mkF m 140 #[.val (.int pp1), .val (.int pp2), .val (.int pp3), .val (.int pp4), .val (.int c1), .val (.int c2), .val (.ref b3), .val (.ref b11), .val (.ref b19), .val (.ref b29), .val (.ref b36), .val (.ref bx_38)] [])) _
      refine XS.aload X40.here hx rfl (hb hby at_140) rfl rfl ?_
      show Steps p.tables e below (T40.setTop (mkF m 142 #[.val (.int pp1), .val (.int pp2), .val (.int pp3), .val (.int pp4), .val (.int c1), .val (.int c2), .val (.ref b3), .val (.ref b11), .val (.ref b19), .val (.ref b29), .val (.ref b36), .val (.ref bx_38)] [(.ref bx_38)])) _
      refine st41.trans ?_
      show Steps p.tables e below (T41.setTop (mkF m 145 #[.val (.int pp1), .val (.int pp2), .val (.int pp3), .val (.int pp4), .val (.int c1), .val (.int c2), .val (.ref b3), .val (.ref b11), .val (.ref b19), .val (.ref b29), .val (.ref b36), .val (.ref bx_38)] [.null])) _
      refine XS.ifnonnullNo X41.here hx rfl (hb hby at_145) rfl ?_
      show Steps p.tables e below (T41.setTop (mkF m 148 #[.val (.int pp1), .val (.int pp2), .val (.int pp3), .val (.int pp4), .val (.int c1), .val (.int c2), .val (.ref b3), .val (.ref b11), .val (.ref b19), .val (.ref b29), .val (.ref b36), .val (.ref bx_38)] [])) _
      refine XS.aload X41.here hx rfl (hb hby at_148) rfl rfl ?_
      show Steps p.tables e below (T41.setTop (mkF m 150 #[.val (.int pp1), .val (.int pp2), .val (.int pp3), .val (.int pp4), .val (.int c1), .val (.int c2), .val (.ref b3), .val (.ref b11), .val (.ref b19), .val (.ref b29), .val (.ref b36), .val (.ref bx_38)] [(.ref bx_38)])) _
      refine st42.trans ?_
      show Steps p.tables e below (T42.setTop (mkF m 153 #[.val (.int pp1), .val (.int pp2), .val (.int pp3), .val (.int pp4), .val (.int c1), .val (.int c2), .val (.ref b3), .val (.ref b11), .val (.ref b19), .val (.ref b29), .val (.ref b36), .val (.ref bx_38)] [(.ref b19)])) _
      refine XS.aload X42.here hx rfl (hb hby at_153) rfl rfl ?_
      show Steps p.tables e below (T42.setTop (mkF m 155 #[.val (.int pp1), .val (.int pp2), .val (.int pp3), .val (.int pp4), .val (.int c1), .val (.int c2), .val (.ref b3), .val (.ref b11), .val (.ref b19), .val (.ref b29), .val (.ref b36), .val (.ref bx_38)] [(.ref b19), (.ref b19)])) _
      refine Jvm.RoadKit.acmp (g := (mkF m 155 #[.val (.int pp1), .val (.int pp2), .val (.int pp3), .val (.int pp4), .val (.int c1), .val (.int c2), .val (.ref b3), .val (.ref b11), .val (.ref b19), .val (.ref b29), .val (.ref b36), .val (.ref bx_38)] [(.ref b19), (.ref b19)])) X42 hx rfl rfl rfl (pc0 := 155) (pc' := 158) (same := true) rfl (hb hby at_155) rfl (decide_eq_true rfl) (by decide) (by decide) ?_
      show Steps p.tables e below (T42.setTop (mkF m 158 #[.val (.int pp1), .val (.int pp2), .val (.int pp3), .val (.int pp4), .val (.int c1), .val (.int c2), .val (.ref b3), .val (.ref b11), .val (.ref b19), .val (.ref b29), .val (.ref b36), .val (.ref bx_38)] [])) _
      refine XS.aload X42.here hx rfl (hb hby at_158) rfl rfl ?_
      show Steps p.tables e below (T42.setTop (mkF m 160 #[.val (.int pp1), .val (.int pp2), .val (.int pp3), .val (.int pp4), .val (.int c1), .val (.int c2), .val (.ref b3), .val (.ref b11), .val (.ref b19), .val (.ref b29), .val (.ref b36), .val (.ref bx_38)] [(.ref bx_38)])) _
      refine st43.trans ?_
      show Steps p.tables e below (T43.setTop (mkF m 163 #[.val (.int pp1), .val (.int pp2), .val (.int pp3), .val (.int pp4), .val (.int c1), .val (.int c2), .val (.ref b3), .val (.ref b11), .val (.ref b19), .val (.ref b29), .val (.ref b36), .val (.ref bx_38)] [(.ref b29)])) _
      refine XS.aload X43.here hx rfl (hb hby at_163) rfl rfl ?_
      show Steps p.tables e below (T43.setTop (mkF m 165 #[.val (.int pp1), .val (.int pp2), .val (.int pp3), .val (.int pp4), .val (.int c1), .val (.int c2), .val (.ref b3), .val (.ref b11), .val (.ref b19), .val (.ref b29), .val (.ref b36), .val (.ref bx_38)] [(.ref b29), (.ref b29)])) _
      refine Jvm.RoadKit.acmp (g := (mkF m 165 #[.val (.int pp1), .val (.int pp2), .val (.int pp3), .val (.int pp4), .val (.int c1), .val (.int c2), .val (.ref b3), .val (.ref b11), .val (.ref b19), .val (.ref b29), .val (.ref b36), .val (.ref bx_38)] [(.ref b29), (.ref b29)])) X43 hx rfl rfl rfl (pc0 := 165) (pc' := 168) (same := true) rfl (hb hby at_165) rfl (decide_eq_true rfl) (by decide) (by decide) ?_
      show Steps p.tables e below (T43.setTop (mkF m 168 #[.val (.int pp1), .val (.int pp2), .val (.int pp3), .val (.int pp4), .val (.int c1), .val (.int c2), .val (.ref b3), .val (.ref b11), .val (.ref b19), .val (.ref b29), .val (.ref b36), .val (.ref bx_38)] [])) _
      refine XS.aload X43.here hx rfl (hb hby at_168) rfl rfl ?_
      show Steps p.tables e below (T43.setTop (mkF m 170 #[.val (.int pp1), .val (.int pp2), .val (.int pp3), .val (.int pp4), .val (.int c1), .val (.int c2), .val (.ref b3), .val (.ref b11), .val (.ref b19), .val (.ref b29), .val (.ref b36), .val (.ref bx_38)] [(.ref b36)])) _
      refine st45.trans ?_
      show Steps p.tables e below (T45.setTop (mkF m 173 #[.val (.int pp1), .val (.int pp2), .val (.int pp3), .val (.int pp4), .val (.int c1), .val (.int c2), .val (.ref b3), .val (.ref b11), .val (.ref b19), .val (.ref b29), .val (.ref b36), .val (.ref bx_38)] [(.ref b3)])) _
      refine XS.aload X45.here hx rfl (hb hby at_173) rfl rfl ?_
      show Steps p.tables e below (T45.setTop (mkF m 175 #[.val (.int pp1), .val (.int pp2), .val (.int pp3), .val (.int pp4), .val (.int c1), .val (.int c2), .val (.ref b3), .val (.ref b11), .val (.ref b19), .val (.ref b29), .val (.ref b36), .val (.ref bx_38)] [(.ref b3), (.ref b3)])) _
      refine Jvm.RoadKit.acmp (g := (mkF m 175 #[.val (.int pp1), .val (.int pp2), .val (.int pp3), .val (.int pp4), .val (.int c1), .val (.int c2), .val (.ref b3), .val (.ref b11), .val (.ref b19), .val (.ref b29), .val (.ref b36), .val (.ref bx_38)] [(.ref b3), (.ref b3)])) X45 hx rfl rfl rfl (pc0 := 175) (pc' := 178) (same := true) rfl (hb hby at_175) rfl (decide_eq_true rfl) (by decide) (by decide) ?_
      show Steps p.tables e below (T45.setTop (mkF m 178 #[.val (.int pp1), .val (.int pp2), .val (.int pp3), .val (.int pp4), .val (.int c1), .val (.int c2), .val (.ref b3), .val (.ref b11), .val (.ref b19), .val (.ref b29), .val (.ref b36), .val (.ref bx_38)] [])) _
      refine XS.aload X45.here hx rfl (hb hby at_178) rfl rfl ?_
      show Steps p.tables e below (T45.setTop (mkF m 180 #[.val (.int pp1), .val (.int pp2), .val (.int pp3), .val (.int pp4), .val (.int c1), .val (.int c2), .val (.ref b3), .val (.ref b11), .val (.ref b19), .val (.ref b29), .val (.ref b36), .val (.ref bx_38)] [(.ref b36)])) _
      refine st48.trans ?_
      show Steps p.tables e below (T48.setTop (mkF m 183 #[.val (.int pp1), .val (.int pp2), .val (.int pp3), .val (.int pp4), .val (.int c1), .val (.int c2), .val (.ref b3), .val (.ref b11), .val (.ref b19), .val (.ref b29), .val (.ref b36), .val (.ref bx_38)] [(.ref b19)])) _
      refine XS.aload X48.here hx rfl (hb hby at_183) rfl rfl ?_
      show Steps p.tables e below (T48.setTop (mkF m 185 #[.val (.int pp1), .val (.int pp2), .val (.int pp3), .val (.int pp4), .val (.int c1), .val (.int c2), .val (.ref b3), .val (.ref b11), .val (.ref b19), .val (.ref b29), .val (.ref b36), .val (.ref bx_38)] [(.ref b19), (.ref b19)])) _
      refine Jvm.RoadKit.acmp (g := (mkF m 185 #[.val (.int pp1), .val (.int pp2), .val (.int pp3), .val (.int pp4), .val (.int c1), .val (.int c2), .val (.ref b3), .val (.ref b11), .val (.ref b19), .val (.ref b29), .val (.ref b36), .val (.ref bx_38)] [(.ref b19), (.ref b19)])) X48 hx rfl rfl rfl (pc0 := 185) (pc' := 188) (same := true) rfl (hb hby at_185) rfl (decide_eq_true rfl) (by decide) (by decide) ?_
      show Steps p.tables e below (T48.setTop (mkF m 188 #[.val (.int pp1), .val (.int pp2), .val (.int pp3), .val (.int pp4), .val (.int c1), .val (.int c2), .val (.ref b3), .val (.ref b11), .val (.ref b19), .val (.ref b29), .val (.ref b36), .val (.ref bx_38)] [])) _
      refine XS.aload X48.here hx rfl (hb hby at_188) rfl rfl ?_
      show Steps p.tables e below (T48.setTop (mkF m 190 #[.val (.int pp1), .val (.int pp2), .val (.int pp3), .val (.int pp4), .val (.int c1), .val (.int c2), .val (.ref b3), .val (.ref b11), .val (.ref b19), .val (.ref b29), .val (.ref b36), .val (.ref bx_38)] [(.ref b36)])) _
      refine st50.trans ?_
      show Steps p.tables e below (T50.setTop (mkF m 193 #[.val (.int pp1), .val (.int pp2), .val (.int pp3), .val (.int pp4), .val (.int c1), .val (.int c2), .val (.ref b3), .val (.ref b11), .val (.ref b19), .val (.ref b29), .val (.ref b36), .val (.ref bx_38)] [(.ref b29)])) _
      refine XS.aload X50.here hx rfl (hb hby at_193) rfl rfl ?_
      show Steps p.tables e below (T50.setTop (mkF m 195 #[.val (.int pp1), .val (.int pp2), .val (.int pp3), .val (.int pp4), .val (.int c1), .val (.int c2), .val (.ref b3), .val (.ref b11), .val (.ref b19), .val (.ref b29), .val (.ref b36), .val (.ref bx_38)] [(.ref b29), (.ref b29)])) _
      refine Jvm.RoadKit.acmp (g := (mkF m 195 #[.val (.int pp1), .val (.int pp2), .val (.int pp3), .val (.int pp4), .val (.int c1), .val (.int c2), .val (.ref b3), .val (.ref b11), .val (.ref b19), .val (.ref b29), .val (.ref b36), .val (.ref bx_38)] [(.ref b29), (.ref b29)])) X50 hx rfl rfl rfl (pc0 := 195) (pc' := 198) (same := true) rfl (hb hby at_195) rfl (decide_eq_true rfl) (by decide) (by decide) ?_
      show Steps p.tables e below (T50.setTop (mkF m 198 #[.val (.int pp1), .val (.int pp2), .val (.int pp3), .val (.int pp4), .val (.int c1), .val (.int c2), .val (.ref b3), .val (.ref b11), .val (.ref b19), .val (.ref b29), .val (.ref b36), .val (.ref bx_38)] [])) _
      refine XS.iconst X50.here hx rfl (hb hby at_198) ?_
      show Steps p.tables e below (T50.setTop (mkF m 199 #[.val (.int pp1), .val (.int pp2), .val (.int pp3), .val (.int pp4), .val (.int c1), .val (.int c2), .val (.ref b3), .val (.ref b11), .val (.ref b19), .val (.ref b29), .val (.ref b36), .val (.ref bx_38)] [(.int (1 : Int32))])) _
      refine XS.goto X50.here hx rfl (pc0 := 199) (pc' := 203) rfl (hb hby at_199) (by decide) (by decide) ?_
      show Steps p.tables e below (T50.setTop (mkF m 203 #[.val (.int pp1), .val (.int pp2), .val (.int pp3), .val (.int pp4), .val (.int c1), .val (.int c2), .val (.ref b3), .val (.ref b11), .val (.ref b19), .val (.ref b29), .val (.ref b36), .val (.ref bx_38)] [(.int (1 : Int32))])) _
      exact retN X50 hx (t := .boolean) Bd.returns (by simp) (hb hby at_203) hr
    · show Q0 Z pp1 pp2 pp3 pp4 cs h0 n0 _ T50.heap _
      rw [e50]
      exact ⟨rfl, N50⟩
  · skip
    obtain ⟨T51, h51, X51, e51, E51, A51, D51, -, st51⟩ := newO X27 hx hZ hown (hw _ (List.mem_of_getElem? (i := 55) rfl)) (hw _ (List.mem_of_getElem? (i := 56) rfl)) (hw _ (List.mem_of_getElem? (i := 57) rfl)) rfl (g := (mkF m 100 #[.val (.int pp1), .val (.int pp2), .val (.int pp3), .val (.int pp4), .val (.int c1), .val (.int c2), .val (.ref b3), .val (.ref b11), .val (.ref b19), .val (.ref b19), .unset, .unset] [])) rfl (hb hby at_100) (by decide) (by decide)
    obtain ⟨b51, g51⟩ : ∃ z, z = T27.heap.size := ⟨_, rfl⟩
    rw [← g51] at A51 D51 st51
    have g_b51 : n0 ≤ b51 := Nat.le_trans Z27 (Nat.le_of_eq g51.symm)
    have Z51 : n0 ≤ h51.size := Nat.le_trans Z27 E51.1
    have F51_unit : Fld Z h51 b51 "com/example/outremer_engine/outremerengine/diplomacy/Order$Convoy" "unit" "Lcom/example/outremer_engine/outremerengine/board/Unit;" .null := D51 (Or.inr (hw _ (List.mem_of_getElem? (i := 63) rfl))) (ty := (.object "com/example/outremer_engine/outremerengine/board/Unit")) (by decide)
    have F51_convoyedType : Fld Z h51 b51 "com/example/outremer_engine/outremerengine/diplomacy/Order$Convoy" "convoyedType" "Lcom/example/outremer_engine/outremerengine/board/UnitType;" .null := D51 (Or.inr (hw _ (List.mem_of_getElem? (i := 65) rfl))) (ty := (.object "com/example/outremer_engine/outremerengine/board/UnitType")) (by decide)
    have F51_from : Fld Z h51 b51 "com/example/outremer_engine/outremerengine/diplomacy/Order$Convoy" "from" "Lcom/example/outremer_engine/outremerengine/board/Place;" .null := D51 (Or.inr (hw _ (List.mem_of_getElem? (i := 67) rfl))) (ty := (.object "com/example/outremer_engine/outremerengine/board/Place")) (by decide)
    have F51_to : Fld Z h51 b51 "com/example/outremer_engine/outremerengine/diplomacy/Order$Convoy" "to" "Lcom/example/outremer_engine/outremerengine/board/Place;" .null := D51 (Or.inr (hw _ (List.mem_of_getElem? (i := 69) rfl))) (ty := (.object "com/example/outremer_engine/outremerengine/board/Place")) (by decide)
    obtain ⟨_, _, ⟨T52, L52, k52, n52⟩, -, X52, ⟨Lc52, hQ52, l52, y52, z52⟩, st52⟩ := X51.specialBack hx (y := (⟨"com/example/outremer_engine/outremerengine/diplomacy/Order$Convoy", "<init>", "(Lcom/example/outremer_engine/outremerengine/board/Unit;Lcom/example/outremer_engine/outremerengine/board/UnitType;Lcom/example/outremer_engine/outremerengine/board/Place;Lcom/example/outremer_engine/outremerengine/board/Place;)V"⟩ : MethodName)) rfl hown (mvT hZ (hw _ (List.mem_of_getElem? (i := 58) rfl))) (mvT hZ (hw _ (List.mem_of_getElem? (i := 59) rfl))) (mvT hZ (hw _ (List.mem_of_getElem? (i := 60) rfl))) (by decide) (backOf (W := 1) (rm9 l Z a0 hw [] b51 b3 b19 b19 .null .null .null .null h51 n0 Z51 A51 g_b51 F51_unit F51_convoyedType F51_from F51_to) hZ (hw _ (List.mem_of_getElem? (i := 60) rfl)) (hw _ (List.mem_of_getElem? (i := 57) rfl)) (by decide) (by decide)) (g := (mkF m 111 #[.val (.int pp1), .val (.int pp2), .val (.int pp3), .val (.int pp4), .val (.int c1), .val (.int c2), .val (.ref b3), .val (.ref b11), .val (.ref b19), .val (.ref b19), .unset, .unset] [(.ref b19), (.ref b19), .null, (.ref b3), (.ref b51), (.ref b51)])) rfl (by rw [hml]; rfl) (Steps.refl _) (a := b51) (argsL := [(.ref b3), .null, (.ref b19), (.ref b19)]) (rest := [(.ref b51)]) (lenOf pd__28_Lcom_2f_example_2f_outremer_engine_2f_outremerengine_2f_board_2f_Unit_3b_Lcom_2f_example_2f_outremer_engine_2f_outremerengine_2f_board_2f_UnitType_3b_Lcom_2f_example_2f_outremer_engine_2f_outremerengine_2f_board_2f_Place_3b_Lcom_2f_example_2f_outremer_engine_2f_outremerengine_2f_board_2f_Place_3b__29_V rfl) rfl (by show 2 * 0 + _ ≤ _; exact Nat.le_of_eq rfl) (hb hby at_111) (fun _ _ => ⟨rfl, e51, (by decide : 10 + 0 ≤ _), (by decide : 27 + 0 ≤ _)⟩)
    dsimp only [Pt.U, Pt.locs, Pt.cells, Pt.slots] at X52 l52 y52 z52 st52 hQ52
    subst y52 z52
    obtain ⟨rfl, N52q, K52c, R52_0, R52_1, R52_2, R52_3⟩ := hQ52
    have N52 : Fr n0 L52 := by rw [l52]; exact Fr.app N27 N52q
    have Z52 : n0 ≤ T52.heap.size := Nat.le_trans Z51 K52c.1
    change Stand _ _ _ _ _ _ _ _ _ _ _ _ 10 27 at X52
    have E_54 : Exa Z T52.heap b51 "com/example/outremer_engine/outremerengine/diplomacy/Order$Convoy" := (A51.keep K52c)
    obtain ⟨cq53, kq53, q53a, q53b, q53c⟩ := isOf hZ rfl E_54
    obtain ⟨_, _, ⟨T53, L53, k53, n53⟩, -, X53, ⟨Lc53, hQ53, l53, y53, z53⟩, st53⟩ := X52.virtualBack hx (y := (⟨"com/example/outremer_engine/outremerengine/diplomacy/Order$Convoy", "givenTo", "(Lcom/example/outremer_engine/outremerengine/board/Unit;)Lcom/example/outremer_engine/outremerengine/diplomacy/Order$Convoy;"⟩ : MethodName)) (z := (⟨"com/example/outremer_engine/outremerengine/diplomacy/Order$Convoy", "givenTo", "(Lcom/example/outremer_engine/outremerengine/board/Unit;)Lcom/example/outremer_engine/outremerengine/diplomacy/Order$Convoy;"⟩ : MethodName)) hown (mvT hZ (hw _ (List.mem_of_getElem? (i := 70) rfl))) (mvT hZ (hw _ (List.mem_of_getElem? (i := 71) rfl))) (notFace_of_selects (args := #[]) (mvT hZ (hw _ (List.mem_of_getElem? (i := 73) rfl)))) (mvT hZ (hw _ (List.mem_of_getElem? (i := 73) rfl))) (mvT hZ (hw _ (List.mem_of_getElem? (i := 72) rfl))) (by decide) (backOf (W := 0) (rm10 l Z a0 hw [] b51 b11 b19 b19 T52.heap n0 Z52 R52_1 R52_2 R52_3) hZ (hw _ (List.mem_of_getElem? (i := 74) rfl)) (hw _ (List.mem_of_getElem? (i := 57) rfl)) (by decide) (by decide)) q53a q53c (g := (mkF m 120 #[.val (.int pp1), .val (.int pp2), .val (.int pp3), .val (.int pp4), .val (.int c1), .val (.int c2), .val (.ref b3), .val (.ref b11), .val (.ref b19), .val (.ref b19), .val (.ref b51), .unset] [(.ref b11), (.ref b51)])) rfl (by rw [hml]; rfl) (Steps.refl _) (argsL := [(.ref b11)]) (rest := []) (lenOf pd__28_Lcom_2f_example_2f_outremer_engine_2f_outremerengine_2f_board_2f_Unit_3b__29_Lcom_2f_example_2f_outremer_engine_2f_outremerengine_2f_diplomacy_2f_Order_24_Convoy_3b_ rfl) rfl (by show 2 * 0 + _ ≤ _; exact Nat.le_of_eq rfl) (hb hby at_120) (fun _ _ => ⟨rfl, rfl, (by decide : 10 + 1 ≤ _), (by decide : 27 + 4 ≤ _)⟩)
    dsimp only [Pt.U, Pt.locs, Pt.cells, Pt.slots] at X53 l53 y53 z53 st53 hQ53
    subst y53 z53
    obtain ⟨bx_53, rfl, N53q, K53c, g_bx_53, sb_bx_53, R53_0, R53_1, R53_2, R53_3, R53_4⟩ := hQ53
    have N53 : Fr n0 L53 := by rw [l53]; exact Fr.app N52 N53q
    have Z53 : n0 ≤ T53.heap.size := Nat.le_trans Z52 K53c.1
    change Stand _ _ _ _ _ _ _ _ _ _ _ _ 11 31 at X53
    obtain ⟨cq55, kq55, q55a, q55b, q55c⟩ := isOf hZ rfl R53_0
    obtain ⟨_, _, ⟨T55, L55, k55, n55⟩, -, X55, ⟨Lc55, hQ55, l55, y55, z55⟩, st55⟩ := X53.virtualBack hx (y := (⟨"com/example/outremer_engine/outremerengine/diplomacy/Order$Convoy", "unit", "()Lcom/example/outremer_engine/outremerengine/board/Unit;"⟩ : MethodName)) (z := (⟨"com/example/outremer_engine/outremerengine/diplomacy/Order$Convoy", "unit", "()Lcom/example/outremer_engine/outremerengine/board/Unit;"⟩ : MethodName)) hown (mvT hZ (hw _ (List.mem_of_getElem? (i := 77) rfl))) (mvT hZ (hw _ (List.mem_of_getElem? (i := 78) rfl))) (notFace_of_selects (args := #[]) (mvT hZ (hw _ (List.mem_of_getElem? (i := 80) rfl)))) (mvT hZ (hw _ (List.mem_of_getElem? (i := 80) rfl))) (mvT hZ (hw _ (List.mem_of_getElem? (i := 79) rfl))) (by decide) (backOf (W := 0) (rm11 l Z a0 hw [] bx_53 b11 T53.heap n0 Z53 R53_1) hZ (hw _ (List.mem_of_getElem? (i := 81) rfl)) (hw _ (List.mem_of_getElem? (i := 57) rfl)) (by decide) (by decide)) q55a q55c (g := (mkF m 132 #[.val (.int pp1), .val (.int pp2), .val (.int pp3), .val (.int pp4), .val (.int c1), .val (.int c2), .val (.ref b3), .val (.ref b11), .val (.ref b19), .val (.ref b19), .val (.ref b51), .val (.ref bx_53)] [(.ref bx_53)])) rfl (by rw [hml]; rfl) (Steps.refl _) (argsL := []) (rest := []) (lenOf pd__28__29_Lcom_2f_example_2f_outremer_engine_2f_outremerengine_2f_board_2f_Unit_3b_ rfl) rfl (by show 2 * 0 + _ ≤ _; exact Nat.le_of_eq rfl) (hb hby at_132) (fun _ _ => ⟨rfl, rfl, (by decide : 11 + 0 ≤ _), (by decide : 31 + 0 ≤ _)⟩)
    dsimp only [Pt.U, Pt.locs, Pt.cells, Pt.slots] at X55 l55 y55 z55 st55 hQ55
    subst y55 z55
    obtain ⟨rfl, N55q, e55⟩ := hQ55
    have N55 : Fr n0 L55 := by rw [l55]; exact Fr.app N53 N55q
    change Stand _ _ _ _ _ _ _ _ _ _ _ _ 11 31 at X55
    obtain ⟨cq56, kq56, q56a, q56b, q56c⟩ := isOf hZ e55 R53_0
    obtain ⟨_, _, ⟨T56, L56, k56, n56⟩, -, X56, ⟨Lc56, hQ56, l56, y56, z56⟩, st56⟩ := X55.virtualBack hx (y := (⟨"com/example/outremer_engine/outremerengine/diplomacy/Order$Convoy", "convoyedType", "()Lcom/example/outremer_engine/outremerengine/board/UnitType;"⟩ : MethodName)) (z := (⟨"com/example/outremer_engine/outremerengine/diplomacy/Order$Convoy", "convoyedType", "()Lcom/example/outremer_engine/outremerengine/board/UnitType;"⟩ : MethodName)) hown (mvT hZ (hw _ (List.mem_of_getElem? (i := 82) rfl))) (mvT hZ (hw _ (List.mem_of_getElem? (i := 83) rfl))) (notFace_of_selects (args := #[]) (mvT hZ (hw _ (List.mem_of_getElem? (i := 85) rfl)))) (mvT hZ (hw _ (List.mem_of_getElem? (i := 85) rfl))) (mvT hZ (hw _ (List.mem_of_getElem? (i := 84) rfl))) (by decide) (backOf (W := 0) (rm12 l Z a0 hw [] bx_53 T53.heap n0 Z53 R53_2) hZ (hw _ (List.mem_of_getElem? (i := 86) rfl)) (hw _ (List.mem_of_getElem? (i := 57) rfl)) (by decide) (by decide)) q56a q56c (g := (mkF m 142 #[.val (.int pp1), .val (.int pp2), .val (.int pp3), .val (.int pp4), .val (.int c1), .val (.int c2), .val (.ref b3), .val (.ref b11), .val (.ref b19), .val (.ref b19), .val (.ref b51), .val (.ref bx_53)] [(.ref bx_53)])) rfl (by rw [hml]; rfl) (Steps.refl _) (argsL := []) (rest := []) (lenOf pd__28__29_Lcom_2f_example_2f_outremer_engine_2f_outremerengine_2f_board_2f_UnitType_3b_ rfl) rfl (by show 2 * 0 + _ ≤ _; exact Nat.le_of_eq rfl) (hb hby at_142) (fun _ _ => ⟨rfl, e55, (by decide : 11 + 0 ≤ _), (by decide : 31 + 0 ≤ _)⟩)
    dsimp only [Pt.U, Pt.locs, Pt.cells, Pt.slots] at X56 l56 y56 z56 st56 hQ56
    subst y56 z56
    obtain ⟨rfl, N56q, e56⟩ := hQ56
    have N56 : Fr n0 L56 := by rw [l56]; exact Fr.app N55 N56q
    change Stand _ _ _ _ _ _ _ _ _ _ _ _ 11 31 at X56
    obtain ⟨cq57, kq57, q57a, q57b, q57c⟩ := isOf hZ e56 R53_0
    obtain ⟨_, _, ⟨T57, L57, k57, n57⟩, -, X57, ⟨Lc57, hQ57, l57, y57, z57⟩, st57⟩ := X56.virtualBack hx (y := (⟨"com/example/outremer_engine/outremerengine/diplomacy/Order$Convoy", "from", "()Lcom/example/outremer_engine/outremerengine/board/Place;"⟩ : MethodName)) (z := (⟨"com/example/outremer_engine/outremerengine/diplomacy/Order$Convoy", "from", "()Lcom/example/outremer_engine/outremerengine/board/Place;"⟩ : MethodName)) hown (mvT hZ (hw _ (List.mem_of_getElem? (i := 87) rfl))) (mvT hZ (hw _ (List.mem_of_getElem? (i := 88) rfl))) (notFace_of_selects (args := #[]) (mvT hZ (hw _ (List.mem_of_getElem? (i := 90) rfl)))) (mvT hZ (hw _ (List.mem_of_getElem? (i := 90) rfl))) (mvT hZ (hw _ (List.mem_of_getElem? (i := 89) rfl))) (by decide) (backOf (W := 0) (rm13 l Z a0 hw [] bx_53 b19 T53.heap n0 Z53 R53_3) hZ (hw _ (List.mem_of_getElem? (i := 91) rfl)) (hw _ (List.mem_of_getElem? (i := 57) rfl)) (by decide) (by decide)) q57a q57c (g := (mkF m 150 #[.val (.int pp1), .val (.int pp2), .val (.int pp3), .val (.int pp4), .val (.int c1), .val (.int c2), .val (.ref b3), .val (.ref b11), .val (.ref b19), .val (.ref b19), .val (.ref b51), .val (.ref bx_53)] [(.ref bx_53)])) rfl (by rw [hml]; rfl) (Steps.refl _) (argsL := []) (rest := []) (lenOf pd__28__29_Lcom_2f_example_2f_outremer_engine_2f_outremerengine_2f_board_2f_Place_3b_ rfl) rfl (by show 2 * 0 + _ ≤ _; exact Nat.le_of_eq rfl) (hb hby at_150) (fun _ _ => ⟨rfl, e56, (by decide : 11 + 0 ≤ _), (by decide : 31 + 0 ≤ _)⟩)
    dsimp only [Pt.U, Pt.locs, Pt.cells, Pt.slots] at X57 l57 y57 z57 st57 hQ57
    subst y57 z57
    obtain ⟨rfl, N57q, e57⟩ := hQ57
    have N57 : Fr n0 L57 := by rw [l57]; exact Fr.app N56 N57q
    change Stand _ _ _ _ _ _ _ _ _ _ _ _ 11 31 at X57
    obtain ⟨cq58, kq58, q58a, q58b, q58c⟩ := isOf hZ e57 R53_0
    obtain ⟨_, _, ⟨T58, L58, k58, n58⟩, -, X58, ⟨Lc58, hQ58, l58, y58, z58⟩, st58⟩ := X57.virtualBack hx (y := (⟨"com/example/outremer_engine/outremerengine/diplomacy/Order$Convoy", "to", "()Lcom/example/outremer_engine/outremerengine/board/Place;"⟩ : MethodName)) (z := (⟨"com/example/outremer_engine/outremerengine/diplomacy/Order$Convoy", "to", "()Lcom/example/outremer_engine/outremerengine/board/Place;"⟩ : MethodName)) hown (mvT hZ (hw _ (List.mem_of_getElem? (i := 92) rfl))) (mvT hZ (hw _ (List.mem_of_getElem? (i := 93) rfl))) (notFace_of_selects (args := #[]) (mvT hZ (hw _ (List.mem_of_getElem? (i := 95) rfl)))) (mvT hZ (hw _ (List.mem_of_getElem? (i := 95) rfl))) (mvT hZ (hw _ (List.mem_of_getElem? (i := 94) rfl))) (by decide) (backOf (W := 0) (rm14 l Z a0 hw [] bx_53 b19 T53.heap n0 Z53 R53_4) hZ (hw _ (List.mem_of_getElem? (i := 96) rfl)) (hw _ (List.mem_of_getElem? (i := 57) rfl)) (by decide) (by decide)) q58a q58c (g := (mkF m 160 #[.val (.int pp1), .val (.int pp2), .val (.int pp3), .val (.int pp4), .val (.int c1), .val (.int c2), .val (.ref b3), .val (.ref b11), .val (.ref b19), .val (.ref b19), .val (.ref b51), .val (.ref bx_53)] [(.ref bx_53)])) rfl (by rw [hml]; rfl) (Steps.refl _) (argsL := []) (rest := []) (lenOf pd__28__29_Lcom_2f_example_2f_outremer_engine_2f_outremerengine_2f_board_2f_Place_3b_ rfl) rfl (by show 2 * 0 + _ ≤ _; exact Nat.le_of_eq rfl) (hb hby at_160) (fun _ _ => ⟨rfl, e57, (by decide : 11 + 0 ≤ _), (by decide : 31 + 0 ≤ _)⟩)
    dsimp only [Pt.U, Pt.locs, Pt.cells, Pt.slots] at X58 l58 y58 z58 st58 hQ58
    subst y58 z58
    obtain ⟨rfl, N58q, e58⟩ := hQ58
    have N58 : Fr n0 L58 := by rw [l58]; exact Fr.app N57 N58q
    change Stand _ _ _ _ _ _ _ _ _ _ _ _ 11 31 at X58
    have F_59 : Fld Z T53.heap b51 "com/example/outremer_engine/outremerengine/diplomacy/Order$Convoy" "unit" "Lcom/example/outremer_engine/outremerengine/board/Unit;" (.ref b3) := (R52_0.keep K53c nin0)
    have E_61 : Exa Z T53.heap b51 "com/example/outremer_engine/outremerengine/diplomacy/Order$Convoy" := (E_54.keep K53c)
    obtain ⟨cq60, kq60, q60a, q60b, q60c⟩ := isOf hZ e58 E_61
    obtain ⟨_, _, ⟨T60, L60, k60, n60⟩, -, X60, ⟨Lc60, hQ60, l60, y60, z60⟩, st60⟩ := X58.virtualBack hx (y := (⟨"com/example/outremer_engine/outremerengine/diplomacy/Order$Convoy", "unit", "()Lcom/example/outremer_engine/outremerengine/board/Unit;"⟩ : MethodName)) (z := (⟨"com/example/outremer_engine/outremerengine/diplomacy/Order$Convoy", "unit", "()Lcom/example/outremer_engine/outremerengine/board/Unit;"⟩ : MethodName)) hown (mvT hZ (hw _ (List.mem_of_getElem? (i := 77) rfl))) (mvT hZ (hw _ (List.mem_of_getElem? (i := 78) rfl))) (notFace_of_selects (args := #[]) (mvT hZ (hw _ (List.mem_of_getElem? (i := 80) rfl)))) (mvT hZ (hw _ (List.mem_of_getElem? (i := 80) rfl))) (mvT hZ (hw _ (List.mem_of_getElem? (i := 79) rfl))) (by decide) (backOf (W := 0) (rm11 l Z a0 hw [] b51 b3 T53.heap n0 Z53 F_59) hZ (hw _ (List.mem_of_getElem? (i := 81) rfl)) (hw _ (List.mem_of_getElem? (i := 57) rfl)) (by decide) (by decide)) q60a q60c (g := (mkF m 170 #[.val (.int pp1), .val (.int pp2), .val (.int pp3), .val (.int pp4), .val (.int c1), .val (.int c2), .val (.ref b3), .val (.ref b11), .val (.ref b19), .val (.ref b19), .val (.ref b51), .val (.ref bx_53)] [(.ref b51)])) rfl (by rw [hml]; rfl) (Steps.refl _) (argsL := []) (rest := []) (lenOf pd__28__29_Lcom_2f_example_2f_outremer_engine_2f_outremerengine_2f_board_2f_Unit_3b_ rfl) rfl (by show 2 * 0 + _ ≤ _; exact Nat.le_of_eq rfl) (hb hby at_170) (fun _ _ => ⟨rfl, e58, (by decide : 11 + 0 ≤ _), (by decide : 31 + 0 ≤ _)⟩)
    dsimp only [Pt.U, Pt.locs, Pt.cells, Pt.slots] at X60 l60 y60 z60 st60 hQ60
    subst y60 z60
    obtain ⟨rfl, N60q, e60⟩ := hQ60
    have N60 : Fr n0 L60 := by rw [l60]; exact Fr.app N58 N60q
    change Stand _ _ _ _ _ _ _ _ _ _ _ _ 11 31 at X60
    have F_62 : Fld Z T53.heap b51 "com/example/outremer_engine/outremerengine/diplomacy/Order$Convoy" "from" "Lcom/example/outremer_engine/outremerengine/board/Place;" (.ref b19) := (R52_2.keep K53c nin0)
    obtain ⟨cq63, kq63, q63a, q63b, q63c⟩ := isOf hZ e60 E_61
    obtain ⟨_, _, ⟨T63, L63, k63, n63⟩, -, X63, ⟨Lc63, hQ63, l63, y63, z63⟩, st63⟩ := X60.virtualBack hx (y := (⟨"com/example/outremer_engine/outremerengine/diplomacy/Order$Convoy", "from", "()Lcom/example/outremer_engine/outremerengine/board/Place;"⟩ : MethodName)) (z := (⟨"com/example/outremer_engine/outremerengine/diplomacy/Order$Convoy", "from", "()Lcom/example/outremer_engine/outremerengine/board/Place;"⟩ : MethodName)) hown (mvT hZ (hw _ (List.mem_of_getElem? (i := 87) rfl))) (mvT hZ (hw _ (List.mem_of_getElem? (i := 88) rfl))) (notFace_of_selects (args := #[]) (mvT hZ (hw _ (List.mem_of_getElem? (i := 90) rfl)))) (mvT hZ (hw _ (List.mem_of_getElem? (i := 90) rfl))) (mvT hZ (hw _ (List.mem_of_getElem? (i := 89) rfl))) (by decide) (backOf (W := 0) (rm13 l Z a0 hw [] b51 b19 T53.heap n0 Z53 F_62) hZ (hw _ (List.mem_of_getElem? (i := 91) rfl)) (hw _ (List.mem_of_getElem? (i := 57) rfl)) (by decide) (by decide)) q63a q63c (g := (mkF m 180 #[.val (.int pp1), .val (.int pp2), .val (.int pp3), .val (.int pp4), .val (.int c1), .val (.int c2), .val (.ref b3), .val (.ref b11), .val (.ref b19), .val (.ref b19), .val (.ref b51), .val (.ref bx_53)] [(.ref b51)])) rfl (by rw [hml]; rfl) (Steps.refl _) (argsL := []) (rest := []) (lenOf pd__28__29_Lcom_2f_example_2f_outremer_engine_2f_outremerengine_2f_board_2f_Place_3b_ rfl) rfl (by show 2 * 0 + _ ≤ _; exact Nat.le_of_eq rfl) (hb hby at_180) (fun _ _ => ⟨rfl, e60, (by decide : 11 + 0 ≤ _), (by decide : 31 + 0 ≤ _)⟩)
    dsimp only [Pt.U, Pt.locs, Pt.cells, Pt.slots] at X63 l63 y63 z63 st63 hQ63
    subst y63 z63
    obtain ⟨rfl, N63q, e63⟩ := hQ63
    have N63 : Fr n0 L63 := by rw [l63]; exact Fr.app N60 N63q
    change Stand _ _ _ _ _ _ _ _ _ _ _ _ 11 31 at X63
    have F_64 : Fld Z T53.heap b51 "com/example/outremer_engine/outremerengine/diplomacy/Order$Convoy" "to" "Lcom/example/outremer_engine/outremerengine/board/Place;" (.ref b19) := (R52_3.keep K53c nin0)
    obtain ⟨cq65, kq65, q65a, q65b, q65c⟩ := isOf hZ e63 E_61
    obtain ⟨_, _, ⟨T65, L65, k65, n65⟩, -, X65, ⟨Lc65, hQ65, l65, y65, z65⟩, st65⟩ := X63.virtualBack hx (y := (⟨"com/example/outremer_engine/outremerengine/diplomacy/Order$Convoy", "to", "()Lcom/example/outremer_engine/outremerengine/board/Place;"⟩ : MethodName)) (z := (⟨"com/example/outremer_engine/outremerengine/diplomacy/Order$Convoy", "to", "()Lcom/example/outremer_engine/outremerengine/board/Place;"⟩ : MethodName)) hown (mvT hZ (hw _ (List.mem_of_getElem? (i := 92) rfl))) (mvT hZ (hw _ (List.mem_of_getElem? (i := 93) rfl))) (notFace_of_selects (args := #[]) (mvT hZ (hw _ (List.mem_of_getElem? (i := 95) rfl)))) (mvT hZ (hw _ (List.mem_of_getElem? (i := 95) rfl))) (mvT hZ (hw _ (List.mem_of_getElem? (i := 94) rfl))) (by decide) (backOf (W := 0) (rm14 l Z a0 hw [] b51 b19 T53.heap n0 Z53 F_64) hZ (hw _ (List.mem_of_getElem? (i := 96) rfl)) (hw _ (List.mem_of_getElem? (i := 57) rfl)) (by decide) (by decide)) q65a q65c (g := (mkF m 190 #[.val (.int pp1), .val (.int pp2), .val (.int pp3), .val (.int pp4), .val (.int c1), .val (.int c2), .val (.ref b3), .val (.ref b11), .val (.ref b19), .val (.ref b19), .val (.ref b51), .val (.ref bx_53)] [(.ref b51)])) rfl (by rw [hml]; rfl) (Steps.refl _) (argsL := []) (rest := []) (lenOf pd__28__29_Lcom_2f_example_2f_outremer_engine_2f_outremerengine_2f_board_2f_Place_3b_ rfl) rfl (by show 2 * 0 + _ ≤ _; exact Nat.le_of_eq rfl) (hb hby at_190) (fun _ _ => ⟨rfl, e63, (by decide : 11 + 0 ≤ _), (by decide : 31 + 0 ≤ _)⟩)
    dsimp only [Pt.U, Pt.locs, Pt.cells, Pt.slots] at X65 l65 y65 z65 st65 hQ65
    subst y65 z65
    obtain ⟨rfl, N65q, e65⟩ := hQ65
    have N65 : Fr n0 L65 := by rw [l65]; exact Fr.app N63 N65q
    change Stand _ _ _ _ _ _ _ _ _ _ _ _ 11 31 at X65
    obtain ⟨fs, hr, hrun, hended, hW, hsame⟩ := X65.leave (v := some (.int (1 : Int32))) (fun h => by rw [Bd.returns] at h; cases h)
    refine ⟨_, _, pre28 _ ?_, hrun, hended, _, _, rfl, ?_, ⟨_, rfl⟩, hW, hsame.mono (by decide) (by decide)⟩
    · show Steps p.tables e below (T27.setTop (mkF m 73 #[.val (.int pp1), .val (.int pp2), .val (.int pp3), .val (.int pp4), .val (.int c1), .val (.int c2), .val (.ref b3), .val (.ref b11), .val (.ref b19), .unset, .unset, .unset] [(.int (pp4 &&& (1 : Int32)))])) _
      refine XS.ifNo X27.here hx rfl (hb hby at_73) rfl ((if0 _ _).trans (feq hc73).1) ?_
      show Steps p.tables e below (T27.setTop (mkF m 76 #[.val (.int pp1), .val (.int pp2), .val (.int pp3), .val (.int pp4), .val (.int c1), .val (.int c2), .val (.ref b3), .val (.ref b11), .val (.ref b19), .unset, .unset, .unset] [])) _
      refine XS.aload X27.here hx rfl (hb hby at_76) rfl rfl ?_
      show Steps p.tables e below (T27.setTop (mkF m 78 #[.val (.int pp1), .val (.int pp2), .val (.int pp3), .val (.int pp4), .val (.int c1), .val (.int c2), .val (.ref b3), .val (.ref b11), .val (.ref b19), .unset, .unset, .unset] [(.ref b19)])) _
      refine XS.goto X27.here hx rfl (pc0 := 78) (pc' := 98) rfl (hb hby at_78) (by decide) (by decide) ?_
      show Steps p.tables e below (T27.setTop (mkF m 98 #[.val (.int pp1), .val (.int pp2), .val (.int pp3), .val (.int pp4), .val (.int c1), .val (.int c2), .val (.ref b3), .val (.ref b11), .val (.ref b19), .unset, .unset, .unset] [(.ref b19)])) _
      refine XS.astore X27.here hx rfl (hb hby at_98) rfl rfl (l' := #[.val (.int pp1), .val (.int pp2), .val (.int pp3), .val (.int pp4), .val (.int c1), .val (.int c2), .val (.ref b3), .val (.ref b11), .val (.ref b19), .val (.ref b19), .unset, .unset]) rfl ?_
      show Steps p.tables e below (T27.setTop (mkF m 100 #[.val (.int pp1), .val (.int pp2), .val (.int pp3), .val (.int pp4), .val (.int c1), .val (.int c2), .val (.ref b3), .val (.ref b11), .val (.ref b19), .val (.ref b19), .unset, .unset] [])) _
      refine st51 _ ?_
      show Steps p.tables e below (T51.setTop (mkF m 103 #[.val (.int pp1), .val (.int pp2), .val (.int pp3), .val (.int pp4), .val (.int c1), .val (.int c2), .val (.ref b3), .val (.ref b11), .val (.ref b19), .val (.ref b19), .unset, .unset] [(.ref b51)])) _
      refine XS.dup X51.here hx rfl (hb hby at_103) rfl rfl ?_
      show Steps p.tables e below (T51.setTop (mkF m 104 #[.val (.int pp1), .val (.int pp2), .val (.int pp3), .val (.int pp4), .val (.int c1), .val (.int c2), .val (.ref b3), .val (.ref b11), .val (.ref b19), .val (.ref b19), .unset, .unset] [(.ref b51), (.ref b51)])) _
      refine XS.aload X51.here hx rfl (hb hby at_104) rfl rfl ?_
      show Steps p.tables e below (T51.setTop (mkF m 106 #[.val (.int pp1), .val (.int pp2), .val (.int pp3), .val (.int pp4), .val (.int c1), .val (.int c2), .val (.ref b3), .val (.ref b11), .val (.ref b19), .val (.ref b19), .unset, .unset] [(.ref b3), (.ref b51), (.ref b51)])) _
      refine XS.aconstNull X51.here hx rfl (hb hby at_106) ?_
      show Steps p.tables e below (T51.setTop (mkF m 107 #[.val (.int pp1), .val (.int pp2), .val (.int pp3), .val (.int pp4), .val (.int c1), .val (.int c2), .val (.ref b3), .val (.ref b11), .val (.ref b19), .val (.ref b19), .unset, .unset] [.null, (.ref b3), (.ref b51), (.ref b51)])) _
      refine XS.aload X51.here hx rfl (hb hby at_107) rfl rfl ?_
      show Steps p.tables e below (T51.setTop (mkF m 109 #[.val (.int pp1), .val (.int pp2), .val (.int pp3), .val (.int pp4), .val (.int c1), .val (.int c2), .val (.ref b3), .val (.ref b11), .val (.ref b19), .val (.ref b19), .unset, .unset] [(.ref b19), .null, (.ref b3), (.ref b51), (.ref b51)])) _
      refine XS.aload X51.here hx rfl (hb hby at_109) rfl rfl ?_
      show Steps p.tables e below (T51.setTop (mkF m 111 #[.val (.int pp1), .val (.int pp2), .val (.int pp3), .val (.int pp4), .val (.int c1), .val (.int c2), .val (.ref b3), .val (.ref b11), .val (.ref b19), .val (.ref b19), .unset, .unset] [(.ref b19), (.ref b19), .null, (.ref b3), (.ref b51), (.ref b51)])) _
      refine st52.trans ?_
      show Steps p.tables e below (T52.setTop (mkF m 114 #[.val (.int pp1), .val (.int pp2), .val (.int pp3), .val (.int pp4), .val (.int c1), .val (.int c2), .val (.ref b3), .val (.ref b11), .val (.ref b19), .val (.ref b19), .unset, .unset] [(.ref b51)])) _
      refine XS.astore X52.here hx rfl (hb hby at_114) rfl rfl (l' := #[.val (.int pp1), .val (.int pp2), .val (.int pp3), .val (.int pp4), .val (.int c1), .val (.int c2), .val (.ref b3), .val (.ref b11), .val (.ref b19), .val (.ref b19), .val (.ref b51), .unset]) rfl ?_
      show Steps p.tables e below (T52.setTop (mkF m 116 #[.val (.int pp1), .val (.int pp2), .val (.int pp3), .val (.int pp4), .val (.int c1), .val (.int c2), .val (.ref b3), .val (.ref b11), .val (.ref b19), .val (.ref b19), .val (.ref b51), .unset] [])) _
      refine XS.aload X52.here hx rfl (hb hby at_116) rfl rfl ?_
      show Steps p.tables e below (T52.setTop (mkF m 118 #[.val (.int pp1), .val (.int pp2), .val (.int pp3), .val (.int pp4), .val (.int c1), .val (.int c2), .val (.ref b3), .val (.ref b11), .val (.ref b19), .val (.ref b19), .val (.ref b51), .unset] [(.ref b51)])) _
      refine XS.aload X52.here hx rfl (hb hby at_118) rfl rfl ?_
      show Steps p.tables e below (T52.setTop (mkF m 120 #[.val (.int pp1), .val (.int pp2), .val (.int pp3), .val (.int pp4), .val (.int c1), .val (.int c2), .val (.ref b3), .val (.ref b11), .val (.ref b19), .val (.ref b19), .val (.ref b51), .unset] [(.ref b11), (.ref b51)])) _
      refine st53.trans ?_
      show Steps p.tables e below (T53.setTop (mkF m 123 #[.val (.int pp1), .val (.int pp2), .val (.int pp3), .val (.int pp4), .val (.int c1), .val (.int c2), .val (.ref b3), .val (.ref b11), .val (.ref b19), .val (.ref b19), .val (.ref b51), .unset] [(.ref bx_53)])) _
      refine XS.astore X53.here hx rfl (hb hby at_123) rfl rfl (l' := #[.val (.int pp1), .val (.int pp2), .val (.int pp3), .val (.int pp4), .val (.int c1), .val (.int c2), .val (.ref b3), .val (.ref b11), .val (.ref b19), .val (.ref b19), .val (.ref b51), .val (.ref bx_53)]) rfl ?_
      show Steps p.tables e below (T53.setTop (mkF m 125 #[.val (.int pp1), .val (.int pp2), .val (.int pp3), .val (.int pp4), .val (.int c1), .val (.int c2), .val (.ref b3), .val (.ref b11), .val (.ref b19), .val (.ref b19), .val (.ref b51), .val (.ref bx_53)] [])) _
      refine XS.aload X53.here hx rfl (hb hby at_125) rfl rfl ?_
      show Steps p.tables e below (T53.setTop (mkF m 127 #[.val (.int pp1), .val (.int pp2), .val (.int pp3), .val (.int pp4), .val (.int c1), .val (.int c2), .val (.ref b3), .val (.ref b11), .val (.ref b19), .val (.ref b19), .val (.ref b51), .val (.ref bx_53)] [(.ref bx_53)])) _
      refine XS.ifnullNo X53.here hx rfl (hb hby at_127) rfl ?_
      show Steps p.tables e below (T53.setTop (mkF m 130 #[.val (.int pp1), .val (.int pp2), .val (.int pp3), .val (.int pp4), .val (.int c1), .val (.int c2), .val (.ref b3), .val (.ref b11), .val (.ref b19), .val (.ref b19), .val (.ref b51), .val (.ref bx_53)] [])) _
      refine XS.aload X53.here hx rfl (hb hby at_130) rfl rfl ?_
      show Steps p.tables e below (T53.setTop (mkF m 132 #[.val (.int pp1), .val (.int pp2), .val (.int pp3), .val (.int pp4), .val (.int c1), .val (.int c2), .val (.ref b3), .val (.ref b11), .val (.ref b19), .val (.ref b19), .val (.ref b51), .val (.ref bx_53)] [(.ref bx_53)])) _
      refine st55.trans ?_
      show Steps p.tables e below (T55.setTop (mkF m 135 #[.val (.int pp1), .val (.int pp2), .val (.int pp3), .val (.int pp4), .val (.int c1), .val (.int c2), .val (.ref b3), .val (.ref b11), .val (.ref b19), .val (.ref b19), .val (.ref b51), .val (.ref bx_53)] [(.ref b11)])) _
      refine XS.aload X55.here hx rfl (hb hby at_135) rfl rfl ?_
      show Steps p.tables e below (T55.setTop (mkF m 137 #[.val (.int pp1), .val (.int pp2), .val (.int pp3), .val (.int pp4), .val (.int c1), .val (.int c2), .val (.ref b3), .val (.ref b11), .val (.ref b19), .val (.ref b19), .val (.ref b51), .val (.ref bx_53)] [(.ref b11), (.ref b11)])) _
      refine Jvm.RoadKit.acmp (g := (mkF m 137 #[.val (.int pp1), .val (.int pp2), .val (.int pp3), .val (.int pp4), .val (.int c1), .val (.int c2), .val (.ref b3), .val (.ref b11), .val (.ref b19), .val (.ref b19), .val (.ref b51), .val (.ref bx_53)] [(.ref b11), (.ref b11)])) X55 hx rfl rfl rfl (pc0 := 137) (pc' := 140) (same := true) rfl (hb hby at_137) rfl (decide_eq_true rfl) (by decide) (by decide) ?_
      show Steps p.tables e below (T55.setTop (mkF m 140 #[.val (.int pp1), .val (.int pp2), .val (.int pp3), .val (.int pp4), .val (.int c1), .val (.int c2), .val (.ref b3), .val (.ref b11), .val (.ref b19), .val (.ref b19), .val (.ref b51), .val (.ref bx_53)] [])) _
      refine XS.aload X55.here hx rfl (hb hby at_140) rfl rfl ?_
      show Steps p.tables e below (T55.setTop (mkF m 142 #[.val (.int pp1), .val (.int pp2), .val (.int pp3), .val (.int pp4), .val (.int c1), .val (.int c2), .val (.ref b3), .val (.ref b11), .val (.ref b19), .val (.ref b19), .val (.ref b51), .val (.ref bx_53)] [(.ref bx_53)])) _
      refine st56.trans ?_
      show Steps p.tables e below (T56.setTop (mkF m 145 #[.val (.int pp1), .val (.int pp2), .val (.int pp3), .val (.int pp4), .val (.int c1), .val (.int c2), .val (.ref b3), .val (.ref b11), .val (.ref b19), .val (.ref b19), .val (.ref b51), .val (.ref bx_53)] [.null])) _
      refine XS.ifnonnullNo X56.here hx rfl (hb hby at_145) rfl ?_
      show Steps p.tables e below (T56.setTop (mkF m 148 #[.val (.int pp1), .val (.int pp2), .val (.int pp3), .val (.int pp4), .val (.int c1), .val (.int c2), .val (.ref b3), .val (.ref b11), .val (.ref b19), .val (.ref b19), .val (.ref b51), .val (.ref bx_53)] [])) _
      refine XS.aload X56.here hx rfl (hb hby at_148) rfl rfl ?_
      show Steps p.tables e below (T56.setTop (mkF m 150 #[.val (.int pp1), .val (.int pp2), .val (.int pp3), .val (.int pp4), .val (.int c1), .val (.int c2), .val (.ref b3), .val (.ref b11), .val (.ref b19), .val (.ref b19), .val (.ref b51), .val (.ref bx_53)] [(.ref bx_53)])) _
      refine st57.trans ?_
      show Steps p.tables e below (T57.setTop (mkF m 153 #[.val (.int pp1), .val (.int pp2), .val (.int pp3), .val (.int pp4), .val (.int c1), .val (.int c2), .val (.ref b3), .val (.ref b11), .val (.ref b19), .val (.ref b19), .val (.ref b51), .val (.ref bx_53)] [(.ref b19)])) _
      refine XS.aload X57.here hx rfl (hb hby at_153) rfl rfl ?_
      show Steps p.tables e below (T57.setTop (mkF m 155 #[.val (.int pp1), .val (.int pp2), .val (.int pp3), .val (.int pp4), .val (.int c1), .val (.int c2), .val (.ref b3), .val (.ref b11), .val (.ref b19), .val (.ref b19), .val (.ref b51), .val (.ref bx_53)] [(.ref b19), (.ref b19)])) _
      refine Jvm.RoadKit.acmp (g := (mkF m 155 #[.val (.int pp1), .val (.int pp2), .val (.int pp3), .val (.int pp4), .val (.int c1), .val (.int c2), .val (.ref b3), .val (.ref b11), .val (.ref b19), .val (.ref b19), .val (.ref b51), .val (.ref bx_53)] [(.ref b19), (.ref b19)])) X57 hx rfl rfl rfl (pc0 := 155) (pc' := 158) (same := true) rfl (hb hby at_155) rfl (decide_eq_true rfl) (by decide) (by decide) ?_
      show Steps p.tables e below (T57.setTop (mkF m 158 #[.val (.int pp1), .val (.int pp2), .val (.int pp3), .val (.int pp4), .val (.int c1), .val (.int c2), .val (.ref b3), .val (.ref b11), .val (.ref b19), .val (.ref b19), .val (.ref b51), .val (.ref bx_53)] [])) _
      refine XS.aload X57.here hx rfl (hb hby at_158) rfl rfl ?_
      show Steps p.tables e below (T57.setTop (mkF m 160 #[.val (.int pp1), .val (.int pp2), .val (.int pp3), .val (.int pp4), .val (.int c1), .val (.int c2), .val (.ref b3), .val (.ref b11), .val (.ref b19), .val (.ref b19), .val (.ref b51), .val (.ref bx_53)] [(.ref bx_53)])) _
      refine st58.trans ?_
      show Steps p.tables e below (T58.setTop (mkF m 163 #[.val (.int pp1), .val (.int pp2), .val (.int pp3), .val (.int pp4), .val (.int c1), .val (.int c2), .val (.ref b3), .val (.ref b11), .val (.ref b19), .val (.ref b19), .val (.ref b51), .val (.ref bx_53)] [(.ref b19)])) _
      refine XS.aload X58.here hx rfl (hb hby at_163) rfl rfl ?_
      show Steps p.tables e below (T58.setTop (mkF m 165 #[.val (.int pp1), .val (.int pp2), .val (.int pp3), .val (.int pp4), .val (.int c1), .val (.int c2), .val (.ref b3), .val (.ref b11), .val (.ref b19), .val (.ref b19), .val (.ref b51), .val (.ref bx_53)] [(.ref b19), (.ref b19)])) _
      refine Jvm.RoadKit.acmp (g := (mkF m 165 #[.val (.int pp1), .val (.int pp2), .val (.int pp3), .val (.int pp4), .val (.int c1), .val (.int c2), .val (.ref b3), .val (.ref b11), .val (.ref b19), .val (.ref b19), .val (.ref b51), .val (.ref bx_53)] [(.ref b19), (.ref b19)])) X58 hx rfl rfl rfl (pc0 := 165) (pc' := 168) (same := true) rfl (hb hby at_165) rfl (decide_eq_true rfl) (by decide) (by decide) ?_
      show Steps p.tables e below (T58.setTop (mkF m 168 #[.val (.int pp1), .val (.int pp2), .val (.int pp3), .val (.int pp4), .val (.int c1), .val (.int c2), .val (.ref b3), .val (.ref b11), .val (.ref b19), .val (.ref b19), .val (.ref b51), .val (.ref bx_53)] [])) _
      refine XS.aload X58.here hx rfl (hb hby at_168) rfl rfl ?_
      show Steps p.tables e below (T58.setTop (mkF m 170 #[.val (.int pp1), .val (.int pp2), .val (.int pp3), .val (.int pp4), .val (.int c1), .val (.int c2), .val (.ref b3), .val (.ref b11), .val (.ref b19), .val (.ref b19), .val (.ref b51), .val (.ref bx_53)] [(.ref b51)])) _
      refine st60.trans ?_
      show Steps p.tables e below (T60.setTop (mkF m 173 #[.val (.int pp1), .val (.int pp2), .val (.int pp3), .val (.int pp4), .val (.int c1), .val (.int c2), .val (.ref b3), .val (.ref b11), .val (.ref b19), .val (.ref b19), .val (.ref b51), .val (.ref bx_53)] [(.ref b3)])) _
      refine XS.aload X60.here hx rfl (hb hby at_173) rfl rfl ?_
      show Steps p.tables e below (T60.setTop (mkF m 175 #[.val (.int pp1), .val (.int pp2), .val (.int pp3), .val (.int pp4), .val (.int c1), .val (.int c2), .val (.ref b3), .val (.ref b11), .val (.ref b19), .val (.ref b19), .val (.ref b51), .val (.ref bx_53)] [(.ref b3), (.ref b3)])) _
      refine Jvm.RoadKit.acmp (g := (mkF m 175 #[.val (.int pp1), .val (.int pp2), .val (.int pp3), .val (.int pp4), .val (.int c1), .val (.int c2), .val (.ref b3), .val (.ref b11), .val (.ref b19), .val (.ref b19), .val (.ref b51), .val (.ref bx_53)] [(.ref b3), (.ref b3)])) X60 hx rfl rfl rfl (pc0 := 175) (pc' := 178) (same := true) rfl (hb hby at_175) rfl (decide_eq_true rfl) (by decide) (by decide) ?_
      show Steps p.tables e below (T60.setTop (mkF m 178 #[.val (.int pp1), .val (.int pp2), .val (.int pp3), .val (.int pp4), .val (.int c1), .val (.int c2), .val (.ref b3), .val (.ref b11), .val (.ref b19), .val (.ref b19), .val (.ref b51), .val (.ref bx_53)] [])) _
      refine XS.aload X60.here hx rfl (hb hby at_178) rfl rfl ?_
      show Steps p.tables e below (T60.setTop (mkF m 180 #[.val (.int pp1), .val (.int pp2), .val (.int pp3), .val (.int pp4), .val (.int c1), .val (.int c2), .val (.ref b3), .val (.ref b11), .val (.ref b19), .val (.ref b19), .val (.ref b51), .val (.ref bx_53)] [(.ref b51)])) _
      refine st63.trans ?_
      show Steps p.tables e below (T63.setTop (mkF m 183 #[.val (.int pp1), .val (.int pp2), .val (.int pp3), .val (.int pp4), .val (.int c1), .val (.int c2), .val (.ref b3), .val (.ref b11), .val (.ref b19), .val (.ref b19), .val (.ref b51), .val (.ref bx_53)] [(.ref b19)])) _
      refine XS.aload X63.here hx rfl (hb hby at_183) rfl rfl ?_
      show Steps p.tables e below (T63.setTop (mkF m 185 #[.val (.int pp1), .val (.int pp2), .val (.int pp3), .val (.int pp4), .val (.int c1), .val (.int c2), .val (.ref b3), .val (.ref b11), .val (.ref b19), .val (.ref b19), .val (.ref b51), .val (.ref bx_53)] [(.ref b19), (.ref b19)])) _
      refine Jvm.RoadKit.acmp (g := (mkF m 185 #[.val (.int pp1), .val (.int pp2), .val (.int pp3), .val (.int pp4), .val (.int c1), .val (.int c2), .val (.ref b3), .val (.ref b11), .val (.ref b19), .val (.ref b19), .val (.ref b51), .val (.ref bx_53)] [(.ref b19), (.ref b19)])) X63 hx rfl rfl rfl (pc0 := 185) (pc' := 188) (same := true) rfl (hb hby at_185) rfl (decide_eq_true rfl) (by decide) (by decide) ?_
      show Steps p.tables e below (T63.setTop (mkF m 188 #[.val (.int pp1), .val (.int pp2), .val (.int pp3), .val (.int pp4), .val (.int c1), .val (.int c2), .val (.ref b3), .val (.ref b11), .val (.ref b19), .val (.ref b19), .val (.ref b51), .val (.ref bx_53)] [])) _
      refine XS.aload X63.here hx rfl (hb hby at_188) rfl rfl ?_
      show Steps p.tables e below (T63.setTop (mkF m 190 #[.val (.int pp1), .val (.int pp2), .val (.int pp3), .val (.int pp4), .val (.int c1), .val (.int c2), .val (.ref b3), .val (.ref b11), .val (.ref b19), .val (.ref b19), .val (.ref b51), .val (.ref bx_53)] [(.ref b51)])) _
      refine st65.trans ?_
      show Steps p.tables e below (T65.setTop (mkF m 193 #[.val (.int pp1), .val (.int pp2), .val (.int pp3), .val (.int pp4), .val (.int c1), .val (.int c2), .val (.ref b3), .val (.ref b11), .val (.ref b19), .val (.ref b19), .val (.ref b51), .val (.ref bx_53)] [(.ref b19)])) _
      refine XS.aload X65.here hx rfl (hb hby at_193) rfl rfl ?_
      show Steps p.tables e below (T65.setTop (mkF m 195 #[.val (.int pp1), .val (.int pp2), .val (.int pp3), .val (.int pp4), .val (.int c1), .val (.int c2), .val (.ref b3), .val (.ref b11), .val (.ref b19), .val (.ref b19), .val (.ref b51), .val (.ref bx_53)] [(.ref b19), (.ref b19)])) _
      refine Jvm.RoadKit.acmp (g := (mkF m 195 #[.val (.int pp1), .val (.int pp2), .val (.int pp3), .val (.int pp4), .val (.int c1), .val (.int c2), .val (.ref b3), .val (.ref b11), .val (.ref b19), .val (.ref b19), .val (.ref b51), .val (.ref bx_53)] [(.ref b19), (.ref b19)])) X65 hx rfl rfl rfl (pc0 := 195) (pc' := 198) (same := true) rfl (hb hby at_195) rfl (decide_eq_true rfl) (by decide) (by decide) ?_
      show Steps p.tables e below (T65.setTop (mkF m 198 #[.val (.int pp1), .val (.int pp2), .val (.int pp3), .val (.int pp4), .val (.int c1), .val (.int c2), .val (.ref b3), .val (.ref b11), .val (.ref b19), .val (.ref b19), .val (.ref b51), .val (.ref bx_53)] [])) _
      refine XS.iconst X65.here hx rfl (hb hby at_198) ?_
      show Steps p.tables e below (T65.setTop (mkF m 199 #[.val (.int pp1), .val (.int pp2), .val (.int pp3), .val (.int pp4), .val (.int c1), .val (.int c2), .val (.ref b3), .val (.ref b11), .val (.ref b19), .val (.ref b19), .val (.ref b51), .val (.ref bx_53)] [(.int (1 : Int32))])) _
      refine XS.goto X65.here hx rfl (pc0 := 199) (pc' := 203) rfl (hb hby at_199) (by decide) (by decide) ?_
      show Steps p.tables e below (T65.setTop (mkF m 203 #[.val (.int pp1), .val (.int pp2), .val (.int pp3), .val (.int pp4), .val (.int c1), .val (.int c2), .val (.ref b3), .val (.ref b11), .val (.ref b19), .val (.ref b19), .val (.ref b51), .val (.ref bx_53)] [(.int (1 : Int32))])) _
      exact retN X65 hx (t := .boolean) Bd.returns (by simp) (hb hby at_203) hr
    · show Q0 Z pp1 pp2 pp3 pp4 cs h0 n0 _ T65.heap _
      rw [e65]
      exact ⟨rfl, N65⟩
set_option maxRecDepth 65536 in
set_option maxHeartbeats 40000000 in
theorem comes_1 {Post : Tables → Env → Array Value → State → Outcome → State → Prop} (hpost : ∀ tb e args s v u, (limb_1_1.after args s (.returned v) u = true ∧ limb_1_2.after args s (.returned v) u = true ∧ True) → FrameEnd s (.returned v) u (Jvm.fieldLocs frame_1_writes args s ++ Jvm.arrayLocs frame_1_arrays args s ++ Jvm.staticLocs frame_1_statics s) 40 192 → Post tb e args s (.returned v) u) :
    ArmFor flags0 classFile x code maxLocals ret World_1 tables_1 room_1 Calls_1 rest_1 Pre_1 Post := by
  intro l hfl _ _ p e ha hc hk s m args below hf hA hF happ hP
  obtain ⟨hcalls, hrest, hpre⟩ := hP
  obtain ⟨-, -, -, hnamed, -, -, -, hat⟩ := (Spec.applies_iff hf).mp happ
  obtain ⟨hg, hn⟩ := and_e (Cond.before_iff.mp (show (Jvm.Cond.and given_1 narrow_1).before args s = true from hpre))
  obtain ⟨g1, g2⟩ := and_e hg
  obtain ⟨g3, g4⟩ := and_e g2
  obtain ⟨g5, g6⟩ := and_e g4
  obtain ⟨g7, g8⟩ := and_e g6
  obtain ⟨w0, w1, w2, w3, rfl⟩ : ∃ w0 w1 w2 w3 : Value, args = #[w0, w1, w2, w3] := by
    have hs : args.size = 4 := by simpa [Cond.value, given_1] using g1
    obtain ⟨L⟩ := args
    match L, hs with
    | [w0, w1, w2, w3], _ => exact ⟨w0, w1, w2, w3, rfl⟩
  have hw := fun d (hd : d ∈ tables_1) => atoms_spec (ws := Jvm.Cond.code x code maxLocals ret :: tables_1) hat d (List.mem_cons_of_mem _ hd)
  have hfit : Fit s := fun {y c} hc i hi => by
    obtain ⟨ha, rfl⟩ := Array.getElem?_eq_some_iff.mp hc
    have q := List.all_eq_true.mp ((Array.all_eq_true_iff_forall_mem.mp hF) _ (Array.getElem_mem ha)) i (List.mem_range.mpr hi)
    simpa [Array.getElem?_eq_getElem hi] using q
  obtain ⟨hsets, hown0⟩ := atoms_of _ (rest_1_c_eq ▸ (show rest_1_c.before _ s = true from hrest))
  have hr0 := Cond.before_iff.mp hown0
  obtain ⟨i0, ei0⟩ := is_v g3
  obtain rfl : w0 = (.int i0) := Option.some.inj ei0
  obtain ⟨i1, ei1⟩ := is_v g5
  obtain rfl : w1 = (.int i1) := Option.some.inj ei1
  obtain ⟨i2, ei2⟩ := is_v g7
  obtain rfl : w2 = (.int i2) := Option.some.inj ei2
  obtain ⟨i3, ei3⟩ := is_v g8
  obtain rfl : w3 = (.int i3) := Option.some.inj ei3
  obtain ⟨cs, evc⟩ := is_v (Cond.before_iff.mp (hsets _ (List.mem_of_getElem? (i := 1) rfl)))
  have staC := Sta.start evc (Or.inl (hsets _ (List.mem_of_getElem? (i := 0) rfl)))
  have hcs : ¬ cs = (0 : Int32) := own_neq evc (Cond.before_iff.mp (hsets _ (List.mem_of_getElem? (i := 2) rfl)))
  obtain ⟨n, o, h1, h2, h3, _, L, rfl, ⟨rfl, N⟩, hq⟩ := rm0 l s _ hw tables_1 i0 i1 i2 i3 cs s.heap s.heap.size (Nat.le_refl _) (Old.start s) staC hcs p e ha hc hk s m _ below hf ((Spec.applies_iff_loose hf).mp happ).1 ⟨rfl, State.Warmed39.refl s, rfl⟩ trivial
  refine ⟨n, _, h1, h2, h3, hpost _ _ _ _ _ _ ⟨Cond.after_iff.mpr rfl, Cond.after_iff.mpr (eq_i res_at (Term.int_eval (1)) rfl), trivial⟩ ⟨hq.1, hq.2.1, (hq.2.2.sift fun y hy => Or.inr (N y hy)).mono (by decide) (by decide)⟩⟩
theorem main_1_1 : Claimed_1_1 := comes_1 fun _ _ _ _ _ _ h hF => ⟨h.1, hF⟩
theorem main_1_2 : Claimed_1_2 := comes_1 fun _ _ _ _ _ _ h hF => ⟨h.2.1, hF⟩
end Jvm.Pilot.@@N@@
namespace Jvm.Pilot.@@N@@
open Jvm Jvm.ClassFile Sem Op Lib Jvm.Free Jvm.Stand Jvm.Pilot.@@N@@.Jvm.D
/-! MADE BY PROGRAM (witnessworld.py) out of the Statement's table words and the real class files: 22 classes; the members and pool entries that the words name. The judged class is class 1, her method 1. -/
namespace start1
open Jvm.ClassFile
def u (s : String) : CpInfo := .utf8 (stringToUtf16 s)
/-- a pool by its gaps: so many unusable entries, then the entry; so many at the end -/
def gap : Nat → List CpInfo → List CpInfo
  | 0, r => r
  | n + 1, r => .unusable :: gap n r
def poolList (es : List (Nat × CpInfo)) (last : Nat) : List CpInfo := es.foldr (fun e r => gap e.1 (e.2 :: r)) (gap last [])
def pool (es : List (Nat × CpInfo)) (last : Nat) : Array CpInfo := ⟨poolList es last⟩
def fileOf (pool : Array CpInfo) (this : Nat) (attrs : Array Attribute := #[]) (ms : Array MethodInfo := #[]) (fl : Nat := 33) (sup : Nat := 0) (ifs : Array Nat := #[]) (fds : Array FieldInfo := #[]) : ClassFile where
  minorVersion := 0
  majorVersion := 65
  constantPool := pool
  accessFlags := fl
  thisClass := this
  superClass := sup
  interfaces := ifs
  fields := fds
  methods := ms
  attributes := attrs
def plain (name : String) (sup : Option ClassId) : Class where
  name := name
  kind := .ordinary
  loader := none
  accessFlags := 33
  super := sup
  interfaces := #[]
  cf := none
  fields := #[]
  methods := #[]
  instanceTypes := #[]
  staticTypes := #[]
  resolved := #[]
  callSites := []
  init := .initialized
  statics := none
  mirror := none

def pool0 : Array CpInfo := pool [(5, u "<init>"), (0, u "()V"), (1, .class_ 10), (1, u "java/lang/Object")] 113

def k0c0 : Code := { maxStack := 0, maxLocals := 1, code := object_method_1_code, exceptionTable := #[], attributes := #[] }
def k0m0 : Method := { name := "<init>", desc := "()V", sig := { parameters := [], returnType := none }, accessFlags := 1, code := some k0c0 }
/-- java/lang/Object -/
def k0 : Class := { plain "java/lang/Object" none with
  accessFlags := 33
  interfaces := #[]
  cf := some (fileOf pool0 8 #[] #[{ accessFlags := 1, nameIndex := 5, descriptorIndex := 6, attributes := #[] }] 33 0 #[] #[])
  fields := #[]
  methods := #[k0m0]
  instanceTypes := #[]
  staticTypes := #[]
  resolved := Array.replicate 124 none
  statics := none }

def pool1 : Array CpInfo := pool [(2, .class_ 4), (1, u "java/lang/Object"), (0, u "<init>"), (0, u "()V"), (0, .class_ 8), (0, u "com/example/outremer_engine/outremerengine/board/Unit"), (0, .methodref 10 11), (0, .class_ 12), (0, .nameAndType 13 14), (0, u "java/lang/String"), (0, u "valueOf"), (0, u "(C)Ljava/lang/String;"), (0, .methodref 7 16), (0, .nameAndType 5 17), (0, u "(Ljava/lang/String;Lcom/example/outremer_engine/outremerengine/board/UnitType;Lcom/example/outremer_engine/outremerengine/board/Place;)V"), (0, .class_ 19), (0, u "com/example/outremer_engine/outremerengine/board/Place"), (0, .methodref 18 21), (0, .nameAndType 5 22), (0, u "(Lcom/example/outremer_engine/outremerengine/board/Province;Ljava/lang/String;)V"), (0, .class_ 24), (0, u "com/example/outremer_engine/outremerengine/diplomacy/Order$Convoy"), (0, .methodref 23 26), (0, .nameAndType 5 27), (0, u "(Lcom/example/outremer_engine/outremerengine/board/Unit;Lcom/example/outremer_engine/outremerengine/board/UnitType;Lcom/example/outremer_engine/outremerengine/board/Place;Lcom/example/outremer_engine/outremerengine/board/Place;)V"), (0, .methodref 23 29), (0, .nameAndType 30 31), (0, u "givenTo"), (0, u "(Lcom/example/outremer_engine/outremerengine/board/Unit;)Lcom/example/outremer_engine/outremerengine/diplomacy/Order$Convoy;"), (0, .methodref 23 33), (0, .nameAndType 34 35), (0, u "unit"), (0, u "()Lcom/example/outremer_engine/outremerengine/board/Unit;"), (0, .methodref 23 37), (0, .nameAndType 38 39), (0, u "convoyedType"), (0, u "()Lcom/example/outremer_engine/outremerengine/board/UnitType;"), (0, .methodref 23 41), (0, .nameAndType 42 43), (0, u "from"), (0, u "()Lcom/example/outremer_engine/outremerengine/board/Place;"), (0, .methodref 23 45), (0, .nameAndType 46 43), (0, u "to"), (0, .class_ 48), (0, u "com/example/outremer_engine/outremerengine/diplomacy/ConvoyGivenToPinLaw"), (2, u "law"), (0, u "(IIII)Z")] 7

def k1m0 : Method := { name := "<init>", desc := "()V", sig := { parameters := [], returnType := none }, accessFlags := 2, code := none }
def k1c1 : Code := { maxStack := 6, maxLocals := 12, code := code, exceptionTable := #[], attributes := #[] }
def k1m1 : Method := { name := "law", desc := "(IIII)Z", sig := { parameters := [.int, .int, .int, .int], returnType := some .boolean }, accessFlags := 9, code := some k1c1 }
/-- com/example/outremer_engine/outremerengine/diplomacy/ConvoyGivenToPinLaw -/
def k1 : Class := { plain "com/example/outremer_engine/outremerengine/diplomacy/ConvoyGivenToPinLaw" (some 0) with
  accessFlags := 49
  interfaces := #[]
  cf := some (fileOf pool1 47 #[] #[{ accessFlags := 2, nameIndex := 5, descriptorIndex := 6, attributes := #[] }, { accessFlags := 9, nameIndex := 51, descriptorIndex := 52, attributes := #[] }] 49 2 #[] #[])
  fields := #[]
  methods := #[k1m0, k1m1]
  instanceTypes := #[]
  staticTypes := #[]
  resolved := Array.replicate 60 none
  statics := none }

def pool2 : Array CpInfo := pool [(1, .methodref 2 3), (0, .class_ 4), (0, .nameAndType 5 6), (0, u "java/lang/Object"), (0, u "<init>"), (0, u "()V"), (0, .class_ 8), (0, u "java/lang/Record")] 13

def k2c0 : Code := { maxStack := 1, maxLocals := 1, code := jdk_30_method_1_code, exceptionTable := #[], attributes := #[] }
def k2m0 : Method := { name := "<init>", desc := "()V", sig := { parameters := [], returnType := none }, accessFlags := 4, code := some k2c0 }
/-- java/lang/Record -/
def k2 : Class := { plain "java/lang/Record" (some 0) with
  accessFlags := 1057
  interfaces := #[]
  cf := some (fileOf pool2 7 #[] #[{ accessFlags := 4, nameIndex := 5, descriptorIndex := 6, attributes := #[] }] 1057 2 #[] #[])
  fields := #[]
  methods := #[k2m0]
  instanceTypes := #[]
  staticTypes := #[]
  resolved := Array.replicate 22 none
  statics := none }

def pool3 : Array CpInfo := pool [(1, .methodref 2 3), (0, .class_ 4), (0, .nameAndType 5 6), (0, u "java/lang/Record"), (0, u "<init>"), (0, u "()V"), (0, .fieldref 8 9), (0, .class_ 10), (0, .nameAndType 11 12), (0, u "com/example/outremer_engine/outremerengine/board/Unit"), (0, u "nation"), (0, u "Ljava/lang/String;"), (0, .fieldref 8 14), (0, .nameAndType 15 16), (0, u "type"), (0, u "Lcom/example/outremer_engine/outremerengine/board/UnitType;"), (0, .fieldref 8 18), (0, .nameAndType 19 20), (0, u "place"), (0, u "Lcom/example/outremer_engine/outremerengine/board/Place;"), (8, u "(Ljava/lang/String;Lcom/example/outremer_engine/outremerengine/board/UnitType;Lcom/example/outremer_engine/outremerengine/board/Place;)V"), (28, .class_ 59), (0, u "com/example/outremer_engine/outremerengine/board/Unit$ListingOrder"), (3, u "LISTING_ORDER"), (0, u "Ljava/util/Comparator;")] 32

def k3c0 : Code := { maxStack := 2, maxLocals := 4, code := prog_8_method_1_code, exceptionTable := #[], attributes := #[] }
def k3m0 : Method := { name := "<init>", desc := "(Ljava/lang/String;Lcom/example/outremer_engine/outremerengine/board/UnitType;Lcom/example/outremer_engine/outremerengine/board/Place;)V", sig := { parameters := [(.object "java/lang/String"), (.object "com/example/outremer_engine/outremerengine/board/UnitType"), (.object "com/example/outremer_engine/outremerengine/board/Place")], returnType := none }, accessFlags := 1, code := some k3c0 }
/-- com/example/outremer_engine/outremerengine/board/Unit -/
def k3 : Class := { plain "com/example/outremer_engine/outremerengine/board/Unit" (some 2) with
  accessFlags := 49
  interfaces := #[]
  cf := some (fileOf pool3 8 #[.nestMembers #[58]] #[{ accessFlags := 1, nameIndex := 5, descriptorIndex := 29, attributes := #[] }] 49 2 #[] #[{ accessFlags := 18, nameIndex := 11, descriptorIndex := 12, attributes := #[] }, { accessFlags := 18, nameIndex := 15, descriptorIndex := 16, attributes := #[] }, { accessFlags := 18, nameIndex := 19, descriptorIndex := 20, attributes := #[] }, { accessFlags := 25, nameIndex := 63, descriptorIndex := 64, attributes := #[] }])
  fields := #[{ name := "nation", type := (.object "java/lang/String"), accessFlags := 18, slot := 0, constantValue := 0 }, { name := "type", type := (.object "com/example/outremer_engine/outremerengine/board/UnitType"), accessFlags := 18, slot := 1, constantValue := 0 }, { name := "place", type := (.object "com/example/outremer_engine/outremerengine/board/Place"), accessFlags := 18, slot := 2, constantValue := 0 }, { name := "LISTING_ORDER", type := (.object "java/util/Comparator"), accessFlags := 25, slot := 0, constantValue := 0 }]
  methods := #[k3m0]
  instanceTypes := #[(.object "java/lang/String"), (.object "com/example/outremer_engine/outremerengine/board/UnitType"), (.object "com/example/outremer_engine/outremerengine/board/Place")]
  staticTypes := #[(.object "java/util/Comparator")]
  resolved := Array.replicate 97 none
  statics := none }

def pool4 : Array CpInfo := pool [(1, .class_ 2), (0, u "java/io/Serializable"), (0, .class_ 4), (0, u "java/lang/Object")] 2

/-- java/io/Serializable -/
def k4 : Class := { plain "java/io/Serializable" (some 0) with
  accessFlags := 1537
  interfaces := #[]
  cf := some (fileOf pool4 1 #[] #[] 1537 3 #[] #[])
  fields := #[]
  methods := #[]
  instanceTypes := #[]
  staticTypes := #[]
  resolved := Array.replicate 7 none
  statics := none }

def pool5 : Array CpInfo := pool [(1, .class_ 2), (0, u "java/lang/Comparable"), (0, .class_ 4), (0, u "java/lang/Object")] 7

/-- java/lang/Comparable -/
def k5 : Class := { plain "java/lang/Comparable" (some 0) with
  accessFlags := 1537
  interfaces := #[]
  cf := some (fileOf pool5 1 #[] #[] 1537 3 #[] #[])
  fields := #[]
  methods := #[]
  instanceTypes := #[]
  staticTypes := #[]
  resolved := Array.replicate 12 none
  statics := none }

def pool6 : Array CpInfo := pool [(2, .class_ 4), (1, u "java/lang/CharSequence"), (42, .class_ 48), (0, u "java/lang/CharSequence$1CodePointIterator"), (10, .class_ 60), (0, u "java/lang/CharSequence$1CharIterator"), (5, .class_ 67), (0, u "java/lang/Object")] 63

/-- java/lang/CharSequence -/
def k6 : Class := { plain "java/lang/CharSequence" (some 0) with
  accessFlags := 1537
  interfaces := #[]
  cf := some (fileOf pool6 2 #[.nestMembers #[47, 59]] #[] 1537 66 #[] #[])
  fields := #[]
  methods := #[]
  instanceTypes := #[]
  staticTypes := #[]
  resolved := Array.replicate 131 none
  statics := none }

def pool7 : Array CpInfo := pool [(1, .class_ 2), (0, u "java/lang/constant/Constable"), (0, .class_ 4), (0, u "java/lang/Object")] 6

/-- java/lang/constant/Constable -/
def k7 : Class := { plain "java/lang/constant/Constable" (some 0) with
  accessFlags := 1537
  interfaces := #[]
  cf := some (fileOf pool7 1 #[] #[] 1537 3 #[] #[])
  fields := #[]
  methods := #[]
  instanceTypes := #[]
  staticTypes := #[]
  resolved := Array.replicate 11 none
  statics := none }

def pool8 : Array CpInfo := pool [(1, .class_ 2), (0, u "java/lang/constant/ConstantDesc"), (0, .class_ 4), (0, u "java/lang/Object")] 32

/-- java/lang/constant/ConstantDesc -/
def k8 : Class := { plain "java/lang/constant/ConstantDesc" (some 0) with
  accessFlags := 1537
  interfaces := #[]
  cf := some (fileOf pool8 1 #[] #[] 1537 3 #[] #[])
  fields := #[]
  methods := #[]
  instanceTypes := #[]
  staticTypes := #[]
  resolved := Array.replicate 37 none
  statics := none }

def pool9 : Array CpInfo := pool [(1, .methodref 2 3), (0, .class_ 4), (0, .nameAndType 5 6), (0, u "java/lang/Object"), (0, u "<init>"), (0, u "()V"), (2, .fieldref 10 11), (0, .class_ 12), (0, .nameAndType 13 14), (0, u "java/lang/String"), (0, u "value"), (0, u "[B"), (0, .fieldref 10 16), (0, .nameAndType 17 18), (0, u "coder"), (0, u "B"), (2, u "hash"), (0, u "I"), (2, u "hashIsZero"), (0, u "Z"), (11, .fieldref 10 39), (0, .nameAndType 40 26), (0, u "COMPACT_STRINGS"), (12, u "toBytes"), (53, .class_ 109), (1, u "java/lang/StringLatin1"), (99, .methodref 10 210), (0, .nameAndType 5 211), (0, u "([BB)V"), (157, u "(C)Z"), (205, .class_ 576), (0, u "java/lang/CharSequence"), (22, u "CASE_INSENSITIVE_ORDER"), (0, u "Ljava/util/Comparator;"), (181, u "valueOf"), (0, u "(C)Ljava/lang/String;"), (231, .methodref 107 1016), (0, .nameAndType 1017 369), (0, u "canEncode"), (0, .methodref 107 1019), (0, .nameAndType 53 1020), (0, u "(C)[B"), (80, u "serialPersistentFields"), (0, u "[Ljava/io/ObjectStreamField;"), (0, .class_ 1104), (0, u "java/lang/String$CaseInsensitiveComparator"), (1, .class_ 1107), (0, u "java/io/Serializable"), (0, .class_ 1109), (0, u "java/lang/Comparable"), (0, .class_ 1111), (0, u "java/lang/constant/Constable"), (0, .class_ 1113), (0, u "java/lang/constant/ConstantDesc"), (2, u "serialVersionUID"), (0, u "J"), (3, u "REPL"), (0, u "C"), (2, u "LATIN1"), (1, u "UTF16")] 323

def k9m0 : Method := { name := "<init>", desc := "()V", sig := { parameters := [], returnType := none }, accessFlags := 1, code := none }
def k9c1 : Code := { maxStack := 4, maxLocals := 1, code := jdk_42_method_139_code, exceptionTable := #[], attributes := #[] }
def k9m1 : Method := { name := "valueOf", desc := "(C)Ljava/lang/String;", sig := { parameters := [.char], returnType := some (.object "java/lang/String") }, accessFlags := 9, code := some k9c1 }
def k9c2 : Code := { maxStack := 2, maxLocals := 3, code := jdk_42_method_151_code, exceptionTable := #[], attributes := #[] }
def k9m2 : Method := { name := "<init>", desc := "([BB)V", sig := { parameters := [(.array .byte), .byte], returnType := none }, accessFlags := 0, code := some k9c2 }
/-- java/lang/String -/
def k9 : Class := { plain "java/lang/String" (some 0) with
  accessFlags := 49
  interfaces := #[4, 5, 6, 7, 8]
  cf := some (fileOf pool9 10 #[.nestMembers #[1103]] #[{ accessFlags := 1, nameIndex := 5, descriptorIndex := 6, attributes := #[] }, { accessFlags := 9, nameIndex := 782, descriptorIndex := 783, attributes := #[] }, { accessFlags := 0, nameIndex := 5, descriptorIndex := 211, attributes := #[] }] 49 2 #[1106, 1108, 575, 1110, 1112] #[{ accessFlags := 18, nameIndex := 13, descriptorIndex := 14, attributes := #[] }, { accessFlags := 18, nameIndex := 17, descriptorIndex := 18, attributes := #[] }, { accessFlags := 2, nameIndex := 21, descriptorIndex := 22, attributes := #[] }, { accessFlags := 2, nameIndex := 25, descriptorIndex := 26, attributes := #[] }, { accessFlags := 26, nameIndex := 1116, descriptorIndex := 1117, attributes := #[] }, { accessFlags := 24, nameIndex := 40, descriptorIndex := 26, attributes := #[] }, { accessFlags := 26, nameIndex := 1101, descriptorIndex := 1102, attributes := #[] }, { accessFlags := 26, nameIndex := 1121, descriptorIndex := 1122, attributes := #[] }, { accessFlags := 25, nameIndex := 599, descriptorIndex := 600, attributes := #[] }, { accessFlags := 24, nameIndex := 1125, descriptorIndex := 18, attributes := #[] }, { accessFlags := 24, nameIndex := 1127, descriptorIndex := 18, attributes := #[] }])
  fields := #[{ name := "value", type := (.array .byte), accessFlags := 18, slot := 0, constantValue := 0 }, { name := "coder", type := .byte, accessFlags := 18, slot := 1, constantValue := 0 }, { name := "hash", type := .int, accessFlags := 2, slot := 2, constantValue := 0 }, { name := "hashIsZero", type := .boolean, accessFlags := 2, slot := 3, constantValue := 0 }, { name := "serialVersionUID", type := .long, accessFlags := 26, slot := 0, constantValue := 0 }, { name := "COMPACT_STRINGS", type := .boolean, accessFlags := 24, slot := 1, constantValue := 0 }, { name := "serialPersistentFields", type := (.array (.object "java/io/ObjectStreamField")), accessFlags := 26, slot := 2, constantValue := 0 }, { name := "REPL", type := .char, accessFlags := 26, slot := 3, constantValue := 0 }, { name := "CASE_INSENSITIVE_ORDER", type := (.object "java/util/Comparator"), accessFlags := 25, slot := 4, constantValue := 0 }, { name := "LATIN1", type := .byte, accessFlags := 24, slot := 5, constantValue := 0 }, { name := "UTF16", type := .byte, accessFlags := 24, slot := 6, constantValue := 0 }]
  methods := #[k9m0, k9m1, k9m2]
  instanceTypes := #[(.array .byte), .byte, .int, .boolean]
  staticTypes := #[.long, .boolean, (.array (.object "java/io/ObjectStreamField")), .char, (.object "java/util/Comparator"), .byte, .byte]
  resolved := Array.replicate 1451 none
  statics := some 0 }

def pool10 : Array CpInfo := pool [(4, .class_ 6), (1, u "java/lang/Object"), (0, u "<init>"), (0, u "()V"), (5, .class_ 16), (1, u "java/lang/StringLatin1"), (73, u "canEncode"), (14, u "(C)Z"), (15, u "$assertionsDisabled"), (0, u "Z"), (98, .class_ 223), (1, u "java/lang/StringLatin1$LinesSpliterator"), (156, u "toBytes"), (1, u "(C)[B"), (7, .class_ 391), (0, u "java/lang/StringLatin1$CharsSpliterator")] 3

def k10m0 : Method := { name := "<init>", desc := "()V", sig := { parameters := [], returnType := none }, accessFlags := 0, code := none }
def k10c1 : Code := { maxStack := 2, maxLocals := 1, code := jdk_43_method_3_code, exceptionTable := #[], attributes := #[] }
def k10m1 : Method := { name := "canEncode", desc := "(C)Z", sig := { parameters := [.char], returnType := some .boolean }, accessFlags := 9, code := some k10c1 }
def k10c2 : Code := { maxStack := 4, maxLocals := 1, code := jdk_43_method_46_code, exceptionTable := #[], attributes := #[] }
def k10m2 : Method := { name := "toBytes", desc := "(C)[B", sig := { parameters := [.char], returnType := some (.array .byte) }, accessFlags := 9, code := some k10c2 }
/-- java/lang/StringLatin1 -/
def k10 : Class := { plain "java/lang/StringLatin1" (some 0) with
  accessFlags := 48
  interfaces := #[]
  cf := some (fileOf pool10 14 #[.nestMembers #[390, 221]] #[{ accessFlags := 0, nameIndex := 7, descriptorIndex := 8, attributes := #[] }, { accessFlags := 9, nameIndex := 90, descriptorIndex := 105, attributes := #[] }, { accessFlags := 9, nameIndex := 380, descriptorIndex := 382, attributes := #[] }] 48 4 #[] #[{ accessFlags := 4120, nameIndex := 121, descriptorIndex := 122, attributes := #[] }])
  fields := #[{ name := "$assertionsDisabled", type := .boolean, accessFlags := 4120, slot := 0, constantValue := 0 }]
  methods := #[k10m0, k10m1, k10m2]
  instanceTypes := #[]
  staticTypes := #[.boolean]
  resolved := Array.replicate 395 none
  statics := none }

def pool11 : Array CpInfo := pool [(1, .methodref 2 3), (0, .class_ 4), (0, .nameAndType 5 6), (0, u "java/lang/Record"), (0, u "<init>"), (0, u "()V"), (0, .fieldref 8 9), (0, .class_ 10), (0, .nameAndType 11 12), (0, u "com/example/outremer_engine/outremerengine/board/Place"), (0, u "province"), (0, u "Lcom/example/outremer_engine/outremerengine/board/Province;"), (0, .fieldref 8 14), (0, .nameAndType 15 16), (0, u "coast"), (0, u "Ljava/lang/String;"), (4, u "(Lcom/example/outremer_engine/outremerengine/board/Province;Ljava/lang/String;)V")] 66

def k11c0 : Code := { maxStack := 2, maxLocals := 3, code := prog_5_method_2_code, exceptionTable := #[], attributes := #[] }
def k11m0 : Method := { name := "<init>", desc := "(Lcom/example/outremer_engine/outremerengine/board/Province;Ljava/lang/String;)V", sig := { parameters := [(.object "com/example/outremer_engine/outremerengine/board/Province"), (.object "java/lang/String")], returnType := none }, accessFlags := 1, code := some k11c0 }
/-- com/example/outremer_engine/outremerengine/board/Place -/
def k11 : Class := { plain "com/example/outremer_engine/outremerengine/board/Place" (some 2) with
  accessFlags := 49
  interfaces := #[]
  cf := some (fileOf pool11 8 #[] #[{ accessFlags := 1, nameIndex := 5, descriptorIndex := 21, attributes := #[] }] 49 2 #[] #[{ accessFlags := 18, nameIndex := 11, descriptorIndex := 12, attributes := #[] }, { accessFlags := 18, nameIndex := 15, descriptorIndex := 16, attributes := #[] }])
  fields := #[{ name := "province", type := (.object "com/example/outremer_engine/outremerengine/board/Province"), accessFlags := 18, slot := 0, constantValue := 0 }, { name := "coast", type := (.object "java/lang/String"), accessFlags := 18, slot := 1, constantValue := 0 }]
  methods := #[k11m0]
  instanceTypes := #[(.object "com/example/outremer_engine/outremerengine/board/Province"), (.object "java/lang/String")]
  staticTypes := #[]
  resolved := Array.replicate 88 none
  statics := none }

def pool12 : Array CpInfo := pool [(36, .class_ 37), (0, u "com/example/outremer_engine/outremerengine/diplomacy/Order"), (0, .class_ 39), (0, u "java/lang/Object"), (12, .class_ 53), (0, u "com/example/outremer_engine/outremerengine/diplomacy/Order$Remove"), (0, .class_ 55), (0, u "com/example/outremer_engine/outremerengine/diplomacy/Order$Build"), (0, .class_ 57), (0, u "com/example/outremer_engine/outremerengine/diplomacy/Order$Disband"), (0, .class_ 59), (0, u "com/example/outremer_engine/outremerengine/diplomacy/Order$Convoy"), (0, .class_ 61), (0, u "com/example/outremer_engine/outremerengine/diplomacy/Order$SupportMove"), (0, .class_ 63), (0, u "com/example/outremer_engine/outremerengine/diplomacy/Order$SupportHold"), (0, .class_ 65), (0, u "com/example/outremer_engine/outremerengine/diplomacy/Order$Move"), (0, .class_ 67), (0, u "com/example/outremer_engine/outremerengine/diplomacy/Order$Hold"), (0, .class_ 69), (0, u "com/example/outremer_engine/outremerengine/diplomacy/Order$UnitOrder")] 39

/-- com/example/outremer_engine/outremerengine/diplomacy/Order -/
def k12 : Class := { plain "com/example/outremer_engine/outremerengine/diplomacy/Order" (some 0) with
  accessFlags := 1537
  interfaces := #[]
  cf := some (fileOf pool12 36 #[.nestMembers #[52, 54, 56, 58, 60, 62, 64, 66, 68]] #[] 1537 38 #[] #[])
  fields := #[]
  methods := #[]
  instanceTypes := #[]
  staticTypes := #[]
  resolved := Array.replicate 109 none
  statics := none }

def pool13 : Array CpInfo := pool [(2, .class_ 4), (1, u "com/example/outremer_engine/outremerengine/diplomacy/Order$UnitOrder"), (26, .class_ 32), (0, u "java/lang/Object"), (0, .class_ 34), (0, u "com/example/outremer_engine/outremerengine/diplomacy/Order")] 31

/-- com/example/outremer_engine/outremerengine/diplomacy/Order$UnitOrder -/
def k13 : Class := { plain "com/example/outremer_engine/outremerengine/diplomacy/Order$UnitOrder" (some 0) with
  accessFlags := 1537
  interfaces := #[12]
  cf := some (fileOf pool13 2 #[.nestHost 33] #[] 1537 31 #[33] #[])
  fields := #[]
  methods := #[]
  instanceTypes := #[]
  staticTypes := #[]
  resolved := Array.replicate 66 none
  statics := none }

def pool14 : Array CpInfo := pool [(1, .methodref 2 3), (0, .class_ 4), (0, .nameAndType 5 6), (0, u "java/lang/Record"), (0, u "<init>"), (0, u "()V"), (0, .fieldref 8 9), (0, .class_ 10), (0, .nameAndType 11 12), (0, u "com/example/outremer_engine/outremerengine/diplomacy/Order$Convoy"), (0, u "unit"), (0, u "Lcom/example/outremer_engine/outremerengine/board/Unit;"), (0, .fieldref 8 14), (0, .nameAndType 15 16), (0, u "convoyedType"), (0, u "Lcom/example/outremer_engine/outremerengine/board/UnitType;"), (0, .fieldref 8 18), (0, .nameAndType 19 20), (0, u "from"), (0, u "Lcom/example/outremer_engine/outremerengine/board/Place;"), (0, .fieldref 8 22), (0, .nameAndType 23 20), (0, u "to"), (0, .methodref 8 25), (0, .nameAndType 5 26), (0, u "(Lcom/example/outremer_engine/outremerengine/board/Unit;Lcom/example/outremer_engine/outremerengine/board/UnitType;Lcom/example/outremer_engine/outremerengine/board/Place;Lcom/example/outremer_engine/outremerengine/board/Place;)V"), (13, .class_ 42), (1, u "com/example/outremer_engine/outremerengine/diplomacy/Order"), (8, u "givenTo"), (0, u "(Lcom/example/outremer_engine/outremerengine/board/Unit;)Lcom/example/outremer_engine/outremerengine/diplomacy/Order$Convoy;"), (8, .class_ 62), (0, u "com/example/outremer_engine/outremerengine/diplomacy/Order$UnitOrder"), (7, u "()Lcom/example/outremer_engine/outremerengine/board/Unit;"), (0, u "()Lcom/example/outremer_engine/outremerengine/board/UnitType;"), (0, u "()Lcom/example/outremer_engine/outremerengine/board/Place;")] 35

def k14c0 : Code := { maxStack := 2, maxLocals := 5, code := prog_76_method_1_code, exceptionTable := #[], attributes := #[] }
def k14m0 : Method := { name := "<init>", desc := "(Lcom/example/outremer_engine/outremerengine/board/Unit;Lcom/example/outremer_engine/outremerengine/board/UnitType;Lcom/example/outremer_engine/outremerengine/board/Place;Lcom/example/outremer_engine/outremerengine/board/Place;)V", sig := { parameters := [(.object "com/example/outremer_engine/outremerengine/board/Unit"), (.object "com/example/outremer_engine/outremerengine/board/UnitType"), (.object "com/example/outremer_engine/outremerengine/board/Place"), (.object "com/example/outremer_engine/outremerengine/board/Place")], returnType := none }, accessFlags := 1, code := some k14c0 }
def k14c1 : Code := { maxStack := 6, maxLocals := 2, code := prog_76_method_2_code, exceptionTable := #[], attributes := #[] }
def k14m1 : Method := { name := "givenTo", desc := "(Lcom/example/outremer_engine/outremerengine/board/Unit;)Lcom/example/outremer_engine/outremerengine/diplomacy/Order$Convoy;", sig := { parameters := [(.object "com/example/outremer_engine/outremerengine/board/Unit")], returnType := some (.object "com/example/outremer_engine/outremerengine/diplomacy/Order$Convoy") }, accessFlags := 1, code := some k14c1 }
def k14c2 : Code := { maxStack := 1, maxLocals := 1, code := prog_76_method_6_code, exceptionTable := #[], attributes := #[] }
def k14m2 : Method := { name := "unit", desc := "()Lcom/example/outremer_engine/outremerengine/board/Unit;", sig := { parameters := [], returnType := some (.object "com/example/outremer_engine/outremerengine/board/Unit") }, accessFlags := 1, code := some k14c2 }
def k14c3 : Code := { maxStack := 1, maxLocals := 1, code := prog_76_method_7_code, exceptionTable := #[], attributes := #[] }
def k14m3 : Method := { name := "convoyedType", desc := "()Lcom/example/outremer_engine/outremerengine/board/UnitType;", sig := { parameters := [], returnType := some (.object "com/example/outremer_engine/outremerengine/board/UnitType") }, accessFlags := 1, code := some k14c3 }
def k14c4 : Code := { maxStack := 1, maxLocals := 1, code := prog_76_method_8_code, exceptionTable := #[], attributes := #[] }
def k14m4 : Method := { name := "from", desc := "()Lcom/example/outremer_engine/outremerengine/board/Place;", sig := { parameters := [], returnType := some (.object "com/example/outremer_engine/outremerengine/board/Place") }, accessFlags := 1, code := some k14c4 }
def k14c5 : Code := { maxStack := 1, maxLocals := 1, code := prog_76_method_9_code, exceptionTable := #[], attributes := #[] }
def k14m5 : Method := { name := "to", desc := "()Lcom/example/outremer_engine/outremerengine/board/Place;", sig := { parameters := [], returnType := some (.object "com/example/outremer_engine/outremerengine/board/Place") }, accessFlags := 1, code := some k14c5 }
/-- com/example/outremer_engine/outremerengine/diplomacy/Order$Convoy -/
def k14 : Class := { plain "com/example/outremer_engine/outremerengine/diplomacy/Order$Convoy" (some 2) with
  accessFlags := 49
  interfaces := #[13]
  cf := some (fileOf pool14 8 #[.nestHost 40] #[{ accessFlags := 1, nameIndex := 5, descriptorIndex := 26, attributes := #[] }, { accessFlags := 1, nameIndex := 51, descriptorIndex := 52, attributes := #[] }, { accessFlags := 1, nameIndex := 11, descriptorIndex := 70, attributes := #[] }, { accessFlags := 1, nameIndex := 15, descriptorIndex := 71, attributes := #[] }, { accessFlags := 1, nameIndex := 19, descriptorIndex := 72, attributes := #[] }, { accessFlags := 1, nameIndex := 23, descriptorIndex := 72, attributes := #[] }] 49 2 #[61] #[{ accessFlags := 18, nameIndex := 11, descriptorIndex := 12, attributes := #[] }, { accessFlags := 18, nameIndex := 15, descriptorIndex := 16, attributes := #[] }, { accessFlags := 18, nameIndex := 19, descriptorIndex := 20, attributes := #[] }, { accessFlags := 18, nameIndex := 23, descriptorIndex := 20, attributes := #[] }])
  fields := #[{ name := "unit", type := (.object "com/example/outremer_engine/outremerengine/board/Unit"), accessFlags := 18, slot := 0, constantValue := 0 }, { name := "convoyedType", type := (.object "com/example/outremer_engine/outremerengine/board/UnitType"), accessFlags := 18, slot := 1, constantValue := 0 }, { name := "from", type := (.object "com/example/outremer_engine/outremerengine/board/Place"), accessFlags := 18, slot := 2, constantValue := 0 }, { name := "to", type := (.object "com/example/outremer_engine/outremerengine/board/Place"), accessFlags := 18, slot := 3, constantValue := 0 }]
  methods := #[k14m0, k14m1, k14m2, k14m3, k14m4, k14m5]
  instanceTypes := #[(.object "com/example/outremer_engine/outremerengine/board/Unit"), (.object "com/example/outremer_engine/outremerengine/board/UnitType"), (.object "com/example/outremer_engine/outremerengine/board/Place"), (.object "com/example/outremer_engine/outremerengine/board/Place")]
  staticTypes := #[]
  resolved := Array.replicate 108 none
  statics := none }

def pool15 : Array CpInfo := pool [(2, .class_ 4), (1, u "java/lang/Object"), (0, u "<init>"), (0, u "()V"), (17, .class_ 26), (1, u "jdk/internal/util/Preconditions"), (28, .class_ 56), (0, u "jdk/internal/util/Preconditions$4"), (57, .class_ 115), (0, u "jdk/internal/util/Preconditions$1"), (7, u "SIOOBE_FORMATTER"), (0, u "Ljava/util/function/BiFunction;"), (0, .class_ 126), (0, u "jdk/internal/util/Preconditions$2"), (3, u "AIOOBE_FORMATTER"), (0, .class_ 132), (0, u "jdk/internal/util/Preconditions$3"), (3, u "IOOBE_FORMATTER")] 57

def k15m0 : Method := { name := "<init>", desc := "()V", sig := { parameters := [], returnType := none }, accessFlags := 1, code := none }
/-- jdk/internal/util/Preconditions -/
def k15 : Class := { plain "jdk/internal/util/Preconditions" (some 0) with
  accessFlags := 33
  interfaces := #[]
  cf := some (fileOf pool15 24 #[.nestMembers #[55, 131, 125, 114]] #[{ accessFlags := 1, nameIndex := 5, descriptorIndex := 6, attributes := #[] }] 33 2 #[] #[{ accessFlags := 25, nameIndex := 123, descriptorIndex := 124, attributes := #[] }, { accessFlags := 25, nameIndex := 130, descriptorIndex := 124, attributes := #[] }, { accessFlags := 25, nameIndex := 136, descriptorIndex := 124, attributes := #[] }])
  fields := #[{ name := "SIOOBE_FORMATTER", type := (.object "java/util/function/BiFunction"), accessFlags := 25, slot := 0, constantValue := 0 }, { name := "AIOOBE_FORMATTER", type := (.object "java/util/function/BiFunction"), accessFlags := 25, slot := 1, constantValue := 0 }, { name := "IOOBE_FORMATTER", type := (.object "java/util/function/BiFunction"), accessFlags := 25, slot := 2, constantValue := 0 }]
  methods := #[k15m0]
  instanceTypes := #[]
  staticTypes := #[(.object "java/util/function/BiFunction"), (.object "java/util/function/BiFunction"), (.object "java/util/function/BiFunction")]
  resolved := Array.replicate 194 none
  statics := some 1 }

def pool16 : Array CpInfo := pool [(9, u "<init>"), (6, .class_ 18), (1, u "java/lang/Object"), (0, u "()V"), (1, .class_ 23), (1, u "jdk/internal/util/ArraysSupport"), (0, u "LOG2_ARRAY_LONG_INDEX_SCALE"), (0, u "I"), (2, u "U"), (0, u "Ljdk/internal/misc/Unsafe;"), (8, u "BIG_ENDIAN"), (0, u "Z"), (8, u "LOG2_BYTE_BIT_SIZE"), (4, u "LOG2_ARRAY_INT_INDEX_SCALE"), (54, u "JLA"), (0, u "Ljdk/internal/access/JavaLangAccess;"), (11, u "LOG2_ARRAY_BOOLEAN_INDEX_SCALE"), (9, u "LOG2_ARRAY_BYTE_INDEX_SCALE"), (5, u "LOG2_ARRAY_CHAR_INDEX_SCALE"), (5, u "LOG2_ARRAY_SHORT_INDEX_SCALE"), (18, u "LOG2_ARRAY_FLOAT_INDEX_SCALE"), (24, u "LOG2_ARRAY_DOUBLE_INDEX_SCALE"), (89, u "T_BOOLEAN"), (2, u "T_CHAR"), (1, u "T_FLOAT"), (1, u "T_DOUBLE"), (1, u "T_BYTE"), (1, u "T_SHORT"), (1, u "T_INT"), (1, u "T_LONG"), (1, u "SOFT_MAX_ARRAY_LENGTH")] 83

def k16m0 : Method := { name := "<init>", desc := "()V", sig := { parameters := [], returnType := none }, accessFlags := 2, code := none }
/-- jdk/internal/util/ArraysSupport -/
def k16 : Class := { plain "jdk/internal/util/ArraysSupport" (some 0) with
  accessFlags := 33
  interfaces := #[]
  cf := some (fileOf pool16 21 #[] #[{ accessFlags := 2, nameIndex := 9, descriptorIndex := 19, attributes := #[] }] 33 16 #[] #[{ accessFlags := 24, nameIndex := 28, descriptorIndex := 29, attributes := #[] }, { accessFlags := 26, nameIndex := 38, descriptorIndex := 39, attributes := #[] }, { accessFlags := 25, nameIndex := 121, descriptorIndex := 25, attributes := #[] }, { accessFlags := 25, nameIndex := 131, descriptorIndex := 25, attributes := #[] }, { accessFlags := 25, nameIndex := 137, descriptorIndex := 25, attributes := #[] }, { accessFlags := 25, nameIndex := 143, descriptorIndex := 25, attributes := #[] }, { accessFlags := 25, nameIndex := 53, descriptorIndex := 25, attributes := #[] }, { accessFlags := 25, nameIndex := 24, descriptorIndex := 25, attributes := #[] }, { accessFlags := 25, nameIndex := 162, descriptorIndex := 25, attributes := #[] }, { accessFlags := 25, nameIndex := 187, descriptorIndex := 25, attributes := #[] }, { accessFlags := 26, nameIndex := 48, descriptorIndex := 25, attributes := #[] }, { accessFlags := 25, nameIndex := 277, descriptorIndex := 25, attributes := #[] }, { accessFlags := 25, nameIndex := 280, descriptorIndex := 25, attributes := #[] }, { accessFlags := 25, nameIndex := 282, descriptorIndex := 25, attributes := #[] }, { accessFlags := 25, nameIndex := 284, descriptorIndex := 25, attributes := #[] }, { accessFlags := 25, nameIndex := 286, descriptorIndex := 25, attributes := #[] }, { accessFlags := 25, nameIndex := 288, descriptorIndex := 25, attributes := #[] }, { accessFlags := 25, nameIndex := 290, descriptorIndex := 25, attributes := #[] }, { accessFlags := 25, nameIndex := 292, descriptorIndex := 25, attributes := #[] }, { accessFlags := 26, nameIndex := 108, descriptorIndex := 109, attributes := #[] }, { accessFlags := 25, nameIndex := 294, descriptorIndex := 25, attributes := #[] }])
  fields := #[{ name := "U", type := (.object "jdk/internal/misc/Unsafe"), accessFlags := 24, slot := 0, constantValue := 0 }, { name := "BIG_ENDIAN", type := .boolean, accessFlags := 26, slot := 1, constantValue := 0 }, { name := "LOG2_ARRAY_BOOLEAN_INDEX_SCALE", type := .int, accessFlags := 25, slot := 2, constantValue := 0 }, { name := "LOG2_ARRAY_BYTE_INDEX_SCALE", type := .int, accessFlags := 25, slot := 3, constantValue := 0 }, { name := "LOG2_ARRAY_CHAR_INDEX_SCALE", type := .int, accessFlags := 25, slot := 4, constantValue := 0 }, { name := "LOG2_ARRAY_SHORT_INDEX_SCALE", type := .int, accessFlags := 25, slot := 5, constantValue := 0 }, { name := "LOG2_ARRAY_INT_INDEX_SCALE", type := .int, accessFlags := 25, slot := 6, constantValue := 0 }, { name := "LOG2_ARRAY_LONG_INDEX_SCALE", type := .int, accessFlags := 25, slot := 7, constantValue := 0 }, { name := "LOG2_ARRAY_FLOAT_INDEX_SCALE", type := .int, accessFlags := 25, slot := 8, constantValue := 0 }, { name := "LOG2_ARRAY_DOUBLE_INDEX_SCALE", type := .int, accessFlags := 25, slot := 9, constantValue := 0 }, { name := "LOG2_BYTE_BIT_SIZE", type := .int, accessFlags := 26, slot := 10, constantValue := 0 }, { name := "T_BOOLEAN", type := .int, accessFlags := 25, slot := 11, constantValue := 0 }, { name := "T_CHAR", type := .int, accessFlags := 25, slot := 12, constantValue := 0 }, { name := "T_FLOAT", type := .int, accessFlags := 25, slot := 13, constantValue := 0 }, { name := "T_DOUBLE", type := .int, accessFlags := 25, slot := 14, constantValue := 0 }, { name := "T_BYTE", type := .int, accessFlags := 25, slot := 15, constantValue := 0 }, { name := "T_SHORT", type := .int, accessFlags := 25, slot := 16, constantValue := 0 }, { name := "T_INT", type := .int, accessFlags := 25, slot := 17, constantValue := 0 }, { name := "T_LONG", type := .int, accessFlags := 25, slot := 18, constantValue := 0 }, { name := "JLA", type := (.object "jdk/internal/access/JavaLangAccess"), accessFlags := 26, slot := 19, constantValue := 0 }, { name := "SOFT_MAX_ARRAY_LENGTH", type := .int, accessFlags := 25, slot := 20, constantValue := 0 }]
  methods := #[k16m0]
  instanceTypes := #[]
  staticTypes := #[(.object "jdk/internal/misc/Unsafe"), .boolean, .int, .int, .int, .int, .int, .int, .int, .int, .int, .int, .int, .int, .int, .int, .int, .int, .int, (.object "jdk/internal/access/JavaLangAccess"), .int]
  resolved := Array.replicate 378 none
  statics := none }

def pool17 : Array CpInfo := pool [(1, u "java/lang/Cloneable"), (0, .class_ 1), (0, u "java/lang/Object"), (0, .class_ 3)] 3

/-- java/lang/Cloneable -/
def k17 : Class := { plain "java/lang/Cloneable" (some 0) with
  accessFlags := 1537
  interfaces := #[]
  cf := some (fileOf pool17 2 #[] #[] 1537 4 #[] #[])
  fields := #[]
  methods := #[]
  instanceTypes := #[]
  staticTypes := #[]
  resolved := Array.replicate 8 none
  statics := none }

/-- the primitive byte -/
def k18 : Class := { plain "byte" none with kind := .primitive 'B', accessFlags := 0x411 }
/-- [B -/
def k19 : Class := { plain "[B" (some 0) with kind := .array 18 .byte, interfaces := #[17, 4], accessFlags := 1041 }

/-- the primitive int -/
def k20 : Class := { plain "int" none with kind := .primitive 'I', accessFlags := 0x411 }
/-- [I -/
def k21 : Class := { plain "[I" (some 0) with kind := .array 20 .int, interfaces := #[17, 4], accessFlags := 1041 }

def heap : Heap := #[{ cls := 9, slots := #[.long 0, .int 1, .null, .int 0, .null, .int 0, .int 0], vm := .statics 9 },
  { cls := 15, slots := #[.null, .null, .null], vm := .statics 15 }]
def classes : Array Class := #[k0, k1, k2, k3, k4, k5, k6, k7, k8, k9, k10, k11, k12, k13, k14, k15, k16, k17, k18, k19, k20, k21]
def interned : List (Array UInt16 × Addr) := []
def slotsUsed : Nat := 10
def theMethod : MethodId := ⟨1, 1⟩
def args0 : Array Value := #[.int 200, .int 1, .int 2, .int 3]
def aboutOver (below : List Frame) : State where
  vm := { classes := classes, interned := interned.toArray }
  heap := heap
  slotsUsed := slotsUsed
  threads := #[{ frames := .invoking theMethod args0 :: below }]
def below0 : List Frame := [.native { method := ⟨0, 0⟩, args := #[] }]
def about1 : State := aboutOver below0
def p0 : Program := .bare "" "" ""
def e0 : Env := launch0.env 0 0 0
theorem w_frames : about1.frames = Frame.invoking theMethod args0 :: below0 := rfl
set_option maxRecDepth 65536 in
theorem w_args : argsFit about1.vm theMethod args0 = true := by decide +kernel
set_option maxRecDepth 65536 in
theorem w_heap : heapFits about1 = true := by decide +kernel
set_option maxRecDepth 65536 in
theorem w_runnable : about1.curStatus? = some .runnable := by decide +kernel
set_option maxRecDepth 65536 in
theorem w_alone : about1.alone = true := by decide +kernel
set_option maxRecDepth 65536 in
theorem w_named : about1.methodNamed? x = some theMethod := by decide +kernel
set_option maxRecDepth 65536 in
theorem w_hears : about1.hears theMethod below0 = true := by decide +kernel
set_option maxRecDepth 65536 in
theorem w_ripe : about1.ripe theMethod args0 below0 = true := by decide +kernel
theorem w_running : about1.status = .running := rfl
set_option maxRecDepth 65536 in
theorem w_room : about1.hasRoom e0.platform room_1 = true :=
  launch0.hasRoom_least _ room_1 (by decide +kernel) (by decide +kernel) (by decide +kernel) (by decide +kernel) (by decide +kernel) (by decide +kernel)
theorem allAtoms_all (ts : List Jvm.Cond) (a : Array Jvm.Value) (st : Jvm.State) : (allAtoms ts).before a st = ts.all (fun c => c.before a st) := by
  induction ts with
  | nil => rfl
  | cons c t ih =>
    show (Jvm.Cond.and c (allAtoms t)).before a st = _
    rw [Jvm.Cond.before_and, ih, List.all_cons]
def words1 : List Jvm.Cond := Jvm.Cond.code x code maxLocals ret :: tables_1
/-- a 'code' word, met by the world's own term for the bytes: nothing is compared byte by byte -/
theorem code_word {y : MethodName} {bytes : ByteArray} {mx : Nat} {rt : Option FieldType} {a : Array Value} {s : State} {m : MethodId} {meth : Method} {c : Code} (h1 : s.methodNamed? y = some m) (h2 : s.vm.method? m = some meth) (h3 : meth.code = some c) (h4 : c.code = bytes)
    (h5 : (c.maxLocals == mx && c.exceptionTable.isEmpty && decide (c.maxStack ≤ mostOperands) && decide (meth.sig.returnType = rt) && !meth.locks && decide (parseMethodDescriptor y.desc = some meth.sig)) = true) : (Jvm.Cond.code y bytes mx rt).before a s = true := by
  simp only [Bool.and_eq_true, beq_iff_eq, Bool.not_eq_true', decide_eq_true_eq] at h5
  obtain ⟨⟨⟨⟨⟨g1, g2⟩, g3⟩, g4⟩, g5⟩, g6⟩ := h5
  simp [Cond.before, Cond.holds, Cond.value, h1, h2, h3, h4, g1, g2, g3, g4, g5, g6]
def isCode : Jvm.Cond → Bool
  | .code _ _ _ _ => true
  | _ => false
theorem all_split {L : List Jvm.Cond} {P : Jvm.Cond → Bool} (h1 : L.all (fun c => isCode c || P c) = true) (h2 : ∀ c ∈ L.filter isCode, P c = true) : L.all P = true := by
  refine List.all_eq_true.mpr fun c hc => ?_
  have h := List.all_eq_true.mp h1 c hc
  rcases Bool.eq_false_or_eq_true (isCode c) with hi | hi
  · exact h2 c (List.mem_filter.mpr ⟨hc, hi⟩)
  · simpa [hi] using h
set_option maxRecDepth 65536 in
theorem w_c0 : (Jvm.Cond.code x code maxLocals ret).before args0 about1 = true := code_word (m := ⟨1, 1⟩) (meth := k1m1) (c := k1c1) (by decide +kernel) rfl rfl rfl (by decide +kernel)
set_option maxRecDepth 65536 in
theorem w_c1 : (Jvm.Cond.code ({ cls := "java/lang/String", name := "valueOf", desc := "(C)Ljava/lang/String;" } : Jvm.MethodName) jdk_42_method_139_code (1 : Nat) (Option.some (Jvm.ClassFile.FieldType.object "java/lang/String"))).before args0 about1 = true := code_word (m := ⟨9, 1⟩) (meth := k9m1) (c := k9c1) (by decide +kernel) rfl rfl rfl (by decide +kernel)
set_option maxRecDepth 65536 in
theorem w_c2 : (Jvm.Cond.code ({ cls := "java/lang/StringLatin1", name := "canEncode", desc := "(C)Z" } : Jvm.MethodName) jdk_43_method_3_code (1 : Nat) (Option.some Jvm.ClassFile.FieldType.boolean)).before args0 about1 = true := code_word (m := ⟨10, 1⟩) (meth := k10m1) (c := k10c1) (by decide +kernel) rfl rfl rfl (by decide +kernel)
set_option maxRecDepth 65536 in
theorem w_c3 : (Jvm.Cond.code ({ cls := "java/lang/StringLatin1", name := "toBytes", desc := "(C)[B" } : Jvm.MethodName) jdk_43_method_46_code (1 : Nat) (Option.some (Jvm.ClassFile.FieldType.array Jvm.ClassFile.FieldType.byte))).before args0 about1 = true := code_word (m := ⟨10, 2⟩) (meth := k10m2) (c := k10c2) (by decide +kernel) rfl rfl rfl (by decide +kernel)
set_option maxRecDepth 65536 in
theorem w_c4 : (Jvm.Cond.code ({ cls := "java/lang/String", name := "<init>", desc := "([BB)V" } : Jvm.MethodName) jdk_42_method_151_code (3 : Nat) (Option.none : Option Jvm.ClassFile.FieldType)).before args0 about1 = true := code_word (m := ⟨9, 2⟩) (meth := k9m2) (c := k9c2) (by decide +kernel) rfl rfl rfl (by decide +kernel)
set_option maxRecDepth 65536 in
theorem w_c5 : (Jvm.Cond.code ({ cls := "java/lang/Object", name := "<init>", desc := "()V" } : Jvm.MethodName) object_method_1_code (1 : Nat) (Option.none : Option Jvm.ClassFile.FieldType)).before args0 about1 = true := code_word (m := ⟨0, 0⟩) (meth := k0m0) (c := k0c0) (by decide +kernel) rfl rfl rfl (by decide +kernel)
set_option maxRecDepth 65536 in
theorem w_c6 : (Jvm.Cond.code ({ cls := "com/example/outremer_engine/outremerengine/board/Unit", name := "<init>", desc := "(Ljava/lang/String;Lcom/example/outremer_engine/outremerengine/board/UnitType;Lcom/example/outremer_engine/outremerengine/board/Place;)V" } : Jvm.MethodName) prog_8_method_1_code (4 : Nat) (Option.none : Option Jvm.ClassFile.FieldType)).before args0 about1 = true := code_word (m := ⟨3, 0⟩) (meth := k3m0) (c := k3c0) (by decide +kernel) rfl rfl rfl (by decide +kernel)
set_option maxRecDepth 65536 in
theorem w_c7 : (Jvm.Cond.code ({ cls := "java/lang/Record", name := "<init>", desc := "()V" } : Jvm.MethodName) jdk_30_method_1_code (1 : Nat) (Option.none : Option Jvm.ClassFile.FieldType)).before args0 about1 = true := code_word (m := ⟨2, 0⟩) (meth := k2m0) (c := k2c0) (by decide +kernel) rfl rfl rfl (by decide +kernel)
set_option maxRecDepth 65536 in
theorem w_c8 : (Jvm.Cond.code ({ cls := "com/example/outremer_engine/outremerengine/board/Place", name := "<init>", desc := "(Lcom/example/outremer_engine/outremerengine/board/Province;Ljava/lang/String;)V" } : Jvm.MethodName) prog_5_method_2_code (3 : Nat) (Option.none : Option Jvm.ClassFile.FieldType)).before args0 about1 = true := code_word (m := ⟨11, 0⟩) (meth := k11m0) (c := k11c0) (by decide +kernel) rfl rfl rfl (by decide +kernel)
set_option maxRecDepth 65536 in
theorem w_c9 : (Jvm.Cond.code ({ cls := "com/example/outremer_engine/outremerengine/diplomacy/Order$Convoy", name := "<init>", desc := "(Lcom/example/outremer_engine/outremerengine/board/Unit;Lcom/example/outremer_engine/outremerengine/board/UnitType;Lcom/example/outremer_engine/outremerengine/board/Place;Lcom/example/outremer_engine/outremerengine/board/Place;)V" } : Jvm.MethodName) prog_76_method_1_code (5 : Nat) (Option.none : Option Jvm.ClassFile.FieldType)).before args0 about1 = true := code_word (m := ⟨14, 0⟩) (meth := k14m0) (c := k14c0) (by decide +kernel) rfl rfl rfl (by decide +kernel)
set_option maxRecDepth 65536 in
theorem w_c10 : (Jvm.Cond.code ({ cls := "com/example/outremer_engine/outremerengine/diplomacy/Order$Convoy", name := "givenTo", desc := "(Lcom/example/outremer_engine/outremerengine/board/Unit;)Lcom/example/outremer_engine/outremerengine/diplomacy/Order$Convoy;" } : Jvm.MethodName) prog_76_method_2_code (2 : Nat) (Option.some (Jvm.ClassFile.FieldType.object "com/example/outremer_engine/outremerengine/diplomacy/Order$Convoy"))).before args0 about1 = true := code_word (m := ⟨14, 1⟩) (meth := k14m1) (c := k14c1) (by decide +kernel) rfl rfl rfl (by decide +kernel)
set_option maxRecDepth 65536 in
theorem w_c11 : (Jvm.Cond.code ({ cls := "com/example/outremer_engine/outremerengine/diplomacy/Order$Convoy", name := "unit", desc := "()Lcom/example/outremer_engine/outremerengine/board/Unit;" } : Jvm.MethodName) prog_76_method_6_code (1 : Nat) (Option.some (Jvm.ClassFile.FieldType.object "com/example/outremer_engine/outremerengine/board/Unit"))).before args0 about1 = true := code_word (m := ⟨14, 2⟩) (meth := k14m2) (c := k14c2) (by decide +kernel) rfl rfl rfl (by decide +kernel)
set_option maxRecDepth 65536 in
theorem w_c12 : (Jvm.Cond.code ({ cls := "com/example/outremer_engine/outremerengine/diplomacy/Order$Convoy", name := "convoyedType", desc := "()Lcom/example/outremer_engine/outremerengine/board/UnitType;" } : Jvm.MethodName) prog_76_method_7_code (1 : Nat) (Option.some (Jvm.ClassFile.FieldType.object "com/example/outremer_engine/outremerengine/board/UnitType"))).before args0 about1 = true := code_word (m := ⟨14, 3⟩) (meth := k14m3) (c := k14c3) (by decide +kernel) rfl rfl rfl (by decide +kernel)
set_option maxRecDepth 65536 in
theorem w_c13 : (Jvm.Cond.code ({ cls := "com/example/outremer_engine/outremerengine/diplomacy/Order$Convoy", name := "from", desc := "()Lcom/example/outremer_engine/outremerengine/board/Place;" } : Jvm.MethodName) prog_76_method_8_code (1 : Nat) (Option.some (Jvm.ClassFile.FieldType.object "com/example/outremer_engine/outremerengine/board/Place"))).before args0 about1 = true := code_word (m := ⟨14, 4⟩) (meth := k14m4) (c := k14c4) (by decide +kernel) rfl rfl rfl (by decide +kernel)
set_option maxRecDepth 65536 in
theorem w_c14 : (Jvm.Cond.code ({ cls := "com/example/outremer_engine/outremerengine/diplomacy/Order$Convoy", name := "to", desc := "()Lcom/example/outremer_engine/outremerengine/board/Place;" } : Jvm.MethodName) prog_76_method_9_code (1 : Nat) (Option.some (Jvm.ClassFile.FieldType.object "com/example/outremer_engine/outremerengine/board/Place"))).before args0 about1 = true := code_word (m := ⟨14, 5⟩) (meth := k14m5) (c := k14c5) (by decide +kernel) rfl rfl rfl (by decide +kernel)
def codes1 : List Jvm.Cond := [Jvm.Cond.code x code maxLocals ret, Jvm.Cond.code ({ cls := "java/lang/String", name := "valueOf", desc := "(C)Ljava/lang/String;" } : Jvm.MethodName) jdk_42_method_139_code (1 : Nat) (Option.some (Jvm.ClassFile.FieldType.object "java/lang/String")), Jvm.Cond.code ({ cls := "java/lang/StringLatin1", name := "canEncode", desc := "(C)Z" } : Jvm.MethodName) jdk_43_method_3_code (1 : Nat) (Option.some Jvm.ClassFile.FieldType.boolean), Jvm.Cond.code ({ cls := "java/lang/StringLatin1", name := "toBytes", desc := "(C)[B" } : Jvm.MethodName) jdk_43_method_46_code (1 : Nat) (Option.some (Jvm.ClassFile.FieldType.array Jvm.ClassFile.FieldType.byte)), Jvm.Cond.code ({ cls := "java/lang/String", name := "<init>", desc := "([BB)V" } : Jvm.MethodName) jdk_42_method_151_code (3 : Nat) (Option.none : Option Jvm.ClassFile.FieldType), Jvm.Cond.code ({ cls := "java/lang/Object", name := "<init>", desc := "()V" } : Jvm.MethodName) object_method_1_code (1 : Nat) (Option.none : Option Jvm.ClassFile.FieldType), Jvm.Cond.code ({ cls := "com/example/outremer_engine/outremerengine/board/Unit", name := "<init>", desc := "(Ljava/lang/String;Lcom/example/outremer_engine/outremerengine/board/UnitType;Lcom/example/outremer_engine/outremerengine/board/Place;)V" } : Jvm.MethodName) prog_8_method_1_code (4 : Nat) (Option.none : Option Jvm.ClassFile.FieldType), Jvm.Cond.code ({ cls := "java/lang/Record", name := "<init>", desc := "()V" } : Jvm.MethodName) jdk_30_method_1_code (1 : Nat) (Option.none : Option Jvm.ClassFile.FieldType), Jvm.Cond.code ({ cls := "com/example/outremer_engine/outremerengine/board/Place", name := "<init>", desc := "(Lcom/example/outremer_engine/outremerengine/board/Province;Ljava/lang/String;)V" } : Jvm.MethodName) prog_5_method_2_code (3 : Nat) (Option.none : Option Jvm.ClassFile.FieldType), Jvm.Cond.code ({ cls := "com/example/outremer_engine/outremerengine/diplomacy/Order$Convoy", name := "<init>", desc := "(Lcom/example/outremer_engine/outremerengine/board/Unit;Lcom/example/outremer_engine/outremerengine/board/UnitType;Lcom/example/outremer_engine/outremerengine/board/Place;Lcom/example/outremer_engine/outremerengine/board/Place;)V" } : Jvm.MethodName) prog_76_method_1_code (5 : Nat) (Option.none : Option Jvm.ClassFile.FieldType), Jvm.Cond.code ({ cls := "com/example/outremer_engine/outremerengine/diplomacy/Order$Convoy", name := "givenTo", desc := "(Lcom/example/outremer_engine/outremerengine/board/Unit;)Lcom/example/outremer_engine/outremerengine/diplomacy/Order$Convoy;" } : Jvm.MethodName) prog_76_method_2_code (2 : Nat) (Option.some (Jvm.ClassFile.FieldType.object "com/example/outremer_engine/outremerengine/diplomacy/Order$Convoy")), Jvm.Cond.code ({ cls := "com/example/outremer_engine/outremerengine/diplomacy/Order$Convoy", name := "unit", desc := "()Lcom/example/outremer_engine/outremerengine/board/Unit;" } : Jvm.MethodName) prog_76_method_6_code (1 : Nat) (Option.some (Jvm.ClassFile.FieldType.object "com/example/outremer_engine/outremerengine/board/Unit")), Jvm.Cond.code ({ cls := "com/example/outremer_engine/outremerengine/diplomacy/Order$Convoy", name := "convoyedType", desc := "()Lcom/example/outremer_engine/outremerengine/board/UnitType;" } : Jvm.MethodName) prog_76_method_7_code (1 : Nat) (Option.some (Jvm.ClassFile.FieldType.object "com/example/outremer_engine/outremerengine/board/UnitType")), Jvm.Cond.code ({ cls := "com/example/outremer_engine/outremerengine/diplomacy/Order$Convoy", name := "from", desc := "()Lcom/example/outremer_engine/outremerengine/board/Place;" } : Jvm.MethodName) prog_76_method_8_code (1 : Nat) (Option.some (Jvm.ClassFile.FieldType.object "com/example/outremer_engine/outremerengine/board/Place")), Jvm.Cond.code ({ cls := "com/example/outremer_engine/outremerengine/diplomacy/Order$Convoy", name := "to", desc := "()Lcom/example/outremer_engine/outremerengine/board/Place;" } : Jvm.MethodName) prog_76_method_9_code (1 : Nat) (Option.some (Jvm.ClassFile.FieldType.object "com/example/outremer_engine/outremerengine/board/Place"))]
set_option maxRecDepth 65536 in
theorem codes_eq : words1.filter isCode = codes1 := rfl
theorem w_codes : ∀ c ∈ words1.filter isCode, c.before args0 about1 = true := by
  rw [codes_eq]
  intro c hc
  simp only [codes1, List.mem_cons, List.not_mem_nil, or_false] at hc
  rcases hc with rfl | rfl | rfl | rfl | rfl | rfl | rfl | rfl | rfl | rfl | rfl | rfl | rfl | rfl | rfl
  · exact w_c0
  · exact w_c1
  · exact w_c2
  · exact w_c3
  · exact w_c4
  · exact w_c5
  · exact w_c6
  · exact w_c7
  · exact w_c8
  · exact w_c9
  · exact w_c10
  · exact w_c11
  · exact w_c12
  · exact w_c13
  · exact w_c14
set_option maxRecDepth 65536 in
theorem w_t1 : (words1.take 24).all (fun c => isCode c || c.before args0 about1) = true := by decide +kernel
set_option maxRecDepth 65536 in
theorem w_t2 : ((words1.drop 24).take 24).all (fun c => isCode c || c.before args0 about1) = true := by decide +kernel
set_option maxRecDepth 65536 in
theorem w_t3 : (((words1.drop 24).drop 24).take 24).all (fun c => isCode c || c.before args0 about1) = true := by decide +kernel
set_option maxRecDepth 65536 in
theorem w_t4 : ((((words1.drop 24).drop 24).drop 24).take 24).all (fun c => isCode c || c.before args0 about1) = true := by decide +kernel
set_option maxRecDepth 65536 in
theorem w_t5 : ((((words1.drop 24).drop 24).drop 24).drop 24).all (fun c => isCode c || c.before args0 about1) = true := by decide +kernel
theorem w_tables : (allAtoms (Jvm.Cond.code x code maxLocals ret :: tables_1)).before args0 about1 = true := by
  rw [allAtoms_all]
  show words1.all (fun c => c.before args0 about1) = true
  refine all_split ?_ w_codes
  rw [← List.take_append_drop 24 words1, List.all_append, w_t1, ← List.take_append_drop 24 (words1.drop 24), List.all_append, w_t2, ← List.take_append_drop 24 ((words1.drop 24).drop 24), List.all_append, w_t3, ← List.take_append_drop 24 (((words1.drop 24).drop 24).drop 24), List.all_append, w_t4, w_t5]
  rfl
set_option maxRecDepth 65536 in
theorem w_rest : rest_1_c.before args0 about1 = true := by decide +kernel
set_option maxRecDepth 65536 in
theorem w_case : (Jvm.Cond.and given_1 narrow_1).before args0 about1 = true := by decide +kernel
theorem w_applies : (headSpec (Jvm.Cond.code x code maxLocals ret :: tables_1) room_1).applies x e0.platform about1 = true :=
  (Spec.applies_iff w_frames).mpr ⟨w_running, w_runnable, w_alone, w_named, w_hears, w_ripe, w_room, w_tables⟩
theorem atStart : AtStart classFile x code maxLocals ret World_1 tables_1 room_1 Calls_1 rest_1 Pre_1 launch0 p0 e0 about1 theMethod args0 below0 :=
  ⟨lists_1, trivial, launch0.admits_env _ _ _, launch0.least_env, fairChoices_fair.cas, fairChoices_fair.clock, w_frames, w_args, w_heap, w_applies, trivial, w_rest, w_case⟩
end start1
theorem witness_1 : WitnessClaimed_1 := ⟨start1.p0, start1.e0, start1.about1, start1.theMethod, start1.args0, start1.below0, start1.atStart⟩
end Jvm.Pilot.@@N@@
