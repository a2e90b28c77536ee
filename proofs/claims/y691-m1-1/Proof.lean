import JvmDerived
import JvmDerived.Pilot.@@N@@Statement
import JvmDerived.Pilot.@@N@@Code
set_option linter.unusedVariables false
set_option linter.unusedSimpArgs false
namespace Jvm.RoadKit
open Sem ClassFile Op Lib Jvm.Stand Jvm.Free Jvm.LawKit
section New
variable {p : Program} {l : Launch} {e : Env} {R : Room} {s : State} {m : MethodId} {args : Array Value} {below : List Frame} {meth : Method} {c : Code} {T : State} {locs : List Loc} {cells slots : Nat}
theorem retI (X : Stand p l e R s m args below meth c T locs cells slots) (hx : p.tables.exec = Jvm.exec) {pc : Nat} {Ls : Array Slot} {z : Int32} {rest : List Value} (hret : meth.sig.returnType = some .int) (hd : decode c.code pc = .ok (.ireturn, 1)) {fs : List Frame}
    (hl : ∀ (f : JFrame) (acts : List Action), f.method = m → f.locked = none → f.entered = [] → (doReturn e (T.setTop f) acts (some (.int z))).1 = T.setFrames fs) : Steps p.tables e below (T.setTop (mkF m pc Ls (.int z :: rest))) (T.setFrames fs) := by
  have hm' : T.vm.method? m = some meth := X.method'
  have hn : narrow .int (.int z) = .int z := rfl
  show Steps p.tables e below (T.setTop { method := m, pc := pc, locals := Ls, stack := _ :: rest, locked := none }) _
  jvm_step X.here [X.here.top, hx, hd, hm', hret, hn]
  first | (intro acts; rw [hl _ acts rfl rfl rfl]) | rw [hl _ _ rfl rfl rfl]
  exact Steps.refl _
theorem retJ (X : Stand p l e R s m args below meth c T locs cells slots) (hx : p.tables.exec = Jvm.exec) {pc : Nat} {Ls : Array Slot} {z : Int64} {rest : List Value} (hret : meth.sig.returnType = some .long) (hd : decode c.code pc = .ok (.lreturn, 1)) {fs : List Frame}
    (hl : ∀ (f : JFrame) (acts : List Action), f.method = m → f.locked = none → f.entered = [] → (doReturn e (T.setTop f) acts (some (.long z))).1 = T.setFrames fs) : Steps p.tables e below (T.setTop (mkF m pc Ls (.long z :: rest))) (T.setFrames fs) := by
  have hm' : T.vm.method? m = some meth := X.method'
  have hn : narrow .long (.long z) = .long z := rfl
  show Steps p.tables e below (T.setTop { method := m, pc := pc, locals := Ls, stack := _ :: rest, locked := none }) _
  jvm_step X.here [X.here.top, hx, hd, hm', hret, hn]
  first | (intro acts; rw [hl _ acts rfl rfl rfl]) | rw [hl _ _ rfl rfl rfl]
  exact Steps.refl _
theorem retD (X : Stand p l e R s m args below meth c T locs cells slots) (hx : p.tables.exec = Jvm.exec) {pc : Nat} {Ls : Array Slot} {z : UInt64} {rest : List Value} (hret : meth.sig.returnType = some .double) (hd : decode c.code pc = .ok (.dreturn, 1)) {fs : List Frame}
    (hl : ∀ (f : JFrame) (acts : List Action), f.method = m → f.locked = none → f.entered = [] → (doReturn e (T.setTop f) acts (some (.double z))).1 = T.setFrames fs) : Steps p.tables e below (T.setTop (mkF m pc Ls (.double z :: rest))) (T.setFrames fs) := by
  have hm' : T.vm.method? m = some meth := X.method'
  have hn : narrow .double (.double z) = .double z := rfl
  show Steps p.tables e below (T.setTop { method := m, pc := pc, locals := Ls, stack := _ :: rest, locked := none }) _
  jvm_step X.here [X.here.top, hx, hd, hm', hret, hn]
  first | (intro acts; rw [hl _ acts rfl rfl rfl]) | rw [hl _ _ rfl rfl rfl]
  exact Steps.refl _
end New
end Jvm.RoadKit
@@BLOCK:NumsL.lean.txt@@
namespace Jvm.Pilot.@@N@@
open Jvm Jvm.ClassFile Sem Op Lib Jvm.Free Jvm.Stand Jvm.LawKit Jvm.RoadKit Bundle Jvm.Pilot.@@N@@.Jvm.D
theorem own_fcast {Z : State} {h : Heap} {a : Addr} {C n d : String} {v w : Int32} (e : v = w) (F : Fld Z h a C n d (.int v)) : Fld Z h a C n d (.int w) := e ▸ F
theorem own_a0 {e p : Int32} (h : (0 : Int32) = p) : e = e + p := by rw [← h]; exact (Int32.add_zero e).symm
theorem own_a1 {e p : Int32} (h : (1 : Int32) = p) : e + (1 : Int32) = e + p := by rw [← h]
theorem own_a2 {e p : Int32} (h : (2 : Int32) = p) : (e + (1 : Int32)) + (1 : Int32) = e + p := by rw [← h, Int32.add_assoc]; rfl
theorem own_a3 {e p : Int32} (h : (3 : Int32) = p) : ((e + (1 : Int32)) + (1 : Int32)) + (1 : Int32) = e + p := by rw [← h, Int32.add_assoc, Int32.add_assoc]; rfl
def own_in (k : Int) (e : Int32) : Prop := 0 ≤ e.toInt ∧ e.toInt < k
theorem own_in_lt {k : Int} {e n : Int32} (h : own_in k e) (q : k ≤ n.toInt) : ¬ e < (0 : Int32) ∧ e < n := by
  have e0 : (0 : Int32).toInt = 0 := by decide
  rw [Int32.lt_iff_toInt_lt, Int32.lt_iff_toInt_lt, e0]; obtain ⟨h1, h2⟩ := h; omega
theorem own_in_ne {k : Int} {e n : Int32} (h : own_in k e) (q : k ≤ n.toInt) : ¬ e = n := fun g => by rw [← g] at q; obtain ⟨h1, h2⟩ := h; omega
theorem own_in_add {k j : Int} {e n : Int32} (h : own_in k e) (q : own_in j n) (b : k + j ≤ 1000) : own_in (k + j - 1) (e + n) := by
  obtain ⟨h1, h2⟩ := h
  obtain ⟨q1, q2⟩ := q
  have := Jvm.Kit.i32_add (p := e) (q := n) (by omega) (by omega)
  constructor <;> rw [this] <;> omega
theorem own_in_mono {k j : Int} {e : Int32} (h : own_in k e) (q : k ≤ j) : own_in j e := ⟨h.1, Int.lt_of_lt_of_le h.2 q⟩
theorem own_in_1 : own_in 2 (1 : Int32) := by constructor <;> decide
theorem own_in_0 : own_in 1 (0 : Int32) := by constructor <;> decide
theorem own_nat {k : Int} {e : Int32} (h : own_in k e) : e.toNatClampNeg < k.toNat := by
  have e0 : (0 : Int32).toInt = 0 := by decide
  have h0 : ¬ e < (0 : Int32) := by rw [Int32.lt_iff_toInt_lt, e0]; have := h.1; omega
  have := nat_of h0
  obtain ⟨h1, h2⟩ := h
  omega
theorem own_m4 (x : Int32) : own_in 4 (x &&& (3 : Int32)) := by
  have m := Jvm.Kit.i32_mask x 3 (k := 2) (by decide) (by decide)
  constructor <;> rw [m] <;> omega
theorem own_four {x : Int32} (h : own_in 4 x) : x = (0 : Int32) ∨ x = (1 : Int32) ∨ x = (2 : Int32) ∨ x = (3 : Int32) := by
  obtain ⟨h1, h2⟩ := h
  have e0 : (0 : Int32).toInt = 0 := by decide
  have e1 : (1 : Int32).toInt = 1 := by decide
  have e2 : (2 : Int32).toInt = 2 := by decide
  have e3 : (3 : Int32).toInt = 3 := by decide
  simp only [← Int32.toInt_inj, e0, e1, e2, e3]; omega
theorem pn_com_example_thesaurus_rerank_thesaurusrerank_space_SparseDistances_Builder : plainName "com/example/thesaurus_rerank/thesaurusrerank/space/SparseDistances$Builder" = true := by first | (simp [plainName, overriddenIn]; done) | decide +kernel
theorem d1_0 : decode prog_24_method_1_code 0 = .ok (.aload_n 0, 1) := by decide +kernel
theorem d1_1 : decode prog_24_method_1_code 1 = .ok (.invokespecial 1, 3) := by decide +kernel
theorem d1_4 : decode prog_24_method_1_code 4 = .ok (.aload_n 0, 1) := by decide +kernel
theorem d1_5 : decode prog_24_method_1_code 5 = .ok (.bipush 16, 2) := by decide +kernel
theorem d1_7 : decode prog_24_method_1_code 7 = .ok (.newarray .int, 2) := by decide +kernel
theorem d1_9 : decode prog_24_method_1_code 9 = .ok (.putfield 7, 3) := by decide +kernel
theorem d1_12 : decode prog_24_method_1_code 12 = .ok (.aload_n 0, 1) := by decide +kernel
theorem d1_13 : decode prog_24_method_1_code 13 = .ok (.bipush 16, 2) := by decide +kernel
theorem d1_15 : decode prog_24_method_1_code 15 = .ok (.newarray .double, 2) := by decide +kernel
theorem d1_17 : decode prog_24_method_1_code 17 = .ok (.putfield 13, 3) := by decide +kernel
theorem d1_20 : decode prog_24_method_1_code 20 = .ok (.aload_n 0, 1) := by decide +kernel
theorem d1_21 : decode prog_24_method_1_code 21 = .ok (.iload_n 1, 1) := by decide +kernel
theorem d1_22 : decode prog_24_method_1_code 22 = .ok (.iconst 1, 1) := by decide +kernel
theorem d1_23 : decode prog_24_method_1_code 23 = .ok (.iadd, 1) := by decide +kernel
theorem d1_24 : decode prog_24_method_1_code 24 = .ok (.newarray .int, 2) := by decide +kernel
theorem d1_26 : decode prog_24_method_1_code 26 = .ok (.putfield 17, 3) := by decide +kernel
theorem d1_29 : decode prog_24_method_1_code 29 = .ok (.return_, 1) := by decide +kernel
theorem ef_1 (m : MethodId) (x0 : Addr) : entryFrame m #[(.ref x0), (.int (3 : Int32))] 2 = mkF m 0 #[.val (.ref x0), .val (.int (3 : Int32))] [] := by first | (simp [entryFrame, mkF, argsToLocals, Value.category]; done) | rfl
def Q1 (Z : State) (aa0 : Addr) (u1 : Value) (u2 : Value) (u3 : Value) (h0 : Heap) (n0 : Nat) (v : Option Value) (h : Heap) (L : List Loc) : Prop := ∃ (b1 : Addr), ∃ (b2 : Addr), ∃ (b3 : Addr), ∃ (k1 : ClassId), ∃ (k2 : ClassId), ∃ (k3 : ClassId), ∃ (v1 : List Value), ∃ (v2 : List Value), v = none ∧ Fr n0 L ∧ Keep h0 h [aa0] ∧ n0 ≤ b1 ∧ h0.size ≤ b1 ∧ n0 ≤ b2 ∧ h0.size ≤ b2 ∧ n0 ≤ b3 ∧ h0.size ≤ b3 ∧ (Fld Z h aa0 "com/example/thesaurus_rerank/thesaurusrerank/space/SparseDistances$Builder" "columns" "[I" (.ref b1)) ∧ (Fld Z h aa0 "com/example/thesaurus_rerank/thesaurusrerank/space/SparseDistances$Builder" "distances" "[D" (.ref b2)) ∧ (Fld Z h aa0 "com/example/thesaurus_rerank/thesaurusrerank/space/SparseDistances$Builder" "rowStarts" "[I" (.ref b3)) ∧ (Fld Z h aa0 "com/example/thesaurus_rerank/thesaurusrerank/space/SparseDistances$Builder" "entries" "I" (.int (0 : Int32))) ∧ (Fld Z h aa0 "com/example/thesaurus_rerank/thesaurusrerank/space/SparseDistances$Builder" "rowsEnded" "I" (.int (0 : Int32))) ∧ (Arv Z h b1 k1 .int (16 : Int32) v1 (.int (0 : Int32))) ∧ (Arv Z h b2 k2 .double (16 : Int32) v2 (.double (0 : UInt64))) ∧ (Arv Z h b3 k3 .int (4 : Int32) [(.int (0 : Int32)), (.int (0 : Int32)), (.int (0 : Int32)), (.int (0 : Int32))] (.int (0 : Int32))) ∧ (b1 ≠ b2) ∧ (b1 ≠ b3) ∧ (b2 ≠ b3) ∧ (v1.length = 16) ∧ (v2.length = 16)
set_option maxRecDepth 65536 in
set_option maxHeartbeats 40000000 in
theorem rm1 (l : Launch) (Z : State) (a0 : Array Value) (hw : ∀ d ∈ tables_1, d.before a0 Z = true) (ws : List Jvm.Cond) (aa0 : Addr) (u1 : Value) (u2 : Value) (u3 : Value) (h0 : Heap) (n0 : Nat) (Z0 : n0 ≤ h0.size) (E_aa0 : Exa Z h0 aa0 "com/example/thesaurus_rerank/thesaurusrerank/space/SparseDistances$Builder") (g_aa0 : n0 ≤ aa0) (F_aa0_columns : Fld Z h0 aa0 "com/example/thesaurus_rerank/thesaurusrerank/space/SparseDistances$Builder" "columns" "[I" u1) (F_aa0_distances : Fld Z h0 aa0 "com/example/thesaurus_rerank/thesaurusrerank/space/SparseDistances$Builder" "distances" "[D" u2) (F_aa0_rowStarts : Fld Z h0 aa0 "com/example/thesaurus_rerank/thesaurusrerank/space/SparseDistances$Builder" "rowStarts" "[I" u3) (F_aa0_entries : Fld Z h0 aa0 "com/example/thesaurus_rerank/thesaurusrerank/space/SparseDistances$Builder" "entries" "I" (.int (0 : Int32))) (F_aa0_rowsEnded : Fld Z h0 aa0 "com/example/thesaurus_rerank/thesaurusrerank/space/SparseDistances$Builder" "rowsEnded" "I" (.int (0 : Int32))) :
    MetFree l (⟨"com/example/thesaurus_rerank/thesaurusrerank/space/SparseDistances$Builder", "<init>", "(I)V"⟩ : MethodName) (head1 (Jvm.Cond.code (⟨"com/example/thesaurus_rerank/thesaurusrerank/space/SparseDistances$Builder", "<init>", "(I)V"⟩ : MethodName) prog_24_method_1_code 2 none :: ws) ({ frames := 1, cells := 3, slots := 36, locals := 12 } : Room)) (fun a U => a = #[(.ref aa0), (.int (3 : Int32))] ∧ Z.Warmed39 U.vm ∧ U.heap = h0) (fun _ _ _ _ _ => True) (fun _ U o U' => ∃ v L, o = .returned v ∧ Q1 Z aa0 u1 u2 u3 h0 n0 v U'.heap L ∧ FrameEnd U o U' L ({ frames := 1, cells := 3, slots := 36, locals := 12 } : Room).cells ({ frames := 1, cells := 3, slots := 36, locals := 12 } : Room).slots) := by
  refine MetFree.of_bodySF (plainFor_of_name pn_com_example_thesaurus_rerank_thesaurusrerank_space_SparseDistances_Builder) hisR ?_
  intro p e s m args below meth c s₁ Bd hml0 hP hK
  obtain ⟨rfl, hZ, hh⟩ := hP
  have hx := Bd.exec
  have hby := Bd.bytes
  have hml : c.maxLocals = 2 := hml0
  have hown : s.vm.findClass "com/example/thesaurus_rerank/thesaurusrerank/space/SparseDistances$Builder" = some m.cls := findClass_of_methodNamed Bd.named
  have hnm := (name_of_methodNamed Bd.named Bd.method).1
  have X0 : Stand p l e ({ frames := 1, cells := 3, slots := 36, locals := 12 } : Room) s m #[(.ref aa0), (.int (3 : Int32))] below meth c s₁ [] 0 0 := Stand.of_body Bd
  have e0 : s₁.heap = h0 := by rw [← hh, Bd.state]; rfl
  have N0 := Fr.nil n0
  have pre0 : ∀ t, Steps p.tables e below (s₁.setTop (mkF m 0 #[.val (.ref aa0), .val (.int (3 : Int32))] [])) t → Steps p.tables e below (s₁.setTop (entryFrame m #[(.ref aa0), (.int (3 : Int32))] 2)) t := fun t k => castTop (ef_1 m aa0) k
  obtain ⟨T1, X1, e1, st1⟩ := initO X0 hx hZ hown (hw _ (List.mem_of_getElem? (i := 6) rfl)) (hw _ (List.mem_of_getElem? (i := 7) rfl)) (hw _ (List.mem_of_getElem? (i := 8) rfl)) e0 (g := (mkF m 1 #[.val (.ref aa0), .val (.int (3 : Int32))] [(.ref aa0)])) rfl (by rw [hml]; rfl) rfl (hb hby d1_1) (by decide) (W := 0) (by show 2 * 0 + _ ≤ _; exact Nat.le_of_eq rfl) (by decide)
  obtain ⟨T2, h2, k2, X2, e2, E2, A2, st2⟩ := newP X1 hx hZ (hw _ (List.mem_of_getElem? (i := 9) rfl)) e1 (g := (mkF m 7 #[.val (.ref aa0), .val (.int (3 : Int32))] [(.int (16 : Int32)), (.ref aa0)])) rfl (hb hby d1_7) rfl (by decide) (cap := 16) (by decide) (by decide) (by decide) (by decide)
  obtain ⟨b2, g2⟩ : ∃ z, z = h0.size := ⟨_, rfl⟩
  rw [← g2] at A2 st2
  have g_b2 : n0 ≤ b2 := Nat.le_trans Z0 (Nat.le_of_eq g2.symm)
  have sz_b2 : h0.size ≤ b2 := Nat.le_trans (Keep.refl h0 [aa0]).1 (Nat.le_of_eq g2.symm)
  have Z2 : n0 ≤ h2.size := Nat.le_trans Z0 E2.1
  have K2 : Keep h0 h2 [aa0] := (Keep.refl h0 [aa0]).ext E2
  have V2 : Arv Z h2 b2 k2 .int (16 : Int32) (List.replicate 16 (.int (0 : Int32))) (.int (0 : Int32)) := (Arv.new A2 (by decide)).pad (pad_rep [] (.int (0 : Int32)) 16)
  have E_3 : Exa Z h2 aa0 "com/example/thesaurus_rerank/thesaurusrerank/space/SparseDistances$Builder" := (E_aa0.ext E2)
  have F_4 : Fld Z h2 aa0 "com/example/thesaurus_rerank/thesaurusrerank/space/SparseDistances$Builder" "columns" "[I" u1 := (F_aa0_columns.ext E2)
  obtain ⟨T5, h5, X5, e5, W5, st5⟩ := putF X2 hx hZ hown (host := "") (Or.inl (hw _ (List.mem_of_getElem? (i := 10) rfl))) Via.refl e2 F_4 E_3 (Or.inl (hw _ (List.mem_of_getElem? (i := 11) rfl))) (hw _ (List.mem_of_getElem? (i := 1) rfl)) (ty := (.array .int)) (by decide) rfl rfl (g := (mkF m 9 #[.val (.ref aa0), .val (.int (3 : Int32))] [(.ref b2), (.ref aa0)])) rfl rfl (hb hby d1_9)
  have N5 := Fr.snoc X5 N0 g_aa0
  have Z5 : n0 ≤ h5.size := Nat.le_trans Z2 (Keep.of_wr W5).1
  have K5 : Keep h0 h5 [aa0] := K2.wr W5 (Or.inl (List.mem_of_getElem? (i := 0) rfl))
  have F5 : Fld Z h5 aa0 "com/example/thesaurus_rerank/thesaurusrerank/space/SparseDistances$Builder" "columns" "[I" (.ref b2) := F_4.same W5
  obtain ⟨T6, h6, k6, X6, e6, E6, A6, st6⟩ := newP X5 hx hZ (hw _ (List.mem_of_getElem? (i := 12) rfl)) e5 (g := (mkF m 15 #[.val (.ref aa0), .val (.int (3 : Int32))] [(.int (16 : Int32)), (.ref aa0)])) rfl (hb hby d1_15) rfl (by decide) (cap := 16) (by decide) (by decide) (by decide) (by decide)
  obtain ⟨b6, g6⟩ : ∃ z, z = h5.size := ⟨_, rfl⟩
  rw [← g6] at A6 st6
  have g_b6 : n0 ≤ b6 := Nat.le_trans Z5 (Nat.le_of_eq g6.symm)
  have sz_b6 : h0.size ≤ b6 := Nat.le_trans K5.1 (Nat.le_of_eq g6.symm)
  have Z6 : n0 ≤ h6.size := Nat.le_trans Z5 E6.1
  have K6 : Keep h0 h6 [aa0] := K5.ext E6
  have V6 : Arv Z h6 b6 k6 .double (16 : Int32) (List.replicate 16 (.double (0 : UInt64))) (.double (0 : UInt64)) := (Arv.new A6 (by decide)).pad (pad_rep [] (.double (0 : UInt64)) 16)
  have E_7 : Exa Z h6 aa0 "com/example/thesaurus_rerank/thesaurusrerank/space/SparseDistances$Builder" := ((E_3.wr W5).ext E6)
  have F_8 : Fld Z h6 aa0 "com/example/thesaurus_rerank/thesaurusrerank/space/SparseDistances$Builder" "distances" "[D" u2 := (((F_aa0_distances.ext E2).other W5 (Or.inr (slot_ne (Or.inl (hw _ (List.mem_of_getElem? (i := 14) rfl))) (Or.inl (hw _ (List.mem_of_getElem? (i := 11) rfl))) (by decide) (t := (.array .double)) (t' := (.array .int)) (by decide) (by decide)))).ext E6)
  obtain ⟨T9, h9, X9, e9, W9, st9⟩ := putF X6 hx hZ hown (host := "") (Or.inl (hw _ (List.mem_of_getElem? (i := 13) rfl))) Via.refl e6 F_8 E_7 (Or.inl (hw _ (List.mem_of_getElem? (i := 14) rfl))) (hw _ (List.mem_of_getElem? (i := 1) rfl)) (ty := (.array .double)) (by decide) rfl rfl (g := (mkF m 17 #[.val (.ref aa0), .val (.int (3 : Int32))] [(.ref b6), (.ref aa0)])) rfl rfl (hb hby d1_17)
  have N9 := Fr.snoc X9 N5 g_aa0
  have Z9 : n0 ≤ h9.size := Nat.le_trans Z6 (Keep.of_wr W9).1
  have K9 : Keep h0 h9 [aa0] := K6.wr W9 (Or.inl (List.mem_of_getElem? (i := 0) rfl))
  have F9 : Fld Z h9 aa0 "com/example/thesaurus_rerank/thesaurusrerank/space/SparseDistances$Builder" "distances" "[D" (.ref b6) := F_8.same W9
  obtain ⟨T10, h10, k10, X10, e10, E10, A10, st10⟩ := newP X9 hx hZ (hw _ (List.mem_of_getElem? (i := 9) rfl)) e9 (g := (mkF m 24 #[.val (.ref aa0), .val (.int (3 : Int32))] [(.int (4 : Int32)), (.ref aa0)])) rfl (hb hby d1_24) rfl (by decide) (cap := 4) (by decide) (by decide) (by decide) (by decide)
  obtain ⟨b10, g10⟩ : ∃ z, z = h9.size := ⟨_, rfl⟩
  rw [← g10] at A10 st10
  have g_b10 : n0 ≤ b10 := Nat.le_trans Z9 (Nat.le_of_eq g10.symm)
  have sz_b10 : h0.size ≤ b10 := Nat.le_trans K9.1 (Nat.le_of_eq g10.symm)
  have Z10 : n0 ≤ h10.size := Nat.le_trans Z9 E10.1
  have K10 : Keep h0 h10 [aa0] := K9.ext E10
  have V10 : Arv Z h10 b10 k10 .int (4 : Int32) [(.int (0 : Int32)), (.int (0 : Int32)), (.int (0 : Int32)), (.int (0 : Int32))] (.int (0 : Int32)) := (Arv.new A10 (by decide)).pad (pad_rep [] (.int (0 : Int32)) 4)
  have E_11 : Exa Z h10 aa0 "com/example/thesaurus_rerank/thesaurusrerank/space/SparseDistances$Builder" := ((E_7.wr W9).ext E10)
  have F_12 : Fld Z h10 aa0 "com/example/thesaurus_rerank/thesaurusrerank/space/SparseDistances$Builder" "rowStarts" "[I" u3 := (((((F_aa0_rowStarts.ext E2).other W5 (Or.inr (slot_ne (Or.inr (hw _ (List.mem_of_getElem? (i := 16) rfl))) (Or.inl (hw _ (List.mem_of_getElem? (i := 11) rfl))) (by decide) (t := (.array .int)) (t' := (.array .int)) (by decide) (by decide)))).ext E6).other W9 (Or.inr (slot_ne (Or.inr (hw _ (List.mem_of_getElem? (i := 16) rfl))) (Or.inl (hw _ (List.mem_of_getElem? (i := 14) rfl))) (by decide) (t := (.array .int)) (t' := (.array .double)) (by decide) (by decide)))).ext E10)
  obtain ⟨T13, h13, X13, e13, W13, st13⟩ := putF X10 hx hZ hown (host := "") (Or.inl (hw _ (List.mem_of_getElem? (i := 15) rfl))) Via.refl e10 F_12 E_11 (Or.inr ⟨(hw _ (List.mem_of_getElem? (i := 16) rfl)), rfl, hnm⟩) (hw _ (List.mem_of_getElem? (i := 1) rfl)) (ty := (.array .int)) (by decide) rfl rfl (g := (mkF m 26 #[.val (.ref aa0), .val (.int (3 : Int32))] [(.ref b10), (.ref aa0)])) rfl rfl (hb hby d1_26)
  have N13 := Fr.snoc X13 N9 g_aa0
  have Z13 : n0 ≤ h13.size := Nat.le_trans Z10 (Keep.of_wr W13).1
  have K13 : Keep h0 h13 [aa0] := K10.wr W13 (Or.inl (List.mem_of_getElem? (i := 0) rfl))
  have F13 : Fld Z h13 aa0 "com/example/thesaurus_rerank/thesaurusrerank/space/SparseDistances$Builder" "rowStarts" "[I" (.ref b10) := F_12.same W13
  have F_14 : Fld Z h13 aa0 "com/example/thesaurus_rerank/thesaurusrerank/space/SparseDistances$Builder" "columns" "[I" (.ref b2) := ((((F5.ext E6).other W9 (Or.inr (slot_ne (Or.inl (hw _ (List.mem_of_getElem? (i := 11) rfl))) (Or.inl (hw _ (List.mem_of_getElem? (i := 14) rfl))) (by decide) (t := (.array .int)) (t' := (.array .double)) (by decide) (by decide)))).ext E10).other W13 (Or.inr (slot_ne (Or.inl (hw _ (List.mem_of_getElem? (i := 11) rfl))) (Or.inr (hw _ (List.mem_of_getElem? (i := 16) rfl))) (by decide) (t := (.array .int)) (t' := (.array .int)) (by decide) (by decide))))
  have F_15 : Fld Z h13 aa0 "com/example/thesaurus_rerank/thesaurusrerank/space/SparseDistances$Builder" "distances" "[D" (.ref b6) := ((F9.ext E10).other W13 (Or.inr (slot_ne (Or.inl (hw _ (List.mem_of_getElem? (i := 14) rfl))) (Or.inr (hw _ (List.mem_of_getElem? (i := 16) rfl))) (by decide) (t := (.array .double)) (t' := (.array .int)) (by decide) (by decide))))
  have F_16 : Fld Z h13 aa0 "com/example/thesaurus_rerank/thesaurusrerank/space/SparseDistances$Builder" "entries" "I" (.int (0 : Int32)) := ((((((F_aa0_entries.ext E2).other W5 (Or.inr (slot_ne (Or.inl (hw _ (List.mem_of_getElem? (i := 29) rfl))) (Or.inl (hw _ (List.mem_of_getElem? (i := 11) rfl))) (by decide) (t := .int) (t' := (.array .int)) (by decide) (by decide)))).ext E6).other W9 (Or.inr (slot_ne (Or.inl (hw _ (List.mem_of_getElem? (i := 29) rfl))) (Or.inl (hw _ (List.mem_of_getElem? (i := 14) rfl))) (by decide) (t := .int) (t' := (.array .double)) (by decide) (by decide)))).ext E10).other W13 (Or.inr (slot_ne (Or.inl (hw _ (List.mem_of_getElem? (i := 29) rfl))) (Or.inr (hw _ (List.mem_of_getElem? (i := 16) rfl))) (by decide) (t := .int) (t' := (.array .int)) (by decide) (by decide))))
  have F_17 : Fld Z h13 aa0 "com/example/thesaurus_rerank/thesaurusrerank/space/SparseDistances$Builder" "rowsEnded" "I" (.int (0 : Int32)) := ((((((F_aa0_rowsEnded.ext E2).other W5 (Or.inr (slot_ne (Or.inl (hw _ (List.mem_of_getElem? (i := 27) rfl))) (Or.inl (hw _ (List.mem_of_getElem? (i := 11) rfl))) (by decide) (t := .int) (t' := (.array .int)) (by decide) (by decide)))).ext E6).other W9 (Or.inr (slot_ne (Or.inl (hw _ (List.mem_of_getElem? (i := 27) rfl))) (Or.inl (hw _ (List.mem_of_getElem? (i := 14) rfl))) (by decide) (t := .int) (t' := (.array .double)) (by decide) (by decide)))).ext E10).other W13 (Or.inr (slot_ne (Or.inl (hw _ (List.mem_of_getElem? (i := 27) rfl))) (Or.inr (hw _ (List.mem_of_getElem? (i := 16) rfl))) (by decide) (t := .int) (t' := (.array .int)) (by decide) (by decide))))
  have V_18 : Arv Z h13 b2 k2 .int (16 : Int32) (List.replicate 16 (.int (0 : Int32))) (.int (0 : Int32)) := (((((V2.other W5 (Ne.symm (Nat.ne_of_lt (Nat.lt_of_lt_of_le E_aa0.lt (Nat.le_of_eq g2.symm))))).ext E6).other W9 (Ne.symm (Nat.ne_of_lt (Nat.lt_of_lt_of_le E_aa0.lt (Nat.le_of_eq g2.symm))))).ext E10).other W13 (Ne.symm (Nat.ne_of_lt (Nat.lt_of_lt_of_le E_aa0.lt (Nat.le_of_eq g2.symm)))))
  have V_19 : Arv Z h13 b6 k6 .double (16 : Int32) (List.replicate 16 (.double (0 : UInt64))) (.double (0 : UInt64)) := (((V6.other W9 (Ne.symm (Nat.ne_of_lt (Nat.lt_of_lt_of_le (E_3.wr W5).lt (Nat.le_of_eq g6.symm))))).ext E10).other W13 (Ne.symm (Nat.ne_of_lt (Nat.lt_of_lt_of_le (E_3.wr W5).lt (Nat.le_of_eq g6.symm)))))
  have V_20 : Arv Z h13 b10 k10 .int (4 : Int32) [(.int (0 : Int32)), (.int (0 : Int32)), (.int (0 : Int32)), (.int (0 : Int32))] (.int (0 : Int32)) := (V10.other W13 (Ne.symm (Nat.ne_of_lt (Nat.lt_of_lt_of_le (E_7.wr W9).lt (Nat.le_of_eq g10.symm)))))
  obtain ⟨fs, hr, hrun, hended, hW, hsame⟩ := X13.leave (v := none) (fun _ => rfl)
  refine ⟨_, _, pre0 _ ?_, hrun, hended, _, _, rfl, ?_, ⟨_, rfl⟩, hW, hsame.mono (by decide) (by decide)⟩
  · show Steps p.tables e below (s₁.setTop (mkF m 0 #[.val (.ref aa0), .val (.int (3 : Int32))] [])) _
    refine XS.aloadN X0.here hx rfl (hb hby d1_0) rfl rfl ?_
    show Steps p.tables e below (s₁.setTop (mkF m 1 #[.val (.ref aa0), .val (.int (3 : Int32))] [(.ref aa0)])) _
    refine st1 _ ?_
    show Steps p.tables e below (T1.setTop (mkF m 4 #[.val (.ref aa0), .val (.int (3 : Int32))] [])) _
    refine XS.aloadN X1.here hx rfl (hb hby d1_4) rfl rfl ?_
    show Steps p.tables e below (T1.setTop (mkF m 5 #[.val (.ref aa0), .val (.int (3 : Int32))] [(.ref aa0)])) _
    refine XS.bipush X1.here hx rfl (hb hby d1_5) ?_
    show Steps p.tables e below (T1.setTop (mkF m 7 #[.val (.ref aa0), .val (.int (3 : Int32))] [(.int (16 : Int32)), (.ref aa0)])) _
    refine st2 _ ?_
    show Steps p.tables e below (T2.setTop (mkF m 9 #[.val (.ref aa0), .val (.int (3 : Int32))] [(.ref b2), (.ref aa0)])) _
    refine st5 _ ?_
    show Steps p.tables e below (T5.setTop (mkF m 12 #[.val (.ref aa0), .val (.int (3 : Int32))] [])) _
    refine XS.aloadN X5.here hx rfl (hb hby d1_12) rfl rfl ?_
    show Steps p.tables e below (T5.setTop (mkF m 13 #[.val (.ref aa0), .val (.int (3 : Int32))] [(.ref aa0)])) _
    refine XS.bipush X5.here hx rfl (hb hby d1_13) ?_
    show Steps p.tables e below (T5.setTop (mkF m 15 #[.val (.ref aa0), .val (.int (3 : Int32))] [(.int (16 : Int32)), (.ref aa0)])) _
    refine st6 _ ?_
    show Steps p.tables e below (T6.setTop (mkF m 17 #[.val (.ref aa0), .val (.int (3 : Int32))] [(.ref b6), (.ref aa0)])) _
    refine st9 _ ?_
    show Steps p.tables e below (T9.setTop (mkF m 20 #[.val (.ref aa0), .val (.int (3 : Int32))] [])) _
    refine XS.aloadN X9.here hx rfl (hb hby d1_20) rfl rfl ?_
    show Steps p.tables e below (T9.setTop (mkF m 21 #[.val (.ref aa0), .val (.int (3 : Int32))] [(.ref aa0)])) _
    refine XS.iloadN X9.here hx rfl (hb hby d1_21) rfl ?_
    show Steps p.tables e below (T9.setTop (mkF m 22 #[.val (.ref aa0), .val (.int (3 : Int32))] [(.int (3 : Int32)), (.ref aa0)])) _
    refine XS.iconst X9.here hx rfl (hb hby d1_22) ?_
    show Steps p.tables e below (T9.setTop (mkF m 23 #[.val (.ref aa0), .val (.int (3 : Int32))] [(.int (1 : Int32)), (.int (3 : Int32)), (.ref aa0)])) _
    refine XS.iadd X9.here hx rfl (hb hby d1_23) rfl ?_
    show Steps p.tables e below (T9.setTop (mkF m 24 #[.val (.ref aa0), .val (.int (3 : Int32))] [(.int (4 : Int32)), (.ref aa0)])) _
    refine st10 _ ?_
    show Steps p.tables e below (T10.setTop (mkF m 26 #[.val (.ref aa0), .val (.int (3 : Int32))] [(.ref b10), (.ref aa0)])) _
    refine st13 _ ?_
    show Steps p.tables e below (T13.setTop (mkF m 29 #[.val (.ref aa0), .val (.int (3 : Int32))] [])) _
    exact X13.returnOut hx Bd.returns (hb hby d1_29) hr
  · show Q1 Z aa0 u1 u2 u3 h0 n0 _ T13.heap _
    rw [e13]
    exact ⟨b2, b6, b10, k2, k6, k10, (List.replicate 16 (.int (0 : Int32))), (List.replicate 16 (.double (0 : UInt64))), rfl, N13, K13, g_b2, sz_b2, g_b6, sz_b6, g_b10, sz_b10, F_14, F_15, F13, F_16, F_17, V_18, V_19, V_20, (Nat.ne_of_lt (Nat.lt_of_lt_of_le (V2.other W5 (Ne.symm (Nat.ne_of_lt (Nat.lt_of_lt_of_le E_aa0.lt (Nat.le_of_eq g2.symm))))).lt (Nat.le_of_eq g6.symm))), (Nat.ne_of_lt (Nat.lt_of_lt_of_le (((V2.other W5 (Ne.symm (Nat.ne_of_lt (Nat.lt_of_lt_of_le E_aa0.lt (Nat.le_of_eq g2.symm))))).ext E6).other W9 (Ne.symm (Nat.ne_of_lt (Nat.lt_of_lt_of_le E_aa0.lt (Nat.le_of_eq g2.symm))))).lt (Nat.le_of_eq g10.symm))), (Nat.ne_of_lt (Nat.lt_of_lt_of_le (V6.other W9 (Ne.symm (Nat.ne_of_lt (Nat.lt_of_lt_of_le (E_3.wr W5).lt (Nat.le_of_eq g6.symm))))).lt (Nat.le_of_eq g10.symm))), List.length_replicate .., List.length_replicate ..⟩
theorem d5_0 : decode prog_24_method_2_code 0 = .ok (.aload_n 0, 1) := by decide +kernel
theorem d5_1 : decode prog_24_method_2_code 1 = .ok (.getfield 20, 3) := by decide +kernel
theorem d5_4 : decode prog_24_method_2_code 4 = .ok (.aload_n 0, 1) := by decide +kernel
theorem d5_5 : decode prog_24_method_2_code 5 = .ok (.getfield 7, 3) := by decide +kernel
theorem d5_8 : decode prog_24_method_2_code 8 = .ok (.arraylength, 1) := by decide +kernel
theorem d5_9 : decode prog_24_method_2_code 9 = .ok (.if_icmp .ne 37, 3) := by decide +kernel
theorem d5_46 : decode prog_24_method_2_code 46 = .ok (.aload_n 0, 1) := by decide +kernel
theorem d5_47 : decode prog_24_method_2_code 47 = .ok (.getfield 7, 3) := by decide +kernel
theorem d5_50 : decode prog_24_method_2_code 50 = .ok (.aload_n 0, 1) := by decide +kernel
theorem d5_51 : decode prog_24_method_2_code 51 = .ok (.getfield 20, 3) := by decide +kernel
theorem d5_54 : decode prog_24_method_2_code 54 = .ok (.iload_n 1, 1) := by decide +kernel
theorem d5_55 : decode prog_24_method_2_code 55 = .ok (.iastore, 1) := by decide +kernel
theorem d5_56 : decode prog_24_method_2_code 56 = .ok (.aload_n 0, 1) := by decide +kernel
theorem d5_57 : decode prog_24_method_2_code 57 = .ok (.getfield 13, 3) := by decide +kernel
theorem d5_60 : decode prog_24_method_2_code 60 = .ok (.aload_n 0, 1) := by decide +kernel
theorem d5_61 : decode prog_24_method_2_code 61 = .ok (.getfield 20, 3) := by decide +kernel
theorem d5_64 : decode prog_24_method_2_code 64 = .ok (.dload_n 2, 1) := by decide +kernel
theorem d5_65 : decode prog_24_method_2_code 65 = .ok (.dastore, 1) := by decide +kernel
theorem d5_66 : decode prog_24_method_2_code 66 = .ok (.aload_n 0, 1) := by decide +kernel
theorem d5_67 : decode prog_24_method_2_code 67 = .ok (.dup, 1) := by decide +kernel
theorem d5_68 : decode prog_24_method_2_code 68 = .ok (.getfield 20, 3) := by decide +kernel
theorem d5_71 : decode prog_24_method_2_code 71 = .ok (.iconst 1, 1) := by decide +kernel
theorem d5_72 : decode prog_24_method_2_code 72 = .ok (.iadd, 1) := by decide +kernel
theorem d5_73 : decode prog_24_method_2_code 73 = .ok (.putfield 20, 3) := by decide +kernel
theorem d5_76 : decode prog_24_method_2_code 76 = .ok (.return_, 1) := by decide +kernel
theorem ef_5 (m : MethodId) (x0 : Addr) (x1 : Int32) (x2 : UInt64) : entryFrame m #[(.ref x0), (.int x1), (.double x2)] 4 = mkF m 0 #[.val (.ref x0), .val (.int x1), .val (.double x2), .second] [] := by first | (simp [entryFrame, mkF, argsToLocals, Value.category]; done) | rfl
def Q5 (Z : State) (aa0 : Addr) (pp1 : Int32) (dd2 : UInt64) (b1 : Addr) (b2 : Addr) (b3 : Addr) (k1 : ClassId) (k2 : ClassId) (v1 : List Value) (v2 : List Value) (en : Int32) (re : Int32) (h0 : Heap) (n0 : Nat) (v : Option Value) (h : Heap) (L : List Loc) : Prop := ∃ (x1 : List Value), ∃ (x2 : List Value), v = none ∧ Fr n0 L ∧ Keep h0 h [aa0, b1, b2] ∧ (Fld Z h aa0 "com/example/thesaurus_rerank/thesaurusrerank/space/SparseDistances$Builder" "columns" "[I" (.ref b1)) ∧ (Fld Z h aa0 "com/example/thesaurus_rerank/thesaurusrerank/space/SparseDistances$Builder" "distances" "[D" (.ref b2)) ∧ (Fld Z h aa0 "com/example/thesaurus_rerank/thesaurusrerank/space/SparseDistances$Builder" "rowStarts" "[I" (.ref b3)) ∧ (Fld Z h aa0 "com/example/thesaurus_rerank/thesaurusrerank/space/SparseDistances$Builder" "entries" "I" (.int (en + (1 : Int32)))) ∧ (Fld Z h aa0 "com/example/thesaurus_rerank/thesaurusrerank/space/SparseDistances$Builder" "rowsEnded" "I" (.int re)) ∧ (Arv Z h b1 k1 .int (16 : Int32) x1 (.int (0 : Int32))) ∧ (Arv Z h b2 k2 .double (16 : Int32) x2 (.double (0 : UInt64))) ∧ (x1.length = 16) ∧ (x2.length = 16)
set_option maxRecDepth 65536 in
set_option maxHeartbeats 40000000 in
theorem rm5 (l : Launch) (Z : State) (a0 : Array Value) (hw : ∀ d ∈ tables_1, d.before a0 Z = true) (ws : List Jvm.Cond) (aa0 : Addr) (pp1 : Int32) (dd2 : UInt64) (b1 : Addr) (b2 : Addr) (b3 : Addr) (k1 : ClassId) (k2 : ClassId) (v1 : List Value) (v2 : List Value) (en : Int32) (re : Int32) (h0 : Heap) (n0 : Nat) (Z0 : n0 ≤ h0.size) (E_aa0 : Exa Z h0 aa0 "com/example/thesaurus_rerank/thesaurusrerank/space/SparseDistances$Builder") (g_aa0 : n0 ≤ aa0) (g_b1 : n0 ≤ b1) (g_b2 : n0 ≤ b2) (F_aa0_columns : Fld Z h0 aa0 "com/example/thesaurus_rerank/thesaurusrerank/space/SparseDistances$Builder" "columns" "[I" (.ref b1)) (F_aa0_distances : Fld Z h0 aa0 "com/example/thesaurus_rerank/thesaurusrerank/space/SparseDistances$Builder" "distances" "[D" (.ref b2)) (F_aa0_rowStarts : Fld Z h0 aa0 "com/example/thesaurus_rerank/thesaurusrerank/space/SparseDistances$Builder" "rowStarts" "[I" (.ref b3)) (F_aa0_entries : Fld Z h0 aa0 "com/example/thesaurus_rerank/thesaurusrerank/space/SparseDistances$Builder" "entries" "I" (.int en)) (F_aa0_rowsEnded : Fld Z h0 aa0 "com/example/thesaurus_rerank/thesaurusrerank/space/SparseDistances$Builder" "rowsEnded" "I" (.int re)) (V_b1 : Arv Z h0 b1 k1 .int (16 : Int32) v1 (.int (0 : Int32))) (V_b2 : Arv Z h0 b2 k2 .double (16 : Int32) v2 (.double (0 : UInt64))) (ne_aa0_b1 : aa0 ≠ b1) (ne_aa0_b2 : aa0 ≠ b2) (ne_b1_b2 : b1 ≠ b2) (hl1 : v1.length = 16) (hl2 : v2.length = 16) (hbd : own_in 16 en) :
    MetFree l (⟨"com/example/thesaurus_rerank/thesaurusrerank/space/SparseDistances$Builder", "add", "(ID)V"⟩ : MethodName) (head1 (Jvm.Cond.code (⟨"com/example/thesaurus_rerank/thesaurusrerank/space/SparseDistances$Builder", "add", "(ID)V"⟩ : MethodName) prog_24_method_2_code 4 none :: ws) ({ frames := 0, cells := 0, slots := 0, locals := 0 } : Room)) (fun a U => a = #[(.ref aa0), (.int pp1), (.double dd2)] ∧ Z.Warmed39 U.vm ∧ U.heap = h0) (fun _ _ _ _ _ => True) (fun _ U o U' => ∃ v L, o = .returned v ∧ Q5 Z aa0 pp1 dd2 b1 b2 b3 k1 k2 v1 v2 en re h0 n0 v U'.heap L ∧ FrameEnd U o U' L ({ frames := 0, cells := 0, slots := 0, locals := 0 } : Room).cells ({ frames := 0, cells := 0, slots := 0, locals := 0 } : Room).slots) := by
  refine MetFree.of_bodySF (plainFor_of_name pn_com_example_thesaurus_rerank_thesaurusrerank_space_SparseDistances_Builder) hisR ?_
  intro p e s m args below meth c s₁ Bd hml0 hP hK
  obtain ⟨rfl, hZ, hh⟩ := hP
  have hx := Bd.exec
  have hby := Bd.bytes
  have hml : c.maxLocals = 4 := hml0
  have hown : s.vm.findClass "com/example/thesaurus_rerank/thesaurusrerank/space/SparseDistances$Builder" = some m.cls := findClass_of_methodNamed Bd.named
  have hnm := (name_of_methodNamed Bd.named Bd.method).1
  have X0 : Stand p l e ({ frames := 0, cells := 0, slots := 0, locals := 0 } : Room) s m #[(.ref aa0), (.int pp1), (.double dd2)] below meth c s₁ [] 0 0 := Stand.of_body Bd
  have e0 : s₁.heap = h0 := by rw [← hh, Bd.state]; rfl
  have N0 := Fr.nil n0
  have pre0 : ∀ t, Steps p.tables e below (s₁.setTop (mkF m 0 #[.val (.ref aa0), .val (.int pp1), .val (.double dd2), .second] [])) t → Steps p.tables e below (s₁.setTop (entryFrame m #[(.ref aa0), (.int pp1), (.double dd2)] 4)) t := fun t k => castTop (ef_5 m aa0 pp1 dd2) k
  obtain ⟨T1, X1, e1, st1⟩ := getF X0 hx hZ hown (host := "") (Or.inl (hw _ (List.mem_of_getElem? (i := 28) rfl))) Via.refl e0 F_aa0_entries (g := (mkF m 1 #[.val (.ref aa0), .val (.int pp1), .val (.double dd2), .second] [(.ref aa0)])) rfl rfl (hb hby d5_1)
  obtain ⟨T2, X2, e2, st2⟩ := getF X1 hx hZ hown (host := "") (Or.inl (hw _ (List.mem_of_getElem? (i := 10) rfl))) Via.refl e1 F_aa0_columns (g := (mkF m 5 #[.val (.ref aa0), .val (.int pp1), .val (.double dd2), .second] [(.ref aa0), (.int en)])) rfl rfl (hb hby d5_5)
  obtain ⟨cl_3, Ar_3, -, Sz_3, Nn_3, -, -⟩ := id V_b1
  have hc9 : ¬ (en = (16 : Int32)) := own_in_ne hbd (by decide)
  obtain ⟨T4, X4, e4, st4⟩ := getF X2 hx hZ hown (host := "") (Or.inl (hw _ (List.mem_of_getElem? (i := 10) rfl))) Via.refl e2 F_aa0_columns (g := (mkF m 47 #[.val (.ref aa0), .val (.int pp1), .val (.double dd2), .second] [(.ref aa0)])) rfl rfl (hb hby d5_47)
  obtain ⟨T5, X5, e5, st5⟩ := getF X4 hx hZ hown (host := "") (Or.inl (hw _ (List.mem_of_getElem? (i := 28) rfl))) Via.refl e4 F_aa0_entries (g := (mkF m 51 #[.val (.ref aa0), .val (.int pp1), .val (.double dd2), .second] [(.ref aa0), (.ref b1)])) rfl rfl (hb hby d5_51)
  obtain ⟨cl_6, Ar_6, qq_6, Sz_6, Nn_6, Hh_6, Gg_6⟩ := id V_b1
  have hin_6 : ¬ (en < 0 ∨ cl_6.slots.size ≤ (en).toNatClampNeg) := inb_of Sz_6 (own_in_lt hbd (by decide))
  obtain ⟨T7, h7, X7, e7, W7, st7⟩ := stI X5 hx hZ e5 Ar_6 (j := en) hin_6 (g := (mkF m 55 #[.val (.ref aa0), .val (.int pp1), .val (.double dd2), .second] [(.int pp1), (.int en), (.ref b1)])) rfl rfl (hb hby d5_55)
  have N7 := Fr.snoc X7 N0 g_b1
  have Z7 : n0 ≤ h7.size := Nat.le_trans Z0 (Keep.of_wr W7).1
  have K7 : Keep h0 h7 [aa0, b1, b2] := (Keep.refl h0 [aa0, b1, b2]).wr W7 (Or.inl (List.mem_of_getElem? (i := 1) rfl))
  have V7 : Arv Z h7 b1 k1 .int (16 : Int32) (List.set v1 (en).toNatClampNeg (.int pp1)) (.int (0 : Int32)) := Arv.set Ar_6 qq_6 Sz_6 Nn_6 Hh_6 Gg_6 rfl W7 (en).toNatClampNeg rfl (by rw [hl1]; exact own_nat hbd)
  have F_8 : Fld Z h7 aa0 "com/example/thesaurus_rerank/thesaurusrerank/space/SparseDistances$Builder" "distances" "[D" (.ref b2) := (F_aa0_distances.other W7 (Or.inl ne_aa0_b1))
  obtain ⟨T9, X9, e9, st9⟩ := getF X7 hx hZ hown (host := "") (Or.inl (hw _ (List.mem_of_getElem? (i := 13) rfl))) Via.refl e7 F_8 (g := (mkF m 57 #[.val (.ref aa0), .val (.int pp1), .val (.double dd2), .second] [(.ref aa0)])) rfl rfl (hb hby d5_57)
  have F_10 : Fld Z h7 aa0 "com/example/thesaurus_rerank/thesaurusrerank/space/SparseDistances$Builder" "entries" "I" (.int en) := (F_aa0_entries.other W7 (Or.inl ne_aa0_b1))
  obtain ⟨T11, X11, e11, st11⟩ := getF X9 hx hZ hown (host := "") (Or.inl (hw _ (List.mem_of_getElem? (i := 28) rfl))) Via.refl e9 F_10 (g := (mkF m 61 #[.val (.ref aa0), .val (.int pp1), .val (.double dd2), .second] [(.ref aa0), (.ref b2)])) rfl rfl (hb hby d5_61)
  have V_12 : Arv Z h7 b2 k2 .double (16 : Int32) v2 (.double (0 : UInt64)) := (V_b2.other W7 (Ne.symm ne_b1_b2))
  obtain ⟨cl_13, Ar_13, qq_13, Sz_13, Nn_13, Hh_13, Gg_13⟩ := id V_12
  have hin_13 : ¬ (en < 0 ∨ cl_13.slots.size ≤ (en).toNatClampNeg) := inb_of Sz_13 (own_in_lt hbd (by decide))
  obtain ⟨T14, h14, X14, e14, W14, st14⟩ := stD X11 hx hZ e11 Ar_13 (j := en) hin_13 (g := (mkF m 65 #[.val (.ref aa0), .val (.int pp1), .val (.double dd2), .second] [(.double dd2), (.int en), (.ref b2)])) rfl rfl (hb hby d5_65)
  have N14 := Fr.snoc X14 N7 g_b2
  have Z14 : n0 ≤ h14.size := Nat.le_trans Z7 (Keep.of_wr W14).1
  have K14 : Keep h0 h14 [aa0, b1, b2] := K7.wr W14 (Or.inl (List.mem_of_getElem? (i := 2) rfl))
  have V14 : Arv Z h14 b2 k2 .double (16 : Int32) (List.set v2 (en).toNatClampNeg (.double dd2)) (.double (0 : UInt64)) := Arv.set Ar_13 qq_13 Sz_13 Nn_13 Hh_13 Gg_13 rfl W14 (en).toNatClampNeg rfl (by rw [hl2]; exact own_nat hbd)
  have F_15 : Fld Z h14 aa0 "com/example/thesaurus_rerank/thesaurusrerank/space/SparseDistances$Builder" "entries" "I" (.int en) := (F_10.other W14 (Or.inl ne_aa0_b2))
  obtain ⟨T16, X16, e16, st16⟩ := getF X14 hx hZ hown (host := "") (Or.inl (hw _ (List.mem_of_getElem? (i := 28) rfl))) Via.refl e14 F_15 (g := (mkF m 68 #[.val (.ref aa0), .val (.int pp1), .val (.double dd2), .second] [(.ref aa0), (.ref aa0)])) rfl rfl (hb hby d5_68)
  have E_17 : Exa Z h14 aa0 "com/example/thesaurus_rerank/thesaurusrerank/space/SparseDistances$Builder" := ((E_aa0.wr W7).wr W14)
  obtain ⟨T18, h18, X18, e18, W18, st18⟩ := putF X16 hx hZ hown (host := "") (Or.inl (hw _ (List.mem_of_getElem? (i := 28) rfl))) Via.refl e16 F_15 E_17 (Or.inl (hw _ (List.mem_of_getElem? (i := 29) rfl))) (hw _ (List.mem_of_getElem? (i := 1) rfl)) (ty := .int) (by decide) rfl rfl (g := (mkF m 73 #[.val (.ref aa0), .val (.int pp1), .val (.double dd2), .second] [(.int (en + (1 : Int32))), (.ref aa0)])) rfl rfl (hb hby d5_73)
  have N18 := Fr.snoc X18 N14 g_aa0
  have Z18 : n0 ≤ h18.size := Nat.le_trans Z14 (Keep.of_wr W18).1
  have K18 : Keep h0 h18 [aa0, b1, b2] := K14.wr W18 (Or.inl (List.mem_of_getElem? (i := 0) rfl))
  have F18 : Fld Z h18 aa0 "com/example/thesaurus_rerank/thesaurusrerank/space/SparseDistances$Builder" "entries" "I" (.int (en + (1 : Int32))) := F_15.same W18
  have F_19 : Fld Z h18 aa0 "com/example/thesaurus_rerank/thesaurusrerank/space/SparseDistances$Builder" "columns" "[I" (.ref b1) := (((F_aa0_columns.other W7 (Or.inl ne_aa0_b1)).other W14 (Or.inl ne_aa0_b2)).other W18 (Or.inr (slot_ne (Or.inl (hw _ (List.mem_of_getElem? (i := 11) rfl))) (Or.inl (hw _ (List.mem_of_getElem? (i := 29) rfl))) (by decide) (t := (.array .int)) (t' := .int) (by decide) (by decide))))
  have F_20 : Fld Z h18 aa0 "com/example/thesaurus_rerank/thesaurusrerank/space/SparseDistances$Builder" "distances" "[D" (.ref b2) := ((F_8.other W14 (Or.inl ne_aa0_b2)).other W18 (Or.inr (slot_ne (Or.inl (hw _ (List.mem_of_getElem? (i := 14) rfl))) (Or.inl (hw _ (List.mem_of_getElem? (i := 29) rfl))) (by decide) (t := (.array .double)) (t' := .int) (by decide) (by decide))))
  have F_21 : Fld Z h18 aa0 "com/example/thesaurus_rerank/thesaurusrerank/space/SparseDistances$Builder" "rowStarts" "[I" (.ref b3) := (((F_aa0_rowStarts.other W7 (Or.inl ne_aa0_b1)).other W14 (Or.inl ne_aa0_b2)).other W18 (Or.inr (slot_ne (Or.inr (hw _ (List.mem_of_getElem? (i := 16) rfl))) (Or.inl (hw _ (List.mem_of_getElem? (i := 29) rfl))) (by decide) (t := (.array .int)) (t' := .int) (by decide) (by decide))))
  have F_22 : Fld Z h18 aa0 "com/example/thesaurus_rerank/thesaurusrerank/space/SparseDistances$Builder" "rowsEnded" "I" (.int re) := (((F_aa0_rowsEnded.other W7 (Or.inl ne_aa0_b1)).other W14 (Or.inl ne_aa0_b2)).other W18 (Or.inr (slot_ne (Or.inl (hw _ (List.mem_of_getElem? (i := 27) rfl))) (Or.inl (hw _ (List.mem_of_getElem? (i := 29) rfl))) (by decide) (t := .int) (t' := .int) (by decide) (by decide))))
  have V_23 : Arv Z h18 b1 k1 .int (16 : Int32) (List.set v1 (en).toNatClampNeg (.int pp1)) (.int (0 : Int32)) := ((V7.other W14 ne_b1_b2).other W18 (Ne.symm ne_aa0_b1))
  have V_24 : Arv Z h18 b2 k2 .double (16 : Int32) (List.set v2 (en).toNatClampNeg (.double dd2)) (.double (0 : UInt64)) := (V14.other W18 (Ne.symm ne_aa0_b2))
  obtain ⟨fs, hr, hrun, hended, hW, hsame⟩ := X18.leave (v := none) (fun _ => rfl)
  refine ⟨_, _, pre0 _ ?_, hrun, hended, _, _, rfl, ?_, ⟨_, rfl⟩, hW, hsame.mono (by decide) (by decide)⟩
  · show Steps p.tables e below (s₁.setTop (mkF m 0 #[.val (.ref aa0), .val (.int pp1), .val (.double dd2), .second] [])) _
    refine XS.aloadN X0.here hx rfl (hb hby d5_0) rfl rfl ?_
    show Steps p.tables e below (s₁.setTop (mkF m 1 #[.val (.ref aa0), .val (.int pp1), .val (.double dd2), .second] [(.ref aa0)])) _
    refine st1 _ ?_
    show Steps p.tables e below (T1.setTop (mkF m 4 #[.val (.ref aa0), .val (.int pp1), .val (.double dd2), .second] [(.int en)])) _
    refine XS.aloadN X1.here hx rfl (hb hby d5_4) rfl rfl ?_
    show Steps p.tables e below (T1.setTop (mkF m 5 #[.val (.ref aa0), .val (.int pp1), .val (.double dd2), .second] [(.ref aa0), (.int en)])) _
    refine st2 _ ?_
    show Steps p.tables e below (T2.setTop (mkF m 8 #[.val (.ref aa0), .val (.int pp1), .val (.double dd2), .second] [(.ref b1), (.int en)])) _
    refine X2.arraylength hx (by rw [e2]; exact Ar_3.1) (State.isArrayOf_alike hZ.alike Ar_3.2.1) (g := (mkF m 8 #[.val (.ref aa0), .val (.int pp1), .val (.double dd2), .second] [(.ref b1), (.int en)])) rfl rfl (hb hby d5_8) _ ?_
    rw [len_of Sz_3 Nn_3]
    show Steps p.tables e below (T2.setTop (mkF m 9 #[.val (.ref aa0), .val (.int pp1), .val (.double dd2), .second] [(.int (16 : Int32)), (.int en)])) _
    refine XS.icmpYes X2.here hx rfl (pc0 := 9) (pc' := 46) rfl (hb hby d5_9) rfl (feq hc9).2 (by decide) (by decide) ?_
    show Steps p.tables e below (T2.setTop (mkF m 46 #[.val (.ref aa0), .val (.int pp1), .val (.double dd2), .second] [])) _
    refine XS.aloadN X2.here hx rfl (hb hby d5_46) rfl rfl ?_
    show Steps p.tables e below (T2.setTop (mkF m 47 #[.val (.ref aa0), .val (.int pp1), .val (.double dd2), .second] [(.ref aa0)])) _
    refine st4 _ ?_
    show Steps p.tables e below (T4.setTop (mkF m 50 #[.val (.ref aa0), .val (.int pp1), .val (.double dd2), .second] [(.ref b1)])) _
    refine XS.aloadN X4.here hx rfl (hb hby d5_50) rfl rfl ?_
    show Steps p.tables e below (T4.setTop (mkF m 51 #[.val (.ref aa0), .val (.int pp1), .val (.double dd2), .second] [(.ref aa0), (.ref b1)])) _
    refine st5 _ ?_
    show Steps p.tables e below (T5.setTop (mkF m 54 #[.val (.ref aa0), .val (.int pp1), .val (.double dd2), .second] [(.int en), (.ref b1)])) _
    refine XS.iloadN X5.here hx rfl (hb hby d5_54) rfl ?_
    show Steps p.tables e below (T5.setTop (mkF m 55 #[.val (.ref aa0), .val (.int pp1), .val (.double dd2), .second] [(.int pp1), (.int en), (.ref b1)])) _
    refine st7 _ ?_
    show Steps p.tables e below (T7.setTop (mkF m 56 #[.val (.ref aa0), .val (.int pp1), .val (.double dd2), .second] [])) _
    refine XS.aloadN X7.here hx rfl (hb hby d5_56) rfl rfl ?_
    show Steps p.tables e below (T7.setTop (mkF m 57 #[.val (.ref aa0), .val (.int pp1), .val (.double dd2), .second] [(.ref aa0)])) _
    refine st9 _ ?_
    show Steps p.tables e below (T9.setTop (mkF m 60 #[.val (.ref aa0), .val (.int pp1), .val (.double dd2), .second] [(.ref b2)])) _
    refine XS.aloadN X9.here hx rfl (hb hby d5_60) rfl rfl ?_
    show Steps p.tables e below (T9.setTop (mkF m 61 #[.val (.ref aa0), .val (.int pp1), .val (.double dd2), .second] [(.ref aa0), (.ref b2)])) _
    refine st11 _ ?_
    show Steps p.tables e below (T11.setTop (mkF m 64 #[.val (.ref aa0), .val (.int pp1), .val (.double dd2), .second] [(.int en), (.ref b2)])) _
    refine XS.dloadN X11.here hx rfl (hb hby d5_64) rfl ?_
    show Steps p.tables e below (T11.setTop (mkF m 65 #[.val (.ref aa0), .val (.int pp1), .val (.double dd2), .second] [(.double dd2), (.int en), (.ref b2)])) _
    refine st14 _ ?_
    show Steps p.tables e below (T14.setTop (mkF m 66 #[.val (.ref aa0), .val (.int pp1), .val (.double dd2), .second] [])) _
    refine XS.aloadN X14.here hx rfl (hb hby d5_66) rfl rfl ?_
    show Steps p.tables e below (T14.setTop (mkF m 67 #[.val (.ref aa0), .val (.int pp1), .val (.double dd2), .second] [(.ref aa0)])) _
    refine XS.dup X14.here hx rfl (hb hby d5_67) rfl rfl ?_
    show Steps p.tables e below (T14.setTop (mkF m 68 #[.val (.ref aa0), .val (.int pp1), .val (.double dd2), .second] [(.ref aa0), (.ref aa0)])) _
    refine st16 _ ?_
    show Steps p.tables e below (T16.setTop (mkF m 71 #[.val (.ref aa0), .val (.int pp1), .val (.double dd2), .second] [(.int en), (.ref aa0)])) _
    refine XS.iconst X16.here hx rfl (hb hby d5_71) ?_
    show Steps p.tables e below (T16.setTop (mkF m 72 #[.val (.ref aa0), .val (.int pp1), .val (.double dd2), .second] [(.int (1 : Int32)), (.int en), (.ref aa0)])) _
    refine XS.iadd X16.here hx rfl (hb hby d5_72) rfl ?_
    show Steps p.tables e below (T16.setTop (mkF m 73 #[.val (.ref aa0), .val (.int pp1), .val (.double dd2), .second] [(.int (en + (1 : Int32))), (.ref aa0)])) _
    refine st18 _ ?_
    show Steps p.tables e below (T18.setTop (mkF m 76 #[.val (.ref aa0), .val (.int pp1), .val (.double dd2), .second] [])) _
    exact X18.returnOut hx Bd.returns (hb hby d5_76) hr
  · show Q5 Z aa0 pp1 dd2 b1 b2 b3 k1 k2 v1 v2 en re h0 n0 _ T18.heap _
    rw [e18]
    exact ⟨(List.set v1 (en).toNatClampNeg (.int pp1)), (List.set v2 (en).toNatClampNeg (.double dd2)), rfl, N18, K18, F_19, F_20, F_21, F18, F_22, V_23, V_24, (by rw [List.length_set]; exact hl1), (by rw [List.length_set]; exact hl2)⟩
theorem pd__28_ID_29_V : parseMethodDescriptor "(ID)V" = some ⟨[.int, .double], none⟩ := by decide +kernel
theorem pn_com_example_thesaurus_rerank_thesaurusrerank_space_BuilderEndRowPinLaw : plainName "com/example/thesaurus_rerank/thesaurusrerank/space/BuilderEndRowPinLaw" = true := by first | (simp [plainName, overriddenIn]; done) | decide +kernel
theorem d3_0 : decode method_3_code 0 = .ok (.iload_n 1, 1) := by decide +kernel
theorem d3_1 : decode method_3_code 1 = .ok (.ifCond .le 11, 3) := by decide +kernel
theorem d3_4 : decode method_3_code 4 = .ok (.aload_n 0, 1) := by decide +kernel
theorem d3_5 : decode method_3_code 5 = .ok (.iconst 0, 1) := by decide +kernel
theorem d3_6 : decode method_3_code 6 = .ok (.ldc2_w 38, 3) := by decide +kernel
theorem d3_9 : decode method_3_code 9 = .ok (.invokevirtual 40, 3) := by decide +kernel
theorem d3_12 : decode method_3_code 12 = .ok (.iload_n 1, 1) := by decide +kernel
theorem d3_13 : decode method_3_code 13 = .ok (.iconst 1, 1) := by decide +kernel
theorem d3_14 : decode method_3_code 14 = .ok (.if_icmp .le 11, 3) := by decide +kernel
theorem d3_17 : decode method_3_code 17 = .ok (.aload_n 0, 1) := by decide +kernel
theorem d3_18 : decode method_3_code 18 = .ok (.iconst 1, 1) := by decide +kernel
theorem d3_19 : decode method_3_code 19 = .ok (.ldc2_w 44, 3) := by decide +kernel
theorem d3_22 : decode method_3_code 22 = .ok (.invokevirtual 40, 3) := by decide +kernel
theorem d3_25 : decode method_3_code 25 = .ok (.iload_n 1, 1) := by decide +kernel
theorem d3_26 : decode method_3_code 26 = .ok (.iconst 2, 1) := by decide +kernel
theorem d3_27 : decode method_3_code 27 = .ok (.if_icmp .le 11, 3) := by decide +kernel
theorem d3_30 : decode method_3_code 30 = .ok (.aload_n 0, 1) := by decide +kernel
theorem d3_31 : decode method_3_code 31 = .ok (.iconst 2, 1) := by decide +kernel
theorem d3_32 : decode method_3_code 32 = .ok (.ldc2_w 46, 3) := by decide +kernel
theorem d3_35 : decode method_3_code 35 = .ok (.invokevirtual 40, 3) := by decide +kernel
theorem d3_38 : decode method_3_code 38 = .ok (.return_, 1) := by decide +kernel
theorem ef_3 (m : MethodId) (x0 : Addr) (x1 : Int32) : entryFrame m #[(.ref x0), (.int x1)] 2 = mkF m 0 #[.val (.ref x0), .val (.int x1)] [] := by first | (simp [entryFrame, mkF, argsToLocals, Value.category]; done) | rfl
def Q3 (Z : State) (aa1 : Addr) (pp2 : Int32) (b1 : Addr) (b2 : Addr) (b3 : Addr) (k1 : ClassId) (k2 : ClassId) (v1 : List Value) (v2 : List Value) (en : Int32) (re : Int32) (h0 : Heap) (n0 : Nat) (v : Option Value) (h : Heap) (L : List Loc) : Prop := ∃ (x1 : List Value), ∃ (x2 : List Value), v = none ∧ Fr n0 L ∧ Keep h0 h [aa1, b1, b2] ∧ (Fld Z h aa1 "com/example/thesaurus_rerank/thesaurusrerank/space/SparseDistances$Builder" "columns" "[I" (.ref b1)) ∧ (Fld Z h aa1 "com/example/thesaurus_rerank/thesaurusrerank/space/SparseDistances$Builder" "distances" "[D" (.ref b2)) ∧ (Fld Z h aa1 "com/example/thesaurus_rerank/thesaurusrerank/space/SparseDistances$Builder" "rowStarts" "[I" (.ref b3)) ∧ (Fld Z h aa1 "com/example/thesaurus_rerank/thesaurusrerank/space/SparseDistances$Builder" "entries" "I" (.int (en + pp2))) ∧ (Fld Z h aa1 "com/example/thesaurus_rerank/thesaurusrerank/space/SparseDistances$Builder" "rowsEnded" "I" (.int re)) ∧ (Arv Z h b1 k1 .int (16 : Int32) x1 (.int (0 : Int32))) ∧ (Arv Z h b2 k2 .double (16 : Int32) x2 (.double (0 : UInt64))) ∧ (x1.length = 16) ∧ (x2.length = 16)
set_option maxRecDepth 65536 in
set_option maxHeartbeats 40000000 in
theorem rm3 (l : Launch) (Z : State) (a0 : Array Value) (hw : ∀ d ∈ tables_1, d.before a0 Z = true) (ws : List Jvm.Cond) (aa1 : Addr) (pp2 : Int32) (b1 : Addr) (b2 : Addr) (b3 : Addr) (k1 : ClassId) (k2 : ClassId) (v1 : List Value) (v2 : List Value) (en : Int32) (re : Int32) (h0 : Heap) (n0 : Nat) (Z0 : n0 ≤ h0.size) (E_aa1 : Exa Z h0 aa1 "com/example/thesaurus_rerank/thesaurusrerank/space/SparseDistances$Builder") (g_aa1 : n0 ≤ aa1) (g_b1 : n0 ≤ b1) (g_b2 : n0 ≤ b2) (F_aa1_columns : Fld Z h0 aa1 "com/example/thesaurus_rerank/thesaurusrerank/space/SparseDistances$Builder" "columns" "[I" (.ref b1)) (F_aa1_distances : Fld Z h0 aa1 "com/example/thesaurus_rerank/thesaurusrerank/space/SparseDistances$Builder" "distances" "[D" (.ref b2)) (F_aa1_rowStarts : Fld Z h0 aa1 "com/example/thesaurus_rerank/thesaurusrerank/space/SparseDistances$Builder" "rowStarts" "[I" (.ref b3)) (F_aa1_entries : Fld Z h0 aa1 "com/example/thesaurus_rerank/thesaurusrerank/space/SparseDistances$Builder" "entries" "I" (.int en)) (F_aa1_rowsEnded : Fld Z h0 aa1 "com/example/thesaurus_rerank/thesaurusrerank/space/SparseDistances$Builder" "rowsEnded" "I" (.int re)) (V_b1 : Arv Z h0 b1 k1 .int (16 : Int32) v1 (.int (0 : Int32))) (V_b2 : Arv Z h0 b2 k2 .double (16 : Int32) v2 (.double (0 : UInt64))) (ne_aa1_b1 : aa1 ≠ b1) (ne_aa1_b2 : aa1 ≠ b2) (ne_b1_b2 : b1 ≠ b2) (hl1 : v1.length = 16) (hl2 : v2.length = 16) (hbd : own_in 10 en) (hn : own_in 4 pp2) :
    MetFree l (⟨"com/example/thesaurus_rerank/thesaurusrerank/space/BuilderEndRowPinLaw", "fill", "(Lcom/example/thesaurus_rerank/thesaurusrerank/space/SparseDistances$Builder;I)V"⟩ : MethodName) (head1 (Jvm.Cond.code (⟨"com/example/thesaurus_rerank/thesaurusrerank/space/BuilderEndRowPinLaw", "fill", "(Lcom/example/thesaurus_rerank/thesaurusrerank/space/SparseDistances$Builder;I)V"⟩ : MethodName) method_3_code 2 none :: ws) ({ frames := 1, cells := 0, slots := 0, locals := 15 } : Room)) (fun a U => a = #[(.ref aa1), (.int pp2)] ∧ Z.Warmed39 U.vm ∧ U.heap = h0) (fun _ _ _ _ _ => True) (fun _ U o U' => ∃ v L, o = .returned v ∧ Q3 Z aa1 pp2 b1 b2 b3 k1 k2 v1 v2 en re h0 n0 v U'.heap L ∧ FrameEnd U o U' L ({ frames := 1, cells := 0, slots := 0, locals := 15 } : Room).cells ({ frames := 1, cells := 0, slots := 0, locals := 15 } : Room).slots) := by
  refine MetFree.of_bodySF (plainFor_of_name pn_com_example_thesaurus_rerank_thesaurusrerank_space_BuilderEndRowPinLaw) hisR ?_
  intro p e s m args below meth c s₁ Bd hml0 hP hK
  obtain ⟨rfl, hZ, hh⟩ := hP
  have hx := Bd.exec
  have hby := Bd.bytes
  have hml : c.maxLocals = 2 := hml0
  have hown : s.vm.findClass "com/example/thesaurus_rerank/thesaurusrerank/space/BuilderEndRowPinLaw" = some m.cls := findClass_of_methodNamed Bd.named
  have hnm := (name_of_methodNamed Bd.named Bd.method).1
  have X0 : Stand p l e ({ frames := 1, cells := 0, slots := 0, locals := 15 } : Room) s m #[(.ref aa1), (.int pp2)] below meth c s₁ [] 0 0 := Stand.of_body Bd
  have e0 : s₁.heap = h0 := by rw [← hh, Bd.state]; rfl
  have N0 := Fr.nil n0
  have pre0 : ∀ t, Steps p.tables e below (s₁.setTop (mkF m 0 #[.val (.ref aa1), .val (.int pp2)] [])) t → Steps p.tables e below (s₁.setTop (entryFrame m #[(.ref aa1), (.int pp2)] 2)) t := fun t k => castTop (ef_3 m aa1 pp2) k
  obtain ⟨nn, h_nn, pre1⟩ : ∃ (nn : Int32), (nn = pp2) ∧ ∀ t, Steps p.tables e below (s₁.setTop (mkF m 0 #[.val (.ref aa1), .val (.int nn)] [])) t → Steps p.tables e below (s₁.setTop (entryFrame m #[(.ref aa1), (.int pp2)] 2)) t := ⟨pp2, rfl, pre0⟩
  rcases own_four (h_nn ▸ hn) with rfl | rfl | rfl | rfl
  · skip
    have hc1 : ¬ ((0 : Int32) < (0 : Int32)) := by decide
    have hc14 : ¬ ((1 : Int32) < (0 : Int32)) := by decide
    have hc27 : ¬ ((2 : Int32) < (0 : Int32)) := by decide
    obtain ⟨fs, hr, hrun, hended, hW, hsame⟩ := X0.leave (v := none) (fun _ => rfl)
    refine ⟨_, _, pre1 _ ?_, hrun, hended, _, _, rfl, ?_, ⟨_, rfl⟩, hW, hsame.mono (by decide) (by decide)⟩
    · show Steps p.tables e below (s₁.setTop (mkF m 0 #[.val (.ref aa1), .val (.int (0 : Int32))] [])) _
      refine XS.iloadN X0.here hx rfl (hb hby d3_0) rfl ?_
      show Steps p.tables e below (s₁.setTop (mkF m 1 #[.val (.ref aa1), .val (.int (0 : Int32))] [(.int (0 : Int32))])) _
      refine XS.ifYes X0.here hx rfl (pc0 := 1) (pc' := 12) rfl (hb hby d3_1) rfl ((if0 _ _).trans (flt hc1).2.2.2) (by decide) (by decide) ?_
      show Steps p.tables e below (s₁.setTop (mkF m 12 #[.val (.ref aa1), .val (.int (0 : Int32))] [])) _
      refine XS.iloadN X0.here hx rfl (hb hby d3_12) rfl ?_
      show Steps p.tables e below (s₁.setTop (mkF m 13 #[.val (.ref aa1), .val (.int (0 : Int32))] [(.int (0 : Int32))])) _
      refine XS.iconst X0.here hx rfl (hb hby d3_13) ?_
      show Steps p.tables e below (s₁.setTop (mkF m 14 #[.val (.ref aa1), .val (.int (0 : Int32))] [(.int (1 : Int32)), (.int (0 : Int32))])) _
      refine XS.icmpYes X0.here hx rfl (pc0 := 14) (pc' := 25) rfl (hb hby d3_14) rfl (flt hc14).2.2.2 (by decide) (by decide) ?_
      show Steps p.tables e below (s₁.setTop (mkF m 25 #[.val (.ref aa1), .val (.int (0 : Int32))] [])) _
      refine XS.iloadN X0.here hx rfl (hb hby d3_25) rfl ?_
      show Steps p.tables e below (s₁.setTop (mkF m 26 #[.val (.ref aa1), .val (.int (0 : Int32))] [(.int (0 : Int32))])) _
      refine XS.iconst X0.here hx rfl (hb hby d3_26) ?_
      show Steps p.tables e below (s₁.setTop (mkF m 27 #[.val (.ref aa1), .val (.int (0 : Int32))] [(.int (2 : Int32)), (.int (0 : Int32))])) _
      refine XS.icmpYes X0.here hx rfl (pc0 := 27) (pc' := 38) rfl (hb hby d3_27) rfl (flt hc27).2.2.2 (by decide) (by decide) ?_
      show Steps p.tables e below (s₁.setTop (mkF m 38 #[.val (.ref aa1), .val (.int (0 : Int32))] [])) _
      exact X0.returnOut hx Bd.returns (hb hby d3_38) hr
    · show Q3 Z aa1 pp2 b1 b2 b3 k1 k2 v1 v2 en re h0 n0 _ s₁.heap _
      rw [e0]
      exact ⟨v1, v2, rfl, N0, (Keep.refl h0 [aa1, b1, b2]), F_aa1_columns, F_aa1_distances, F_aa1_rowStarts, (own_fcast (own_a0 h_nn) F_aa1_entries), F_aa1_rowsEnded, V_b1, V_b2, hl1, hl2⟩
  · skip
    have hc1_2 : (0 : Int32) < (1 : Int32) := by decide
    obtain ⟨cq2, kq2, q2a, q2b, q2c⟩ := isOf hZ e0 E_aa1
    obtain ⟨_, _, ⟨T2, L2, k2, n2⟩, -, X2, ⟨Lc2, hQ2, l2, y2, z2⟩, st2⟩ := X0.virtualBack hx (y := (⟨"com/example/thesaurus_rerank/thesaurusrerank/space/SparseDistances$Builder", "add", "(ID)V"⟩ : MethodName)) (z := (⟨"com/example/thesaurus_rerank/thesaurusrerank/space/SparseDistances$Builder", "add", "(ID)V"⟩ : MethodName)) hown (mvT hZ (hw _ (List.mem_of_getElem? (i := 31) rfl))) (mvT hZ (hw _ (List.mem_of_getElem? (i := 32) rfl))) (notFace_of_selects (args := #[]) (mvT hZ (hw _ (List.mem_of_getElem? (i := 34) rfl)))) (mvT hZ (hw _ (List.mem_of_getElem? (i := 34) rfl))) (mvT hZ (hw _ (List.mem_of_getElem? (i := 33) rfl))) (by decide) (backOf (W := 0) (rm5 l Z a0 hw [] aa1 (0 : Int32) (4598175219545276416 : UInt64) b1 b2 b3 k1 k2 v1 v2 en re h0 n0 Z0 E_aa1 g_aa1 g_b1 g_b2 F_aa1_columns F_aa1_distances F_aa1_rowStarts F_aa1_entries F_aa1_rowsEnded V_b1 V_b2 ne_aa1_b1 ne_aa1_b2 ne_b1_b2 (show v1.length = 16 from hl1) (show v2.length = 16 from hl2) (show own_in 16 en from own_in_mono hbd (by decide))) hZ (hw _ (List.mem_of_getElem? (i := 35) rfl)) (hw _ (List.mem_of_getElem? (i := 2) rfl)) (by decide) (by decide)) q2a q2c (g := (mkF m 9 #[.val (.ref aa1), .val (.int (1 : Int32))] [(.double (4598175219545276416 : UInt64)), (.int (0 : Int32)), (.ref aa1)])) rfl (by rw [hml]; rfl) (Steps.refl _) (argsL := [(.int (0 : Int32)), (.double (4598175219545276416 : UInt64))]) (rest := []) (lenOf pd__28_ID_29_V rfl) rfl (by show 2 * 0 + _ ≤ _; exact Nat.le_of_eq rfl) (hb hby d3_9) (fun _ _ => ⟨rfl, e0, (by decide : 0 + 0 ≤ _), (by decide : 0 + 0 ≤ _)⟩)
    dsimp only [Pt.U, Pt.locs, Pt.cells, Pt.slots] at X2 l2 y2 z2 st2 hQ2
    subst l2 y2 z2
    obtain ⟨x1_2, x2_2, rfl, N2q, K2c, R2_0, R2_1, R2_2, R2_3, R2_4, R2_5, R2_6, hx1_2, hx2_2⟩ := hQ2
    have N2 := Fr.app N0 N2q
    have Z2 : n0 ≤ T2.heap.size := Nat.le_trans Z0 K2c.1
    have K2 : Keep h0 T2.heap [aa1, b1, b2] := (Keep.refl h0 [aa1, b1, b2]).trans K2c (allS (Or.inl (List.mem_of_getElem? (i := 0) rfl)) (allS (Or.inl (List.mem_of_getElem? (i := 1) rfl)) (allS (Or.inl (List.mem_of_getElem? (i := 2) rfl)) all0)))
    have hc14_2 : ¬ ((1 : Int32) < (1 : Int32)) := by decide
    have hc27_2 : ¬ ((2 : Int32) < (1 : Int32)) := by decide
    obtain ⟨fs, hr, hrun, hended, hW, hsame⟩ := X2.leave (v := none) (fun _ => rfl)
    refine ⟨_, _, pre1 _ ?_, hrun, hended, _, _, rfl, ?_, ⟨_, rfl⟩, hW, hsame.mono (by decide) (by decide)⟩
    · show Steps p.tables e below (s₁.setTop (mkF m 0 #[.val (.ref aa1), .val (.int (1 : Int32))] [])) _
      refine XS.iloadN X0.here hx rfl (hb hby d3_0) rfl ?_
      show Steps p.tables e below (s₁.setTop (mkF m 1 #[.val (.ref aa1), .val (.int (1 : Int32))] [(.int (1 : Int32))])) _
      refine XS.ifNo X0.here hx rfl (hb hby d3_1) rfl ((if0 _ _).trans (tlt hc1_2).2.2.2) ?_
      show Steps p.tables e below (s₁.setTop (mkF m 4 #[.val (.ref aa1), .val (.int (1 : Int32))] [])) _
      refine XS.aloadN X0.here hx rfl (hb hby d3_4) rfl rfl ?_
      show Steps p.tables e below (s₁.setTop (mkF m 5 #[.val (.ref aa1), .val (.int (1 : Int32))] [(.ref aa1)])) _
      refine XS.iconst X0.here hx rfl (hb hby d3_5) ?_
      show Steps p.tables e below (s₁.setTop (mkF m 6 #[.val (.ref aa1), .val (.int (1 : Int32))] [(.int (0 : Int32)), (.ref aa1)])) _
      refine X0.ldc2DoubleC hx hown (mvT hZ (hw _ (List.mem_of_getElem? (i := 30) rfl))) (g := (mkF m 6 #[.val (.ref aa1), .val (.int (1 : Int32))] [(.int (0 : Int32)), (.ref aa1)])) rfl (hb hby d3_6) _ ?_
      show Steps p.tables e below (s₁.setTop (mkF m 9 #[.val (.ref aa1), .val (.int (1 : Int32))] [(.double (4598175219545276416 : UInt64)), (.int (0 : Int32)), (.ref aa1)])) _
      refine st2.trans ?_
      show Steps p.tables e below (T2.setTop (mkF m 12 #[.val (.ref aa1), .val (.int (1 : Int32))] [])) _
      refine XS.iloadN X2.here hx rfl (hb hby d3_12) rfl ?_
      show Steps p.tables e below (T2.setTop (mkF m 13 #[.val (.ref aa1), .val (.int (1 : Int32))] [(.int (1 : Int32))])) _
      refine XS.iconst X2.here hx rfl (hb hby d3_13) ?_
      show Steps p.tables e below (T2.setTop (mkF m 14 #[.val (.ref aa1), .val (.int (1 : Int32))] [(.int (1 : Int32)), (.int (1 : Int32))])) _
      refine XS.icmpYes X2.here hx rfl (pc0 := 14) (pc' := 25) rfl (hb hby d3_14) rfl (flt hc14_2).2.2.2 (by decide) (by decide) ?_
      show Steps p.tables e below (T2.setTop (mkF m 25 #[.val (.ref aa1), .val (.int (1 : Int32))] [])) _
      refine XS.iloadN X2.here hx rfl (hb hby d3_25) rfl ?_
      show Steps p.tables e below (T2.setTop (mkF m 26 #[.val (.ref aa1), .val (.int (1 : Int32))] [(.int (1 : Int32))])) _
      refine XS.iconst X2.here hx rfl (hb hby d3_26) ?_
      show Steps p.tables e below (T2.setTop (mkF m 27 #[.val (.ref aa1), .val (.int (1 : Int32))] [(.int (2 : Int32)), (.int (1 : Int32))])) _
      refine XS.icmpYes X2.here hx rfl (pc0 := 27) (pc' := 38) rfl (hb hby d3_27) rfl (flt hc27_2).2.2.2 (by decide) (by decide) ?_
      show Steps p.tables e below (T2.setTop (mkF m 38 #[.val (.ref aa1), .val (.int (1 : Int32))] [])) _
      exact X2.returnOut hx Bd.returns (hb hby d3_38) hr
    · show Q3 Z aa1 pp2 b1 b2 b3 k1 k2 v1 v2 en re h0 n0 _ T2.heap _
      exact ⟨x1_2, x2_2, rfl, N2, K2, R2_0, R2_1, R2_2, (own_fcast (own_a1 h_nn) R2_3), R2_4, R2_5, R2_6, hx1_2, hx2_2⟩
  · skip
    have hc1_3 : (0 : Int32) < (2 : Int32) := by decide
    obtain ⟨cq3, kq3, q3a, q3b, q3c⟩ := isOf hZ e0 E_aa1
    obtain ⟨_, _, ⟨T3, L3, k3, n3⟩, -, X3, ⟨Lc3, hQ3, l3, y3, z3⟩, st3⟩ := X0.virtualBack hx (y := (⟨"com/example/thesaurus_rerank/thesaurusrerank/space/SparseDistances$Builder", "add", "(ID)V"⟩ : MethodName)) (z := (⟨"com/example/thesaurus_rerank/thesaurusrerank/space/SparseDistances$Builder", "add", "(ID)V"⟩ : MethodName)) hown (mvT hZ (hw _ (List.mem_of_getElem? (i := 31) rfl))) (mvT hZ (hw _ (List.mem_of_getElem? (i := 32) rfl))) (notFace_of_selects (args := #[]) (mvT hZ (hw _ (List.mem_of_getElem? (i := 34) rfl)))) (mvT hZ (hw _ (List.mem_of_getElem? (i := 34) rfl))) (mvT hZ (hw _ (List.mem_of_getElem? (i := 33) rfl))) (by decide) (backOf (W := 0) (rm5 l Z a0 hw [] aa1 (0 : Int32) (4598175219545276416 : UInt64) b1 b2 b3 k1 k2 v1 v2 en re h0 n0 Z0 E_aa1 g_aa1 g_b1 g_b2 F_aa1_columns F_aa1_distances F_aa1_rowStarts F_aa1_entries F_aa1_rowsEnded V_b1 V_b2 ne_aa1_b1 ne_aa1_b2 ne_b1_b2 (show v1.length = 16 from hl1) (show v2.length = 16 from hl2) (show own_in 16 en from own_in_mono hbd (by decide))) hZ (hw _ (List.mem_of_getElem? (i := 35) rfl)) (hw _ (List.mem_of_getElem? (i := 2) rfl)) (by decide) (by decide)) q3a q3c (g := (mkF m 9 #[.val (.ref aa1), .val (.int (2 : Int32))] [(.double (4598175219545276416 : UInt64)), (.int (0 : Int32)), (.ref aa1)])) rfl (by rw [hml]; rfl) (Steps.refl _) (argsL := [(.int (0 : Int32)), (.double (4598175219545276416 : UInt64))]) (rest := []) (lenOf pd__28_ID_29_V rfl) rfl (by show 2 * 0 + _ ≤ _; exact Nat.le_of_eq rfl) (hb hby d3_9) (fun _ _ => ⟨rfl, e0, (by decide : 0 + 0 ≤ _), (by decide : 0 + 0 ≤ _)⟩)
    dsimp only [Pt.U, Pt.locs, Pt.cells, Pt.slots] at X3 l3 y3 z3 st3 hQ3
    subst l3 y3 z3
    obtain ⟨x1_3, x2_3, rfl, N3q, K3c, R3_0, R3_1, R3_2, R3_3, R3_4, R3_5, R3_6, hx1_3, hx2_3⟩ := hQ3
    have N3 := Fr.app N0 N3q
    have Z3 : n0 ≤ T3.heap.size := Nat.le_trans Z0 K3c.1
    have K3 : Keep h0 T3.heap [aa1, b1, b2] := (Keep.refl h0 [aa1, b1, b2]).trans K3c (allS (Or.inl (List.mem_of_getElem? (i := 0) rfl)) (allS (Or.inl (List.mem_of_getElem? (i := 1) rfl)) (allS (Or.inl (List.mem_of_getElem? (i := 2) rfl)) all0)))
    have hc14_3 : (1 : Int32) < (2 : Int32) := by decide
    have E_4 : Exa Z T3.heap aa1 "com/example/thesaurus_rerank/thesaurusrerank/space/SparseDistances$Builder" := (E_aa1.keep K3c)
    obtain ⟨cq5, kq5, q5a, q5b, q5c⟩ := isOf hZ rfl E_4
    obtain ⟨_, _, ⟨T5, L5, k5, n5⟩, -, X5, ⟨Lc5, hQ5, l5, y5, z5⟩, st5⟩ := X3.virtualBack hx (y := (⟨"com/example/thesaurus_rerank/thesaurusrerank/space/SparseDistances$Builder", "add", "(ID)V"⟩ : MethodName)) (z := (⟨"com/example/thesaurus_rerank/thesaurusrerank/space/SparseDistances$Builder", "add", "(ID)V"⟩ : MethodName)) hown (mvT hZ (hw _ (List.mem_of_getElem? (i := 31) rfl))) (mvT hZ (hw _ (List.mem_of_getElem? (i := 32) rfl))) (notFace_of_selects (args := #[]) (mvT hZ (hw _ (List.mem_of_getElem? (i := 34) rfl)))) (mvT hZ (hw _ (List.mem_of_getElem? (i := 34) rfl))) (mvT hZ (hw _ (List.mem_of_getElem? (i := 33) rfl))) (by decide) (backOf (W := 0) (rm5 l Z a0 hw [] aa1 (1 : Int32) (4602678819172646912 : UInt64) b1 b2 b3 k1 k2 x1_3 x2_3 (en + (1 : Int32)) re T3.heap n0 Z3 E_4 g_aa1 g_b1 g_b2 R3_0 R3_1 R3_2 R3_3 R3_4 R3_5 R3_6 ne_aa1_b1 ne_aa1_b2 ne_b1_b2 (show x1_3.length = 16 from hx1_3) (show x2_3.length = 16 from hx2_3) (show own_in 16 (en + (1 : Int32)) from own_in_mono (own_in_add hbd own_in_1 (by decide)) (by decide))) hZ (hw _ (List.mem_of_getElem? (i := 35) rfl)) (hw _ (List.mem_of_getElem? (i := 2) rfl)) (by decide) (by decide)) q5a q5c (g := (mkF m 22 #[.val (.ref aa1), .val (.int (2 : Int32))] [(.double (4602678819172646912 : UInt64)), (.int (1 : Int32)), (.ref aa1)])) rfl (by rw [hml]; rfl) (Steps.refl _) (argsL := [(.int (1 : Int32)), (.double (4602678819172646912 : UInt64))]) (rest := []) (lenOf pd__28_ID_29_V rfl) rfl (by show 2 * 0 + _ ≤ _; exact Nat.le_of_eq rfl) (hb hby d3_22) (fun _ _ => ⟨rfl, rfl, (by decide : 0 + 0 ≤ _), (by decide : 0 + 0 ≤ _)⟩)
    dsimp only [Pt.U, Pt.locs, Pt.cells, Pt.slots] at X5 l5 y5 z5 st5 hQ5
    subst l5 y5 z5
    obtain ⟨x1_5, x2_5, rfl, N5q, K5c, R5_0, R5_1, R5_2, R5_3, R5_4, R5_5, R5_6, hx1_5, hx2_5⟩ := hQ5
    have N5 := Fr.app N3 N5q
    have Z5 : n0 ≤ T5.heap.size := Nat.le_trans Z3 K5c.1
    have K5 : Keep h0 T5.heap [aa1, b1, b2] := K3.trans K5c (allS (Or.inl (List.mem_of_getElem? (i := 0) rfl)) (allS (Or.inl (List.mem_of_getElem? (i := 1) rfl)) (allS (Or.inl (List.mem_of_getElem? (i := 2) rfl)) all0)))
    have hc27_3 : ¬ ((2 : Int32) < (2 : Int32)) := by decide
    obtain ⟨fs, hr, hrun, hended, hW, hsame⟩ := X5.leave (v := none) (fun _ => rfl)
    refine ⟨_, _, pre1 _ ?_, hrun, hended, _, _, rfl, ?_, ⟨_, rfl⟩, hW, hsame.mono (by decide) (by decide)⟩
    · show Steps p.tables e below (s₁.setTop (mkF m 0 #[.val (.ref aa1), .val (.int (2 : Int32))] [])) _
      refine XS.iloadN X0.here hx rfl (hb hby d3_0) rfl ?_
      show Steps p.tables e below (s₁.setTop (mkF m 1 #[.val (.ref aa1), .val (.int (2 : Int32))] [(.int (2 : Int32))])) _
      refine XS.ifNo X0.here hx rfl (hb hby d3_1) rfl ((if0 _ _).trans (tlt hc1_3).2.2.2) ?_
      show Steps p.tables e below (s₁.setTop (mkF m 4 #[.val (.ref aa1), .val (.int (2 : Int32))] [])) _
      refine XS.aloadN X0.here hx rfl (hb hby d3_4) rfl rfl ?_
      show Steps p.tables e below (s₁.setTop (mkF m 5 #[.val (.ref aa1), .val (.int (2 : Int32))] [(.ref aa1)])) _
      refine XS.iconst X0.here hx rfl (hb hby d3_5) ?_
      show Steps p.tables e below (s₁.setTop (mkF m 6 #[.val (.ref aa1), .val (.int (2 : Int32))] [(.int (0 : Int32)), (.ref aa1)])) _
      refine X0.ldc2DoubleC hx hown (mvT hZ (hw _ (List.mem_of_getElem? (i := 30) rfl))) (g := (mkF m 6 #[.val (.ref aa1), .val (.int (2 : Int32))] [(.int (0 : Int32)), (.ref aa1)])) rfl (hb hby d3_6) _ ?_
      show Steps p.tables e below (s₁.setTop (mkF m 9 #[.val (.ref aa1), .val (.int (2 : Int32))] [(.double (4598175219545276416 : UInt64)), (.int (0 : Int32)), (.ref aa1)])) _
      refine st3.trans ?_
      show Steps p.tables e below (T3.setTop (mkF m 12 #[.val (.ref aa1), .val (.int (2 : Int32))] [])) _
      refine XS.iloadN X3.here hx rfl (hb hby d3_12) rfl ?_
      show Steps p.tables e below (T3.setTop (mkF m 13 #[.val (.ref aa1), .val (.int (2 : Int32))] [(.int (2 : Int32))])) _
      refine XS.iconst X3.here hx rfl (hb hby d3_13) ?_
      show Steps p.tables e below (T3.setTop (mkF m 14 #[.val (.ref aa1), .val (.int (2 : Int32))] [(.int (1 : Int32)), (.int (2 : Int32))])) _
      refine XS.icmpNo X3.here hx rfl (hb hby d3_14) rfl (tlt hc14_3).2.2.2 ?_
      show Steps p.tables e below (T3.setTop (mkF m 17 #[.val (.ref aa1), .val (.int (2 : Int32))] [])) _
      refine XS.aloadN X3.here hx rfl (hb hby d3_17) rfl rfl ?_
      show Steps p.tables e below (T3.setTop (mkF m 18 #[.val (.ref aa1), .val (.int (2 : Int32))] [(.ref aa1)])) _
      refine XS.iconst X3.here hx rfl (hb hby d3_18) ?_
      show Steps p.tables e below (T3.setTop (mkF m 19 #[.val (.ref aa1), .val (.int (2 : Int32))] [(.int (1 : Int32)), (.ref aa1)])) _
      refine X3.ldc2DoubleC hx hown (mvT hZ (hw _ (List.mem_of_getElem? (i := 36) rfl))) (g := (mkF m 19 #[.val (.ref aa1), .val (.int (2 : Int32))] [(.int (1 : Int32)), (.ref aa1)])) rfl (hb hby d3_19) _ ?_
      show Steps p.tables e below (T3.setTop (mkF m 22 #[.val (.ref aa1), .val (.int (2 : Int32))] [(.double (4602678819172646912 : UInt64)), (.int (1 : Int32)), (.ref aa1)])) _
      refine st5.trans ?_
      show Steps p.tables e below (T5.setTop (mkF m 25 #[.val (.ref aa1), .val (.int (2 : Int32))] [])) _
      refine XS.iloadN X5.here hx rfl (hb hby d3_25) rfl ?_
      show Steps p.tables e below (T5.setTop (mkF m 26 #[.val (.ref aa1), .val (.int (2 : Int32))] [(.int (2 : Int32))])) _
      refine XS.iconst X5.here hx rfl (hb hby d3_26) ?_
      show Steps p.tables e below (T5.setTop (mkF m 27 #[.val (.ref aa1), .val (.int (2 : Int32))] [(.int (2 : Int32)), (.int (2 : Int32))])) _
      refine XS.icmpYes X5.here hx rfl (pc0 := 27) (pc' := 38) rfl (hb hby d3_27) rfl (flt hc27_3).2.2.2 (by decide) (by decide) ?_
      show Steps p.tables e below (T5.setTop (mkF m 38 #[.val (.ref aa1), .val (.int (2 : Int32))] [])) _
      exact X5.returnOut hx Bd.returns (hb hby d3_38) hr
    · show Q3 Z aa1 pp2 b1 b2 b3 k1 k2 v1 v2 en re h0 n0 _ T5.heap _
      exact ⟨x1_5, x2_5, rfl, N5, K5, R5_0, R5_1, R5_2, (own_fcast (own_a2 h_nn) R5_3), R5_4, R5_5, R5_6, hx1_5, hx2_5⟩
  · skip
    have hc1_4 : (0 : Int32) < (3 : Int32) := by decide
    obtain ⟨cq6, kq6, q6a, q6b, q6c⟩ := isOf hZ e0 E_aa1
    obtain ⟨_, _, ⟨T6, L6, k6, n6⟩, -, X6, ⟨Lc6, hQ6, l6, y6, z6⟩, st6⟩ := X0.virtualBack hx (y := (⟨"com/example/thesaurus_rerank/thesaurusrerank/space/SparseDistances$Builder", "add", "(ID)V"⟩ : MethodName)) (z := (⟨"com/example/thesaurus_rerank/thesaurusrerank/space/SparseDistances$Builder", "add", "(ID)V"⟩ : MethodName)) hown (mvT hZ (hw _ (List.mem_of_getElem? (i := 31) rfl))) (mvT hZ (hw _ (List.mem_of_getElem? (i := 32) rfl))) (notFace_of_selects (args := #[]) (mvT hZ (hw _ (List.mem_of_getElem? (i := 34) rfl)))) (mvT hZ (hw _ (List.mem_of_getElem? (i := 34) rfl))) (mvT hZ (hw _ (List.mem_of_getElem? (i := 33) rfl))) (by decide) (backOf (W := 0) (rm5 l Z a0 hw [] aa1 (0 : Int32) (4598175219545276416 : UInt64) b1 b2 b3 k1 k2 v1 v2 en re h0 n0 Z0 E_aa1 g_aa1 g_b1 g_b2 F_aa1_columns F_aa1_distances F_aa1_rowStarts F_aa1_entries F_aa1_rowsEnded V_b1 V_b2 ne_aa1_b1 ne_aa1_b2 ne_b1_b2 (show v1.length = 16 from hl1) (show v2.length = 16 from hl2) (show own_in 16 en from own_in_mono hbd (by decide))) hZ (hw _ (List.mem_of_getElem? (i := 35) rfl)) (hw _ (List.mem_of_getElem? (i := 2) rfl)) (by decide) (by decide)) q6a q6c (g := (mkF m 9 #[.val (.ref aa1), .val (.int (3 : Int32))] [(.double (4598175219545276416 : UInt64)), (.int (0 : Int32)), (.ref aa1)])) rfl (by rw [hml]; rfl) (Steps.refl _) (argsL := [(.int (0 : Int32)), (.double (4598175219545276416 : UInt64))]) (rest := []) (lenOf pd__28_ID_29_V rfl) rfl (by show 2 * 0 + _ ≤ _; exact Nat.le_of_eq rfl) (hb hby d3_9) (fun _ _ => ⟨rfl, e0, (by decide : 0 + 0 ≤ _), (by decide : 0 + 0 ≤ _)⟩)
    dsimp only [Pt.U, Pt.locs, Pt.cells, Pt.slots] at X6 l6 y6 z6 st6 hQ6
    subst l6 y6 z6
    obtain ⟨x1_6, x2_6, rfl, N6q, K6c, R6_0, R6_1, R6_2, R6_3, R6_4, R6_5, R6_6, hx1_6, hx2_6⟩ := hQ6
    have N6 := Fr.app N0 N6q
    have Z6 : n0 ≤ T6.heap.size := Nat.le_trans Z0 K6c.1
    have K6 : Keep h0 T6.heap [aa1, b1, b2] := (Keep.refl h0 [aa1, b1, b2]).trans K6c (allS (Or.inl (List.mem_of_getElem? (i := 0) rfl)) (allS (Or.inl (List.mem_of_getElem? (i := 1) rfl)) (allS (Or.inl (List.mem_of_getElem? (i := 2) rfl)) all0)))
    have hc14_4 : (1 : Int32) < (3 : Int32) := by decide
    have E_7 : Exa Z T6.heap aa1 "com/example/thesaurus_rerank/thesaurusrerank/space/SparseDistances$Builder" := (E_aa1.keep K6c)
    obtain ⟨cq8, kq8, q8a, q8b, q8c⟩ := isOf hZ rfl E_7
    obtain ⟨_, _, ⟨T8, L8, k8, n8⟩, -, X8, ⟨Lc8, hQ8, l8, y8, z8⟩, st8⟩ := X6.virtualBack hx (y := (⟨"com/example/thesaurus_rerank/thesaurusrerank/space/SparseDistances$Builder", "add", "(ID)V"⟩ : MethodName)) (z := (⟨"com/example/thesaurus_rerank/thesaurusrerank/space/SparseDistances$Builder", "add", "(ID)V"⟩ : MethodName)) hown (mvT hZ (hw _ (List.mem_of_getElem? (i := 31) rfl))) (mvT hZ (hw _ (List.mem_of_getElem? (i := 32) rfl))) (notFace_of_selects (args := #[]) (mvT hZ (hw _ (List.mem_of_getElem? (i := 34) rfl)))) (mvT hZ (hw _ (List.mem_of_getElem? (i := 34) rfl))) (mvT hZ (hw _ (List.mem_of_getElem? (i := 33) rfl))) (by decide) (backOf (W := 0) (rm5 l Z a0 hw [] aa1 (1 : Int32) (4602678819172646912 : UInt64) b1 b2 b3 k1 k2 x1_6 x2_6 (en + (1 : Int32)) re T6.heap n0 Z6 E_7 g_aa1 g_b1 g_b2 R6_0 R6_1 R6_2 R6_3 R6_4 R6_5 R6_6 ne_aa1_b1 ne_aa1_b2 ne_b1_b2 (show x1_6.length = 16 from hx1_6) (show x2_6.length = 16 from hx2_6) (show own_in 16 (en + (1 : Int32)) from own_in_mono (own_in_add hbd own_in_1 (by decide)) (by decide))) hZ (hw _ (List.mem_of_getElem? (i := 35) rfl)) (hw _ (List.mem_of_getElem? (i := 2) rfl)) (by decide) (by decide)) q8a q8c (g := (mkF m 22 #[.val (.ref aa1), .val (.int (3 : Int32))] [(.double (4602678819172646912 : UInt64)), (.int (1 : Int32)), (.ref aa1)])) rfl (by rw [hml]; rfl) (Steps.refl _) (argsL := [(.int (1 : Int32)), (.double (4602678819172646912 : UInt64))]) (rest := []) (lenOf pd__28_ID_29_V rfl) rfl (by show 2 * 0 + _ ≤ _; exact Nat.le_of_eq rfl) (hb hby d3_22) (fun _ _ => ⟨rfl, rfl, (by decide : 0 + 0 ≤ _), (by decide : 0 + 0 ≤ _)⟩)
    dsimp only [Pt.U, Pt.locs, Pt.cells, Pt.slots] at X8 l8 y8 z8 st8 hQ8
    subst l8 y8 z8
    obtain ⟨x1_8, x2_8, rfl, N8q, K8c, R8_0, R8_1, R8_2, R8_3, R8_4, R8_5, R8_6, hx1_8, hx2_8⟩ := hQ8
    have N8 := Fr.app N6 N8q
    have Z8 : n0 ≤ T8.heap.size := Nat.le_trans Z6 K8c.1
    have K8 : Keep h0 T8.heap [aa1, b1, b2] := K6.trans K8c (allS (Or.inl (List.mem_of_getElem? (i := 0) rfl)) (allS (Or.inl (List.mem_of_getElem? (i := 1) rfl)) (allS (Or.inl (List.mem_of_getElem? (i := 2) rfl)) all0)))
    have hc27_4 : (2 : Int32) < (3 : Int32) := by decide
    have E_9 : Exa Z T8.heap aa1 "com/example/thesaurus_rerank/thesaurusrerank/space/SparseDistances$Builder" := (E_7.keep K8c)
    obtain ⟨cq10, kq10, q10a, q10b, q10c⟩ := isOf hZ rfl E_9
    obtain ⟨_, _, ⟨T10, L10, k10, n10⟩, -, X10, ⟨Lc10, hQ10, l10, y10, z10⟩, st10⟩ := X8.virtualBack hx (y := (⟨"com/example/thesaurus_rerank/thesaurusrerank/space/SparseDistances$Builder", "add", "(ID)V"⟩ : MethodName)) (z := (⟨"com/example/thesaurus_rerank/thesaurusrerank/space/SparseDistances$Builder", "add", "(ID)V"⟩ : MethodName)) hown (mvT hZ (hw _ (List.mem_of_getElem? (i := 31) rfl))) (mvT hZ (hw _ (List.mem_of_getElem? (i := 32) rfl))) (notFace_of_selects (args := #[]) (mvT hZ (hw _ (List.mem_of_getElem? (i := 34) rfl)))) (mvT hZ (hw _ (List.mem_of_getElem? (i := 34) rfl))) (mvT hZ (hw _ (List.mem_of_getElem? (i := 33) rfl))) (by decide) (backOf (W := 0) (rm5 l Z a0 hw [] aa1 (2 : Int32) (4604930618986332160 : UInt64) b1 b2 b3 k1 k2 x1_8 x2_8 ((en + (1 : Int32)) + (1 : Int32)) re T8.heap n0 Z8 E_9 g_aa1 g_b1 g_b2 R8_0 R8_1 R8_2 R8_3 R8_4 R8_5 R8_6 ne_aa1_b1 ne_aa1_b2 ne_b1_b2 (show x1_8.length = 16 from hx1_8) (show x2_8.length = 16 from hx2_8) (show own_in 16 ((en + (1 : Int32)) + (1 : Int32)) from own_in_mono (own_in_add (own_in_add hbd own_in_1 (by decide)) own_in_1 (by decide)) (by decide))) hZ (hw _ (List.mem_of_getElem? (i := 35) rfl)) (hw _ (List.mem_of_getElem? (i := 2) rfl)) (by decide) (by decide)) q10a q10c (g := (mkF m 35 #[.val (.ref aa1), .val (.int (3 : Int32))] [(.double (4604930618986332160 : UInt64)), (.int (2 : Int32)), (.ref aa1)])) rfl (by rw [hml]; rfl) (Steps.refl _) (argsL := [(.int (2 : Int32)), (.double (4604930618986332160 : UInt64))]) (rest := []) (lenOf pd__28_ID_29_V rfl) rfl (by show 2 * 0 + _ ≤ _; exact Nat.le_of_eq rfl) (hb hby d3_35) (fun _ _ => ⟨rfl, rfl, (by decide : 0 + 0 ≤ _), (by decide : 0 + 0 ≤ _)⟩)
    dsimp only [Pt.U, Pt.locs, Pt.cells, Pt.slots] at X10 l10 y10 z10 st10 hQ10
    subst l10 y10 z10
    obtain ⟨x1_10, x2_10, rfl, N10q, K10c, R10_0, R10_1, R10_2, R10_3, R10_4, R10_5, R10_6, hx1_10, hx2_10⟩ := hQ10
    have N10 := Fr.app N8 N10q
    have Z10 : n0 ≤ T10.heap.size := Nat.le_trans Z8 K10c.1
    have K10 : Keep h0 T10.heap [aa1, b1, b2] := K8.trans K10c (allS (Or.inl (List.mem_of_getElem? (i := 0) rfl)) (allS (Or.inl (List.mem_of_getElem? (i := 1) rfl)) (allS (Or.inl (List.mem_of_getElem? (i := 2) rfl)) all0)))
    obtain ⟨fs, hr, hrun, hended, hW, hsame⟩ := X10.leave (v := none) (fun _ => rfl)
    refine ⟨_, _, pre1 _ ?_, hrun, hended, _, _, rfl, ?_, ⟨_, rfl⟩, hW, hsame.mono (by decide) (by decide)⟩
    · show Steps p.tables e below (s₁.setTop (mkF m 0 #[.val (.ref aa1), .val (.int (3 : Int32))] [])) _
      refine XS.iloadN X0.here hx rfl (hb hby d3_0) rfl ?_
      show Steps p.tables e below (s₁.setTop (mkF m 1 #[.val (.ref aa1), .val (.int (3 : Int32))] [(.int (3 : Int32))])) _
      refine XS.ifNo X0.here hx rfl (hb hby d3_1) rfl ((if0 _ _).trans (tlt hc1_4).2.2.2) ?_
      show Steps p.tables e below (s₁.setTop (mkF m 4 #[.val (.ref aa1), .val (.int (3 : Int32))] [])) _
      refine XS.aloadN X0.here hx rfl (hb hby d3_4) rfl rfl ?_
      show Steps p.tables e below (s₁.setTop (mkF m 5 #[.val (.ref aa1), .val (.int (3 : Int32))] [(.ref aa1)])) _
      refine XS.iconst X0.here hx rfl (hb hby d3_5) ?_
      show Steps p.tables e below (s₁.setTop (mkF m 6 #[.val (.ref aa1), .val (.int (3 : Int32))] [(.int (0 : Int32)), (.ref aa1)])) _
      refine X0.ldc2DoubleC hx hown (mvT hZ (hw _ (List.mem_of_getElem? (i := 30) rfl))) (g := (mkF m 6 #[.val (.ref aa1), .val (.int (3 : Int32))] [(.int (0 : Int32)), (.ref aa1)])) rfl (hb hby d3_6) _ ?_
      show Steps p.tables e below (s₁.setTop (mkF m 9 #[.val (.ref aa1), .val (.int (3 : Int32))] [(.double (4598175219545276416 : UInt64)), (.int (0 : Int32)), (.ref aa1)])) _
      refine st6.trans ?_
      show Steps p.tables e below (T6.setTop (mkF m 12 #[.val (.ref aa1), .val (.int (3 : Int32))] [])) _
      refine XS.iloadN X6.here hx rfl (hb hby d3_12) rfl ?_
      show Steps p.tables e below (T6.setTop (mkF m 13 #[.val (.ref aa1), .val (.int (3 : Int32))] [(.int (3 : Int32))])) _
      refine XS.iconst X6.here hx rfl (hb hby d3_13) ?_
      show Steps p.tables e below (T6.setTop (mkF m 14 #[.val (.ref aa1), .val (.int (3 : Int32))] [(.int (1 : Int32)), (.int (3 : Int32))])) _
      refine XS.icmpNo X6.here hx rfl (hb hby d3_14) rfl (tlt hc14_4).2.2.2 ?_
      show Steps p.tables e below (T6.setTop (mkF m 17 #[.val (.ref aa1), .val (.int (3 : Int32))] [])) _
      refine XS.aloadN X6.here hx rfl (hb hby d3_17) rfl rfl ?_
      show Steps p.tables e below (T6.setTop (mkF m 18 #[.val (.ref aa1), .val (.int (3 : Int32))] [(.ref aa1)])) _
      refine XS.iconst X6.here hx rfl (hb hby d3_18) ?_
      show Steps p.tables e below (T6.setTop (mkF m 19 #[.val (.ref aa1), .val (.int (3 : Int32))] [(.int (1 : Int32)), (.ref aa1)])) _
      refine X6.ldc2DoubleC hx hown (mvT hZ (hw _ (List.mem_of_getElem? (i := 36) rfl))) (g := (mkF m 19 #[.val (.ref aa1), .val (.int (3 : Int32))] [(.int (1 : Int32)), (.ref aa1)])) rfl (hb hby d3_19) _ ?_
      show Steps p.tables e below (T6.setTop (mkF m 22 #[.val (.ref aa1), .val (.int (3 : Int32))] [(.double (4602678819172646912 : UInt64)), (.int (1 : Int32)), (.ref aa1)])) _
      refine st8.trans ?_
      show Steps p.tables e below (T8.setTop (mkF m 25 #[.val (.ref aa1), .val (.int (3 : Int32))] [])) _
      refine XS.iloadN X8.here hx rfl (hb hby d3_25) rfl ?_
      show Steps p.tables e below (T8.setTop (mkF m 26 #[.val (.ref aa1), .val (.int (3 : Int32))] [(.int (3 : Int32))])) _
      refine XS.iconst X8.here hx rfl (hb hby d3_26) ?_
      show Steps p.tables e below (T8.setTop (mkF m 27 #[.val (.ref aa1), .val (.int (3 : Int32))] [(.int (2 : Int32)), (.int (3 : Int32))])) _
      refine XS.icmpNo X8.here hx rfl (hb hby d3_27) rfl (tlt hc27_4).2.2.2 ?_
      show Steps p.tables e below (T8.setTop (mkF m 30 #[.val (.ref aa1), .val (.int (3 : Int32))] [])) _
      refine XS.aloadN X8.here hx rfl (hb hby d3_30) rfl rfl ?_
      show Steps p.tables e below (T8.setTop (mkF m 31 #[.val (.ref aa1), .val (.int (3 : Int32))] [(.ref aa1)])) _
      refine XS.iconst X8.here hx rfl (hb hby d3_31) ?_
      show Steps p.tables e below (T8.setTop (mkF m 32 #[.val (.ref aa1), .val (.int (3 : Int32))] [(.int (2 : Int32)), (.ref aa1)])) _
      refine X8.ldc2DoubleC hx hown (mvT hZ (hw _ (List.mem_of_getElem? (i := 37) rfl))) (g := (mkF m 32 #[.val (.ref aa1), .val (.int (3 : Int32))] [(.int (2 : Int32)), (.ref aa1)])) rfl (hb hby d3_32) _ ?_
      show Steps p.tables e below (T8.setTop (mkF m 35 #[.val (.ref aa1), .val (.int (3 : Int32))] [(.double (4604930618986332160 : UInt64)), (.int (2 : Int32)), (.ref aa1)])) _
      refine st10.trans ?_
      show Steps p.tables e below (T10.setTop (mkF m 38 #[.val (.ref aa1), .val (.int (3 : Int32))] [])) _
      exact X10.returnOut hx Bd.returns (hb hby d3_38) hr
    · show Q3 Z aa1 pp2 b1 b2 b3 k1 k2 v1 v2 en re h0 n0 _ T10.heap _
      exact ⟨x1_10, x2_10, rfl, N10, K10, R10_0, R10_1, R10_2, (own_fcast (own_a3 h_nn) R10_3), R10_4, R10_5, R10_6, hx1_10, hx2_10⟩
theorem d4_0 : decode prog_24_method_3_code 0 = .ok (.aload_n 0, 1) := by decide +kernel
theorem d4_1 : decode prog_24_method_3_code 1 = .ok (.dup, 1) := by decide +kernel
theorem d4_2 : decode prog_24_method_3_code 2 = .ok (.getfield 33, 3) := by decide +kernel
theorem d4_5 : decode prog_24_method_3_code 5 = .ok (.iconst 1, 1) := by decide +kernel
theorem d4_6 : decode prog_24_method_3_code 6 = .ok (.iadd, 1) := by decide +kernel
theorem d4_7 : decode prog_24_method_3_code 7 = .ok (.putfield 33, 3) := by decide +kernel
theorem d4_10 : decode prog_24_method_3_code 10 = .ok (.aload_n 0, 1) := by decide +kernel
theorem d4_11 : decode prog_24_method_3_code 11 = .ok (.getfield 17, 3) := by decide +kernel
theorem d4_14 : decode prog_24_method_3_code 14 = .ok (.aload_n 0, 1) := by decide +kernel
theorem d4_15 : decode prog_24_method_3_code 15 = .ok (.getfield 33, 3) := by decide +kernel
theorem d4_18 : decode prog_24_method_3_code 18 = .ok (.aload_n 0, 1) := by decide +kernel
theorem d4_19 : decode prog_24_method_3_code 19 = .ok (.getfield 20, 3) := by decide +kernel
theorem d4_22 : decode prog_24_method_3_code 22 = .ok (.iastore, 1) := by decide +kernel
theorem d4_23 : decode prog_24_method_3_code 23 = .ok (.return_, 1) := by decide +kernel
theorem ef_4_0 (m : MethodId) (x0 : Addr) : entryFrame m #[(.ref x0)] 1 = mkF m 0 #[.val (.ref x0)] [] := by first | (simp [entryFrame, mkF, argsToLocals, Value.category]; done) | rfl
def Q4_0 (Z : State) (aa0 : Addr) (b1 : Addr) (b2 : Addr) (b3 : Addr) (k3 : ClassId) (en : Int32) (x0 : Int32) (x1 : Int32) (x2 : Int32) (x3 : Int32) (h0 : Heap) (n0 : Nat) (v : Option Value) (h : Heap) (L : List Loc) : Prop := v = none ∧ Fr n0 L ∧ Keep h0 h [aa0, b3] ∧ (Fld Z h aa0 "com/example/thesaurus_rerank/thesaurusrerank/space/SparseDistances$Builder" "columns" "[I" (.ref b1)) ∧ (Fld Z h aa0 "com/example/thesaurus_rerank/thesaurusrerank/space/SparseDistances$Builder" "distances" "[D" (.ref b2)) ∧ (Fld Z h aa0 "com/example/thesaurus_rerank/thesaurusrerank/space/SparseDistances$Builder" "rowStarts" "[I" (.ref b3)) ∧ (Fld Z h aa0 "com/example/thesaurus_rerank/thesaurusrerank/space/SparseDistances$Builder" "entries" "I" (.int en)) ∧ (Fld Z h aa0 "com/example/thesaurus_rerank/thesaurusrerank/space/SparseDistances$Builder" "rowsEnded" "I" (.int (1 : Int32))) ∧ (Arv Z h b3 k3 .int (4 : Int32) [(.int x0), (.int en), (.int x2), (.int x3)] (.int (0 : Int32)))
set_option maxRecDepth 65536 in
set_option maxHeartbeats 40000000 in
theorem rm4_0 (l : Launch) (Z : State) (a0 : Array Value) (hw : ∀ d ∈ tables_1, d.before a0 Z = true) (ws : List Jvm.Cond) (aa0 : Addr) (b1 : Addr) (b2 : Addr) (b3 : Addr) (k3 : ClassId) (en : Int32) (x0 : Int32) (x1 : Int32) (x2 : Int32) (x3 : Int32) (h0 : Heap) (n0 : Nat) (Z0 : n0 ≤ h0.size) (E_aa0 : Exa Z h0 aa0 "com/example/thesaurus_rerank/thesaurusrerank/space/SparseDistances$Builder") (g_aa0 : n0 ≤ aa0) (g_b3 : n0 ≤ b3) (ne_aa0_b3 : aa0 ≠ b3) (F_aa0_columns : Fld Z h0 aa0 "com/example/thesaurus_rerank/thesaurusrerank/space/SparseDistances$Builder" "columns" "[I" (.ref b1)) (F_aa0_distances : Fld Z h0 aa0 "com/example/thesaurus_rerank/thesaurusrerank/space/SparseDistances$Builder" "distances" "[D" (.ref b2)) (F_aa0_rowStarts : Fld Z h0 aa0 "com/example/thesaurus_rerank/thesaurusrerank/space/SparseDistances$Builder" "rowStarts" "[I" (.ref b3)) (F_aa0_entries : Fld Z h0 aa0 "com/example/thesaurus_rerank/thesaurusrerank/space/SparseDistances$Builder" "entries" "I" (.int en)) (F_aa0_rowsEnded : Fld Z h0 aa0 "com/example/thesaurus_rerank/thesaurusrerank/space/SparseDistances$Builder" "rowsEnded" "I" (.int (0 : Int32))) (V_b3 : Arv Z h0 b3 k3 .int (4 : Int32) [(.int x0), (.int x1), (.int x2), (.int x3)] (.int (0 : Int32))) :
    MetFree l (⟨"com/example/thesaurus_rerank/thesaurusrerank/space/SparseDistances$Builder", "endRow", "()V"⟩ : MethodName) (head1 (Jvm.Cond.code (⟨"com/example/thesaurus_rerank/thesaurusrerank/space/SparseDistances$Builder", "endRow", "()V"⟩ : MethodName) prog_24_method_3_code 1 none :: ws) ({ frames := 0, cells := 0, slots := 0, locals := 0 } : Room)) (fun a U => a = #[(.ref aa0)] ∧ Z.Warmed39 U.vm ∧ U.heap = h0) (fun _ _ _ _ _ => True) (fun _ U o U' => ∃ v L, o = .returned v ∧ Q4_0 Z aa0 b1 b2 b3 k3 en x0 x1 x2 x3 h0 n0 v U'.heap L ∧ FrameEnd U o U' L ({ frames := 0, cells := 0, slots := 0, locals := 0 } : Room).cells ({ frames := 0, cells := 0, slots := 0, locals := 0 } : Room).slots) := by
  refine MetFree.of_bodySF (plainFor_of_name pn_com_example_thesaurus_rerank_thesaurusrerank_space_SparseDistances_Builder) hisR ?_
  intro p e s m args below meth c s₁ Bd hml0 hP hK
  obtain ⟨rfl, hZ, hh⟩ := hP
  have hx := Bd.exec
  have hby := Bd.bytes
  have hml : c.maxLocals = 1 := hml0
  have hown : s.vm.findClass "com/example/thesaurus_rerank/thesaurusrerank/space/SparseDistances$Builder" = some m.cls := findClass_of_methodNamed Bd.named
  have hnm := (name_of_methodNamed Bd.named Bd.method).1
  have X0 : Stand p l e ({ frames := 0, cells := 0, slots := 0, locals := 0 } : Room) s m #[(.ref aa0)] below meth c s₁ [] 0 0 := Stand.of_body Bd
  have e0 : s₁.heap = h0 := by rw [← hh, Bd.state]; rfl
  have N0 := Fr.nil n0
  have pre0 : ∀ t, Steps p.tables e below (s₁.setTop (mkF m 0 #[.val (.ref aa0)] [])) t → Steps p.tables e below (s₁.setTop (entryFrame m #[(.ref aa0)] 1)) t := fun t k => castTop (ef_4_0 m aa0) k
  obtain ⟨T1, X1, e1, st1⟩ := getF X0 hx hZ hown (host := "") (Or.inl (hw _ (List.mem_of_getElem? (i := 26) rfl))) Via.refl e0 F_aa0_rowsEnded (g := (mkF m 2 #[.val (.ref aa0)] [(.ref aa0), (.ref aa0)])) rfl rfl (hb hby d4_2)
  obtain ⟨T2, h2, X2, e2, W2, st2⟩ := putF X1 hx hZ hown (host := "") (Or.inl (hw _ (List.mem_of_getElem? (i := 26) rfl))) Via.refl e1 F_aa0_rowsEnded E_aa0 (Or.inl (hw _ (List.mem_of_getElem? (i := 27) rfl))) (hw _ (List.mem_of_getElem? (i := 1) rfl)) (ty := .int) (by decide) rfl rfl (g := (mkF m 7 #[.val (.ref aa0)] [(.int (1 : Int32)), (.ref aa0)])) rfl rfl (hb hby d4_7)
  have N2 := Fr.snoc X2 N0 g_aa0
  have Z2 : n0 ≤ h2.size := Nat.le_trans Z0 (Keep.of_wr W2).1
  have K2 : Keep h0 h2 [aa0, b3] := (Keep.refl h0 [aa0, b3]).wr W2 (Or.inl (List.mem_of_getElem? (i := 0) rfl))
  have F2 : Fld Z h2 aa0 "com/example/thesaurus_rerank/thesaurusrerank/space/SparseDistances$Builder" "rowsEnded" "I" (.int (1 : Int32)) := F_aa0_rowsEnded.same W2
  have F_3 : Fld Z h2 aa0 "com/example/thesaurus_rerank/thesaurusrerank/space/SparseDistances$Builder" "rowStarts" "[I" (.ref b3) := (F_aa0_rowStarts.other W2 (Or.inr (slot_ne (Or.inr (hw _ (List.mem_of_getElem? (i := 16) rfl))) (Or.inl (hw _ (List.mem_of_getElem? (i := 27) rfl))) (by decide) (t := (.array .int)) (t' := .int) (by decide) (by decide))))
  obtain ⟨T4, X4, e4, st4⟩ := getF X2 hx hZ hown (host := "") (Or.inl (hw _ (List.mem_of_getElem? (i := 15) rfl))) Via.refl e2 F_3 (g := (mkF m 11 #[.val (.ref aa0)] [(.ref aa0)])) rfl rfl (hb hby d4_11)
  obtain ⟨T5, X5, e5, st5⟩ := getF X4 hx hZ hown (host := "") (Or.inl (hw _ (List.mem_of_getElem? (i := 26) rfl))) Via.refl e4 F2 (g := (mkF m 15 #[.val (.ref aa0)] [(.ref aa0), (.ref b3)])) rfl rfl (hb hby d4_15)
  have F_6 : Fld Z h2 aa0 "com/example/thesaurus_rerank/thesaurusrerank/space/SparseDistances$Builder" "entries" "I" (.int en) := (F_aa0_entries.other W2 (Or.inr (slot_ne (Or.inl (hw _ (List.mem_of_getElem? (i := 29) rfl))) (Or.inl (hw _ (List.mem_of_getElem? (i := 27) rfl))) (by decide) (t := .int) (t' := .int) (by decide) (by decide))))
  obtain ⟨T7, X7, e7, st7⟩ := getF X5 hx hZ hown (host := "") (Or.inl (hw _ (List.mem_of_getElem? (i := 28) rfl))) Via.refl e5 F_6 (g := (mkF m 19 #[.val (.ref aa0)] [(.ref aa0), (.int (1 : Int32)), (.ref b3)])) rfl rfl (hb hby d4_19)
  have V_8 : Arv Z h2 b3 k3 .int (4 : Int32) [(.int x0), (.int x1), (.int x2), (.int x3)] (.int (0 : Int32)) := (V_b3.other W2 (Ne.symm ne_aa0_b3))
  obtain ⟨cl_9, Ar_9, qq_9, Sz_9, Nn_9, Hh_9, Gg_9⟩ := id V_8
  have hin_9 : ¬ ((1 : Int32) < 0 ∨ cl_9.slots.size ≤ ((1 : Int32)).toNatClampNeg) := inb_of Sz_9 ⟨by decide, by decide⟩
  obtain ⟨T10, h10, X10, e10, W10, st10⟩ := stI X7 hx hZ e7 Ar_9 (j := (1 : Int32)) hin_9 (g := (mkF m 22 #[.val (.ref aa0)] [(.int en), (.int (1 : Int32)), (.ref b3)])) rfl rfl (hb hby d4_22)
  have N10 := Fr.snoc X10 N2 g_b3
  have Z10 : n0 ≤ h10.size := Nat.le_trans Z2 (Keep.of_wr W10).1
  have K10 : Keep h0 h10 [aa0, b3] := K2.wr W10 (Or.inl (List.mem_of_getElem? (i := 1) rfl))
  have V10 : Arv Z h10 b3 k3 .int (4 : Int32) [(.int x0), (.int en), (.int x2), (.int x3)] (.int (0 : Int32)) := Arv.set Ar_9 qq_9 Sz_9 Nn_9 Hh_9 Gg_9 rfl W10 1 rfl (Nat.le_of_ble_eq_true rfl)
  have F_11 : Fld Z h10 aa0 "com/example/thesaurus_rerank/thesaurusrerank/space/SparseDistances$Builder" "columns" "[I" (.ref b1) := ((F_aa0_columns.other W2 (Or.inr (slot_ne (Or.inl (hw _ (List.mem_of_getElem? (i := 11) rfl))) (Or.inl (hw _ (List.mem_of_getElem? (i := 27) rfl))) (by decide) (t := (.array .int)) (t' := .int) (by decide) (by decide)))).other W10 (Or.inl ne_aa0_b3))
  have F_12 : Fld Z h10 aa0 "com/example/thesaurus_rerank/thesaurusrerank/space/SparseDistances$Builder" "distances" "[D" (.ref b2) := ((F_aa0_distances.other W2 (Or.inr (slot_ne (Or.inl (hw _ (List.mem_of_getElem? (i := 14) rfl))) (Or.inl (hw _ (List.mem_of_getElem? (i := 27) rfl))) (by decide) (t := (.array .double)) (t' := .int) (by decide) (by decide)))).other W10 (Or.inl ne_aa0_b3))
  have F_13 : Fld Z h10 aa0 "com/example/thesaurus_rerank/thesaurusrerank/space/SparseDistances$Builder" "rowStarts" "[I" (.ref b3) := (F_3.other W10 (Or.inl ne_aa0_b3))
  have F_14 : Fld Z h10 aa0 "com/example/thesaurus_rerank/thesaurusrerank/space/SparseDistances$Builder" "entries" "I" (.int en) := (F_6.other W10 (Or.inl ne_aa0_b3))
  have F_15 : Fld Z h10 aa0 "com/example/thesaurus_rerank/thesaurusrerank/space/SparseDistances$Builder" "rowsEnded" "I" (.int (1 : Int32)) := (F2.other W10 (Or.inl ne_aa0_b3))
  obtain ⟨fs, hr, hrun, hended, hW, hsame⟩ := X10.leave (v := none) (fun _ => rfl)
  refine ⟨_, _, pre0 _ ?_, hrun, hended, _, _, rfl, ?_, ⟨_, rfl⟩, hW, hsame.mono (by decide) (by decide)⟩
  · show Steps p.tables e below (s₁.setTop (mkF m 0 #[.val (.ref aa0)] [])) _
    refine XS.aloadN X0.here hx rfl (hb hby d4_0) rfl rfl ?_
    show Steps p.tables e below (s₁.setTop (mkF m 1 #[.val (.ref aa0)] [(.ref aa0)])) _
    refine XS.dup X0.here hx rfl (hb hby d4_1) rfl rfl ?_
    show Steps p.tables e below (s₁.setTop (mkF m 2 #[.val (.ref aa0)] [(.ref aa0), (.ref aa0)])) _
    refine st1 _ ?_
    show Steps p.tables e below (T1.setTop (mkF m 5 #[.val (.ref aa0)] [(.int (0 : Int32)), (.ref aa0)])) _
    refine XS.iconst X1.here hx rfl (hb hby d4_5) ?_
    show Steps p.tables e below (T1.setTop (mkF m 6 #[.val (.ref aa0)] [(.int (1 : Int32)), (.int (0 : Int32)), (.ref aa0)])) _
    refine XS.iadd X1.here hx rfl (hb hby d4_6) rfl ?_
    show Steps p.tables e below (T1.setTop (mkF m 7 #[.val (.ref aa0)] [(.int (1 : Int32)), (.ref aa0)])) _
    refine st2 _ ?_
    show Steps p.tables e below (T2.setTop (mkF m 10 #[.val (.ref aa0)] [])) _
    refine XS.aloadN X2.here hx rfl (hb hby d4_10) rfl rfl ?_
    show Steps p.tables e below (T2.setTop (mkF m 11 #[.val (.ref aa0)] [(.ref aa0)])) _
    refine st4 _ ?_
    show Steps p.tables e below (T4.setTop (mkF m 14 #[.val (.ref aa0)] [(.ref b3)])) _
    refine XS.aloadN X4.here hx rfl (hb hby d4_14) rfl rfl ?_
    show Steps p.tables e below (T4.setTop (mkF m 15 #[.val (.ref aa0)] [(.ref aa0), (.ref b3)])) _
    refine st5 _ ?_
    show Steps p.tables e below (T5.setTop (mkF m 18 #[.val (.ref aa0)] [(.int (1 : Int32)), (.ref b3)])) _
    refine XS.aloadN X5.here hx rfl (hb hby d4_18) rfl rfl ?_
    show Steps p.tables e below (T5.setTop (mkF m 19 #[.val (.ref aa0)] [(.ref aa0), (.int (1 : Int32)), (.ref b3)])) _
    refine st7 _ ?_
    show Steps p.tables e below (T7.setTop (mkF m 22 #[.val (.ref aa0)] [(.int en), (.int (1 : Int32)), (.ref b3)])) _
    refine st10 _ ?_
    show Steps p.tables e below (T10.setTop (mkF m 23 #[.val (.ref aa0)] [])) _
    exact X10.returnOut hx Bd.returns (hb hby d4_23) hr
  · show Q4_0 Z aa0 b1 b2 b3 k3 en x0 x1 x2 x3 h0 n0 _ T10.heap _
    rw [e10]
    exact ⟨rfl, N10, K10, F_11, F_12, F_13, F_14, F_15, V10⟩
theorem ef_4_1 (m : MethodId) (x0 : Addr) : entryFrame m #[(.ref x0)] 1 = mkF m 0 #[.val (.ref x0)] [] := by first | (simp [entryFrame, mkF, argsToLocals, Value.category]; done) | rfl
def Q4_1 (Z : State) (aa0 : Addr) (b1 : Addr) (b2 : Addr) (b3 : Addr) (k3 : ClassId) (en : Int32) (x0 : Int32) (x1 : Int32) (x2 : Int32) (x3 : Int32) (h0 : Heap) (n0 : Nat) (v : Option Value) (h : Heap) (L : List Loc) : Prop := v = none ∧ Fr n0 L ∧ Keep h0 h [aa0, b3] ∧ (Fld Z h aa0 "com/example/thesaurus_rerank/thesaurusrerank/space/SparseDistances$Builder" "columns" "[I" (.ref b1)) ∧ (Fld Z h aa0 "com/example/thesaurus_rerank/thesaurusrerank/space/SparseDistances$Builder" "distances" "[D" (.ref b2)) ∧ (Fld Z h aa0 "com/example/thesaurus_rerank/thesaurusrerank/space/SparseDistances$Builder" "rowStarts" "[I" (.ref b3)) ∧ (Fld Z h aa0 "com/example/thesaurus_rerank/thesaurusrerank/space/SparseDistances$Builder" "entries" "I" (.int en)) ∧ (Fld Z h aa0 "com/example/thesaurus_rerank/thesaurusrerank/space/SparseDistances$Builder" "rowsEnded" "I" (.int (2 : Int32))) ∧ (Arv Z h b3 k3 .int (4 : Int32) [(.int x0), (.int x1), (.int en), (.int x3)] (.int (0 : Int32)))
set_option maxRecDepth 65536 in
set_option maxHeartbeats 40000000 in
theorem rm4_1 (l : Launch) (Z : State) (a0 : Array Value) (hw : ∀ d ∈ tables_1, d.before a0 Z = true) (ws : List Jvm.Cond) (aa0 : Addr) (b1 : Addr) (b2 : Addr) (b3 : Addr) (k3 : ClassId) (en : Int32) (x0 : Int32) (x1 : Int32) (x2 : Int32) (x3 : Int32) (h0 : Heap) (n0 : Nat) (Z0 : n0 ≤ h0.size) (E_aa0 : Exa Z h0 aa0 "com/example/thesaurus_rerank/thesaurusrerank/space/SparseDistances$Builder") (g_aa0 : n0 ≤ aa0) (g_b3 : n0 ≤ b3) (ne_aa0_b3 : aa0 ≠ b3) (F_aa0_columns : Fld Z h0 aa0 "com/example/thesaurus_rerank/thesaurusrerank/space/SparseDistances$Builder" "columns" "[I" (.ref b1)) (F_aa0_distances : Fld Z h0 aa0 "com/example/thesaurus_rerank/thesaurusrerank/space/SparseDistances$Builder" "distances" "[D" (.ref b2)) (F_aa0_rowStarts : Fld Z h0 aa0 "com/example/thesaurus_rerank/thesaurusrerank/space/SparseDistances$Builder" "rowStarts" "[I" (.ref b3)) (F_aa0_entries : Fld Z h0 aa0 "com/example/thesaurus_rerank/thesaurusrerank/space/SparseDistances$Builder" "entries" "I" (.int en)) (F_aa0_rowsEnded : Fld Z h0 aa0 "com/example/thesaurus_rerank/thesaurusrerank/space/SparseDistances$Builder" "rowsEnded" "I" (.int (1 : Int32))) (V_b3 : Arv Z h0 b3 k3 .int (4 : Int32) [(.int x0), (.int x1), (.int x2), (.int x3)] (.int (0 : Int32))) :
    MetFree l (⟨"com/example/thesaurus_rerank/thesaurusrerank/space/SparseDistances$Builder", "endRow", "()V"⟩ : MethodName) (head1 (Jvm.Cond.code (⟨"com/example/thesaurus_rerank/thesaurusrerank/space/SparseDistances$Builder", "endRow", "()V"⟩ : MethodName) prog_24_method_3_code 1 none :: ws) ({ frames := 0, cells := 0, slots := 0, locals := 0 } : Room)) (fun a U => a = #[(.ref aa0)] ∧ Z.Warmed39 U.vm ∧ U.heap = h0) (fun _ _ _ _ _ => True) (fun _ U o U' => ∃ v L, o = .returned v ∧ Q4_1 Z aa0 b1 b2 b3 k3 en x0 x1 x2 x3 h0 n0 v U'.heap L ∧ FrameEnd U o U' L ({ frames := 0, cells := 0, slots := 0, locals := 0 } : Room).cells ({ frames := 0, cells := 0, slots := 0, locals := 0 } : Room).slots) := by
  refine MetFree.of_bodySF (plainFor_of_name pn_com_example_thesaurus_rerank_thesaurusrerank_space_SparseDistances_Builder) hisR ?_
  intro p e s m args below meth c s₁ Bd hml0 hP hK
  obtain ⟨rfl, hZ, hh⟩ := hP
  have hx := Bd.exec
  have hby := Bd.bytes
  have hml : c.maxLocals = 1 := hml0
  have hown : s.vm.findClass "com/example/thesaurus_rerank/thesaurusrerank/space/SparseDistances$Builder" = some m.cls := findClass_of_methodNamed Bd.named
  have hnm := (name_of_methodNamed Bd.named Bd.method).1
  have X0 : Stand p l e ({ frames := 0, cells := 0, slots := 0, locals := 0 } : Room) s m #[(.ref aa0)] below meth c s₁ [] 0 0 := Stand.of_body Bd
  have e0 : s₁.heap = h0 := by rw [← hh, Bd.state]; rfl
  have N0 := Fr.nil n0
  have pre0 : ∀ t, Steps p.tables e below (s₁.setTop (mkF m 0 #[.val (.ref aa0)] [])) t → Steps p.tables e below (s₁.setTop (entryFrame m #[(.ref aa0)] 1)) t := fun t k => castTop (ef_4_1 m aa0) k
  obtain ⟨T1, X1, e1, st1⟩ := getF X0 hx hZ hown (host := "") (Or.inl (hw _ (List.mem_of_getElem? (i := 26) rfl))) Via.refl e0 F_aa0_rowsEnded (g := (mkF m 2 #[.val (.ref aa0)] [(.ref aa0), (.ref aa0)])) rfl rfl (hb hby d4_2)
  obtain ⟨T2, h2, X2, e2, W2, st2⟩ := putF X1 hx hZ hown (host := "") (Or.inl (hw _ (List.mem_of_getElem? (i := 26) rfl))) Via.refl e1 F_aa0_rowsEnded E_aa0 (Or.inl (hw _ (List.mem_of_getElem? (i := 27) rfl))) (hw _ (List.mem_of_getElem? (i := 1) rfl)) (ty := .int) (by decide) rfl rfl (g := (mkF m 7 #[.val (.ref aa0)] [(.int (2 : Int32)), (.ref aa0)])) rfl rfl (hb hby d4_7)
  have N2 := Fr.snoc X2 N0 g_aa0
  have Z2 : n0 ≤ h2.size := Nat.le_trans Z0 (Keep.of_wr W2).1
  have K2 : Keep h0 h2 [aa0, b3] := (Keep.refl h0 [aa0, b3]).wr W2 (Or.inl (List.mem_of_getElem? (i := 0) rfl))
  have F2 : Fld Z h2 aa0 "com/example/thesaurus_rerank/thesaurusrerank/space/SparseDistances$Builder" "rowsEnded" "I" (.int (2 : Int32)) := F_aa0_rowsEnded.same W2
  have F_3 : Fld Z h2 aa0 "com/example/thesaurus_rerank/thesaurusrerank/space/SparseDistances$Builder" "rowStarts" "[I" (.ref b3) := (F_aa0_rowStarts.other W2 (Or.inr (slot_ne (Or.inr (hw _ (List.mem_of_getElem? (i := 16) rfl))) (Or.inl (hw _ (List.mem_of_getElem? (i := 27) rfl))) (by decide) (t := (.array .int)) (t' := .int) (by decide) (by decide))))
  obtain ⟨T4, X4, e4, st4⟩ := getF X2 hx hZ hown (host := "") (Or.inl (hw _ (List.mem_of_getElem? (i := 15) rfl))) Via.refl e2 F_3 (g := (mkF m 11 #[.val (.ref aa0)] [(.ref aa0)])) rfl rfl (hb hby d4_11)
  obtain ⟨T5, X5, e5, st5⟩ := getF X4 hx hZ hown (host := "") (Or.inl (hw _ (List.mem_of_getElem? (i := 26) rfl))) Via.refl e4 F2 (g := (mkF m 15 #[.val (.ref aa0)] [(.ref aa0), (.ref b3)])) rfl rfl (hb hby d4_15)
  have F_6 : Fld Z h2 aa0 "com/example/thesaurus_rerank/thesaurusrerank/space/SparseDistances$Builder" "entries" "I" (.int en) := (F_aa0_entries.other W2 (Or.inr (slot_ne (Or.inl (hw _ (List.mem_of_getElem? (i := 29) rfl))) (Or.inl (hw _ (List.mem_of_getElem? (i := 27) rfl))) (by decide) (t := .int) (t' := .int) (by decide) (by decide))))
  obtain ⟨T7, X7, e7, st7⟩ := getF X5 hx hZ hown (host := "") (Or.inl (hw _ (List.mem_of_getElem? (i := 28) rfl))) Via.refl e5 F_6 (g := (mkF m 19 #[.val (.ref aa0)] [(.ref aa0), (.int (2 : Int32)), (.ref b3)])) rfl rfl (hb hby d4_19)
  have V_8 : Arv Z h2 b3 k3 .int (4 : Int32) [(.int x0), (.int x1), (.int x2), (.int x3)] (.int (0 : Int32)) := (V_b3.other W2 (Ne.symm ne_aa0_b3))
  obtain ⟨cl_9, Ar_9, qq_9, Sz_9, Nn_9, Hh_9, Gg_9⟩ := id V_8
  have hin_9 : ¬ ((2 : Int32) < 0 ∨ cl_9.slots.size ≤ ((2 : Int32)).toNatClampNeg) := inb_of Sz_9 ⟨by decide, by decide⟩
  obtain ⟨T10, h10, X10, e10, W10, st10⟩ := stI X7 hx hZ e7 Ar_9 (j := (2 : Int32)) hin_9 (g := (mkF m 22 #[.val (.ref aa0)] [(.int en), (.int (2 : Int32)), (.ref b3)])) rfl rfl (hb hby d4_22)
  have N10 := Fr.snoc X10 N2 g_b3
  have Z10 : n0 ≤ h10.size := Nat.le_trans Z2 (Keep.of_wr W10).1
  have K10 : Keep h0 h10 [aa0, b3] := K2.wr W10 (Or.inl (List.mem_of_getElem? (i := 1) rfl))
  have V10 : Arv Z h10 b3 k3 .int (4 : Int32) [(.int x0), (.int x1), (.int en), (.int x3)] (.int (0 : Int32)) := Arv.set Ar_9 qq_9 Sz_9 Nn_9 Hh_9 Gg_9 rfl W10 2 rfl (Nat.le_of_ble_eq_true rfl)
  have F_11 : Fld Z h10 aa0 "com/example/thesaurus_rerank/thesaurusrerank/space/SparseDistances$Builder" "columns" "[I" (.ref b1) := ((F_aa0_columns.other W2 (Or.inr (slot_ne (Or.inl (hw _ (List.mem_of_getElem? (i := 11) rfl))) (Or.inl (hw _ (List.mem_of_getElem? (i := 27) rfl))) (by decide) (t := (.array .int)) (t' := .int) (by decide) (by decide)))).other W10 (Or.inl ne_aa0_b3))
  have F_12 : Fld Z h10 aa0 "com/example/thesaurus_rerank/thesaurusrerank/space/SparseDistances$Builder" "distances" "[D" (.ref b2) := ((F_aa0_distances.other W2 (Or.inr (slot_ne (Or.inl (hw _ (List.mem_of_getElem? (i := 14) rfl))) (Or.inl (hw _ (List.mem_of_getElem? (i := 27) rfl))) (by decide) (t := (.array .double)) (t' := .int) (by decide) (by decide)))).other W10 (Or.inl ne_aa0_b3))
  have F_13 : Fld Z h10 aa0 "com/example/thesaurus_rerank/thesaurusrerank/space/SparseDistances$Builder" "rowStarts" "[I" (.ref b3) := (F_3.other W10 (Or.inl ne_aa0_b3))
  have F_14 : Fld Z h10 aa0 "com/example/thesaurus_rerank/thesaurusrerank/space/SparseDistances$Builder" "entries" "I" (.int en) := (F_6.other W10 (Or.inl ne_aa0_b3))
  have F_15 : Fld Z h10 aa0 "com/example/thesaurus_rerank/thesaurusrerank/space/SparseDistances$Builder" "rowsEnded" "I" (.int (2 : Int32)) := (F2.other W10 (Or.inl ne_aa0_b3))
  obtain ⟨fs, hr, hrun, hended, hW, hsame⟩ := X10.leave (v := none) (fun _ => rfl)
  refine ⟨_, _, pre0 _ ?_, hrun, hended, _, _, rfl, ?_, ⟨_, rfl⟩, hW, hsame.mono (by decide) (by decide)⟩
  · show Steps p.tables e below (s₁.setTop (mkF m 0 #[.val (.ref aa0)] [])) _
    refine XS.aloadN X0.here hx rfl (hb hby d4_0) rfl rfl ?_
    show Steps p.tables e below (s₁.setTop (mkF m 1 #[.val (.ref aa0)] [(.ref aa0)])) _
    refine XS.dup X0.here hx rfl (hb hby d4_1) rfl rfl ?_
    show Steps p.tables e below (s₁.setTop (mkF m 2 #[.val (.ref aa0)] [(.ref aa0), (.ref aa0)])) _
    refine st1 _ ?_
    show Steps p.tables e below (T1.setTop (mkF m 5 #[.val (.ref aa0)] [(.int (1 : Int32)), (.ref aa0)])) _
    refine XS.iconst X1.here hx rfl (hb hby d4_5) ?_
    show Steps p.tables e below (T1.setTop (mkF m 6 #[.val (.ref aa0)] [(.int (1 : Int32)), (.int (1 : Int32)), (.ref aa0)])) _
    refine XS.iadd X1.here hx rfl (hb hby d4_6) rfl ?_
    show Steps p.tables e below (T1.setTop (mkF m 7 #[.val (.ref aa0)] [(.int (2 : Int32)), (.ref aa0)])) _
    refine st2 _ ?_
    show Steps p.tables e below (T2.setTop (mkF m 10 #[.val (.ref aa0)] [])) _
    refine XS.aloadN X2.here hx rfl (hb hby d4_10) rfl rfl ?_
    show Steps p.tables e below (T2.setTop (mkF m 11 #[.val (.ref aa0)] [(.ref aa0)])) _
    refine st4 _ ?_
    show Steps p.tables e below (T4.setTop (mkF m 14 #[.val (.ref aa0)] [(.ref b3)])) _
    refine XS.aloadN X4.here hx rfl (hb hby d4_14) rfl rfl ?_
    show Steps p.tables e below (T4.setTop (mkF m 15 #[.val (.ref aa0)] [(.ref aa0), (.ref b3)])) _
    refine st5 _ ?_
    show Steps p.tables e below (T5.setTop (mkF m 18 #[.val (.ref aa0)] [(.int (2 : Int32)), (.ref b3)])) _
    refine XS.aloadN X5.here hx rfl (hb hby d4_18) rfl rfl ?_
    show Steps p.tables e below (T5.setTop (mkF m 19 #[.val (.ref aa0)] [(.ref aa0), (.int (2 : Int32)), (.ref b3)])) _
    refine st7 _ ?_
    show Steps p.tables e below (T7.setTop (mkF m 22 #[.val (.ref aa0)] [(.int en), (.int (2 : Int32)), (.ref b3)])) _
    refine st10 _ ?_
    show Steps p.tables e below (T10.setTop (mkF m 23 #[.val (.ref aa0)] [])) _
    exact X10.returnOut hx Bd.returns (hb hby d4_23) hr
  · show Q4_1 Z aa0 b1 b2 b3 k3 en x0 x1 x2 x3 h0 n0 _ T10.heap _
    rw [e10]
    exact ⟨rfl, N10, K10, F_11, F_12, F_13, F_14, F_15, V10⟩
theorem ef_4_2 (m : MethodId) (x0 : Addr) : entryFrame m #[(.ref x0)] 1 = mkF m 0 #[.val (.ref x0)] [] := by first | (simp [entryFrame, mkF, argsToLocals, Value.category]; done) | rfl
def Q4_2 (Z : State) (aa0 : Addr) (b1 : Addr) (b2 : Addr) (b3 : Addr) (k3 : ClassId) (en : Int32) (x0 : Int32) (x1 : Int32) (x2 : Int32) (x3 : Int32) (h0 : Heap) (n0 : Nat) (v : Option Value) (h : Heap) (L : List Loc) : Prop := v = none ∧ Fr n0 L ∧ Keep h0 h [aa0, b3] ∧ (Fld Z h aa0 "com/example/thesaurus_rerank/thesaurusrerank/space/SparseDistances$Builder" "columns" "[I" (.ref b1)) ∧ (Fld Z h aa0 "com/example/thesaurus_rerank/thesaurusrerank/space/SparseDistances$Builder" "distances" "[D" (.ref b2)) ∧ (Fld Z h aa0 "com/example/thesaurus_rerank/thesaurusrerank/space/SparseDistances$Builder" "rowStarts" "[I" (.ref b3)) ∧ (Fld Z h aa0 "com/example/thesaurus_rerank/thesaurusrerank/space/SparseDistances$Builder" "entries" "I" (.int en)) ∧ (Fld Z h aa0 "com/example/thesaurus_rerank/thesaurusrerank/space/SparseDistances$Builder" "rowsEnded" "I" (.int (3 : Int32))) ∧ (Arv Z h b3 k3 .int (4 : Int32) [(.int x0), (.int x1), (.int x2), (.int en)] (.int (0 : Int32)))
set_option maxRecDepth 65536 in
set_option maxHeartbeats 40000000 in
theorem rm4_2 (l : Launch) (Z : State) (a0 : Array Value) (hw : ∀ d ∈ tables_1, d.before a0 Z = true) (ws : List Jvm.Cond) (aa0 : Addr) (b1 : Addr) (b2 : Addr) (b3 : Addr) (k3 : ClassId) (en : Int32) (x0 : Int32) (x1 : Int32) (x2 : Int32) (x3 : Int32) (h0 : Heap) (n0 : Nat) (Z0 : n0 ≤ h0.size) (E_aa0 : Exa Z h0 aa0 "com/example/thesaurus_rerank/thesaurusrerank/space/SparseDistances$Builder") (g_aa0 : n0 ≤ aa0) (g_b3 : n0 ≤ b3) (ne_aa0_b3 : aa0 ≠ b3) (F_aa0_columns : Fld Z h0 aa0 "com/example/thesaurus_rerank/thesaurusrerank/space/SparseDistances$Builder" "columns" "[I" (.ref b1)) (F_aa0_distances : Fld Z h0 aa0 "com/example/thesaurus_rerank/thesaurusrerank/space/SparseDistances$Builder" "distances" "[D" (.ref b2)) (F_aa0_rowStarts : Fld Z h0 aa0 "com/example/thesaurus_rerank/thesaurusrerank/space/SparseDistances$Builder" "rowStarts" "[I" (.ref b3)) (F_aa0_entries : Fld Z h0 aa0 "com/example/thesaurus_rerank/thesaurusrerank/space/SparseDistances$Builder" "entries" "I" (.int en)) (F_aa0_rowsEnded : Fld Z h0 aa0 "com/example/thesaurus_rerank/thesaurusrerank/space/SparseDistances$Builder" "rowsEnded" "I" (.int (2 : Int32))) (V_b3 : Arv Z h0 b3 k3 .int (4 : Int32) [(.int x0), (.int x1), (.int x2), (.int x3)] (.int (0 : Int32))) :
    MetFree l (⟨"com/example/thesaurus_rerank/thesaurusrerank/space/SparseDistances$Builder", "endRow", "()V"⟩ : MethodName) (head1 (Jvm.Cond.code (⟨"com/example/thesaurus_rerank/thesaurusrerank/space/SparseDistances$Builder", "endRow", "()V"⟩ : MethodName) prog_24_method_3_code 1 none :: ws) ({ frames := 0, cells := 0, slots := 0, locals := 0 } : Room)) (fun a U => a = #[(.ref aa0)] ∧ Z.Warmed39 U.vm ∧ U.heap = h0) (fun _ _ _ _ _ => True) (fun _ U o U' => ∃ v L, o = .returned v ∧ Q4_2 Z aa0 b1 b2 b3 k3 en x0 x1 x2 x3 h0 n0 v U'.heap L ∧ FrameEnd U o U' L ({ frames := 0, cells := 0, slots := 0, locals := 0 } : Room).cells ({ frames := 0, cells := 0, slots := 0, locals := 0 } : Room).slots) := by
  refine MetFree.of_bodySF (plainFor_of_name pn_com_example_thesaurus_rerank_thesaurusrerank_space_SparseDistances_Builder) hisR ?_
  intro p e s m args below meth c s₁ Bd hml0 hP hK
  obtain ⟨rfl, hZ, hh⟩ := hP
  have hx := Bd.exec
  have hby := Bd.bytes
  have hml : c.maxLocals = 1 := hml0
  have hown : s.vm.findClass "com/example/thesaurus_rerank/thesaurusrerank/space/SparseDistances$Builder" = some m.cls := findClass_of_methodNamed Bd.named
  have hnm := (name_of_methodNamed Bd.named Bd.method).1
  have X0 : Stand p l e ({ frames := 0, cells := 0, slots := 0, locals := 0 } : Room) s m #[(.ref aa0)] below meth c s₁ [] 0 0 := Stand.of_body Bd
  have e0 : s₁.heap = h0 := by rw [← hh, Bd.state]; rfl
  have N0 := Fr.nil n0
  have pre0 : ∀ t, Steps p.tables e below (s₁.setTop (mkF m 0 #[.val (.ref aa0)] [])) t → Steps p.tables e below (s₁.setTop (entryFrame m #[(.ref aa0)] 1)) t := fun t k => castTop (ef_4_2 m aa0) k
  obtain ⟨T1, X1, e1, st1⟩ := getF X0 hx hZ hown (host := "") (Or.inl (hw _ (List.mem_of_getElem? (i := 26) rfl))) Via.refl e0 F_aa0_rowsEnded (g := (mkF m 2 #[.val (.ref aa0)] [(.ref aa0), (.ref aa0)])) rfl rfl (hb hby d4_2)
  obtain ⟨T2, h2, X2, e2, W2, st2⟩ := putF X1 hx hZ hown (host := "") (Or.inl (hw _ (List.mem_of_getElem? (i := 26) rfl))) Via.refl e1 F_aa0_rowsEnded E_aa0 (Or.inl (hw _ (List.mem_of_getElem? (i := 27) rfl))) (hw _ (List.mem_of_getElem? (i := 1) rfl)) (ty := .int) (by decide) rfl rfl (g := (mkF m 7 #[.val (.ref aa0)] [(.int (3 : Int32)), (.ref aa0)])) rfl rfl (hb hby d4_7)
  have N2 := Fr.snoc X2 N0 g_aa0
  have Z2 : n0 ≤ h2.size := Nat.le_trans Z0 (Keep.of_wr W2).1
  have K2 : Keep h0 h2 [aa0, b3] := (Keep.refl h0 [aa0, b3]).wr W2 (Or.inl (List.mem_of_getElem? (i := 0) rfl))
  have F2 : Fld Z h2 aa0 "com/example/thesaurus_rerank/thesaurusrerank/space/SparseDistances$Builder" "rowsEnded" "I" (.int (3 : Int32)) := F_aa0_rowsEnded.same W2
  have F_3 : Fld Z h2 aa0 "com/example/thesaurus_rerank/thesaurusrerank/space/SparseDistances$Builder" "rowStarts" "[I" (.ref b3) := (F_aa0_rowStarts.other W2 (Or.inr (slot_ne (Or.inr (hw _ (List.mem_of_getElem? (i := 16) rfl))) (Or.inl (hw _ (List.mem_of_getElem? (i := 27) rfl))) (by decide) (t := (.array .int)) (t' := .int) (by decide) (by decide))))
  obtain ⟨T4, X4, e4, st4⟩ := getF X2 hx hZ hown (host := "") (Or.inl (hw _ (List.mem_of_getElem? (i := 15) rfl))) Via.refl e2 F_3 (g := (mkF m 11 #[.val (.ref aa0)] [(.ref aa0)])) rfl rfl (hb hby d4_11)
  obtain ⟨T5, X5, e5, st5⟩ := getF X4 hx hZ hown (host := "") (Or.inl (hw _ (List.mem_of_getElem? (i := 26) rfl))) Via.refl e4 F2 (g := (mkF m 15 #[.val (.ref aa0)] [(.ref aa0), (.ref b3)])) rfl rfl (hb hby d4_15)
  have F_6 : Fld Z h2 aa0 "com/example/thesaurus_rerank/thesaurusrerank/space/SparseDistances$Builder" "entries" "I" (.int en) := (F_aa0_entries.other W2 (Or.inr (slot_ne (Or.inl (hw _ (List.mem_of_getElem? (i := 29) rfl))) (Or.inl (hw _ (List.mem_of_getElem? (i := 27) rfl))) (by decide) (t := .int) (t' := .int) (by decide) (by decide))))
  obtain ⟨T7, X7, e7, st7⟩ := getF X5 hx hZ hown (host := "") (Or.inl (hw _ (List.mem_of_getElem? (i := 28) rfl))) Via.refl e5 F_6 (g := (mkF m 19 #[.val (.ref aa0)] [(.ref aa0), (.int (3 : Int32)), (.ref b3)])) rfl rfl (hb hby d4_19)
  have V_8 : Arv Z h2 b3 k3 .int (4 : Int32) [(.int x0), (.int x1), (.int x2), (.int x3)] (.int (0 : Int32)) := (V_b3.other W2 (Ne.symm ne_aa0_b3))
  obtain ⟨cl_9, Ar_9, qq_9, Sz_9, Nn_9, Hh_9, Gg_9⟩ := id V_8
  have hin_9 : ¬ ((3 : Int32) < 0 ∨ cl_9.slots.size ≤ ((3 : Int32)).toNatClampNeg) := inb_of Sz_9 ⟨by decide, by decide⟩
  obtain ⟨T10, h10, X10, e10, W10, st10⟩ := stI X7 hx hZ e7 Ar_9 (j := (3 : Int32)) hin_9 (g := (mkF m 22 #[.val (.ref aa0)] [(.int en), (.int (3 : Int32)), (.ref b3)])) rfl rfl (hb hby d4_22)
  have N10 := Fr.snoc X10 N2 g_b3
  have Z10 : n0 ≤ h10.size := Nat.le_trans Z2 (Keep.of_wr W10).1
  have K10 : Keep h0 h10 [aa0, b3] := K2.wr W10 (Or.inl (List.mem_of_getElem? (i := 1) rfl))
  have V10 : Arv Z h10 b3 k3 .int (4 : Int32) [(.int x0), (.int x1), (.int x2), (.int en)] (.int (0 : Int32)) := Arv.set Ar_9 qq_9 Sz_9 Nn_9 Hh_9 Gg_9 rfl W10 3 rfl (Nat.le_of_ble_eq_true rfl)
  have F_11 : Fld Z h10 aa0 "com/example/thesaurus_rerank/thesaurusrerank/space/SparseDistances$Builder" "columns" "[I" (.ref b1) := ((F_aa0_columns.other W2 (Or.inr (slot_ne (Or.inl (hw _ (List.mem_of_getElem? (i := 11) rfl))) (Or.inl (hw _ (List.mem_of_getElem? (i := 27) rfl))) (by decide) (t := (.array .int)) (t' := .int) (by decide) (by decide)))).other W10 (Or.inl ne_aa0_b3))
  have F_12 : Fld Z h10 aa0 "com/example/thesaurus_rerank/thesaurusrerank/space/SparseDistances$Builder" "distances" "[D" (.ref b2) := ((F_aa0_distances.other W2 (Or.inr (slot_ne (Or.inl (hw _ (List.mem_of_getElem? (i := 14) rfl))) (Or.inl (hw _ (List.mem_of_getElem? (i := 27) rfl))) (by decide) (t := (.array .double)) (t' := .int) (by decide) (by decide)))).other W10 (Or.inl ne_aa0_b3))
  have F_13 : Fld Z h10 aa0 "com/example/thesaurus_rerank/thesaurusrerank/space/SparseDistances$Builder" "rowStarts" "[I" (.ref b3) := (F_3.other W10 (Or.inl ne_aa0_b3))
  have F_14 : Fld Z h10 aa0 "com/example/thesaurus_rerank/thesaurusrerank/space/SparseDistances$Builder" "entries" "I" (.int en) := (F_6.other W10 (Or.inl ne_aa0_b3))
  have F_15 : Fld Z h10 aa0 "com/example/thesaurus_rerank/thesaurusrerank/space/SparseDistances$Builder" "rowsEnded" "I" (.int (3 : Int32)) := (F2.other W10 (Or.inl ne_aa0_b3))
  obtain ⟨fs, hr, hrun, hended, hW, hsame⟩ := X10.leave (v := none) (fun _ => rfl)
  refine ⟨_, _, pre0 _ ?_, hrun, hended, _, _, rfl, ?_, ⟨_, rfl⟩, hW, hsame.mono (by decide) (by decide)⟩
  · show Steps p.tables e below (s₁.setTop (mkF m 0 #[.val (.ref aa0)] [])) _
    refine XS.aloadN X0.here hx rfl (hb hby d4_0) rfl rfl ?_
    show Steps p.tables e below (s₁.setTop (mkF m 1 #[.val (.ref aa0)] [(.ref aa0)])) _
    refine XS.dup X0.here hx rfl (hb hby d4_1) rfl rfl ?_
    show Steps p.tables e below (s₁.setTop (mkF m 2 #[.val (.ref aa0)] [(.ref aa0), (.ref aa0)])) _
    refine st1 _ ?_
    show Steps p.tables e below (T1.setTop (mkF m 5 #[.val (.ref aa0)] [(.int (2 : Int32)), (.ref aa0)])) _
    refine XS.iconst X1.here hx rfl (hb hby d4_5) ?_
    show Steps p.tables e below (T1.setTop (mkF m 6 #[.val (.ref aa0)] [(.int (1 : Int32)), (.int (2 : Int32)), (.ref aa0)])) _
    refine XS.iadd X1.here hx rfl (hb hby d4_6) rfl ?_
    show Steps p.tables e below (T1.setTop (mkF m 7 #[.val (.ref aa0)] [(.int (3 : Int32)), (.ref aa0)])) _
    refine st2 _ ?_
    show Steps p.tables e below (T2.setTop (mkF m 10 #[.val (.ref aa0)] [])) _
    refine XS.aloadN X2.here hx rfl (hb hby d4_10) rfl rfl ?_
    show Steps p.tables e below (T2.setTop (mkF m 11 #[.val (.ref aa0)] [(.ref aa0)])) _
    refine st4 _ ?_
    show Steps p.tables e below (T4.setTop (mkF m 14 #[.val (.ref aa0)] [(.ref b3)])) _
    refine XS.aloadN X4.here hx rfl (hb hby d4_14) rfl rfl ?_
    show Steps p.tables e below (T4.setTop (mkF m 15 #[.val (.ref aa0)] [(.ref aa0), (.ref b3)])) _
    refine st5 _ ?_
    show Steps p.tables e below (T5.setTop (mkF m 18 #[.val (.ref aa0)] [(.int (3 : Int32)), (.ref b3)])) _
    refine XS.aloadN X5.here hx rfl (hb hby d4_18) rfl rfl ?_
    show Steps p.tables e below (T5.setTop (mkF m 19 #[.val (.ref aa0)] [(.ref aa0), (.int (3 : Int32)), (.ref b3)])) _
    refine st7 _ ?_
    show Steps p.tables e below (T7.setTop (mkF m 22 #[.val (.ref aa0)] [(.int en), (.int (3 : Int32)), (.ref b3)])) _
    refine st10 _ ?_
    show Steps p.tables e below (T10.setTop (mkF m 23 #[.val (.ref aa0)] [])) _
    exact X10.returnOut hx Bd.returns (hb hby d4_23) hr
  · show Q4_2 Z aa0 b1 b2 b3 k3 en x0 x1 x2 x3 h0 n0 _ T10.heap _
    rw [e10]
    exact ⟨rfl, N10, K10, F_11, F_12, F_13, F_14, F_15, V10⟩
theorem d8_0 : decode jdk_29_method_69_code 0 = .ok (.iload_n 0, 1) := by decide +kernel
theorem d8_1 : decode jdk_29_method_69_code 1 = .ok (.iload_n 1, 1) := by decide +kernel
theorem d8_2 : decode jdk_29_method_69_code 2 = .ok (.if_icmp .gt 7, 3) := by decide +kernel
theorem d8_5 : decode jdk_29_method_69_code 5 = .ok (.iload_n 0, 1) := by decide +kernel
theorem d8_6 : decode jdk_29_method_69_code 6 = .ok (.goto 4, 3) := by decide +kernel
theorem d8_9 : decode jdk_29_method_69_code 9 = .ok (.iload_n 1, 1) := by decide +kernel
theorem d8_10 : decode jdk_29_method_69_code 10 = .ok (.ireturn, 1) := by decide +kernel
theorem ef_8 (m : MethodId) (x0 : Int32) (x1 : Int32) : entryFrame m #[(.int x0), (.int x1)] 2 = mkF m 0 #[.val (.int x0), .val (.int x1)] [] := by first | (simp [entryFrame, mkF, argsToLocals, Value.category]; done) | rfl
def Q8 (Z : State) (pp1 : Int32) (pp2 : Int32) (h0 : Heap) (n0 : Nat) (v : Option Value) (h : Heap) (L : List Loc) : Prop := v = some (.int (if pp2 < pp1 then pp2 else pp1)) ∧ Fr n0 L ∧ h = h0
set_option maxRecDepth 65536 in
set_option maxHeartbeats 40000000 in
theorem rm8 (l : Launch) (Z : State) (a0 : Array Value) (hw : ∀ d ∈ tables_1, d.before a0 Z = true) (ws : List Jvm.Cond) (pp1 : Int32) (pp2 : Int32) (h0 : Heap) (n0 : Nat) (Z0 : n0 ≤ h0.size) :
    MetFree l (⟨"java/lang/Math", "min", "(II)I"⟩ : MethodName) (head1 (Jvm.Cond.code (⟨"java/lang/Math", "min", "(II)I"⟩ : MethodName) jdk_29_method_69_code 2 (some .int) :: ws) ({ frames := 0, cells := 0, slots := 0, locals := 0 } : Room)) (fun a U => a = #[(.int pp1), (.int pp2)] ∧ Z.Warmed39 U.vm ∧ U.heap = h0) (fun _ _ _ _ _ => True) (fun _ U o U' => ∃ v L, o = .returned v ∧ Q8 Z pp1 pp2 h0 n0 v U'.heap L ∧ FrameEnd U o U' L ({ frames := 0, cells := 0, slots := 0, locals := 0 } : Room).cells ({ frames := 0, cells := 0, slots := 0, locals := 0 } : Room).slots) := by
  refine MetFree.of_bodySF (Jvm.Free.JP.mathPlain rfl (by decide +kernel)) hisR ?_
  intro p e s m args below meth c s₁ Bd hml0 hP hK
  obtain ⟨rfl, hZ, hh⟩ := hP
  have hx := Bd.exec
  have hby := Bd.bytes
  have hml : c.maxLocals = 2 := hml0
  have hown : s.vm.findClass "java/lang/Math" = some m.cls := findClass_of_methodNamed Bd.named
  have hnm := (name_of_methodNamed Bd.named Bd.method).1
  have X0 : Stand p l e ({ frames := 0, cells := 0, slots := 0, locals := 0 } : Room) s m #[(.int pp1), (.int pp2)] below meth c s₁ [] 0 0 := Stand.of_body Bd
  have e0 : s₁.heap = h0 := by rw [← hh, Bd.state]; rfl
  have N0 := Fr.nil n0
  have pre0 : ∀ t, Steps p.tables e below (s₁.setTop (mkF m 0 #[.val (.int pp1), .val (.int pp2)] [])) t → Steps p.tables e below (s₁.setTop (entryFrame m #[(.int pp1), (.int pp2)] 2)) t := fun t k => castTop (ef_8 m pp1 pp2) k
  have pre1 : ∀ t, Steps p.tables e below (s₁.setTop (mkF m 2 #[.val (.int pp1), .val (.int pp2)] [(.int pp2), (.int pp1)])) t → Steps p.tables e below (s₁.setTop (entryFrame m #[(.int pp1), (.int pp2)] 2)) t := fun t kt => pre0 t (by
    show Steps p.tables e below (s₁.setTop (mkF m 0 #[.val (.int pp1), .val (.int pp2)] [])) _
    refine XS.iloadN X0.here hx rfl (hb hby d8_0) rfl ?_
    show Steps p.tables e below (s₁.setTop (mkF m 1 #[.val (.int pp1), .val (.int pp2)] [(.int pp1)])) _
    refine XS.iloadN X0.here hx rfl (hb hby d8_1) rfl ?_
    exact kt)
  by_cases hc2 : pp2 < pp1
  · skip
    obtain ⟨fs, hr, hrun, hended, hW, hsame⟩ := X0.leave (v := some (.int pp2)) (fun h => by rw [Bd.returns] at h; cases h)
    refine ⟨_, _, pre1 _ ?_, hrun, hended, _, _, rfl, ?_, ⟨_, rfl⟩, hW, hsame.mono (by decide) (by decide)⟩
    · show Steps p.tables e below (s₁.setTop (mkF m 2 #[.val (.int pp1), .val (.int pp2)] [(.int pp2), (.int pp1)])) _
      refine XS.icmpYes X0.here hx rfl (pc0 := 2) (pc' := 9) rfl (hb hby d8_2) rfl (tlt hc2).2.2.1 (by decide) (by decide) ?_
      show Steps p.tables e below (s₁.setTop (mkF m 9 #[.val (.int pp1), .val (.int pp2)] [])) _
      refine XS.iloadN X0.here hx rfl (hb hby d8_9) rfl ?_
      show Steps p.tables e below (s₁.setTop (mkF m 10 #[.val (.int pp1), .val (.int pp2)] [(.int pp2)])) _
      exact retI X0 hx Bd.returns (hb hby d8_10) hr
    · show Q8 Z pp1 pp2 h0 n0 _ s₁.heap _
      rw [e0]
      exact ⟨(by first | rw [if_pos hc2] | rw [if_neg hc2]), N0, rfl⟩
  · skip
    obtain ⟨fs, hr, hrun, hended, hW, hsame⟩ := X0.leave (v := some (.int pp1)) (fun h => by rw [Bd.returns] at h; cases h)
    refine ⟨_, _, pre1 _ ?_, hrun, hended, _, _, rfl, ?_, ⟨_, rfl⟩, hW, hsame.mono (by decide) (by decide)⟩
    · show Steps p.tables e below (s₁.setTop (mkF m 2 #[.val (.int pp1), .val (.int pp2)] [(.int pp2), (.int pp1)])) _
      refine XS.icmpNo X0.here hx rfl (hb hby d8_2) rfl (flt hc2).2.2.1 ?_
      show Steps p.tables e below (s₁.setTop (mkF m 5 #[.val (.int pp1), .val (.int pp2)] [])) _
      refine XS.iloadN X0.here hx rfl (hb hby d8_5) rfl ?_
      show Steps p.tables e below (s₁.setTop (mkF m 6 #[.val (.int pp1), .val (.int pp2)] [(.int pp1)])) _
      refine XS.goto X0.here hx rfl (pc0 := 6) (pc' := 10) rfl (hb hby d8_6) (by decide) (by decide) ?_
      show Steps p.tables e below (s₁.setTop (mkF m 10 #[.val (.int pp1), .val (.int pp2)] [(.int pp1)])) _
      exact retI X0 hx Bd.returns (hb hby d8_10) hr
    · show Q8 Z pp1 pp2 h0 n0 _ s₁.heap _
      rw [e0]
      exact ⟨(by first | rw [if_pos hc2] | rw [if_neg hc2]), N0, rfl⟩
theorem pd__28_II_29_I : parseMethodDescriptor "(II)I" = some ⟨[.int, .int], some .int⟩ := by decide +kernel
theorem pn_java_util_Arrays : plainName "java/util/Arrays" = true := by first | (simp [plainName, overriddenIn]; done) | decide +kernel
theorem d7_0 : decode jdk_65_method_123_code 0 = .ok (.iload_n 1, 1) := by decide +kernel
theorem d7_1 : decode jdk_65_method_123_code 1 = .ok (.aload_n 0, 1) := by decide +kernel
theorem d7_2 : decode jdk_65_method_123_code 2 = .ok (.arraylength, 1) := by decide +kernel
theorem d7_3 : decode jdk_65_method_123_code 3 = .ok (.if_icmp .ne 11, 3) := by decide +kernel
theorem d7_14 : decode jdk_65_method_123_code 14 = .ok (.iload_n 1, 1) := by decide +kernel
theorem d7_15 : decode jdk_65_method_123_code 15 = .ok (.newarray .int, 2) := by decide +kernel
theorem d7_17 : decode jdk_65_method_123_code 17 = .ok (.astore_n 2, 1) := by decide +kernel
theorem d7_18 : decode jdk_65_method_123_code 18 = .ok (.aload_n 0, 1) := by decide +kernel
theorem d7_19 : decode jdk_65_method_123_code 19 = .ok (.iconst 0, 1) := by decide +kernel
theorem d7_20 : decode jdk_65_method_123_code 20 = .ok (.aload_n 2, 1) := by decide +kernel
theorem d7_21 : decode jdk_65_method_123_code 21 = .ok (.iconst 0, 1) := by decide +kernel
theorem d7_22 : decode jdk_65_method_123_code 22 = .ok (.aload_n 0, 1) := by decide +kernel
theorem d7_23 : decode jdk_65_method_123_code 23 = .ok (.arraylength, 1) := by decide +kernel
theorem d7_24 : decode jdk_65_method_123_code 24 = .ok (.iload_n 1, 1) := by decide +kernel
theorem d7_25 : decode jdk_65_method_123_code 25 = .ok (.invokestatic 304, 3) := by decide +kernel
theorem d7_28 : decode jdk_65_method_123_code 28 = .ok (.invokestatic 150, 3) := by decide +kernel
theorem d7_31 : decode jdk_65_method_123_code 31 = .ok (.aload_n 2, 1) := by decide +kernel
theorem d7_32 : decode jdk_65_method_123_code 32 = .ok (.areturn, 1) := by decide +kernel
theorem ef_7 (m : MethodId) (x0 : Addr) (x1 : Int32) : entryFrame m #[(.ref x0), (.int x1)] 3 = mkF m 0 #[.val (.ref x0), .val (.int x1), .unset] [] := by first | (simp [entryFrame, mkF, argsToLocals, Value.category]; done) | rfl
def Q7 (Z : State) (aa1 : Addr) (pp2 : Int32) (kx : ClassId) (vx : List Value) (h0 : Heap) (n0 : Nat) (v : Option Value) (h : Heap) (L : List Loc) : Prop := ∃ (bx : Addr), v = some (.ref bx) ∧ Fr n0 L ∧ Keep h0 h [] ∧ n0 ≤ bx ∧ h0.size ≤ bx
set_option maxRecDepth 65536 in
set_option maxHeartbeats 40000000 in
theorem rm7 (l : Launch) (Z : State) (a0 : Array Value) (hw : ∀ d ∈ tables_1, d.before a0 Z = true) (ws : List Jvm.Cond) (aa1 : Addr) (pp2 : Int32) (kx : ClassId) (vx : List Value) (h0 : Heap) (n0 : Nat) (Z0 : n0 ≤ h0.size) (V_aa1 : Arv Z h0 aa1 kx .int (16 : Int32) vx (.int (0 : Int32))) (hbd : own_in 16 pp2) :
    MetFree l (⟨"java/util/Arrays", "copyOf", "([II)[I"⟩ : MethodName) (head1 (Jvm.Cond.code (⟨"java/util/Arrays", "copyOf", "([II)[I"⟩ : MethodName) jdk_65_method_123_code 3 (some (.array .int)) :: ws) ({ frames := 1, cells := 1, slots := 16, locals := 40 } : Room)) (fun a U => a = #[(.ref aa1), (.int pp2)] ∧ Z.Warmed39 U.vm ∧ U.heap = h0) (fun _ _ _ _ _ => True) (fun _ U o U' => ∃ v L, o = .returned v ∧ Q7 Z aa1 pp2 kx vx h0 n0 v U'.heap L ∧ FrameEnd U o U' L ({ frames := 1, cells := 1, slots := 16, locals := 40 } : Room).cells ({ frames := 1, cells := 1, slots := 16, locals := 40 } : Room).slots) := by
  refine MetFree.of_bodySF (plainFor_of_name pn_java_util_Arrays) hisR ?_
  intro p e s m args below meth c s₁ Bd hml0 hP hK
  obtain ⟨rfl, hZ, hh⟩ := hP
  have hx := Bd.exec
  have hby := Bd.bytes
  have hml : c.maxLocals = 3 := hml0
  have hown : s.vm.findClass "java/util/Arrays" = some m.cls := findClass_of_methodNamed Bd.named
  have hnm := (name_of_methodNamed Bd.named Bd.method).1
  have X0 : Stand p l e ({ frames := 1, cells := 1, slots := 16, locals := 40 } : Room) s m #[(.ref aa1), (.int pp2)] below meth c s₁ [] 0 0 := Stand.of_body Bd
  have e0 : s₁.heap = h0 := by rw [← hh, Bd.state]; rfl
  have N0 := Fr.nil n0
  have pre0 : ∀ t, Steps p.tables e below (s₁.setTop (mkF m 0 #[.val (.ref aa1), .val (.int pp2), .unset] [])) t → Steps p.tables e below (s₁.setTop (entryFrame m #[(.ref aa1), (.int pp2)] 3)) t := fun t k => castTop (ef_7 m aa1 pp2) k
  obtain ⟨cl_1, Ar_1, -, Sz_1, Nn_1, -, -⟩ := id V_aa1
  have hc3 : ¬ (pp2 = (16 : Int32)) := own_in_ne hbd (by decide)
  obtain ⟨T2, h2, k2, X2, e2, E2, A2, st2⟩ := newP X0 hx hZ (hw _ (List.mem_of_getElem? (i := 9) rfl)) e0 (g := (mkF m 15 #[.val (.ref aa1), .val (.int pp2), .unset] [(.int pp2)])) rfl (hb hby d7_15) rfl (own_in_lt hbd (n := (16 : Int32)) (by decide)).1 (cap := 16) (Nat.le_of_lt (own_nat hbd)) (by decide) (by decide) (by decide)
  obtain ⟨b2, g2⟩ : ∃ z, z = h0.size := ⟨_, rfl⟩
  rw [← g2] at A2 st2
  have g_b2 : n0 ≤ b2 := Nat.le_trans Z0 (Nat.le_of_eq g2.symm)
  have sz_b2 : h0.size ≤ b2 := Nat.le_trans (Keep.refl h0 []).1 (Nat.le_of_eq g2.symm)
  have Z2 : n0 ≤ h2.size := Nat.le_trans Z0 E2.1
  have K2 : Keep h0 h2 [] := (Keep.refl h0 []).ext E2
  have V2 : Arv Z h2 b2 k2 .int pp2 (List.replicate (pp2).toNatClampNeg (.int (0 : Int32))) (.int (0 : Int32)) := (Arv.new A2 (own_in_lt hbd (n := (16 : Int32)) (by decide)).1).pad (pad_rep [] (.int (0 : Int32)) _)
  have V_3 : Arv Z h2 aa1 kx .int (16 : Int32) vx (.int (0 : Int32)) := (V_aa1.ext E2)
  obtain ⟨cl_4, Ar_4, -, Sz_4, Nn_4, -, -⟩ := id V_3
  obtain ⟨_, _, ⟨T5, L5, k5, n5⟩, -, X5, ⟨Lc5, hQ5, l5, y5, z5⟩, st5⟩ := Jvm.LawKit.callS X2 hx (y := (⟨"java/lang/Math", "min", "(II)I"⟩ : MethodName)) hown (mvT hZ (hw _ (List.mem_of_getElem? (i := 50) rfl))) (mvT hZ (hw _ (List.mem_of_getElem? (i := 51) rfl))) (mvT hZ (hw _ (List.mem_of_getElem? (i := 52) rfl))) (mvT hZ (hw _ (List.mem_of_getElem? (i := 53) rfl))) (by decide) (backOf (W := 4) (rm8 l Z a0 hw [] (16 : Int32) pp2 h2 n0 Z2 ) hZ (hw _ (List.mem_of_getElem? (i := 53) rfl)) (hw _ (List.mem_of_getElem? (i := 52) rfl)) (by decide) (by decide)) (g := (mkF m 25 #[.val (.ref aa1), .val (.int pp2), .val (.ref b2)] [(.int pp2), (.int (16 : Int32)), (.int (0 : Int32)), (.ref b2), (.int (0 : Int32)), (.ref aa1)])) rfl (by rw [hml]; rfl) (argsL := [(.int (16 : Int32)), (.int pp2)]) (rest := [(.int (0 : Int32)), (.ref b2), (.int (0 : Int32)), (.ref aa1)]) (lenOf pd__28_II_29_I rfl) rfl (by show 2 * 0 + _ ≤ _; exact Nat.le_of_eq rfl) (hb hby d7_25) (fun _ _ => ⟨rfl, e2, (by decide : 1 + 0 ≤ _), (by decide : 16 + 0 ≤ _)⟩)
  dsimp only [Pt.U, Pt.locs, Pt.cells, Pt.slots] at X5 l5 y5 z5 st5 hQ5
  subst l5 y5 z5
  obtain ⟨rfl, N5q, e5⟩ := hQ5
  have N5 := Fr.app N0 N5q
  have pre6 : ∀ t, Steps p.tables e below (T5.setTop (mkF m 28 #[.val (.ref aa1), .val (.int pp2), .val (.ref b2)] [(.int (if pp2 < (16 : Int32) then pp2 else (16 : Int32))), (.int (0 : Int32)), (.ref b2), (.int (0 : Int32)), (.ref aa1)])) t → Steps p.tables e below (s₁.setTop (entryFrame m #[(.ref aa1), (.int pp2)] 3)) t := fun t kt => pre0 t (by
    show Steps p.tables e below (s₁.setTop (mkF m 0 #[.val (.ref aa1), .val (.int pp2), .unset] [])) _
    refine XS.iloadN X0.here hx rfl (hb hby d7_0) rfl ?_
    show Steps p.tables e below (s₁.setTop (mkF m 1 #[.val (.ref aa1), .val (.int pp2), .unset] [(.int pp2)])) _
    refine XS.aloadN X0.here hx rfl (hb hby d7_1) rfl rfl ?_
    show Steps p.tables e below (s₁.setTop (mkF m 2 #[.val (.ref aa1), .val (.int pp2), .unset] [(.ref aa1), (.int pp2)])) _
    refine X0.arraylength hx (by rw [e0]; exact Ar_1.1) (State.isArrayOf_alike hZ.alike Ar_1.2.1) (g := (mkF m 2 #[.val (.ref aa1), .val (.int pp2), .unset] [(.ref aa1), (.int pp2)])) rfl rfl (hb hby d7_2) _ ?_
    rw [len_of Sz_1 Nn_1]
    show Steps p.tables e below (s₁.setTop (mkF m 3 #[.val (.ref aa1), .val (.int pp2), .unset] [(.int (16 : Int32)), (.int pp2)])) _
    refine XS.icmpYes X0.here hx rfl (pc0 := 3) (pc' := 14) rfl (hb hby d7_3) rfl (feq hc3).2 (by decide) (by decide) ?_
    show Steps p.tables e below (s₁.setTop (mkF m 14 #[.val (.ref aa1), .val (.int pp2), .unset] [])) _
    refine XS.iloadN X0.here hx rfl (hb hby d7_14) rfl ?_
    show Steps p.tables e below (s₁.setTop (mkF m 15 #[.val (.ref aa1), .val (.int pp2), .unset] [(.int pp2)])) _
    refine st2 _ ?_
    show Steps p.tables e below (T2.setTop (mkF m 17 #[.val (.ref aa1), .val (.int pp2), .unset] [(.ref b2)])) _
    refine XS.astoreN X2.here hx rfl (hb hby d7_17) rfl rfl (l' := #[.val (.ref aa1), .val (.int pp2), .val (.ref b2)]) rfl ?_
    show Steps p.tables e below (T2.setTop (mkF m 18 #[.val (.ref aa1), .val (.int pp2), .val (.ref b2)] [])) _
    refine XS.aloadN X2.here hx rfl (hb hby d7_18) rfl rfl ?_
    show Steps p.tables e below (T2.setTop (mkF m 19 #[.val (.ref aa1), .val (.int pp2), .val (.ref b2)] [(.ref aa1)])) _
    refine XS.iconst X2.here hx rfl (hb hby d7_19) ?_
    show Steps p.tables e below (T2.setTop (mkF m 20 #[.val (.ref aa1), .val (.int pp2), .val (.ref b2)] [(.int (0 : Int32)), (.ref aa1)])) _
    refine XS.aloadN X2.here hx rfl (hb hby d7_20) rfl rfl ?_
    show Steps p.tables e below (T2.setTop (mkF m 21 #[.val (.ref aa1), .val (.int pp2), .val (.ref b2)] [(.ref b2), (.int (0 : Int32)), (.ref aa1)])) _
    refine XS.iconst X2.here hx rfl (hb hby d7_21) ?_
    show Steps p.tables e below (T2.setTop (mkF m 22 #[.val (.ref aa1), .val (.int pp2), .val (.ref b2)] [(.int (0 : Int32)), (.ref b2), (.int (0 : Int32)), (.ref aa1)])) _
    refine XS.aloadN X2.here hx rfl (hb hby d7_22) rfl rfl ?_
    show Steps p.tables e below (T2.setTop (mkF m 23 #[.val (.ref aa1), .val (.int pp2), .val (.ref b2)] [(.ref aa1), (.int (0 : Int32)), (.ref b2), (.int (0 : Int32)), (.ref aa1)])) _
    refine X2.arraylength hx (by rw [e2]; exact Ar_4.1) (State.isArrayOf_alike hZ.alike Ar_4.2.1) (g := (mkF m 23 #[.val (.ref aa1), .val (.int pp2), .val (.ref b2)] [(.ref aa1), (.int (0 : Int32)), (.ref b2), (.int (0 : Int32)), (.ref aa1)])) rfl rfl (hb hby d7_23) _ ?_
    rw [len_of Sz_4 Nn_4]
    show Steps p.tables e below (T2.setTop (mkF m 24 #[.val (.ref aa1), .val (.int pp2), .val (.ref b2)] [(.int (16 : Int32)), (.int (0 : Int32)), (.ref b2), (.int (0 : Int32)), (.ref aa1)])) _
    refine XS.iloadN X2.here hx rfl (hb hby d7_24) rfl ?_
    show Steps p.tables e below (T2.setTop (mkF m 25 #[.val (.ref aa1), .val (.int pp2), .val (.ref b2)] [(.int pp2), (.int (16 : Int32)), (.int (0 : Int32)), (.ref b2), (.int (0 : Int32)), (.ref aa1)])) _
    refine st5 _ ?_
    exact kt)
  obtain ⟨mi, h_mi, pre7⟩ : ∃ (mi : Int32), (pp2 = mi) ∧ ∀ t, Steps p.tables e below (T5.setTop (mkF m 28 #[.val (.ref aa1), .val (.int pp2), .val (.ref b2)] [(.int mi), (.int (0 : Int32)), (.ref b2), (.int (0 : Int32)), (.ref aa1)])) t → Steps p.tables e below (s₁.setTop (entryFrame m #[(.ref aa1), (.int pp2)] 3)) t := ⟨(if pp2 < (16 : Int32) then pp2 else (16 : Int32)), (if_pos (own_in_lt hbd (by decide)).2).symm, pre6⟩
  subst h_mi
  obtain ⟨T8, h8, L8, X8, e8, N8, K8c, V8, st8⟩ := cpA X5 hx hZ hown (hw _ (List.mem_of_getElem? (i := 54) rfl)) (hw _ (List.mem_of_getElem? (i := 57) rfl)) (hw _ (List.mem_of_getElem? (i := 55) rfl)) (hw _ (List.mem_of_getElem? (i := 56) rfl)) e5 V_3 V2 (us := ((List.range (pp2).toNatClampNeg).map fun i => (vx).getD (((0 : Int32)).toNatClampNeg + i) (.int (0 : Int32)))) (Or.inl ⟨rfl, rfl⟩) (sp := (0 : Int32)) (dp := (0 : Int32)) (nn := pp2) (by decide) (by decide) (own_in_lt hbd (n := (16 : Int32)) (by decide)).1 (by show 0 + _ ≤ 16; have := own_nat hbd; omega) (by show 0 + _ ≤ _; omega) rfl (by rw [List.length_replicate]; show 0 + _ ≤ _; omega) N5 g_b2 (g := (mkF m 28 #[.val (.ref aa1), .val (.int pp2), .val (.ref b2)] [(.int pp2), (.int (0 : Int32)), (.ref b2), (.int (0 : Int32)), (.ref aa1)])) rfl (by rw [hml]; rfl) rfl (hb hby d7_28) (by decide) (W := 0) (by show 2 * 0 + _ ≤ _; exact Nat.le_of_eq rfl) (by decide)
  have Z8 : n0 ≤ h8.size := Nat.le_trans Z2 K8c.1
  have K8 : Keep h0 h8 [] := K2.trans K8c (allS (Or.inr sz_b2) all0)
  obtain ⟨fs, hr, hrun, hended, hW, hsame⟩ := X8.leave (v := some (.ref b2)) (fun h => by rw [Bd.returns] at h; cases h)
  refine ⟨_, _, pre7 _ ?_, hrun, hended, _, _, rfl, ?_, ⟨_, rfl⟩, hW, hsame.mono (by decide) (by decide)⟩
  · show Steps p.tables e below (T5.setTop (mkF m 28 #[.val (.ref aa1), .val (.int pp2), .val (.ref b2)] [(.int pp2), (.int (0 : Int32)), (.ref b2), (.int (0 : Int32)), (.ref aa1)])) _
    refine st8 _ ?_
    show Steps p.tables e below (T8.setTop (mkF m 31 #[.val (.ref aa1), .val (.int pp2), .val (.ref b2)] [])) _
    refine XS.aloadN X8.here hx rfl (hb hby d7_31) rfl rfl ?_
    show Steps p.tables e below (T8.setTop (mkF m 32 #[.val (.ref aa1), .val (.int pp2), .val (.ref b2)] [(.ref b2)])) _
    jvm_step X8.here [X8.here.top, hx, (hb hby d7_32), X8.method', Bd.returns, Value.isRef, FieldType.isReference]
    first | (intro acts; rw [hr _ acts rfl rfl rfl]) | rw [hr _ _ rfl rfl rfl]
    exact Steps.refl _
  · show Q7 Z aa1 pp2 kx vx h0 n0 _ T8.heap _
    rw [e8]
    exact ⟨b2, rfl, N8, K8, g_b2, sz_b2⟩
theorem d9_0 : decode jdk_65_method_127_code 0 = .ok (.iload_n 1, 1) := by decide +kernel
theorem d9_1 : decode jdk_65_method_127_code 1 = .ok (.aload_n 0, 1) := by decide +kernel
theorem d9_2 : decode jdk_65_method_127_code 2 = .ok (.arraylength, 1) := by decide +kernel
theorem d9_3 : decode jdk_65_method_127_code 3 = .ok (.if_icmp .ne 11, 3) := by decide +kernel
theorem d9_14 : decode jdk_65_method_127_code 14 = .ok (.iload_n 1, 1) := by decide +kernel
theorem d9_15 : decode jdk_65_method_127_code 15 = .ok (.newarray .double, 2) := by decide +kernel
theorem d9_17 : decode jdk_65_method_127_code 17 = .ok (.astore_n 2, 1) := by decide +kernel
theorem d9_18 : decode jdk_65_method_127_code 18 = .ok (.aload_n 0, 1) := by decide +kernel
theorem d9_19 : decode jdk_65_method_127_code 19 = .ok (.iconst 0, 1) := by decide +kernel
theorem d9_20 : decode jdk_65_method_127_code 20 = .ok (.aload_n 2, 1) := by decide +kernel
theorem d9_21 : decode jdk_65_method_127_code 21 = .ok (.iconst 0, 1) := by decide +kernel
theorem d9_22 : decode jdk_65_method_127_code 22 = .ok (.aload_n 0, 1) := by decide +kernel
theorem d9_23 : decode jdk_65_method_127_code 23 = .ok (.arraylength, 1) := by decide +kernel
theorem d9_24 : decode jdk_65_method_127_code 24 = .ok (.iload_n 1, 1) := by decide +kernel
theorem d9_25 : decode jdk_65_method_127_code 25 = .ok (.invokestatic 304, 3) := by decide +kernel
theorem d9_28 : decode jdk_65_method_127_code 28 = .ok (.invokestatic 150, 3) := by decide +kernel
theorem d9_31 : decode jdk_65_method_127_code 31 = .ok (.aload_n 2, 1) := by decide +kernel
theorem d9_32 : decode jdk_65_method_127_code 32 = .ok (.areturn, 1) := by decide +kernel
theorem ef_9 (m : MethodId) (x0 : Addr) (x1 : Int32) : entryFrame m #[(.ref x0), (.int x1)] 3 = mkF m 0 #[.val (.ref x0), .val (.int x1), .unset] [] := by first | (simp [entryFrame, mkF, argsToLocals, Value.category]; done) | rfl
def Q9 (Z : State) (aa1 : Addr) (pp2 : Int32) (kx : ClassId) (vx : List Value) (h0 : Heap) (n0 : Nat) (v : Option Value) (h : Heap) (L : List Loc) : Prop := ∃ (bx : Addr), v = some (.ref bx) ∧ Fr n0 L ∧ Keep h0 h [] ∧ n0 ≤ bx ∧ h0.size ≤ bx
set_option maxRecDepth 65536 in
set_option maxHeartbeats 40000000 in
theorem rm9 (l : Launch) (Z : State) (a0 : Array Value) (hw : ∀ d ∈ tables_1, d.before a0 Z = true) (ws : List Jvm.Cond) (aa1 : Addr) (pp2 : Int32) (kx : ClassId) (vx : List Value) (h0 : Heap) (n0 : Nat) (Z0 : n0 ≤ h0.size) (V_aa1 : Arv Z h0 aa1 kx .double (16 : Int32) vx (.double (0 : UInt64))) (hbd : own_in 16 pp2) :
    MetFree l (⟨"java/util/Arrays", "copyOf", "([DI)[D"⟩ : MethodName) (head1 (Jvm.Cond.code (⟨"java/util/Arrays", "copyOf", "([DI)[D"⟩ : MethodName) jdk_65_method_127_code 3 (some (.array .double)) :: ws) ({ frames := 1, cells := 1, slots := 16, locals := 40 } : Room)) (fun a U => a = #[(.ref aa1), (.int pp2)] ∧ Z.Warmed39 U.vm ∧ U.heap = h0) (fun _ _ _ _ _ => True) (fun _ U o U' => ∃ v L, o = .returned v ∧ Q9 Z aa1 pp2 kx vx h0 n0 v U'.heap L ∧ FrameEnd U o U' L ({ frames := 1, cells := 1, slots := 16, locals := 40 } : Room).cells ({ frames := 1, cells := 1, slots := 16, locals := 40 } : Room).slots) := by
  refine MetFree.of_bodySF (plainFor_of_name pn_java_util_Arrays) hisR ?_
  intro p e s m args below meth c s₁ Bd hml0 hP hK
  obtain ⟨rfl, hZ, hh⟩ := hP
  have hx := Bd.exec
  have hby := Bd.bytes
  have hml : c.maxLocals = 3 := hml0
  have hown : s.vm.findClass "java/util/Arrays" = some m.cls := findClass_of_methodNamed Bd.named
  have hnm := (name_of_methodNamed Bd.named Bd.method).1
  have X0 : Stand p l e ({ frames := 1, cells := 1, slots := 16, locals := 40 } : Room) s m #[(.ref aa1), (.int pp2)] below meth c s₁ [] 0 0 := Stand.of_body Bd
  have e0 : s₁.heap = h0 := by rw [← hh, Bd.state]; rfl
  have N0 := Fr.nil n0
  have pre0 : ∀ t, Steps p.tables e below (s₁.setTop (mkF m 0 #[.val (.ref aa1), .val (.int pp2), .unset] [])) t → Steps p.tables e below (s₁.setTop (entryFrame m #[(.ref aa1), (.int pp2)] 3)) t := fun t k => castTop (ef_9 m aa1 pp2) k
  obtain ⟨cl_1, Ar_1, -, Sz_1, Nn_1, -, -⟩ := id V_aa1
  have hc3 : ¬ (pp2 = (16 : Int32)) := own_in_ne hbd (by decide)
  obtain ⟨T2, h2, k2, X2, e2, E2, A2, st2⟩ := newP X0 hx hZ (hw _ (List.mem_of_getElem? (i := 12) rfl)) e0 (g := (mkF m 15 #[.val (.ref aa1), .val (.int pp2), .unset] [(.int pp2)])) rfl (hb hby d9_15) rfl (own_in_lt hbd (n := (16 : Int32)) (by decide)).1 (cap := 16) (Nat.le_of_lt (own_nat hbd)) (by decide) (by decide) (by decide)
  obtain ⟨b2, g2⟩ : ∃ z, z = h0.size := ⟨_, rfl⟩
  rw [← g2] at A2 st2
  have g_b2 : n0 ≤ b2 := Nat.le_trans Z0 (Nat.le_of_eq g2.symm)
  have sz_b2 : h0.size ≤ b2 := Nat.le_trans (Keep.refl h0 []).1 (Nat.le_of_eq g2.symm)
  have Z2 : n0 ≤ h2.size := Nat.le_trans Z0 E2.1
  have K2 : Keep h0 h2 [] := (Keep.refl h0 []).ext E2
  have V2 : Arv Z h2 b2 k2 .double pp2 (List.replicate (pp2).toNatClampNeg (.double (0 : UInt64))) (.double (0 : UInt64)) := (Arv.new A2 (own_in_lt hbd (n := (16 : Int32)) (by decide)).1).pad (pad_rep [] (.double (0 : UInt64)) _)
  have V_3 : Arv Z h2 aa1 kx .double (16 : Int32) vx (.double (0 : UInt64)) := (V_aa1.ext E2)
  obtain ⟨cl_4, Ar_4, -, Sz_4, Nn_4, -, -⟩ := id V_3
  obtain ⟨_, _, ⟨T5, L5, k5, n5⟩, -, X5, ⟨Lc5, hQ5, l5, y5, z5⟩, st5⟩ := Jvm.LawKit.callS X2 hx (y := (⟨"java/lang/Math", "min", "(II)I"⟩ : MethodName)) hown (mvT hZ (hw _ (List.mem_of_getElem? (i := 50) rfl))) (mvT hZ (hw _ (List.mem_of_getElem? (i := 51) rfl))) (mvT hZ (hw _ (List.mem_of_getElem? (i := 52) rfl))) (mvT hZ (hw _ (List.mem_of_getElem? (i := 53) rfl))) (by decide) (backOf (W := 4) (rm8 l Z a0 hw [] (16 : Int32) pp2 h2 n0 Z2 ) hZ (hw _ (List.mem_of_getElem? (i := 53) rfl)) (hw _ (List.mem_of_getElem? (i := 52) rfl)) (by decide) (by decide)) (g := (mkF m 25 #[.val (.ref aa1), .val (.int pp2), .val (.ref b2)] [(.int pp2), (.int (16 : Int32)), (.int (0 : Int32)), (.ref b2), (.int (0 : Int32)), (.ref aa1)])) rfl (by rw [hml]; rfl) (argsL := [(.int (16 : Int32)), (.int pp2)]) (rest := [(.int (0 : Int32)), (.ref b2), (.int (0 : Int32)), (.ref aa1)]) (lenOf pd__28_II_29_I rfl) rfl (by show 2 * 0 + _ ≤ _; exact Nat.le_of_eq rfl) (hb hby d9_25) (fun _ _ => ⟨rfl, e2, (by decide : 1 + 0 ≤ _), (by decide : 16 + 0 ≤ _)⟩)
  dsimp only [Pt.U, Pt.locs, Pt.cells, Pt.slots] at X5 l5 y5 z5 st5 hQ5
  subst l5 y5 z5
  obtain ⟨rfl, N5q, e5⟩ := hQ5
  have N5 := Fr.app N0 N5q
  have pre6 : ∀ t, Steps p.tables e below (T5.setTop (mkF m 28 #[.val (.ref aa1), .val (.int pp2), .val (.ref b2)] [(.int (if pp2 < (16 : Int32) then pp2 else (16 : Int32))), (.int (0 : Int32)), (.ref b2), (.int (0 : Int32)), (.ref aa1)])) t → Steps p.tables e below (s₁.setTop (entryFrame m #[(.ref aa1), (.int pp2)] 3)) t := fun t kt => pre0 t (by
    show Steps p.tables e below (s₁.setTop (mkF m 0 #[.val (.ref aa1), .val (.int pp2), .unset] [])) _
    refine XS.iloadN X0.here hx rfl (hb hby d9_0) rfl ?_
    show Steps p.tables e below (s₁.setTop (mkF m 1 #[.val (.ref aa1), .val (.int pp2), .unset] [(.int pp2)])) _
    refine XS.aloadN X0.here hx rfl (hb hby d9_1) rfl rfl ?_
    show Steps p.tables e below (s₁.setTop (mkF m 2 #[.val (.ref aa1), .val (.int pp2), .unset] [(.ref aa1), (.int pp2)])) _
    refine X0.arraylength hx (by rw [e0]; exact Ar_1.1) (State.isArrayOf_alike hZ.alike Ar_1.2.1) (g := (mkF m 2 #[.val (.ref aa1), .val (.int pp2), .unset] [(.ref aa1), (.int pp2)])) rfl rfl (hb hby d9_2) _ ?_
    rw [len_of Sz_1 Nn_1]
    show Steps p.tables e below (s₁.setTop (mkF m 3 #[.val (.ref aa1), .val (.int pp2), .unset] [(.int (16 : Int32)), (.int pp2)])) _
    refine XS.icmpYes X0.here hx rfl (pc0 := 3) (pc' := 14) rfl (hb hby d9_3) rfl (feq hc3).2 (by decide) (by decide) ?_
    show Steps p.tables e below (s₁.setTop (mkF m 14 #[.val (.ref aa1), .val (.int pp2), .unset] [])) _
    refine XS.iloadN X0.here hx rfl (hb hby d9_14) rfl ?_
    show Steps p.tables e below (s₁.setTop (mkF m 15 #[.val (.ref aa1), .val (.int pp2), .unset] [(.int pp2)])) _
    refine st2 _ ?_
    show Steps p.tables e below (T2.setTop (mkF m 17 #[.val (.ref aa1), .val (.int pp2), .unset] [(.ref b2)])) _
    refine XS.astoreN X2.here hx rfl (hb hby d9_17) rfl rfl (l' := #[.val (.ref aa1), .val (.int pp2), .val (.ref b2)]) rfl ?_
    show Steps p.tables e below (T2.setTop (mkF m 18 #[.val (.ref aa1), .val (.int pp2), .val (.ref b2)] [])) _
    refine XS.aloadN X2.here hx rfl (hb hby d9_18) rfl rfl ?_
    show Steps p.tables e below (T2.setTop (mkF m 19 #[.val (.ref aa1), .val (.int pp2), .val (.ref b2)] [(.ref aa1)])) _
    refine XS.iconst X2.here hx rfl (hb hby d9_19) ?_
    show Steps p.tables e below (T2.setTop (mkF m 20 #[.val (.ref aa1), .val (.int pp2), .val (.ref b2)] [(.int (0 : Int32)), (.ref aa1)])) _
    refine XS.aloadN X2.here hx rfl (hb hby d9_20) rfl rfl ?_
    show Steps p.tables e below (T2.setTop (mkF m 21 #[.val (.ref aa1), .val (.int pp2), .val (.ref b2)] [(.ref b2), (.int (0 : Int32)), (.ref aa1)])) _
    refine XS.iconst X2.here hx rfl (hb hby d9_21) ?_
    show Steps p.tables e below (T2.setTop (mkF m 22 #[.val (.ref aa1), .val (.int pp2), .val (.ref b2)] [(.int (0 : Int32)), (.ref b2), (.int (0 : Int32)), (.ref aa1)])) _
    refine XS.aloadN X2.here hx rfl (hb hby d9_22) rfl rfl ?_
    show Steps p.tables e below (T2.setTop (mkF m 23 #[.val (.ref aa1), .val (.int pp2), .val (.ref b2)] [(.ref aa1), (.int (0 : Int32)), (.ref b2), (.int (0 : Int32)), (.ref aa1)])) _
    refine X2.arraylength hx (by rw [e2]; exact Ar_4.1) (State.isArrayOf_alike hZ.alike Ar_4.2.1) (g := (mkF m 23 #[.val (.ref aa1), .val (.int pp2), .val (.ref b2)] [(.ref aa1), (.int (0 : Int32)), (.ref b2), (.int (0 : Int32)), (.ref aa1)])) rfl rfl (hb hby d9_23) _ ?_
    rw [len_of Sz_4 Nn_4]
    show Steps p.tables e below (T2.setTop (mkF m 24 #[.val (.ref aa1), .val (.int pp2), .val (.ref b2)] [(.int (16 : Int32)), (.int (0 : Int32)), (.ref b2), (.int (0 : Int32)), (.ref aa1)])) _
    refine XS.iloadN X2.here hx rfl (hb hby d9_24) rfl ?_
    show Steps p.tables e below (T2.setTop (mkF m 25 #[.val (.ref aa1), .val (.int pp2), .val (.ref b2)] [(.int pp2), (.int (16 : Int32)), (.int (0 : Int32)), (.ref b2), (.int (0 : Int32)), (.ref aa1)])) _
    refine st5 _ ?_
    exact kt)
  obtain ⟨mi, h_mi, pre7⟩ : ∃ (mi : Int32), (pp2 = mi) ∧ ∀ t, Steps p.tables e below (T5.setTop (mkF m 28 #[.val (.ref aa1), .val (.int pp2), .val (.ref b2)] [(.int mi), (.int (0 : Int32)), (.ref b2), (.int (0 : Int32)), (.ref aa1)])) t → Steps p.tables e below (s₁.setTop (entryFrame m #[(.ref aa1), (.int pp2)] 3)) t := ⟨(if pp2 < (16 : Int32) then pp2 else (16 : Int32)), (if_pos (own_in_lt hbd (by decide)).2).symm, pre6⟩
  subst h_mi
  obtain ⟨T8, h8, L8, X8, e8, N8, K8c, V8, st8⟩ := cpA X5 hx hZ hown (hw _ (List.mem_of_getElem? (i := 54) rfl)) (hw _ (List.mem_of_getElem? (i := 57) rfl)) (hw _ (List.mem_of_getElem? (i := 55) rfl)) (hw _ (List.mem_of_getElem? (i := 56) rfl)) e5 V_3 V2 (us := ((List.range (pp2).toNatClampNeg).map fun i => (vx).getD (((0 : Int32)).toNatClampNeg + i) (.double (0 : UInt64)))) (Or.inl ⟨rfl, rfl⟩) (sp := (0 : Int32)) (dp := (0 : Int32)) (nn := pp2) (by decide) (by decide) (own_in_lt hbd (n := (16 : Int32)) (by decide)).1 (by show 0 + _ ≤ 16; have := own_nat hbd; omega) (by show 0 + _ ≤ _; omega) rfl (by rw [List.length_replicate]; show 0 + _ ≤ _; omega) N5 g_b2 (g := (mkF m 28 #[.val (.ref aa1), .val (.int pp2), .val (.ref b2)] [(.int pp2), (.int (0 : Int32)), (.ref b2), (.int (0 : Int32)), (.ref aa1)])) rfl (by rw [hml]; rfl) rfl (hb hby d9_28) (by decide) (W := 0) (by show 2 * 0 + _ ≤ _; exact Nat.le_of_eq rfl) (by decide)
  have Z8 : n0 ≤ h8.size := Nat.le_trans Z2 K8c.1
  have K8 : Keep h0 h8 [] := K2.trans K8c (allS (Or.inr sz_b2) all0)
  obtain ⟨fs, hr, hrun, hended, hW, hsame⟩ := X8.leave (v := some (.ref b2)) (fun h => by rw [Bd.returns] at h; cases h)
  refine ⟨_, _, pre7 _ ?_, hrun, hended, _, _, rfl, ?_, ⟨_, rfl⟩, hW, hsame.mono (by decide) (by decide)⟩
  · show Steps p.tables e below (T5.setTop (mkF m 28 #[.val (.ref aa1), .val (.int pp2), .val (.ref b2)] [(.int pp2), (.int (0 : Int32)), (.ref b2), (.int (0 : Int32)), (.ref aa1)])) _
    refine st8 _ ?_
    show Steps p.tables e below (T8.setTop (mkF m 31 #[.val (.ref aa1), .val (.int pp2), .val (.ref b2)] [])) _
    refine XS.aloadN X8.here hx rfl (hb hby d9_31) rfl rfl ?_
    show Steps p.tables e below (T8.setTop (mkF m 32 #[.val (.ref aa1), .val (.int pp2), .val (.ref b2)] [(.ref b2)])) _
    jvm_step X8.here [X8.here.top, hx, (hb hby d9_32), X8.method', Bd.returns, Value.isRef, FieldType.isReference]
    first | (intro acts; rw [hr _ acts rfl rfl rfl]) | rw [hr _ _ rfl rfl rfl]
    exact Steps.refl _
  · show Q9 Z aa1 pp2 kx vx h0 n0 _ T8.heap _
    rw [e8]
    exact ⟨b2, rfl, N8, K8, g_b2, sz_b2⟩
theorem pn_com_example_thesaurus_rerank_thesaurusrerank_space_SparseDistances : plainName "com/example/thesaurus_rerank/thesaurusrerank/space/SparseDistances" = true := by first | (simp [plainName, overriddenIn]; done) | decide +kernel
theorem d10_0 : decode prog_23_method_1_code 0 = .ok (.aload_n 0, 1) := by decide +kernel
theorem d10_1 : decode prog_23_method_1_code 1 = .ok (.invokespecial 1, 3) := by decide +kernel
theorem d10_4 : decode prog_23_method_1_code 4 = .ok (.aload_n 0, 1) := by decide +kernel
theorem d10_5 : decode prog_23_method_1_code 5 = .ok (.aload_n 1, 1) := by decide +kernel
theorem d10_6 : decode prog_23_method_1_code 6 = .ok (.putfield 7, 3) := by decide +kernel
theorem d10_9 : decode prog_23_method_1_code 9 = .ok (.aload_n 0, 1) := by decide +kernel
theorem d10_10 : decode prog_23_method_1_code 10 = .ok (.aload_n 2, 1) := by decide +kernel
theorem d10_11 : decode prog_23_method_1_code 11 = .ok (.putfield 13, 3) := by decide +kernel
theorem d10_14 : decode prog_23_method_1_code 14 = .ok (.aload_n 0, 1) := by decide +kernel
theorem d10_15 : decode prog_23_method_1_code 15 = .ok (.aload_n 3, 1) := by decide +kernel
theorem d10_16 : decode prog_23_method_1_code 16 = .ok (.putfield 16, 3) := by decide +kernel
theorem d10_19 : decode prog_23_method_1_code 19 = .ok (.return_, 1) := by decide +kernel
theorem ef_10 (m : MethodId) (x0 : Addr) (x1 : Addr) (x2 : Addr) (x3 : Addr) : entryFrame m #[(.ref x0), (.ref x1), (.ref x2), (.ref x3)] 4 = mkF m 0 #[.val (.ref x0), .val (.ref x1), .val (.ref x2), .val (.ref x3)] [] := by first | (simp [entryFrame, mkF, argsToLocals, Value.category]; done) | rfl
def Q10 (Z : State) (aa0 : Addr) (aa1 : Addr) (aa2 : Addr) (aa3 : Addr) (u_rowStarts : Value) (u_columns : Value) (u_distances : Value) (h0 : Heap) (n0 : Nat) (v : Option Value) (h : Heap) (L : List Loc) : Prop := v = none ∧ Fr n0 L ∧ Keep h0 h [aa0] ∧ (Fld Z h aa0 "com/example/thesaurus_rerank/thesaurusrerank/space/SparseDistances" "rowStarts" "[I" (.ref aa1)) ∧ (Fld Z h aa0 "com/example/thesaurus_rerank/thesaurusrerank/space/SparseDistances" "columns" "[I" (.ref aa2)) ∧ (Fld Z h aa0 "com/example/thesaurus_rerank/thesaurusrerank/space/SparseDistances" "distances" "[D" (.ref aa3))
set_option maxRecDepth 65536 in
set_option maxHeartbeats 40000000 in
theorem rm10 (l : Launch) (Z : State) (a0 : Array Value) (hw : ∀ d ∈ tables_1, d.before a0 Z = true) (ws : List Jvm.Cond) (aa0 : Addr) (aa1 : Addr) (aa2 : Addr) (aa3 : Addr) (u_rowStarts : Value) (u_columns : Value) (u_distances : Value) (h0 : Heap) (n0 : Nat) (Z0 : n0 ≤ h0.size) (E_aa0 : Exa Z h0 aa0 "com/example/thesaurus_rerank/thesaurusrerank/space/SparseDistances") (g_aa0 : n0 ≤ aa0) (F_aa0_rowStarts : Fld Z h0 aa0 "com/example/thesaurus_rerank/thesaurusrerank/space/SparseDistances" "rowStarts" "[I" u_rowStarts) (F_aa0_columns : Fld Z h0 aa0 "com/example/thesaurus_rerank/thesaurusrerank/space/SparseDistances" "columns" "[I" u_columns) (F_aa0_distances : Fld Z h0 aa0 "com/example/thesaurus_rerank/thesaurusrerank/space/SparseDistances" "distances" "[D" u_distances) :
    MetFree l (⟨"com/example/thesaurus_rerank/thesaurusrerank/space/SparseDistances", "<init>", "([I[I[D)V"⟩ : MethodName) (head1 (Jvm.Cond.code (⟨"com/example/thesaurus_rerank/thesaurusrerank/space/SparseDistances", "<init>", "([I[I[D)V"⟩ : MethodName) prog_23_method_1_code 4 none :: ws) ({ frames := 1, cells := 0, slots := 0, locals := 12 } : Room)) (fun a U => a = #[(.ref aa0), (.ref aa1), (.ref aa2), (.ref aa3)] ∧ Z.Warmed39 U.vm ∧ U.heap = h0) (fun _ _ _ _ _ => True) (fun _ U o U' => ∃ v L, o = .returned v ∧ Q10 Z aa0 aa1 aa2 aa3 u_rowStarts u_columns u_distances h0 n0 v U'.heap L ∧ FrameEnd U o U' L ({ frames := 1, cells := 0, slots := 0, locals := 12 } : Room).cells ({ frames := 1, cells := 0, slots := 0, locals := 12 } : Room).slots) := by
  refine MetFree.of_bodySF (plainFor_of_name pn_com_example_thesaurus_rerank_thesaurusrerank_space_SparseDistances) hisR ?_
  intro p e s m args below meth c s₁ Bd hml0 hP hK
  obtain ⟨rfl, hZ, hh⟩ := hP
  have hx := Bd.exec
  have hby := Bd.bytes
  have hml : c.maxLocals = 4 := hml0
  have hown : s.vm.findClass "com/example/thesaurus_rerank/thesaurusrerank/space/SparseDistances" = some m.cls := findClass_of_methodNamed Bd.named
  have hnm := (name_of_methodNamed Bd.named Bd.method).1
  have X0 : Stand p l e ({ frames := 1, cells := 0, slots := 0, locals := 12 } : Room) s m #[(.ref aa0), (.ref aa1), (.ref aa2), (.ref aa3)] below meth c s₁ [] 0 0 := Stand.of_body Bd
  have e0 : s₁.heap = h0 := by rw [← hh, Bd.state]; rfl
  have N0 := Fr.nil n0
  have pre0 : ∀ t, Steps p.tables e below (s₁.setTop (mkF m 0 #[.val (.ref aa0), .val (.ref aa1), .val (.ref aa2), .val (.ref aa3)] [])) t → Steps p.tables e below (s₁.setTop (entryFrame m #[(.ref aa0), (.ref aa1), (.ref aa2), (.ref aa3)] 4)) t := fun t k => castTop (ef_10 m aa0 aa1 aa2 aa3) k
  obtain ⟨T1, X1, e1, st1⟩ := initO X0 hx hZ hown (hw _ (List.mem_of_getElem? (i := 64) rfl)) (hw _ (List.mem_of_getElem? (i := 7) rfl)) (hw _ (List.mem_of_getElem? (i := 8) rfl)) e0 (g := (mkF m 1 #[.val (.ref aa0), .val (.ref aa1), .val (.ref aa2), .val (.ref aa3)] [(.ref aa0)])) rfl (by rw [hml]; rfl) rfl (hb hby d10_1) (by decide) (W := 0) (by show 2 * 0 + _ ≤ _; exact Nat.le_of_eq rfl) (by decide)
  obtain ⟨T2, h2, X2, e2, W2, st2⟩ := putF X1 hx hZ hown (host := "") (Or.inl (hw _ (List.mem_of_getElem? (i := 65) rfl))) Via.refl e1 F_aa0_rowStarts E_aa0 (Or.inr ⟨(hw _ (List.mem_of_getElem? (i := 66) rfl)), rfl, hnm⟩) (hw _ (List.mem_of_getElem? (i := 44) rfl)) (ty := (.array .int)) (by decide) rfl rfl (g := (mkF m 6 #[.val (.ref aa0), .val (.ref aa1), .val (.ref aa2), .val (.ref aa3)] [(.ref aa1), (.ref aa0)])) rfl rfl (hb hby d10_6)
  have N2 := Fr.snoc X2 N0 g_aa0
  have Z2 : n0 ≤ h2.size := Nat.le_trans Z0 (Keep.of_wr W2).1
  have K2 : Keep h0 h2 [aa0] := (Keep.refl h0 [aa0]).wr W2 (Or.inl (List.mem_of_getElem? (i := 0) rfl))
  have F2 : Fld Z h2 aa0 "com/example/thesaurus_rerank/thesaurusrerank/space/SparseDistances" "rowStarts" "[I" (.ref aa1) := F_aa0_rowStarts.same W2
  have E_3 : Exa Z h2 aa0 "com/example/thesaurus_rerank/thesaurusrerank/space/SparseDistances" := (E_aa0.wr W2)
  have F_4 : Fld Z h2 aa0 "com/example/thesaurus_rerank/thesaurusrerank/space/SparseDistances" "columns" "[I" u_columns := (F_aa0_columns.other W2 (Or.inr (slot_ne (Or.inr (hw _ (List.mem_of_getElem? (i := 68) rfl))) (Or.inr (hw _ (List.mem_of_getElem? (i := 66) rfl))) (by decide) (t := (.array .int)) (t' := (.array .int)) (by decide) (by decide))))
  obtain ⟨T5, h5, X5, e5, W5, st5⟩ := putF X2 hx hZ hown (host := "") (Or.inl (hw _ (List.mem_of_getElem? (i := 67) rfl))) Via.refl e2 F_4 E_3 (Or.inr ⟨(hw _ (List.mem_of_getElem? (i := 68) rfl)), rfl, hnm⟩) (hw _ (List.mem_of_getElem? (i := 44) rfl)) (ty := (.array .int)) (by decide) rfl rfl (g := (mkF m 11 #[.val (.ref aa0), .val (.ref aa1), .val (.ref aa2), .val (.ref aa3)] [(.ref aa2), (.ref aa0)])) rfl rfl (hb hby d10_11)
  have N5 := Fr.snoc X5 N2 g_aa0
  have Z5 : n0 ≤ h5.size := Nat.le_trans Z2 (Keep.of_wr W5).1
  have K5 : Keep h0 h5 [aa0] := K2.wr W5 (Or.inl (List.mem_of_getElem? (i := 0) rfl))
  have F5 : Fld Z h5 aa0 "com/example/thesaurus_rerank/thesaurusrerank/space/SparseDistances" "columns" "[I" (.ref aa2) := F_4.same W5
  have E_6 : Exa Z h5 aa0 "com/example/thesaurus_rerank/thesaurusrerank/space/SparseDistances" := (E_3.wr W5)
  have F_7 : Fld Z h5 aa0 "com/example/thesaurus_rerank/thesaurusrerank/space/SparseDistances" "distances" "[D" u_distances := ((F_aa0_distances.other W2 (Or.inr (slot_ne (Or.inr (hw _ (List.mem_of_getElem? (i := 70) rfl))) (Or.inr (hw _ (List.mem_of_getElem? (i := 66) rfl))) (by decide) (t := (.array .double)) (t' := (.array .int)) (by decide) (by decide)))).other W5 (Or.inr (slot_ne (Or.inr (hw _ (List.mem_of_getElem? (i := 70) rfl))) (Or.inr (hw _ (List.mem_of_getElem? (i := 68) rfl))) (by decide) (t := (.array .double)) (t' := (.array .int)) (by decide) (by decide))))
  obtain ⟨T8, h8, X8, e8, W8, st8⟩ := putF X5 hx hZ hown (host := "") (Or.inl (hw _ (List.mem_of_getElem? (i := 69) rfl))) Via.refl e5 F_7 E_6 (Or.inr ⟨(hw _ (List.mem_of_getElem? (i := 70) rfl)), rfl, hnm⟩) (hw _ (List.mem_of_getElem? (i := 44) rfl)) (ty := (.array .double)) (by decide) rfl rfl (g := (mkF m 16 #[.val (.ref aa0), .val (.ref aa1), .val (.ref aa2), .val (.ref aa3)] [(.ref aa3), (.ref aa0)])) rfl rfl (hb hby d10_16)
  have N8 := Fr.snoc X8 N5 g_aa0
  have Z8 : n0 ≤ h8.size := Nat.le_trans Z5 (Keep.of_wr W8).1
  have K8 : Keep h0 h8 [aa0] := K5.wr W8 (Or.inl (List.mem_of_getElem? (i := 0) rfl))
  have F8 : Fld Z h8 aa0 "com/example/thesaurus_rerank/thesaurusrerank/space/SparseDistances" "distances" "[D" (.ref aa3) := F_7.same W8
  have F_9 : Fld Z h8 aa0 "com/example/thesaurus_rerank/thesaurusrerank/space/SparseDistances" "rowStarts" "[I" (.ref aa1) := ((F2.other W5 (Or.inr (slot_ne (Or.inr (hw _ (List.mem_of_getElem? (i := 66) rfl))) (Or.inr (hw _ (List.mem_of_getElem? (i := 68) rfl))) (by decide) (t := (.array .int)) (t' := (.array .int)) (by decide) (by decide)))).other W8 (Or.inr (slot_ne (Or.inr (hw _ (List.mem_of_getElem? (i := 66) rfl))) (Or.inr (hw _ (List.mem_of_getElem? (i := 70) rfl))) (by decide) (t := (.array .int)) (t' := (.array .double)) (by decide) (by decide))))
  have F_10 : Fld Z h8 aa0 "com/example/thesaurus_rerank/thesaurusrerank/space/SparseDistances" "columns" "[I" (.ref aa2) := (F5.other W8 (Or.inr (slot_ne (Or.inr (hw _ (List.mem_of_getElem? (i := 68) rfl))) (Or.inr (hw _ (List.mem_of_getElem? (i := 70) rfl))) (by decide) (t := (.array .int)) (t' := (.array .double)) (by decide) (by decide))))
  obtain ⟨fs, hr, hrun, hended, hW, hsame⟩ := X8.leave (v := none) (fun _ => rfl)
  refine ⟨_, _, pre0 _ ?_, hrun, hended, _, _, rfl, ?_, ⟨_, rfl⟩, hW, hsame.mono (by decide) (by decide)⟩
  · show Steps p.tables e below (s₁.setTop (mkF m 0 #[.val (.ref aa0), .val (.ref aa1), .val (.ref aa2), .val (.ref aa3)] [])) _
    refine XS.aloadN X0.here hx rfl (hb hby d10_0) rfl rfl ?_
    show Steps p.tables e below (s₁.setTop (mkF m 1 #[.val (.ref aa0), .val (.ref aa1), .val (.ref aa2), .val (.ref aa3)] [(.ref aa0)])) _
    refine st1 _ ?_
    show Steps p.tables e below (T1.setTop (mkF m 4 #[.val (.ref aa0), .val (.ref aa1), .val (.ref aa2), .val (.ref aa3)] [])) _
    refine XS.aloadN X1.here hx rfl (hb hby d10_4) rfl rfl ?_
    show Steps p.tables e below (T1.setTop (mkF m 5 #[.val (.ref aa0), .val (.ref aa1), .val (.ref aa2), .val (.ref aa3)] [(.ref aa0)])) _
    refine XS.aloadN X1.here hx rfl (hb hby d10_5) rfl rfl ?_
    show Steps p.tables e below (T1.setTop (mkF m 6 #[.val (.ref aa0), .val (.ref aa1), .val (.ref aa2), .val (.ref aa3)] [(.ref aa1), (.ref aa0)])) _
    refine st2 _ ?_
    show Steps p.tables e below (T2.setTop (mkF m 9 #[.val (.ref aa0), .val (.ref aa1), .val (.ref aa2), .val (.ref aa3)] [])) _
    refine XS.aloadN X2.here hx rfl (hb hby d10_9) rfl rfl ?_
    show Steps p.tables e below (T2.setTop (mkF m 10 #[.val (.ref aa0), .val (.ref aa1), .val (.ref aa2), .val (.ref aa3)] [(.ref aa0)])) _
    refine XS.aloadN X2.here hx rfl (hb hby d10_10) rfl rfl ?_
    show Steps p.tables e below (T2.setTop (mkF m 11 #[.val (.ref aa0), .val (.ref aa1), .val (.ref aa2), .val (.ref aa3)] [(.ref aa2), (.ref aa0)])) _
    refine st5 _ ?_
    show Steps p.tables e below (T5.setTop (mkF m 14 #[.val (.ref aa0), .val (.ref aa1), .val (.ref aa2), .val (.ref aa3)] [])) _
    refine XS.aloadN X5.here hx rfl (hb hby d10_14) rfl rfl ?_
    show Steps p.tables e below (T5.setTop (mkF m 15 #[.val (.ref aa0), .val (.ref aa1), .val (.ref aa2), .val (.ref aa3)] [(.ref aa0)])) _
    refine XS.aloadN X5.here hx rfl (hb hby d10_15) rfl rfl ?_
    show Steps p.tables e below (T5.setTop (mkF m 16 #[.val (.ref aa0), .val (.ref aa1), .val (.ref aa2), .val (.ref aa3)] [(.ref aa3), (.ref aa0)])) _
    refine st8 _ ?_
    show Steps p.tables e below (T8.setTop (mkF m 19 #[.val (.ref aa0), .val (.ref aa1), .val (.ref aa2), .val (.ref aa3)] [])) _
    exact X8.returnOut hx Bd.returns (hb hby d10_19) hr
  · show Q10 Z aa0 aa1 aa2 aa3 u_rowStarts u_columns u_distances h0 n0 _ T8.heap _
    rw [e8]
    exact ⟨rfl, N8, K8, F_9, F_10, F8⟩
theorem pd__28__5b_II_29__5b_I : parseMethodDescriptor "([II)[I" = some ⟨[(.array .int), .int], some (.array .int)⟩ := by decide +kernel
theorem pd__28__5b_DI_29__5b_D : parseMethodDescriptor "([DI)[D" = some ⟨[(.array .double), .int], some (.array .double)⟩ := by decide +kernel
theorem pd__28__5b_I_5b_I_5b_D_29_V : parseMethodDescriptor "([I[I[D)V" = some ⟨[(.array .int), (.array .int), (.array .double)], none⟩ := by decide +kernel
theorem d6_0 : decode prog_24_method_4_code 0 = .ok (.aload_n 0, 1) := by decide +kernel
theorem d6_1 : decode prog_24_method_4_code 1 = .ok (.getfield 33, 3) := by decide +kernel
theorem d6_4 : decode prog_24_method_4_code 4 = .ok (.aload_n 0, 1) := by decide +kernel
theorem d6_5 : decode prog_24_method_4_code 5 = .ok (.getfield 17, 3) := by decide +kernel
theorem d6_8 : decode prog_24_method_4_code 8 = .ok (.arraylength, 1) := by decide +kernel
theorem d6_9 : decode prog_24_method_4_code 9 = .ok (.iconst 1, 1) := by decide +kernel
theorem d6_10 : decode prog_24_method_4_code 10 = .ok (.isub, 1) := by decide +kernel
theorem d6_11 : decode prog_24_method_4_code 11 = .ok (.if_icmp .eq 27, 3) := by decide +kernel
theorem d6_38 : decode prog_24_method_4_code 38 = .ok (.new 45, 3) := by decide +kernel
theorem d6_41 : decode prog_24_method_4_code 41 = .ok (.dup, 1) := by decide +kernel
theorem d6_42 : decode prog_24_method_4_code 42 = .ok (.aload_n 0, 1) := by decide +kernel
theorem d6_43 : decode prog_24_method_4_code 43 = .ok (.getfield 17, 3) := by decide +kernel
theorem d6_46 : decode prog_24_method_4_code 46 = .ok (.aload_n 0, 1) := by decide +kernel
theorem d6_47 : decode prog_24_method_4_code 47 = .ok (.getfield 7, 3) := by decide +kernel
theorem d6_50 : decode prog_24_method_4_code 50 = .ok (.aload_n 0, 1) := by decide +kernel
theorem d6_51 : decode prog_24_method_4_code 51 = .ok (.getfield 20, 3) := by decide +kernel
theorem d6_54 : decode prog_24_method_4_code 54 = .ok (.invokestatic 24, 3) := by decide +kernel
theorem d6_57 : decode prog_24_method_4_code 57 = .ok (.aload_n 0, 1) := by decide +kernel
theorem d6_58 : decode prog_24_method_4_code 58 = .ok (.getfield 13, 3) := by decide +kernel
theorem d6_61 : decode prog_24_method_4_code 61 = .ok (.aload_n 0, 1) := by decide +kernel
theorem d6_62 : decode prog_24_method_4_code 62 = .ok (.getfield 20, 3) := by decide +kernel
theorem d6_65 : decode prog_24_method_4_code 65 = .ok (.invokestatic 30, 3) := by decide +kernel
theorem d6_68 : decode prog_24_method_4_code 68 = .ok (.invokespecial 47, 3) := by decide +kernel
theorem d6_71 : decode prog_24_method_4_code 71 = .ok (.areturn, 1) := by decide +kernel
theorem ef_6 (m : MethodId) (x0 : Addr) : entryFrame m #[(.ref x0)] 1 = mkF m 0 #[.val (.ref x0)] [] := by first | (simp [entryFrame, mkF, argsToLocals, Value.category]; done) | rfl
def Q6 (Z : State) (aa0 : Addr) (b1 : Addr) (b2 : Addr) (b3 : Addr) (k1 : ClassId) (k2 : ClassId) (v1 : List Value) (v2 : List Value) (en : Int32) (k3 : ClassId) (v3 : List Value) (h0 : Heap) (n0 : Nat) (v : Option Value) (h : Heap) (L : List Loc) : Prop := ∃ (bx : Addr), v = some (.ref bx) ∧ Fr n0 L ∧ Keep h0 h [] ∧ n0 ≤ bx ∧ h0.size ≤ bx ∧ (Exa Z h bx "com/example/thesaurus_rerank/thesaurusrerank/space/SparseDistances") ∧ (Fld Z h bx "com/example/thesaurus_rerank/thesaurusrerank/space/SparseDistances" "rowStarts" "[I" (.ref b3))
set_option maxRecDepth 65536 in
set_option maxHeartbeats 40000000 in
theorem rm6 (l : Launch) (Z : State) (a0 : Array Value) (hw : ∀ d ∈ tables_1, d.before a0 Z = true) (ws : List Jvm.Cond) (aa0 : Addr) (b1 : Addr) (b2 : Addr) (b3 : Addr) (k1 : ClassId) (k2 : ClassId) (v1 : List Value) (v2 : List Value) (en : Int32) (k3 : ClassId) (v3 : List Value) (h0 : Heap) (n0 : Nat) (Z0 : n0 ≤ h0.size) (F_aa0_columns : Fld Z h0 aa0 "com/example/thesaurus_rerank/thesaurusrerank/space/SparseDistances$Builder" "columns" "[I" (.ref b1)) (F_aa0_distances : Fld Z h0 aa0 "com/example/thesaurus_rerank/thesaurusrerank/space/SparseDistances$Builder" "distances" "[D" (.ref b2)) (F_aa0_rowStarts : Fld Z h0 aa0 "com/example/thesaurus_rerank/thesaurusrerank/space/SparseDistances$Builder" "rowStarts" "[I" (.ref b3)) (F_aa0_entries : Fld Z h0 aa0 "com/example/thesaurus_rerank/thesaurusrerank/space/SparseDistances$Builder" "entries" "I" (.int en)) (F_aa0_rowsEnded : Fld Z h0 aa0 "com/example/thesaurus_rerank/thesaurusrerank/space/SparseDistances$Builder" "rowsEnded" "I" (.int (3 : Int32))) (V_b1 : Arv Z h0 b1 k1 .int (16 : Int32) v1 (.int (0 : Int32))) (V_b2 : Arv Z h0 b2 k2 .double (16 : Int32) v2 (.double (0 : UInt64))) (V_b3 : Arv Z h0 b3 k3 .int (4 : Int32) v3 (.int (0 : Int32))) (hbd : own_in 16 en) :
    MetFree l (⟨"com/example/thesaurus_rerank/thesaurusrerank/space/SparseDistances$Builder", "build", "()Lcom/example/thesaurus_rerank/thesaurusrerank/space/SparseDistances;"⟩ : MethodName) (head1 (Jvm.Cond.code (⟨"com/example/thesaurus_rerank/thesaurusrerank/space/SparseDistances$Builder", "build", "()Lcom/example/thesaurus_rerank/thesaurusrerank/space/SparseDistances;"⟩ : MethodName) prog_24_method_4_code 1 (some (.object "com/example/thesaurus_rerank/thesaurusrerank/space/SparseDistances")) :: ws) ({ frames := 2, cells := 3, slots := 35, locals := 58 } : Room)) (fun a U => a = #[(.ref aa0)] ∧ Z.Warmed39 U.vm ∧ U.heap = h0) (fun _ _ _ _ _ => True) (fun _ U o U' => ∃ v L, o = .returned v ∧ Q6 Z aa0 b1 b2 b3 k1 k2 v1 v2 en k3 v3 h0 n0 v U'.heap L ∧ FrameEnd U o U' L ({ frames := 2, cells := 3, slots := 35, locals := 58 } : Room).cells ({ frames := 2, cells := 3, slots := 35, locals := 58 } : Room).slots) := by
  refine MetFree.of_bodySF (plainFor_of_name pn_com_example_thesaurus_rerank_thesaurusrerank_space_SparseDistances_Builder) hisR ?_
  intro p e s m args below meth c s₁ Bd hml0 hP hK
  obtain ⟨rfl, hZ, hh⟩ := hP
  have hx := Bd.exec
  have hby := Bd.bytes
  have hml : c.maxLocals = 1 := hml0
  have hown : s.vm.findClass "com/example/thesaurus_rerank/thesaurusrerank/space/SparseDistances$Builder" = some m.cls := findClass_of_methodNamed Bd.named
  have hnm := (name_of_methodNamed Bd.named Bd.method).1
  have X0 : Stand p l e ({ frames := 2, cells := 3, slots := 35, locals := 58 } : Room) s m #[(.ref aa0)] below meth c s₁ [] 0 0 := Stand.of_body Bd
  have e0 : s₁.heap = h0 := by rw [← hh, Bd.state]; rfl
  have N0 := Fr.nil n0
  have pre0 : ∀ t, Steps p.tables e below (s₁.setTop (mkF m 0 #[.val (.ref aa0)] [])) t → Steps p.tables e below (s₁.setTop (entryFrame m #[(.ref aa0)] 1)) t := fun t k => castTop (ef_6 m aa0) k
  obtain ⟨T1, X1, e1, st1⟩ := getF X0 hx hZ hown (host := "") (Or.inl (hw _ (List.mem_of_getElem? (i := 26) rfl))) Via.refl e0 F_aa0_rowsEnded (g := (mkF m 1 #[.val (.ref aa0)] [(.ref aa0)])) rfl rfl (hb hby d6_1)
  obtain ⟨T2, X2, e2, st2⟩ := getF X1 hx hZ hown (host := "") (Or.inl (hw _ (List.mem_of_getElem? (i := 15) rfl))) Via.refl e1 F_aa0_rowStarts (g := (mkF m 5 #[.val (.ref aa0)] [(.ref aa0), (.int (3 : Int32))])) rfl rfl (hb hby d6_5)
  obtain ⟨cl_3, Ar_3, -, Sz_3, Nn_3, -, -⟩ := id V_b3
  have hc11 : (3 : Int32) = (3 : Int32) := by decide
  obtain ⟨T4, h4, X4, e4, E4, A4, D4, -, st4⟩ := newO X2 hx hZ hown (hw _ (List.mem_of_getElem? (i := 43) rfl)) (hw _ (List.mem_of_getElem? (i := 44) rfl)) (hw _ (List.mem_of_getElem? (i := 45) rfl)) e2 (g := (mkF m 38 #[.val (.ref aa0)] [])) rfl (hb hby d6_38) (by decide) (by decide)
  obtain ⟨b4, g4⟩ : ∃ z, z = h0.size := ⟨_, rfl⟩
  rw [← g4] at A4 D4 st4
  have g_b4 : n0 ≤ b4 := Nat.le_trans Z0 (Nat.le_of_eq g4.symm)
  have sz_b4 : h0.size ≤ b4 := Nat.le_trans (Keep.refl h0 []).1 (Nat.le_of_eq g4.symm)
  have Z4 : n0 ≤ h4.size := Nat.le_trans Z0 E4.1
  have K4 : Keep h0 h4 [] := (Keep.refl h0 []).ext E4
  have F4_rowStarts : Fld Z h4 b4 "com/example/thesaurus_rerank/thesaurusrerank/space/SparseDistances" "rowStarts" "[I" .null := D4 (Or.inr (hw _ (List.mem_of_getElem? (i := 66) rfl))) (ty := (.array .int)) (by decide)
  have F4_columns : Fld Z h4 b4 "com/example/thesaurus_rerank/thesaurusrerank/space/SparseDistances" "columns" "[I" .null := D4 (Or.inr (hw _ (List.mem_of_getElem? (i := 68) rfl))) (ty := (.array .int)) (by decide)
  have F4_distances : Fld Z h4 b4 "com/example/thesaurus_rerank/thesaurusrerank/space/SparseDistances" "distances" "[D" .null := D4 (Or.inr (hw _ (List.mem_of_getElem? (i := 70) rfl))) (ty := (.array .double)) (by decide)
  have F_5 : Fld Z h4 aa0 "com/example/thesaurus_rerank/thesaurusrerank/space/SparseDistances$Builder" "rowStarts" "[I" (.ref b3) := (F_aa0_rowStarts.ext E4)
  obtain ⟨T6, X6, e6, st6⟩ := getF X4 hx hZ hown (host := "") (Or.inl (hw _ (List.mem_of_getElem? (i := 15) rfl))) Via.refl e4 F_5 (g := (mkF m 43 #[.val (.ref aa0)] [(.ref aa0), (.ref b4), (.ref b4)])) rfl rfl (hb hby d6_43)
  have F_7 : Fld Z h4 aa0 "com/example/thesaurus_rerank/thesaurusrerank/space/SparseDistances$Builder" "columns" "[I" (.ref b1) := (F_aa0_columns.ext E4)
  obtain ⟨T8, X8, e8, st8⟩ := getF X6 hx hZ hown (host := "") (Or.inl (hw _ (List.mem_of_getElem? (i := 10) rfl))) Via.refl e6 F_7 (g := (mkF m 47 #[.val (.ref aa0)] [(.ref aa0), (.ref b3), (.ref b4), (.ref b4)])) rfl rfl (hb hby d6_47)
  have F_9 : Fld Z h4 aa0 "com/example/thesaurus_rerank/thesaurusrerank/space/SparseDistances$Builder" "entries" "I" (.int en) := (F_aa0_entries.ext E4)
  obtain ⟨T10, X10, e10, st10⟩ := getF X8 hx hZ hown (host := "") (Or.inl (hw _ (List.mem_of_getElem? (i := 28) rfl))) Via.refl e8 F_9 (g := (mkF m 51 #[.val (.ref aa0)] [(.ref aa0), (.ref b1), (.ref b3), (.ref b4), (.ref b4)])) rfl rfl (hb hby d6_51)
  have V_11 : Arv Z h4 b1 k1 .int (16 : Int32) v1 (.int (0 : Int32)) := (V_b1.ext E4)
  obtain ⟨_, _, ⟨T12, L12, k12, n12⟩, -, X12, ⟨Lc12, hQ12, l12, y12, z12⟩, st12⟩ := Jvm.LawKit.callS X10 hx (y := (⟨"java/util/Arrays", "copyOf", "([II)[I"⟩ : MethodName)) hown (mvT hZ (hw _ (List.mem_of_getElem? (i := 46) rfl))) (mvT hZ (hw _ (List.mem_of_getElem? (i := 47) rfl))) (mvT hZ (hw _ (List.mem_of_getElem? (i := 48) rfl))) (mvT hZ (hw _ (List.mem_of_getElem? (i := 49) rfl))) (by decide) (backOf (W := 3) (rm7 l Z a0 hw [] b1 en k1 v1 h4 n0 Z4 V_11 (show own_in 16 en from hbd)) hZ (hw _ (List.mem_of_getElem? (i := 49) rfl)) (hw _ (List.mem_of_getElem? (i := 48) rfl)) (by decide) (by decide)) (g := (mkF m 54 #[.val (.ref aa0)] [(.int en), (.ref b1), (.ref b3), (.ref b4), (.ref b4)])) rfl (by rw [hml]; rfl) (argsL := [(.ref b1), (.int en)]) (rest := [(.ref b3), (.ref b4), (.ref b4)]) (lenOf pd__28__5b_II_29__5b_I rfl) rfl (by show 2 * 0 + _ ≤ _; exact Nat.le_of_eq rfl) (hb hby d6_54) (fun _ _ => ⟨rfl, e10, (by decide : 1 + 1 ≤ _), (by decide : 3 + 16 ≤ _)⟩)
  dsimp only [Pt.U, Pt.locs, Pt.cells, Pt.slots] at X12 l12 y12 z12 st12 hQ12
  subst l12 y12 z12
  obtain ⟨bx_12, rfl, N12q, K12c, g_bx_12, sb_bx_12⟩ := hQ12
  have N12 := Fr.app N0 N12q
  have sz_bx_12 : h0.size ≤ bx_12 := Nat.le_trans K4.1 sb_bx_12
  have Z12 : n0 ≤ T12.heap.size := Nat.le_trans Z4 K12c.1
  have K12 : Keep h0 T12.heap [] := K4.trans K12c all0
  have F_13 : Fld Z T12.heap aa0 "com/example/thesaurus_rerank/thesaurusrerank/space/SparseDistances$Builder" "distances" "[D" (.ref b2) := ((F_aa0_distances.ext E4).keep K12c nin0)
  obtain ⟨T14, X14, e14, st14⟩ := getF X12 hx hZ hown (host := "") (Or.inl (hw _ (List.mem_of_getElem? (i := 13) rfl))) Via.refl rfl F_13 (g := (mkF m 58 #[.val (.ref aa0)] [(.ref aa0), (.ref bx_12), (.ref b3), (.ref b4), (.ref b4)])) rfl rfl (hb hby d6_58)
  have F_15 : Fld Z T12.heap aa0 "com/example/thesaurus_rerank/thesaurusrerank/space/SparseDistances$Builder" "entries" "I" (.int en) := (F_9.keep K12c nin0)
  obtain ⟨T16, X16, e16, st16⟩ := getF X14 hx hZ hown (host := "") (Or.inl (hw _ (List.mem_of_getElem? (i := 28) rfl))) Via.refl e14 F_15 (g := (mkF m 62 #[.val (.ref aa0)] [(.ref aa0), (.ref b2), (.ref bx_12), (.ref b3), (.ref b4), (.ref b4)])) rfl rfl (hb hby d6_62)
  have V_17 : Arv Z T12.heap b2 k2 .double (16 : Int32) v2 (.double (0 : UInt64)) := ((V_b2.ext E4).keep K12c nin0)
  obtain ⟨_, _, ⟨T18, L18, k18, n18⟩, -, X18, ⟨Lc18, hQ18, l18, y18, z18⟩, st18⟩ := Jvm.LawKit.callS X16 hx (y := (⟨"java/util/Arrays", "copyOf", "([DI)[D"⟩ : MethodName)) hown (mvT hZ (hw _ (List.mem_of_getElem? (i := 58) rfl))) (mvT hZ (hw _ (List.mem_of_getElem? (i := 59) rfl))) (mvT hZ (hw _ (List.mem_of_getElem? (i := 48) rfl))) (mvT hZ (hw _ (List.mem_of_getElem? (i := 60) rfl))) (by decide) (backOf (W := 4) (rm9 l Z a0 hw [] b2 en k2 v2 T12.heap n0 Z12 V_17 (show own_in 16 en from hbd)) hZ (hw _ (List.mem_of_getElem? (i := 60) rfl)) (hw _ (List.mem_of_getElem? (i := 48) rfl)) (by decide) (by decide)) (g := (mkF m 65 #[.val (.ref aa0)] [(.int en), (.ref b2), (.ref bx_12), (.ref b3), (.ref b4), (.ref b4)])) rfl (by rw [hml]; rfl) (argsL := [(.ref b2), (.int en)]) (rest := [(.ref bx_12), (.ref b3), (.ref b4), (.ref b4)]) (lenOf pd__28__5b_DI_29__5b_D rfl) rfl (by show 2 * 0 + _ ≤ _; exact Nat.le_of_eq rfl) (hb hby d6_65) (fun _ _ => ⟨rfl, e16, (by decide : 2 + 1 ≤ _), (by decide : 19 + 16 ≤ _)⟩)
  dsimp only [Pt.U, Pt.locs, Pt.cells, Pt.slots] at X18 l18 y18 z18 st18 hQ18
  subst l18 y18 z18
  obtain ⟨bx_18, rfl, N18q, K18c, g_bx_18, sb_bx_18⟩ := hQ18
  have N18 := Fr.app N12 N18q
  have sz_bx_18 : h0.size ≤ bx_18 := Nat.le_trans K12.1 sb_bx_18
  have Z18 : n0 ≤ T18.heap.size := Nat.le_trans Z12 K18c.1
  have K18 : Keep h0 T18.heap [] := K12.trans K18c all0
  have E_19 : Exa Z T18.heap b4 "com/example/thesaurus_rerank/thesaurusrerank/space/SparseDistances" := ((A4.keep K12c).keep K18c)
  have F_20 : Fld Z T18.heap b4 "com/example/thesaurus_rerank/thesaurusrerank/space/SparseDistances" "rowStarts" "[I" .null := ((F4_rowStarts.keep K12c nin0).keep K18c nin0)
  have F_21 : Fld Z T18.heap b4 "com/example/thesaurus_rerank/thesaurusrerank/space/SparseDistances" "columns" "[I" .null := ((F4_columns.keep K12c nin0).keep K18c nin0)
  have F_22 : Fld Z T18.heap b4 "com/example/thesaurus_rerank/thesaurusrerank/space/SparseDistances" "distances" "[D" .null := ((F4_distances.keep K12c nin0).keep K18c nin0)
  obtain ⟨_, _, ⟨T23, L23, k23, n23⟩, -, X23, ⟨Lc23, hQ23, l23, y23, z23⟩, st23⟩ := X18.specialBackNest hx (y := (⟨"com/example/thesaurus_rerank/thesaurusrerank/space/SparseDistances", "<init>", "([I[I[D)V"⟩ : MethodName)) rfl hown (Cond.methodLinkNest_wide hZ (hw _ (List.mem_of_getElem? (i := 61) rfl)) :) (mvT hZ (hw _ (List.mem_of_getElem? (i := 62) rfl))) (mvT hZ (hw _ (List.mem_of_getElem? (i := 63) rfl))) (by decide) (backOf (W := 1) (rm10 l Z a0 hw [] b4 b3 bx_12 bx_18 .null .null .null T18.heap n0 Z18 E_19 g_b4 F_20 F_21 F_22) hZ (hw _ (List.mem_of_getElem? (i := 63) rfl)) (hw _ (List.mem_of_getElem? (i := 45) rfl)) (by decide) (by decide)) (g := (mkF m 68 #[.val (.ref aa0)] [(.ref bx_18), (.ref bx_12), (.ref b3), (.ref b4), (.ref b4)])) rfl (by rw [hml]; rfl) (Steps.refl _) (a := b4) (argsL := [(.ref b3), (.ref bx_12), (.ref bx_18)]) (rest := [(.ref b4)]) (lenOf pd__28__5b_I_5b_I_5b_D_29_V rfl) rfl (by show 2 * 0 + _ ≤ _; exact Nat.le_of_eq rfl) (hb hby d6_68) (fun _ _ => ⟨rfl, rfl, (by decide : 3 + 0 ≤ _), (by decide : 35 + 0 ≤ _)⟩)
  dsimp only [Pt.U, Pt.locs, Pt.cells, Pt.slots] at X23 l23 y23 z23 st23 hQ23
  subst l23 y23 z23
  obtain ⟨rfl, N23q, K23c, R23_0, R23_1, R23_2⟩ := hQ23
  have N23 := Fr.app N18 N23q
  have Z23 : n0 ≤ T23.heap.size := Nat.le_trans Z18 K23c.1
  have K23 : Keep h0 T23.heap [] := K18.trans K23c (allS (Or.inr sz_b4) all0)
  have E_24 : Exa Z T23.heap b4 "com/example/thesaurus_rerank/thesaurusrerank/space/SparseDistances" := (E_19.keep K23c)
  obtain ⟨fs, hr, hrun, hended, hW, hsame⟩ := X23.leave (v := some (.ref b4)) (fun h => by rw [Bd.returns] at h; cases h)
  refine ⟨_, _, pre0 _ ?_, hrun, hended, _, _, rfl, ?_, ⟨_, rfl⟩, hW, hsame.mono (by decide) (by decide)⟩
  · show Steps p.tables e below (s₁.setTop (mkF m 0 #[.val (.ref aa0)] [])) _
    refine XS.aloadN X0.here hx rfl (hb hby d6_0) rfl rfl ?_
    show Steps p.tables e below (s₁.setTop (mkF m 1 #[.val (.ref aa0)] [(.ref aa0)])) _
    refine st1 _ ?_
    show Steps p.tables e below (T1.setTop (mkF m 4 #[.val (.ref aa0)] [(.int (3 : Int32))])) _
    refine XS.aloadN X1.here hx rfl (hb hby d6_4) rfl rfl ?_
    show Steps p.tables e below (T1.setTop (mkF m 5 #[.val (.ref aa0)] [(.ref aa0), (.int (3 : Int32))])) _
    refine st2 _ ?_
    show Steps p.tables e below (T2.setTop (mkF m 8 #[.val (.ref aa0)] [(.ref b3), (.int (3 : Int32))])) _
    refine X2.arraylength hx (by rw [e2]; exact Ar_3.1) (State.isArrayOf_alike hZ.alike Ar_3.2.1) (g := (mkF m 8 #[.val (.ref aa0)] [(.ref b3), (.int (3 : Int32))])) rfl rfl (hb hby d6_8) _ ?_
    rw [len_of Sz_3 Nn_3]
    show Steps p.tables e below (T2.setTop (mkF m 9 #[.val (.ref aa0)] [(.int (4 : Int32)), (.int (3 : Int32))])) _
    refine XS.iconst X2.here hx rfl (hb hby d6_9) ?_
    show Steps p.tables e below (T2.setTop (mkF m 10 #[.val (.ref aa0)] [(.int (1 : Int32)), (.int (4 : Int32)), (.int (3 : Int32))])) _
    refine XS.isub X2.here hx rfl (hb hby d6_10) rfl ?_
    show Steps p.tables e below (T2.setTop (mkF m 11 #[.val (.ref aa0)] [(.int (3 : Int32)), (.int (3 : Int32))])) _
    refine XS.icmpYes X2.here hx rfl (pc0 := 11) (pc' := 38) rfl (hb hby d6_11) rfl (teq hc11).1 (by decide) (by decide) ?_
    show Steps p.tables e below (T2.setTop (mkF m 38 #[.val (.ref aa0)] [])) _
    refine st4 _ ?_
    show Steps p.tables e below (T4.setTop (mkF m 41 #[.val (.ref aa0)] [(.ref b4)])) _
    refine XS.dup X4.here hx rfl (hb hby d6_41) rfl rfl ?_
    show Steps p.tables e below (T4.setTop (mkF m 42 #[.val (.ref aa0)] [(.ref b4), (.ref b4)])) _
    refine XS.aloadN X4.here hx rfl (hb hby d6_42) rfl rfl ?_
    show Steps p.tables e below (T4.setTop (mkF m 43 #[.val (.ref aa0)] [(.ref aa0), (.ref b4), (.ref b4)])) _
    refine st6 _ ?_
    show Steps p.tables e below (T6.setTop (mkF m 46 #[.val (.ref aa0)] [(.ref b3), (.ref b4), (.ref b4)])) _
    refine XS.aloadN X6.here hx rfl (hb hby d6_46) rfl rfl ?_
    show Steps p.tables e below (T6.setTop (mkF m 47 #[.val (.ref aa0)] [(.ref aa0), (.ref b3), (.ref b4), (.ref b4)])) _
    refine st8 _ ?_
    show Steps p.tables e below (T8.setTop (mkF m 50 #[.val (.ref aa0)] [(.ref b1), (.ref b3), (.ref b4), (.ref b4)])) _
    refine XS.aloadN X8.here hx rfl (hb hby d6_50) rfl rfl ?_
    show Steps p.tables e below (T8.setTop (mkF m 51 #[.val (.ref aa0)] [(.ref aa0), (.ref b1), (.ref b3), (.ref b4), (.ref b4)])) _
    refine st10 _ ?_
    show Steps p.tables e below (T10.setTop (mkF m 54 #[.val (.ref aa0)] [(.int en), (.ref b1), (.ref b3), (.ref b4), (.ref b4)])) _
    refine st12 _ ?_
    show Steps p.tables e below (T12.setTop (mkF m 57 #[.val (.ref aa0)] [(.ref bx_12), (.ref b3), (.ref b4), (.ref b4)])) _
    refine XS.aloadN X12.here hx rfl (hb hby d6_57) rfl rfl ?_
    show Steps p.tables e below (T12.setTop (mkF m 58 #[.val (.ref aa0)] [(.ref aa0), (.ref bx_12), (.ref b3), (.ref b4), (.ref b4)])) _
    refine st14 _ ?_
    show Steps p.tables e below (T14.setTop (mkF m 61 #[.val (.ref aa0)] [(.ref b2), (.ref bx_12), (.ref b3), (.ref b4), (.ref b4)])) _
    refine XS.aloadN X14.here hx rfl (hb hby d6_61) rfl rfl ?_
    show Steps p.tables e below (T14.setTop (mkF m 62 #[.val (.ref aa0)] [(.ref aa0), (.ref b2), (.ref bx_12), (.ref b3), (.ref b4), (.ref b4)])) _
    refine st16 _ ?_
    show Steps p.tables e below (T16.setTop (mkF m 65 #[.val (.ref aa0)] [(.int en), (.ref b2), (.ref bx_12), (.ref b3), (.ref b4), (.ref b4)])) _
    refine st18 _ ?_
    show Steps p.tables e below (T18.setTop (mkF m 68 #[.val (.ref aa0)] [(.ref bx_18), (.ref bx_12), (.ref b3), (.ref b4), (.ref b4)])) _
    refine st23.trans ?_
    show Steps p.tables e below (T23.setTop (mkF m 71 #[.val (.ref aa0)] [(.ref b4)])) _
    jvm_step X23.here [X23.here.top, hx, (hb hby d6_71), X23.method', Bd.returns, Value.isRef, FieldType.isReference]
    first | (intro acts; rw [hr _ acts rfl rfl rfl]) | rw [hr _ _ rfl rfl rfl]
    exact Steps.refl _
  · show Q6 Z aa0 b1 b2 b3 k1 k2 v1 v2 en k3 v3 h0 n0 _ T23.heap _
    exact ⟨b4, rfl, N23, K23, g_b4, sz_b4, E_24, R23_0⟩
theorem d11_0 : decode prog_23_method_2_code 0 = .ok (.aload_n 0, 1) := by decide +kernel
theorem d11_1 : decode prog_23_method_2_code 1 = .ok (.getfield 7, 3) := by decide +kernel
theorem d11_4 : decode prog_23_method_2_code 4 = .ok (.arraylength, 1) := by decide +kernel
theorem d11_5 : decode prog_23_method_2_code 5 = .ok (.iconst 1, 1) := by decide +kernel
theorem d11_6 : decode prog_23_method_2_code 6 = .ok (.isub, 1) := by decide +kernel
theorem d11_7 : decode prog_23_method_2_code 7 = .ok (.ireturn, 1) := by decide +kernel
theorem ef_11 (m : MethodId) (x0 : Addr) : entryFrame m #[(.ref x0)] 1 = mkF m 0 #[.val (.ref x0)] [] := by first | (simp [entryFrame, mkF, argsToLocals, Value.category]; done) | rfl
def Q11 (Z : State) (aa0 : Addr) (b3 : Addr) (k3 : ClassId) (v3 : List Value) (h0 : Heap) (n0 : Nat) (v : Option Value) (h : Heap) (L : List Loc) : Prop := v = some (.int (3 : Int32)) ∧ Fr n0 L ∧ h = h0
set_option maxRecDepth 65536 in
set_option maxHeartbeats 40000000 in
theorem rm11 (l : Launch) (Z : State) (a0 : Array Value) (hw : ∀ d ∈ tables_1, d.before a0 Z = true) (ws : List Jvm.Cond) (aa0 : Addr) (b3 : Addr) (k3 : ClassId) (v3 : List Value) (h0 : Heap) (n0 : Nat) (Z0 : n0 ≤ h0.size) (F_aa0_rowStarts : Fld Z h0 aa0 "com/example/thesaurus_rerank/thesaurusrerank/space/SparseDistances" "rowStarts" "[I" (.ref b3)) (V_b3 : Arv Z h0 b3 k3 .int (4 : Int32) v3 (.int (0 : Int32))) :
    MetFree l (⟨"com/example/thesaurus_rerank/thesaurusrerank/space/SparseDistances", "size", "()I"⟩ : MethodName) (head1 (Jvm.Cond.code (⟨"com/example/thesaurus_rerank/thesaurusrerank/space/SparseDistances", "size", "()I"⟩ : MethodName) prog_23_method_2_code 1 (some .int) :: ws) ({ frames := 0, cells := 0, slots := 0, locals := 0 } : Room)) (fun a U => a = #[(.ref aa0)] ∧ Z.Warmed39 U.vm ∧ U.heap = h0) (fun _ _ _ _ _ => True) (fun _ U o U' => ∃ v L, o = .returned v ∧ Q11 Z aa0 b3 k3 v3 h0 n0 v U'.heap L ∧ FrameEnd U o U' L ({ frames := 0, cells := 0, slots := 0, locals := 0 } : Room).cells ({ frames := 0, cells := 0, slots := 0, locals := 0 } : Room).slots) := by
  refine MetFree.of_bodySF (plainFor_of_name pn_com_example_thesaurus_rerank_thesaurusrerank_space_SparseDistances) hisR ?_
  intro p e s m args below meth c s₁ Bd hml0 hP hK
  obtain ⟨rfl, hZ, hh⟩ := hP
  have hx := Bd.exec
  have hby := Bd.bytes
  have hml : c.maxLocals = 1 := hml0
  have hown : s.vm.findClass "com/example/thesaurus_rerank/thesaurusrerank/space/SparseDistances" = some m.cls := findClass_of_methodNamed Bd.named
  have hnm := (name_of_methodNamed Bd.named Bd.method).1
  have X0 : Stand p l e ({ frames := 0, cells := 0, slots := 0, locals := 0 } : Room) s m #[(.ref aa0)] below meth c s₁ [] 0 0 := Stand.of_body Bd
  have e0 : s₁.heap = h0 := by rw [← hh, Bd.state]; rfl
  have N0 := Fr.nil n0
  have pre0 : ∀ t, Steps p.tables e below (s₁.setTop (mkF m 0 #[.val (.ref aa0)] [])) t → Steps p.tables e below (s₁.setTop (entryFrame m #[(.ref aa0)] 1)) t := fun t k => castTop (ef_11 m aa0) k
  obtain ⟨T1, X1, e1, st1⟩ := getF X0 hx hZ hown (host := "") (Or.inl (hw _ (List.mem_of_getElem? (i := 65) rfl))) Via.refl e0 F_aa0_rowStarts (g := (mkF m 1 #[.val (.ref aa0)] [(.ref aa0)])) rfl rfl (hb hby d11_1)
  obtain ⟨cl_2, Ar_2, -, Sz_2, Nn_2, -, -⟩ := id V_b3
  obtain ⟨fs, hr, hrun, hended, hW, hsame⟩ := X1.leave (v := some (.int (3 : Int32))) (fun h => by rw [Bd.returns] at h; cases h)
  refine ⟨_, _, pre0 _ ?_, hrun, hended, _, _, rfl, ?_, ⟨_, rfl⟩, hW, hsame.mono (by decide) (by decide)⟩
  · show Steps p.tables e below (s₁.setTop (mkF m 0 #[.val (.ref aa0)] [])) _
    refine XS.aloadN X0.here hx rfl (hb hby d11_0) rfl rfl ?_
    show Steps p.tables e below (s₁.setTop (mkF m 1 #[.val (.ref aa0)] [(.ref aa0)])) _
    refine st1 _ ?_
    show Steps p.tables e below (T1.setTop (mkF m 4 #[.val (.ref aa0)] [(.ref b3)])) _
    refine X1.arraylength hx (by rw [e1]; exact Ar_2.1) (State.isArrayOf_alike hZ.alike Ar_2.2.1) (g := (mkF m 4 #[.val (.ref aa0)] [(.ref b3)])) rfl rfl (hb hby d11_4) _ ?_
    rw [len_of Sz_2 Nn_2]
    show Steps p.tables e below (T1.setTop (mkF m 5 #[.val (.ref aa0)] [(.int (4 : Int32))])) _
    refine XS.iconst X1.here hx rfl (hb hby d11_5) ?_
    show Steps p.tables e below (T1.setTop (mkF m 6 #[.val (.ref aa0)] [(.int (1 : Int32)), (.int (4 : Int32))])) _
    refine XS.isub X1.here hx rfl (hb hby d11_6) rfl ?_
    show Steps p.tables e below (T1.setTop (mkF m 7 #[.val (.ref aa0)] [(.int (3 : Int32))])) _
    exact retI X1 hx Bd.returns (hb hby d11_7) hr
  · show Q11 Z aa0 b3 k3 v3 h0 n0 _ T1.heap _
    rw [e1]
    exact ⟨rfl, N0, rfl⟩
theorem d12_0 : decode prog_23_method_3_code 0 = .ok (.aload_n 0, 1) := by decide +kernel
theorem d12_1 : decode prog_23_method_3_code 1 = .ok (.getfield 7, 3) := by decide +kernel
theorem d12_4 : decode prog_23_method_3_code 4 = .ok (.iload_n 1, 1) := by decide +kernel
theorem d12_5 : decode prog_23_method_3_code 5 = .ok (.iaload, 1) := by decide +kernel
theorem d12_6 : decode prog_23_method_3_code 6 = .ok (.ireturn, 1) := by decide +kernel
theorem ef_12 (m : MethodId) (x0 : Addr) : entryFrame m #[(.ref x0), (.int (0 : Int32))] 2 = mkF m 0 #[.val (.ref x0), .val (.int (0 : Int32))] [] := by first | (simp [entryFrame, mkF, argsToLocals, Value.category]; done) | rfl
def Q12 (Z : State) (aa0 : Addr) (b3 : Addr) (k3 : ClassId) (x0 : Int32) (x1 : Int32) (x2 : Int32) (x3 : Int32) (h0 : Heap) (n0 : Nat) (v : Option Value) (h : Heap) (L : List Loc) : Prop := v = some (.int x0) ∧ Fr n0 L ∧ h = h0
set_option maxRecDepth 65536 in
set_option maxHeartbeats 40000000 in
theorem rm12 (l : Launch) (Z : State) (a0 : Array Value) (hw : ∀ d ∈ tables_1, d.before a0 Z = true) (ws : List Jvm.Cond) (aa0 : Addr) (b3 : Addr) (k3 : ClassId) (x0 : Int32) (x1 : Int32) (x2 : Int32) (x3 : Int32) (h0 : Heap) (n0 : Nat) (Z0 : n0 ≤ h0.size) (F_aa0_rowStarts : Fld Z h0 aa0 "com/example/thesaurus_rerank/thesaurusrerank/space/SparseDistances" "rowStarts" "[I" (.ref b3)) (V_b3 : Arv Z h0 b3 k3 .int (4 : Int32) [(.int x0), (.int x1), (.int x2), (.int x3)] (.int (0 : Int32))) :
    MetFree l (⟨"com/example/thesaurus_rerank/thesaurusrerank/space/SparseDistances", "rowStart", "(I)I"⟩ : MethodName) (head1 (Jvm.Cond.code (⟨"com/example/thesaurus_rerank/thesaurusrerank/space/SparseDistances", "rowStart", "(I)I"⟩ : MethodName) prog_23_method_3_code 2 (some .int) :: ws) ({ frames := 0, cells := 0, slots := 0, locals := 0 } : Room)) (fun a U => a = #[(.ref aa0), (.int (0 : Int32))] ∧ Z.Warmed39 U.vm ∧ U.heap = h0) (fun _ _ _ _ _ => True) (fun _ U o U' => ∃ v L, o = .returned v ∧ Q12 Z aa0 b3 k3 x0 x1 x2 x3 h0 n0 v U'.heap L ∧ FrameEnd U o U' L ({ frames := 0, cells := 0, slots := 0, locals := 0 } : Room).cells ({ frames := 0, cells := 0, slots := 0, locals := 0 } : Room).slots) := by
  refine MetFree.of_bodySF (plainFor_of_name pn_com_example_thesaurus_rerank_thesaurusrerank_space_SparseDistances) hisR ?_
  intro p e s m args below meth c s₁ Bd hml0 hP hK
  obtain ⟨rfl, hZ, hh⟩ := hP
  have hx := Bd.exec
  have hby := Bd.bytes
  have hml : c.maxLocals = 2 := hml0
  have hown : s.vm.findClass "com/example/thesaurus_rerank/thesaurusrerank/space/SparseDistances" = some m.cls := findClass_of_methodNamed Bd.named
  have hnm := (name_of_methodNamed Bd.named Bd.method).1
  have X0 : Stand p l e ({ frames := 0, cells := 0, slots := 0, locals := 0 } : Room) s m #[(.ref aa0), (.int (0 : Int32))] below meth c s₁ [] 0 0 := Stand.of_body Bd
  have e0 : s₁.heap = h0 := by rw [← hh, Bd.state]; rfl
  have N0 := Fr.nil n0
  have pre0 : ∀ t, Steps p.tables e below (s₁.setTop (mkF m 0 #[.val (.ref aa0), .val (.int (0 : Int32))] [])) t → Steps p.tables e below (s₁.setTop (entryFrame m #[(.ref aa0), (.int (0 : Int32))] 2)) t := fun t k => castTop (ef_12 m aa0) k
  obtain ⟨T1, X1, e1, st1⟩ := getF X0 hx hZ hown (host := "") (Or.inl (hw _ (List.mem_of_getElem? (i := 65) rfl))) Via.refl e0 F_aa0_rowStarts (g := (mkF m 1 #[.val (.ref aa0), .val (.int (0 : Int32))] [(.ref aa0)])) rfl rfl (hb hby d12_1)
  obtain ⟨cl_2, Ar_2, qq_2, Sz_2, Nn_2, Hh_2, Gg_2⟩ := id V_b3
  have hin_2 : ¬ ((0 : Int32) < 0 ∨ cl_2.slots.size ≤ ((0 : Int32)).toNatClampNeg) := inb_of Sz_2 ⟨by decide, by decide⟩
  have hat_2 : cl_2.slots[((0 : Int32)).toNatClampNeg]? = some (.int x0) := Has.at Hh_2 hin_2 rfl
  obtain ⟨fs, hr, hrun, hended, hW, hsame⟩ := X1.leave (v := some (.int x0)) (fun h => by rw [Bd.returns] at h; cases h)
  refine ⟨_, _, pre0 _ ?_, hrun, hended, _, _, rfl, ?_, ⟨_, rfl⟩, hW, hsame.mono (by decide) (by decide)⟩
  · show Steps p.tables e below (s₁.setTop (mkF m 0 #[.val (.ref aa0), .val (.int (0 : Int32))] [])) _
    refine XS.aloadN X0.here hx rfl (hb hby d12_0) rfl rfl ?_
    show Steps p.tables e below (s₁.setTop (mkF m 1 #[.val (.ref aa0), .val (.int (0 : Int32))] [(.ref aa0)])) _
    refine st1 _ ?_
    show Steps p.tables e below (T1.setTop (mkF m 4 #[.val (.ref aa0), .val (.int (0 : Int32))] [(.ref b3)])) _
    refine XS.iloadN X1.here hx rfl (hb hby d12_4) rfl ?_
    show Steps p.tables e below (T1.setTop (mkF m 5 #[.val (.ref aa0), .val (.int (0 : Int32))] [(.int (0 : Int32)), (.ref b3)])) _
    refine X1.iaload hx (j := (0 : Int32)) (v := (.int x0)) (by rw [e1]; exact Ar_2.1) (State.isArrayOf_alike hZ.alike Ar_2.2.1) Ar_2.2.2 hin_2 hat_2 (g := (mkF m 5 #[.val (.ref aa0), .val (.int (0 : Int32))] [(.int (0 : Int32)), (.ref b3)])) rfl rfl (hb hby d12_5) _ ?_
    show Steps p.tables e below (T1.setTop (mkF m 6 #[.val (.ref aa0), .val (.int (0 : Int32))] [(.int x0)])) _
    exact retI X1 hx Bd.returns (hb hby d12_6) hr
  · show Q12 Z aa0 b3 k3 x0 x1 x2 x3 h0 n0 _ T1.heap _
    rw [e1]
    exact ⟨rfl, N0, rfl⟩
theorem d13_0 : decode prog_23_method_4_code 0 = .ok (.aload_n 0, 1) := by decide +kernel
theorem d13_1 : decode prog_23_method_4_code 1 = .ok (.getfield 7, 3) := by decide +kernel
theorem d13_4 : decode prog_23_method_4_code 4 = .ok (.iload_n 1, 1) := by decide +kernel
theorem d13_5 : decode prog_23_method_4_code 5 = .ok (.iconst 1, 1) := by decide +kernel
theorem d13_6 : decode prog_23_method_4_code 6 = .ok (.iadd, 1) := by decide +kernel
theorem d13_7 : decode prog_23_method_4_code 7 = .ok (.iaload, 1) := by decide +kernel
theorem d13_8 : decode prog_23_method_4_code 8 = .ok (.ireturn, 1) := by decide +kernel
theorem ef_13_0 (m : MethodId) (x0 : Addr) : entryFrame m #[(.ref x0), (.int (0 : Int32))] 2 = mkF m 0 #[.val (.ref x0), .val (.int (0 : Int32))] [] := by first | (simp [entryFrame, mkF, argsToLocals, Value.category]; done) | rfl
def Q13_0 (Z : State) (aa0 : Addr) (b3 : Addr) (k3 : ClassId) (x0 : Int32) (x1 : Int32) (x2 : Int32) (x3 : Int32) (h0 : Heap) (n0 : Nat) (v : Option Value) (h : Heap) (L : List Loc) : Prop := v = some (.int x1) ∧ Fr n0 L ∧ h = h0
set_option maxRecDepth 65536 in
set_option maxHeartbeats 40000000 in
theorem rm13_0 (l : Launch) (Z : State) (a0 : Array Value) (hw : ∀ d ∈ tables_1, d.before a0 Z = true) (ws : List Jvm.Cond) (aa0 : Addr) (b3 : Addr) (k3 : ClassId) (x0 : Int32) (x1 : Int32) (x2 : Int32) (x3 : Int32) (h0 : Heap) (n0 : Nat) (Z0 : n0 ≤ h0.size) (F_aa0_rowStarts : Fld Z h0 aa0 "com/example/thesaurus_rerank/thesaurusrerank/space/SparseDistances" "rowStarts" "[I" (.ref b3)) (V_b3 : Arv Z h0 b3 k3 .int (4 : Int32) [(.int x0), (.int x1), (.int x2), (.int x3)] (.int (0 : Int32))) :
    MetFree l (⟨"com/example/thesaurus_rerank/thesaurusrerank/space/SparseDistances", "rowEnd", "(I)I"⟩ : MethodName) (head1 (Jvm.Cond.code (⟨"com/example/thesaurus_rerank/thesaurusrerank/space/SparseDistances", "rowEnd", "(I)I"⟩ : MethodName) prog_23_method_4_code 2 (some .int) :: ws) ({ frames := 0, cells := 0, slots := 0, locals := 0 } : Room)) (fun a U => a = #[(.ref aa0), (.int (0 : Int32))] ∧ Z.Warmed39 U.vm ∧ U.heap = h0) (fun _ _ _ _ _ => True) (fun _ U o U' => ∃ v L, o = .returned v ∧ Q13_0 Z aa0 b3 k3 x0 x1 x2 x3 h0 n0 v U'.heap L ∧ FrameEnd U o U' L ({ frames := 0, cells := 0, slots := 0, locals := 0 } : Room).cells ({ frames := 0, cells := 0, slots := 0, locals := 0 } : Room).slots) := by
  refine MetFree.of_bodySF (plainFor_of_name pn_com_example_thesaurus_rerank_thesaurusrerank_space_SparseDistances) hisR ?_
  intro p e s m args below meth c s₁ Bd hml0 hP hK
  obtain ⟨rfl, hZ, hh⟩ := hP
  have hx := Bd.exec
  have hby := Bd.bytes
  have hml : c.maxLocals = 2 := hml0
  have hown : s.vm.findClass "com/example/thesaurus_rerank/thesaurusrerank/space/SparseDistances" = some m.cls := findClass_of_methodNamed Bd.named
  have hnm := (name_of_methodNamed Bd.named Bd.method).1
  have X0 : Stand p l e ({ frames := 0, cells := 0, slots := 0, locals := 0 } : Room) s m #[(.ref aa0), (.int (0 : Int32))] below meth c s₁ [] 0 0 := Stand.of_body Bd
  have e0 : s₁.heap = h0 := by rw [← hh, Bd.state]; rfl
  have N0 := Fr.nil n0
  have pre0 : ∀ t, Steps p.tables e below (s₁.setTop (mkF m 0 #[.val (.ref aa0), .val (.int (0 : Int32))] [])) t → Steps p.tables e below (s₁.setTop (entryFrame m #[(.ref aa0), (.int (0 : Int32))] 2)) t := fun t k => castTop (ef_13_0 m aa0) k
  obtain ⟨T1, X1, e1, st1⟩ := getF X0 hx hZ hown (host := "") (Or.inl (hw _ (List.mem_of_getElem? (i := 65) rfl))) Via.refl e0 F_aa0_rowStarts (g := (mkF m 1 #[.val (.ref aa0), .val (.int (0 : Int32))] [(.ref aa0)])) rfl rfl (hb hby d13_1)
  obtain ⟨cl_2, Ar_2, qq_2, Sz_2, Nn_2, Hh_2, Gg_2⟩ := id V_b3
  have hin_2 : ¬ ((1 : Int32) < 0 ∨ cl_2.slots.size ≤ ((1 : Int32)).toNatClampNeg) := inb_of Sz_2 ⟨by decide, by decide⟩
  have hat_2 : cl_2.slots[((1 : Int32)).toNatClampNeg]? = some (.int x1) := Has.at Hh_2 hin_2 rfl
  obtain ⟨fs, hr, hrun, hended, hW, hsame⟩ := X1.leave (v := some (.int x1)) (fun h => by rw [Bd.returns] at h; cases h)
  refine ⟨_, _, pre0 _ ?_, hrun, hended, _, _, rfl, ?_, ⟨_, rfl⟩, hW, hsame.mono (by decide) (by decide)⟩
  · show Steps p.tables e below (s₁.setTop (mkF m 0 #[.val (.ref aa0), .val (.int (0 : Int32))] [])) _
    refine XS.aloadN X0.here hx rfl (hb hby d13_0) rfl rfl ?_
    show Steps p.tables e below (s₁.setTop (mkF m 1 #[.val (.ref aa0), .val (.int (0 : Int32))] [(.ref aa0)])) _
    refine st1 _ ?_
    show Steps p.tables e below (T1.setTop (mkF m 4 #[.val (.ref aa0), .val (.int (0 : Int32))] [(.ref b3)])) _
    refine XS.iloadN X1.here hx rfl (hb hby d13_4) rfl ?_
    show Steps p.tables e below (T1.setTop (mkF m 5 #[.val (.ref aa0), .val (.int (0 : Int32))] [(.int (0 : Int32)), (.ref b3)])) _
    refine XS.iconst X1.here hx rfl (hb hby d13_5) ?_
    show Steps p.tables e below (T1.setTop (mkF m 6 #[.val (.ref aa0), .val (.int (0 : Int32))] [(.int (1 : Int32)), (.int (0 : Int32)), (.ref b3)])) _
    refine XS.iadd X1.here hx rfl (hb hby d13_6) rfl ?_
    show Steps p.tables e below (T1.setTop (mkF m 7 #[.val (.ref aa0), .val (.int (0 : Int32))] [(.int (1 : Int32)), (.ref b3)])) _
    refine X1.iaload hx (j := (1 : Int32)) (v := (.int x1)) (by rw [e1]; exact Ar_2.1) (State.isArrayOf_alike hZ.alike Ar_2.2.1) Ar_2.2.2 hin_2 hat_2 (g := (mkF m 7 #[.val (.ref aa0), .val (.int (0 : Int32))] [(.int (1 : Int32)), (.ref b3)])) rfl rfl (hb hby d13_7) _ ?_
    show Steps p.tables e below (T1.setTop (mkF m 8 #[.val (.ref aa0), .val (.int (0 : Int32))] [(.int x1)])) _
    exact retI X1 hx Bd.returns (hb hby d13_8) hr
  · show Q13_0 Z aa0 b3 k3 x0 x1 x2 x3 h0 n0 _ T1.heap _
    rw [e1]
    exact ⟨rfl, N0, rfl⟩
theorem ef_13_1 (m : MethodId) (x0 : Addr) : entryFrame m #[(.ref x0), (.int (1 : Int32))] 2 = mkF m 0 #[.val (.ref x0), .val (.int (1 : Int32))] [] := by first | (simp [entryFrame, mkF, argsToLocals, Value.category]; done) | rfl
def Q13_1 (Z : State) (aa0 : Addr) (b3 : Addr) (k3 : ClassId) (x0 : Int32) (x1 : Int32) (x2 : Int32) (x3 : Int32) (h0 : Heap) (n0 : Nat) (v : Option Value) (h : Heap) (L : List Loc) : Prop := v = some (.int x2) ∧ Fr n0 L ∧ h = h0
set_option maxRecDepth 65536 in
set_option maxHeartbeats 40000000 in
theorem rm13_1 (l : Launch) (Z : State) (a0 : Array Value) (hw : ∀ d ∈ tables_1, d.before a0 Z = true) (ws : List Jvm.Cond) (aa0 : Addr) (b3 : Addr) (k3 : ClassId) (x0 : Int32) (x1 : Int32) (x2 : Int32) (x3 : Int32) (h0 : Heap) (n0 : Nat) (Z0 : n0 ≤ h0.size) (F_aa0_rowStarts : Fld Z h0 aa0 "com/example/thesaurus_rerank/thesaurusrerank/space/SparseDistances" "rowStarts" "[I" (.ref b3)) (V_b3 : Arv Z h0 b3 k3 .int (4 : Int32) [(.int x0), (.int x1), (.int x2), (.int x3)] (.int (0 : Int32))) :
    MetFree l (⟨"com/example/thesaurus_rerank/thesaurusrerank/space/SparseDistances", "rowEnd", "(I)I"⟩ : MethodName) (head1 (Jvm.Cond.code (⟨"com/example/thesaurus_rerank/thesaurusrerank/space/SparseDistances", "rowEnd", "(I)I"⟩ : MethodName) prog_23_method_4_code 2 (some .int) :: ws) ({ frames := 0, cells := 0, slots := 0, locals := 0 } : Room)) (fun a U => a = #[(.ref aa0), (.int (1 : Int32))] ∧ Z.Warmed39 U.vm ∧ U.heap = h0) (fun _ _ _ _ _ => True) (fun _ U o U' => ∃ v L, o = .returned v ∧ Q13_1 Z aa0 b3 k3 x0 x1 x2 x3 h0 n0 v U'.heap L ∧ FrameEnd U o U' L ({ frames := 0, cells := 0, slots := 0, locals := 0 } : Room).cells ({ frames := 0, cells := 0, slots := 0, locals := 0 } : Room).slots) := by
  refine MetFree.of_bodySF (plainFor_of_name pn_com_example_thesaurus_rerank_thesaurusrerank_space_SparseDistances) hisR ?_
  intro p e s m args below meth c s₁ Bd hml0 hP hK
  obtain ⟨rfl, hZ, hh⟩ := hP
  have hx := Bd.exec
  have hby := Bd.bytes
  have hml : c.maxLocals = 2 := hml0
  have hown : s.vm.findClass "com/example/thesaurus_rerank/thesaurusrerank/space/SparseDistances" = some m.cls := findClass_of_methodNamed Bd.named
  have hnm := (name_of_methodNamed Bd.named Bd.method).1
  have X0 : Stand p l e ({ frames := 0, cells := 0, slots := 0, locals := 0 } : Room) s m #[(.ref aa0), (.int (1 : Int32))] below meth c s₁ [] 0 0 := Stand.of_body Bd
  have e0 : s₁.heap = h0 := by rw [← hh, Bd.state]; rfl
  have N0 := Fr.nil n0
  have pre0 : ∀ t, Steps p.tables e below (s₁.setTop (mkF m 0 #[.val (.ref aa0), .val (.int (1 : Int32))] [])) t → Steps p.tables e below (s₁.setTop (entryFrame m #[(.ref aa0), (.int (1 : Int32))] 2)) t := fun t k => castTop (ef_13_1 m aa0) k
  obtain ⟨T1, X1, e1, st1⟩ := getF X0 hx hZ hown (host := "") (Or.inl (hw _ (List.mem_of_getElem? (i := 65) rfl))) Via.refl e0 F_aa0_rowStarts (g := (mkF m 1 #[.val (.ref aa0), .val (.int (1 : Int32))] [(.ref aa0)])) rfl rfl (hb hby d13_1)
  obtain ⟨cl_2, Ar_2, qq_2, Sz_2, Nn_2, Hh_2, Gg_2⟩ := id V_b3
  have hin_2 : ¬ ((2 : Int32) < 0 ∨ cl_2.slots.size ≤ ((2 : Int32)).toNatClampNeg) := inb_of Sz_2 ⟨by decide, by decide⟩
  have hat_2 : cl_2.slots[((2 : Int32)).toNatClampNeg]? = some (.int x2) := Has.at Hh_2 hin_2 rfl
  obtain ⟨fs, hr, hrun, hended, hW, hsame⟩ := X1.leave (v := some (.int x2)) (fun h => by rw [Bd.returns] at h; cases h)
  refine ⟨_, _, pre0 _ ?_, hrun, hended, _, _, rfl, ?_, ⟨_, rfl⟩, hW, hsame.mono (by decide) (by decide)⟩
  · show Steps p.tables e below (s₁.setTop (mkF m 0 #[.val (.ref aa0), .val (.int (1 : Int32))] [])) _
    refine XS.aloadN X0.here hx rfl (hb hby d13_0) rfl rfl ?_
    show Steps p.tables e below (s₁.setTop (mkF m 1 #[.val (.ref aa0), .val (.int (1 : Int32))] [(.ref aa0)])) _
    refine st1 _ ?_
    show Steps p.tables e below (T1.setTop (mkF m 4 #[.val (.ref aa0), .val (.int (1 : Int32))] [(.ref b3)])) _
    refine XS.iloadN X1.here hx rfl (hb hby d13_4) rfl ?_
    show Steps p.tables e below (T1.setTop (mkF m 5 #[.val (.ref aa0), .val (.int (1 : Int32))] [(.int (1 : Int32)), (.ref b3)])) _
    refine XS.iconst X1.here hx rfl (hb hby d13_5) ?_
    show Steps p.tables e below (T1.setTop (mkF m 6 #[.val (.ref aa0), .val (.int (1 : Int32))] [(.int (1 : Int32)), (.int (1 : Int32)), (.ref b3)])) _
    refine XS.iadd X1.here hx rfl (hb hby d13_6) rfl ?_
    show Steps p.tables e below (T1.setTop (mkF m 7 #[.val (.ref aa0), .val (.int (1 : Int32))] [(.int (2 : Int32)), (.ref b3)])) _
    refine X1.iaload hx (j := (2 : Int32)) (v := (.int x2)) (by rw [e1]; exact Ar_2.1) (State.isArrayOf_alike hZ.alike Ar_2.2.1) Ar_2.2.2 hin_2 hat_2 (g := (mkF m 7 #[.val (.ref aa0), .val (.int (1 : Int32))] [(.int (2 : Int32)), (.ref b3)])) rfl rfl (hb hby d13_7) _ ?_
    show Steps p.tables e below (T1.setTop (mkF m 8 #[.val (.ref aa0), .val (.int (1 : Int32))] [(.int x2)])) _
    exact retI X1 hx Bd.returns (hb hby d13_8) hr
  · show Q13_1 Z aa0 b3 k3 x0 x1 x2 x3 h0 n0 _ T1.heap _
    rw [e1]
    exact ⟨rfl, N0, rfl⟩
theorem ef_13_2 (m : MethodId) (x0 : Addr) : entryFrame m #[(.ref x0), (.int (2 : Int32))] 2 = mkF m 0 #[.val (.ref x0), .val (.int (2 : Int32))] [] := by first | (simp [entryFrame, mkF, argsToLocals, Value.category]; done) | rfl
def Q13_2 (Z : State) (aa0 : Addr) (b3 : Addr) (k3 : ClassId) (x0 : Int32) (x1 : Int32) (x2 : Int32) (x3 : Int32) (h0 : Heap) (n0 : Nat) (v : Option Value) (h : Heap) (L : List Loc) : Prop := v = some (.int x3) ∧ Fr n0 L ∧ h = h0
set_option maxRecDepth 65536 in
set_option maxHeartbeats 40000000 in
theorem rm13_2 (l : Launch) (Z : State) (a0 : Array Value) (hw : ∀ d ∈ tables_1, d.before a0 Z = true) (ws : List Jvm.Cond) (aa0 : Addr) (b3 : Addr) (k3 : ClassId) (x0 : Int32) (x1 : Int32) (x2 : Int32) (x3 : Int32) (h0 : Heap) (n0 : Nat) (Z0 : n0 ≤ h0.size) (F_aa0_rowStarts : Fld Z h0 aa0 "com/example/thesaurus_rerank/thesaurusrerank/space/SparseDistances" "rowStarts" "[I" (.ref b3)) (V_b3 : Arv Z h0 b3 k3 .int (4 : Int32) [(.int x0), (.int x1), (.int x2), (.int x3)] (.int (0 : Int32))) :
    MetFree l (⟨"com/example/thesaurus_rerank/thesaurusrerank/space/SparseDistances", "rowEnd", "(I)I"⟩ : MethodName) (head1 (Jvm.Cond.code (⟨"com/example/thesaurus_rerank/thesaurusrerank/space/SparseDistances", "rowEnd", "(I)I"⟩ : MethodName) prog_23_method_4_code 2 (some .int) :: ws) ({ frames := 0, cells := 0, slots := 0, locals := 0 } : Room)) (fun a U => a = #[(.ref aa0), (.int (2 : Int32))] ∧ Z.Warmed39 U.vm ∧ U.heap = h0) (fun _ _ _ _ _ => True) (fun _ U o U' => ∃ v L, o = .returned v ∧ Q13_2 Z aa0 b3 k3 x0 x1 x2 x3 h0 n0 v U'.heap L ∧ FrameEnd U o U' L ({ frames := 0, cells := 0, slots := 0, locals := 0 } : Room).cells ({ frames := 0, cells := 0, slots := 0, locals := 0 } : Room).slots) := by
  refine MetFree.of_bodySF (plainFor_of_name pn_com_example_thesaurus_rerank_thesaurusrerank_space_SparseDistances) hisR ?_
  intro p e s m args below meth c s₁ Bd hml0 hP hK
  obtain ⟨rfl, hZ, hh⟩ := hP
  have hx := Bd.exec
  have hby := Bd.bytes
  have hml : c.maxLocals = 2 := hml0
  have hown : s.vm.findClass "com/example/thesaurus_rerank/thesaurusrerank/space/SparseDistances" = some m.cls := findClass_of_methodNamed Bd.named
  have hnm := (name_of_methodNamed Bd.named Bd.method).1
  have X0 : Stand p l e ({ frames := 0, cells := 0, slots := 0, locals := 0 } : Room) s m #[(.ref aa0), (.int (2 : Int32))] below meth c s₁ [] 0 0 := Stand.of_body Bd
  have e0 : s₁.heap = h0 := by rw [← hh, Bd.state]; rfl
  have N0 := Fr.nil n0
  have pre0 : ∀ t, Steps p.tables e below (s₁.setTop (mkF m 0 #[.val (.ref aa0), .val (.int (2 : Int32))] [])) t → Steps p.tables e below (s₁.setTop (entryFrame m #[(.ref aa0), (.int (2 : Int32))] 2)) t := fun t k => castTop (ef_13_2 m aa0) k
  obtain ⟨T1, X1, e1, st1⟩ := getF X0 hx hZ hown (host := "") (Or.inl (hw _ (List.mem_of_getElem? (i := 65) rfl))) Via.refl e0 F_aa0_rowStarts (g := (mkF m 1 #[.val (.ref aa0), .val (.int (2 : Int32))] [(.ref aa0)])) rfl rfl (hb hby d13_1)
  obtain ⟨cl_2, Ar_2, qq_2, Sz_2, Nn_2, Hh_2, Gg_2⟩ := id V_b3
  have hin_2 : ¬ ((3 : Int32) < 0 ∨ cl_2.slots.size ≤ ((3 : Int32)).toNatClampNeg) := inb_of Sz_2 ⟨by decide, by decide⟩
  have hat_2 : cl_2.slots[((3 : Int32)).toNatClampNeg]? = some (.int x3) := Has.at Hh_2 hin_2 rfl
  obtain ⟨fs, hr, hrun, hended, hW, hsame⟩ := X1.leave (v := some (.int x3)) (fun h => by rw [Bd.returns] at h; cases h)
  refine ⟨_, _, pre0 _ ?_, hrun, hended, _, _, rfl, ?_, ⟨_, rfl⟩, hW, hsame.mono (by decide) (by decide)⟩
  · show Steps p.tables e below (s₁.setTop (mkF m 0 #[.val (.ref aa0), .val (.int (2 : Int32))] [])) _
    refine XS.aloadN X0.here hx rfl (hb hby d13_0) rfl rfl ?_
    show Steps p.tables e below (s₁.setTop (mkF m 1 #[.val (.ref aa0), .val (.int (2 : Int32))] [(.ref aa0)])) _
    refine st1 _ ?_
    show Steps p.tables e below (T1.setTop (mkF m 4 #[.val (.ref aa0), .val (.int (2 : Int32))] [(.ref b3)])) _
    refine XS.iloadN X1.here hx rfl (hb hby d13_4) rfl ?_
    show Steps p.tables e below (T1.setTop (mkF m 5 #[.val (.ref aa0), .val (.int (2 : Int32))] [(.int (2 : Int32)), (.ref b3)])) _
    refine XS.iconst X1.here hx rfl (hb hby d13_5) ?_
    show Steps p.tables e below (T1.setTop (mkF m 6 #[.val (.ref aa0), .val (.int (2 : Int32))] [(.int (1 : Int32)), (.int (2 : Int32)), (.ref b3)])) _
    refine XS.iadd X1.here hx rfl (hb hby d13_6) rfl ?_
    show Steps p.tables e below (T1.setTop (mkF m 7 #[.val (.ref aa0), .val (.int (2 : Int32))] [(.int (3 : Int32)), (.ref b3)])) _
    refine X1.iaload hx (j := (3 : Int32)) (v := (.int x3)) (by rw [e1]; exact Ar_2.1) (State.isArrayOf_alike hZ.alike Ar_2.2.1) Ar_2.2.2 hin_2 hat_2 (g := (mkF m 7 #[.val (.ref aa0), .val (.int (2 : Int32))] [(.int (3 : Int32)), (.ref b3)])) rfl rfl (hb hby d13_7) _ ?_
    show Steps p.tables e below (T1.setTop (mkF m 8 #[.val (.ref aa0), .val (.int (2 : Int32))] [(.int x3)])) _
    exact retI X1 hx Bd.returns (hb hby d13_8) hr
  · show Q13_2 Z aa0 b3 k3 x0 x1 x2 x3 h0 n0 _ T1.heap _
    rw [e1]
    exact ⟨rfl, N0, rfl⟩
theorem pd__28_I_29_V : parseMethodDescriptor "(I)V" = some ⟨[.int], none⟩ := by decide +kernel
theorem pd__28_Lcom_2f_example_2f_thesaurus_rerank_2f_thesaurusrerank_2f_space_2f_SparseDistances_24_Builder_3b_I_29_V : parseMethodDescriptor "(Lcom/example/thesaurus_rerank/thesaurusrerank/space/SparseDistances$Builder;I)V" = some ⟨[(.object "com/example/thesaurus_rerank/thesaurusrerank/space/SparseDistances$Builder"), .int], none⟩ := by decide +kernel
theorem pd__28__29_V : parseMethodDescriptor "()V" = some ⟨[], none⟩ := by decide +kernel
theorem pd__28__29_Lcom_2f_example_2f_thesaurus_rerank_2f_thesaurusrerank_2f_space_2f_SparseDistances_3b_ : parseMethodDescriptor "()Lcom/example/thesaurus_rerank/thesaurusrerank/space/SparseDistances;" = some ⟨[], some (.object "com/example/thesaurus_rerank/thesaurusrerank/space/SparseDistances")⟩ := by decide +kernel
theorem pd__28__29_I : parseMethodDescriptor "()I" = some ⟨[], some .int⟩ := by decide +kernel
theorem pd__28_I_29_I : parseMethodDescriptor "(I)I" = some ⟨[.int], some .int⟩ := by decide +kernel
theorem ef_0 (m : MethodId) (x0 : Int32) (x1 : Int32) (x2 : Int32) : entryFrame m #[(.int x0), (.int x1), (.int x2)] maxLocals = mkF m 0 #[.val (.int x0), .val (.int x1), .val (.int x2), .unset, .unset, .unset, .unset, .unset] [] := by first | (simp [entryFrame, mkF, argsToLocals, Value.category, maxLocals]; done) | rfl
def Q0 (Z : State) (pp1 : Int32) (pp2 : Int32) (pp3 : Int32) (h0 : Heap) (n0 : Nat) (v : Option Value) (h : Heap) (L : List Loc) : Prop := v = some (.int 1) ∧ Fr n0 L
set_option maxRecDepth 65536 in
set_option maxHeartbeats 40000000 in
theorem rm0 (l : Launch) (Z : State) (a0 : Array Value) (hw : ∀ d ∈ tables_1, d.before a0 Z = true) (ws : List Jvm.Cond) (pp1 : Int32) (pp2 : Int32) (pp3 : Int32) (h0 : Heap) (n0 : Nat) (Z0 : n0 ≤ h0.size) :
    MetFree l x (head1 (Jvm.Cond.code x code maxLocals ret :: ws) room_1) (fun a U => a = #[(.int pp1), (.int pp2), (.int pp3)] ∧ Z.Warmed39 U.vm ∧ U.heap = h0) (fun _ _ _ _ _ => True) (fun _ U o U' => ∃ v L, o = .returned v ∧ Q0 Z pp1 pp2 pp3 h0 n0 v U'.heap L ∧ FrameEnd U o U' L room_1.cells room_1.slots) := by
  refine MetFree.of_bodySF (plainFor_of_name pn_com_example_thesaurus_rerank_thesaurusrerank_space_BuilderEndRowPinLaw) hisR ?_
  intro p e s m args below meth c s₁ Bd hml0 hP hK
  obtain ⟨rfl, hZ, hh⟩ := hP
  have hx := Bd.exec
  have hby := Bd.bytes
  have hml : c.maxLocals = 8 := hml0
  have hown : s.vm.findClass "com/example/thesaurus_rerank/thesaurusrerank/space/BuilderEndRowPinLaw" = some m.cls := findClass_of_methodNamed Bd.named
  have hnm := (name_of_methodNamed Bd.named Bd.method).1
  have X0 : Stand p l e room_1 s m #[(.int pp1), (.int pp2), (.int pp3)] below meth c s₁ [] 0 0 := Stand.of_body Bd
  have e0 : s₁.heap = h0 := by rw [← hh, Bd.state]; rfl
  have N0 := Fr.nil n0
  have pre0 : ∀ t, Steps p.tables e below (s₁.setTop (mkF m 0 #[.val (.int pp1), .val (.int pp2), .val (.int pp3), .unset, .unset, .unset, .unset, .unset] [])) t → Steps p.tables e below (s₁.setTop (entryFrame m #[(.int pp1), (.int pp2), (.int pp3)] maxLocals)) t := fun t k => castTop (ef_0 m pp1 pp2 pp3) k
  have pre1 : ∀ t, Steps p.tables e below (s₁.setTop (mkF m 14 #[.val (.int pp1), .val (.int pp2), .val (.int pp3), .val (.int (pp1 &&& (3 : Int32))), .val (.int (pp2 &&& (3 : Int32))), .val (.int (pp3 &&& (3 : Int32))), .unset, .unset] [])) t → Steps p.tables e below (s₁.setTop (entryFrame m #[(.int pp1), (.int pp2), (.int pp3)] maxLocals)) t := fun t kt => pre0 t (by
    show Steps p.tables e below (s₁.setTop (mkF m 0 #[.val (.int pp1), .val (.int pp2), .val (.int pp3), .unset, .unset, .unset, .unset, .unset] [])) _
    refine XS.iloadN X0.here hx rfl (hb hby at_0) rfl ?_
    show Steps p.tables e below (s₁.setTop (mkF m 1 #[.val (.int pp1), .val (.int pp2), .val (.int pp3), .unset, .unset, .unset, .unset, .unset] [(.int pp1)])) _
    refine XS.iconst X0.here hx rfl (hb hby at_1) ?_
    show Steps p.tables e below (s₁.setTop (mkF m 2 #[.val (.int pp1), .val (.int pp2), .val (.int pp3), .unset, .unset, .unset, .unset, .unset] [(.int (3 : Int32)), (.int pp1)])) _
    refine XS.iand X0.here hx rfl (hb hby at_2) rfl ?_
    show Steps p.tables e below (s₁.setTop (mkF m 3 #[.val (.int pp1), .val (.int pp2), .val (.int pp3), .unset, .unset, .unset, .unset, .unset] [(.int (pp1 &&& (3 : Int32)))])) _
    refine XS.istoreN X0.here hx rfl (hb hby at_3) rfl (l' := #[.val (.int pp1), .val (.int pp2), .val (.int pp3), .val (.int (pp1 &&& (3 : Int32))), .unset, .unset, .unset, .unset]) rfl ?_
    show Steps p.tables e below (s₁.setTop (mkF m 4 #[.val (.int pp1), .val (.int pp2), .val (.int pp3), .val (.int (pp1 &&& (3 : Int32))), .unset, .unset, .unset, .unset] [])) _
    refine XS.iloadN X0.here hx rfl (hb hby at_4) rfl ?_
    show Steps p.tables e below (s₁.setTop (mkF m 5 #[.val (.int pp1), .val (.int pp2), .val (.int pp3), .val (.int (pp1 &&& (3 : Int32))), .unset, .unset, .unset, .unset] [(.int pp2)])) _
    refine XS.iconst X0.here hx rfl (hb hby at_5) ?_
    show Steps p.tables e below (s₁.setTop (mkF m 6 #[.val (.int pp1), .val (.int pp2), .val (.int pp3), .val (.int (pp1 &&& (3 : Int32))), .unset, .unset, .unset, .unset] [(.int (3 : Int32)), (.int pp2)])) _
    refine XS.iand X0.here hx rfl (hb hby at_6) rfl ?_
    show Steps p.tables e below (s₁.setTop (mkF m 7 #[.val (.int pp1), .val (.int pp2), .val (.int pp3), .val (.int (pp1 &&& (3 : Int32))), .unset, .unset, .unset, .unset] [(.int (pp2 &&& (3 : Int32)))])) _
    refine XS.istore X0.here hx rfl (hb hby at_7) rfl (l' := #[.val (.int pp1), .val (.int pp2), .val (.int pp3), .val (.int (pp1 &&& (3 : Int32))), .val (.int (pp2 &&& (3 : Int32))), .unset, .unset, .unset]) rfl ?_
    show Steps p.tables e below (s₁.setTop (mkF m 9 #[.val (.int pp1), .val (.int pp2), .val (.int pp3), .val (.int (pp1 &&& (3 : Int32))), .val (.int (pp2 &&& (3 : Int32))), .unset, .unset, .unset] [])) _
    refine XS.iloadN X0.here hx rfl (hb hby at_9) rfl ?_
    show Steps p.tables e below (s₁.setTop (mkF m 10 #[.val (.int pp1), .val (.int pp2), .val (.int pp3), .val (.int (pp1 &&& (3 : Int32))), .val (.int (pp2 &&& (3 : Int32))), .unset, .unset, .unset] [(.int pp3)])) _
    refine XS.iconst X0.here hx rfl (hb hby at_10) ?_
    show Steps p.tables e below (s₁.setTop (mkF m 11 #[.val (.int pp1), .val (.int pp2), .val (.int pp3), .val (.int (pp1 &&& (3 : Int32))), .val (.int (pp2 &&& (3 : Int32))), .unset, .unset, .unset] [(.int (3 : Int32)), (.int pp3)])) _
    refine XS.iand X0.here hx rfl (hb hby at_11) rfl ?_
    show Steps p.tables e below (s₁.setTop (mkF m 12 #[.val (.int pp1), .val (.int pp2), .val (.int pp3), .val (.int (pp1 &&& (3 : Int32))), .val (.int (pp2 &&& (3 : Int32))), .unset, .unset, .unset] [(.int (pp3 &&& (3 : Int32)))])) _
    refine XS.istore X0.here hx rfl (hb hby at_12) rfl (l' := #[.val (.int pp1), .val (.int pp2), .val (.int pp3), .val (.int (pp1 &&& (3 : Int32))), .val (.int (pp2 &&& (3 : Int32))), .val (.int (pp3 &&& (3 : Int32))), .unset, .unset]) rfl ?_
    exact kt)
  obtain ⟨n0_, n1_, n2_, h_n0_, h_n1_, h_n2_, pre2⟩ : ∃ (n0_ : Int32) (n1_ : Int32) (n2_ : Int32), (own_in 4 n0_) ∧ (own_in 4 n1_) ∧ (own_in 4 n2_) ∧ ∀ t, Steps p.tables e below (s₁.setTop (mkF m 14 #[.val (.int pp1), .val (.int pp2), .val (.int pp3), .val (.int n0_), .val (.int n1_), .val (.int n2_), .unset, .unset] [])) t → Steps p.tables e below (s₁.setTop (entryFrame m #[(.int pp1), (.int pp2), (.int pp3)] maxLocals)) t := ⟨(pp1 &&& (3 : Int32)), (pp2 &&& (3 : Int32)), (pp3 &&& (3 : Int32)), own_m4 _, own_m4 _, own_m4 _, pre1⟩
  obtain ⟨T3, h3, X3, e3, E3, A3, D3, -, st3⟩ := newO X0 hx hZ hown (hw _ (List.mem_of_getElem? (i := 0) rfl)) (hw _ (List.mem_of_getElem? (i := 1) rfl)) (hw _ (List.mem_of_getElem? (i := 2) rfl)) e0 (g := (mkF m 14 #[.val (.int pp1), .val (.int pp2), .val (.int pp3), .val (.int n0_), .val (.int n1_), .val (.int n2_), .unset, .unset] [])) rfl (hb hby at_14) (by decide) (by decide)
  obtain ⟨b3, g3⟩ : ∃ z, z = h0.size := ⟨_, rfl⟩
  rw [← g3] at A3 D3 st3
  have g_b3 : n0 ≤ b3 := Nat.le_trans Z0 (Nat.le_of_eq g3.symm)
  have Z3 : n0 ≤ h3.size := Nat.le_trans Z0 E3.1
  have F3_columns : Fld Z h3 b3 "com/example/thesaurus_rerank/thesaurusrerank/space/SparseDistances$Builder" "columns" "[I" .null := D3 (Or.inl (hw _ (List.mem_of_getElem? (i := 11) rfl))) (ty := (.array .int)) (by decide)
  have F3_distances : Fld Z h3 b3 "com/example/thesaurus_rerank/thesaurusrerank/space/SparseDistances$Builder" "distances" "[D" .null := D3 (Or.inl (hw _ (List.mem_of_getElem? (i := 14) rfl))) (ty := (.array .double)) (by decide)
  have F3_rowStarts : Fld Z h3 b3 "com/example/thesaurus_rerank/thesaurusrerank/space/SparseDistances$Builder" "rowStarts" "[I" .null := D3 (Or.inr (hw _ (List.mem_of_getElem? (i := 16) rfl))) (ty := (.array .int)) (by decide)
  have F3_rowsEnded : Fld Z h3 b3 "com/example/thesaurus_rerank/thesaurusrerank/space/SparseDistances$Builder" "rowsEnded" "I" (.int (0 : Int32)) := D3 (Or.inl (hw _ (List.mem_of_getElem? (i := 27) rfl))) (ty := .int) (by decide)
  have F3_entries : Fld Z h3 b3 "com/example/thesaurus_rerank/thesaurusrerank/space/SparseDistances$Builder" "entries" "I" (.int (0 : Int32)) := D3 (Or.inl (hw _ (List.mem_of_getElem? (i := 29) rfl))) (ty := .int) (by decide)
  obtain ⟨_, _, ⟨T4, L4, k4, n4⟩, -, X4, ⟨Lc4, hQ4, l4, y4, z4⟩, st4⟩ := X3.specialBack hx (y := (⟨"com/example/thesaurus_rerank/thesaurusrerank/space/SparseDistances$Builder", "<init>", "(I)V"⟩ : MethodName)) rfl hown (mvT hZ (hw _ (List.mem_of_getElem? (i := 3) rfl))) (mvT hZ (hw _ (List.mem_of_getElem? (i := 4) rfl))) (mvT hZ (hw _ (List.mem_of_getElem? (i := 5) rfl))) (by decide) (backOf (W := 1) (rm1 l Z a0 hw [] b3 .null .null .null h3 n0 Z3 A3 g_b3 F3_columns F3_distances F3_rowStarts F3_entries F3_rowsEnded) hZ (hw _ (List.mem_of_getElem? (i := 5) rfl)) (hw _ (List.mem_of_getElem? (i := 2) rfl)) (by decide) (by decide)) (g := (mkF m 19 #[.val (.int pp1), .val (.int pp2), .val (.int pp3), .val (.int n0_), .val (.int n1_), .val (.int n2_), .unset, .unset] [(.int (3 : Int32)), (.ref b3), (.ref b3)])) rfl (by rw [hml]; rfl) (Steps.refl _) (a := b3) (argsL := [(.int (3 : Int32))]) (rest := [(.ref b3)]) (lenOf pd__28_I_29_V rfl) rfl (by show 2 * 0 + _ ≤ _; exact Nat.le_of_eq rfl) (hb hby at_19) (fun _ _ => ⟨rfl, e3, (by decide : 1 + 3 ≤ _), (by decide : 5 + 36 ≤ _)⟩)
  dsimp only [Pt.U, Pt.locs, Pt.cells, Pt.slots] at X4 l4 y4 z4 st4 hQ4
  subst l4 y4 z4
  obtain ⟨b1_4, b2_4, b3_4, k1_4, k2_4, k3_4, v1_4, v2_4, rfl, N4q, K4c, g_b1_4, sb_b1_4, g_b2_4, sb_b2_4, g_b3_4, sb_b3_4, R4_0, R4_1, R4_2, R4_3, R4_4, R4_5, R4_6, R4_7, R4_8, R4_9, R4_10, hl1_4, hl2_4⟩ := hQ4
  have N4 := Fr.app N0 N4q
  have Z4 : n0 ≤ T4.heap.size := Nat.le_trans Z3 K4c.1
  have E_5 : Exa Z T4.heap b3 "com/example/thesaurus_rerank/thesaurusrerank/space/SparseDistances$Builder" := (A3.keep K4c)
  obtain ⟨_, _, ⟨T6, L6, k6, n6⟩, -, X6, ⟨Lc6, hQ6, l6, y6, z6⟩, st6⟩ := Jvm.LawKit.callS X4 hx (y := (⟨"com/example/thesaurus_rerank/thesaurusrerank/space/BuilderEndRowPinLaw", "fill", "(Lcom/example/thesaurus_rerank/thesaurusrerank/space/SparseDistances$Builder;I)V"⟩ : MethodName)) hown (mvT hZ (hw _ (List.mem_of_getElem? (i := 17) rfl))) (mvT hZ (hw _ (List.mem_of_getElem? (i := 18) rfl))) (mvT hZ (hw _ (List.mem_of_getElem? (i := 19) rfl))) (mvT hZ (hw _ (List.mem_of_getElem? (i := 20) rfl))) (by decide) (backOf (W := 0) (rm3 l Z a0 hw [] b3 n0_ b1_4 b2_4 b3_4 k1_4 k2_4 v1_4 v2_4 (0 : Int32) (0 : Int32) T4.heap n0 Z4 E_5 g_b3 g_b1_4 g_b2_4 R4_0 R4_1 R4_2 R4_3 R4_4 R4_5 R4_6 (Nat.ne_of_lt (Nat.lt_of_lt_of_le A3.lt sb_b1_4)) (Nat.ne_of_lt (Nat.lt_of_lt_of_le A3.lt sb_b2_4)) R4_8 (show v1_4.length = 16 from hl1_4) (show v2_4.length = 16 from hl2_4) (show own_in 10 (0 : Int32) from own_in_mono (own_in_0) (by decide)) (show own_in 4 n0_ from h_n0_)) hZ (hw _ (List.mem_of_getElem? (i := 20) rfl)) (hw _ (List.mem_of_getElem? (i := 19) rfl)) (by decide) (by decide)) (g := (mkF m 27 #[.val (.int pp1), .val (.int pp2), .val (.int pp3), .val (.int n0_), .val (.int n1_), .val (.int n2_), .val (.ref b3), .unset] [(.int n0_), (.ref b3)])) rfl (by rw [hml]; rfl) (argsL := [(.ref b3), (.int n0_)]) (rest := []) (lenOf pd__28_Lcom_2f_example_2f_thesaurus_rerank_2f_thesaurusrerank_2f_space_2f_SparseDistances_24_Builder_3b_I_29_V rfl) rfl (by show 2 * 0 + _ ≤ _; exact Nat.le_of_eq rfl) (hb hby at_27) (fun _ _ => ⟨rfl, rfl, (by decide : 4 + 0 ≤ _), (by decide : 41 + 0 ≤ _)⟩)
  dsimp only [Pt.U, Pt.locs, Pt.cells, Pt.slots] at X6 l6 y6 z6 st6 hQ6
  subst l6 y6 z6
  obtain ⟨x1_6, x2_6, rfl, N6q, K6c, R6_0, R6_1, R6_2, R6_3, R6_4, R6_5, R6_6, hx1_6, hx2_6⟩ := hQ6
  have N6 := Fr.app N4 N6q
  have Z6 : n0 ≤ T6.heap.size := Nat.le_trans Z4 K6c.1
  have E_7 : Exa Z T6.heap b3 "com/example/thesaurus_rerank/thesaurusrerank/space/SparseDistances$Builder" := (E_5.keep K6c)
  have V_8 : Arv Z T6.heap b3_4 k3_4 .int (4 : Int32) [(.int (0 : Int32)), (.int (0 : Int32)), (.int (0 : Int32)), (.int (0 : Int32))] (.int (0 : Int32)) := (R4_7.keep K6c (ninS (Ne.symm (Nat.ne_of_lt (Nat.lt_of_lt_of_le A3.lt sb_b3_4))) (ninS (Ne.symm R4_9) (ninS (Ne.symm R4_10) nin0))))
  obtain ⟨cq9, kq9, q9a, q9b, q9c⟩ := isOf hZ rfl E_7
  obtain ⟨_, _, ⟨T9, L9, k9, n9⟩, -, X9, ⟨Lc9, hQ9, l9, y9, z9⟩, st9⟩ := X6.virtualBack hx (y := (⟨"com/example/thesaurus_rerank/thesaurusrerank/space/SparseDistances$Builder", "endRow", "()V"⟩ : MethodName)) (z := (⟨"com/example/thesaurus_rerank/thesaurusrerank/space/SparseDistances$Builder", "endRow", "()V"⟩ : MethodName)) hown (mvT hZ (hw _ (List.mem_of_getElem? (i := 21) rfl))) (mvT hZ (hw _ (List.mem_of_getElem? (i := 22) rfl))) (notFace_of_selects (args := #[]) (mvT hZ (hw _ (List.mem_of_getElem? (i := 24) rfl)))) (mvT hZ (hw _ (List.mem_of_getElem? (i := 24) rfl))) (mvT hZ (hw _ (List.mem_of_getElem? (i := 23) rfl))) (by decide) (backOf (W := 0) (rm4_0 l Z a0 hw [] b3 b1_4 b2_4 b3_4 k3_4 ((0 : Int32) + n0_) (0 : Int32) (0 : Int32) (0 : Int32) (0 : Int32) T6.heap n0 Z6 E_7 g_b3 g_b3_4 (Nat.ne_of_lt (Nat.lt_of_lt_of_le A3.lt sb_b3_4)) R6_0 R6_1 R6_2 R6_3 R6_4 V_8) hZ (hw _ (List.mem_of_getElem? (i := 25) rfl)) (hw _ (List.mem_of_getElem? (i := 2) rfl)) (by decide) (by decide)) q9a q9c (g := (mkF m 32 #[.val (.int pp1), .val (.int pp2), .val (.int pp3), .val (.int n0_), .val (.int n1_), .val (.int n2_), .val (.ref b3), .unset] [(.ref b3)])) rfl (by rw [hml]; rfl) (Steps.refl _) (argsL := []) (rest := []) (lenOf pd__28__29_V rfl) rfl (by show 2 * 0 + _ ≤ _; exact Nat.le_of_eq rfl) (hb hby at_32) (fun _ _ => ⟨rfl, rfl, (by decide : 4 + 0 ≤ _), (by decide : 41 + 0 ≤ _)⟩)
  dsimp only [Pt.U, Pt.locs, Pt.cells, Pt.slots] at X9 l9 y9 z9 st9 hQ9
  subst l9 y9 z9
  obtain ⟨rfl, N9q, K9c, R9_0, R9_1, R9_2, R9_3, R9_4, R9_5⟩ := hQ9
  have N9 := Fr.app N6 N9q
  have Z9 : n0 ≤ T9.heap.size := Nat.le_trans Z6 K9c.1
  have E_10 : Exa Z T9.heap b3 "com/example/thesaurus_rerank/thesaurusrerank/space/SparseDistances$Builder" := (E_7.keep K9c)
  have V_11 : Arv Z T9.heap b1_4 k1_4 .int (16 : Int32) x1_6 (.int (0 : Int32)) := (R6_5.keep K9c (ninS (Ne.symm (Nat.ne_of_lt (Nat.lt_of_lt_of_le A3.lt sb_b1_4))) (ninS R4_9 nin0)))
  have V_12 : Arv Z T9.heap b2_4 k2_4 .double (16 : Int32) x2_6 (.double (0 : UInt64)) := (R6_6.keep K9c (ninS (Ne.symm (Nat.ne_of_lt (Nat.lt_of_lt_of_le A3.lt sb_b2_4))) (ninS R4_10 nin0)))
  obtain ⟨_, _, ⟨T13, L13, k13, n13⟩, -, X13, ⟨Lc13, hQ13, l13, y13, z13⟩, st13⟩ := Jvm.LawKit.callS X9 hx (y := (⟨"com/example/thesaurus_rerank/thesaurusrerank/space/BuilderEndRowPinLaw", "fill", "(Lcom/example/thesaurus_rerank/thesaurusrerank/space/SparseDistances$Builder;I)V"⟩ : MethodName)) hown (mvT hZ (hw _ (List.mem_of_getElem? (i := 17) rfl))) (mvT hZ (hw _ (List.mem_of_getElem? (i := 18) rfl))) (mvT hZ (hw _ (List.mem_of_getElem? (i := 19) rfl))) (mvT hZ (hw _ (List.mem_of_getElem? (i := 20) rfl))) (by decide) (backOf (W := 0) (rm3 l Z a0 hw [] b3 n1_ b1_4 b2_4 b3_4 k1_4 k2_4 x1_6 x2_6 ((0 : Int32) + n0_) (1 : Int32) T9.heap n0 Z9 E_10 g_b3 g_b1_4 g_b2_4 R9_0 R9_1 R9_2 R9_3 R9_4 V_11 V_12 (Nat.ne_of_lt (Nat.lt_of_lt_of_le A3.lt sb_b1_4)) (Nat.ne_of_lt (Nat.lt_of_lt_of_le A3.lt sb_b2_4)) R4_8 (show x1_6.length = 16 from hx1_6) (show x2_6.length = 16 from hx2_6) (show own_in 10 ((0 : Int32) + n0_) from own_in_mono (own_in_add own_in_0 h_n0_ (by decide)) (by decide)) (show own_in 4 n1_ from h_n1_)) hZ (hw _ (List.mem_of_getElem? (i := 20) rfl)) (hw _ (List.mem_of_getElem? (i := 19) rfl)) (by decide) (by decide)) (g := (mkF m 39 #[.val (.int pp1), .val (.int pp2), .val (.int pp3), .val (.int n0_), .val (.int n1_), .val (.int n2_), .val (.ref b3), .unset] [(.int n1_), (.ref b3)])) rfl (by rw [hml]; rfl) (argsL := [(.ref b3), (.int n1_)]) (rest := []) (lenOf pd__28_Lcom_2f_example_2f_thesaurus_rerank_2f_thesaurusrerank_2f_space_2f_SparseDistances_24_Builder_3b_I_29_V rfl) rfl (by show 2 * 0 + _ ≤ _; exact Nat.le_of_eq rfl) (hb hby at_39) (fun _ _ => ⟨rfl, rfl, (by decide : 4 + 0 ≤ _), (by decide : 41 + 0 ≤ _)⟩)
  dsimp only [Pt.U, Pt.locs, Pt.cells, Pt.slots] at X13 l13 y13 z13 st13 hQ13
  subst l13 y13 z13
  obtain ⟨x1_13, x2_13, rfl, N13q, K13c, R13_0, R13_1, R13_2, R13_3, R13_4, R13_5, R13_6, hx1_13, hx2_13⟩ := hQ13
  have N13 := Fr.app N9 N13q
  have Z13 : n0 ≤ T13.heap.size := Nat.le_trans Z9 K13c.1
  have E_14 : Exa Z T13.heap b3 "com/example/thesaurus_rerank/thesaurusrerank/space/SparseDistances$Builder" := (E_10.keep K13c)
  have V_15 : Arv Z T13.heap b3_4 k3_4 .int (4 : Int32) [(.int (0 : Int32)), (.int ((0 : Int32) + n0_)), (.int (0 : Int32)), (.int (0 : Int32))] (.int (0 : Int32)) := (R9_5.keep K13c (ninS (Ne.symm (Nat.ne_of_lt (Nat.lt_of_lt_of_le A3.lt sb_b3_4))) (ninS (Ne.symm R4_9) (ninS (Ne.symm R4_10) nin0))))
  obtain ⟨cq16, kq16, q16a, q16b, q16c⟩ := isOf hZ rfl E_14
  obtain ⟨_, _, ⟨T16, L16, k16, n16⟩, -, X16, ⟨Lc16, hQ16, l16, y16, z16⟩, st16⟩ := X13.virtualBack hx (y := (⟨"com/example/thesaurus_rerank/thesaurusrerank/space/SparseDistances$Builder", "endRow", "()V"⟩ : MethodName)) (z := (⟨"com/example/thesaurus_rerank/thesaurusrerank/space/SparseDistances$Builder", "endRow", "()V"⟩ : MethodName)) hown (mvT hZ (hw _ (List.mem_of_getElem? (i := 21) rfl))) (mvT hZ (hw _ (List.mem_of_getElem? (i := 22) rfl))) (notFace_of_selects (args := #[]) (mvT hZ (hw _ (List.mem_of_getElem? (i := 24) rfl)))) (mvT hZ (hw _ (List.mem_of_getElem? (i := 24) rfl))) (mvT hZ (hw _ (List.mem_of_getElem? (i := 23) rfl))) (by decide) (backOf (W := 0) (rm4_1 l Z a0 hw [] b3 b1_4 b2_4 b3_4 k3_4 (((0 : Int32) + n0_) + n1_) (0 : Int32) ((0 : Int32) + n0_) (0 : Int32) (0 : Int32) T13.heap n0 Z13 E_14 g_b3 g_b3_4 (Nat.ne_of_lt (Nat.lt_of_lt_of_le A3.lt sb_b3_4)) R13_0 R13_1 R13_2 R13_3 R13_4 V_15) hZ (hw _ (List.mem_of_getElem? (i := 25) rfl)) (hw _ (List.mem_of_getElem? (i := 2) rfl)) (by decide) (by decide)) q16a q16c (g := (mkF m 44 #[.val (.int pp1), .val (.int pp2), .val (.int pp3), .val (.int n0_), .val (.int n1_), .val (.int n2_), .val (.ref b3), .unset] [(.ref b3)])) rfl (by rw [hml]; rfl) (Steps.refl _) (argsL := []) (rest := []) (lenOf pd__28__29_V rfl) rfl (by show 2 * 0 + _ ≤ _; exact Nat.le_of_eq rfl) (hb hby at_44) (fun _ _ => ⟨rfl, rfl, (by decide : 4 + 0 ≤ _), (by decide : 41 + 0 ≤ _)⟩)
  dsimp only [Pt.U, Pt.locs, Pt.cells, Pt.slots] at X16 l16 y16 z16 st16 hQ16
  subst l16 y16 z16
  obtain ⟨rfl, N16q, K16c, R16_0, R16_1, R16_2, R16_3, R16_4, R16_5⟩ := hQ16
  have N16 := Fr.app N13 N16q
  have Z16 : n0 ≤ T16.heap.size := Nat.le_trans Z13 K16c.1
  have E_17 : Exa Z T16.heap b3 "com/example/thesaurus_rerank/thesaurusrerank/space/SparseDistances$Builder" := (E_14.keep K16c)
  have V_18 : Arv Z T16.heap b1_4 k1_4 .int (16 : Int32) x1_13 (.int (0 : Int32)) := (R13_5.keep K16c (ninS (Ne.symm (Nat.ne_of_lt (Nat.lt_of_lt_of_le A3.lt sb_b1_4))) (ninS R4_9 nin0)))
  have V_19 : Arv Z T16.heap b2_4 k2_4 .double (16 : Int32) x2_13 (.double (0 : UInt64)) := (R13_6.keep K16c (ninS (Ne.symm (Nat.ne_of_lt (Nat.lt_of_lt_of_le A3.lt sb_b2_4))) (ninS R4_10 nin0)))
  obtain ⟨_, _, ⟨T20, L20, k20, n20⟩, -, X20, ⟨Lc20, hQ20, l20, y20, z20⟩, st20⟩ := Jvm.LawKit.callS X16 hx (y := (⟨"com/example/thesaurus_rerank/thesaurusrerank/space/BuilderEndRowPinLaw", "fill", "(Lcom/example/thesaurus_rerank/thesaurusrerank/space/SparseDistances$Builder;I)V"⟩ : MethodName)) hown (mvT hZ (hw _ (List.mem_of_getElem? (i := 17) rfl))) (mvT hZ (hw _ (List.mem_of_getElem? (i := 18) rfl))) (mvT hZ (hw _ (List.mem_of_getElem? (i := 19) rfl))) (mvT hZ (hw _ (List.mem_of_getElem? (i := 20) rfl))) (by decide) (backOf (W := 0) (rm3 l Z a0 hw [] b3 n2_ b1_4 b2_4 b3_4 k1_4 k2_4 x1_13 x2_13 (((0 : Int32) + n0_) + n1_) (2 : Int32) T16.heap n0 Z16 E_17 g_b3 g_b1_4 g_b2_4 R16_0 R16_1 R16_2 R16_3 R16_4 V_18 V_19 (Nat.ne_of_lt (Nat.lt_of_lt_of_le A3.lt sb_b1_4)) (Nat.ne_of_lt (Nat.lt_of_lt_of_le A3.lt sb_b2_4)) R4_8 (show x1_13.length = 16 from hx1_13) (show x2_13.length = 16 from hx2_13) (show own_in 10 (((0 : Int32) + n0_) + n1_) from own_in_mono (own_in_add (own_in_add own_in_0 h_n0_ (by decide)) h_n1_ (by decide)) (by decide)) (show own_in 4 n2_ from h_n2_)) hZ (hw _ (List.mem_of_getElem? (i := 20) rfl)) (hw _ (List.mem_of_getElem? (i := 19) rfl)) (by decide) (by decide)) (g := (mkF m 51 #[.val (.int pp1), .val (.int pp2), .val (.int pp3), .val (.int n0_), .val (.int n1_), .val (.int n2_), .val (.ref b3), .unset] [(.int n2_), (.ref b3)])) rfl (by rw [hml]; rfl) (argsL := [(.ref b3), (.int n2_)]) (rest := []) (lenOf pd__28_Lcom_2f_example_2f_thesaurus_rerank_2f_thesaurusrerank_2f_space_2f_SparseDistances_24_Builder_3b_I_29_V rfl) rfl (by show 2 * 0 + _ ≤ _; exact Nat.le_of_eq rfl) (hb hby at_51) (fun _ _ => ⟨rfl, rfl, (by decide : 4 + 0 ≤ _), (by decide : 41 + 0 ≤ _)⟩)
  dsimp only [Pt.U, Pt.locs, Pt.cells, Pt.slots] at X20 l20 y20 z20 st20 hQ20
  subst l20 y20 z20
  obtain ⟨x1_20, x2_20, rfl, N20q, K20c, R20_0, R20_1, R20_2, R20_3, R20_4, R20_5, R20_6, hx1_20, hx2_20⟩ := hQ20
  have N20 := Fr.app N16 N20q
  have Z20 : n0 ≤ T20.heap.size := Nat.le_trans Z16 K20c.1
  have E_21 : Exa Z T20.heap b3 "com/example/thesaurus_rerank/thesaurusrerank/space/SparseDistances$Builder" := (E_17.keep K20c)
  have V_22 : Arv Z T20.heap b3_4 k3_4 .int (4 : Int32) [(.int (0 : Int32)), (.int ((0 : Int32) + n0_)), (.int (((0 : Int32) + n0_) + n1_)), (.int (0 : Int32))] (.int (0 : Int32)) := (R16_5.keep K20c (ninS (Ne.symm (Nat.ne_of_lt (Nat.lt_of_lt_of_le A3.lt sb_b3_4))) (ninS (Ne.symm R4_9) (ninS (Ne.symm R4_10) nin0))))
  obtain ⟨cq23, kq23, q23a, q23b, q23c⟩ := isOf hZ rfl E_21
  obtain ⟨_, _, ⟨T23, L23, k23, n23⟩, -, X23, ⟨Lc23, hQ23, l23, y23, z23⟩, st23⟩ := X20.virtualBack hx (y := (⟨"com/example/thesaurus_rerank/thesaurusrerank/space/SparseDistances$Builder", "endRow", "()V"⟩ : MethodName)) (z := (⟨"com/example/thesaurus_rerank/thesaurusrerank/space/SparseDistances$Builder", "endRow", "()V"⟩ : MethodName)) hown (mvT hZ (hw _ (List.mem_of_getElem? (i := 21) rfl))) (mvT hZ (hw _ (List.mem_of_getElem? (i := 22) rfl))) (notFace_of_selects (args := #[]) (mvT hZ (hw _ (List.mem_of_getElem? (i := 24) rfl)))) (mvT hZ (hw _ (List.mem_of_getElem? (i := 24) rfl))) (mvT hZ (hw _ (List.mem_of_getElem? (i := 23) rfl))) (by decide) (backOf (W := 0) (rm4_2 l Z a0 hw [] b3 b1_4 b2_4 b3_4 k3_4 ((((0 : Int32) + n0_) + n1_) + n2_) (0 : Int32) ((0 : Int32) + n0_) (((0 : Int32) + n0_) + n1_) (0 : Int32) T20.heap n0 Z20 E_21 g_b3 g_b3_4 (Nat.ne_of_lt (Nat.lt_of_lt_of_le A3.lt sb_b3_4)) R20_0 R20_1 R20_2 R20_3 R20_4 V_22) hZ (hw _ (List.mem_of_getElem? (i := 25) rfl)) (hw _ (List.mem_of_getElem? (i := 2) rfl)) (by decide) (by decide)) q23a q23c (g := (mkF m 56 #[.val (.int pp1), .val (.int pp2), .val (.int pp3), .val (.int n0_), .val (.int n1_), .val (.int n2_), .val (.ref b3), .unset] [(.ref b3)])) rfl (by rw [hml]; rfl) (Steps.refl _) (argsL := []) (rest := []) (lenOf pd__28__29_V rfl) rfl (by show 2 * 0 + _ ≤ _; exact Nat.le_of_eq rfl) (hb hby at_56) (fun _ _ => ⟨rfl, rfl, (by decide : 4 + 0 ≤ _), (by decide : 41 + 0 ≤ _)⟩)
  dsimp only [Pt.U, Pt.locs, Pt.cells, Pt.slots] at X23 l23 y23 z23 st23 hQ23
  subst l23 y23 z23
  obtain ⟨rfl, N23q, K23c, R23_0, R23_1, R23_2, R23_3, R23_4, R23_5⟩ := hQ23
  have N23 := Fr.app N20 N23q
  have Z23 : n0 ≤ T23.heap.size := Nat.le_trans Z20 K23c.1
  have V_24 : Arv Z T23.heap b1_4 k1_4 .int (16 : Int32) x1_20 (.int (0 : Int32)) := (R20_5.keep K23c (ninS (Ne.symm (Nat.ne_of_lt (Nat.lt_of_lt_of_le A3.lt sb_b1_4))) (ninS R4_9 nin0)))
  have V_25 : Arv Z T23.heap b2_4 k2_4 .double (16 : Int32) x2_20 (.double (0 : UInt64)) := (R20_6.keep K23c (ninS (Ne.symm (Nat.ne_of_lt (Nat.lt_of_lt_of_le A3.lt sb_b2_4))) (ninS R4_10 nin0)))
  have E_27 : Exa Z T23.heap b3 "com/example/thesaurus_rerank/thesaurusrerank/space/SparseDistances$Builder" := (E_21.keep K23c)
  obtain ⟨cq26, kq26, q26a, q26b, q26c⟩ := isOf hZ rfl E_27
  obtain ⟨_, _, ⟨T26, L26, k26, n26⟩, -, X26, ⟨Lc26, hQ26, l26, y26, z26⟩, st26⟩ := X23.virtualBack hx (y := (⟨"com/example/thesaurus_rerank/thesaurusrerank/space/SparseDistances$Builder", "build", "()Lcom/example/thesaurus_rerank/thesaurusrerank/space/SparseDistances;"⟩ : MethodName)) (z := (⟨"com/example/thesaurus_rerank/thesaurusrerank/space/SparseDistances$Builder", "build", "()Lcom/example/thesaurus_rerank/thesaurusrerank/space/SparseDistances;"⟩ : MethodName)) hown (mvT hZ (hw _ (List.mem_of_getElem? (i := 38) rfl))) (mvT hZ (hw _ (List.mem_of_getElem? (i := 39) rfl))) (notFace_of_selects (args := #[]) (mvT hZ (hw _ (List.mem_of_getElem? (i := 41) rfl)))) (mvT hZ (hw _ (List.mem_of_getElem? (i := 41) rfl))) (mvT hZ (hw _ (List.mem_of_getElem? (i := 40) rfl))) (by decide) (backOf (W := 0) (rm6 l Z a0 hw [] b3 b1_4 b2_4 b3_4 k1_4 k2_4 x1_20 x2_20 ((((0 : Int32) + n0_) + n1_) + n2_) k3_4 [(.int (0 : Int32)), (.int ((0 : Int32) + n0_)), (.int (((0 : Int32) + n0_) + n1_)), (.int ((((0 : Int32) + n0_) + n1_) + n2_))] T23.heap n0 Z23 R23_0 R23_1 R23_2 R23_3 R23_4 V_24 V_25 R23_5 (show own_in 16 ((((0 : Int32) + n0_) + n1_) + n2_) from own_in_mono (own_in_add (own_in_add (own_in_add own_in_0 h_n0_ (by decide)) h_n1_ (by decide)) h_n2_ (by decide)) (by decide))) hZ (hw _ (List.mem_of_getElem? (i := 42) rfl)) (hw _ (List.mem_of_getElem? (i := 2) rfl)) (by decide) (by decide)) q26a q26c (g := (mkF m 61 #[.val (.int pp1), .val (.int pp2), .val (.int pp3), .val (.int n0_), .val (.int n1_), .val (.int n2_), .val (.ref b3), .unset] [(.ref b3)])) rfl (by rw [hml]; rfl) (Steps.refl _) (argsL := []) (rest := []) (lenOf pd__28__29_Lcom_2f_example_2f_thesaurus_rerank_2f_thesaurusrerank_2f_space_2f_SparseDistances_3b_ rfl) rfl (by show 2 * 0 + _ ≤ _; exact Nat.le_of_eq rfl) (hb hby at_61) (fun _ _ => ⟨rfl, rfl, (by decide : 4 + 3 ≤ _), (by decide : 41 + 35 ≤ _)⟩)
  dsimp only [Pt.U, Pt.locs, Pt.cells, Pt.slots] at X26 l26 y26 z26 st26 hQ26
  subst l26 y26 z26
  obtain ⟨bx_26, rfl, N26q, K26c, g_bx_26, sb_bx_26, R26_0, R26_1⟩ := hQ26
  have N26 := Fr.app N23 N26q
  have Z26 : n0 ≤ T26.heap.size := Nat.le_trans Z23 K26c.1
  have V_28 : Arv Z T26.heap b3_4 k3_4 .int (4 : Int32) [(.int (0 : Int32)), (.int ((0 : Int32) + n0_)), (.int (((0 : Int32) + n0_) + n1_)), (.int ((((0 : Int32) + n0_) + n1_) + n2_))] (.int (0 : Int32)) := (R23_5.keep K26c nin0)
  obtain ⟨cq29, kq29, q29a, q29b, q29c⟩ := isOf hZ rfl R26_0
  obtain ⟨_, _, ⟨T29, L29, k29, n29⟩, -, X29, ⟨Lc29, hQ29, l29, y29, z29⟩, st29⟩ := X26.virtualBack hx (y := (⟨"com/example/thesaurus_rerank/thesaurusrerank/space/SparseDistances", "size", "()I"⟩ : MethodName)) (z := (⟨"com/example/thesaurus_rerank/thesaurusrerank/space/SparseDistances", "size", "()I"⟩ : MethodName)) hown (mvT hZ (hw _ (List.mem_of_getElem? (i := 71) rfl))) (mvT hZ (hw _ (List.mem_of_getElem? (i := 72) rfl))) (notFace_of_selects (args := #[]) (mvT hZ (hw _ (List.mem_of_getElem? (i := 74) rfl)))) (mvT hZ (hw _ (List.mem_of_getElem? (i := 74) rfl))) (mvT hZ (hw _ (List.mem_of_getElem? (i := 73) rfl))) (by decide) (backOf (W := 0) (rm11 l Z a0 hw [] bx_26 b3_4 k3_4 [(.int (0 : Int32)), (.int ((0 : Int32) + n0_)), (.int (((0 : Int32) + n0_) + n1_)), (.int ((((0 : Int32) + n0_) + n1_) + n2_))] T26.heap n0 Z26 R26_1 V_28) hZ (hw _ (List.mem_of_getElem? (i := 75) rfl)) (hw _ (List.mem_of_getElem? (i := 45) rfl)) (by decide) (by decide)) q29a q29c (g := (mkF m 68 #[.val (.int pp1), .val (.int pp2), .val (.int pp3), .val (.int n0_), .val (.int n1_), .val (.int n2_), .val (.ref b3), .val (.ref bx_26)] [(.ref bx_26)])) rfl (by rw [hml]; rfl) (Steps.refl _) (argsL := []) (rest := []) (lenOf pd__28__29_I rfl) rfl (by show 2 * 0 + _ ≤ _; exact Nat.le_of_eq rfl) (hb hby at_68) (fun _ _ => ⟨rfl, rfl, (by decide : 7 + 0 ≤ _), (by decide : 76 + 0 ≤ _)⟩)
  dsimp only [Pt.U, Pt.locs, Pt.cells, Pt.slots] at X29 l29 y29 z29 st29 hQ29
  subst l29 y29 z29
  obtain ⟨rfl, N29q, e29⟩ := hQ29
  have N29 := Fr.app N26 N29q
  have hc72 : (3 : Int32) = (3 : Int32) := by decide
  obtain ⟨cq30, kq30, q30a, q30b, q30c⟩ := isOf hZ e29 R26_0
  obtain ⟨_, _, ⟨T30, L30, k30, n30⟩, -, X30, ⟨Lc30, hQ30, l30, y30, z30⟩, st30⟩ := X29.virtualBack hx (y := (⟨"com/example/thesaurus_rerank/thesaurusrerank/space/SparseDistances", "rowStart", "(I)I"⟩ : MethodName)) (z := (⟨"com/example/thesaurus_rerank/thesaurusrerank/space/SparseDistances", "rowStart", "(I)I"⟩ : MethodName)) hown (mvT hZ (hw _ (List.mem_of_getElem? (i := 76) rfl))) (mvT hZ (hw _ (List.mem_of_getElem? (i := 77) rfl))) (notFace_of_selects (args := #[]) (mvT hZ (hw _ (List.mem_of_getElem? (i := 79) rfl)))) (mvT hZ (hw _ (List.mem_of_getElem? (i := 79) rfl))) (mvT hZ (hw _ (List.mem_of_getElem? (i := 78) rfl))) (by decide) (backOf (W := 0) (rm12 l Z a0 hw [] bx_26 b3_4 k3_4 (0 : Int32) ((0 : Int32) + n0_) (((0 : Int32) + n0_) + n1_) ((((0 : Int32) + n0_) + n1_) + n2_) T26.heap n0 Z26 R26_1 V_28) hZ (hw _ (List.mem_of_getElem? (i := 80) rfl)) (hw _ (List.mem_of_getElem? (i := 45) rfl)) (by decide) (by decide)) q30a q30c (g := (mkF m 78 #[.val (.int pp1), .val (.int pp2), .val (.int pp3), .val (.int n0_), .val (.int n1_), .val (.int n2_), .val (.ref b3), .val (.ref bx_26)] [(.int (0 : Int32)), (.ref bx_26)])) rfl (by rw [hml]; rfl) (Steps.refl _) (argsL := [(.int (0 : Int32))]) (rest := []) (lenOf pd__28_I_29_I rfl) rfl (by show 2 * 0 + _ ≤ _; exact Nat.le_of_eq rfl) (hb hby at_78) (fun _ _ => ⟨rfl, e29, (by decide : 7 + 0 ≤ _), (by decide : 76 + 0 ≤ _)⟩)
  dsimp only [Pt.U, Pt.locs, Pt.cells, Pt.slots] at X30 l30 y30 z30 st30 hQ30
  subst l30 y30 z30
  obtain ⟨rfl, N30q, e30⟩ := hQ30
  have N30 := Fr.app N29 N30q
  have hc81 : (0 : Int32) = (0 : Int32) := by decide
  obtain ⟨cq31, kq31, q31a, q31b, q31c⟩ := isOf hZ e30 R26_0
  obtain ⟨_, _, ⟨T31, L31, k31, n31⟩, -, X31, ⟨Lc31, hQ31, l31, y31, z31⟩, st31⟩ := X30.virtualBack hx (y := (⟨"com/example/thesaurus_rerank/thesaurusrerank/space/SparseDistances", "rowEnd", "(I)I"⟩ : MethodName)) (z := (⟨"com/example/thesaurus_rerank/thesaurusrerank/space/SparseDistances", "rowEnd", "(I)I"⟩ : MethodName)) hown (mvT hZ (hw _ (List.mem_of_getElem? (i := 81) rfl))) (mvT hZ (hw _ (List.mem_of_getElem? (i := 82) rfl))) (notFace_of_selects (args := #[]) (mvT hZ (hw _ (List.mem_of_getElem? (i := 84) rfl)))) (mvT hZ (hw _ (List.mem_of_getElem? (i := 84) rfl))) (mvT hZ (hw _ (List.mem_of_getElem? (i := 83) rfl))) (by decide) (backOf (W := 0) (rm13_0 l Z a0 hw [] bx_26 b3_4 k3_4 (0 : Int32) ((0 : Int32) + n0_) (((0 : Int32) + n0_) + n1_) ((((0 : Int32) + n0_) + n1_) + n2_) T26.heap n0 Z26 R26_1 V_28) hZ (hw _ (List.mem_of_getElem? (i := 85) rfl)) (hw _ (List.mem_of_getElem? (i := 45) rfl)) (by decide) (by decide)) q31a q31c (g := (mkF m 87 #[.val (.int pp1), .val (.int pp2), .val (.int pp3), .val (.int n0_), .val (.int n1_), .val (.int n2_), .val (.ref b3), .val (.ref bx_26)] [(.int (0 : Int32)), (.ref bx_26)])) rfl (by rw [hml]; rfl) (Steps.refl _) (argsL := [(.int (0 : Int32))]) (rest := []) (lenOf pd__28_I_29_I rfl) rfl (by show 2 * 0 + _ ≤ _; exact Nat.le_of_eq rfl) (hb hby at_87) (fun _ _ => ⟨rfl, e30, (by decide : 7 + 0 ≤ _), (by decide : 76 + 0 ≤ _)⟩)
  dsimp only [Pt.U, Pt.locs, Pt.cells, Pt.slots] at X31 l31 y31 z31 st31 hQ31
  subst l31 y31 z31
  obtain ⟨rfl, N31q, e31⟩ := hQ31
  have N31 := Fr.app N30 N31q
  have hc91 : ((0 : Int32) + n0_) = n0_ := Int32.zero_add _
  obtain ⟨cq32, kq32, q32a, q32b, q32c⟩ := isOf hZ e31 R26_0
  obtain ⟨_, _, ⟨T32, L32, k32, n32⟩, -, X32, ⟨Lc32, hQ32, l32, y32, z32⟩, st32⟩ := X31.virtualBack hx (y := (⟨"com/example/thesaurus_rerank/thesaurusrerank/space/SparseDistances", "rowEnd", "(I)I"⟩ : MethodName)) (z := (⟨"com/example/thesaurus_rerank/thesaurusrerank/space/SparseDistances", "rowEnd", "(I)I"⟩ : MethodName)) hown (mvT hZ (hw _ (List.mem_of_getElem? (i := 81) rfl))) (mvT hZ (hw _ (List.mem_of_getElem? (i := 82) rfl))) (notFace_of_selects (args := #[]) (mvT hZ (hw _ (List.mem_of_getElem? (i := 84) rfl)))) (mvT hZ (hw _ (List.mem_of_getElem? (i := 84) rfl))) (mvT hZ (hw _ (List.mem_of_getElem? (i := 83) rfl))) (by decide) (backOf (W := 0) (rm13_1 l Z a0 hw [] bx_26 b3_4 k3_4 (0 : Int32) ((0 : Int32) + n0_) (((0 : Int32) + n0_) + n1_) ((((0 : Int32) + n0_) + n1_) + n2_) T26.heap n0 Z26 R26_1 V_28) hZ (hw _ (List.mem_of_getElem? (i := 85) rfl)) (hw _ (List.mem_of_getElem? (i := 45) rfl)) (by decide) (by decide)) q32a q32c (g := (mkF m 97 #[.val (.int pp1), .val (.int pp2), .val (.int pp3), .val (.int n0_), .val (.int n1_), .val (.int n2_), .val (.ref b3), .val (.ref bx_26)] [(.int (1 : Int32)), (.ref bx_26)])) rfl (by rw [hml]; rfl) (Steps.refl _) (argsL := [(.int (1 : Int32))]) (rest := []) (lenOf pd__28_I_29_I rfl) rfl (by show 2 * 0 + _ ≤ _; exact Nat.le_of_eq rfl) (hb hby at_97) (fun _ _ => ⟨rfl, e31, (by decide : 7 + 0 ≤ _), (by decide : 76 + 0 ≤ _)⟩)
  dsimp only [Pt.U, Pt.locs, Pt.cells, Pt.slots] at X32 l32 y32 z32 st32 hQ32
  subst l32 y32 z32
  obtain ⟨rfl, N32q, e32⟩ := hQ32
  have N32 := Fr.app N31 N32q
  have hc104 : (((0 : Int32) + n0_) + n1_) = (n0_ + n1_) := (by rw [Int32.zero_add])
  obtain ⟨cq33, kq33, q33a, q33b, q33c⟩ := isOf hZ e32 R26_0
  obtain ⟨_, _, ⟨T33, L33, k33, n33⟩, -, X33, ⟨Lc33, hQ33, l33, y33, z33⟩, st33⟩ := X32.virtualBack hx (y := (⟨"com/example/thesaurus_rerank/thesaurusrerank/space/SparseDistances", "rowEnd", "(I)I"⟩ : MethodName)) (z := (⟨"com/example/thesaurus_rerank/thesaurusrerank/space/SparseDistances", "rowEnd", "(I)I"⟩ : MethodName)) hown (mvT hZ (hw _ (List.mem_of_getElem? (i := 81) rfl))) (mvT hZ (hw _ (List.mem_of_getElem? (i := 82) rfl))) (notFace_of_selects (args := #[]) (mvT hZ (hw _ (List.mem_of_getElem? (i := 84) rfl)))) (mvT hZ (hw _ (List.mem_of_getElem? (i := 84) rfl))) (mvT hZ (hw _ (List.mem_of_getElem? (i := 83) rfl))) (by decide) (backOf (W := 0) (rm13_2 l Z a0 hw [] bx_26 b3_4 k3_4 (0 : Int32) ((0 : Int32) + n0_) (((0 : Int32) + n0_) + n1_) ((((0 : Int32) + n0_) + n1_) + n2_) T26.heap n0 Z26 R26_1 V_28) hZ (hw _ (List.mem_of_getElem? (i := 85) rfl)) (hw _ (List.mem_of_getElem? (i := 45) rfl)) (by decide) (by decide)) q33a q33c (g := (mkF m 110 #[.val (.int pp1), .val (.int pp2), .val (.int pp3), .val (.int n0_), .val (.int n1_), .val (.int n2_), .val (.ref b3), .val (.ref bx_26)] [(.int (2 : Int32)), (.ref bx_26)])) rfl (by rw [hml]; rfl) (Steps.refl _) (argsL := [(.int (2 : Int32))]) (rest := []) (lenOf pd__28_I_29_I rfl) rfl (by show 2 * 0 + _ ≤ _; exact Nat.le_of_eq rfl) (hb hby at_110) (fun _ _ => ⟨rfl, e32, (by decide : 7 + 0 ≤ _), (by decide : 76 + 0 ≤ _)⟩)
  dsimp only [Pt.U, Pt.locs, Pt.cells, Pt.slots] at X33 l33 y33 z33 st33 hQ33
  subst l33 y33 z33
  obtain ⟨rfl, N33q, e33⟩ := hQ33
  have N33 := Fr.app N32 N33q
  have hc120 : ((((0 : Int32) + n0_) + n1_) + n2_) = ((n0_ + n1_) + n2_) := (by rw [Int32.zero_add])
  obtain ⟨fs, hr, hrun, hended, hW, hsame⟩ := X33.leave (v := some (.int (1 : Int32))) (fun h => by rw [Bd.returns] at h; cases h)
  refine ⟨_, _, pre2 _ ?_, hrun, hended, _, _, rfl, ?_, ⟨_, rfl⟩, hW, hsame.mono (by decide) (by decide)⟩
  · show Steps p.tables e below (s₁.setTop (mkF m 14 #[.val (.int pp1), .val (.int pp2), .val (.int pp3), .val (.int n0_), .val (.int n1_), .val (.int n2_), .unset, .unset] [])) _
    refine st3 _ ?_
    show Steps p.tables e below (T3.setTop (mkF m 17 #[.val (.int pp1), .val (.int pp2), .val (.int pp3), .val (.int n0_), .val (.int n1_), .val (.int n2_), .unset, .unset] [(.ref b3)])) _
    refine XS.dup X3.here hx rfl (hb hby at_17) rfl rfl ?_
    show Steps p.tables e below (T3.setTop (mkF m 18 #[.val (.int pp1), .val (.int pp2), .val (.int pp3), .val (.int n0_), .val (.int n1_), .val (.int n2_), .unset, .unset] [(.ref b3), (.ref b3)])) _
    refine XS.iconst X3.here hx rfl (hb hby at_18) ?_
    show Steps p.tables e below (T3.setTop (mkF m 19 #[.val (.int pp1), .val (.int pp2), .val (.int pp3), .val (.int n0_), .val (.int n1_), .val (.int n2_), .unset, .unset] [(.int (3 : Int32)), (.ref b3), (.ref b3)])) _
    refine st4.trans ?_
    show Steps p.tables e below (T4.setTop (mkF m 22 #[.val (.int pp1), .val (.int pp2), .val (.int pp3), .val (.int n0_), .val (.int n1_), .val (.int n2_), .unset, .unset] [(.ref b3)])) _
    refine XS.astore X4.here hx rfl (hb hby at_22) rfl rfl (l' := #[.val (.int pp1), .val (.int pp2), .val (.int pp3), .val (.int n0_), .val (.int n1_), .val (.int n2_), .val (.ref b3), .unset]) rfl ?_
    show Steps p.tables e below (T4.setTop (mkF m 24 #[.val (.int pp1), .val (.int pp2), .val (.int pp3), .val (.int n0_), .val (.int n1_), .val (.int n2_), .val (.ref b3), .unset] [])) _
    refine XS.aload X4.here hx rfl (hb hby at_24) rfl rfl ?_
    show Steps p.tables e below (T4.setTop (mkF m 26 #[.val (.int pp1), .val (.int pp2), .val (.int pp3), .val (.int n0_), .val (.int n1_), .val (.int n2_), .val (.ref b3), .unset] [(.ref b3)])) _
    refine XS.iloadN X4.here hx rfl (hb hby at_26) rfl ?_
    show Steps p.tables e below (T4.setTop (mkF m 27 #[.val (.int pp1), .val (.int pp2), .val (.int pp3), .val (.int n0_), .val (.int n1_), .val (.int n2_), .val (.ref b3), .unset] [(.int n0_), (.ref b3)])) _
    refine st6 _ ?_
    show Steps p.tables e below (T6.setTop (mkF m 30 #[.val (.int pp1), .val (.int pp2), .val (.int pp3), .val (.int n0_), .val (.int n1_), .val (.int n2_), .val (.ref b3), .unset] [])) _
    refine XS.aload X6.here hx rfl (hb hby at_30) rfl rfl ?_
    show Steps p.tables e below (T6.setTop (mkF m 32 #[.val (.int pp1), .val (.int pp2), .val (.int pp3), .val (.int n0_), .val (.int n1_), .val (.int n2_), .val (.ref b3), .unset] [(.ref b3)])) _
    refine st9.trans ?_
    show Steps p.tables e below (T9.setTop (mkF m 35 #[.val (.int pp1), .val (.int pp2), .val (.int pp3), .val (.int n0_), .val (.int n1_), .val (.int n2_), .val (.ref b3), .unset] [])) _
    refine XS.aload X9.here hx rfl (hb hby at_35) rfl rfl ?_
    show Steps p.tables e below (T9.setTop (mkF m 37 #[.val (.int pp1), .val (.int pp2), .val (.int pp3), .val (.int n0_), .val (.int n1_), .val (.int n2_), .val (.ref b3), .unset] [(.ref b3)])) _
    refine XS.iload X9.here hx rfl (hb hby at_37) rfl ?_
    show Steps p.tables e below (T9.setTop (mkF m 39 #[.val (.int pp1), .val (.int pp2), .val (.int pp3), .val (.int n0_), .val (.int n1_), .val (.int n2_), .val (.ref b3), .unset] [(.int n1_), (.ref b3)])) _
    refine st13 _ ?_
    show Steps p.tables e below (T13.setTop (mkF m 42 #[.val (.int pp1), .val (.int pp2), .val (.int pp3), .val (.int n0_), .val (.int n1_), .val (.int n2_), .val (.ref b3), .unset] [])) _
    refine XS.aload X13.here hx rfl (hb hby at_42) rfl rfl ?_
    show Steps p.tables e below (T13.setTop (mkF m 44 #[.val (.int pp1), .val (.int pp2), .val (.int pp3), .val (.int n0_), .val (.int n1_), .val (.int n2_), .val (.ref b3), .unset] [(.ref b3)])) _
    refine st16.trans ?_
    show Steps p.tables e below (T16.setTop (mkF m 47 #[.val (.int pp1), .val (.int pp2), .val (.int pp3), .val (.int n0_), .val (.int n1_), .val (.int n2_), .val (.ref b3), .unset] [])) _
    refine XS.aload X16.here hx rfl (hb hby at_47) rfl rfl ?_
    show Steps p.tables e below (T16.setTop (mkF m 49 #[.val (.int pp1), .val (.int pp2), .val (.int pp3), .val (.int n0_), .val (.int n1_), .val (.int n2_), .val (.ref b3), .unset] [(.ref b3)])) _
    refine XS.iload X16.here hx rfl (hb hby at_49) rfl ?_
    show Steps p.tables e below (T16.setTop (mkF m 51 #[.val (.int pp1), .val (.int pp2), .val (.int pp3), .val (.int n0_), .val (.int n1_), .val (.int n2_), .val (.ref b3), .unset] [(.int n2_), (.ref b3)])) _
    refine st20 _ ?_
    show Steps p.tables e below (T20.setTop (mkF m 54 #[.val (.int pp1), .val (.int pp2), .val (.int pp3), .val (.int n0_), .val (.int n1_), .val (.int n2_), .val (.ref b3), .unset] [])) _
    refine XS.aload X20.here hx rfl (hb hby at_54) rfl rfl ?_
    show Steps p.tables e below (T20.setTop (mkF m 56 #[.val (.int pp1), .val (.int pp2), .val (.int pp3), .val (.int n0_), .val (.int n1_), .val (.int n2_), .val (.ref b3), .unset] [(.ref b3)])) _
    refine st23.trans ?_
    show Steps p.tables e below (T23.setTop (mkF m 59 #[.val (.int pp1), .val (.int pp2), .val (.int pp3), .val (.int n0_), .val (.int n1_), .val (.int n2_), .val (.ref b3), .unset] [])) _
    refine XS.aload X23.here hx rfl (hb hby at_59) rfl rfl ?_
    show Steps p.tables e below (T23.setTop (mkF m 61 #[.val (.int pp1), .val (.int pp2), .val (.int pp3), .val (.int n0_), .val (.int n1_), .val (.int n2_), .val (.ref b3), .unset] [(.ref b3)])) _
    refine st26.trans ?_
    show Steps p.tables e below (T26.setTop (mkF m 64 #[.val (.int pp1), .val (.int pp2), .val (.int pp3), .val (.int n0_), .val (.int n1_), .val (.int n2_), .val (.ref b3), .unset] [(.ref bx_26)])) _
    refine XS.astore X26.here hx rfl (hb hby at_64) rfl rfl (l' := #[.val (.int pp1), .val (.int pp2), .val (.int pp3), .val (.int n0_), .val (.int n1_), .val (.int n2_), .val (.ref b3), .val (.ref bx_26)]) rfl ?_
    show Steps p.tables e below (T26.setTop (mkF m 66 #[.val (.int pp1), .val (.int pp2), .val (.int pp3), .val (.int n0_), .val (.int n1_), .val (.int n2_), .val (.ref b3), .val (.ref bx_26)] [])) _
    refine XS.aload X26.here hx rfl (hb hby at_66) rfl rfl ?_
    show Steps p.tables e below (T26.setTop (mkF m 68 #[.val (.int pp1), .val (.int pp2), .val (.int pp3), .val (.int n0_), .val (.int n1_), .val (.int n2_), .val (.ref b3), .val (.ref bx_26)] [(.ref bx_26)])) _
    refine st29.trans ?_
    show Steps p.tables e below (T29.setTop (mkF m 71 #[.val (.int pp1), .val (.int pp2), .val (.int pp3), .val (.int n0_), .val (.int n1_), .val (.int n2_), .val (.ref b3), .val (.ref bx_26)] [(.int (3 : Int32))])) _
    refine XS.iconst X29.here hx rfl (hb hby at_71) ?_
    show Steps p.tables e below (T29.setTop (mkF m 72 #[.val (.int pp1), .val (.int pp2), .val (.int pp3), .val (.int n0_), .val (.int n1_), .val (.int n2_), .val (.ref b3), .val (.ref bx_26)] [(.int (3 : Int32)), (.int (3 : Int32))])) _
    refine XS.icmpNo X29.here hx rfl (hb hby at_72) rfl (teq hc72).2 ?_
    show Steps p.tables e below (T29.setTop (mkF m 75 #[.val (.int pp1), .val (.int pp2), .val (.int pp3), .val (.int n0_), .val (.int n1_), .val (.int n2_), .val (.ref b3), .val (.ref bx_26)] [])) _
    refine XS.aload X29.here hx rfl (hb hby at_75) rfl rfl ?_
    show Steps p.tables e below (T29.setTop (mkF m 77 #[.val (.int pp1), .val (.int pp2), .val (.int pp3), .val (.int n0_), .val (.int n1_), .val (.int n2_), .val (.ref b3), .val (.ref bx_26)] [(.ref bx_26)])) _
    refine XS.iconst X29.here hx rfl (hb hby at_77) ?_
    show Steps p.tables e below (T29.setTop (mkF m 78 #[.val (.int pp1), .val (.int pp2), .val (.int pp3), .val (.int n0_), .val (.int n1_), .val (.int n2_), .val (.ref b3), .val (.ref bx_26)] [(.int (0 : Int32)), (.ref bx_26)])) _
    refine st30.trans ?_
    show Steps p.tables e below (T30.setTop (mkF m 81 #[.val (.int pp1), .val (.int pp2), .val (.int pp3), .val (.int n0_), .val (.int n1_), .val (.int n2_), .val (.ref b3), .val (.ref bx_26)] [(.int (0 : Int32))])) _
    refine XS.ifNo X30.here hx rfl (hb hby at_81) rfl ((if0 _ _).trans (teq hc81).2) ?_
    show Steps p.tables e below (T30.setTop (mkF m 84 #[.val (.int pp1), .val (.int pp2), .val (.int pp3), .val (.int n0_), .val (.int n1_), .val (.int n2_), .val (.ref b3), .val (.ref bx_26)] [])) _
    refine XS.aload X30.here hx rfl (hb hby at_84) rfl rfl ?_
    show Steps p.tables e below (T30.setTop (mkF m 86 #[.val (.int pp1), .val (.int pp2), .val (.int pp3), .val (.int n0_), .val (.int n1_), .val (.int n2_), .val (.ref b3), .val (.ref bx_26)] [(.ref bx_26)])) _
    refine XS.iconst X30.here hx rfl (hb hby at_86) ?_
    show Steps p.tables e below (T30.setTop (mkF m 87 #[.val (.int pp1), .val (.int pp2), .val (.int pp3), .val (.int n0_), .val (.int n1_), .val (.int n2_), .val (.ref b3), .val (.ref bx_26)] [(.int (0 : Int32)), (.ref bx_26)])) _
    refine st31.trans ?_
    show Steps p.tables e below (T31.setTop (mkF m 90 #[.val (.int pp1), .val (.int pp2), .val (.int pp3), .val (.int n0_), .val (.int n1_), .val (.int n2_), .val (.ref b3), .val (.ref bx_26)] [(.int ((0 : Int32) + n0_))])) _
    refine XS.iloadN X31.here hx rfl (hb hby at_90) rfl ?_
    show Steps p.tables e below (T31.setTop (mkF m 91 #[.val (.int pp1), .val (.int pp2), .val (.int pp3), .val (.int n0_), .val (.int n1_), .val (.int n2_), .val (.ref b3), .val (.ref bx_26)] [(.int n0_), (.int ((0 : Int32) + n0_))])) _
    refine XS.icmpNo X31.here hx rfl (hb hby at_91) rfl (teq hc91).2 ?_
    show Steps p.tables e below (T31.setTop (mkF m 94 #[.val (.int pp1), .val (.int pp2), .val (.int pp3), .val (.int n0_), .val (.int n1_), .val (.int n2_), .val (.ref b3), .val (.ref bx_26)] [])) _
    refine XS.aload X31.here hx rfl (hb hby at_94) rfl rfl ?_
    show Steps p.tables e below (T31.setTop (mkF m 96 #[.val (.int pp1), .val (.int pp2), .val (.int pp3), .val (.int n0_), .val (.int n1_), .val (.int n2_), .val (.ref b3), .val (.ref bx_26)] [(.ref bx_26)])) _
    refine XS.iconst X31.here hx rfl (hb hby at_96) ?_
    show Steps p.tables e below (T31.setTop (mkF m 97 #[.val (.int pp1), .val (.int pp2), .val (.int pp3), .val (.int n0_), .val (.int n1_), .val (.int n2_), .val (.ref b3), .val (.ref bx_26)] [(.int (1 : Int32)), (.ref bx_26)])) _
    refine st32.trans ?_
    show Steps p.tables e below (T32.setTop (mkF m 100 #[.val (.int pp1), .val (.int pp2), .val (.int pp3), .val (.int n0_), .val (.int n1_), .val (.int n2_), .val (.ref b3), .val (.ref bx_26)] [(.int (((0 : Int32) + n0_) + n1_))])) _
    refine XS.iloadN X32.here hx rfl (hb hby at_100) rfl ?_
    show Steps p.tables e below (T32.setTop (mkF m 101 #[.val (.int pp1), .val (.int pp2), .val (.int pp3), .val (.int n0_), .val (.int n1_), .val (.int n2_), .val (.ref b3), .val (.ref bx_26)] [(.int n0_), (.int (((0 : Int32) + n0_) + n1_))])) _
    refine XS.iload X32.here hx rfl (hb hby at_101) rfl ?_
    show Steps p.tables e below (T32.setTop (mkF m 103 #[.val (.int pp1), .val (.int pp2), .val (.int pp3), .val (.int n0_), .val (.int n1_), .val (.int n2_), .val (.ref b3), .val (.ref bx_26)] [(.int n1_), (.int n0_), (.int (((0 : Int32) + n0_) + n1_))])) _
    refine XS.iadd X32.here hx rfl (hb hby at_103) rfl ?_
    show Steps p.tables e below (T32.setTop (mkF m 104 #[.val (.int pp1), .val (.int pp2), .val (.int pp3), .val (.int n0_), .val (.int n1_), .val (.int n2_), .val (.ref b3), .val (.ref bx_26)] [(.int (n0_ + n1_)), (.int (((0 : Int32) + n0_) + n1_))])) _
    refine XS.icmpNo X32.here hx rfl (hb hby at_104) rfl (teq hc104).2 ?_
    show Steps p.tables e below (T32.setTop (mkF m 107 #[.val (.int pp1), .val (.int pp2), .val (.int pp3), .val (.int n0_), .val (.int n1_), .val (.int n2_), .val (.ref b3), .val (.ref bx_26)] [])) _
    refine XS.aload X32.here hx rfl (hb hby at_107) rfl rfl ?_
    show Steps p.tables e below (T32.setTop (mkF m 109 #[.val (.int pp1), .val (.int pp2), .val (.int pp3), .val (.int n0_), .val (.int n1_), .val (.int n2_), .val (.ref b3), .val (.ref bx_26)] [(.ref bx_26)])) _
    refine XS.iconst X32.here hx rfl (hb hby at_109) ?_
    show Steps p.tables e below (T32.setTop (mkF m 110 #[.val (.int pp1), .val (.int pp2), .val (.int pp3), .val (.int n0_), .val (.int n1_), .val (.int n2_), .val (.ref b3), .val (.ref bx_26)] [(.int (2 : Int32)), (.ref bx_26)])) _
    refine st33.trans ?_
    show Steps p.tables e below (T33.setTop (mkF m 113 #[.val (.int pp1), .val (.int pp2), .val (.int pp3), .val (.int n0_), .val (.int n1_), .val (.int n2_), .val (.ref b3), .val (.ref bx_26)] [(.int ((((0 : Int32) + n0_) + n1_) + n2_))])) _
    refine XS.iloadN X33.here hx rfl (hb hby at_113) rfl ?_
    show Steps p.tables e below (T33.setTop (mkF m 114 #[.val (.int pp1), .val (.int pp2), .val (.int pp3), .val (.int n0_), .val (.int n1_), .val (.int n2_), .val (.ref b3), .val (.ref bx_26)] [(.int n0_), (.int ((((0 : Int32) + n0_) + n1_) + n2_))])) _
    refine XS.iload X33.here hx rfl (hb hby at_114) rfl ?_
    show Steps p.tables e below (T33.setTop (mkF m 116 #[.val (.int pp1), .val (.int pp2), .val (.int pp3), .val (.int n0_), .val (.int n1_), .val (.int n2_), .val (.ref b3), .val (.ref bx_26)] [(.int n1_), (.int n0_), (.int ((((0 : Int32) + n0_) + n1_) + n2_))])) _
    refine XS.iadd X33.here hx rfl (hb hby at_116) rfl ?_
    show Steps p.tables e below (T33.setTop (mkF m 117 #[.val (.int pp1), .val (.int pp2), .val (.int pp3), .val (.int n0_), .val (.int n1_), .val (.int n2_), .val (.ref b3), .val (.ref bx_26)] [(.int (n0_ + n1_)), (.int ((((0 : Int32) + n0_) + n1_) + n2_))])) _
    refine XS.iload X33.here hx rfl (hb hby at_117) rfl ?_
    show Steps p.tables e below (T33.setTop (mkF m 119 #[.val (.int pp1), .val (.int pp2), .val (.int pp3), .val (.int n0_), .val (.int n1_), .val (.int n2_), .val (.ref b3), .val (.ref bx_26)] [(.int n2_), (.int (n0_ + n1_)), (.int ((((0 : Int32) + n0_) + n1_) + n2_))])) _
    refine XS.iadd X33.here hx rfl (hb hby at_119) rfl ?_
    show Steps p.tables e below (T33.setTop (mkF m 120 #[.val (.int pp1), .val (.int pp2), .val (.int pp3), .val (.int n0_), .val (.int n1_), .val (.int n2_), .val (.ref b3), .val (.ref bx_26)] [(.int ((n0_ + n1_) + n2_)), (.int ((((0 : Int32) + n0_) + n1_) + n2_))])) _
    refine XS.icmpNo X33.here hx rfl (hb hby at_120) rfl (teq hc120).2 ?_
    show Steps p.tables e below (T33.setTop (mkF m 123 #[.val (.int pp1), .val (.int pp2), .val (.int pp3), .val (.int n0_), .val (.int n1_), .val (.int n2_), .val (.ref b3), .val (.ref bx_26)] [])) _
    refine XS.iconst X33.here hx rfl (hb hby at_123) ?_
    show Steps p.tables e below (T33.setTop (mkF m 124 #[.val (.int pp1), .val (.int pp2), .val (.int pp3), .val (.int n0_), .val (.int n1_), .val (.int n2_), .val (.ref b3), .val (.ref bx_26)] [(.int (1 : Int32))])) _
    refine XS.goto X33.here hx rfl (pc0 := 124) (pc' := 128) rfl (hb hby at_124) (by decide) (by decide) ?_
    show Steps p.tables e below (T33.setTop (mkF m 128 #[.val (.int pp1), .val (.int pp2), .val (.int pp3), .val (.int n0_), .val (.int n1_), .val (.int n2_), .val (.ref b3), .val (.ref bx_26)] [(.int (1 : Int32))])) _
    exact retN X33 hx (t := .boolean) Bd.returns (by simp) (hb hby at_128) hr
  · show Q0 Z pp1 pp2 pp3 h0 n0 _ T33.heap _
    rw [e33]
    exact ⟨rfl, N33⟩
set_option maxRecDepth 65536 in
set_option maxHeartbeats 40000000 in
theorem comes_1 {Post : Tables → Env → Array Value → State → Outcome → State → Prop} (hpost : ∀ tb e args s v u, (limb_1_1.after args s (.returned v) u = true ∧ limb_1_2.after args s (.returned v) u = true ∧ True) → FrameEnd s (.returned v) u (Jvm.fieldLocs frame_1_writes args s ++ Jvm.arrayLocs frame_1_arrays args s ++ Jvm.staticLocs frame_1_statics s) 24 192 → Post tb e args s (.returned v) u) :
    ArmFor flags0 classFile x code maxLocals ret World_1 tables_1 room_1 Calls_1 rest_1 Pre_1 Post := by
  intro l hfl _ _ p e ha hc hk s m args below hf hA hF happ hP
  obtain ⟨hcalls, hrest, hpre⟩ := hP
  obtain ⟨-, -, -, hnamed, -, -, -, hat⟩ := (Spec.applies_iff hf).mp happ
  obtain ⟨hg, hn⟩ := and_e (Cond.before_iff.mp (show (Jvm.Cond.and given_1 narrow_1).before args s = true from hpre))
  obtain ⟨g1, g2⟩ := and_e hg
  obtain ⟨g3, g4⟩ := and_e g2
  obtain ⟨g5, g6⟩ := and_e g4
  obtain ⟨w0, w1, w2, rfl⟩ : ∃ w0 w1 w2 : Value, args = #[w0, w1, w2] := by
    have hs : args.size = 3 := by simpa [Cond.value, given_1] using g1
    obtain ⟨L⟩ := args
    match L, hs with
    | [w0, w1, w2], _ => exact ⟨w0, w1, w2, rfl⟩
  have hw := fun d (hd : d ∈ tables_1) => atoms_spec (ws := Jvm.Cond.code x code maxLocals ret :: tables_1) hat d (List.mem_cons_of_mem _ hd)
  have hfit : Fit s := fun {y c} hc i hi => by
    obtain ⟨ha, rfl⟩ := Array.getElem?_eq_some_iff.mp hc
    have q := List.all_eq_true.mp ((Array.all_eq_true_iff_forall_mem.mp hF) _ (Array.getElem_mem ha)) i (List.mem_range.mpr hi)
    simpa [Array.getElem?_eq_getElem hi] using q
  obtain ⟨i0, ei0⟩ := is_v g3
  obtain rfl : w0 = (.int i0) := Option.some.inj ei0
  obtain ⟨i1, ei1⟩ := is_v g5
  obtain rfl : w1 = (.int i1) := Option.some.inj ei1
  obtain ⟨i2, ei2⟩ := is_v g6
  obtain rfl : w2 = (.int i2) := Option.some.inj ei2
  obtain ⟨n, o, h1, h2, h3, _, L, rfl, ⟨rfl, N⟩, hq⟩ := rm0 l s _ hw tables_1 i0 i1 i2 s.heap s.heap.size (Nat.le_refl _)  p e ha hc hk s m _ below hf ((Spec.applies_iff_loose hf).mp happ).1 ⟨rfl, State.Warmed39.refl s, rfl⟩ trivial
  refine ⟨n, _, h1, h2, h3, hpost _ _ _ _ _ _ ⟨Cond.after_iff.mpr rfl, Cond.after_iff.mpr (eq_i res_at (Term.int_eval (1)) rfl), trivial⟩ ⟨hq.1, hq.2.1, (hq.2.2.sift fun y hy => Or.inr (N y hy)).mono (by decide) (by decide)⟩⟩
theorem main_1_1 : Claimed_1_1 := comes_1 fun _ _ _ _ _ _ h hF => ⟨h.1, hF⟩
theorem main_1_2 : Claimed_1_2 := comes_1 fun _ _ _ _ _ _ h hF => ⟨h.2.1, hF⟩
end Jvm.Pilot.@@N@@
namespace Jvm.Pilot.@@N@@
open Jvm Jvm.ClassFile Sem Op Lib Jvm.Free Jvm.Stand Jvm.Pilot.@@N@@.Jvm.D
/-! MADE BY PROGRAM (witnessworld.py) out of the Statement's table words and the real class files: 15 classes; the members and pool entries that the words name. The judged class is class 1, her method 1. -/
namespace start1
open Jvm.ClassFile
def u (s : String) : CpInfo := .utf8 (stringToUtf16 s)
/-- a pool by its gaps: so many unusable entries, then the entry; so many at the end -/
def gap : Nat → List CpInfo → List CpInfo
  | 0, r => r
  | n + 1, r => .unusable :: gap n r
def poolList (es : List (Nat × CpInfo)) (last : Nat) : List CpInfo := es.foldr (fun e r => gap e.1 (e.2 :: r)) (gap last [])
def pool (es : List (Nat × CpInfo)) (last : Nat) : Array CpInfo := ⟨poolList es last⟩
def fileOf (pool : Array CpInfo) (this : Nat) (attrs : Array Attribute := #[]) (ms : Array MethodInfo := #[]) (fl : Nat := 33) (sup : Nat := 0) (ifs : Array Nat := #[]) (fds : Array FieldInfo := #[]) : ClassFile where
  minorVersion := 0
  majorVersion := 65
  constantPool := pool
  accessFlags := fl
  thisClass := this
  superClass := sup
  interfaces := ifs
  fields := fds
  methods := ms
  attributes := attrs
def plain (name : String) (sup : Option ClassId) : Class where
  name := name
  kind := .ordinary
  loader := none
  accessFlags := 33
  super := sup
  interfaces := #[]
  cf := none
  fields := #[]
  methods := #[]
  instanceTypes := #[]
  staticTypes := #[]
  resolved := #[]
  callSites := []
  init := .initialized
  statics := none
  mirror := none

def pool0 : Array CpInfo := pool [(5, u "<init>"), (0, u "()V"), (1, .class_ 10), (1, u "java/lang/Object")] 113

def k0c0 : Code := { maxStack := 0, maxLocals := 1, code := object_method_1_code, exceptionTable := #[], attributes := #[] }
def k0m0 : Method := { name := "<init>", desc := "()V", sig := { parameters := [], returnType := none }, accessFlags := 1, code := some k0c0 }
/-- java/lang/Object -/
def k0 : Class := { plain "java/lang/Object" none with
  accessFlags := 33
  interfaces := #[]
  cf := some (fileOf pool0 8 #[] #[{ accessFlags := 1, nameIndex := 5, descriptorIndex := 6, attributes := #[] }] 33 0 #[] #[])
  fields := #[]
  methods := #[k0m0]
  instanceTypes := #[]
  staticTypes := #[]
  resolved := Array.replicate 124 none
  statics := none }

def pool1 : Array CpInfo := pool [(2, .class_ 4), (1, u "java/lang/Object"), (0, u "<init>"), (0, u "()V"), (0, .class_ 8), (0, u "com/example/thesaurus_rerank/thesaurusrerank/space/SparseDistances$Builder"), (0, .methodref 7 10), (0, .nameAndType 5 11), (0, u "(I)V"), (0, .methodref 13 14), (0, .class_ 15), (0, .nameAndType 16 17), (0, u "com/example/thesaurus_rerank/thesaurusrerank/space/BuilderEndRowPinLaw"), (0, u "fill"), (0, u "(Lcom/example/thesaurus_rerank/thesaurusrerank/space/SparseDistances$Builder;I)V"), (0, .methodref 7 19), (0, .nameAndType 20 6), (0, u "endRow"), (0, .methodref 7 22), (0, .nameAndType 23 24), (0, u "build"), (0, u "()Lcom/example/thesaurus_rerank/thesaurusrerank/space/SparseDistances;"), (0, .methodref 26 27), (0, .class_ 28), (0, .nameAndType 29 30), (0, u "com/example/thesaurus_rerank/thesaurusrerank/space/SparseDistances"), (0, u "size"), (0, u "()I"), (0, .methodref 26 32), (0, .nameAndType 33 34), (0, u "rowStart"), (0, u "(I)I"), (0, .methodref 26 36), (0, .nameAndType 37 34), (0, u "rowEnd"), (0, .double 4598175219545276416), (1, .methodref 7 41), (0, .nameAndType 42 43), (0, u "add"), (0, u "(ID)V"), (0, .double 4602678819172646912), (1, .double 4604930618986332160), (3, u "law"), (0, u "(III)Z")] 5

def k1m0 : Method := { name := "<init>", desc := "()V", sig := { parameters := [], returnType := none }, accessFlags := 1, code := none }
def k1c1 : Code := { maxStack := 3, maxLocals := 8, code := code, exceptionTable := #[], attributes := #[] }
def k1m1 : Method := { name := "law", desc := "(III)Z", sig := { parameters := [.int, .int, .int], returnType := some .boolean }, accessFlags := 9, code := some k1c1 }
def k1c2 : Code := { maxStack := 4, maxLocals := 2, code := method_3_code, exceptionTable := #[], attributes := #[] }
def k1m2 : Method := { name := "fill", desc := "(Lcom/example/thesaurus_rerank/thesaurusrerank/space/SparseDistances$Builder;I)V", sig := { parameters := [(.object "com/example/thesaurus_rerank/thesaurusrerank/space/SparseDistances$Builder"), .int], returnType := none }, accessFlags := 10, code := some k1c2 }
/-- com/example/thesaurus_rerank/thesaurusrerank/space/BuilderEndRowPinLaw -/
def k1 : Class := { plain "com/example/thesaurus_rerank/thesaurusrerank/space/BuilderEndRowPinLaw" (some 0) with
  accessFlags := 49
  interfaces := #[]
  cf := some (fileOf pool1 13 #[] #[{ accessFlags := 1, nameIndex := 5, descriptorIndex := 6, attributes := #[] }, { accessFlags := 9, nameIndex := 50, descriptorIndex := 51, attributes := #[] }, { accessFlags := 10, nameIndex := 16, descriptorIndex := 17, attributes := #[] }] 49 2 #[] #[])
  fields := #[]
  methods := #[k1m0, k1m1, k1m2]
  instanceTypes := #[]
  staticTypes := #[]
  resolved := Array.replicate 57 none
  statics := none }

def pool2 : Array CpInfo := pool [(1, .methodref 2 3), (0, .class_ 4), (0, .nameAndType 5 6), (0, u "java/lang/Object"), (0, u "<init>"), (0, u "()V"), (0, .fieldref 8 9), (0, .class_ 10), (0, .nameAndType 11 12), (0, u "com/example/thesaurus_rerank/thesaurusrerank/space/SparseDistances$Builder"), (0, u "columns"), (0, u "[I"), (0, .fieldref 8 14), (0, .nameAndType 15 16), (0, u "distances"), (0, u "[D"), (0, .fieldref 8 18), (0, .nameAndType 19 12), (0, u "rowStarts"), (0, .fieldref 8 21), (0, .nameAndType 22 23), (0, u "entries"), (0, u "I"), (0, .methodref 25 26), (0, .class_ 27), (0, .nameAndType 28 29), (0, u "java/util/Arrays"), (0, u "copyOf"), (0, u "([II)[I"), (0, .methodref 25 31), (0, .nameAndType 28 32), (0, u "([DI)[D"), (0, .fieldref 8 34), (0, .nameAndType 35 23), (0, u "rowsEnded"), (9, .class_ 46), (0, u "com/example/thesaurus_rerank/thesaurusrerank/space/SparseDistances"), (0, .methodref 45 48), (0, .nameAndType 5 49), (0, u "([I[I[D)V"), (0, u "(I)V"), (2, u "add"), (0, u "(ID)V"), (1, u "endRow"), (0, u "build"), (0, u "()Lcom/example/thesaurus_rerank/thesaurusrerank/space/SparseDistances;")] 19

def k2c0 : Code := { maxStack := 3, maxLocals := 2, code := prog_24_method_1_code, exceptionTable := #[], attributes := #[] }
def k2m0 : Method := { name := "<init>", desc := "(I)V", sig := { parameters := [.int], returnType := none }, accessFlags := 0, code := some k2c0 }
def k2c1 : Code := { maxStack := 4, maxLocals := 4, code := prog_24_method_2_code, exceptionTable := #[], attributes := #[] }
def k2m1 : Method := { name := "add", desc := "(ID)V", sig := { parameters := [.int, .double], returnType := none }, accessFlags := 0, code := some k2c1 }
def k2c2 : Code := { maxStack := 3, maxLocals := 1, code := prog_24_method_3_code, exceptionTable := #[], attributes := #[] }
def k2m2 : Method := { name := "endRow", desc := "()V", sig := { parameters := [], returnType := none }, accessFlags := 0, code := some k2c2 }
def k2c3 : Code := { maxStack := 6, maxLocals := 1, code := prog_24_method_4_code, exceptionTable := #[], attributes := #[] }
def k2m3 : Method := { name := "build", desc := "()Lcom/example/thesaurus_rerank/thesaurusrerank/space/SparseDistances;", sig := { parameters := [], returnType := some (.object "com/example/thesaurus_rerank/thesaurusrerank/space/SparseDistances") }, accessFlags := 0, code := some k2c3 }
/-- com/example/thesaurus_rerank/thesaurusrerank/space/SparseDistances$Builder -/
def k2 : Class := { plain "com/example/thesaurus_rerank/thesaurusrerank/space/SparseDistances$Builder" (some 0) with
  accessFlags := 48
  interfaces := #[]
  cf := some (fileOf pool2 8 #[.nestHost 45] #[{ accessFlags := 0, nameIndex := 5, descriptorIndex := 50, attributes := #[] }, { accessFlags := 0, nameIndex := 53, descriptorIndex := 54, attributes := #[] }, { accessFlags := 0, nameIndex := 56, descriptorIndex := 6, attributes := #[] }, { accessFlags := 0, nameIndex := 57, descriptorIndex := 58, attributes := #[] }] 48 2 #[] #[{ accessFlags := 18, nameIndex := 19, descriptorIndex := 12, attributes := #[] }, { accessFlags := 2, nameIndex := 35, descriptorIndex := 23, attributes := #[] }, { accessFlags := 2, nameIndex := 11, descriptorIndex := 12, attributes := #[] }, { accessFlags := 2, nameIndex := 15, descriptorIndex := 16, attributes := #[] }, { accessFlags := 2, nameIndex := 22, descriptorIndex := 23, attributes := #[] }])
  fields := #[{ name := "rowStarts", type := (.array .int), accessFlags := 18, slot := 0, constantValue := 0 }, { name := "rowsEnded", type := .int, accessFlags := 2, slot := 1, constantValue := 0 }, { name := "columns", type := (.array .int), accessFlags := 2, slot := 2, constantValue := 0 }, { name := "distances", type := (.array .double), accessFlags := 2, slot := 3, constantValue := 0 }, { name := "entries", type := .int, accessFlags := 2, slot := 4, constantValue := 0 }]
  methods := #[k2m0, k2m1, k2m2, k2m3]
  instanceTypes := #[(.array .int), .int, (.array .int), (.array .double), .int]
  staticTypes := #[]
  resolved := Array.replicate 78 none
  statics := none }

def pool3 : Array CpInfo := pool [(1, .methodref 2 3), (0, .class_ 4), (0, .nameAndType 5 6), (0, u "java/lang/Object"), (0, u "<init>"), (0, u "()V"), (0, .fieldref 8 9), (0, .class_ 10), (0, .nameAndType 11 12), (0, u "com/example/thesaurus_rerank/thesaurusrerank/space/SparseDistances"), (0, u "rowStarts"), (0, u "[I"), (0, .fieldref 8 14), (0, .nameAndType 15 12), (0, u "columns"), (0, .fieldref 8 17), (0, .nameAndType 18 19), (0, u "distances"), (0, u "[D"), (0, u "([I[I[D)V"), (2, u "size"), (0, u "()I"), (0, u "rowStart"), (0, u "(I)I"), (0, u "rowEnd"), (6, .class_ 35), (0, u "com/example/thesaurus_rerank/thesaurusrerank/space/SparseDistances$Builder")] 2

def k3c0 : Code := { maxStack := 2, maxLocals := 4, code := prog_23_method_1_code, exceptionTable := #[], attributes := #[] }
def k3m0 : Method := { name := "<init>", desc := "([I[I[D)V", sig := { parameters := [(.array .int), (.array .int), (.array .double)], returnType := none }, accessFlags := 2, code := some k3c0 }
def k3c1 : Code := { maxStack := 2, maxLocals := 1, code := prog_23_method_2_code, exceptionTable := #[], attributes := #[] }
def k3m1 : Method := { name := "size", desc := "()I", sig := { parameters := [], returnType := some .int }, accessFlags := 0, code := some k3c1 }
def k3c2 : Code := { maxStack := 2, maxLocals := 2, code := prog_23_method_3_code, exceptionTable := #[], attributes := #[] }
def k3m2 : Method := { name := "rowStart", desc := "(I)I", sig := { parameters := [.int], returnType := some .int }, accessFlags := 0, code := some k3c2 }
def k3c3 : Code := { maxStack := 3, maxLocals := 2, code := prog_23_method_4_code, exceptionTable := #[], attributes := #[] }
def k3m3 : Method := { name := "rowEnd", desc := "(I)I", sig := { parameters := [.int], returnType := some .int }, accessFlags := 0, code := some k3c3 }
/-- com/example/thesaurus_rerank/thesaurusrerank/space/SparseDistances -/
def k3 : Class := { plain "com/example/thesaurus_rerank/thesaurusrerank/space/SparseDistances" (some 0) with
  accessFlags := 48
  interfaces := #[]
  cf := some (fileOf pool3 8 #[.nestMembers #[34]] #[{ accessFlags := 2, nameIndex := 5, descriptorIndex := 20, attributes := #[] }, { accessFlags := 0, nameIndex := 23, descriptorIndex := 24, attributes := #[] }, { accessFlags := 0, nameIndex := 25, descriptorIndex := 26, attributes := #[] }, { accessFlags := 0, nameIndex := 27, descriptorIndex := 26, attributes := #[] }] 48 2 #[] #[{ accessFlags := 18, nameIndex := 11, descriptorIndex := 12, attributes := #[] }, { accessFlags := 18, nameIndex := 15, descriptorIndex := 12, attributes := #[] }, { accessFlags := 18, nameIndex := 18, descriptorIndex := 19, attributes := #[] }])
  fields := #[{ name := "rowStarts", type := (.array .int), accessFlags := 18, slot := 0, constantValue := 0 }, { name := "columns", type := (.array .int), accessFlags := 18, slot := 1, constantValue := 0 }, { name := "distances", type := (.array .double), accessFlags := 18, slot := 2, constantValue := 0 }]
  methods := #[k3m0, k3m1, k3m2, k3m3]
  instanceTypes := #[(.array .int), (.array .int), (.array .double)]
  staticTypes := #[]
  resolved := Array.replicate 38 none
  statics := none }

def pool4 : Array CpInfo := pool [(2, .class_ 4), (1, u "java/lang/Object"), (0, u "<init>"), (0, u "()V"), (7, .class_ 16), (1, u "java/util/Arrays"), (57, .class_ 76), (1, u "java/util/Arrays$NaturalOrder"), (36, .class_ 115), (1, u "java/util/Arrays$LegacyMergeSort"), (1, u "Z"), (32, .methodref 151 152), (0, .class_ 153), (0, .nameAndType 154 155), (0, u "java/lang/System"), (0, u "arraycopy"), (0, u "(Ljava/lang/Object;ILjava/lang/Object;II)V"), (146, u "copyOf"), (1, .methodref 305 306), (0, .class_ 307), (0, .nameAndType 308 309), (0, u "java/lang/Math"), (0, u "min"), (0, u "(II)I"), (65, .class_ 376), (0, u "java/util/Arrays$ArrayList"), (68, u "$assertionsDisabled"), (269, u "MIN_ARRAY_SORT_GRAN"), (0, u "I"), (2, u "INSERTIONSORT_THRESHOLD"), (151, u "([II)[I"), (3, u "([DI)[D"), (99, .class_ 976), (0, u "java/util/Arrays$ArrayItr")] 52

def k4m0 : Method := { name := "<init>", desc := "()V", sig := { parameters := [], returnType := none }, accessFlags := 2, code := none }
def k4c1 : Code := { maxStack := 6, maxLocals := 3, code := jdk_65_method_123_code, exceptionTable := #[], attributes := #[] }
def k4m1 : Method := { name := "copyOf", desc := "([II)[I", sig := { parameters := [(.array .int), .int], returnType := some (.array .int) }, accessFlags := 9, code := some k4c1 }
def k4c2 : Code := { maxStack := 6, maxLocals := 3, code := jdk_65_method_127_code, exceptionTable := #[], attributes := #[] }
def k4m2 : Method := { name := "copyOf", desc := "([DI)[D", sig := { parameters := [(.array .double), .int], returnType := some (.array .double) }, accessFlags := 9, code := some k4c2 }
/-- java/util/Arrays -/
def k4 : Class := { plain "java/util/Arrays" (some 0) with
  accessFlags := 49
  interfaces := #[]
  cf := some (fileOf pool4 14 #[.nestMembers #[975, 375, 113, 74]] #[{ accessFlags := 2, nameIndex := 5, descriptorIndex := 6, attributes := #[] }, { accessFlags := 9, nameIndex := 302, descriptorIndex := 871, attributes := #[] }, { accessFlags := 9, nameIndex := 302, descriptorIndex := 875, attributes := #[] }] 49 2 #[] #[{ accessFlags := 26, nameIndex := 715, descriptorIndex := 716, attributes := #[] }, { accessFlags := 26, nameIndex := 719, descriptorIndex := 716, attributes := #[] }, { accessFlags := 4120, nameIndex := 445, descriptorIndex := 117, attributes := #[] }])
  fields := #[{ name := "MIN_ARRAY_SORT_GRAN", type := .int, accessFlags := 26, slot := 0, constantValue := 0 }, { name := "INSERTIONSORT_THRESHOLD", type := .int, accessFlags := 26, slot := 1, constantValue := 0 }, { name := "$assertionsDisabled", type := .boolean, accessFlags := 4120, slot := 2, constantValue := 0 }]
  methods := #[k4m0, k4m1, k4m2]
  instanceTypes := #[]
  staticTypes := #[.int, .int, .boolean]
  resolved := Array.replicate 1029 none
  statics := none }

def pool5 : Array CpInfo := pool [(1, .class_ 2), (0, u "java/lang/Math"), (1, .class_ 6), (1, u "java/lang/Object"), (0, u "<init>"), (0, u "()V"), (89, .class_ 100), (1, u "java/lang/Math$RandomNumberGeneratorHolder"), (71, u "negativeZeroFloatBits"), (0, u "J"), (2, u "negativeZeroDoubleBits"), (24, u "min"), (43, u "$assertionsDisabled"), (0, u "Z"), (88, u "(II)I"), (2, u "twoToTheDoubleScaleDown"), (0, u "D"), (4, u "twoToTheDoubleScaleUp"), (9, u "E"), (3, u "PI"), (2, u "TAU"), (2, u "DEGREES_TO_RADIANS"), (0, u "RADIANS_TO_DEGREES")] 94

def k5m0 : Method := { name := "<init>", desc := "()V", sig := { parameters := [], returnType := none }, accessFlags := 2, code := none }
def k5c1 : Code := { maxStack := 2, maxLocals := 2, code := jdk_29_method_69_code, exceptionTable := #[], attributes := #[] }
def k5m1 : Method := { name := "min", desc := "(II)I", sig := { parameters := [.int, .int], returnType := some .int }, accessFlags := 9, code := some k5c1 }
/-- java/lang/Math -/
def k5 : Class := { plain "java/lang/Math" (some 0) with
  accessFlags := 49
  interfaces := #[]
  cf := some (fileOf pool5 1 #[.nestMembers #[98]] #[{ accessFlags := 2, nameIndex := 7, descriptorIndex := 8, attributes := #[] }, { accessFlags := 9, nameIndex := 201, descriptorIndex := 335, attributes := #[] }] 49 4 #[] #[{ accessFlags := 25, nameIndex := 354, descriptorIndex := 339, attributes := #[] }, { accessFlags := 25, nameIndex := 358, descriptorIndex := 339, attributes := #[] }, { accessFlags := 25, nameIndex := 361, descriptorIndex := 339, attributes := #[] }, { accessFlags := 26, nameIndex := 364, descriptorIndex := 339, attributes := #[] }, { accessFlags := 26, nameIndex := 365, descriptorIndex := 339, attributes := #[] }, { accessFlags := 26, nameIndex := 172, descriptorIndex := 173, attributes := #[] }, { accessFlags := 26, nameIndex := 176, descriptorIndex := 173, attributes := #[] }, { accessFlags := 8, nameIndex := 344, descriptorIndex := 339, attributes := #[] }, { accessFlags := 8, nameIndex := 338, descriptorIndex := 339, attributes := #[] }, { accessFlags := 4120, nameIndex := 245, descriptorIndex := 246, attributes := #[] }])
  fields := #[{ name := "E", type := .double, accessFlags := 25, slot := 0, constantValue := 0 }, { name := "PI", type := .double, accessFlags := 25, slot := 1, constantValue := 0 }, { name := "TAU", type := .double, accessFlags := 25, slot := 2, constantValue := 0 }, { name := "DEGREES_TO_RADIANS", type := .double, accessFlags := 26, slot := 3, constantValue := 0 }, { name := "RADIANS_TO_DEGREES", type := .double, accessFlags := 26, slot := 4, constantValue := 0 }, { name := "negativeZeroFloatBits", type := .long, accessFlags := 26, slot := 5, constantValue := 0 }, { name := "negativeZeroDoubleBits", type := .long, accessFlags := 26, slot := 6, constantValue := 0 }, { name := "twoToTheDoubleScaleUp", type := .double, accessFlags := 8, slot := 7, constantValue := 0 }, { name := "twoToTheDoubleScaleDown", type := .double, accessFlags := 8, slot := 8, constantValue := 0 }, { name := "$assertionsDisabled", type := .boolean, accessFlags := 4120, slot := 9, constantValue := 0 }]
  methods := #[k5m0, k5m1]
  instanceTypes := #[]
  staticTypes := #[.double, .double, .double, .double, .double, .long, .long, .double, .double, .boolean]
  resolved := Array.replicate 460 none
  statics := none }

def pool6 : Array CpInfo := pool [(2, .class_ 4), (1, u "java/lang/Object"), (0, u "<init>"), (0, u "()V"), (1, .class_ 10), (1, u "java/lang/System"), (0, u "allowSecurityManager"), (0, u "I"), (16, u "cons"), (0, u "Ljava/io/Console;"), (77, .class_ 110), (1, u "java/lang/System$CallersHolder"), (43, u "initialErrStream"), (0, u "Ljava/io/PrintStream;"), (19, u "security"), (0, u "Ljava/lang/SecurityManager;"), (31, .class_ 209), (0, u "java/lang/System$1"), (7, u "props"), (0, u "Ljava/util/Properties;"), (2, u "lineSeparator"), (0, u "Ljava/lang/String;"), (96, .class_ 321), (1, u "java/lang/System$LoggerFinder"), (5, .class_ 328), (0, u "java/lang/System$Logger"), (67, u "err"), (2, u "out"), (91, u "notSupportedJnuEncoding"), (15, u "in"), (17, u "initialIn"), (0, u "Ljava/io/InputStream;"), (35, u "bootLayer"), (0, u "Ljava/lang/ModuleLayer;"), (99, .class_ 664), (0, u "java/lang/System$2"), (9, u "NEVER"), (2, u "MAYBE"), (49, u "arraycopy"), (0, u "(Ljava/lang/Object;ILjava/lang/Object;II)V"), (72, .class_ 802), (0, u "java/lang/System$Logger$Level")] 31

def k6m0 : Method := { name := "<init>", desc := "()V", sig := { parameters := [], returnType := none }, accessFlags := 2, code := none }
def k6m1 : Method := { name := "arraycopy", desc := "(Ljava/lang/Object;ILjava/lang/Object;II)V", sig := { parameters := [(.object "java/lang/Object"), .int, (.object "java/lang/Object"), .int, .int], returnType := none }, accessFlags := 265, code := none }
/-- java/lang/System -/
def k6 : Class := { plain "java/lang/System" (some 0) with
  accessFlags := 49
  interfaces := #[]
  cf := some (fileOf pool6 8 #[.nestMembers #[319, 327, 801, 108, 663, 208]] #[{ accessFlags := 2, nameIndex := 5, descriptorIndex := 6, attributes := #[] }, { accessFlags := 265, nameIndex := 727, descriptorIndex := 728, attributes := #[] }] 49 2 #[] #[{ accessFlags := 25, nameIndex := 507, descriptorIndex := 526, attributes := #[] }, { accessFlags := 25, nameIndex := 399, descriptorIndex := 155, attributes := #[] }, { accessFlags := 25, nameIndex := 396, descriptorIndex := 155, attributes := #[] }, { accessFlags := 10, nameIndex := 525, descriptorIndex := 526, attributes := #[] }, { accessFlags := 26, nameIndex := 674, descriptorIndex := 12, attributes := #[] }, { accessFlags := 26, nameIndex := 677, descriptorIndex := 12, attributes := #[] }, { accessFlags := 10, nameIndex := 11, descriptorIndex := 12, attributes := #[] }, { accessFlags := 74, nameIndex := 175, descriptorIndex := 176, attributes := #[] }, { accessFlags := 10, nameIndex := 491, descriptorIndex := 222, attributes := #[] }, { accessFlags := 74, nameIndex := 29, descriptorIndex := 30, attributes := #[] }, { accessFlags := 74, nameIndex := 154, descriptorIndex := 155, attributes := #[] }, { accessFlags := 10, nameIndex := 217, descriptorIndex := 218, attributes := #[] }, { accessFlags := 10, nameIndex := 221, descriptorIndex := 222, attributes := #[] }, { accessFlags := 8, nameIndex := 562, descriptorIndex := 563, attributes := #[] }])
  fields := #[{ name := "in", type := (.object "java/io/InputStream"), accessFlags := 25, slot := 0, constantValue := 0 }, { name := "out", type := (.object "java/io/PrintStream"), accessFlags := 25, slot := 1, constantValue := 0 }, { name := "err", type := (.object "java/io/PrintStream"), accessFlags := 25, slot := 2, constantValue := 0 }, { name := "initialIn", type := (.object "java/io/InputStream"), accessFlags := 10, slot := 3, constantValue := 0 }, { name := "NEVER", type := .int, accessFlags := 26, slot := 4, constantValue := 0 }, { name := "MAYBE", type := .int, accessFlags := 26, slot := 5, constantValue := 0 }, { name := "allowSecurityManager", type := .int, accessFlags := 10, slot := 6, constantValue := 0 }, { name := "security", type := (.object "java/lang/SecurityManager"), accessFlags := 74, slot := 7, constantValue := 0 }, { name := "notSupportedJnuEncoding", type := (.object "java/lang/String"), accessFlags := 10, slot := 8, constantValue := 0 }, { name := "cons", type := (.object "java/io/Console"), accessFlags := 74, slot := 9, constantValue := 0 }, { name := "initialErrStream", type := (.object "java/io/PrintStream"), accessFlags := 74, slot := 10, constantValue := 0 }, { name := "props", type := (.object "java/util/Properties"), accessFlags := 10, slot := 11, constantValue := 0 }, { name := "lineSeparator", type := (.object "java/lang/String"), accessFlags := 10, slot := 12, constantValue := 0 }, { name := "bootLayer", type := (.object "java/lang/ModuleLayer"), accessFlags := 8, slot := 13, constantValue := 0 }]
  methods := #[k6m0, k6m1]
  instanceTypes := #[]
  staticTypes := #[(.object "java/io/InputStream"), (.object "java/io/PrintStream"), (.object "java/io/PrintStream"), (.object "java/io/InputStream"), .int, .int, .int, (.object "java/lang/SecurityManager"), (.object "java/lang/String"), (.object "java/io/Console"), (.object "java/io/PrintStream"), (.object "java/util/Properties"), (.object "java/lang/String"), (.object "java/lang/ModuleLayer")]
  resolved := Array.replicate 834 none
  statics := none }

def pool7 : Array CpInfo := pool [(1, u "java/lang/Cloneable"), (0, .class_ 1), (0, u "java/lang/Object"), (0, .class_ 3)] 3

/-- java/lang/Cloneable -/
def k7 : Class := { plain "java/lang/Cloneable" (some 0) with
  accessFlags := 1537
  interfaces := #[]
  cf := some (fileOf pool7 2 #[] #[] 1537 4 #[] #[])
  fields := #[]
  methods := #[]
  instanceTypes := #[]
  staticTypes := #[]
  resolved := Array.replicate 8 none
  statics := none }

def pool8 : Array CpInfo := pool [(1, u "java/io/Serializable"), (0, .class_ 1), (0, u "java/lang/Object"), (0, .class_ 3)] 3

/-- java/io/Serializable -/
def k8 : Class := { plain "java/io/Serializable" (some 0) with
  accessFlags := 1537
  interfaces := #[]
  cf := some (fileOf pool8 2 #[] #[] 1537 4 #[] #[])
  fields := #[]
  methods := #[]
  instanceTypes := #[]
  staticTypes := #[]
  resolved := Array.replicate 8 none
  statics := none }

/-- the primitive byte -/
def k9 : Class := { plain "byte" none with kind := .primitive 'B', accessFlags := 0x411 }
/-- [B -/
def k10 : Class := { plain "[B" (some 0) with kind := .array 9 .byte, interfaces := #[7, 8], accessFlags := 1041 }

/-- the primitive double -/
def k11 : Class := { plain "double" none with kind := .primitive 'D', accessFlags := 0x411 }
/-- [D -/
def k12 : Class := { plain "[D" (some 0) with kind := .array 11 .double, interfaces := #[7, 8], accessFlags := 1041 }

/-- the primitive int -/
def k13 : Class := { plain "int" none with kind := .primitive 'I', accessFlags := 0x411 }
/-- [I -/
def k14 : Class := { plain "[I" (some 0) with kind := .array 13 .int, interfaces := #[7, 8], accessFlags := 1041 }

def heap : Heap := #[]
def classes : Array Class := #[k0, k1, k2, k3, k4, k5, k6, k7, k8, k9, k10, k11, k12, k13, k14]
def interned : List (Array UInt16 × Addr) := []
def slotsUsed : Nat := 0
def theMethod : MethodId := ⟨1, 1⟩
def args0 : Array Value := #[.int 1, .int 2, .int 3]
def aboutOver (below : List Frame) : State where
  vm := { classes := classes, interned := interned.toArray }
  heap := heap
  slotsUsed := slotsUsed
  threads := #[{ frames := .invoking theMethod args0 :: below }]
def below0 : List Frame := [.native { method := ⟨0, 0⟩, args := #[] }]
def about1 : State := aboutOver below0
def p0 : Program := .bare "" "" ""
def e0 : Env := launch0.env 0 0 0
theorem w_frames : about1.frames = Frame.invoking theMethod args0 :: below0 := rfl
set_option maxRecDepth 65536 in
theorem w_args : argsFit about1.vm theMethod args0 = true := by decide +kernel
set_option maxRecDepth 65536 in
theorem w_heap : heapFits about1 = true := by decide +kernel
set_option maxRecDepth 65536 in
theorem w_runnable : about1.curStatus? = some .runnable := by decide +kernel
set_option maxRecDepth 65536 in
theorem w_alone : about1.alone = true := by decide +kernel
set_option maxRecDepth 65536 in
theorem w_named : about1.methodNamed? x = some theMethod := by decide +kernel
set_option maxRecDepth 65536 in
theorem w_hears : about1.hears theMethod below0 = true := by decide +kernel
set_option maxRecDepth 65536 in
theorem w_ripe : about1.ripe theMethod args0 below0 = true := by decide +kernel
theorem w_running : about1.status = .running := rfl
set_option maxRecDepth 65536 in
theorem w_room : about1.hasRoom e0.platform room_1 = true :=
  launch0.hasRoom_least _ room_1 (by decide +kernel) (by decide +kernel) (by decide +kernel) (by decide +kernel) (by decide +kernel) (by decide +kernel)
theorem allAtoms_all (ts : List Jvm.Cond) (a : Array Jvm.Value) (st : Jvm.State) : (allAtoms ts).before a st = ts.all (fun c => c.before a st) := by
  induction ts with
  | nil => rfl
  | cons c t ih =>
    show (Jvm.Cond.and c (allAtoms t)).before a st = _
    rw [Jvm.Cond.before_and, ih, List.all_cons]
def words1 : List Jvm.Cond := Jvm.Cond.code x code maxLocals ret :: tables_1
/-- a 'code' word, met by the world's own term for the bytes: nothing is compared byte by byte -/
theorem code_word {y : MethodName} {bytes : ByteArray} {mx : Nat} {rt : Option FieldType} {a : Array Value} {s : State} {m : MethodId} {meth : Method} {c : Code} (h1 : s.methodNamed? y = some m) (h2 : s.vm.method? m = some meth) (h3 : meth.code = some c) (h4 : c.code = bytes)
    (h5 : (c.maxLocals == mx && c.exceptionTable.isEmpty && decide (c.maxStack ≤ mostOperands) && decide (meth.sig.returnType = rt) && !meth.locks && decide (parseMethodDescriptor y.desc = some meth.sig)) = true) : (Jvm.Cond.code y bytes mx rt).before a s = true := by
  simp only [Bool.and_eq_true, beq_iff_eq, Bool.not_eq_true', decide_eq_true_eq] at h5
  obtain ⟨⟨⟨⟨⟨g1, g2⟩, g3⟩, g4⟩, g5⟩, g6⟩ := h5
  simp [Cond.before, Cond.holds, Cond.value, h1, h2, h3, h4, g1, g2, g3, g4, g5, g6]
def isCode : Jvm.Cond → Bool
  | .code _ _ _ _ => true
  | _ => false
theorem all_split {L : List Jvm.Cond} {P : Jvm.Cond → Bool} (h1 : L.all (fun c => isCode c || P c) = true) (h2 : ∀ c ∈ L.filter isCode, P c = true) : L.all P = true := by
  refine List.all_eq_true.mpr fun c hc => ?_
  have h := List.all_eq_true.mp h1 c hc
  rcases Bool.eq_false_or_eq_true (isCode c) with hi | hi
  · exact h2 c (List.mem_filter.mpr ⟨hc, hi⟩)
  · simpa [hi] using h
set_option maxRecDepth 65536 in
theorem w_c0 : (Jvm.Cond.code x code maxLocals ret).before args0 about1 = true := code_word (m := ⟨1, 1⟩) (meth := k1m1) (c := k1c1) (by decide +kernel) rfl rfl rfl (by decide +kernel)
set_option maxRecDepth 65536 in
theorem w_c1 : (Jvm.Cond.code ({ cls := "com/example/thesaurus_rerank/thesaurusrerank/space/SparseDistances$Builder", name := "<init>", desc := "(I)V" } : Jvm.MethodName) prog_24_method_1_code (2 : Nat) (Option.none : Option Jvm.ClassFile.FieldType)).before args0 about1 = true := code_word (m := ⟨2, 0⟩) (meth := k2m0) (c := k2c0) (by decide +kernel) rfl rfl rfl (by decide +kernel)
set_option maxRecDepth 65536 in
theorem w_c2 : (Jvm.Cond.code ({ cls := "java/lang/Object", name := "<init>", desc := "()V" } : Jvm.MethodName) object_method_1_code (1 : Nat) (Option.none : Option Jvm.ClassFile.FieldType)).before args0 about1 = true := code_word (m := ⟨0, 0⟩) (meth := k0m0) (c := k0c0) (by decide +kernel) rfl rfl rfl (by decide +kernel)
set_option maxRecDepth 65536 in
theorem w_c3 : (Jvm.Cond.code ({ cls := "com/example/thesaurus_rerank/thesaurusrerank/space/BuilderEndRowPinLaw", name := "fill", desc := "(Lcom/example/thesaurus_rerank/thesaurusrerank/space/SparseDistances$Builder;I)V" } : Jvm.MethodName) method_3_code (2 : Nat) (Option.none : Option Jvm.ClassFile.FieldType)).before args0 about1 = true := code_word (m := ⟨1, 2⟩) (meth := k1m2) (c := k1c2) (by decide +kernel) rfl rfl rfl (by decide +kernel)
set_option maxRecDepth 65536 in
theorem w_c4 : (Jvm.Cond.code ({ cls := "com/example/thesaurus_rerank/thesaurusrerank/space/SparseDistances$Builder", name := "endRow", desc := "()V" } : Jvm.MethodName) prog_24_method_3_code (1 : Nat) (Option.none : Option Jvm.ClassFile.FieldType)).before args0 about1 = true := code_word (m := ⟨2, 2⟩) (meth := k2m2) (c := k2c2) (by decide +kernel) rfl rfl rfl (by decide +kernel)
set_option maxRecDepth 65536 in
theorem w_c5 : (Jvm.Cond.code ({ cls := "com/example/thesaurus_rerank/thesaurusrerank/space/SparseDistances$Builder", name := "add", desc := "(ID)V" } : Jvm.MethodName) prog_24_method_2_code (4 : Nat) (Option.none : Option Jvm.ClassFile.FieldType)).before args0 about1 = true := code_word (m := ⟨2, 1⟩) (meth := k2m1) (c := k2c1) (by decide +kernel) rfl rfl rfl (by decide +kernel)
set_option maxRecDepth 65536 in
theorem w_c6 : (Jvm.Cond.code ({ cls := "com/example/thesaurus_rerank/thesaurusrerank/space/SparseDistances$Builder", name := "build", desc := "()Lcom/example/thesaurus_rerank/thesaurusrerank/space/SparseDistances;" } : Jvm.MethodName) prog_24_method_4_code (1 : Nat) (Option.some (Jvm.ClassFile.FieldType.object "com/example/thesaurus_rerank/thesaurusrerank/space/SparseDistances"))).before args0 about1 = true := code_word (m := ⟨2, 3⟩) (meth := k2m3) (c := k2c3) (by decide +kernel) rfl rfl rfl (by decide +kernel)
set_option maxRecDepth 65536 in
theorem w_c7 : (Jvm.Cond.code ({ cls := "java/util/Arrays", name := "copyOf", desc := "([II)[I" } : Jvm.MethodName) jdk_65_method_123_code (3 : Nat) (Option.some (Jvm.ClassFile.FieldType.array Jvm.ClassFile.FieldType.int))).before args0 about1 = true := code_word (m := ⟨4, 1⟩) (meth := k4m1) (c := k4c1) (by decide +kernel) rfl rfl rfl (by decide +kernel)
set_option maxRecDepth 65536 in
theorem w_c8 : (Jvm.Cond.code ({ cls := "java/lang/Math", name := "min", desc := "(II)I" } : Jvm.MethodName) jdk_29_method_69_code (2 : Nat) (Option.some Jvm.ClassFile.FieldType.int)).before args0 about1 = true := code_word (m := ⟨5, 1⟩) (meth := k5m1) (c := k5c1) (by decide +kernel) rfl rfl rfl (by decide +kernel)
set_option maxRecDepth 65536 in
theorem w_c9 : (Jvm.Cond.code ({ cls := "java/util/Arrays", name := "copyOf", desc := "([DI)[D" } : Jvm.MethodName) jdk_65_method_127_code (3 : Nat) (Option.some (Jvm.ClassFile.FieldType.array Jvm.ClassFile.FieldType.double))).before args0 about1 = true := code_word (m := ⟨4, 2⟩) (meth := k4m2) (c := k4c2) (by decide +kernel) rfl rfl rfl (by decide +kernel)
set_option maxRecDepth 65536 in
theorem w_c10 : (Jvm.Cond.code ({ cls := "com/example/thesaurus_rerank/thesaurusrerank/space/SparseDistances", name := "<init>", desc := "([I[I[D)V" } : Jvm.MethodName) prog_23_method_1_code (4 : Nat) (Option.none : Option Jvm.ClassFile.FieldType)).before args0 about1 = true := code_word (m := ⟨3, 0⟩) (meth := k3m0) (c := k3c0) (by decide +kernel) rfl rfl rfl (by decide +kernel)
set_option maxRecDepth 65536 in
theorem w_c11 : (Jvm.Cond.code ({ cls := "com/example/thesaurus_rerank/thesaurusrerank/space/SparseDistances", name := "size", desc := "()I" } : Jvm.MethodName) prog_23_method_2_code (1 : Nat) (Option.some Jvm.ClassFile.FieldType.int)).before args0 about1 = true := code_word (m := ⟨3, 1⟩) (meth := k3m1) (c := k3c1) (by decide +kernel) rfl rfl rfl (by decide +kernel)
set_option maxRecDepth 65536 in
theorem w_c12 : (Jvm.Cond.code ({ cls := "com/example/thesaurus_rerank/thesaurusrerank/space/SparseDistances", name := "rowStart", desc := "(I)I" } : Jvm.MethodName) prog_23_method_3_code (2 : Nat) (Option.some Jvm.ClassFile.FieldType.int)).before args0 about1 = true := code_word (m := ⟨3, 2⟩) (meth := k3m2) (c := k3c2) (by decide +kernel) rfl rfl rfl (by decide +kernel)
set_option maxRecDepth 65536 in
theorem w_c13 : (Jvm.Cond.code ({ cls := "com/example/thesaurus_rerank/thesaurusrerank/space/SparseDistances", name := "rowEnd", desc := "(I)I" } : Jvm.MethodName) prog_23_method_4_code (2 : Nat) (Option.some Jvm.ClassFile.FieldType.int)).before args0 about1 = true := code_word (m := ⟨3, 3⟩) (meth := k3m3) (c := k3c3) (by decide +kernel) rfl rfl rfl (by decide +kernel)
def codes1 : List Jvm.Cond := [Jvm.Cond.code x code maxLocals ret, Jvm.Cond.code ({ cls := "com/example/thesaurus_rerank/thesaurusrerank/space/SparseDistances$Builder", name := "<init>", desc := "(I)V" } : Jvm.MethodName) prog_24_method_1_code (2 : Nat) (Option.none : Option Jvm.ClassFile.FieldType), Jvm.Cond.code ({ cls := "java/lang/Object", name := "<init>", desc := "()V" } : Jvm.MethodName) object_method_1_code (1 : Nat) (Option.none : Option Jvm.ClassFile.FieldType), Jvm.Cond.code ({ cls := "com/example/thesaurus_rerank/thesaurusrerank/space/BuilderEndRowPinLaw", name := "fill", desc := "(Lcom/example/thesaurus_rerank/thesaurusrerank/space/SparseDistances$Builder;I)V" } : Jvm.MethodName) method_3_code (2 : Nat) (Option.none : Option Jvm.ClassFile.FieldType), Jvm.Cond.code ({ cls := "com/example/thesaurus_rerank/thesaurusrerank/space/SparseDistances$Builder", name := "endRow", desc := "()V" } : Jvm.MethodName) prog_24_method_3_code (1 : Nat) (Option.none : Option Jvm.ClassFile.FieldType), Jvm.Cond.code ({ cls := "com/example/thesaurus_rerank/thesaurusrerank/space/SparseDistances$Builder", name := "add", desc := "(ID)V" } : Jvm.MethodName) prog_24_method_2_code (4 : Nat) (Option.none : Option Jvm.ClassFile.FieldType), Jvm.Cond.code ({ cls := "com/example/thesaurus_rerank/thesaurusrerank/space/SparseDistances$Builder", name := "build", desc := "()Lcom/example/thesaurus_rerank/thesaurusrerank/space/SparseDistances;" } : Jvm.MethodName) prog_24_method_4_code (1 : Nat) (Option.some (Jvm.ClassFile.FieldType.object "com/example/thesaurus_rerank/thesaurusrerank/space/SparseDistances")), Jvm.Cond.code ({ cls := "java/util/Arrays", name := "copyOf", desc := "([II)[I" } : Jvm.MethodName) jdk_65_method_123_code (3 : Nat) (Option.some (Jvm.ClassFile.FieldType.array Jvm.ClassFile.FieldType.int)), Jvm.Cond.code ({ cls := "java/lang/Math", name := "min", desc := "(II)I" } : Jvm.MethodName) jdk_29_method_69_code (2 : Nat) (Option.some Jvm.ClassFile.FieldType.int), Jvm.Cond.code ({ cls := "java/util/Arrays", name := "copyOf", desc := "([DI)[D" } : Jvm.MethodName) jdk_65_method_127_code (3 : Nat) (Option.some (Jvm.ClassFile.FieldType.array Jvm.ClassFile.FieldType.double)), Jvm.Cond.code ({ cls := "com/example/thesaurus_rerank/thesaurusrerank/space/SparseDistances", name := "<init>", desc := "([I[I[D)V" } : Jvm.MethodName) prog_23_method_1_code (4 : Nat) (Option.none : Option Jvm.ClassFile.FieldType), Jvm.Cond.code ({ cls := "com/example/thesaurus_rerank/thesaurusrerank/space/SparseDistances", name := "size", desc := "()I" } : Jvm.MethodName) prog_23_method_2_code (1 : Nat) (Option.some Jvm.ClassFile.FieldType.int), Jvm.Cond.code ({ cls := "com/example/thesaurus_rerank/thesaurusrerank/space/SparseDistances", name := "rowStart", desc := "(I)I" } : Jvm.MethodName) prog_23_method_3_code (2 : Nat) (Option.some Jvm.ClassFile.FieldType.int), Jvm.Cond.code ({ cls := "com/example/thesaurus_rerank/thesaurusrerank/space/SparseDistances", name := "rowEnd", desc := "(I)I" } : Jvm.MethodName) prog_23_method_4_code (2 : Nat) (Option.some Jvm.ClassFile.FieldType.int)]
set_option maxRecDepth 65536 in
theorem codes_eq : words1.filter isCode = codes1 := rfl
theorem w_codes : ∀ c ∈ words1.filter isCode, c.before args0 about1 = true := by
  rw [codes_eq]
  intro c hc
  simp only [codes1, List.mem_cons, List.not_mem_nil, or_false] at hc
  rcases hc with rfl | rfl | rfl | rfl | rfl | rfl | rfl | rfl | rfl | rfl | rfl | rfl | rfl | rfl
  · exact w_c0
  · exact w_c1
  · exact w_c2
  · exact w_c3
  · exact w_c4
  · exact w_c5
  · exact w_c6
  · exact w_c7
  · exact w_c8
  · exact w_c9
  · exact w_c10
  · exact w_c11
  · exact w_c12
  · exact w_c13
set_option maxRecDepth 65536 in
theorem w_t1 : (words1.take 24).all (fun c => isCode c || c.before args0 about1) = true := by decide +kernel
set_option maxRecDepth 65536 in
theorem w_t2 : ((words1.drop 24).take 24).all (fun c => isCode c || c.before args0 about1) = true := by decide +kernel
set_option maxRecDepth 65536 in
theorem w_t3 : (((words1.drop 24).drop 24).take 24).all (fun c => isCode c || c.before args0 about1) = true := by decide +kernel
set_option maxRecDepth 65536 in
theorem w_t4 : (((words1.drop 24).drop 24).drop 24).all (fun c => isCode c || c.before args0 about1) = true := by decide +kernel
theorem w_tables : (allAtoms (Jvm.Cond.code x code maxLocals ret :: tables_1)).before args0 about1 = true := by
  rw [allAtoms_all]
  show words1.all (fun c => c.before args0 about1) = true
  refine all_split ?_ w_codes
  rw [← List.take_append_drop 24 words1, List.all_append, w_t1, ← List.take_append_drop 24 (words1.drop 24), List.all_append, w_t2, ← List.take_append_drop 24 ((words1.drop 24).drop 24), List.all_append, w_t3, w_t4]
  rfl
set_option maxRecDepth 65536 in
theorem w_case : (Jvm.Cond.and given_1 narrow_1).before args0 about1 = true := by decide +kernel
theorem w_applies : (headSpec (Jvm.Cond.code x code maxLocals ret :: tables_1) room_1).applies x e0.platform about1 = true :=
  (Spec.applies_iff w_frames).mpr ⟨w_running, w_runnable, w_alone, w_named, w_hears, w_ripe, w_room, w_tables⟩
theorem atStart : AtStart classFile x code maxLocals ret World_1 tables_1 room_1 Calls_1 rest_1 Pre_1 launch0 p0 e0 about1 theMethod args0 below0 :=
  ⟨lists_1, trivial, launch0.admits_env _ _ _, launch0.least_env, fairChoices_fair.cas, fairChoices_fair.clock, w_frames, w_args, w_heap, w_applies, trivial, trivial, w_case⟩
end start1
theorem witness_1 : WitnessClaimed_1 := ⟨start1.p0, start1.e0, start1.about1, start1.theMethod, start1.args0, start1.below0, start1.atStart⟩
end Jvm.Pilot.@@N@@
