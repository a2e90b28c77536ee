import JvmDerived
import JvmDerived.Pilot.@@N@@Statement
import JvmDerived.Pilot.@@N@@Code
set_option linter.unusedVariables false
set_option linter.unusedSimpArgs false
namespace Jvm.RoadKit
open Sem ClassFile Op Lib Jvm.Stand Jvm.Free Jvm.LawKit
section New
variable {p : Program} {l : Launch} {e : Env} {R : Room} {s : State} {m : MethodId} {args : Array Value} {below : List Frame} {meth : Method} {c : Code} {T : State} {locs : List Loc} {cells slots : Nat}
theorem retI (X : Stand p l e R s m args below meth c T locs cells slots) (hx : p.tables.exec = Jvm.exec) {pc : Nat} {Ls : Array Slot} {z : Int32} {rest : List Value} (hret : meth.sig.returnType = some .int) (hd : decode c.code pc = .ok (.ireturn, 1)) {fs : List Frame}
    (hl : ∀ (f : JFrame) (acts : List Action), f.method = m → f.locked = none → f.entered = [] → (doReturn e (T.setTop f) acts (some (.int z))).1 = T.setFrames fs) : Steps p.tables e below (T.setTop (mkF m pc Ls (.int z :: rest))) (T.setFrames fs) := by
  have hm' : T.vm.method? m = some meth := X.method'
  have hn : narrow .int (.int z) = .int z := rfl
  show Steps p.tables e below (T.setTop { method := m, pc := pc, locals := Ls, stack := _ :: rest, locked := none }) _
  jvm_step X.here [X.here.top, hx, hd, hm', hret, hn]
  first | (intro acts; rw [hl _ acts rfl rfl rfl]) | rw [hl _ _ rfl rfl rfl]
  exact Steps.refl _
theorem retJ (X : Stand p l e R s m args below meth c T locs cells slots) (hx : p.tables.exec = Jvm.exec) {pc : Nat} {Ls : Array Slot} {z : Int64} {rest : List Value} (hret : meth.sig.returnType = some .long) (hd : decode c.code pc = .ok (.lreturn, 1)) {fs : List Frame}
    (hl : ∀ (f : JFrame) (acts : List Action), f.method = m → f.locked = none → f.entered = [] → (doReturn e (T.setTop f) acts (some (.long z))).1 = T.setFrames fs) : Steps p.tables e below (T.setTop (mkF m pc Ls (.long z :: rest))) (T.setFrames fs) := by
  have hm' : T.vm.method? m = some meth := X.method'
  have hn : narrow .long (.long z) = .long z := rfl
  show Steps p.tables e below (T.setTop { method := m, pc := pc, locals := Ls, stack := _ :: rest, locked := none }) _
  jvm_step X.here [X.here.top, hx, hd, hm', hret, hn]
  first | (intro acts; rw [hl _ acts rfl rfl rfl]) | rw [hl _ _ rfl rfl rfl]
  exact Steps.refl _
theorem retD (X : Stand p l e R s m args below meth c T locs cells slots) (hx : p.tables.exec = Jvm.exec) {pc : Nat} {Ls : Array Slot} {z : UInt64} {rest : List Value} (hret : meth.sig.returnType = some .double) (hd : decode c.code pc = .ok (.dreturn, 1)) {fs : List Frame}
    (hl : ∀ (f : JFrame) (acts : List Action), f.method = m → f.locked = none → f.entered = [] → (doReturn e (T.setTop f) acts (some (.double z))).1 = T.setFrames fs) : Steps p.tables e below (T.setTop (mkF m pc Ls (.double z :: rest))) (T.setFrames fs) := by
  have hm' : T.vm.method? m = some meth := X.method'
  have hn : narrow .double (.double z) = .double z := rfl
  show Steps p.tables e below (T.setTop { method := m, pc := pc, locals := Ls, stack := _ :: rest, locked := none }) _
  jvm_step X.here [X.here.top, hx, hd, hm', hret, hn]
  first | (intro acts; rw [hl _ acts rfl rfl rfl]) | rw [hl _ _ rfl rfl rfl]
  exact Steps.refl _
end New
end Jvm.RoadKit
@@BLOCK:NumsL.lean.txt@@
namespace Jvm.Pilot.@@N@@
open Jvm Jvm.ClassFile Sem Op Lib Jvm.Free Jvm.Stand Jvm.LawKit Jvm.RoadKit Bundle Jvm.Pilot.@@N@@.Jvm.D
theorem own_feq {args : Array Value} {s : State} {t : Term} {C f d : String} {x : Addr} {n : Int32} (ht : t.eval args s none [] s = some (.ref x)) (h : (Jvm.Cond.eq (Jvm.Term.field t C f d) (Jvm.Term.int n)).value args s none s [] = some true) : s.fieldOf? x C f d = some (.int n) := by
  obtain ⟨v, w, h1, h2, k1, k2⟩ := cmp_v (Or.inl h)
  have h1' := h1
  rw [fld_at ht] at h1'
  have hw : w = .int n := by simpa [Term.eval] using h2.symm
  subst hw
  obtain ⟨z, rfl⟩ := k2
  simp only [Cond.value, h1, h2] at h
  have : z = n := by simpa using h
  rw [h1', this]
theorem own_inteq {args : Array Value} {s : State} {t : Term} {n : Int32} (h : (Jvm.Cond.eq t (Jvm.Term.int n)).value args s none s [] = some true) : t.eval args s none [] s = some (.int n) := by
  obtain ⟨v, w, h1, h2, k1, k2⟩ := cmp_v (Or.inl h)
  have hw : w = .int n := by simpa [Term.eval] using h2.symm
  subst hw
  obtain ⟨z, rfl⟩ := k2
  simp only [Cond.value, h1, h2] at h
  have hz : z = n := by simpa using h
  rw [h1, hz]
theorem own_leneq {args : Array Value} {s : State} {t : Term} {x : Addr} {cl : Cell} {ty : FieldType} {n : Int32} (ht : t.eval args s none [] s = some (.ref x)) (A : Arr s s.heap x cl ty) (h : (Jvm.Cond.eq (Jvm.Term.length t) (Jvm.Term.int n)).value args s none s [] = some true) : cl.slots.size < 2 ^ 31 ∧ cl.slots.size.toInt32 = n := by
  have ha := A.fin (Vm.Alike.refl s.vm)
  have e := own_inteq h
  by_cases q : cl.slots.size < 2 ^ 31
  · rw [len_f ht ha q] at e
    exact ⟨q, by simpa using e⟩
  · simp [Term.eval, ht, ha, q] at e
theorem own_eleq {args : Array Value} {s : State} {t u : Term} {x y : Addr} {cl : Cell} {j : Int32} (ht : t.eval args s none [] s = some (.ref x)) (hu : u.eval args s none [] s = some (.ref y)) (hc : s.heap[x]? = some cl) (h : (Jvm.Cond.eq (Jvm.Term.elem t (Jvm.Term.int j)) u).value args s none s [] = some true) : cl.slots[j.toNatClampNeg]? = some (.ref y) := by
  obtain ⟨v, w, h1, h2, k1, k2⟩ := cmp_v (Or.inl h)
  cases hu.symm.trans h2
  obtain ⟨-, q⟩ := elem_in h1 ht (Term.int_eval j) hc
  have hr : v.isRef = true := k2.2
  have := gotT (eq_R h1 h2 hr rfl) h
  rw [q, this]
theorem own_hasL (c : Cell) : ∀ (vs : List Value) (i : Nat), (∀ j v, vs[j]? = some v → c.slots[i + j]? = some v) → HasL c i vs
  | [], _, _ => trivial
  | v :: vs, i, h => ⟨by simpa using h 0 v rfl, own_hasL c vs (i + 1) fun j w q => by
      have := h (j + 1) w (by simpa using q)
      rw [← this]; congr 1; omega⟩
theorem own_anyArv {s : State} {a : Addr} {cl : Cell} {ty : FieldType} {z : Int32} {dv : Value} (hf : Fit s) (A : Arr s s.heap a cl ty) (q : cl.slots.size < 2 ^ 31) (e : cl.slots.size.toInt32 = z) (hz : ¬ z < 0) : Arv s s.heap a cl.cls ty z cl.slots.toList dv :=
  Arv.start hf A q e hz (by rw [← e, Array.length_toList]; exact Int32.toNatClampNeg_ofNat_of_lt q) (own_hasL cl _ 0 fun j v h => by simpa using h)
theorem own_nonneg (k : Int64) : 0 ≤ (k &&& (9223372036854775807 : Int64)).toInt := by
  rw [Jvm.Kit.i64_mask k 9223372036854775807 (k := 63) (by decide) (by decide)]; omega
theorem own_e4 : ((4 : Int32).toInt64).toInt = 4 := by decide
theorem own_e2 : (2 : Int32).toInt = 2 := by decide
/-- (int) (k % 4) for k >= 0 -/
theorem own_m4 {k : Int64} (h : 0 ≤ k.toInt) : ((k - (k / ((4 : Int32).toInt64)) * ((4 : Int32).toInt64)).toInt32).toInt = k.toInt % 4 := by
  have r := Jvm.Kit.i64_rem_nonneg (y := ((4 : Int32).toInt64)) h
  rw [own_e4] at r
  rw [Jvm.Kit.i32_of_i64 (by rw [r]; omega) (by rw [r]; omega), r]
theorem own_or {x y : Int64} (hx : 0 ≤ x.toInt ∧ x.toInt < 2147483648) (hy : 0 ≤ y.toInt ∧ y.toInt < 4294967296) : ((x <<< ((32 : Int32) &&& 0x3f).toInt64) ||| y).toInt = x.toInt * 4294967296 + y.toInt := by
  have tx : x.toBitVec.toNat = x.toInt.toNat := by
    have h : x.toInt = x.toBitVec.toInt := rfl
    rw [BitVec.toInt_eq_toNat_cond] at h
    split at h <;> omega
  have ty : y.toBitVec.toNat = y.toInt.toNat := by
    have h : y.toInt = y.toBitVec.toInt := rfl
    rw [BitVec.toInt_eq_toNat_cond] at h
    split at h <;> omega
  have e : ((x <<< ((32 : Int32) &&& 0x3f).toInt64) ||| y).toBitVec = (x.toBitVec <<< 32) ||| y.toBitVec := rfl
  have n : (((x <<< ((32 : Int32) &&& 0x3f).toInt64) ||| y).toBitVec).toNat = x.toInt.toNat * 4294967296 + y.toInt.toNat := by
    rw [e, BitVec.toNat_or, BitVec.toNat_shiftLeft, tx, ty, Nat.shiftLeft_eq]
    rw [Nat.mod_eq_of_lt (by omega)]
    have := Nat.two_pow_add_eq_or_of_lt (i := 32) (b := y.toInt.toNat) (by omega) x.toInt.toNat
    rw [Nat.mul_comm, ← this]
  have h : ((x <<< ((32 : Int32) &&& 0x3f).toInt64) ||| y).toInt = (((x <<< ((32 : Int32) &&& 0x3f).toInt64) ||| y).toBitVec).toInt := rfl
  rw [h, BitVec.toInt_eq_toNat_cond, n]
  split <;> omega
theorem own_key (a b o f : Int32) (ho : 0 ≤ o.toInt ∧ o.toInt ≤ 1) (hf : 0 ≤ f.toInt ∧ f.toInt ≤ 1) : 0 ≤ (((a &&& (2147483647 : Int32)).toInt64 <<< ((32 : Int32) &&& 0x3f).toInt64) ||| ((((b &&& (1073741823 : Int32)).toInt64 * ((4 : Int32).toInt64)) + ((o * (2 : Int32)).toInt64)) + (f.toInt64))).toInt ∧ (((a &&& (2147483647 : Int32)).toInt64 <<< ((32 : Int32) &&& 0x3f).toInt64) ||| ((((b &&& (1073741823 : Int32)).toInt64 * ((4 : Int32).toInt64)) + ((o * (2 : Int32)).toInt64)) + (f.toInt64))).toInt % 4 = 2 * o.toInt + f.toInt := by
  have ma := Jvm.Kit.i32_mask a 2147483647 (k := 31) (by decide) (by decide)
  have mb := Jvm.Kit.i32_mask b 1073741823 (k := 30) (by decide) (by decide)
  have e2 : (2 : Int32).toInt = 2 := by decide
  have e4 : ((4 : Int32).toInt64).toInt = 4 := by decide
  have x1 : (a &&& (2147483647 : Int32)).toInt64.toInt = a.toInt % 2 ^ 31 := by rw [Int32.toInt_toInt64, ma]
  have x2 : (b &&& (1073741823 : Int32)).toInt64.toInt = b.toInt % 2 ^ 30 := by rw [Int32.toInt_toInt64, mb]
  have x3 : (o * (2 : Int32)).toInt64.toInt = o.toInt * 2 := by rw [Int32.toInt_toInt64, Jvm.Kit.i32_mul (by rw [e2]; omega) (by rw [e2]; omega), e2]
  have x4 : f.toInt64.toInt = f.toInt := Int32.toInt_toInt64 f
  have y1 : ((b &&& (1073741823 : Int32)).toInt64 * ((4 : Int32).toInt64)).toInt = b.toInt % 2 ^ 30 * 4 := by rw [Jvm.Kit.i64_mul (by rw [x2, e4]; omega) (by rw [x2, e4]; omega), x2, e4]
  have y2 : (((b &&& (1073741823 : Int32)).toInt64 * ((4 : Int32).toInt64)) + ((o * (2 : Int32)).toInt64)).toInt = b.toInt % 2 ^ 30 * 4 + o.toInt * 2 := by rw [Jvm.Kit.i64_add (by rw [y1, x3]; omega) (by rw [y1, x3]; omega), y1, x3]
  have y3 : ((((b &&& (1073741823 : Int32)).toInt64 * ((4 : Int32).toInt64)) + ((o * (2 : Int32)).toInt64)) + (f.toInt64)).toInt = b.toInt % 2 ^ 30 * 4 + o.toInt * 2 + f.toInt := by rw [Jvm.Kit.i64_add (by rw [y2, x4]; omega) (by rw [y2, x4]; omega), y2, x4]
  rw [own_or (by rw [x1]; omega) (by rw [y3]; omega), x1, y3]
  omega
theorem own_finF0 {x : Int32} (h : x.toInt = 2 * 0 + 0) : x % (2 : Int32) = (0 : Int32) := by
  have : x = (0 : Int32) := Int32.toInt_inj.mp (by rw [h]; decide)
  rw [this]; decide
theorem own_finS0 {x : Int32} (h : x.toInt = 2 * 0 + 0) : x / (2 : Int32) = (0 : Int32) := by
  have : x = (0 : Int32) := Int32.toInt_inj.mp (by rw [h]; decide)
  rw [this]; decide
theorem own_finF1 {x : Int32} (h : x.toInt = 2 * 0 + 1) : x % (2 : Int32) = (1 : Int32) := by
  have : x = (1 : Int32) := Int32.toInt_inj.mp (by rw [h]; decide)
  rw [this]; decide
theorem own_finS1 {x : Int32} (h : x.toInt = 2 * 0 + 1) : x / (2 : Int32) = (0 : Int32) := by
  have : x = (1 : Int32) := Int32.toInt_inj.mp (by rw [h]; decide)
  rw [this]; decide
theorem own_finF2 {x : Int32} (h : x.toInt = 2 * 1 + 0) : x % (2 : Int32) = (0 : Int32) := by
  have : x = (2 : Int32) := Int32.toInt_inj.mp (by rw [h]; decide)
  rw [this]; decide
theorem own_finS2 {x : Int32} (h : x.toInt = 2 * 1 + 0) : x / (2 : Int32) = (1 : Int32) := by
  have : x = (2 : Int32) := Int32.toInt_inj.mp (by rw [h]; decide)
  rw [this]; decide
theorem own_finF3 {x : Int32} (h : x.toInt = 2 * 1 + 1) : x % (2 : Int32) = (1 : Int32) := by
  have : x = (3 : Int32) := Int32.toInt_inj.mp (by rw [h]; decide)
  rw [this]; decide
theorem own_finS3 {x : Int32} (h : x.toInt = 2 * 1 + 1) : x / (2 : Int32) = (1 : Int32) := by
  have : x = (3 : Int32) := Int32.toInt_inj.mp (by rw [h]; decide)
  rw [this]; decide
theorem own_bit2 (k : Int64) : (k &&& (2 : Int64)) = (0 : Int64) ↔ k.toInt % 4 < 2 := by
  have hk : k.toInt % 4 = ((k.toBitVec.toNat % 4 : Nat) : Int) := by
    have h : k.toInt = k.toBitVec.toInt := rfl
    rw [h, BitVec.toInt_eq_toNat_cond]
    split <;> omega
  have e : (k &&& (2 : Int64)).toBitVec.toNat = k.toBitVec.toNat &&& 2 ^ 1 := by
    show (k.toBitVec &&& 2#64).toNat = _
    rw [BitVec.toNat_and]; rfl
  have m := Nat.and_mod_two_pow (a := k.toBitVec.toNat) (b := 2) (n := 2)
  have l : k.toBitVec.toNat &&& 2 ≤ 2 := Nat.and_le_right
  rw [Nat.mod_eq_of_lt (by omega)] at m
  have c : k.toBitVec.toNat % 2 ^ 2 = 0 ∨ k.toBitVec.toNat % 2 ^ 2 = 1 ∨ k.toBitVec.toNat % 2 ^ 2 = 2 ∨ k.toBitVec.toNat % 2 ^ 2 = 3 := by omega
  have z : (k &&& (2 : Int64)) = (0 : Int64) ↔ k.toBitVec.toNat &&& 2 = 0 := by
    rw [← Int64.toBitVec_inj]
    constructor
    · intro h
      have : (k &&& (2 : Int64)).toBitVec.toNat = 0 := by rw [h]; rfl
      rw [e] at this; exact this
    · intro h
      apply BitVec.eq_of_toNat_eq
      rw [e]; exact h
  rw [z, hk, m]
  rcases c with c | c | c | c <;> rw [c] <;> simp <;> omega
theorem own_raw0 {k : Int64} (h : 0 ≤ k.toInt) (hb : (k &&& (2 : Int64)) = (0 : Int64)) : (((k - (k / ((4 : Int32).toInt64)) * ((4 : Int32).toInt64)).toInt32) / (2 : Int32)) = (0 : Int32) := by
  have e := own_m4 h
  have b := (own_bit2 k).mp hb
  have q : k.toInt % 4 = 0 ∨ k.toInt % 4 = 1 := by omega
  rcases q with q | q
  · exact own_finS0 (e.trans q)
  · exact own_finS1 (e.trans q)
theorem own_raw1 {k : Int64} (h : 0 ≤ k.toInt) (hb : ¬ (k &&& (2 : Int64)) = (0 : Int64)) : (((k - (k / ((4 : Int32).toInt64)) * ((4 : Int32).toInt64)).toInt32) / (2 : Int32)) = (1 : Int32) := by
  have e := own_m4 h
  have b : ¬ k.toInt % 4 < 2 := fun q => hb ((own_bit2 k).mpr q)
  have q : k.toInt % 4 = 2 ∨ k.toInt % 4 = 3 := by omega
  rcases q with q | q
  · exact own_finS2 (e.trans q)
  · exact own_finS3 (e.trans q)
theorem own_made00 (a b : Int32) : ((((((a &&& (2147483647 : Int32)).toInt64 <<< ((32 : Int32) &&& 0x3f).toInt64) ||| ((((b &&& (1073741823 : Int32)).toInt64 * ((4 : Int32).toInt64)) + (((0 : Int32) * (2 : Int32)).toInt64)) + ((0 : Int32).toInt64))) - ((((a &&& (2147483647 : Int32)).toInt64 <<< ((32 : Int32) &&& 0x3f).toInt64) ||| ((((b &&& (1073741823 : Int32)).toInt64 * ((4 : Int32).toInt64)) + (((0 : Int32) * (2 : Int32)).toInt64)) + ((0 : Int32).toInt64))) / ((4 : Int32).toInt64)) * ((4 : Int32).toInt64)).toInt32) / (2 : Int32)) = (0 : Int32) := by
  obtain ⟨h1, h2⟩ := own_key a b 0 0 (by decide) (by decide)
  have e := own_m4 h1
  rw [h2] at e
  exact own_finS0 (e.trans (by decide))
theorem own_made01 (a b : Int32) : ((((((a &&& (2147483647 : Int32)).toInt64 <<< ((32 : Int32) &&& 0x3f).toInt64) ||| ((((b &&& (1073741823 : Int32)).toInt64 * ((4 : Int32).toInt64)) + (((0 : Int32) * (2 : Int32)).toInt64)) + ((1 : Int32).toInt64))) - ((((a &&& (2147483647 : Int32)).toInt64 <<< ((32 : Int32) &&& 0x3f).toInt64) ||| ((((b &&& (1073741823 : Int32)).toInt64 * ((4 : Int32).toInt64)) + (((0 : Int32) * (2 : Int32)).toInt64)) + ((1 : Int32).toInt64))) / ((4 : Int32).toInt64)) * ((4 : Int32).toInt64)).toInt32) / (2 : Int32)) = (0 : Int32) := by
  obtain ⟨h1, h2⟩ := own_key a b 0 1 (by decide) (by decide)
  have e := own_m4 h1
  rw [h2] at e
  exact own_finS1 (e.trans (by decide))
theorem own_made10 (a b : Int32) : ((((((a &&& (2147483647 : Int32)).toInt64 <<< ((32 : Int32) &&& 0x3f).toInt64) ||| ((((b &&& (1073741823 : Int32)).toInt64 * ((4 : Int32).toInt64)) + (((1 : Int32) * (2 : Int32)).toInt64)) + ((0 : Int32).toInt64))) - ((((a &&& (2147483647 : Int32)).toInt64 <<< ((32 : Int32) &&& 0x3f).toInt64) ||| ((((b &&& (1073741823 : Int32)).toInt64 * ((4 : Int32).toInt64)) + (((1 : Int32) * (2 : Int32)).toInt64)) + ((0 : Int32).toInt64))) / ((4 : Int32).toInt64)) * ((4 : Int32).toInt64)).toInt32) / (2 : Int32)) = (1 : Int32) := by
  obtain ⟨h1, h2⟩ := own_key a b 1 0 (by decide) (by decide)
  have e := own_m4 h1
  rw [h2] at e
  exact own_finS2 (e.trans (by decide))
theorem own_made11 (a b : Int32) : ((((((a &&& (2147483647 : Int32)).toInt64 <<< ((32 : Int32) &&& 0x3f).toInt64) ||| ((((b &&& (1073741823 : Int32)).toInt64 * ((4 : Int32).toInt64)) + (((1 : Int32) * (2 : Int32)).toInt64)) + ((1 : Int32).toInt64))) - ((((a &&& (2147483647 : Int32)).toInt64 <<< ((32 : Int32) &&& 0x3f).toInt64) ||| ((((b &&& (1073741823 : Int32)).toInt64 * ((4 : Int32).toInt64)) + (((1 : Int32) * (2 : Int32)).toInt64)) + ((1 : Int32).toInt64))) / ((4 : Int32).toInt64)) * ((4 : Int32).toInt64)).toInt32) / (2 : Int32)) = (1 : Int32) := by
  obtain ⟨h1, h2⟩ := own_key a b 1 1 (by decide) (by decide)
  have e := own_m4 h1
  rw [h2] at e
  exact own_finS3 (e.trans (by decide))
theorem pn_java_lang_Enum : plainName "java/lang/Enum" = true := by first | (simp [plainName, overriddenIn]; done) | decide +kernel
theorem d3_0 : decode jdk_37_method_2_code 0 = .ok (.aload_n 0, 1) := by decide +kernel
theorem d3_1 : decode jdk_37_method_2_code 1 = .ok (.getfield 7, 3) := by decide +kernel
theorem d3_4 : decode jdk_37_method_2_code 4 = .ok (.ireturn, 1) := by decide +kernel
theorem ef_3 (m : MethodId) (x0 : Addr) : entryFrame m #[(.ref x0)] 1 = mkF m 0 #[.val (.ref x0)] [] := by first | (simp [entryFrame, mkF, argsToLocals, Value.category]; done) | rfl
def Q3 (Z : State) (aa0 : Addr) (vv : Int32) (h0 : Heap) (n0 : Nat) (v : Option Value) (h : Heap) (L : List Loc) : Prop := v = some (.int vv) ∧ Fr n0 L ∧ h = h0
set_option maxRecDepth 65536 in
set_option maxHeartbeats 40000000 in
theorem rm3 (l : Launch) (Z : State) (a0 : Array Value) (hw : ∀ d ∈ tables_1, d.before a0 Z = true) (ws : List Jvm.Cond) (aa0 : Addr) (vv : Int32) (h0 : Heap) (n0 : Nat) (Z0 : n0 ≤ h0.size) (F_aa0_ordinal : Fld Z h0 aa0 "java/lang/Enum" "ordinal" "I" (.int vv)) :
    MetFree l (⟨"java/lang/Enum", "ordinal", "()I"⟩ : MethodName) (head1 (Jvm.Cond.code (⟨"java/lang/Enum", "ordinal", "()I"⟩ : MethodName) jdk_37_method_2_code 1 (some .int) :: ws) ({ frames := 0, cells := 0, slots := 0, locals := 0 } : Room)) (fun a U => a = #[(.ref aa0)] ∧ Z.Warmed39 U.vm ∧ U.heap = h0) (fun _ _ _ _ _ => True) (fun _ U o U' => ∃ v L, o = .returned v ∧ Q3 Z aa0 vv h0 n0 v U'.heap L ∧ FrameEnd U o U' L ({ frames := 0, cells := 0, slots := 0, locals := 0 } : Room).cells ({ frames := 0, cells := 0, slots := 0, locals := 0 } : Room).slots) := by
  refine MetFree.of_bodySF (plainFor_of_name pn_java_lang_Enum) hisR ?_
  intro p e s m args below meth c s₁ Bd hml0 hP hK
  obtain ⟨rfl, hZ, hh⟩ := hP
  have hx := Bd.exec
  have hby := Bd.bytes
  have hml : c.maxLocals = 1 := hml0
  have hown : s.vm.findClass "java/lang/Enum" = some m.cls := findClass_of_methodNamed Bd.named
  have hnm := (name_of_methodNamed Bd.named Bd.method).1
  have X0 : Stand p l e ({ frames := 0, cells := 0, slots := 0, locals := 0 } : Room) s m #[(.ref aa0)] below meth c s₁ [] 0 0 := Stand.of_body Bd
  have e0 : s₁.heap = h0 := by rw [← hh, Bd.state]; rfl
  have N0 := Fr.nil n0
  have pre0 : ∀ t, Steps p.tables e below (s₁.setTop (mkF m 0 #[.val (.ref aa0)] [])) t → Steps p.tables e below (s₁.setTop (entryFrame m #[(.ref aa0)] 1)) t := fun t k => castTop (ef_3 m aa0) k
  obtain ⟨T1, X1, e1, st1⟩ := getF X0 hx hZ hown (host := "") (Or.inl (hw _ (List.mem_of_getElem? (i := 32) rfl))) Via.refl e0 F_aa0_ordinal (g := (mkF m 1 #[.val (.ref aa0)] [(.ref aa0)])) rfl rfl (hb hby d3_1)
  obtain ⟨fs, hr, hrun, hended, hW, hsame⟩ := X1.leave (v := some (.int vv)) (fun h => by rw [Bd.returns] at h; cases h)
  refine ⟨_, _, pre0 _ ?_, hrun, hended, _, _, rfl, ?_, ⟨_, rfl⟩, hW, hsame.mono (by decide) (by decide)⟩
  · show Steps p.tables e below (s₁.setTop (mkF m 0 #[.val (.ref aa0)] [])) _
    refine XS.aloadN X0.here hx rfl (hb hby d3_0) rfl rfl ?_
    show Steps p.tables e below (s₁.setTop (mkF m 1 #[.val (.ref aa0)] [(.ref aa0)])) _
    refine st1 _ ?_
    show Steps p.tables e below (T1.setTop (mkF m 4 #[.val (.ref aa0)] [(.int vv)])) _
    exact retI X1 hx Bd.returns (hb hby d3_4) hr
  · show Q3 Z aa0 vv h0 n0 _ T1.heap _
    rw [e1]
    exact ⟨rfl, N0, rfl⟩
theorem pd__28__29_I : parseMethodDescriptor "()I" = some ⟨[], some .int⟩ := by decide +kernel
theorem pn_com_example_tallyhouse_tallyhouse_book_LineKey : plainName "com/example/tallyhouse/tallyhouse/book/LineKey" = true := by first | (simp [plainName, overriddenIn]; done) | decide +kernel
theorem d2_0 : decode prog_5_method_2_code 0 = .ok (.iload_n 0, 1) := by decide +kernel
theorem d2_1 : decode prog_5_method_2_code 1 = .ok (.i2l, 1) := by decide +kernel
theorem d2_2 : decode prog_5_method_2_code 2 = .ok (.bipush 32, 2) := by decide +kernel
theorem d2_4 : decode prog_5_method_2_code 4 = .ok (.lshl, 1) := by decide +kernel
theorem d2_5 : decode prog_5_method_2_code 5 = .ok (.iload_n 1, 1) := by decide +kernel
theorem d2_6 : decode prog_5_method_2_code 6 = .ok (.i2l, 1) := by decide +kernel
theorem d2_7 : decode prog_5_method_2_code 7 = .ok (.getstatic 9, 3) := by decide +kernel
theorem d2_10 : decode prog_5_method_2_code 10 = .ok (.i2l, 1) := by decide +kernel
theorem d2_11 : decode prog_5_method_2_code 11 = .ok (.lmul, 1) := by decide +kernel
theorem d2_12 : decode prog_5_method_2_code 12 = .ok (.aload_n 2, 1) := by decide +kernel
theorem d2_13 : decode prog_5_method_2_code 13 = .ok (.invokevirtual 15, 3) := by decide +kernel
theorem d2_16 : decode prog_5_method_2_code 16 = .ok (.getstatic 21, 3) := by decide +kernel
theorem d2_19 : decode prog_5_method_2_code 19 = .ok (.arraylength, 1) := by decide +kernel
theorem d2_20 : decode prog_5_method_2_code 20 = .ok (.imul, 1) := by decide +kernel
theorem d2_21 : decode prog_5_method_2_code 21 = .ok (.i2l, 1) := by decide +kernel
theorem d2_22 : decode prog_5_method_2_code 22 = .ok (.ladd, 1) := by decide +kernel
theorem d2_23 : decode prog_5_method_2_code 23 = .ok (.aload_n 3, 1) := by decide +kernel
theorem d2_24 : decode prog_5_method_2_code 24 = .ok (.invokevirtual 25, 3) := by decide +kernel
theorem d2_27 : decode prog_5_method_2_code 27 = .ok (.i2l, 1) := by decide +kernel
theorem d2_28 : decode prog_5_method_2_code 28 = .ok (.ladd, 1) := by decide +kernel
theorem d2_29 : decode prog_5_method_2_code 29 = .ok (.lor, 1) := by decide +kernel
theorem d2_30 : decode prog_5_method_2_code 30 = .ok (.lreturn, 1) := by decide +kernel
theorem ef_2 (m : MethodId) (x0 : Int32) (x1 : Int32) (x2 : Addr) (x3 : Addr) : entryFrame m #[(.int x0), (.int x1), (.ref x2), (.ref x3)] 4 = mkF m 0 #[.val (.int x0), .val (.int x1), .val (.ref x2), .val (.ref x3)] [] := by first | (simp [entryFrame, mkF, argsToLocals, Value.category]; done) | rfl
def Q2 (Z : State) (pp1 : Int32) (pp2 : Int32) (aa3 : Addr) (aa4 : Addr) (af : Addr) (kf : ClassId) (vf : List Value) (os : Int32) (of_ : Int32) (h0 : Heap) (n0 : Nat) (v : Option Value) (h : Heap) (L : List Loc) : Prop := v = some (.long ((pp1.toInt64 <<< ((32 : Int32) &&& 0x3f).toInt64) ||| (((pp2.toInt64 * ((4 : Int32).toInt64)) + ((os * (2 : Int32)).toInt64)) + (of_.toInt64)))) ∧ Fr n0 L ∧ h = h0
set_option maxRecDepth 65536 in
set_option maxHeartbeats 40000000 in
theorem rm2 (l : Launch) (Z : State) (a0 : Array Value) (hw : ∀ d ∈ tables_1, d.before a0 Z = true) (ws : List Jvm.Cond) (pp1 : Int32) (pp2 : Int32) (aa3 : Addr) (aa4 : Addr) (af : Addr) (kf : ClassId) (vf : List Value) (os : Int32) (of_ : Int32) (h0 : Heap) (n0 : Nat) (Z0 : n0 ≤ h0.size) (O0 : Old Z n0 h0) (S_FLAGS : Sta Z Z.heap "com/example/tallyhouse/tallyhouse/book/LineKey" "FLAGS" "[Lcom/example/tallyhouse/tallyhouse/book/Flag;" (.ref af)) (S_LINES : Sta Z Z.heap "com/example/tallyhouse/tallyhouse/book/LineKey" "LINES" "I" (.int (4 : Int32))) (V_af : Arv Z h0 af kf (.object "com/example/tallyhouse/tallyhouse/book/Flag") (2 : Int32) vf .null) (E_aa3 : Exa Z h0 aa3 "com/example/tallyhouse/tallyhouse/book/Side") (E_aa4 : Exa Z h0 aa4 "com/example/tallyhouse/tallyhouse/book/Flag") (F_aa3_ordinal : Fld Z h0 aa3 "java/lang/Enum" "ordinal" "I" (.int os)) (F_aa4_ordinal : Fld Z h0 aa4 "java/lang/Enum" "ordinal" "I" (.int of_)) :
    MetFree l (⟨"com/example/tallyhouse/tallyhouse/book/LineKey", "of", "(IILcom/example/tallyhouse/tallyhouse/book/Side;Lcom/example/tallyhouse/tallyhouse/book/Flag;)J"⟩ : MethodName) (head1 (Jvm.Cond.code (⟨"com/example/tallyhouse/tallyhouse/book/LineKey", "of", "(IILcom/example/tallyhouse/tallyhouse/book/Side;Lcom/example/tallyhouse/tallyhouse/book/Flag;)J"⟩ : MethodName) prog_5_method_2_code 4 (some .long) :: ws) ({ frames := 1, cells := 0, slots := 0, locals := 16 } : Room)) (fun a U => a = #[(.int pp1), (.int pp2), (.ref aa3), (.ref aa4)] ∧ Z.Warmed39 U.vm ∧ U.heap = h0) (fun _ _ _ _ _ => True) (fun _ U o U' => ∃ v L, o = .returned v ∧ Q2 Z pp1 pp2 aa3 aa4 af kf vf os of_ h0 n0 v U'.heap L ∧ FrameEnd U o U' L ({ frames := 1, cells := 0, slots := 0, locals := 16 } : Room).cells ({ frames := 1, cells := 0, slots := 0, locals := 16 } : Room).slots) := by
  refine MetFree.of_bodySF (plainFor_of_name pn_com_example_tallyhouse_tallyhouse_book_LineKey) hisR ?_
  intro p e s m args below meth c s₁ Bd hml0 hP hK
  obtain ⟨rfl, hZ, hh⟩ := hP
  have hx := Bd.exec
  have hby := Bd.bytes
  have hml : c.maxLocals = 4 := hml0
  have hown : s.vm.findClass "com/example/tallyhouse/tallyhouse/book/LineKey" = some m.cls := findClass_of_methodNamed Bd.named
  have hnm := (name_of_methodNamed Bd.named Bd.method).1
  have X0 : Stand p l e ({ frames := 1, cells := 0, slots := 0, locals := 16 } : Room) s m #[(.int pp1), (.int pp2), (.ref aa3), (.ref aa4)] below meth c s₁ [] 0 0 := Stand.of_body Bd
  have e0 : s₁.heap = h0 := by rw [← hh, Bd.state]; rfl
  have N0 := Fr.nil n0
  have pre0 : ∀ t, Steps p.tables e below (s₁.setTop (mkF m 0 #[.val (.int pp1), .val (.int pp2), .val (.ref aa3), .val (.ref aa4)] [])) t → Steps p.tables e below (s₁.setTop (entryFrame m #[(.int pp1), (.int pp2), (.ref aa3), (.ref aa4)] 4)) t := fun t k => castTop (ef_2 m pp1 pp2 aa3 aa4) k
  obtain ⟨T1, X1, e1, st1⟩ := getS2 X0 hx hZ hown (host := "") (Or.inl (hw _ (List.mem_of_getElem? (i := 11) rfl))) Via.refl e0 (S_LINES.ext O0.2) (g := (mkF m 7 #[.val (.int pp1), .val (.int pp2), .val (.ref aa3), .val (.ref aa4)] [(.long (pp2.toInt64)), (.long ((pp1.toInt64) <<< ((32 : Int32) &&& 0x3f).toInt64))])) rfl (hb hby d2_7)
  obtain ⟨cq2, kq2, q2a, q2b, q2c⟩ := isOf hZ e1 E_aa3
  obtain ⟨_, _, ⟨T2, L2, k2, n2⟩, -, X2, ⟨Lc2, hQ2, l2, y2, z2⟩, st2⟩ := X1.virtualBackUp hx (x := (⟨"com/example/tallyhouse/tallyhouse/book/Side", "ordinal", "()I"⟩ : MethodName)) (y := (⟨"java/lang/Enum", "ordinal", "()I"⟩ : MethodName)) (owner := "java/lang/Enum") hown (mvT hZ (hw _ (List.mem_of_getElem? (i := 25) rfl))) (mvT hZ (hw _ (List.mem_of_getElem? (i := 26) rfl))) (mvT hZ (hw _ (List.mem_of_getElem? (i := 27) rfl))) (by decide) (mvT hZ (hw _ (List.mem_of_getElem? (i := 29) rfl))) (mvT hZ (hw _ (List.mem_of_getElem? (i := 28) rfl))) (backOf (W := 4) (rm3 l Z a0 hw [] aa3 os h0 n0 Z0 F_aa3_ordinal) hZ (hw _ (List.mem_of_getElem? (i := 31) rfl)) (hw _ (List.mem_of_getElem? (i := 30) rfl)) (by decide) (by decide)) q2a q2c (g := (mkF m 13 #[.val (.int pp1), .val (.int pp2), .val (.ref aa3), .val (.ref aa4)] [(.ref aa3), (.long ((pp2.toInt64) * ((4 : Int32).toInt64))), (.long ((pp1.toInt64) <<< ((32 : Int32) &&& 0x3f).toInt64))])) rfl (by rw [hml]; rfl) (Steps.refl _) (argsL := []) (rest := [(.long ((pp2.toInt64) * ((4 : Int32).toInt64))), (.long ((pp1.toInt64) <<< ((32 : Int32) &&& 0x3f).toInt64))]) (lenOf pd__28__29_I rfl) rfl (by show 2 * 0 + _ ≤ _; exact Nat.le_of_eq rfl) (hb hby d2_13) (fun _ _ => ⟨rfl, e1, (by decide : 0 + 0 ≤ _), (by decide : 0 + 0 ≤ _)⟩)
  dsimp only [Pt.U, Pt.locs, Pt.cells, Pt.slots] at X2 l2 y2 z2 st2 hQ2
  subst l2 y2 z2
  obtain ⟨rfl, N2q, e2⟩ := hQ2
  have N2 := Fr.app N0 N2q
  obtain ⟨T3, X3, e3, st3⟩ := getS2 X2 hx hZ hown (host := "") (Or.inl (hw _ (List.mem_of_getElem? (i := 13) rfl))) Via.refl e2 (S_FLAGS.ext O0.2) (g := (mkF m 16 #[.val (.int pp1), .val (.int pp2), .val (.ref aa3), .val (.ref aa4)] [(.int os), (.long ((pp2.toInt64) * ((4 : Int32).toInt64))), (.long ((pp1.toInt64) <<< ((32 : Int32) &&& 0x3f).toInt64))])) rfl (hb hby d2_16)
  obtain ⟨cl_4, Ar_4, -, Sz_4, Nn_4, -, -⟩ := id V_af
  obtain ⟨cq5, kq5, q5a, q5b, q5c⟩ := isOf hZ e3 E_aa4
  obtain ⟨_, _, ⟨T5, L5, k5, n5⟩, -, X5, ⟨Lc5, hQ5, l5, y5, z5⟩, st5⟩ := X3.virtualBackUp hx (x := (⟨"com/example/tallyhouse/tallyhouse/book/Flag", "ordinal", "()I"⟩ : MethodName)) (y := (⟨"java/lang/Enum", "ordinal", "()I"⟩ : MethodName)) (owner := "java/lang/Enum") hown (mvT hZ (hw _ (List.mem_of_getElem? (i := 34) rfl))) (mvT hZ (hw _ (List.mem_of_getElem? (i := 35) rfl))) (mvT hZ (hw _ (List.mem_of_getElem? (i := 27) rfl))) (by decide) (mvT hZ (hw _ (List.mem_of_getElem? (i := 36) rfl))) (mvT hZ (hw _ (List.mem_of_getElem? (i := 28) rfl))) (backOf (W := 4) (rm3 l Z a0 hw [] aa4 of_ h0 n0 Z0 F_aa4_ordinal) hZ (hw _ (List.mem_of_getElem? (i := 31) rfl)) (hw _ (List.mem_of_getElem? (i := 30) rfl)) (by decide) (by decide)) q5a q5c (g := (mkF m 24 #[.val (.int pp1), .val (.int pp2), .val (.ref aa3), .val (.ref aa4)] [(.ref aa4), (.long (((pp2.toInt64) * ((4 : Int32).toInt64)) + ((os * (2 : Int32)).toInt64))), (.long ((pp1.toInt64) <<< ((32 : Int32) &&& 0x3f).toInt64))])) rfl (by rw [hml]; rfl) (Steps.refl _) (argsL := []) (rest := [(.long (((pp2.toInt64) * ((4 : Int32).toInt64)) + ((os * (2 : Int32)).toInt64))), (.long ((pp1.toInt64) <<< ((32 : Int32) &&& 0x3f).toInt64))]) (lenOf pd__28__29_I rfl) rfl (by show 2 * 0 + _ ≤ _; exact Nat.le_of_eq rfl) (hb hby d2_24) (fun _ _ => ⟨rfl, e3, (by decide : 0 + 0 ≤ _), (by decide : 0 + 0 ≤ _)⟩)
  dsimp only [Pt.U, Pt.locs, Pt.cells, Pt.slots] at X5 l5 y5 z5 st5 hQ5
  subst l5 y5 z5
  obtain ⟨rfl, N5q, e5⟩ := hQ5
  have N5 := Fr.app N2 N5q
  obtain ⟨fs, hr, hrun, hended, hW, hsame⟩ := X5.leave (v := some (.long (((pp1.toInt64) <<< ((32 : Int32) &&& 0x3f).toInt64) ||| ((((pp2.toInt64) * ((4 : Int32).toInt64)) + ((os * (2 : Int32)).toInt64)) + (of_.toInt64))))) (fun h => by rw [Bd.returns] at h; cases h)
  refine ⟨_, _, pre0 _ ?_, hrun, hended, _, _, rfl, ?_, ⟨_, rfl⟩, hW, hsame.mono (by decide) (by decide)⟩
  · show Steps p.tables e below (s₁.setTop (mkF m 0 #[.val (.int pp1), .val (.int pp2), .val (.ref aa3), .val (.ref aa4)] [])) _
    refine XS.iloadN X0.here hx rfl (hb hby d2_0) rfl ?_
    show Steps p.tables e below (s₁.setTop (mkF m 1 #[.val (.int pp1), .val (.int pp2), .val (.ref aa3), .val (.ref aa4)] [(.int pp1)])) _
    refine XS.i2l X0.here hx rfl (hb hby d2_1) rfl ?_
    show Steps p.tables e below (s₁.setTop (mkF m 2 #[.val (.int pp1), .val (.int pp2), .val (.ref aa3), .val (.ref aa4)] [(.long (pp1.toInt64))])) _
    refine XS.bipush X0.here hx rfl (hb hby d2_2) ?_
    show Steps p.tables e below (s₁.setTop (mkF m 4 #[.val (.int pp1), .val (.int pp2), .val (.ref aa3), .val (.ref aa4)] [(.int (32 : Int32)), (.long (pp1.toInt64))])) _
    refine XS.lshl X0.here hx rfl (hb hby d2_4) rfl ?_
    show Steps p.tables e below (s₁.setTop (mkF m 5 #[.val (.int pp1), .val (.int pp2), .val (.ref aa3), .val (.ref aa4)] [(.long ((pp1.toInt64) <<< ((32 : Int32) &&& 0x3f).toInt64))])) _
    refine XS.iloadN X0.here hx rfl (hb hby d2_5) rfl ?_
    show Steps p.tables e below (s₁.setTop (mkF m 6 #[.val (.int pp1), .val (.int pp2), .val (.ref aa3), .val (.ref aa4)] [(.int pp2), (.long ((pp1.toInt64) <<< ((32 : Int32) &&& 0x3f).toInt64))])) _
    refine XS.i2l X0.here hx rfl (hb hby d2_6) rfl ?_
    show Steps p.tables e below (s₁.setTop (mkF m 7 #[.val (.int pp1), .val (.int pp2), .val (.ref aa3), .val (.ref aa4)] [(.long (pp2.toInt64)), (.long ((pp1.toInt64) <<< ((32 : Int32) &&& 0x3f).toInt64))])) _
    refine st1 _ ?_
    show Steps p.tables e below (T1.setTop (mkF m 10 #[.val (.int pp1), .val (.int pp2), .val (.ref aa3), .val (.ref aa4)] [(.int (4 : Int32)), (.long (pp2.toInt64)), (.long ((pp1.toInt64) <<< ((32 : Int32) &&& 0x3f).toInt64))])) _
    refine XS.i2l X1.here hx rfl (hb hby d2_10) rfl ?_
    show Steps p.tables e below (T1.setTop (mkF m 11 #[.val (.int pp1), .val (.int pp2), .val (.ref aa3), .val (.ref aa4)] [(.long ((4 : Int32).toInt64)), (.long (pp2.toInt64)), (.long ((pp1.toInt64) <<< ((32 : Int32) &&& 0x3f).toInt64))])) _
    refine XS.lmul X1.here hx rfl (hb hby d2_11) rfl ?_
    show Steps p.tables e below (T1.setTop (mkF m 12 #[.val (.int pp1), .val (.int pp2), .val (.ref aa3), .val (.ref aa4)] [(.long ((pp2.toInt64) * ((4 : Int32).toInt64))), (.long ((pp1.toInt64) <<< ((32 : Int32) &&& 0x3f).toInt64))])) _
    refine XS.aloadN X1.here hx rfl (hb hby d2_12) rfl rfl ?_
    show Steps p.tables e below (T1.setTop (mkF m 13 #[.val (.int pp1), .val (.int pp2), .val (.ref aa3), .val (.ref aa4)] [(.ref aa3), (.long ((pp2.toInt64) * ((4 : Int32).toInt64))), (.long ((pp1.toInt64) <<< ((32 : Int32) &&& 0x3f).toInt64))])) _
    refine st2.trans ?_
    show Steps p.tables e below (T2.setTop (mkF m 16 #[.val (.int pp1), .val (.int pp2), .val (.ref aa3), .val (.ref aa4)] [(.int os), (.long ((pp2.toInt64) * ((4 : Int32).toInt64))), (.long ((pp1.toInt64) <<< ((32 : Int32) &&& 0x3f).toInt64))])) _
    refine st3 _ ?_
    show Steps p.tables e below (T3.setTop (mkF m 19 #[.val (.int pp1), .val (.int pp2), .val (.ref aa3), .val (.ref aa4)] [(.ref af), (.int os), (.long ((pp2.toInt64) * ((4 : Int32).toInt64))), (.long ((pp1.toInt64) <<< ((32 : Int32) &&& 0x3f).toInt64))])) _
    refine X3.arraylength hx (by rw [e3]; exact Ar_4.1) (State.isArrayOf_alike hZ.alike Ar_4.2.1) (g := (mkF m 19 #[.val (.int pp1), .val (.int pp2), .val (.ref aa3), .val (.ref aa4)] [(.ref af), (.int os), (.long ((pp2.toInt64) * ((4 : Int32).toInt64))), (.long ((pp1.toInt64) <<< ((32 : Int32) &&& 0x3f).toInt64))])) rfl rfl (hb hby d2_19) _ ?_
    rw [len_of Sz_4 Nn_4]
    show Steps p.tables e below (T3.setTop (mkF m 20 #[.val (.int pp1), .val (.int pp2), .val (.ref aa3), .val (.ref aa4)] [(.int (2 : Int32)), (.int os), (.long ((pp2.toInt64) * ((4 : Int32).toInt64))), (.long ((pp1.toInt64) <<< ((32 : Int32) &&& 0x3f).toInt64))])) _
    refine XS.imul X3.here hx rfl (hb hby d2_20) rfl ?_
    show Steps p.tables e below (T3.setTop (mkF m 21 #[.val (.int pp1), .val (.int pp2), .val (.ref aa3), .val (.ref aa4)] [(.int (os * (2 : Int32))), (.long ((pp2.toInt64) * ((4 : Int32).toInt64))), (.long ((pp1.toInt64) <<< ((32 : Int32) &&& 0x3f).toInt64))])) _
    refine XS.i2l X3.here hx rfl (hb hby d2_21) rfl ?_
    show Steps p.tables e below (T3.setTop (mkF m 22 #[.val (.int pp1), .val (.int pp2), .val (.ref aa3), .val (.ref aa4)] [(.long ((os * (2 : Int32)).toInt64)), (.long ((pp2.toInt64) * ((4 : Int32).toInt64))), (.long ((pp1.toInt64) <<< ((32 : Int32) &&& 0x3f).toInt64))])) _
    refine XS.ladd X3.here hx rfl (hb hby d2_22) rfl ?_
    show Steps p.tables e below (T3.setTop (mkF m 23 #[.val (.int pp1), .val (.int pp2), .val (.ref aa3), .val (.ref aa4)] [(.long (((pp2.toInt64) * ((4 : Int32).toInt64)) + ((os * (2 : Int32)).toInt64))), (.long ((pp1.toInt64) <<< ((32 : Int32) &&& 0x3f).toInt64))])) _
    refine XS.aloadN X3.here hx rfl (hb hby d2_23) rfl rfl ?_
    show Steps p.tables e below (T3.setTop (mkF m 24 #[.val (.int pp1), .val (.int pp2), .val (.ref aa3), .val (.ref aa4)] [(.ref aa4), (.long (((pp2.toInt64) * ((4 : Int32).toInt64)) + ((os * (2 : Int32)).toInt64))), (.long ((pp1.toInt64) <<< ((32 : Int32) &&& 0x3f).toInt64))])) _
    refine st5.trans ?_
    show Steps p.tables e below (T5.setTop (mkF m 27 #[.val (.int pp1), .val (.int pp2), .val (.ref aa3), .val (.ref aa4)] [(.int of_), (.long (((pp2.toInt64) * ((4 : Int32).toInt64)) + ((os * (2 : Int32)).toInt64))), (.long ((pp1.toInt64) <<< ((32 : Int32) &&& 0x3f).toInt64))])) _
    refine XS.i2l X5.here hx rfl (hb hby d2_27) rfl ?_
    show Steps p.tables e below (T5.setTop (mkF m 28 #[.val (.int pp1), .val (.int pp2), .val (.ref aa3), .val (.ref aa4)] [(.long (of_.toInt64)), (.long (((pp2.toInt64) * ((4 : Int32).toInt64)) + ((os * (2 : Int32)).toInt64))), (.long ((pp1.toInt64) <<< ((32 : Int32) &&& 0x3f).toInt64))])) _
    refine XS.ladd X5.here hx rfl (hb hby d2_28) rfl ?_
    show Steps p.tables e below (T5.setTop (mkF m 29 #[.val (.int pp1), .val (.int pp2), .val (.ref aa3), .val (.ref aa4)] [(.long ((((pp2.toInt64) * ((4 : Int32).toInt64)) + ((os * (2 : Int32)).toInt64)) + (of_.toInt64))), (.long ((pp1.toInt64) <<< ((32 : Int32) &&& 0x3f).toInt64))])) _
    refine XS.lor X5.here hx rfl (hb hby d2_29) rfl ?_
    show Steps p.tables e below (T5.setTop (mkF m 30 #[.val (.int pp1), .val (.int pp2), .val (.ref aa3), .val (.ref aa4)] [(.long (((pp1.toInt64) <<< ((32 : Int32) &&& 0x3f).toInt64) ||| ((((pp2.toInt64) * ((4 : Int32).toInt64)) + ((os * (2 : Int32)).toInt64)) + (of_.toInt64))))])) _
    exact retJ X5 hx Bd.returns (hb hby d2_30) hr
  · show Q2 Z pp1 pp2 aa3 aa4 af kf vf os of_ h0 n0 _ T5.heap _
    rw [e5]
    exact ⟨rfl, N5, rfl⟩
theorem d1_0 : decode prog_5_method_5_code 0 = .ok (.getstatic 30, 3) := by decide +kernel
theorem d1_3 : decode prog_5_method_5_code 3 = .ok (.lload_n 0, 1) := by decide +kernel
theorem d1_4 : decode prog_5_method_5_code 4 = .ok (.getstatic 9, 3) := by decide +kernel
theorem d1_7 : decode prog_5_method_5_code 7 = .ok (.i2l, 1) := by decide +kernel
theorem d1_8 : decode prog_5_method_5_code 8 = .ok (.lrem, 1) := by decide +kernel
theorem d1_9 : decode prog_5_method_5_code 9 = .ok (.l2i, 1) := by decide +kernel
theorem d1_10 : decode prog_5_method_5_code 10 = .ok (.getstatic 21, 3) := by decide +kernel
theorem d1_13 : decode prog_5_method_5_code 13 = .ok (.arraylength, 1) := by decide +kernel
theorem d1_14 : decode prog_5_method_5_code 14 = .ok (.idiv, 1) := by decide +kernel
theorem d1_15 : decode prog_5_method_5_code 15 = .ok (.aaload, 1) := by decide +kernel
theorem d1_16 : decode prog_5_method_5_code 16 = .ok (.areturn, 1) := by decide +kernel
theorem ef_1_0 (m : MethodId) (x0 : Int64) : entryFrame m #[(.long x0)] 2 = mkF m 0 #[.val (.long x0), .second] [] := by first | (simp [entryFrame, mkF, argsToLocals, Value.category]; done) | rfl
def Q1_0 (Z : State) (qq1 : Int64) (sl : Addr) (ss : Addr) (af : Addr) (kf : ClassId) (vf : List Value) (as_ : Addr) (ks : ClassId) (h0 : Heap) (n0 : Nat) (v : Option Value) (h : Heap) (L : List Loc) : Prop := v = some (.ref sl) ∧ Fr n0 L ∧ h = h0
set_option maxRecDepth 65536 in
set_option maxHeartbeats 40000000 in
theorem rm1_0 (l : Launch) (Z : State) (a0 : Array Value) (hw : ∀ d ∈ tables_1, d.before a0 Z = true) (ws : List Jvm.Cond) (qq1 : Int64) (sl : Addr) (ss : Addr) (af : Addr) (kf : ClassId) (vf : List Value) (as_ : Addr) (ks : ClassId) (h0 : Heap) (n0 : Nat) (Z0 : n0 ≤ h0.size) (O0 : Old Z n0 h0) (S_FLAGS : Sta Z Z.heap "com/example/tallyhouse/tallyhouse/book/LineKey" "FLAGS" "[Lcom/example/tallyhouse/tallyhouse/book/Flag;" (.ref af)) (S_SIDES : Sta Z Z.heap "com/example/tallyhouse/tallyhouse/book/LineKey" "SIDES" "[Lcom/example/tallyhouse/tallyhouse/book/Side;" (.ref as_)) (S_LINES : Sta Z Z.heap "com/example/tallyhouse/tallyhouse/book/LineKey" "LINES" "I" (.int (4 : Int32))) (V_af : Arv Z h0 af kf (.object "com/example/tallyhouse/tallyhouse/book/Flag") (2 : Int32) vf .null) (V_as_ : Arv Z h0 as_ ks (.object "com/example/tallyhouse/tallyhouse/book/Side") (2 : Int32) [(.ref sl), (.ref ss)] .null) (hidx : (((qq1 - (qq1 / ((4 : Int32).toInt64)) * ((4 : Int32).toInt64)).toInt32) / (2 : Int32)) = (0 : Int32)) :
    MetFree l (⟨"com/example/tallyhouse/tallyhouse/book/LineKey", "side", "(J)Lcom/example/tallyhouse/tallyhouse/book/Side;"⟩ : MethodName) (head1 (Jvm.Cond.code (⟨"com/example/tallyhouse/tallyhouse/book/LineKey", "side", "(J)Lcom/example/tallyhouse/tallyhouse/book/Side;"⟩ : MethodName) prog_5_method_5_code 2 (some (.object "com/example/tallyhouse/tallyhouse/book/Side")) :: ws) ({ frames := 0, cells := 0, slots := 0, locals := 0 } : Room)) (fun a U => a = #[(.long qq1)] ∧ Z.Warmed39 U.vm ∧ U.heap = h0) (fun _ _ _ _ _ => True) (fun _ U o U' => ∃ v L, o = .returned v ∧ Q1_0 Z qq1 sl ss af kf vf as_ ks h0 n0 v U'.heap L ∧ FrameEnd U o U' L ({ frames := 0, cells := 0, slots := 0, locals := 0 } : Room).cells ({ frames := 0, cells := 0, slots := 0, locals := 0 } : Room).slots) := by
  refine MetFree.of_bodySF (plainFor_of_name pn_com_example_tallyhouse_tallyhouse_book_LineKey) hisR ?_
  intro p e s m args below meth c s₁ Bd hml0 hP hK
  obtain ⟨rfl, hZ, hh⟩ := hP
  have hx := Bd.exec
  have hby := Bd.bytes
  have hml : c.maxLocals = 2 := hml0
  have hown : s.vm.findClass "com/example/tallyhouse/tallyhouse/book/LineKey" = some m.cls := findClass_of_methodNamed Bd.named
  have hnm := (name_of_methodNamed Bd.named Bd.method).1
  have X0 : Stand p l e ({ frames := 0, cells := 0, slots := 0, locals := 0 } : Room) s m #[(.long qq1)] below meth c s₁ [] 0 0 := Stand.of_body Bd
  have e0 : s₁.heap = h0 := by rw [← hh, Bd.state]; rfl
  have N0 := Fr.nil n0
  have pre0 : ∀ t, Steps p.tables e below (s₁.setTop (mkF m 0 #[.val (.long qq1), .second] [])) t → Steps p.tables e below (s₁.setTop (entryFrame m #[(.long qq1)] 2)) t := fun t k => castTop (ef_1_0 m qq1) k
  obtain ⟨T1, X1, e1, st1⟩ := getS2 X0 hx hZ hown (host := "") (Or.inl (hw _ (List.mem_of_getElem? (i := 9) rfl))) Via.refl e0 (S_SIDES.ext O0.2) (g := (mkF m 0 #[.val (.long qq1), .second] [])) rfl (hb hby d1_0)
  obtain ⟨T2, X2, e2, st2⟩ := getS2 X1 hx hZ hown (host := "") (Or.inl (hw _ (List.mem_of_getElem? (i := 11) rfl))) Via.refl e1 (S_LINES.ext O0.2) (g := (mkF m 4 #[.val (.long qq1), .second] [(.long qq1), (.ref as_)])) rfl (hb hby d1_4)
  have hc8 : ((4 : Int32).toInt64) ≠ (0 : Int64) := (by decide)
  obtain ⟨T3, X3, e3, st3⟩ := getS2 X2 hx hZ hown (host := "") (Or.inl (hw _ (List.mem_of_getElem? (i := 13) rfl))) Via.refl e2 (S_FLAGS.ext O0.2) (g := (mkF m 10 #[.val (.long qq1), .second] [(.int ((qq1 - (qq1 / ((4 : Int32).toInt64)) * ((4 : Int32).toInt64)).toInt32)), (.ref as_)])) rfl (hb hby d1_10)
  obtain ⟨cl_4, Ar_4, -, Sz_4, Nn_4, -, -⟩ := id V_af
  have hc14 : (2 : Int32) ≠ (0 : Int32) := (by decide)
  have pre5 : ∀ t, Steps p.tables e below (T3.setTop (mkF m 15 #[.val (.long qq1), .second] [(.int (((qq1 - (qq1 / ((4 : Int32).toInt64)) * ((4 : Int32).toInt64)).toInt32) / (2 : Int32))), (.ref as_)])) t → Steps p.tables e below (s₁.setTop (entryFrame m #[(.long qq1)] 2)) t := fun t kt => pre0 t (by
    show Steps p.tables e below (s₁.setTop (mkF m 0 #[.val (.long qq1), .second] [])) _
    refine st1 _ ?_
    show Steps p.tables e below (T1.setTop (mkF m 3 #[.val (.long qq1), .second] [(.ref as_)])) _
    refine XS.lloadN X1.here hx rfl (hb hby d1_3) rfl ?_
    show Steps p.tables e below (T1.setTop (mkF m 4 #[.val (.long qq1), .second] [(.long qq1), (.ref as_)])) _
    refine st2 _ ?_
    show Steps p.tables e below (T2.setTop (mkF m 7 #[.val (.long qq1), .second] [(.int (4 : Int32)), (.long qq1), (.ref as_)])) _
    refine XS.i2l X2.here hx rfl (hb hby d1_7) rfl ?_
    show Steps p.tables e below (T2.setTop (mkF m 8 #[.val (.long qq1), .second] [(.long ((4 : Int32).toInt64)), (.long qq1), (.ref as_)])) _
    refine XS.lrem X2.here hx rfl (hb hby d1_8) rfl hc8 ?_
    show Steps p.tables e below (T2.setTop (mkF m 9 #[.val (.long qq1), .second] [(.long (qq1 - (qq1 / ((4 : Int32).toInt64)) * ((4 : Int32).toInt64))), (.ref as_)])) _
    refine XS.l2i X2.here hx rfl (hb hby d1_9) rfl ?_
    show Steps p.tables e below (T2.setTop (mkF m 10 #[.val (.long qq1), .second] [(.int ((qq1 - (qq1 / ((4 : Int32).toInt64)) * ((4 : Int32).toInt64)).toInt32)), (.ref as_)])) _
    refine st3 _ ?_
    show Steps p.tables e below (T3.setTop (mkF m 13 #[.val (.long qq1), .second] [(.ref af), (.int ((qq1 - (qq1 / ((4 : Int32).toInt64)) * ((4 : Int32).toInt64)).toInt32)), (.ref as_)])) _
    refine X3.arraylength hx (by rw [e3]; exact Ar_4.1) (State.isArrayOf_alike hZ.alike Ar_4.2.1) (g := (mkF m 13 #[.val (.long qq1), .second] [(.ref af), (.int ((qq1 - (qq1 / ((4 : Int32).toInt64)) * ((4 : Int32).toInt64)).toInt32)), (.ref as_)])) rfl rfl (hb hby d1_13) _ ?_
    rw [len_of Sz_4 Nn_4]
    show Steps p.tables e below (T3.setTop (mkF m 14 #[.val (.long qq1), .second] [(.int (2 : Int32)), (.int ((qq1 - (qq1 / ((4 : Int32).toInt64)) * ((4 : Int32).toInt64)).toInt32)), (.ref as_)])) _
    refine XS.idiv X3.here hx rfl (hb hby d1_14) rfl hc14 ?_
    exact kt)
  obtain ⟨ix, h_ix, pre6⟩ : ∃ (ix : Int32), (ix = (0 : Int32)) ∧ ∀ t, Steps p.tables e below (T3.setTop (mkF m 15 #[.val (.long qq1), .second] [(.int ix), (.ref as_)])) t → Steps p.tables e below (s₁.setTop (entryFrame m #[(.long qq1)] 2)) t := ⟨(((qq1 - (qq1 / ((4 : Int32).toInt64)) * ((4 : Int32).toInt64)).toInt32) / (2 : Int32)), hidx, pre5⟩
  subst h_ix
  obtain ⟨cl_7, Ar_7, qq_7, Sz_7, Nn_7, Hh_7, Gg_7⟩ := id V_as_
  have hin_7 : ¬ ((0 : Int32) < 0 ∨ cl_7.slots.size ≤ ((0 : Int32)).toNatClampNeg) := inb_of Sz_7 ⟨by decide, by decide⟩
  have hat_7 : cl_7.slots[((0 : Int32)).toNatClampNeg]? = some (.ref sl) := Has.at Hh_7 hin_7 rfl
  obtain ⟨fs, hr, hrun, hended, hW, hsame⟩ := X3.leave (v := some (.ref sl)) (fun h => by rw [Bd.returns] at h; cases h)
  refine ⟨_, _, pre6 _ ?_, hrun, hended, _, _, rfl, ?_, ⟨_, rfl⟩, hW, hsame.mono (by decide) (by decide)⟩
  · show Steps p.tables e below (T3.setTop (mkF m 15 #[.val (.long qq1), .second] [(.int (0 : Int32)), (.ref as_)])) _
    refine X3.aaload hx (j := (0 : Int32)) (v := (.ref sl)) (by rw [e3]; exact Ar_7.1) (State.isArrayOf_alike hZ.alike Ar_7.2.1) rfl Ar_7.2.2 hin_7 hat_7 (g := (mkF m 15 #[.val (.long qq1), .second] [(.int (0 : Int32)), (.ref as_)])) rfl rfl (hb hby d1_15) _ ?_
    show Steps p.tables e below (T3.setTop (mkF m 16 #[.val (.long qq1), .second] [(.ref sl)])) _
    jvm_step X3.here [X3.here.top, hx, (hb hby d1_16), X3.method', Bd.returns, Value.isRef, FieldType.isReference]
    first | (intro acts; rw [hr _ acts rfl rfl rfl]) | rw [hr _ _ rfl rfl rfl]
    exact Steps.refl _
  · show Q1_0 Z qq1 sl ss af kf vf as_ ks h0 n0 _ T3.heap _
    rw [e3]
    exact ⟨rfl, N0, rfl⟩
theorem ef_1_1 (m : MethodId) (x0 : Int64) : entryFrame m #[(.long x0)] 2 = mkF m 0 #[.val (.long x0), .second] [] := by first | (simp [entryFrame, mkF, argsToLocals, Value.category]; done) | rfl
def Q1_1 (Z : State) (qq1 : Int64) (sl : Addr) (ss : Addr) (af : Addr) (kf : ClassId) (vf : List Value) (as_ : Addr) (ks : ClassId) (h0 : Heap) (n0 : Nat) (v : Option Value) (h : Heap) (L : List Loc) : Prop := v = some (.ref ss) ∧ Fr n0 L ∧ h = h0
set_option maxRecDepth 65536 in
set_option maxHeartbeats 40000000 in
theorem rm1_1 (l : Launch) (Z : State) (a0 : Array Value) (hw : ∀ d ∈ tables_1, d.before a0 Z = true) (ws : List Jvm.Cond) (qq1 : Int64) (sl : Addr) (ss : Addr) (af : Addr) (kf : ClassId) (vf : List Value) (as_ : Addr) (ks : ClassId) (h0 : Heap) (n0 : Nat) (Z0 : n0 ≤ h0.size) (O0 : Old Z n0 h0) (S_FLAGS : Sta Z Z.heap "com/example/tallyhouse/tallyhouse/book/LineKey" "FLAGS" "[Lcom/example/tallyhouse/tallyhouse/book/Flag;" (.ref af)) (S_SIDES : Sta Z Z.heap "com/example/tallyhouse/tallyhouse/book/LineKey" "SIDES" "[Lcom/example/tallyhouse/tallyhouse/book/Side;" (.ref as_)) (S_LINES : Sta Z Z.heap "com/example/tallyhouse/tallyhouse/book/LineKey" "LINES" "I" (.int (4 : Int32))) (V_af : Arv Z h0 af kf (.object "com/example/tallyhouse/tallyhouse/book/Flag") (2 : Int32) vf .null) (V_as_ : Arv Z h0 as_ ks (.object "com/example/tallyhouse/tallyhouse/book/Side") (2 : Int32) [(.ref sl), (.ref ss)] .null) (hidx : (((qq1 - (qq1 / ((4 : Int32).toInt64)) * ((4 : Int32).toInt64)).toInt32) / (2 : Int32)) = (1 : Int32)) :
    MetFree l (⟨"com/example/tallyhouse/tallyhouse/book/LineKey", "side", "(J)Lcom/example/tallyhouse/tallyhouse/book/Side;"⟩ : MethodName) (head1 (Jvm.Cond.code (⟨"com/example/tallyhouse/tallyhouse/book/LineKey", "side", "(J)Lcom/example/tallyhouse/tallyhouse/book/Side;"⟩ : MethodName) prog_5_method_5_code 2 (some (.object "com/example/tallyhouse/tallyhouse/book/Side")) :: ws) ({ frames := 0, cells := 0, slots := 0, locals := 0 } : Room)) (fun a U => a = #[(.long qq1)] ∧ Z.Warmed39 U.vm ∧ U.heap = h0) (fun _ _ _ _ _ => True) (fun _ U o U' => ∃ v L, o = .returned v ∧ Q1_1 Z qq1 sl ss af kf vf as_ ks h0 n0 v U'.heap L ∧ FrameEnd U o U' L ({ frames := 0, cells := 0, slots := 0, locals := 0 } : Room).cells ({ frames := 0, cells := 0, slots := 0, locals := 0 } : Room).slots) := by
  refine MetFree.of_bodySF (plainFor_of_name pn_com_example_tallyhouse_tallyhouse_book_LineKey) hisR ?_
  intro p e s m args below meth c s₁ Bd hml0 hP hK
  obtain ⟨rfl, hZ, hh⟩ := hP
  have hx := Bd.exec
  have hby := Bd.bytes
  have hml : c.maxLocals = 2 := hml0
  have hown : s.vm.findClass "com/example/tallyhouse/tallyhouse/book/LineKey" = some m.cls := findClass_of_methodNamed Bd.named
  have hnm := (name_of_methodNamed Bd.named Bd.method).1
  have X0 : Stand p l e ({ frames := 0, cells := 0, slots := 0, locals := 0 } : Room) s m #[(.long qq1)] below meth c s₁ [] 0 0 := Stand.of_body Bd
  have e0 : s₁.heap = h0 := by rw [← hh, Bd.state]; rfl
  have N0 := Fr.nil n0
  have pre0 : ∀ t, Steps p.tables e below (s₁.setTop (mkF m 0 #[.val (.long qq1), .second] [])) t → Steps p.tables e below (s₁.setTop (entryFrame m #[(.long qq1)] 2)) t := fun t k => castTop (ef_1_1 m qq1) k
  obtain ⟨T1, X1, e1, st1⟩ := getS2 X0 hx hZ hown (host := "") (Or.inl (hw _ (List.mem_of_getElem? (i := 9) rfl))) Via.refl e0 (S_SIDES.ext O0.2) (g := (mkF m 0 #[.val (.long qq1), .second] [])) rfl (hb hby d1_0)
  obtain ⟨T2, X2, e2, st2⟩ := getS2 X1 hx hZ hown (host := "") (Or.inl (hw _ (List.mem_of_getElem? (i := 11) rfl))) Via.refl e1 (S_LINES.ext O0.2) (g := (mkF m 4 #[.val (.long qq1), .second] [(.long qq1), (.ref as_)])) rfl (hb hby d1_4)
  have hc8 : ((4 : Int32).toInt64) ≠ (0 : Int64) := (by decide)
  obtain ⟨T3, X3, e3, st3⟩ := getS2 X2 hx hZ hown (host := "") (Or.inl (hw _ (List.mem_of_getElem? (i := 13) rfl))) Via.refl e2 (S_FLAGS.ext O0.2) (g := (mkF m 10 #[.val (.long qq1), .second] [(.int ((qq1 - (qq1 / ((4 : Int32).toInt64)) * ((4 : Int32).toInt64)).toInt32)), (.ref as_)])) rfl (hb hby d1_10)
  obtain ⟨cl_4, Ar_4, -, Sz_4, Nn_4, -, -⟩ := id V_af
  have hc14 : (2 : Int32) ≠ (0 : Int32) := (by decide)
  have pre5 : ∀ t, Steps p.tables e below (T3.setTop (mkF m 15 #[.val (.long qq1), .second] [(.int (((qq1 - (qq1 / ((4 : Int32).toInt64)) * ((4 : Int32).toInt64)).toInt32) / (2 : Int32))), (.ref as_)])) t → Steps p.tables e below (s₁.setTop (entryFrame m #[(.long qq1)] 2)) t := fun t kt => pre0 t (by
    show Steps p.tables e below (s₁.setTop (mkF m 0 #[.val (.long qq1), .second] [])) _
    refine st1 _ ?_
    show Steps p.tables e below (T1.setTop (mkF m 3 #[.val (.long qq1), .second] [(.ref as_)])) _
    refine XS.lloadN X1.here hx rfl (hb hby d1_3) rfl ?_
    show Steps p.tables e below (T1.setTop (mkF m 4 #[.val (.long qq1), .second] [(.long qq1), (.ref as_)])) _
    refine st2 _ ?_
    show Steps p.tables e below (T2.setTop (mkF m 7 #[.val (.long qq1), .second] [(.int (4 : Int32)), (.long qq1), (.ref as_)])) _
    refine XS.i2l X2.here hx rfl (hb hby d1_7) rfl ?_
    show Steps p.tables e below (T2.setTop (mkF m 8 #[.val (.long qq1), .second] [(.long ((4 : Int32).toInt64)), (.long qq1), (.ref as_)])) _
    refine XS.lrem X2.here hx rfl (hb hby d1_8) rfl hc8 ?_
    show Steps p.tables e below (T2.setTop (mkF m 9 #[.val (.long qq1), .second] [(.long (qq1 - (qq1 / ((4 : Int32).toInt64)) * ((4 : Int32).toInt64))), (.ref as_)])) _
    refine XS.l2i X2.here hx rfl (hb hby d1_9) rfl ?_
    show Steps p.tables e below (T2.setTop (mkF m 10 #[.val (.long qq1), .second] [(.int ((qq1 - (qq1 / ((4 : Int32).toInt64)) * ((4 : Int32).toInt64)).toInt32)), (.ref as_)])) _
    refine st3 _ ?_
    show Steps p.tables e below (T3.setTop (mkF m 13 #[.val (.long qq1), .second] [(.ref af), (.int ((qq1 - (qq1 / ((4 : Int32).toInt64)) * ((4 : Int32).toInt64)).toInt32)), (.ref as_)])) _
    refine X3.arraylength hx (by rw [e3]; exact Ar_4.1) (State.isArrayOf_alike hZ.alike Ar_4.2.1) (g := (mkF m 13 #[.val (.long qq1), .second] [(.ref af), (.int ((qq1 - (qq1 / ((4 : Int32).toInt64)) * ((4 : Int32).toInt64)).toInt32)), (.ref as_)])) rfl rfl (hb hby d1_13) _ ?_
    rw [len_of Sz_4 Nn_4]
    show Steps p.tables e below (T3.setTop (mkF m 14 #[.val (.long qq1), .second] [(.int (2 : Int32)), (.int ((qq1 - (qq1 / ((4 : Int32).toInt64)) * ((4 : Int32).toInt64)).toInt32)), (.ref as_)])) _
    refine XS.idiv X3.here hx rfl (hb hby d1_14) rfl hc14 ?_
    exact kt)
  obtain ⟨ix, h_ix, pre6⟩ : ∃ (ix : Int32), (ix = (1 : Int32)) ∧ ∀ t, Steps p.tables e below (T3.setTop (mkF m 15 #[.val (.long qq1), .second] [(.int ix), (.ref as_)])) t → Steps p.tables e below (s₁.setTop (entryFrame m #[(.long qq1)] 2)) t := ⟨(((qq1 - (qq1 / ((4 : Int32).toInt64)) * ((4 : Int32).toInt64)).toInt32) / (2 : Int32)), hidx, pre5⟩
  subst h_ix
  obtain ⟨cl_7, Ar_7, qq_7, Sz_7, Nn_7, Hh_7, Gg_7⟩ := id V_as_
  have hin_7 : ¬ ((1 : Int32) < 0 ∨ cl_7.slots.size ≤ ((1 : Int32)).toNatClampNeg) := inb_of Sz_7 ⟨by decide, by decide⟩
  have hat_7 : cl_7.slots[((1 : Int32)).toNatClampNeg]? = some (.ref ss) := Has.at Hh_7 hin_7 rfl
  obtain ⟨fs, hr, hrun, hended, hW, hsame⟩ := X3.leave (v := some (.ref ss)) (fun h => by rw [Bd.returns] at h; cases h)
  refine ⟨_, _, pre6 _ ?_, hrun, hended, _, _, rfl, ?_, ⟨_, rfl⟩, hW, hsame.mono (by decide) (by decide)⟩
  · show Steps p.tables e below (T3.setTop (mkF m 15 #[.val (.long qq1), .second] [(.int (1 : Int32)), (.ref as_)])) _
    refine X3.aaload hx (j := (1 : Int32)) (v := (.ref ss)) (by rw [e3]; exact Ar_7.1) (State.isArrayOf_alike hZ.alike Ar_7.2.1) rfl Ar_7.2.2 hin_7 hat_7 (g := (mkF m 15 #[.val (.long qq1), .second] [(.int (1 : Int32)), (.ref as_)])) rfl rfl (hb hby d1_15) _ ?_
    show Steps p.tables e below (T3.setTop (mkF m 16 #[.val (.long qq1), .second] [(.ref ss)])) _
    jvm_step X3.here [X3.here.top, hx, (hb hby d1_16), X3.method', Bd.returns, Value.isRef, FieldType.isReference]
    first | (intro acts; rw [hr _ acts rfl rfl rfl]) | rw [hr _ _ rfl rfl rfl]
    exact Steps.refl _
  · show Q1_1 Z qq1 sl ss af kf vf as_ ks h0 n0 _ T3.heap _
    rw [e3]
    exact ⟨rfl, N0, rfl⟩
theorem pd__28_J_29_Lcom_2f_example_2f_tallyhouse_2f_tallyhouse_2f_book_2f_Side_3b_ : parseMethodDescriptor "(J)Lcom/example/tallyhouse/tallyhouse/book/Side;" = some ⟨[.long], some (.object "com/example/tallyhouse/tallyhouse/book/Side")⟩ := by decide +kernel
theorem pd__28_IILcom_2f_example_2f_tallyhouse_2f_tallyhouse_2f_book_2f_Side_3b_Lcom_2f_example_2f_tallyhouse_2f_tallyhouse_2f_book_2f_Flag_3b__29_J : parseMethodDescriptor "(IILcom/example/tallyhouse/tallyhouse/book/Side;Lcom/example/tallyhouse/tallyhouse/book/Flag;)J" = some ⟨[.int, .int, (.object "com/example/tallyhouse/tallyhouse/book/Side"), (.object "com/example/tallyhouse/tallyhouse/book/Flag")], some .long⟩ := by decide +kernel
theorem pn_com_example_tallyhouse_tallyhouse_book_LineKeySidePinLaw : plainName "com/example/tallyhouse/tallyhouse/book/LineKeySidePinLaw" = true := by first | (simp [plainName, overriddenIn]; done) | decide +kernel
theorem ef_0 (m : MethodId) (x0 : Int64) (x1 : Int32) (x2 : Int32) (x3 : Int32) : entryFrame m #[(.long x0), (.int x1), (.int x2), (.int x3)] maxLocals = mkF m 0 #[.val (.long x0), .second, .val (.int x1), .val (.int x2), .val (.int x3), .unset, .unset, .unset, .unset, .unset, .unset, .unset, .unset, .unset] [] := by first | (simp [entryFrame, mkF, argsToLocals, Value.category, maxLocals]; done) | rfl
def Q0 (Z : State) (qq1 : Int64) (pp2 : Int32) (pp3 : Int32) (pp4 : Int32) (fh : Addr) (fz : Addr) (sl : Addr) (ss : Addr) (af : Addr) (kf : ClassId) (vf : List Value) (as_ : Addr) (ks : ClassId) (h0 : Heap) (n0 : Nat) (v : Option Value) (h : Heap) (L : List Loc) : Prop := v = some (.int 1) ∧ Fr n0 L
set_option maxRecDepth 65536 in
set_option maxHeartbeats 40000000 in
theorem rm0 (l : Launch) (Z : State) (a0 : Array Value) (hw : ∀ d ∈ tables_1, d.before a0 Z = true) (ws : List Jvm.Cond) (qq1 : Int64) (pp2 : Int32) (pp3 : Int32) (pp4 : Int32) (fh : Addr) (fz : Addr) (sl : Addr) (ss : Addr) (af : Addr) (kf : ClassId) (vf : List Value) (as_ : Addr) (ks : ClassId) (h0 : Heap) (n0 : Nat) (Z0 : n0 ≤ h0.size) (O0 : Old Z n0 h0) (S_HEDGE : Sta Z Z.heap "com/example/tallyhouse/tallyhouse/book/Flag" "HEDGE" "Lcom/example/tallyhouse/tallyhouse/book/Flag;" (.ref fh)) (S_SPEC : Sta Z Z.heap "com/example/tallyhouse/tallyhouse/book/Flag" "SPEC" "Lcom/example/tallyhouse/tallyhouse/book/Flag;" (.ref fz)) (S_LONG : Sta Z Z.heap "com/example/tallyhouse/tallyhouse/book/Side" "LONG" "Lcom/example/tallyhouse/tallyhouse/book/Side;" (.ref sl)) (S_SHORT : Sta Z Z.heap "com/example/tallyhouse/tallyhouse/book/Side" "SHORT" "Lcom/example/tallyhouse/tallyhouse/book/Side;" (.ref ss)) (S_FLAGS : Sta Z Z.heap "com/example/tallyhouse/tallyhouse/book/LineKey" "FLAGS" "[Lcom/example/tallyhouse/tallyhouse/book/Flag;" (.ref af)) (S_SIDES : Sta Z Z.heap "com/example/tallyhouse/tallyhouse/book/LineKey" "SIDES" "[Lcom/example/tallyhouse/tallyhouse/book/Side;" (.ref as_)) (S_LINES : Sta Z Z.heap "com/example/tallyhouse/tallyhouse/book/LineKey" "LINES" "I" (.int (4 : Int32))) (V_af : Arv Z h0 af kf (.object "com/example/tallyhouse/tallyhouse/book/Flag") (2 : Int32) vf .null) (V_as_ : Arv Z h0 as_ ks (.object "com/example/tallyhouse/tallyhouse/book/Side") (2 : Int32) [(.ref sl), (.ref ss)] .null) (E_fh : Exa Z h0 fh "com/example/tallyhouse/tallyhouse/book/Flag") (E_fz : Exa Z h0 fz "com/example/tallyhouse/tallyhouse/book/Flag") (E_sl : Exa Z h0 sl "com/example/tallyhouse/tallyhouse/book/Side") (E_ss : Exa Z h0 ss "com/example/tallyhouse/tallyhouse/book/Side") (F_fh_ordinal : Fld Z h0 fh "java/lang/Enum" "ordinal" "I" (.int (0 : Int32))) (F_fz_ordinal : Fld Z h0 fz "java/lang/Enum" "ordinal" "I" (.int (1 : Int32))) (F_sl_ordinal : Fld Z h0 sl "java/lang/Enum" "ordinal" "I" (.int (0 : Int32))) (F_ss_ordinal : Fld Z h0 ss "java/lang/Enum" "ordinal" "I" (.int (1 : Int32))) :
    MetFree l x (head1 (Jvm.Cond.code x code maxLocals ret :: ws) room_1) (fun a U => a = #[(.long qq1), (.int pp2), (.int pp3), (.int pp4)] ∧ Z.Warmed39 U.vm ∧ U.heap = h0) (fun _ _ _ _ _ => True) (fun _ U o U' => ∃ v L, o = .returned v ∧ Q0 Z qq1 pp2 pp3 pp4 fh fz sl ss af kf vf as_ ks h0 n0 v U'.heap L ∧ FrameEnd U o U' L room_1.cells room_1.slots) := by
  refine MetFree.of_bodySF (plainFor_of_name pn_com_example_tallyhouse_tallyhouse_book_LineKeySidePinLaw) hisR ?_
  intro p e s m args below meth c s₁ Bd hml0 hP hK
  obtain ⟨rfl, hZ, hh⟩ := hP
  have hx := Bd.exec
  have hby := Bd.bytes
  have hml : c.maxLocals = 14 := hml0
  have hown : s.vm.findClass "com/example/tallyhouse/tallyhouse/book/LineKeySidePinLaw" = some m.cls := findClass_of_methodNamed Bd.named
  have hnm := (name_of_methodNamed Bd.named Bd.method).1
  have X0 : Stand p l e room_1 s m #[(.long qq1), (.int pp2), (.int pp3), (.int pp4)] below meth c s₁ [] 0 0 := Stand.of_body Bd
  have e0 : s₁.heap = h0 := by rw [← hh, Bd.state]; rfl
  have N0 := Fr.nil n0
  have pre0 : ∀ t, Steps p.tables e below (s₁.setTop (mkF m 0 #[.val (.long qq1), .second, .val (.int pp2), .val (.int pp3), .val (.int pp4), .unset, .unset, .unset, .unset, .unset, .unset, .unset, .unset, .unset] [])) t → Steps p.tables e below (s₁.setTop (entryFrame m #[(.long qq1), (.int pp2), (.int pp3), (.int pp4)] maxLocals)) t := fun t k => castTop (ef_0 m qq1 pp2 pp3 pp4) k
  have pre1 : ∀ t, Steps p.tables e below (s₁.setTop (mkF m 7 #[.val (.long qq1), .second, .val (.int pp2), .val (.int pp3), .val (.int pp4), .val (.long (qq1 &&& (9223372036854775807 : Int64))), .second, .unset, .unset, .unset, .unset, .unset, .unset, .unset] [])) t → Steps p.tables e below (s₁.setTop (entryFrame m #[(.long qq1), (.int pp2), (.int pp3), (.int pp4)] maxLocals)) t := fun t kt => pre0 t (by
    show Steps p.tables e below (s₁.setTop (mkF m 0 #[.val (.long qq1), .second, .val (.int pp2), .val (.int pp3), .val (.int pp4), .unset, .unset, .unset, .unset, .unset, .unset, .unset, .unset, .unset] [])) _
    refine XS.lloadN X0.here hx rfl (hb hby at_0) rfl ?_
    show Steps p.tables e below (s₁.setTop (mkF m 1 #[.val (.long qq1), .second, .val (.int pp2), .val (.int pp3), .val (.int pp4), .unset, .unset, .unset, .unset, .unset, .unset, .unset, .unset, .unset] [(.long qq1)])) _
    refine X0.ldc2Long hx hown (mvT hZ (hw _ (List.mem_of_getElem? (i := 0) rfl))) (g := (mkF m 1 #[.val (.long qq1), .second, .val (.int pp2), .val (.int pp3), .val (.int pp4), .unset, .unset, .unset, .unset, .unset, .unset, .unset, .unset, .unset] [(.long qq1)])) rfl (hb hby at_1) _ ?_
    show Steps p.tables e below (s₁.setTop (mkF m 4 #[.val (.long qq1), .second, .val (.int pp2), .val (.int pp3), .val (.int pp4), .unset, .unset, .unset, .unset, .unset, .unset, .unset, .unset, .unset] [(.long (9223372036854775807 : Int64)), (.long qq1)])) _
    refine XS.land X0.here hx rfl (hb hby at_4) rfl ?_
    show Steps p.tables e below (s₁.setTop (mkF m 5 #[.val (.long qq1), .second, .val (.int pp2), .val (.int pp3), .val (.int pp4), .unset, .unset, .unset, .unset, .unset, .unset, .unset, .unset, .unset] [(.long (qq1 &&& (9223372036854775807 : Int64)))])) _
    refine XS.lstore X0.here hx rfl (hb hby at_5) rfl (l' := #[.val (.long qq1), .second, .val (.int pp2), .val (.int pp3), .val (.int pp4), .val (.long (qq1 &&& (9223372036854775807 : Int64))), .second, .unset, .unset, .unset, .unset, .unset, .unset, .unset]) rfl ?_
    exact kt)
  obtain ⟨kk, h_kk, pre2⟩ : ∃ (kk : Int64), (0 ≤ kk.toInt) ∧ ∀ t, Steps p.tables e below (s₁.setTop (mkF m 7 #[.val (.long qq1), .second, .val (.int pp2), .val (.int pp3), .val (.int pp4), .val (.long kk), .second, .unset, .unset, .unset, .unset, .unset, .unset, .unset] [])) t → Steps p.tables e below (s₁.setTop (entryFrame m #[(.long qq1), (.int pp2), (.int pp3), (.int pp4)] maxLocals)) t := ⟨(qq1 &&& (9223372036854775807 : Int64)), own_nonneg _, pre1⟩
  obtain ⟨f7, T3, L3, X3, e3, N3, pre3⟩ : ∃ (f7 : Addr) (T' : State) (L' : List Loc), Stand p l e room_1 s m #[(.long qq1), (.int pp2), (.int pp3), (.int pp4)] below meth c T' L' 0 0 ∧ T'.heap = h0 ∧ Fr n0 L' ∧ ∀ t, Steps p.tables e below (T'.setTop (mkF m 46 #[.val (.long qq1), .second, .val (.int pp2), .val (.int pp3), .val (.int pp4), .val (.long kk), .second, .val (.ref f7), .val (.int (1 : Int32)), .unset, .unset, .unset, .unset, .unset] [])) t → Steps p.tables e below (s₁.setTop (entryFrame m #[(.long qq1), (.int pp2), (.int pp3), (.int pp4)] maxLocals)) t := by
    have pre4 : ∀ t, Steps p.tables e below (s₁.setTop (mkF m 15 #[.val (.long qq1), .second, .val (.int pp2), .val (.int pp3), .val (.int pp4), .val (.long kk), .second, .unset, .unset, .unset, .unset, .unset, .unset, .unset] [(.int (lcmpW (kk &&& (2 : Int64)) (0 : Int64)))])) t → Steps p.tables e below (s₁.setTop (entryFrame m #[(.long qq1), (.int pp2), (.int pp3), (.int pp4)] maxLocals)) t := fun t kt => pre2 t (by
      show Steps p.tables e below (s₁.setTop (mkF m 7 #[.val (.long qq1), .second, .val (.int pp2), .val (.int pp3), .val (.int pp4), .val (.long kk), .second, .unset, .unset, .unset, .unset, .unset, .unset, .unset] [])) _
      refine XS.lload X0.here hx rfl (hb hby at_7) rfl ?_
      show Steps p.tables e below (s₁.setTop (mkF m 9 #[.val (.long qq1), .second, .val (.int pp2), .val (.int pp3), .val (.int pp4), .val (.long kk), .second, .unset, .unset, .unset, .unset, .unset, .unset, .unset] [(.long kk)])) _
      refine X0.ldc2Long hx hown (mvT hZ (hw _ (List.mem_of_getElem? (i := 1) rfl))) (g := (mkF m 9 #[.val (.long qq1), .second, .val (.int pp2), .val (.int pp3), .val (.int pp4), .val (.long kk), .second, .unset, .unset, .unset, .unset, .unset, .unset, .unset] [(.long kk)])) rfl (hb hby at_9) _ ?_
      show Steps p.tables e below (s₁.setTop (mkF m 12 #[.val (.long qq1), .second, .val (.int pp2), .val (.int pp3), .val (.int pp4), .val (.long kk), .second, .unset, .unset, .unset, .unset, .unset, .unset, .unset] [(.long (2 : Int64)), (.long kk)])) _
      refine XS.land X0.here hx rfl (hb hby at_12) rfl ?_
      show Steps p.tables e below (s₁.setTop (mkF m 13 #[.val (.long qq1), .second, .val (.int pp2), .val (.int pp3), .val (.int pp4), .val (.long kk), .second, .unset, .unset, .unset, .unset, .unset, .unset, .unset] [(.long (kk &&& (2 : Int64)))])) _
      refine XS.lconst X0.here hx rfl (hb hby at_13) ?_
      show Steps p.tables e below (s₁.setTop (mkF m 14 #[.val (.long qq1), .second, .val (.int pp2), .val (.int pp3), .val (.int pp4), .val (.long kk), .second, .unset, .unset, .unset, .unset, .unset, .unset, .unset] [(.long (0 : Int64)), (.long (kk &&& (2 : Int64)))])) _
      refine XS.lcmp X0.here hx rfl (hb hby at_14) rfl ?_
      exact kt)
    by_cases hc15 : (kk &&& (2 : Int64)) = (0 : Int64)
    · skip
      obtain ⟨T5, X5, e5, st5⟩ := getS2 X0 hx hZ hown (host := "") (Or.inl (hw _ (List.mem_of_getElem? (i := 15) rfl))) Via.refl e0 (S_LONG.ext O0.2) (g := (mkF m 18 #[.val (.long qq1), .second, .val (.int pp2), .val (.int pp3), .val (.int pp4), .val (.long kk), .second, .unset, .unset, .unset, .unset, .unset, .unset, .unset] [])) rfl (hb hby at_18)
      obtain ⟨_, _, ⟨T6, L6, k6, n6⟩, -, X6, ⟨Lc6, hQ6, l6, y6, z6⟩, st6⟩ := Jvm.LawKit.callS X5 hx (y := (⟨"com/example/tallyhouse/tallyhouse/book/LineKey", "side", "(J)Lcom/example/tallyhouse/tallyhouse/book/Side;"⟩ : MethodName)) hown (mvT hZ (hw _ (List.mem_of_getElem? (i := 5) rfl))) (mvT hZ (hw _ (List.mem_of_getElem? (i := 6) rfl))) (mvT hZ (hw _ (List.mem_of_getElem? (i := 7) rfl))) (mvT hZ (hw _ (List.mem_of_getElem? (i := 8) rfl))) (by decide) (backOf (W := 0) (rm1_0 l Z a0 hw [] kk sl ss af kf vf as_ ks h0 n0 Z0 O0 S_FLAGS S_SIDES S_LINES V_af V_as_ (show (((kk - (kk / ((4 : Int32).toInt64)) * ((4 : Int32).toInt64)).toInt32) / (2 : Int32)) = (0 : Int32) from own_raw0 h_kk hc15)) hZ (hw _ (List.mem_of_getElem? (i := 8) rfl)) (hw _ (List.mem_of_getElem? (i := 7) rfl)) (by decide) (by decide)) (g := (mkF m 31 #[.val (.long qq1), .second, .val (.int pp2), .val (.int pp3), .val (.int pp4), .val (.long kk), .second, .val (.ref sl), .unset, .unset, .unset, .unset, .unset, .unset] [(.long kk)])) rfl (by rw [hml]; rfl) (argsL := [(.long kk)]) (rest := []) (lenOf pd__28_J_29_Lcom_2f_example_2f_tallyhouse_2f_tallyhouse_2f_book_2f_Side_3b_ rfl) rfl (by show 2 * 0 + _ ≤ _; exact Nat.le_of_eq rfl) (hb hby at_31) (fun _ _ => ⟨rfl, e5, (by decide : 0 + 0 ≤ _), (by decide : 0 + 0 ≤ _)⟩)
      dsimp only [Pt.U, Pt.locs, Pt.cells, Pt.slots] at X6 l6 y6 z6 st6 hQ6
      subst l6 y6 z6
      obtain ⟨rfl, N6q, e6⟩ := hQ6
      have N6 := Fr.app N0 N6q
      exact ⟨sl, _, _, X6, e6, N6, fun t kt => pre4 t (by
          show Steps p.tables e below (s₁.setTop (mkF m 15 #[.val (.long qq1), .second, .val (.int pp2), .val (.int pp3), .val (.int pp4), .val (.long kk), .second, .unset, .unset, .unset, .unset, .unset, .unset, .unset] [(.int (lcmpW (kk &&& (2 : Int64)) (0 : Int64)))])) _
          refine XS.ifNo X0.here hx rfl (hb hby at_15) rfl ((if0 _ _).trans (teq ((lw_eq _ _).mpr hc15)).2) ?_
          show Steps p.tables e below (s₁.setTop (mkF m 18 #[.val (.long qq1), .second, .val (.int pp2), .val (.int pp3), .val (.int pp4), .val (.long kk), .second, .unset, .unset, .unset, .unset, .unset, .unset, .unset] [])) _
          refine st5 _ ?_
          show Steps p.tables e below (T5.setTop (mkF m 21 #[.val (.long qq1), .second, .val (.int pp2), .val (.int pp3), .val (.int pp4), .val (.long kk), .second, .unset, .unset, .unset, .unset, .unset, .unset, .unset] [(.ref sl)])) _
          refine XS.goto X5.here hx rfl (pc0 := 21) (pc' := 27) rfl (hb hby at_21) (by decide) (by decide) ?_
          show Steps p.tables e below (T5.setTop (mkF m 27 #[.val (.long qq1), .second, .val (.int pp2), .val (.int pp3), .val (.int pp4), .val (.long kk), .second, .unset, .unset, .unset, .unset, .unset, .unset, .unset] [(.ref sl)])) _
          refine XS.astore X5.here hx rfl (hb hby at_27) rfl rfl (l' := #[.val (.long qq1), .second, .val (.int pp2), .val (.int pp3), .val (.int pp4), .val (.long kk), .second, .val (.ref sl), .unset, .unset, .unset, .unset, .unset, .unset]) rfl ?_
          show Steps p.tables e below (T5.setTop (mkF m 29 #[.val (.long qq1), .second, .val (.int pp2), .val (.int pp3), .val (.int pp4), .val (.long kk), .second, .val (.ref sl), .unset, .unset, .unset, .unset, .unset, .unset] [])) _
          refine XS.lload X5.here hx rfl (hb hby at_29) rfl ?_
          show Steps p.tables e below (T5.setTop (mkF m 31 #[.val (.long qq1), .second, .val (.int pp2), .val (.int pp3), .val (.int pp4), .val (.long kk), .second, .val (.ref sl), .unset, .unset, .unset, .unset, .unset, .unset] [(.long kk)])) _
          refine st6 _ ?_
          show Steps p.tables e below (T6.setTop (mkF m 34 #[.val (.long qq1), .second, .val (.int pp2), .val (.int pp3), .val (.int pp4), .val (.long kk), .second, .val (.ref sl), .unset, .unset, .unset, .unset, .unset, .unset] [(.ref sl)])) _
          refine XS.aload X6.here hx rfl (hb hby at_34) rfl rfl ?_
          show Steps p.tables e below (T6.setTop (mkF m 36 #[.val (.long qq1), .second, .val (.int pp2), .val (.int pp3), .val (.int pp4), .val (.long kk), .second, .val (.ref sl), .unset, .unset, .unset, .unset, .unset, .unset] [(.ref sl), (.ref sl)])) _
          refine Jvm.RoadKit.acmp (g := (mkF m 36 #[.val (.long qq1), .second, .val (.int pp2), .val (.int pp3), .val (.int pp4), .val (.long kk), .second, .val (.ref sl), .unset, .unset, .unset, .unset, .unset, .unset] [(.ref sl), (.ref sl)])) X6 hx rfl rfl rfl (pc0 := 36) (pc' := 39) (same := true) rfl (hb hby at_36) rfl (decide_eq_true rfl) (by decide) (by decide) ?_
          show Steps p.tables e below (T6.setTop (mkF m 39 #[.val (.long qq1), .second, .val (.int pp2), .val (.int pp3), .val (.int pp4), .val (.long kk), .second, .val (.ref sl), .unset, .unset, .unset, .unset, .unset, .unset] [])) _
          refine XS.iconst X6.here hx rfl (hb hby at_39) ?_
          show Steps p.tables e below (T6.setTop (mkF m 40 #[.val (.long qq1), .second, .val (.int pp2), .val (.int pp3), .val (.int pp4), .val (.long kk), .second, .val (.ref sl), .unset, .unset, .unset, .unset, .unset, .unset] [(.int (1 : Int32))])) _
          refine XS.goto X6.here hx rfl (pc0 := 40) (pc' := 44) rfl (hb hby at_40) (by decide) (by decide) ?_
          show Steps p.tables e below (T6.setTop (mkF m 44 #[.val (.long qq1), .second, .val (.int pp2), .val (.int pp3), .val (.int pp4), .val (.long kk), .second, .val (.ref sl), .unset, .unset, .unset, .unset, .unset, .unset] [(.int (1 : Int32))])) _
          refine XS.istore X6.here hx rfl (hb hby at_44) rfl (l' := #[.val (.long qq1), .second, .val (.int pp2), .val (.int pp3), .val (.int pp4), .val (.long kk), .second, .val (.ref sl), .val (.int (1 : Int32)), .unset, .unset, .unset, .unset, .unset]) rfl ?_
          exact kt)⟩
    · skip
      obtain ⟨T7, X7, e7, st7⟩ := getS2 X0 hx hZ hown (host := "") (Or.inl (hw _ (List.mem_of_getElem? (i := 2) rfl))) Via.refl e0 (S_SHORT.ext O0.2) (g := (mkF m 24 #[.val (.long qq1), .second, .val (.int pp2), .val (.int pp3), .val (.int pp4), .val (.long kk), .second, .unset, .unset, .unset, .unset, .unset, .unset, .unset] [])) rfl (hb hby at_24)
      obtain ⟨_, _, ⟨T8, L8, k8, n8⟩, -, X8, ⟨Lc8, hQ8, l8, y8, z8⟩, st8⟩ := Jvm.LawKit.callS X7 hx (y := (⟨"com/example/tallyhouse/tallyhouse/book/LineKey", "side", "(J)Lcom/example/tallyhouse/tallyhouse/book/Side;"⟩ : MethodName)) hown (mvT hZ (hw _ (List.mem_of_getElem? (i := 5) rfl))) (mvT hZ (hw _ (List.mem_of_getElem? (i := 6) rfl))) (mvT hZ (hw _ (List.mem_of_getElem? (i := 7) rfl))) (mvT hZ (hw _ (List.mem_of_getElem? (i := 8) rfl))) (by decide) (backOf (W := 0) (rm1_1 l Z a0 hw [] kk sl ss af kf vf as_ ks h0 n0 Z0 O0 S_FLAGS S_SIDES S_LINES V_af V_as_ (show (((kk - (kk / ((4 : Int32).toInt64)) * ((4 : Int32).toInt64)).toInt32) / (2 : Int32)) = (1 : Int32) from own_raw1 h_kk hc15)) hZ (hw _ (List.mem_of_getElem? (i := 8) rfl)) (hw _ (List.mem_of_getElem? (i := 7) rfl)) (by decide) (by decide)) (g := (mkF m 31 #[.val (.long qq1), .second, .val (.int pp2), .val (.int pp3), .val (.int pp4), .val (.long kk), .second, .val (.ref ss), .unset, .unset, .unset, .unset, .unset, .unset] [(.long kk)])) rfl (by rw [hml]; rfl) (argsL := [(.long kk)]) (rest := []) (lenOf pd__28_J_29_Lcom_2f_example_2f_tallyhouse_2f_tallyhouse_2f_book_2f_Side_3b_ rfl) rfl (by show 2 * 0 + _ ≤ _; exact Nat.le_of_eq rfl) (hb hby at_31) (fun _ _ => ⟨rfl, e7, (by decide : 0 + 0 ≤ _), (by decide : 0 + 0 ≤ _)⟩)
      dsimp only [Pt.U, Pt.locs, Pt.cells, Pt.slots] at X8 l8 y8 z8 st8 hQ8
      subst l8 y8 z8
      obtain ⟨rfl, N8q, e8⟩ := hQ8
      have N8 := Fr.app N0 N8q
      exact ⟨ss, _, _, X8, e8, N8, fun t kt => pre4 t (by
          show Steps p.tables e below (s₁.setTop (mkF m 15 #[.val (.long qq1), .second, .val (.int pp2), .val (.int pp3), .val (.int pp4), .val (.long kk), .second, .unset, .unset, .unset, .unset, .unset, .unset, .unset] [(.int (lcmpW (kk &&& (2 : Int64)) (0 : Int64)))])) _
          refine XS.ifYes X0.here hx rfl (pc0 := 15) (pc' := 24) rfl (hb hby at_15) rfl ((if0 _ _).trans (feq (mt (lw_eq _ _).mp hc15)).2) (by decide) (by decide) ?_
          show Steps p.tables e below (s₁.setTop (mkF m 24 #[.val (.long qq1), .second, .val (.int pp2), .val (.int pp3), .val (.int pp4), .val (.long kk), .second, .unset, .unset, .unset, .unset, .unset, .unset, .unset] [])) _
          refine st7 _ ?_
          show Steps p.tables e below (T7.setTop (mkF m 27 #[.val (.long qq1), .second, .val (.int pp2), .val (.int pp3), .val (.int pp4), .val (.long kk), .second, .unset, .unset, .unset, .unset, .unset, .unset, .unset] [(.ref ss)])) _
          refine XS.astore X7.here hx rfl (hb hby at_27) rfl rfl (l' := #[.val (.long qq1), .second, .val (.int pp2), .val (.int pp3), .val (.int pp4), .val (.long kk), .second, .val (.ref ss), .unset, .unset, .unset, .unset, .unset, .unset]) rfl ?_
          show Steps p.tables e below (T7.setTop (mkF m 29 #[.val (.long qq1), .second, .val (.int pp2), .val (.int pp3), .val (.int pp4), .val (.long kk), .second, .val (.ref ss), .unset, .unset, .unset, .unset, .unset, .unset] [])) _
          refine XS.lload X7.here hx rfl (hb hby at_29) rfl ?_
          show Steps p.tables e below (T7.setTop (mkF m 31 #[.val (.long qq1), .second, .val (.int pp2), .val (.int pp3), .val (.int pp4), .val (.long kk), .second, .val (.ref ss), .unset, .unset, .unset, .unset, .unset, .unset] [(.long kk)])) _
          refine st8 _ ?_
          show Steps p.tables e below (T8.setTop (mkF m 34 #[.val (.long qq1), .second, .val (.int pp2), .val (.int pp3), .val (.int pp4), .val (.long kk), .second, .val (.ref ss), .unset, .unset, .unset, .unset, .unset, .unset] [(.ref ss)])) _
          refine XS.aload X8.here hx rfl (hb hby at_34) rfl rfl ?_
          show Steps p.tables e below (T8.setTop (mkF m 36 #[.val (.long qq1), .second, .val (.int pp2), .val (.int pp3), .val (.int pp4), .val (.long kk), .second, .val (.ref ss), .unset, .unset, .unset, .unset, .unset, .unset] [(.ref ss), (.ref ss)])) _
          refine Jvm.RoadKit.acmp (g := (mkF m 36 #[.val (.long qq1), .second, .val (.int pp2), .val (.int pp3), .val (.int pp4), .val (.long kk), .second, .val (.ref ss), .unset, .unset, .unset, .unset, .unset, .unset] [(.ref ss), (.ref ss)])) X8 hx rfl rfl rfl (pc0 := 36) (pc' := 39) (same := true) rfl (hb hby at_36) rfl (decide_eq_true rfl) (by decide) (by decide) ?_
          show Steps p.tables e below (T8.setTop (mkF m 39 #[.val (.long qq1), .second, .val (.int pp2), .val (.int pp3), .val (.int pp4), .val (.long kk), .second, .val (.ref ss), .unset, .unset, .unset, .unset, .unset, .unset] [])) _
          refine XS.iconst X8.here hx rfl (hb hby at_39) ?_
          show Steps p.tables e below (T8.setTop (mkF m 40 #[.val (.long qq1), .second, .val (.int pp2), .val (.int pp3), .val (.int pp4), .val (.long kk), .second, .val (.ref ss), .unset, .unset, .unset, .unset, .unset, .unset] [(.int (1 : Int32))])) _
          refine XS.goto X8.here hx rfl (pc0 := 40) (pc' := 44) rfl (hb hby at_40) (by decide) (by decide) ?_
          show Steps p.tables e below (T8.setTop (mkF m 44 #[.val (.long qq1), .second, .val (.int pp2), .val (.int pp3), .val (.int pp4), .val (.long kk), .second, .val (.ref ss), .unset, .unset, .unset, .unset, .unset, .unset] [(.int (1 : Int32))])) _
          refine XS.istore X8.here hx rfl (hb hby at_44) rfl (l' := #[.val (.long qq1), .second, .val (.int pp2), .val (.int pp3), .val (.int pp4), .val (.long kk), .second, .val (.ref ss), .val (.int (1 : Int32)), .unset, .unset, .unset, .unset, .unset]) rfl ?_
          exact kt)⟩
  have pre9 : ∀ t, Steps p.tables e below (T3.setTop (mkF m 50 #[.val (.long qq1), .second, .val (.int pp2), .val (.int pp3), .val (.int pp4), .val (.long kk), .second, .val (.ref f7), .val (.int (1 : Int32)), .unset, .unset, .unset, .unset, .unset] [(.int (pp4 &&& (1 : Int32)))])) t → Steps p.tables e below (s₁.setTop (entryFrame m #[(.long qq1), (.int pp2), (.int pp3), (.int pp4)] maxLocals)) t := fun t kt => pre3 t (by
    show Steps p.tables e below (T3.setTop (mkF m 46 #[.val (.long qq1), .second, .val (.int pp2), .val (.int pp3), .val (.int pp4), .val (.long kk), .second, .val (.ref f7), .val (.int (1 : Int32)), .unset, .unset, .unset, .unset, .unset] [])) _
    refine XS.iload X3.here hx rfl (hb hby at_46) rfl ?_
    show Steps p.tables e below (T3.setTop (mkF m 48 #[.val (.long qq1), .second, .val (.int pp2), .val (.int pp3), .val (.int pp4), .val (.long kk), .second, .val (.ref f7), .val (.int (1 : Int32)), .unset, .unset, .unset, .unset, .unset] [(.int pp4)])) _
    refine XS.iconst X3.here hx rfl (hb hby at_48) ?_
    show Steps p.tables e below (T3.setTop (mkF m 49 #[.val (.long qq1), .second, .val (.int pp2), .val (.int pp3), .val (.int pp4), .val (.long kk), .second, .val (.ref f7), .val (.int (1 : Int32)), .unset, .unset, .unset, .unset, .unset] [(.int (1 : Int32)), (.int pp4)])) _
    refine XS.iand X3.here hx rfl (hb hby at_49) rfl ?_
    exact kt)
  by_cases hc50 : (pp4 &&& (1 : Int32)) = (0 : Int32)
  · skip
    obtain ⟨T10, X10, e10, st10⟩ := getS2 X3 hx hZ hown (host := "") (Or.inl (hw _ (List.mem_of_getElem? (i := 15) rfl))) Via.refl e3 (S_LONG.ext O0.2) (g := (mkF m 59 #[.val (.long qq1), .second, .val (.int pp2), .val (.int pp3), .val (.int pp4), .val (.long kk), .second, .val (.ref f7), .val (.int (1 : Int32)), .unset, .unset, .unset, .unset, .unset] [])) rfl (hb hby at_59)
    have pre11 : ∀ t, Steps p.tables e below (T10.setTop (mkF m 68 #[.val (.long qq1), .second, .val (.int pp2), .val (.int pp3), .val (.int pp4), .val (.long kk), .second, .val (.ref f7), .val (.int (1 : Int32)), .val (.ref sl), .unset, .unset, .unset, .unset] [(.int (pp4 &&& (2 : Int32)))])) t → Steps p.tables e below (s₁.setTop (entryFrame m #[(.long qq1), (.int pp2), (.int pp3), (.int pp4)] maxLocals)) t := fun t kt => pre9 t (by
      show Steps p.tables e below (T3.setTop (mkF m 50 #[.val (.long qq1), .second, .val (.int pp2), .val (.int pp3), .val (.int pp4), .val (.long kk), .second, .val (.ref f7), .val (.int (1 : Int32)), .unset, .unset, .unset, .unset, .unset] [(.int (pp4 &&& (1 : Int32)))])) _
      refine XS.ifYes X3.here hx rfl (pc0 := 50) (pc' := 59) rfl (hb hby at_50) rfl ((if0 _ _).trans (teq hc50).1) (by decide) (by decide) ?_
      show Steps p.tables e below (T3.setTop (mkF m 59 #[.val (.long qq1), .second, .val (.int pp2), .val (.int pp3), .val (.int pp4), .val (.long kk), .second, .val (.ref f7), .val (.int (1 : Int32)), .unset, .unset, .unset, .unset, .unset] [])) _
      refine st10 _ ?_
      show Steps p.tables e below (T10.setTop (mkF m 62 #[.val (.long qq1), .second, .val (.int pp2), .val (.int pp3), .val (.int pp4), .val (.long kk), .second, .val (.ref f7), .val (.int (1 : Int32)), .unset, .unset, .unset, .unset, .unset] [(.ref sl)])) _
      refine XS.astore X10.here hx rfl (hb hby at_62) rfl rfl (l' := #[.val (.long qq1), .second, .val (.int pp2), .val (.int pp3), .val (.int pp4), .val (.long kk), .second, .val (.ref f7), .val (.int (1 : Int32)), .val (.ref sl), .unset, .unset, .unset, .unset]) rfl ?_
      show Steps p.tables e below (T10.setTop (mkF m 64 #[.val (.long qq1), .second, .val (.int pp2), .val (.int pp3), .val (.int pp4), .val (.long kk), .second, .val (.ref f7), .val (.int (1 : Int32)), .val (.ref sl), .unset, .unset, .unset, .unset] [])) _
      refine XS.iload X10.here hx rfl (hb hby at_64) rfl ?_
      show Steps p.tables e below (T10.setTop (mkF m 66 #[.val (.long qq1), .second, .val (.int pp2), .val (.int pp3), .val (.int pp4), .val (.long kk), .second, .val (.ref f7), .val (.int (1 : Int32)), .val (.ref sl), .unset, .unset, .unset, .unset] [(.int pp4)])) _
      refine XS.iconst X10.here hx rfl (hb hby at_66) ?_
      show Steps p.tables e below (T10.setTop (mkF m 67 #[.val (.long qq1), .second, .val (.int pp2), .val (.int pp3), .val (.int pp4), .val (.long kk), .second, .val (.ref f7), .val (.int (1 : Int32)), .val (.ref sl), .unset, .unset, .unset, .unset] [(.int (2 : Int32)), (.int pp4)])) _
      refine XS.iand X10.here hx rfl (hb hby at_67) rfl ?_
      exact kt)
    by_cases hc68 : (pp4 &&& (2 : Int32)) = (0 : Int32)
    · skip
      obtain ⟨T12, X12, e12, st12⟩ := getS2 X10 hx hZ hown (host := "") (Or.inl (hw _ (List.mem_of_getElem? (i := 17) rfl))) Via.refl e10 (S_HEDGE.ext O0.2) (g := (mkF m 77 #[.val (.long qq1), .second, .val (.int pp2), .val (.int pp3), .val (.int pp4), .val (.long kk), .second, .val (.ref f7), .val (.int (1 : Int32)), .val (.ref sl), .unset, .unset, .unset, .unset] [])) rfl (hb hby at_77)
      obtain ⟨_, _, ⟨T13, L13, k13, n13⟩, -, X13, ⟨Lc13, hQ13, l13, y13, z13⟩, st13⟩ := Jvm.LawKit.callS X12 hx (y := (⟨"com/example/tallyhouse/tallyhouse/book/LineKey", "of", "(IILcom/example/tallyhouse/tallyhouse/book/Side;Lcom/example/tallyhouse/tallyhouse/book/Flag;)J"⟩ : MethodName)) hown (mvT hZ (hw _ (List.mem_of_getElem? (i := 22) rfl))) (mvT hZ (hw _ (List.mem_of_getElem? (i := 23) rfl))) (mvT hZ (hw _ (List.mem_of_getElem? (i := 7) rfl))) (mvT hZ (hw _ (List.mem_of_getElem? (i := 24) rfl))) (by decide) (backOf (W := 0) (rm2 l Z a0 hw [] (pp2 &&& (2147483647 : Int32)) (pp3 &&& (1073741823 : Int32)) sl fh af kf vf (0 : Int32) (0 : Int32) h0 n0 Z0 O0 S_FLAGS S_LINES V_af E_sl E_fh F_sl_ordinal F_fh_ordinal) hZ (hw _ (List.mem_of_getElem? (i := 24) rfl)) (hw _ (List.mem_of_getElem? (i := 7) rfl)) (by decide) (by decide)) (g := (mkF m 94 #[.val (.long qq1), .second, .val (.int pp2), .val (.int pp3), .val (.int pp4), .val (.long kk), .second, .val (.ref f7), .val (.int (1 : Int32)), .val (.ref sl), .val (.ref fh), .unset, .unset, .unset] [(.ref fh), (.ref sl), (.int (pp3 &&& (1073741823 : Int32))), (.int (pp2 &&& (2147483647 : Int32)))])) rfl (by rw [hml]; rfl) (argsL := [(.int (pp2 &&& (2147483647 : Int32))), (.int (pp3 &&& (1073741823 : Int32))), (.ref sl), (.ref fh)]) (rest := []) (lenOf pd__28_IILcom_2f_example_2f_tallyhouse_2f_tallyhouse_2f_book_2f_Side_3b_Lcom_2f_example_2f_tallyhouse_2f_tallyhouse_2f_book_2f_Flag_3b__29_J rfl) rfl (by show 2 * 0 + _ ≤ _; exact Nat.le_of_eq rfl) (hb hby at_94) (fun _ _ => ⟨rfl, e12, (by decide : 0 + 0 ≤ _), (by decide : 0 + 0 ≤ _)⟩)
      dsimp only [Pt.U, Pt.locs, Pt.cells, Pt.slots] at X13 l13 y13 z13 st13 hQ13
      subst l13 y13 z13
      obtain ⟨rfl, N13q, e13⟩ := hQ13
      have N13 := Fr.app N3 N13q
      obtain ⟨_, _, ⟨T14, L14, k14, n14⟩, -, X14, ⟨Lc14, hQ14, l14, y14, z14⟩, st14⟩ := Jvm.LawKit.callS X13 hx (y := (⟨"com/example/tallyhouse/tallyhouse/book/LineKey", "side", "(J)Lcom/example/tallyhouse/tallyhouse/book/Side;"⟩ : MethodName)) hown (mvT hZ (hw _ (List.mem_of_getElem? (i := 5) rfl))) (mvT hZ (hw _ (List.mem_of_getElem? (i := 6) rfl))) (mvT hZ (hw _ (List.mem_of_getElem? (i := 7) rfl))) (mvT hZ (hw _ (List.mem_of_getElem? (i := 8) rfl))) (by decide) (backOf (W := 0) (rm1_0 l Z a0 hw [] (((pp2 &&& (2147483647 : Int32)).toInt64 <<< ((32 : Int32) &&& 0x3f).toInt64) ||| ((((pp3 &&& (1073741823 : Int32)).toInt64 * ((4 : Int32).toInt64)) + (((0 : Int32) * (2 : Int32)).toInt64)) + ((0 : Int32).toInt64))) sl ss af kf vf as_ ks h0 n0 Z0 O0 S_FLAGS S_SIDES S_LINES V_af V_as_ (show ((((((pp2 &&& (2147483647 : Int32)).toInt64 <<< ((32 : Int32) &&& 0x3f).toInt64) ||| ((((pp3 &&& (1073741823 : Int32)).toInt64 * ((4 : Int32).toInt64)) + (((0 : Int32) * (2 : Int32)).toInt64)) + ((0 : Int32).toInt64))) - ((((pp2 &&& (2147483647 : Int32)).toInt64 <<< ((32 : Int32) &&& 0x3f).toInt64) ||| ((((pp3 &&& (1073741823 : Int32)).toInt64 * ((4 : Int32).toInt64)) + (((0 : Int32) * (2 : Int32)).toInt64)) + ((0 : Int32).toInt64))) / ((4 : Int32).toInt64)) * ((4 : Int32).toInt64)).toInt32) / (2 : Int32)) = (0 : Int32) from own_made00 _ _)) hZ (hw _ (List.mem_of_getElem? (i := 8) rfl)) (hw _ (List.mem_of_getElem? (i := 7) rfl)) (by decide) (by decide)) (g := (mkF m 101 #[.val (.long qq1), .second, .val (.int pp2), .val (.int pp3), .val (.int pp4), .val (.long kk), .second, .val (.ref f7), .val (.int (1 : Int32)), .val (.ref sl), .val (.ref fh), .val (.long (((pp2 &&& (2147483647 : Int32)).toInt64 <<< ((32 : Int32) &&& 0x3f).toInt64) ||| ((((pp3 &&& (1073741823 : Int32)).toInt64 * ((4 : Int32).toInt64)) + (((0 : Int32) * (2 : Int32)).toInt64)) + ((0 : Int32).toInt64)))), .second, .unset] [(.long (((pp2 &&& (2147483647 : Int32)).toInt64 <<< ((32 : Int32) &&& 0x3f).toInt64) ||| ((((pp3 &&& (1073741823 : Int32)).toInt64 * ((4 : Int32).toInt64)) + (((0 : Int32) * (2 : Int32)).toInt64)) + ((0 : Int32).toInt64))))])) rfl (by rw [hml]; rfl) (argsL := [(.long (((pp2 &&& (2147483647 : Int32)).toInt64 <<< ((32 : Int32) &&& 0x3f).toInt64) ||| ((((pp3 &&& (1073741823 : Int32)).toInt64 * ((4 : Int32).toInt64)) + (((0 : Int32) * (2 : Int32)).toInt64)) + ((0 : Int32).toInt64))))]) (rest := []) (lenOf pd__28_J_29_Lcom_2f_example_2f_tallyhouse_2f_tallyhouse_2f_book_2f_Side_3b_ rfl) rfl (by show 2 * 0 + _ ≤ _; exact Nat.le_of_eq rfl) (hb hby at_101) (fun _ _ => ⟨rfl, e13, (by decide : 0 + 0 ≤ _), (by decide : 0 + 0 ≤ _)⟩)
      dsimp only [Pt.U, Pt.locs, Pt.cells, Pt.slots] at X14 l14 y14 z14 st14 hQ14
      subst l14 y14 z14
      obtain ⟨rfl, N14q, e14⟩ := hQ14
      have N14 := Fr.app N13 N14q
      have hc118 : ¬ ((1 : Int32) = (0 : Int32)) := by decide
      have hc123 : ¬ ((1 : Int32) = (0 : Int32)) := by decide
      obtain ⟨fs, hr, hrun, hended, hW, hsame⟩ := X14.leave (v := some (.int (1 : Int32))) (fun h => by rw [Bd.returns] at h; cases h)
      refine ⟨_, _, pre11 _ ?_, hrun, hended, _, _, rfl, ?_, ⟨_, rfl⟩, hW, hsame.mono (by decide) (by decide)⟩
      · show Steps p.tables e below (T10.setTop (mkF m 68 #[.val (.long qq1), .second, .val (.int pp2), .val (.int pp3), .val (.int pp4), .val (.long kk), .second, .val (.ref f7), .val (.int (1 : Int32)), .val (.ref sl), .unset, .unset, .unset, .unset] [(.int (pp4 &&& (2 : Int32)))])) _
        refine XS.ifYes X10.here hx rfl (pc0 := 68) (pc' := 77) rfl (hb hby at_68) rfl ((if0 _ _).trans (teq hc68).1) (by decide) (by decide) ?_
        show Steps p.tables e below (T10.setTop (mkF m 77 #[.val (.long qq1), .second, .val (.int pp2), .val (.int pp3), .val (.int pp4), .val (.long kk), .second, .val (.ref f7), .val (.int (1 : Int32)), .val (.ref sl), .unset, .unset, .unset, .unset] [])) _
        refine st12 _ ?_
        show Steps p.tables e below (T12.setTop (mkF m 80 #[.val (.long qq1), .second, .val (.int pp2), .val (.int pp3), .val (.int pp4), .val (.long kk), .second, .val (.ref f7), .val (.int (1 : Int32)), .val (.ref sl), .unset, .unset, .unset, .unset] [(.ref fh)])) _
        refine XS.astore X12.here hx rfl (hb hby at_80) rfl rfl (l' := #[.val (.long qq1), .second, .val (.int pp2), .val (.int pp3), .val (.int pp4), .val (.long kk), .second, .val (.ref f7), .val (.int (1 : Int32)), .val (.ref sl), .val (.ref fh), .unset, .unset, .unset]) rfl ?_
        show Steps p.tables e below (T12.setTop (mkF m 82 #[.val (.long qq1), .second, .val (.int pp2), .val (.int pp3), .val (.int pp4), .val (.long kk), .second, .val (.ref f7), .val (.int (1 : Int32)), .val (.ref sl), .val (.ref fh), .unset, .unset, .unset] [])) _
        refine XS.iloadN X12.here hx rfl (hb hby at_82) rfl ?_
        show Steps p.tables e below (T12.setTop (mkF m 83 #[.val (.long qq1), .second, .val (.int pp2), .val (.int pp3), .val (.int pp4), .val (.long kk), .second, .val (.ref f7), .val (.int (1 : Int32)), .val (.ref sl), .val (.ref fh), .unset, .unset, .unset] [(.int pp2)])) _
        refine X12.ldcInt hx hown (mvT hZ (hw _ (List.mem_of_getElem? (i := 20) rfl))) (g := (mkF m 83 #[.val (.long qq1), .second, .val (.int pp2), .val (.int pp3), .val (.int pp4), .val (.long kk), .second, .val (.ref f7), .val (.int (1 : Int32)), .val (.ref sl), .val (.ref fh), .unset, .unset, .unset] [(.int pp2)])) rfl (hb hby at_83) _ ?_
        show Steps p.tables e below (T12.setTop (mkF m 85 #[.val (.long qq1), .second, .val (.int pp2), .val (.int pp3), .val (.int pp4), .val (.long kk), .second, .val (.ref f7), .val (.int (1 : Int32)), .val (.ref sl), .val (.ref fh), .unset, .unset, .unset] [(.int (2147483647 : Int32)), (.int pp2)])) _
        refine XS.iand X12.here hx rfl (hb hby at_85) rfl ?_
        show Steps p.tables e below (T12.setTop (mkF m 86 #[.val (.long qq1), .second, .val (.int pp2), .val (.int pp3), .val (.int pp4), .val (.long kk), .second, .val (.ref f7), .val (.int (1 : Int32)), .val (.ref sl), .val (.ref fh), .unset, .unset, .unset] [(.int (pp2 &&& (2147483647 : Int32)))])) _
        refine XS.iloadN X12.here hx rfl (hb hby at_86) rfl ?_
        show Steps p.tables e below (T12.setTop (mkF m 87 #[.val (.long qq1), .second, .val (.int pp2), .val (.int pp3), .val (.int pp4), .val (.long kk), .second, .val (.ref f7), .val (.int (1 : Int32)), .val (.ref sl), .val (.ref fh), .unset, .unset, .unset] [(.int pp3), (.int (pp2 &&& (2147483647 : Int32)))])) _
        refine X12.ldcInt hx hown (mvT hZ (hw _ (List.mem_of_getElem? (i := 21) rfl))) (g := (mkF m 87 #[.val (.long qq1), .second, .val (.int pp2), .val (.int pp3), .val (.int pp4), .val (.long kk), .second, .val (.ref f7), .val (.int (1 : Int32)), .val (.ref sl), .val (.ref fh), .unset, .unset, .unset] [(.int pp3), (.int (pp2 &&& (2147483647 : Int32)))])) rfl (hb hby at_87) _ ?_
        show Steps p.tables e below (T12.setTop (mkF m 89 #[.val (.long qq1), .second, .val (.int pp2), .val (.int pp3), .val (.int pp4), .val (.long kk), .second, .val (.ref f7), .val (.int (1 : Int32)), .val (.ref sl), .val (.ref fh), .unset, .unset, .unset] [(.int (1073741823 : Int32)), (.int pp3), (.int (pp2 &&& (2147483647 : Int32)))])) _
        refine XS.iand X12.here hx rfl (hb hby at_89) rfl ?_
        show Steps p.tables e below (T12.setTop (mkF m 90 #[.val (.long qq1), .second, .val (.int pp2), .val (.int pp3), .val (.int pp4), .val (.long kk), .second, .val (.ref f7), .val (.int (1 : Int32)), .val (.ref sl), .val (.ref fh), .unset, .unset, .unset] [(.int (pp3 &&& (1073741823 : Int32))), (.int (pp2 &&& (2147483647 : Int32)))])) _
        refine XS.aload X12.here hx rfl (hb hby at_90) rfl rfl ?_
        show Steps p.tables e below (T12.setTop (mkF m 92 #[.val (.long qq1), .second, .val (.int pp2), .val (.int pp3), .val (.int pp4), .val (.long kk), .second, .val (.ref f7), .val (.int (1 : Int32)), .val (.ref sl), .val (.ref fh), .unset, .unset, .unset] [(.ref sl), (.int (pp3 &&& (1073741823 : Int32))), (.int (pp2 &&& (2147483647 : Int32)))])) _
        refine XS.aload X12.here hx rfl (hb hby at_92) rfl rfl ?_
        show Steps p.tables e below (T12.setTop (mkF m 94 #[.val (.long qq1), .second, .val (.int pp2), .val (.int pp3), .val (.int pp4), .val (.long kk), .second, .val (.ref f7), .val (.int (1 : Int32)), .val (.ref sl), .val (.ref fh), .unset, .unset, .unset] [(.ref fh), (.ref sl), (.int (pp3 &&& (1073741823 : Int32))), (.int (pp2 &&& (2147483647 : Int32)))])) _
        refine st13 _ ?_
        show Steps p.tables e below (T13.setTop (mkF m 97 #[.val (.long qq1), .second, .val (.int pp2), .val (.int pp3), .val (.int pp4), .val (.long kk), .second, .val (.ref f7), .val (.int (1 : Int32)), .val (.ref sl), .val (.ref fh), .unset, .unset, .unset] [(.long (((pp2 &&& (2147483647 : Int32)).toInt64 <<< ((32 : Int32) &&& 0x3f).toInt64) ||| ((((pp3 &&& (1073741823 : Int32)).toInt64 * ((4 : Int32).toInt64)) + (((0 : Int32) * (2 : Int32)).toInt64)) + ((0 : Int32).toInt64))))])) _
        refine XS.lstore X13.here hx rfl (hb hby at_97) rfl (l' := #[.val (.long qq1), .second, .val (.int pp2), .val (.int pp3), .val (.int pp4), .val (.long kk), .second, .val (.ref f7), .val (.int (1 : Int32)), .val (.ref sl), .val (.ref fh), .val (.long (((pp2 &&& (2147483647 : Int32)).toInt64 <<< ((32 : Int32) &&& 0x3f).toInt64) ||| ((((pp3 &&& (1073741823 : Int32)).toInt64 * ((4 : Int32).toInt64)) + (((0 : Int32) * (2 : Int32)).toInt64)) + ((0 : Int32).toInt64)))), .second, .unset]) rfl ?_
        show Steps p.tables e below (T13.setTop (mkF m 99 #[.val (.long qq1), .second, .val (.int pp2), .val (.int pp3), .val (.int pp4), .val (.long kk), .second, .val (.ref f7), .val (.int (1 : Int32)), .val (.ref sl), .val (.ref fh), .val (.long (((pp2 &&& (2147483647 : Int32)).toInt64 <<< ((32 : Int32) &&& 0x3f).toInt64) ||| ((((pp3 &&& (1073741823 : Int32)).toInt64 * ((4 : Int32).toInt64)) + (((0 : Int32) * (2 : Int32)).toInt64)) + ((0 : Int32).toInt64)))), .second, .unset] [])) _
        refine XS.lload X13.here hx rfl (hb hby at_99) rfl ?_
        show Steps p.tables e below (T13.setTop (mkF m 101 #[.val (.long qq1), .second, .val (.int pp2), .val (.int pp3), .val (.int pp4), .val (.long kk), .second, .val (.ref f7), .val (.int (1 : Int32)), .val (.ref sl), .val (.ref fh), .val (.long (((pp2 &&& (2147483647 : Int32)).toInt64 <<< ((32 : Int32) &&& 0x3f).toInt64) ||| ((((pp3 &&& (1073741823 : Int32)).toInt64 * ((4 : Int32).toInt64)) + (((0 : Int32) * (2 : Int32)).toInt64)) + ((0 : Int32).toInt64)))), .second, .unset] [(.long (((pp2 &&& (2147483647 : Int32)).toInt64 <<< ((32 : Int32) &&& 0x3f).toInt64) ||| ((((pp3 &&& (1073741823 : Int32)).toInt64 * ((4 : Int32).toInt64)) + (((0 : Int32) * (2 : Int32)).toInt64)) + ((0 : Int32).toInt64))))])) _
        refine st14 _ ?_
        show Steps p.tables e below (T14.setTop (mkF m 104 #[.val (.long qq1), .second, .val (.int pp2), .val (.int pp3), .val (.int pp4), .val (.long kk), .second, .val (.ref f7), .val (.int (1 : Int32)), .val (.ref sl), .val (.ref fh), .val (.long (((pp2 &&& (2147483647 : Int32)).toInt64 <<< ((32 : Int32) &&& 0x3f).toInt64) ||| ((((pp3 &&& (1073741823 : Int32)).toInt64 * ((4 : Int32).toInt64)) + (((0 : Int32) * (2 : Int32)).toInt64)) + ((0 : Int32).toInt64)))), .second, .unset] [(.ref sl)])) _
        refine XS.aload X14.here hx rfl (hb hby at_104) rfl rfl ?_
        show Steps p.tables e below (T14.setTop (mkF m 106 #[.val (.long qq1), .second, .val (.int pp2), .val (.int pp3), .val (.int pp4), .val (.long kk), .second, .val (.ref f7), .val (.int (1 : Int32)), .val (.ref sl), .val (.ref fh), .val (.long (((pp2 &&& (2147483647 : Int32)).toInt64 <<< ((32 : Int32) &&& 0x3f).toInt64) ||| ((((pp3 &&& (1073741823 : Int32)).toInt64 * ((4 : Int32).toInt64)) + (((0 : Int32) * (2 : Int32)).toInt64)) + ((0 : Int32).toInt64)))), .second, .unset] [(.ref sl), (.ref sl)])) _
        refine Jvm.RoadKit.acmp (g := (mkF m 106 #[.val (.long qq1), .second, .val (.int pp2), .val (.int pp3), .val (.int pp4), .val (.long kk), .second, .val (.ref f7), .val (.int (1 : Int32)), .val (.ref sl), .val (.ref fh), .val (.long (((pp2 &&& (2147483647 : Int32)).toInt64 <<< ((32 : Int32) &&& 0x3f).toInt64) ||| ((((pp3 &&& (1073741823 : Int32)).toInt64 * ((4 : Int32).toInt64)) + (((0 : Int32) * (2 : Int32)).toInt64)) + ((0 : Int32).toInt64)))), .second, .unset] [(.ref sl), (.ref sl)])) X14 hx rfl rfl rfl (pc0 := 106) (pc' := 109) (same := true) rfl (hb hby at_106) rfl (decide_eq_true rfl) (by decide) (by decide) ?_
        show Steps p.tables e below (T14.setTop (mkF m 109 #[.val (.long qq1), .second, .val (.int pp2), .val (.int pp3), .val (.int pp4), .val (.long kk), .second, .val (.ref f7), .val (.int (1 : Int32)), .val (.ref sl), .val (.ref fh), .val (.long (((pp2 &&& (2147483647 : Int32)).toInt64 <<< ((32 : Int32) &&& 0x3f).toInt64) ||| ((((pp3 &&& (1073741823 : Int32)).toInt64 * ((4 : Int32).toInt64)) + (((0 : Int32) * (2 : Int32)).toInt64)) + ((0 : Int32).toInt64)))), .second, .unset] [])) _
        refine XS.iconst X14.here hx rfl (hb hby at_109) ?_
        show Steps p.tables e below (T14.setTop (mkF m 110 #[.val (.long qq1), .second, .val (.int pp2), .val (.int pp3), .val (.int pp4), .val (.long kk), .second, .val (.ref f7), .val (.int (1 : Int32)), .val (.ref sl), .val (.ref fh), .val (.long (((pp2 &&& (2147483647 : Int32)).toInt64 <<< ((32 : Int32) &&& 0x3f).toInt64) ||| ((((pp3 &&& (1073741823 : Int32)).toInt64 * ((4 : Int32).toInt64)) + (((0 : Int32) * (2 : Int32)).toInt64)) + ((0 : Int32).toInt64)))), .second, .unset] [(.int (1 : Int32))])) _
        refine XS.goto X14.here hx rfl (pc0 := 110) (pc' := 114) rfl (hb hby at_110) (by decide) (by decide) ?_
        show Steps p.tables e below (T14.setTop (mkF m 114 #[.val (.long qq1), .second, .val (.int pp2), .val (.int pp3), .val (.int pp4), .val (.long kk), .second, .val (.ref f7), .val (.int (1 : Int32)), .val (.ref sl), .val (.ref fh), .val (.long (((pp2 &&& (2147483647 : Int32)).toInt64 <<< ((32 : Int32) &&& 0x3f).toInt64) ||| ((((pp3 &&& (1073741823 : Int32)).toInt64 * ((4 : Int32).toInt64)) + (((0 : Int32) * (2 : Int32)).toInt64)) + ((0 : Int32).toInt64)))), .second, .unset] [(.int (1 : Int32))])) _
        refine XS.istore X14.here hx rfl (hb hby at_114) rfl (l' := #[.val (.long qq1), .second, .val (.int pp2), .val (.int pp3), .val (.int pp4), .val (.long kk), .second, .val (.ref f7), .val (.int (1 : Int32)), .val (.ref sl), .val (.ref fh), .val (.long (((pp2 &&& (2147483647 : Int32)).toInt64 <<< ((32 : Int32) &&& 0x3f).toInt64) ||| ((((pp3 &&& (1073741823 : Int32)).toInt64 * ((4 : Int32).toInt64)) + (((0 : Int32) * (2 : Int32)).toInt64)) + ((0 : Int32).toInt64)))), .second, .val (.int (1 : Int32))]) rfl ?_
        show Steps p.tables e below (T14.setTop (mkF m 116 #[.val (.long qq1), .second, .val (.int pp2), .val (.int pp3), .val (.int pp4), .val (.long kk), .second, .val (.ref f7), .val (.int (1 : Int32)), .val (.ref sl), .val (.ref fh), .val (.long (((pp2 &&& (2147483647 : Int32)).toInt64 <<< ((32 : Int32) &&& 0x3f).toInt64) ||| ((((pp3 &&& (1073741823 : Int32)).toInt64 * ((4 : Int32).toInt64)) + (((0 : Int32) * (2 : Int32)).toInt64)) + ((0 : Int32).toInt64)))), .second, .val (.int (1 : Int32))] [])) _
        refine XS.iload X14.here hx rfl (hb hby at_116) rfl ?_
        show Steps p.tables e below (T14.setTop (mkF m 118 #[.val (.long qq1), .second, .val (.int pp2), .val (.int pp3), .val (.int pp4), .val (.long kk), .second, .val (.ref f7), .val (.int (1 : Int32)), .val (.ref sl), .val (.ref fh), .val (.long (((pp2 &&& (2147483647 : Int32)).toInt64 <<< ((32 : Int32) &&& 0x3f).toInt64) ||| ((((pp3 &&& (1073741823 : Int32)).toInt64 * ((4 : Int32).toInt64)) + (((0 : Int32) * (2 : Int32)).toInt64)) + ((0 : Int32).toInt64)))), .second, .val (.int (1 : Int32))] [(.int (1 : Int32))])) _
        refine XS.ifNo X14.here hx rfl (hb hby at_118) rfl ((if0 _ _).trans (feq hc118).1) ?_
        show Steps p.tables e below (T14.setTop (mkF m 121 #[.val (.long qq1), .second, .val (.int pp2), .val (.int pp3), .val (.int pp4), .val (.long kk), .second, .val (.ref f7), .val (.int (1 : Int32)), .val (.ref sl), .val (.ref fh), .val (.long (((pp2 &&& (2147483647 : Int32)).toInt64 <<< ((32 : Int32) &&& 0x3f).toInt64) ||| ((((pp3 &&& (1073741823 : Int32)).toInt64 * ((4 : Int32).toInt64)) + (((0 : Int32) * (2 : Int32)).toInt64)) + ((0 : Int32).toInt64)))), .second, .val (.int (1 : Int32))] [])) _
        refine XS.iload X14.here hx rfl (hb hby at_121) rfl ?_
        show Steps p.tables e below (T14.setTop (mkF m 123 #[.val (.long qq1), .second, .val (.int pp2), .val (.int pp3), .val (.int pp4), .val (.long kk), .second, .val (.ref f7), .val (.int (1 : Int32)), .val (.ref sl), .val (.ref fh), .val (.long (((pp2 &&& (2147483647 : Int32)).toInt64 <<< ((32 : Int32) &&& 0x3f).toInt64) ||| ((((pp3 &&& (1073741823 : Int32)).toInt64 * ((4 : Int32).toInt64)) + (((0 : Int32) * (2 : Int32)).toInt64)) + ((0 : Int32).toInt64)))), .second, .val (.int (1 : Int32))] [(.int (1 : Int32))])) _
        refine XS.ifNo X14.here hx rfl (hb hby at_123) rfl ((if0 _ _).trans (feq hc123).1) ?_
        show Steps p.tables e below (T14.setTop (mkF m 126 #[.val (.long qq1), .second, .val (.int pp2), .val (.int pp3), .val (.int pp4), .val (.long kk), .second, .val (.ref f7), .val (.int (1 : Int32)), .val (.ref sl), .val (.ref fh), .val (.long (((pp2 &&& (2147483647 : Int32)).toInt64 <<< ((32 : Int32) &&& 0x3f).toInt64) ||| ((((pp3 &&& (1073741823 : Int32)).toInt64 * ((4 : Int32).toInt64)) + (((0 : Int32) * (2 : Int32)).toInt64)) + ((0 : Int32).toInt64)))), .second, .val (.int (1 : Int32))] [])) _
        refine XS.iconst X14.here hx rfl (hb hby at_126) ?_
        show Steps p.tables e below (T14.setTop (mkF m 127 #[.val (.long qq1), .second, .val (.int pp2), .val (.int pp3), .val (.int pp4), .val (.long kk), .second, .val (.ref f7), .val (.int (1 : Int32)), .val (.ref sl), .val (.ref fh), .val (.long (((pp2 &&& (2147483647 : Int32)).toInt64 <<< ((32 : Int32) &&& 0x3f).toInt64) ||| ((((pp3 &&& (1073741823 : Int32)).toInt64 * ((4 : Int32).toInt64)) + (((0 : Int32) * (2 : Int32)).toInt64)) + ((0 : Int32).toInt64)))), .second, .val (.int (1 : Int32))] [(.int (1 : Int32))])) _
        refine XS.goto X14.here hx rfl (pc0 := 127) (pc' := 131) rfl (hb hby at_127) (by decide) (by decide) ?_
        show Steps p.tables e below (T14.setTop (mkF m 131 #[.val (.long qq1), .second, .val (.int pp2), .val (.int pp3), .val (.int pp4), .val (.long kk), .second, .val (.ref f7), .val (.int (1 : Int32)), .val (.ref sl), .val (.ref fh), .val (.long (((pp2 &&& (2147483647 : Int32)).toInt64 <<< ((32 : Int32) &&& 0x3f).toInt64) ||| ((((pp3 &&& (1073741823 : Int32)).toInt64 * ((4 : Int32).toInt64)) + (((0 : Int32) * (2 : Int32)).toInt64)) + ((0 : Int32).toInt64)))), .second, .val (.int (1 : Int32))] [(.int (1 : Int32))])) _
        exact retN X14 hx (t := .boolean) Bd.returns (by simp) (hb hby at_131) hr
      · show Q0 Z qq1 pp2 pp3 pp4 fh fz sl ss af kf vf as_ ks h0 n0 _ T14.heap _
        rw [e14]
        exact ⟨rfl, N14⟩
    · skip
      obtain ⟨T15, X15, e15, st15⟩ := getS2 X10 hx hZ hown (host := "") (Or.inl (hw _ (List.mem_of_getElem? (i := 38) rfl))) Via.refl e10 (S_SPEC.ext O0.2) (g := (mkF m 71 #[.val (.long qq1), .second, .val (.int pp2), .val (.int pp3), .val (.int pp4), .val (.long kk), .second, .val (.ref f7), .val (.int (1 : Int32)), .val (.ref sl), .unset, .unset, .unset, .unset] [])) rfl (hb hby at_71)
      obtain ⟨_, _, ⟨T16, L16, k16, n16⟩, -, X16, ⟨Lc16, hQ16, l16, y16, z16⟩, st16⟩ := Jvm.LawKit.callS X15 hx (y := (⟨"com/example/tallyhouse/tallyhouse/book/LineKey", "of", "(IILcom/example/tallyhouse/tallyhouse/book/Side;Lcom/example/tallyhouse/tallyhouse/book/Flag;)J"⟩ : MethodName)) hown (mvT hZ (hw _ (List.mem_of_getElem? (i := 22) rfl))) (mvT hZ (hw _ (List.mem_of_getElem? (i := 23) rfl))) (mvT hZ (hw _ (List.mem_of_getElem? (i := 7) rfl))) (mvT hZ (hw _ (List.mem_of_getElem? (i := 24) rfl))) (by decide) (backOf (W := 0) (rm2 l Z a0 hw [] (pp2 &&& (2147483647 : Int32)) (pp3 &&& (1073741823 : Int32)) sl fz af kf vf (0 : Int32) (1 : Int32) h0 n0 Z0 O0 S_FLAGS S_LINES V_af E_sl E_fz F_sl_ordinal F_fz_ordinal) hZ (hw _ (List.mem_of_getElem? (i := 24) rfl)) (hw _ (List.mem_of_getElem? (i := 7) rfl)) (by decide) (by decide)) (g := (mkF m 94 #[.val (.long qq1), .second, .val (.int pp2), .val (.int pp3), .val (.int pp4), .val (.long kk), .second, .val (.ref f7), .val (.int (1 : Int32)), .val (.ref sl), .val (.ref fz), .unset, .unset, .unset] [(.ref fz), (.ref sl), (.int (pp3 &&& (1073741823 : Int32))), (.int (pp2 &&& (2147483647 : Int32)))])) rfl (by rw [hml]; rfl) (argsL := [(.int (pp2 &&& (2147483647 : Int32))), (.int (pp3 &&& (1073741823 : Int32))), (.ref sl), (.ref fz)]) (rest := []) (lenOf pd__28_IILcom_2f_example_2f_tallyhouse_2f_tallyhouse_2f_book_2f_Side_3b_Lcom_2f_example_2f_tallyhouse_2f_tallyhouse_2f_book_2f_Flag_3b__29_J rfl) rfl (by show 2 * 0 + _ ≤ _; exact Nat.le_of_eq rfl) (hb hby at_94) (fun _ _ => ⟨rfl, e15, (by decide : 0 + 0 ≤ _), (by decide : 0 + 0 ≤ _)⟩)
      dsimp only [Pt.U, Pt.locs, Pt.cells, Pt.slots] at X16 l16 y16 z16 st16 hQ16
      subst l16 y16 z16
      obtain ⟨rfl, N16q, e16⟩ := hQ16
      have N16 := Fr.app N3 N16q
      obtain ⟨_, _, ⟨T17, L17, k17, n17⟩, -, X17, ⟨Lc17, hQ17, l17, y17, z17⟩, st17⟩ := Jvm.LawKit.callS X16 hx (y := (⟨"com/example/tallyhouse/tallyhouse/book/LineKey", "side", "(J)Lcom/example/tallyhouse/tallyhouse/book/Side;"⟩ : MethodName)) hown (mvT hZ (hw _ (List.mem_of_getElem? (i := 5) rfl))) (mvT hZ (hw _ (List.mem_of_getElem? (i := 6) rfl))) (mvT hZ (hw _ (List.mem_of_getElem? (i := 7) rfl))) (mvT hZ (hw _ (List.mem_of_getElem? (i := 8) rfl))) (by decide) (backOf (W := 0) (rm1_0 l Z a0 hw [] (((pp2 &&& (2147483647 : Int32)).toInt64 <<< ((32 : Int32) &&& 0x3f).toInt64) ||| ((((pp3 &&& (1073741823 : Int32)).toInt64 * ((4 : Int32).toInt64)) + (((0 : Int32) * (2 : Int32)).toInt64)) + ((1 : Int32).toInt64))) sl ss af kf vf as_ ks h0 n0 Z0 O0 S_FLAGS S_SIDES S_LINES V_af V_as_ (show ((((((pp2 &&& (2147483647 : Int32)).toInt64 <<< ((32 : Int32) &&& 0x3f).toInt64) ||| ((((pp3 &&& (1073741823 : Int32)).toInt64 * ((4 : Int32).toInt64)) + (((0 : Int32) * (2 : Int32)).toInt64)) + ((1 : Int32).toInt64))) - ((((pp2 &&& (2147483647 : Int32)).toInt64 <<< ((32 : Int32) &&& 0x3f).toInt64) ||| ((((pp3 &&& (1073741823 : Int32)).toInt64 * ((4 : Int32).toInt64)) + (((0 : Int32) * (2 : Int32)).toInt64)) + ((1 : Int32).toInt64))) / ((4 : Int32).toInt64)) * ((4 : Int32).toInt64)).toInt32) / (2 : Int32)) = (0 : Int32) from own_made01 _ _)) hZ (hw _ (List.mem_of_getElem? (i := 8) rfl)) (hw _ (List.mem_of_getElem? (i := 7) rfl)) (by decide) (by decide)) (g := (mkF m 101 #[.val (.long qq1), .second, .val (.int pp2), .val (.int pp3), .val (.int pp4), .val (.long kk), .second, .val (.ref f7), .val (.int (1 : Int32)), .val (.ref sl), .val (.ref fz), .val (.long (((pp2 &&& (2147483647 : Int32)).toInt64 <<< ((32 : Int32) &&& 0x3f).toInt64) ||| ((((pp3 &&& (1073741823 : Int32)).toInt64 * ((4 : Int32).toInt64)) + (((0 : Int32) * (2 : Int32)).toInt64)) + ((1 : Int32).toInt64)))), .second, .unset] [(.long (((pp2 &&& (2147483647 : Int32)).toInt64 <<< ((32 : Int32) &&& 0x3f).toInt64) ||| ((((pp3 &&& (1073741823 : Int32)).toInt64 * ((4 : Int32).toInt64)) + (((0 : Int32) * (2 : Int32)).toInt64)) + ((1 : Int32).toInt64))))])) rfl (by rw [hml]; rfl) (argsL := [(.long (((pp2 &&& (2147483647 : Int32)).toInt64 <<< ((32 : Int32) &&& 0x3f).toInt64) ||| ((((pp3 &&& (1073741823 : Int32)).toInt64 * ((4 : Int32).toInt64)) + (((0 : Int32) * (2 : Int32)).toInt64)) + ((1 : Int32).toInt64))))]) (rest := []) (lenOf pd__28_J_29_Lcom_2f_example_2f_tallyhouse_2f_tallyhouse_2f_book_2f_Side_3b_ rfl) rfl (by show 2 * 0 + _ ≤ _; exact Nat.le_of_eq rfl) (hb hby at_101) (fun _ _ => ⟨rfl, e16, (by decide : 0 + 0 ≤ _), (by decide : 0 + 0 ≤ _)⟩)
      dsimp only [Pt.U, Pt.locs, Pt.cells, Pt.slots] at X17 l17 y17 z17 st17 hQ17
      subst l17 y17 z17
      obtain ⟨rfl, N17q, e17⟩ := hQ17
      have N17 := Fr.app N16 N17q
      have hc118_2 : ¬ ((1 : Int32) = (0 : Int32)) := by decide
      have hc123_2 : ¬ ((1 : Int32) = (0 : Int32)) := by decide
      obtain ⟨fs, hr, hrun, hended, hW, hsame⟩ := X17.leave (v := some (.int (1 : Int32))) (fun h => by rw [Bd.returns] at h; cases h)
      refine ⟨_, _, pre11 _ ?_, hrun, hended, _, _, rfl, ?_, ⟨_, rfl⟩, hW, hsame.mono (by decide) (by decide)⟩
      · show Steps p.tables e below (T10.setTop (mkF m 68 #[.val (.long qq1), .second, .val (.int pp2), .val (.int pp3), .val (.int pp4), .val (.long kk), .second, .val (.ref f7), .val (.int (1 : Int32)), .val (.ref sl), .unset, .unset, .unset, .unset] [(.int (pp4 &&& (2 : Int32)))])) _
        refine XS.ifNo X10.here hx rfl (hb hby at_68) rfl ((if0 _ _).trans (feq hc68).1) ?_
        show Steps p.tables e below (T10.setTop (mkF m 71 #[.val (.long qq1), .second, .val (.int pp2), .val (.int pp3), .val (.int pp4), .val (.long kk), .second, .val (.ref f7), .val (.int (1 : Int32)), .val (.ref sl), .unset, .unset, .unset, .unset] [])) _
        refine st15 _ ?_
        show Steps p.tables e below (T15.setTop (mkF m 74 #[.val (.long qq1), .second, .val (.int pp2), .val (.int pp3), .val (.int pp4), .val (.long kk), .second, .val (.ref f7), .val (.int (1 : Int32)), .val (.ref sl), .unset, .unset, .unset, .unset] [(.ref fz)])) _
        refine XS.goto X15.here hx rfl (pc0 := 74) (pc' := 80) rfl (hb hby at_74) (by decide) (by decide) ?_
        show Steps p.tables e below (T15.setTop (mkF m 80 #[.val (.long qq1), .second, .val (.int pp2), .val (.int pp3), .val (.int pp4), .val (.long kk), .second, .val (.ref f7), .val (.int (1 : Int32)), .val (.ref sl), .unset, .unset, .unset, .unset] [(.ref fz)])) _
        refine XS.astore X15.here hx rfl (hb hby at_80) rfl rfl (l' := #[.val (.long qq1), .second, .val (.int pp2), .val (.int pp3), .val (.int pp4), .val (.long kk), .second, .val (.ref f7), .val (.int (1 : Int32)), .val (.ref sl), .val (.ref fz), .unset, .unset, .unset]) rfl ?_
        show Steps p.tables e below (T15.setTop (mkF m 82 #[.val (.long qq1), .second, .val (.int pp2), .val (.int pp3), .val (.int pp4), .val (.long kk), .second, .val (.ref f7), .val (.int (1 : Int32)), .val (.ref sl), .val (.ref fz), .unset, .unset, .unset] [])) _
        refine XS.iloadN X15.here hx rfl (hb hby at_82) rfl ?_
        show Steps p.tables e below (T15.setTop (mkF m 83 #[.val (.long qq1), .second, .val (.int pp2), .val (.int pp3), .val (.int pp4), .val (.long kk), .second, .val (.ref f7), .val (.int (1 : Int32)), .val (.ref sl), .val (.ref fz), .unset, .unset, .unset] [(.int pp2)])) _
        refine X15.ldcInt hx hown (mvT hZ (hw _ (List.mem_of_getElem? (i := 20) rfl))) (g := (mkF m 83 #[.val (.long qq1), .second, .val (.int pp2), .val (.int pp3), .val (.int pp4), .val (.long kk), .second, .val (.ref f7), .val (.int (1 : Int32)), .val (.ref sl), .val (.ref fz), .unset, .unset, .unset] [(.int pp2)])) rfl (hb hby at_83) _ ?_
        show Steps p.tables e below (T15.setTop (mkF m 85 #[.val (.long qq1), .second, .val (.int pp2), .val (.int pp3), .val (.int pp4), .val (.long kk), .second, .val (.ref f7), .val (.int (1 : Int32)), .val (.ref sl), .val (.ref fz), .unset, .unset, .unset] [(.int (2147483647 : Int32)), (.int pp2)])) _
        refine XS.iand X15.here hx rfl (hb hby at_85) rfl ?_
        show Steps p.tables e below (T15.setTop (mkF m 86 #[.val (.long qq1), .second, .val (.int pp2), .val (.int pp3), .val (.int pp4), .val (.long kk), .second, .val (.ref f7), .val (.int (1 : Int32)), .val (.ref sl), .val (.ref fz), .unset, .unset, .unset] [(.int (pp2 &&& (2147483647 : Int32)))])) _
        refine XS.iloadN X15.here hx rfl (hb hby at_86) rfl ?_
        show Steps p.tables e below (T15.setTop (mkF m 87 #[.val (.long qq1), .second, .val (.int pp2), .val (.int pp3), .val (.int pp4), .val (.long kk), .second, .val (.ref f7), .val (.int (1 : Int32)), .val (.ref sl), .val (.ref fz), .unset, .unset, .unset] [(.int pp3), (.int (pp2 &&& (2147483647 : Int32)))])) _
        refine X15.ldcInt hx hown (mvT hZ (hw _ (List.mem_of_getElem? (i := 21) rfl))) (g := (mkF m 87 #[.val (.long qq1), .second, .val (.int pp2), .val (.int pp3), .val (.int pp4), .val (.long kk), .second, .val (.ref f7), .val (.int (1 : Int32)), .val (.ref sl), .val (.ref fz), .unset, .unset, .unset] [(.int pp3), (.int (pp2 &&& (2147483647 : Int32)))])) rfl (hb hby at_87) _ ?_
        show Steps p.tables e below (T15.setTop (mkF m 89 #[.val (.long qq1), .second, .val (.int pp2), .val (.int pp3), .val (.int pp4), .val (.long kk), .second, .val (.ref f7), .val (.int (1 : Int32)), .val (.ref sl), .val (.ref fz), .unset, .unset, .unset] [(.int (1073741823 : Int32)), (.int pp3), (.int (pp2 &&& (2147483647 : Int32)))])) _
        refine XS.iand X15.here hx rfl (hb hby at_89) rfl ?_
        show Steps p.tables e below (T15.setTop (mkF m 90 #[.val (.long qq1), .second, .val (.int pp2), .val (.int pp3), .val (.int pp4), .val (.long kk), .second, .val (.ref f7), .val (.int (1 : Int32)), .val (.ref sl), .val (.ref fz), .unset, .unset, .unset] [(.int (pp3 &&& (1073741823 : Int32))), (.int (pp2 &&& (2147483647 : Int32)))])) _
        refine XS.aload X15.here hx rfl (hb hby at_90) rfl rfl ?_
        show Steps p.tables e below (T15.setTop (mkF m 92 #[.val (.long qq1), .second, .val (.int pp2), .val (.int pp3), .val (.int pp4), .val (.long kk), .second, .val (.ref f7), .val (.int (1 : Int32)), .val (.ref sl), .val (.ref fz), .unset, .unset, .unset] [(.ref sl), (.int (pp3 &&& (1073741823 : Int32))), (.int (pp2 &&& (2147483647 : Int32)))])) _
        refine XS.aload X15.here hx rfl (hb hby at_92) rfl rfl ?_
        show Steps p.tables e below (T15.setTop (mkF m 94 #[.val (.long qq1), .second, .val (.int pp2), .val (.int pp3), .val (.int pp4), .val (.long kk), .second, .val (.ref f7), .val (.int (1 : Int32)), .val (.ref sl), .val (.ref fz), .unset, .unset, .unset] [(.ref fz), (.ref sl), (.int (pp3 &&& (1073741823 : Int32))), (.int (pp2 &&& (2147483647 : Int32)))])) _
        refine st16 _ ?_
        show Steps p.tables e below (T16.setTop (mkF m 97 #[.val (.long qq1), .second, .val (.int pp2), .val (.int pp3), .val (.int pp4), .val (.long kk), .second, .val (.ref f7), .val (.int (1 : Int32)), .val (.ref sl), .val (.ref fz), .unset, .unset, .unset] [(.long (((pp2 &&& (2147483647 : Int32)).toInt64 <<< ((32 : Int32) &&& 0x3f).toInt64) ||| ((((pp3 &&& (1073741823 : Int32)).toInt64 * ((4 : Int32).toInt64)) + (((0 : Int32) * (2 : Int32)).toInt64)) + ((1 : Int32).toInt64))))])) _
        refine XS.lstore X16.here hx rfl (hb hby at_97) rfl (l' := #[.val (.long qq1), .second, .val (.int pp2), .val (.int pp3), .val (.int pp4), .val (.long kk), .second, .val (.ref f7), .val (.int (1 : Int32)), .val (.ref sl), .val (.ref fz), .val (.long (((pp2 &&& (2147483647 : Int32)).toInt64 <<< ((32 : Int32) &&& 0x3f).toInt64) ||| ((((pp3 &&& (1073741823 : Int32)).toInt64 * ((4 : Int32).toInt64)) + (((0 : Int32) * (2 : Int32)).toInt64)) + ((1 : Int32).toInt64)))), .second, .unset]) rfl ?_
        show Steps p.tables e below (T16.setTop (mkF m 99 #[.val (.long qq1), .second, .val (.int pp2), .val (.int pp3), .val (.int pp4), .val (.long kk), .second, .val (.ref f7), .val (.int (1 : Int32)), .val (.ref sl), .val (.ref fz), .val (.long (((pp2 &&& (2147483647 : Int32)).toInt64 <<< ((32 : Int32) &&& 0x3f).toInt64) ||| ((((pp3 &&& (1073741823 : Int32)).toInt64 * ((4 : Int32).toInt64)) + (((0 : Int32) * (2 : Int32)).toInt64)) + ((1 : Int32).toInt64)))), .second, .unset] [])) _
        refine XS.lload X16.here hx rfl (hb hby at_99) rfl ?_
        show Steps p.tables e below (T16.setTop (mkF m 101 #[.val (.long qq1), .second, .val (.int pp2), .val (.int pp3), .val (.int pp4), .val (.long kk), .second, .val (.ref f7), .val (.int (1 : Int32)), .val (.ref sl), .val (.ref fz), .val (.long (((pp2 &&& (2147483647 : Int32)).toInt64 <<< ((32 : Int32) &&& 0x3f).toInt64) ||| ((((pp3 &&& (1073741823 : Int32)).toInt64 * ((4 : Int32).toInt64)) + (((0 : Int32) * (2 : Int32)).toInt64)) + ((1 : Int32).toInt64)))), .second, .unset] [(.long (((pp2 &&& (2147483647 : Int32)).toInt64 <<< ((32 : Int32) &&& 0x3f).toInt64) ||| ((((pp3 &&& (1073741823 : Int32)).toInt64 * ((4 : Int32).toInt64)) + (((0 : Int32) * (2 : Int32)).toInt64)) + ((1 : Int32).toInt64))))])) _
        refine st17 _ ?_
        show Steps p.tables e below (T17.setTop (mkF m 104 #[.val (.long qq1), .second, .val (.int pp2), .val (.int pp3), .val (.int pp4), .val (.long kk), .second, .val (.ref f7), .val (.int (1 : Int32)), .val (.ref sl), .val (.ref fz), .val (.long (((pp2 &&& (2147483647 : Int32)).toInt64 <<< ((32 : Int32) &&& 0x3f).toInt64) ||| ((((pp3 &&& (1073741823 : Int32)).toInt64 * ((4 : Int32).toInt64)) + (((0 : Int32) * (2 : Int32)).toInt64)) + ((1 : Int32).toInt64)))), .second, .unset] [(.ref sl)])) _
        refine XS.aload X17.here hx rfl (hb hby at_104) rfl rfl ?_
        show Steps p.tables e below (T17.setTop (mkF m 106 #[.val (.long qq1), .second, .val (.int pp2), .val (.int pp3), .val (.int pp4), .val (.long kk), .second, .val (.ref f7), .val (.int (1 : Int32)), .val (.ref sl), .val (.ref fz), .val (.long (((pp2 &&& (2147483647 : Int32)).toInt64 <<< ((32 : Int32) &&& 0x3f).toInt64) ||| ((((pp3 &&& (1073741823 : Int32)).toInt64 * ((4 : Int32).toInt64)) + (((0 : Int32) * (2 : Int32)).toInt64)) + ((1 : Int32).toInt64)))), .second, .unset] [(.ref sl), (.ref sl)])) _
        refine Jvm.RoadKit.acmp (g := (mkF m 106 #[.val (.long qq1), .second, .val (.int pp2), .val (.int pp3), .val (.int pp4), .val (.long kk), .second, .val (.ref f7), .val (.int (1 : Int32)), .val (.ref sl), .val (.ref fz), .val (.long (((pp2 &&& (2147483647 : Int32)).toInt64 <<< ((32 : Int32) &&& 0x3f).toInt64) ||| ((((pp3 &&& (1073741823 : Int32)).toInt64 * ((4 : Int32).toInt64)) + (((0 : Int32) * (2 : Int32)).toInt64)) + ((1 : Int32).toInt64)))), .second, .unset] [(.ref sl), (.ref sl)])) X17 hx rfl rfl rfl (pc0 := 106) (pc' := 109) (same := true) rfl (hb hby at_106) rfl (decide_eq_true rfl) (by decide) (by decide) ?_
        show Steps p.tables e below (T17.setTop (mkF m 109 #[.val (.long qq1), .second, .val (.int pp2), .val (.int pp3), .val (.int pp4), .val (.long kk), .second, .val (.ref f7), .val (.int (1 : Int32)), .val (.ref sl), .val (.ref fz), .val (.long (((pp2 &&& (2147483647 : Int32)).toInt64 <<< ((32 : Int32) &&& 0x3f).toInt64) ||| ((((pp3 &&& (1073741823 : Int32)).toInt64 * ((4 : Int32).toInt64)) + (((0 : Int32) * (2 : Int32)).toInt64)) + ((1 : Int32).toInt64)))), .second, .unset] [])) _
        refine XS.iconst X17.here hx rfl (hb hby at_109) ?_
        show Steps p.tables e below (T17.setTop (mkF m 110 #[.val (.long qq1), .second, .val (.int pp2), .val (.int pp3), .val (.int pp4), .val (.long kk), .second, .val (.ref f7), .val (.int (1 : Int32)), .val (.ref sl), .val (.ref fz), .val (.long (((pp2 &&& (2147483647 : Int32)).toInt64 <<< ((32 : Int32) &&& 0x3f).toInt64) ||| ((((pp3 &&& (1073741823 : Int32)).toInt64 * ((4 : Int32).toInt64)) + (((0 : Int32) * (2 : Int32)).toInt64)) + ((1 : Int32).toInt64)))), .second, .unset] [(.int (1 : Int32))])) _
        refine XS.goto X17.here hx rfl (pc0 := 110) (pc' := 114) rfl (hb hby at_110) (by decide) (by decide) ?_
        show Steps p.tables e below (T17.setTop (mkF m 114 #[.val (.long qq1), .second, .val (.int pp2), .val (.int pp3), .val (.int pp4), .val (.long kk), .second, .val (.ref f7), .val (.int (1 : Int32)), .val (.ref sl), .val (.ref fz), .val (.long (((pp2 &&& (2147483647 : Int32)).toInt64 <<< ((32 : Int32) &&& 0x3f).toInt64) ||| ((((pp3 &&& (1073741823 : Int32)).toInt64 * ((4 : Int32).toInt64)) + (((0 : Int32) * (2 : Int32)).toInt64)) + ((1 : Int32).toInt64)))), .second, .unset] [(.int (1 : Int32))])) _
        refine XS.istore X17.here hx rfl (hb hby at_114) rfl (l' := #[.val (.long qq1), .second, .val (.int pp2), .val (.int pp3), .val (.int pp4), .val (.long kk), .second, .val (.ref f7), .val (.int (1 : Int32)), .val (.ref sl), .val (.ref fz), .val (.long (((pp2 &&& (2147483647 : Int32)).toInt64 <<< ((32 : Int32) &&& 0x3f).toInt64) ||| ((((pp3 &&& (1073741823 : Int32)).toInt64 * ((4 : Int32).toInt64)) + (((0 : Int32) * (2 : Int32)).toInt64)) + ((1 : Int32).toInt64)))), .second, .val (.int (1 : Int32))]) rfl ?_
        show Steps p.tables e below (T17.setTop (mkF m 116 #[.val (.long qq1), .second, .val (.int pp2), .val (.int pp3), .val (.int pp4), .val (.long kk), .second, .val (.ref f7), .val (.int (1 : Int32)), .val (.ref sl), .val (.ref fz), .val (.long (((pp2 &&& (2147483647 : Int32)).toInt64 <<< ((32 : Int32) &&& 0x3f).toInt64) ||| ((((pp3 &&& (1073741823 : Int32)).toInt64 * ((4 : Int32).toInt64)) + (((0 : Int32) * (2 : Int32)).toInt64)) + ((1 : Int32).toInt64)))), .second, .val (.int (1 : Int32))] [])) _
        refine XS.iload X17.here hx rfl (hb hby at_116) rfl ?_
        show Steps p.tables e below (T17.setTop (mkF m 118 #[.val (.long qq1), .second, .val (.int pp2), .val (.int pp3), .val (.int pp4), .val (.long kk), .second, .val (.ref f7), .val (.int (1 : Int32)), .val (.ref sl), .val (.ref fz), .val (.long (((pp2 &&& (2147483647 : Int32)).toInt64 <<< ((32 : Int32) &&& 0x3f).toInt64) ||| ((((pp3 &&& (1073741823 : Int32)).toInt64 * ((4 : Int32).toInt64)) + (((0 : Int32) * (2 : Int32)).toInt64)) + ((1 : Int32).toInt64)))), .second, .val (.int (1 : Int32))] [(.int (1 : Int32))])) _
        refine XS.ifNo X17.here hx rfl (hb hby at_118) rfl ((if0 _ _).trans (feq hc118_2).1) ?_
        show Steps p.tables e below (T17.setTop (mkF m 121 #[.val (.long qq1), .second, .val (.int pp2), .val (.int pp3), .val (.int pp4), .val (.long kk), .second, .val (.ref f7), .val (.int (1 : Int32)), .val (.ref sl), .val (.ref fz), .val (.long (((pp2 &&& (2147483647 : Int32)).toInt64 <<< ((32 : Int32) &&& 0x3f).toInt64) ||| ((((pp3 &&& (1073741823 : Int32)).toInt64 * ((4 : Int32).toInt64)) + (((0 : Int32) * (2 : Int32)).toInt64)) + ((1 : Int32).toInt64)))), .second, .val (.int (1 : Int32))] [])) _
        refine XS.iload X17.here hx rfl (hb hby at_121) rfl ?_
        show Steps p.tables e below (T17.setTop (mkF m 123 #[.val (.long qq1), .second, .val (.int pp2), .val (.int pp3), .val (.int pp4), .val (.long kk), .second, .val (.ref f7), .val (.int (1 : Int32)), .val (.ref sl), .val (.ref fz), .val (.long (((pp2 &&& (2147483647 : Int32)).toInt64 <<< ((32 : Int32) &&& 0x3f).toInt64) ||| ((((pp3 &&& (1073741823 : Int32)).toInt64 * ((4 : Int32).toInt64)) + (((0 : Int32) * (2 : Int32)).toInt64)) + ((1 : Int32).toInt64)))), .second, .val (.int (1 : Int32))] [(.int (1 : Int32))])) _
        refine XS.ifNo X17.here hx rfl (hb hby at_123) rfl ((if0 _ _).trans (feq hc123_2).1) ?_
        show Steps p.tables e below (T17.setTop (mkF m 126 #[.val (.long qq1), .second, .val (.int pp2), .val (.int pp3), .val (.int pp4), .val (.long kk), .second, .val (.ref f7), .val (.int (1 : Int32)), .val (.ref sl), .val (.ref fz), .val (.long (((pp2 &&& (2147483647 : Int32)).toInt64 <<< ((32 : Int32) &&& 0x3f).toInt64) ||| ((((pp3 &&& (1073741823 : Int32)).toInt64 * ((4 : Int32).toInt64)) + (((0 : Int32) * (2 : Int32)).toInt64)) + ((1 : Int32).toInt64)))), .second, .val (.int (1 : Int32))] [])) _
        refine XS.iconst X17.here hx rfl (hb hby at_126) ?_
        show Steps p.tables e below (T17.setTop (mkF m 127 #[.val (.long qq1), .second, .val (.int pp2), .val (.int pp3), .val (.int pp4), .val (.long kk), .second, .val (.ref f7), .val (.int (1 : Int32)), .val (.ref sl), .val (.ref fz), .val (.long (((pp2 &&& (2147483647 : Int32)).toInt64 <<< ((32 : Int32) &&& 0x3f).toInt64) ||| ((((pp3 &&& (1073741823 : Int32)).toInt64 * ((4 : Int32).toInt64)) + (((0 : Int32) * (2 : Int32)).toInt64)) + ((1 : Int32).toInt64)))), .second, .val (.int (1 : Int32))] [(.int (1 : Int32))])) _
        refine XS.goto X17.here hx rfl (pc0 := 127) (pc' := 131) rfl (hb hby at_127) (by decide) (by decide) ?_
        show Steps p.tables e below (T17.setTop (mkF m 131 #[.val (.long qq1), .second, .val (.int pp2), .val (.int pp3), .val (.int pp4), .val (.long kk), .second, .val (.ref f7), .val (.int (1 : Int32)), .val (.ref sl), .val (.ref fz), .val (.long (((pp2 &&& (2147483647 : Int32)).toInt64 <<< ((32 : Int32) &&& 0x3f).toInt64) ||| ((((pp3 &&& (1073741823 : Int32)).toInt64 * ((4 : Int32).toInt64)) + (((0 : Int32) * (2 : Int32)).toInt64)) + ((1 : Int32).toInt64)))), .second, .val (.int (1 : Int32))] [(.int (1 : Int32))])) _
        exact retN X17 hx (t := .boolean) Bd.returns (by simp) (hb hby at_131) hr
      · show Q0 Z qq1 pp2 pp3 pp4 fh fz sl ss af kf vf as_ ks h0 n0 _ T17.heap _
        rw [e17]
        exact ⟨rfl, N17⟩
  · skip
    obtain ⟨T18, X18, e18, st18⟩ := getS2 X3 hx hZ hown (host := "") (Or.inl (hw _ (List.mem_of_getElem? (i := 2) rfl))) Via.refl e3 (S_SHORT.ext O0.2) (g := (mkF m 53 #[.val (.long qq1), .second, .val (.int pp2), .val (.int pp3), .val (.int pp4), .val (.long kk), .second, .val (.ref f7), .val (.int (1 : Int32)), .unset, .unset, .unset, .unset, .unset] [])) rfl (hb hby at_53)
    have pre19 : ∀ t, Steps p.tables e below (T18.setTop (mkF m 68 #[.val (.long qq1), .second, .val (.int pp2), .val (.int pp3), .val (.int pp4), .val (.long kk), .second, .val (.ref f7), .val (.int (1 : Int32)), .val (.ref ss), .unset, .unset, .unset, .unset] [(.int (pp4 &&& (2 : Int32)))])) t → Steps p.tables e below (s₁.setTop (entryFrame m #[(.long qq1), (.int pp2), (.int pp3), (.int pp4)] maxLocals)) t := fun t kt => pre9 t (by
      show Steps p.tables e below (T3.setTop (mkF m 50 #[.val (.long qq1), .second, .val (.int pp2), .val (.int pp3), .val (.int pp4), .val (.long kk), .second, .val (.ref f7), .val (.int (1 : Int32)), .unset, .unset, .unset, .unset, .unset] [(.int (pp4 &&& (1 : Int32)))])) _
      refine XS.ifNo X3.here hx rfl (hb hby at_50) rfl ((if0 _ _).trans (feq hc50).1) ?_
      show Steps p.tables e below (T3.setTop (mkF m 53 #[.val (.long qq1), .second, .val (.int pp2), .val (.int pp3), .val (.int pp4), .val (.long kk), .second, .val (.ref f7), .val (.int (1 : Int32)), .unset, .unset, .unset, .unset, .unset] [])) _
      refine st18 _ ?_
      show Steps p.tables e below (T18.setTop (mkF m 56 #[.val (.long qq1), .second, .val (.int pp2), .val (.int pp3), .val (.int pp4), .val (.long kk), .second, .val (.ref f7), .val (.int (1 : Int32)), .unset, .unset, .unset, .unset, .unset] [(.ref ss)])) _
      refine XS.goto X18.here hx rfl (pc0 := 56) (pc' := 62) rfl (hb hby at_56) (by decide) (by decide) ?_
      show Steps p.tables e below (T18.setTop (mkF m 62 #[.val (.long qq1), .second, .val (.int pp2), .val (.int pp3), .val (.int pp4), .val (.long kk), .second, .val (.ref f7), .val (.int (1 : Int32)), .unset, .unset, .unset, .unset, .unset] [(.ref ss)])) _
      refine XS.astore X18.here hx rfl (hb hby at_62) rfl rfl (l' := #[.val (.long qq1), .second, .val (.int pp2), .val (.int pp3), .val (.int pp4), .val (.long kk), .second, .val (.ref f7), .val (.int (1 : Int32)), .val (.ref ss), .unset, .unset, .unset, .unset]) rfl ?_
      show Steps p.tables e below (T18.setTop (mkF m 64 #[.val (.long qq1), .second, .val (.int pp2), .val (.int pp3), .val (.int pp4), .val (.long kk), .second, .val (.ref f7), .val (.int (1 : Int32)), .val (.ref ss), .unset, .unset, .unset, .unset] [])) _
      refine XS.iload X18.here hx rfl (hb hby at_64) rfl ?_
      show Steps p.tables e below (T18.setTop (mkF m 66 #[.val (.long qq1), .second, .val (.int pp2), .val (.int pp3), .val (.int pp4), .val (.long kk), .second, .val (.ref f7), .val (.int (1 : Int32)), .val (.ref ss), .unset, .unset, .unset, .unset] [(.int pp4)])) _
      refine XS.iconst X18.here hx rfl (hb hby at_66) ?_
      show Steps p.tables e below (T18.setTop (mkF m 67 #[.val (.long qq1), .second, .val (.int pp2), .val (.int pp3), .val (.int pp4), .val (.long kk), .second, .val (.ref f7), .val (.int (1 : Int32)), .val (.ref ss), .unset, .unset, .unset, .unset] [(.int (2 : Int32)), (.int pp4)])) _
      refine XS.iand X18.here hx rfl (hb hby at_67) rfl ?_
      exact kt)
    by_cases hc68_2 : (pp4 &&& (2 : Int32)) = (0 : Int32)
    · skip
      obtain ⟨T20, X20, e20, st20⟩ := getS2 X18 hx hZ hown (host := "") (Or.inl (hw _ (List.mem_of_getElem? (i := 17) rfl))) Via.refl e18 (S_HEDGE.ext O0.2) (g := (mkF m 77 #[.val (.long qq1), .second, .val (.int pp2), .val (.int pp3), .val (.int pp4), .val (.long kk), .second, .val (.ref f7), .val (.int (1 : Int32)), .val (.ref ss), .unset, .unset, .unset, .unset] [])) rfl (hb hby at_77)
      obtain ⟨_, _, ⟨T21, L21, k21, n21⟩, -, X21, ⟨Lc21, hQ21, l21, y21, z21⟩, st21⟩ := Jvm.LawKit.callS X20 hx (y := (⟨"com/example/tallyhouse/tallyhouse/book/LineKey", "of", "(IILcom/example/tallyhouse/tallyhouse/book/Side;Lcom/example/tallyhouse/tallyhouse/book/Flag;)J"⟩ : MethodName)) hown (mvT hZ (hw _ (List.mem_of_getElem? (i := 22) rfl))) (mvT hZ (hw _ (List.mem_of_getElem? (i := 23) rfl))) (mvT hZ (hw _ (List.mem_of_getElem? (i := 7) rfl))) (mvT hZ (hw _ (List.mem_of_getElem? (i := 24) rfl))) (by decide) (backOf (W := 0) (rm2 l Z a0 hw [] (pp2 &&& (2147483647 : Int32)) (pp3 &&& (1073741823 : Int32)) ss fh af kf vf (1 : Int32) (0 : Int32) h0 n0 Z0 O0 S_FLAGS S_LINES V_af E_ss E_fh F_ss_ordinal F_fh_ordinal) hZ (hw _ (List.mem_of_getElem? (i := 24) rfl)) (hw _ (List.mem_of_getElem? (i := 7) rfl)) (by decide) (by decide)) (g := (mkF m 94 #[.val (.long qq1), .second, .val (.int pp2), .val (.int pp3), .val (.int pp4), .val (.long kk), .second, .val (.ref f7), .val (.int (1 : Int32)), .val (.ref ss), .val (.ref fh), .unset, .unset, .unset] [(.ref fh), (.ref ss), (.int (pp3 &&& (1073741823 : Int32))), (.int (pp2 &&& (2147483647 : Int32)))])) rfl (by rw [hml]; rfl) (argsL := [(.int (pp2 &&& (2147483647 : Int32))), (.int (pp3 &&& (1073741823 : Int32))), (.ref ss), (.ref fh)]) (rest := []) (lenOf pd__28_IILcom_2f_example_2f_tallyhouse_2f_tallyhouse_2f_book_2f_Side_3b_Lcom_2f_example_2f_tallyhouse_2f_tallyhouse_2f_book_2f_Flag_3b__29_J rfl) rfl (by show 2 * 0 + _ ≤ _; exact Nat.le_of_eq rfl) (hb hby at_94) (fun _ _ => ⟨rfl, e20, (by decide : 0 + 0 ≤ _), (by decide : 0 + 0 ≤ _)⟩)
      dsimp only [Pt.U, Pt.locs, Pt.cells, Pt.slots] at X21 l21 y21 z21 st21 hQ21
      subst l21 y21 z21
      obtain ⟨rfl, N21q, e21⟩ := hQ21
      have N21 := Fr.app N3 N21q
      obtain ⟨_, _, ⟨T22, L22, k22, n22⟩, -, X22, ⟨Lc22, hQ22, l22, y22, z22⟩, st22⟩ := Jvm.LawKit.callS X21 hx (y := (⟨"com/example/tallyhouse/tallyhouse/book/LineKey", "side", "(J)Lcom/example/tallyhouse/tallyhouse/book/Side;"⟩ : MethodName)) hown (mvT hZ (hw _ (List.mem_of_getElem? (i := 5) rfl))) (mvT hZ (hw _ (List.mem_of_getElem? (i := 6) rfl))) (mvT hZ (hw _ (List.mem_of_getElem? (i := 7) rfl))) (mvT hZ (hw _ (List.mem_of_getElem? (i := 8) rfl))) (by decide) (backOf (W := 0) (rm1_1 l Z a0 hw [] (((pp2 &&& (2147483647 : Int32)).toInt64 <<< ((32 : Int32) &&& 0x3f).toInt64) ||| ((((pp3 &&& (1073741823 : Int32)).toInt64 * ((4 : Int32).toInt64)) + (((1 : Int32) * (2 : Int32)).toInt64)) + ((0 : Int32).toInt64))) sl ss af kf vf as_ ks h0 n0 Z0 O0 S_FLAGS S_SIDES S_LINES V_af V_as_ (show ((((((pp2 &&& (2147483647 : Int32)).toInt64 <<< ((32 : Int32) &&& 0x3f).toInt64) ||| ((((pp3 &&& (1073741823 : Int32)).toInt64 * ((4 : Int32).toInt64)) + (((1 : Int32) * (2 : Int32)).toInt64)) + ((0 : Int32).toInt64))) - ((((pp2 &&& (2147483647 : Int32)).toInt64 <<< ((32 : Int32) &&& 0x3f).toInt64) ||| ((((pp3 &&& (1073741823 : Int32)).toInt64 * ((4 : Int32).toInt64)) + (((1 : Int32) * (2 : Int32)).toInt64)) + ((0 : Int32).toInt64))) / ((4 : Int32).toInt64)) * ((4 : Int32).toInt64)).toInt32) / (2 : Int32)) = (1 : Int32) from own_made10 _ _)) hZ (hw _ (List.mem_of_getElem? (i := 8) rfl)) (hw _ (List.mem_of_getElem? (i := 7) rfl)) (by decide) (by decide)) (g := (mkF m 101 #[.val (.long qq1), .second, .val (.int pp2), .val (.int pp3), .val (.int pp4), .val (.long kk), .second, .val (.ref f7), .val (.int (1 : Int32)), .val (.ref ss), .val (.ref fh), .val (.long (((pp2 &&& (2147483647 : Int32)).toInt64 <<< ((32 : Int32) &&& 0x3f).toInt64) ||| ((((pp3 &&& (1073741823 : Int32)).toInt64 * ((4 : Int32).toInt64)) + (((1 : Int32) * (2 : Int32)).toInt64)) + ((0 : Int32).toInt64)))), .second, .unset] [(.long (((pp2 &&& (2147483647 : Int32)).toInt64 <<< ((32 : Int32) &&& 0x3f).toInt64) ||| ((((pp3 &&& (1073741823 : Int32)).toInt64 * ((4 : Int32).toInt64)) + (((1 : Int32) * (2 : Int32)).toInt64)) + ((0 : Int32).toInt64))))])) rfl (by rw [hml]; rfl) (argsL := [(.long (((pp2 &&& (2147483647 : Int32)).toInt64 <<< ((32 : Int32) &&& 0x3f).toInt64) ||| ((((pp3 &&& (1073741823 : Int32)).toInt64 * ((4 : Int32).toInt64)) + (((1 : Int32) * (2 : Int32)).toInt64)) + ((0 : Int32).toInt64))))]) (rest := []) (lenOf pd__28_J_29_Lcom_2f_example_2f_tallyhouse_2f_tallyhouse_2f_book_2f_Side_3b_ rfl) rfl (by show 2 * 0 + _ ≤ _; exact Nat.le_of_eq rfl) (hb hby at_101) (fun _ _ => ⟨rfl, e21, (by decide : 0 + 0 ≤ _), (by decide : 0 + 0 ≤ _)⟩)
      dsimp only [Pt.U, Pt.locs, Pt.cells, Pt.slots] at X22 l22 y22 z22 st22 hQ22
      subst l22 y22 z22
      obtain ⟨rfl, N22q, e22⟩ := hQ22
      have N22 := Fr.app N21 N22q
      have hc118_3 : ¬ ((1 : Int32) = (0 : Int32)) := by decide
      have hc123_3 : ¬ ((1 : Int32) = (0 : Int32)) := by decide
      obtain ⟨fs, hr, hrun, hended, hW, hsame⟩ := X22.leave (v := some (.int (1 : Int32))) (fun h => by rw [Bd.returns] at h; cases h)
      refine ⟨_, _, pre19 _ ?_, hrun, hended, _, _, rfl, ?_, ⟨_, rfl⟩, hW, hsame.mono (by decide) (by decide)⟩
      · show Steps p.tables e below (T18.setTop (mkF m 68 #[.val (.long qq1), .second, .val (.int pp2), .val (.int pp3), .val (.int pp4), .val (.long kk), .second, .val (.ref f7), .val (.int (1 : Int32)), .val (.ref ss), .unset, .unset, .unset, .unset] [(.int (pp4 &&& (2 : Int32)))])) _
        refine XS.ifYes X18.here hx rfl (pc0 := 68) (pc' := 77) rfl (hb hby at_68) rfl ((if0 _ _).trans (teq hc68_2).1) (by decide) (by decide) ?_
        show Steps p.tables e below (T18.setTop (mkF m 77 #[.val (.long qq1), .second, .val (.int pp2), .val (.int pp3), .val (.int pp4), .val (.long kk), .second, .val (.ref f7), .val (.int (1 : Int32)), .val (.ref ss), .unset, .unset, .unset, .unset] [])) _
        refine st20 _ ?_
        show Steps p.tables e below (T20.setTop (mkF m 80 #[.val (.long qq1), .second, .val (.int pp2), .val (.int pp3), .val (.int pp4), .val (.long kk), .second, .val (.ref f7), .val (.int (1 : Int32)), .val (.ref ss), .unset, .unset, .unset, .unset] [(.ref fh)])) _
        refine XS.astore X20.here hx rfl (hb hby at_80) rfl rfl (l' := #[.val (.long qq1), .second, .val (.int pp2), .val (.int pp3), .val (.int pp4), .val (.long kk), .second, .val (.ref f7), .val (.int (1 : Int32)), .val (.ref ss), .val (.ref fh), .unset, .unset, .unset]) rfl ?_
        show Steps p.tables e below (T20.setTop (mkF m 82 #[.val (.long qq1), .second, .val (.int pp2), .val (.int pp3), .val (.int pp4), .val (.long kk), .second, .val (.ref f7), .val (.int (1 : Int32)), .val (.ref ss), .val (.ref fh), .unset, .unset, .unset] [])) _
        refine XS.iloadN X20.here hx rfl (hb hby at_82) rfl ?_
        show Steps p.tables e below (T20.setTop (mkF m 83 #[.val (.long qq1), .second, .val (.int pp2), .val (.int pp3), .val (.int pp4), .val (.long kk), .second, .val (.ref f7), .val (.int (1 : Int32)), .val (.ref ss), .val (.ref fh), .unset, .unset, .unset] [(.int pp2)])) _
        refine X20.ldcInt hx hown (mvT hZ (hw _ (List.mem_of_getElem? (i := 20) rfl))) (g := (mkF m 83 #[.val (.long qq1), .second, .val (.int pp2), .val (.int pp3), .val (.int pp4), .val (.long kk), .second, .val (.ref f7), .val (.int (1 : Int32)), .val (.ref ss), .val (.ref fh), .unset, .unset, .unset] [(.int pp2)])) rfl (hb hby at_83) _ ?_
        show Steps p.tables e below (T20.setTop (mkF m 85 #[.val (.long qq1), .second, .val (.int pp2), .val (.int pp3), .val (.int pp4), .val (.long kk), .second, .val (.ref f7), .val (.int (1 : Int32)), .val (.ref ss), .val (.ref fh), .unset, .unset, .unset] [(.int (2147483647 : Int32)), (.int pp2)])) _
        refine XS.iand X20.here hx rfl (hb hby at_85) rfl ?_
        show Steps p.tables e below (T20.setTop (mkF m 86 #[.val (.long qq1), .second, .val (.int pp2), .val (.int pp3), .val (.int pp4), .val (.long kk), .second, .val (.ref f7), .val (.int (1 : Int32)), .val (.ref ss), .val (.ref fh), .unset, .unset, .unset] [(.int (pp2 &&& (2147483647 : Int32)))])) _
        refine XS.iloadN X20.here hx rfl (hb hby at_86) rfl ?_
        show Steps p.tables e below (T20.setTop (mkF m 87 #[.val (.long qq1), .second, .val (.int pp2), .val (.int pp3), .val (.int pp4), .val (.long kk), .second, .val (.ref f7), .val (.int (1 : Int32)), .val (.ref ss), .val (.ref fh), .unset, .unset, .unset] [(.int pp3), (.int (pp2 &&& (2147483647 : Int32)))])) _
        refine X20.ldcInt hx hown (mvT hZ (hw _ (List.mem_of_getElem? (i := 21) rfl))) (g := (mkF m 87 #[.val (.long qq1), .second, .val (.int pp2), .val (.int pp3), .val (.int pp4), .val (.long kk), .second, .val (.ref f7), .val (.int (1 : Int32)), .val (.ref ss), .val (.ref fh), .unset, .unset, .unset] [(.int pp3), (.int (pp2 &&& (2147483647 : Int32)))])) rfl (hb hby at_87) _ ?_
        show Steps p.tables e below (T20.setTop (mkF m 89 #[.val (.long qq1), .second, .val (.int pp2), .val (.int pp3), .val (.int pp4), .val (.long kk), .second, .val (.ref f7), .val (.int (1 : Int32)), .val (.ref ss), .val (.ref fh), .unset, .unset, .unset] [(.int (1073741823 : Int32)), (.int pp3), (.int (pp2 &&& (2147483647 : Int32)))])) _
        refine XS.iand X20.here hx rfl (hb hby at_89) rfl ?_
        show Steps p.tables e below (T20.setTop (mkF m 90 #[.val (.long qq1), .second, .val (.int pp2), .val (.int pp3), .val (.int pp4), .val (.long kk), .second, .val (.ref f7), .val (.int (1 : Int32)), .val (.ref ss), .val (.ref fh), .unset, .unset, .unset] [(.int (pp3 &&& (1073741823 : Int32))), (.int (pp2 &&& (2147483647 : Int32)))])) _
        refine XS.aload X20.here hx rfl (hb hby at_90) rfl rfl ?_
        show Steps p.tables e below (T20.setTop (mkF m 92 #[.val (.long qq1), .second, .val (.int pp2), .val (.int pp3), .val (.int pp4), .val (.long kk), .second, .val (.ref f7), .val (.int (1 : Int32)), .val (.ref ss), .val (.ref fh), .unset, .unset, .unset] [(.ref ss), (.int (pp3 &&& (1073741823 : Int32))), (.int (pp2 &&& (2147483647 : Int32)))])) _
        refine XS.aload X20.here hx rfl (hb hby at_92) rfl rfl ?_
        show Steps p.tables e below (T20.setTop (mkF m 94 #[.val (.long qq1), .second, .val (.int pp2), .val (.int pp3), .val (.int pp4), .val (.long kk), .second, .val (.ref f7), .val (.int (1 : Int32)), .val (.ref ss), .val (.ref fh), .unset, .unset, .unset] [(.ref fh), (.ref ss), (.int (pp3 &&& (1073741823 : Int32))), (.int (pp2 &&& (2147483647 : Int32)))])) _
        refine st21 _ ?_
        show Steps p.tables e below (T21.setTop (mkF m 97 #[.val (.long qq1), .second, .val (.int pp2), .val (.int pp3), .val (.int pp4), .val (.long kk), .second, .val (.ref f7), .val (.int (1 : Int32)), .val (.ref ss), .val (.ref fh), .unset, .unset, .unset] [(.long (((pp2 &&& (2147483647 : Int32)).toInt64 <<< ((32 : Int32) &&& 0x3f).toInt64) ||| ((((pp3 &&& (1073741823 : Int32)).toInt64 * ((4 : Int32).toInt64)) + (((1 : Int32) * (2 : Int32)).toInt64)) + ((0 : Int32).toInt64))))])) _
        refine XS.lstore X21.here hx rfl (hb hby at_97) rfl (l' := #[.val (.long qq1), .second, .val (.int pp2), .val (.int pp3), .val (.int pp4), .val (.long kk), .second, .val (.ref f7), .val (.int (1 : Int32)), .val (.ref ss), .val (.ref fh), .val (.long (((pp2 &&& (2147483647 : Int32)).toInt64 <<< ((32 : Int32) &&& 0x3f).toInt64) ||| ((((pp3 &&& (1073741823 : Int32)).toInt64 * ((4 : Int32).toInt64)) + (((1 : Int32) * (2 : Int32)).toInt64)) + ((0 : Int32).toInt64)))), .second, .unset]) rfl ?_
        show Steps p.tables e below (T21.setTop (mkF m 99 #[.val (.long qq1), .second, .val (.int pp2), .val (.int pp3), .val (.int pp4), .val (.long kk), .second, .val (.ref f7), .val (.int (1 : Int32)), .val (.ref ss), .val (.ref fh), .val (.long (((pp2 &&& (2147483647 : Int32)).toInt64 <<< ((32 : Int32) &&& 0x3f).toInt64) ||| ((((pp3 &&& (1073741823 : Int32)).toInt64 * ((4 : Int32).toInt64)) + (((1 : Int32) * (2 : Int32)).toInt64)) + ((0 : Int32).toInt64)))), .second, .unset] [])) _
        refine XS.lload X21.here hx rfl (hb hby at_99) rfl ?_
        show Steps p.tables e below (T21.setTop (mkF m 101 #[.val (.long qq1), .second, .val (.int pp2), .val (.int pp3), .val (.int pp4), .val (.long kk), .second, .val (.ref f7), .val (.int (1 : Int32)), .val (.ref ss), .val (.ref fh), .val (.long (((pp2 &&& (2147483647 : Int32)).toInt64 <<< ((32 : Int32) &&& 0x3f).toInt64) ||| ((((pp3 &&& (1073741823 : Int32)).toInt64 * ((4 : Int32).toInt64)) + (((1 : Int32) * (2 : Int32)).toInt64)) + ((0 : Int32).toInt64)))), .second, .unset] [(.long (((pp2 &&& (2147483647 : Int32)).toInt64 <<< ((32 : Int32) &&& 0x3f).toInt64) ||| ((((pp3 &&& (1073741823 : Int32)).toInt64 * ((4 : Int32).toInt64)) + (((1 : Int32) * (2 : Int32)).toInt64)) + ((0 : Int32).toInt64))))])) _
        refine st22 _ ?_
        show Steps p.tables e below (T22.setTop (mkF m 104 #[.val (.long qq1), .second, .val (.int pp2), .val (.int pp3), .val (.int pp4), .val (.long kk), .second, .val (.ref f7), .val (.int (1 : Int32)), .val (.ref ss), .val (.ref fh), .val (.long (((pp2 &&& (2147483647 : Int32)).toInt64 <<< ((32 : Int32) &&& 0x3f).toInt64) ||| ((((pp3 &&& (1073741823 : Int32)).toInt64 * ((4 : Int32).toInt64)) + (((1 : Int32) * (2 : Int32)).toInt64)) + ((0 : Int32).toInt64)))), .second, .unset] [(.ref ss)])) _
        refine XS.aload X22.here hx rfl (hb hby at_104) rfl rfl ?_
        show Steps p.tables e below (T22.setTop (mkF m 106 #[.val (.long qq1), .second, .val (.int pp2), .val (.int pp3), .val (.int pp4), .val (.long kk), .second, .val (.ref f7), .val (.int (1 : Int32)), .val (.ref ss), .val (.ref fh), .val (.long (((pp2 &&& (2147483647 : Int32)).toInt64 <<< ((32 : Int32) &&& 0x3f).toInt64) ||| ((((pp3 &&& (1073741823 : Int32)).toInt64 * ((4 : Int32).toInt64)) + (((1 : Int32) * (2 : Int32)).toInt64)) + ((0 : Int32).toInt64)))), .second, .unset] [(.ref ss), (.ref ss)])) _
        refine Jvm.RoadKit.acmp (g := (mkF m 106 #[.val (.long qq1), .second, .val (.int pp2), .val (.int pp3), .val (.int pp4), .val (.long kk), .second, .val (.ref f7), .val (.int (1 : Int32)), .val (.ref ss), .val (.ref fh), .val (.long (((pp2 &&& (2147483647 : Int32)).toInt64 <<< ((32 : Int32) &&& 0x3f).toInt64) ||| ((((pp3 &&& (1073741823 : Int32)).toInt64 * ((4 : Int32).toInt64)) + (((1 : Int32) * (2 : Int32)).toInt64)) + ((0 : Int32).toInt64)))), .second, .unset] [(.ref ss), (.ref ss)])) X22 hx rfl rfl rfl (pc0 := 106) (pc' := 109) (same := true) rfl (hb hby at_106) rfl (decide_eq_true rfl) (by decide) (by decide) ?_
        show Steps p.tables e below (T22.setTop (mkF m 109 #[.val (.long qq1), .second, .val (.int pp2), .val (.int pp3), .val (.int pp4), .val (.long kk), .second, .val (.ref f7), .val (.int (1 : Int32)), .val (.ref ss), .val (.ref fh), .val (.long (((pp2 &&& (2147483647 : Int32)).toInt64 <<< ((32 : Int32) &&& 0x3f).toInt64) ||| ((((pp3 &&& (1073741823 : Int32)).toInt64 * ((4 : Int32).toInt64)) + (((1 : Int32) * (2 : Int32)).toInt64)) + ((0 : Int32).toInt64)))), .second, .unset] [])) _
        refine XS.iconst X22.here hx rfl (hb hby at_109) ?_
        show Steps p.tables e below (T22.setTop (mkF m 110 #[.val (.long qq1), .second, .val (.int pp2), .val (.int pp3), .val (.int pp4), .val (.long kk), .second, .val (.ref f7), .val (.int (1 : Int32)), .val (.ref ss), .val (.ref fh), .val (.long (((pp2 &&& (2147483647 : Int32)).toInt64 <<< ((32 : Int32) &&& 0x3f).toInt64) ||| ((((pp3 &&& (1073741823 : Int32)).toInt64 * ((4 : Int32).toInt64)) + (((1 : Int32) * (2 : Int32)).toInt64)) + ((0 : Int32).toInt64)))), .second, .unset] [(.int (1 : Int32))])) _
        refine XS.goto X22.here hx rfl (pc0 := 110) (pc' := 114) rfl (hb hby at_110) (by decide) (by decide) ?_
        show Steps p.tables e below (T22.setTop (mkF m 114 #[.val (.long qq1), .second, .val (.int pp2), .val (.int pp3), .val (.int pp4), .val (.long kk), .second, .val (.ref f7), .val (.int (1 : Int32)), .val (.ref ss), .val (.ref fh), .val (.long (((pp2 &&& (2147483647 : Int32)).toInt64 <<< ((32 : Int32) &&& 0x3f).toInt64) ||| ((((pp3 &&& (1073741823 : Int32)).toInt64 * ((4 : Int32).toInt64)) + (((1 : Int32) * (2 : Int32)).toInt64)) + ((0 : Int32).toInt64)))), .second, .unset] [(.int (1 : Int32))])) _
        refine XS.istore X22.here hx rfl (hb hby at_114) rfl (l' := #[.val (.long qq1), .second, .val (.int pp2), .val (.int pp3), .val (.int pp4), .val (.long kk), .second, .val (.ref f7), .val (.int (1 : Int32)), .val (.ref ss), .val (.ref fh), .val (.long (((pp2 &&& (2147483647 : Int32)).toInt64 <<< ((32 : Int32) &&& 0x3f).toInt64) ||| ((((pp3 &&& (1073741823 : Int32)).toInt64 * ((4 : Int32).toInt64)) + (((1 : Int32) * (2 : Int32)).toInt64)) + ((0 : Int32).toInt64)))), .second, .val (.int (1 : Int32))]) rfl ?_
        show Steps p.tables e below (T22.setTop (mkF m 116 #[.val (.long qq1), .second, .val (.int pp2), .val (.int pp3), .val (.int pp4), .val (.long kk), .second, .val (.ref f7), .val (.int (1 : Int32)), .val (.ref ss), .val (.ref fh), .val (.long (((pp2 &&& (2147483647 : Int32)).toInt64 <<< ((32 : Int32) &&& 0x3f).toInt64) ||| ((((pp3 &&& (1073741823 : Int32)).toInt64 * ((4 : Int32).toInt64)) + (((1 : Int32) * (2 : Int32)).toInt64)) + ((0 : Int32).toInt64)))), .second, .val (.int (1 : Int32))] [])) _
        refine XS.iload X22.here hx rfl (hb hby at_116) rfl ?_
        show Steps p.tables e below (T22.setTop (mkF m 118 #[.val (.long qq1), .second, .val (.int pp2), .val (.int pp3), .val (.int pp4), .val (.long kk), .second, .val (.ref f7), .val (.int (1 : Int32)), .val (.ref ss), .val (.ref fh), .val (.long (((pp2 &&& (2147483647 : Int32)).toInt64 <<< ((32 : Int32) &&& 0x3f).toInt64) ||| ((((pp3 &&& (1073741823 : Int32)).toInt64 * ((4 : Int32).toInt64)) + (((1 : Int32) * (2 : Int32)).toInt64)) + ((0 : Int32).toInt64)))), .second, .val (.int (1 : Int32))] [(.int (1 : Int32))])) _
        refine XS.ifNo X22.here hx rfl (hb hby at_118) rfl ((if0 _ _).trans (feq hc118_3).1) ?_
        show Steps p.tables e below (T22.setTop (mkF m 121 #[.val (.long qq1), .second, .val (.int pp2), .val (.int pp3), .val (.int pp4), .val (.long kk), .second, .val (.ref f7), .val (.int (1 : Int32)), .val (.ref ss), .val (.ref fh), .val (.long (((pp2 &&& (2147483647 : Int32)).toInt64 <<< ((32 : Int32) &&& 0x3f).toInt64) ||| ((((pp3 &&& (1073741823 : Int32)).toInt64 * ((4 : Int32).toInt64)) + (((1 : Int32) * (2 : Int32)).toInt64)) + ((0 : Int32).toInt64)))), .second, .val (.int (1 : Int32))] [])) _
        refine XS.iload X22.here hx rfl (hb hby at_121) rfl ?_
        show Steps p.tables e below (T22.setTop (mkF m 123 #[.val (.long qq1), .second, .val (.int pp2), .val (.int pp3), .val (.int pp4), .val (.long kk), .second, .val (.ref f7), .val (.int (1 : Int32)), .val (.ref ss), .val (.ref fh), .val (.long (((pp2 &&& (2147483647 : Int32)).toInt64 <<< ((32 : Int32) &&& 0x3f).toInt64) ||| ((((pp3 &&& (1073741823 : Int32)).toInt64 * ((4 : Int32).toInt64)) + (((1 : Int32) * (2 : Int32)).toInt64)) + ((0 : Int32).toInt64)))), .second, .val (.int (1 : Int32))] [(.int (1 : Int32))])) _
        refine XS.ifNo X22.here hx rfl (hb hby at_123) rfl ((if0 _ _).trans (feq hc123_3).1) ?_
        show Steps p.tables e below (T22.setTop (mkF m 126 #[.val (.long qq1), .second, .val (.int pp2), .val (.int pp3), .val (.int pp4), .val (.long kk), .second, .val (.ref f7), .val (.int (1 : Int32)), .val (.ref ss), .val (.ref fh), .val (.long (((pp2 &&& (2147483647 : Int32)).toInt64 <<< ((32 : Int32) &&& 0x3f).toInt64) ||| ((((pp3 &&& (1073741823 : Int32)).toInt64 * ((4 : Int32).toInt64)) + (((1 : Int32) * (2 : Int32)).toInt64)) + ((0 : Int32).toInt64)))), .second, .val (.int (1 : Int32))] [])) _
        refine XS.iconst X22.here hx rfl (hb hby at_126) ?_
        show Steps p.tables e below (T22.setTop (mkF m 127 #[.val (.long qq1), .second, .val (.int pp2), .val (.int pp3), .val (.int pp4), .val (.long kk), .second, .val (.ref f7), .val (.int (1 : Int32)), .val (.ref ss), .val (.ref fh), .val (.long (((pp2 &&& (2147483647 : Int32)).toInt64 <<< ((32 : Int32) &&& 0x3f).toInt64) ||| ((((pp3 &&& (1073741823 : Int32)).toInt64 * ((4 : Int32).toInt64)) + (((1 : Int32) * (2 : Int32)).toInt64)) + ((0 : Int32).toInt64)))), .second, .val (.int (1 : Int32))] [(.int (1 : Int32))])) _
        refine XS.goto X22.here hx rfl (pc0 := 127) (pc' := 131) rfl (hb hby at_127) (by decide) (by decide) ?_
        show Steps p.tables e below (T22.setTop (mkF m 131 #[.val (.long qq1), .second, .val (.int pp2), .val (.int pp3), .val (.int pp4), .val (.long kk), .second, .val (.ref f7), .val (.int (1 : Int32)), .val (.ref ss), .val (.ref fh), .val (.long (((pp2 &&& (2147483647 : Int32)).toInt64 <<< ((32 : Int32) &&& 0x3f).toInt64) ||| ((((pp3 &&& (1073741823 : Int32)).toInt64 * ((4 : Int32).toInt64)) + (((1 : Int32) * (2 : Int32)).toInt64)) + ((0 : Int32).toInt64)))), .second, .val (.int (1 : Int32))] [(.int (1 : Int32))])) _
        exact retN X22 hx (t := .boolean) Bd.returns (by simp) (hb hby at_131) hr
      · show Q0 Z qq1 pp2 pp3 pp4 fh fz sl ss af kf vf as_ ks h0 n0 _ T22.heap _
        rw [e22]
        exact ⟨rfl, N22⟩
    · skip
      obtain ⟨T23, X23, e23, st23⟩ := getS2 X18 hx hZ hown (host := "") (Or.inl (hw _ (List.mem_of_getElem? (i := 38) rfl))) Via.refl e18 (S_SPEC.ext O0.2) (g := (mkF m 71 #[.val (.long qq1), .second, .val (.int pp2), .val (.int pp3), .val (.int pp4), .val (.long kk), .second, .val (.ref f7), .val (.int (1 : Int32)), .val (.ref ss), .unset, .unset, .unset, .unset] [])) rfl (hb hby at_71)
      obtain ⟨_, _, ⟨T24, L24, k24, n24⟩, -, X24, ⟨Lc24, hQ24, l24, y24, z24⟩, st24⟩ := Jvm.LawKit.callS X23 hx (y := (⟨"com/example/tallyhouse/tallyhouse/book/LineKey", "of", "(IILcom/example/tallyhouse/tallyhouse/book/Side;Lcom/example/tallyhouse/tallyhouse/book/Flag;)J"⟩ : MethodName)) hown (mvT hZ (hw _ (List.mem_of_getElem? (i := 22) rfl))) (mvT hZ (hw _ (List.mem_of_getElem? (i := 23) rfl))) (mvT hZ (hw _ (List.mem_of_getElem? (i := 7) rfl))) (mvT hZ (hw _ (List.mem_of_getElem? (i := 24) rfl))) (by decide) (backOf (W := 0) (rm2 l Z a0 hw [] (pp2 &&& (2147483647 : Int32)) (pp3 &&& (1073741823 : Int32)) ss fz af kf vf (1 : Int32) (1 : Int32) h0 n0 Z0 O0 S_FLAGS S_LINES V_af E_ss E_fz F_ss_ordinal F_fz_ordinal) hZ (hw _ (List.mem_of_getElem? (i := 24) rfl)) (hw _ (List.mem_of_getElem? (i := 7) rfl)) (by decide) (by decide)) (g := (mkF m 94 #[.val (.long qq1), .second, .val (.int pp2), .val (.int pp3), .val (.int pp4), .val (.long kk), .second, .val (.ref f7), .val (.int (1 : Int32)), .val (.ref ss), .val (.ref fz), .unset, .unset, .unset] [(.ref fz), (.ref ss), (.int (pp3 &&& (1073741823 : Int32))), (.int (pp2 &&& (2147483647 : Int32)))])) rfl (by rw [hml]; rfl) (argsL := [(.int (pp2 &&& (2147483647 : Int32))), (.int (pp3 &&& (1073741823 : Int32))), (.ref ss), (.ref fz)]) (rest := []) (lenOf pd__28_IILcom_2f_example_2f_tallyhouse_2f_tallyhouse_2f_book_2f_Side_3b_Lcom_2f_example_2f_tallyhouse_2f_tallyhouse_2f_book_2f_Flag_3b__29_J rfl) rfl (by show 2 * 0 + _ ≤ _; exact Nat.le_of_eq rfl) (hb hby at_94) (fun _ _ => ⟨rfl, e23, (by decide : 0 + 0 ≤ _), (by decide : 0 + 0 ≤ _)⟩)
      dsimp only [Pt.U, Pt.locs, Pt.cells, Pt.slots] at X24 l24 y24 z24 st24 hQ24
      subst l24 y24 z24
      obtain ⟨rfl, N24q, e24⟩ := hQ24
      have N24 := Fr.app N3 N24q
      obtain ⟨_, _, ⟨T25, L25, k25, n25⟩, -, X25, ⟨Lc25, hQ25, l25, y25, z25⟩, st25⟩ := Jvm.LawKit.callS X24 hx (y := (⟨"com/example/tallyhouse/tallyhouse/book/LineKey", "side", "(J)Lcom/example/tallyhouse/tallyhouse/book/Side;"⟩ : MethodName)) hown (mvT hZ (hw _ (List.mem_of_getElem? (i := 5) rfl))) (mvT hZ (hw _ (List.mem_of_getElem? (i := 6) rfl))) (mvT hZ (hw _ (List.mem_of_getElem? (i := 7) rfl))) (mvT hZ (hw _ (List.mem_of_getElem? (i := 8) rfl))) (by decide) (backOf (W := 0) (rm1_1 l Z a0 hw [] (((pp2 &&& (2147483647 : Int32)).toInt64 <<< ((32 : Int32) &&& 0x3f).toInt64) ||| ((((pp3 &&& (1073741823 : Int32)).toInt64 * ((4 : Int32).toInt64)) + (((1 : Int32) * (2 : Int32)).toInt64)) + ((1 : Int32).toInt64))) sl ss af kf vf as_ ks h0 n0 Z0 O0 S_FLAGS S_SIDES S_LINES V_af V_as_ (show ((((((pp2 &&& (2147483647 : Int32)).toInt64 <<< ((32 : Int32) &&& 0x3f).toInt64) ||| ((((pp3 &&& (1073741823 : Int32)).toInt64 * ((4 : Int32).toInt64)) + (((1 : Int32) * (2 : Int32)).toInt64)) + ((1 : Int32).toInt64))) - ((((pp2 &&& (2147483647 : Int32)).toInt64 <<< ((32 : Int32) &&& 0x3f).toInt64) ||| ((((pp3 &&& (1073741823 : Int32)).toInt64 * ((4 : Int32).toInt64)) + (((1 : Int32) * (2 : Int32)).toInt64)) + ((1 : Int32).toInt64))) / ((4 : Int32).toInt64)) * ((4 : Int32).toInt64)).toInt32) / (2 : Int32)) = (1 : Int32) from own_made11 _ _)) hZ (hw _ (List.mem_of_getElem? (i := 8) rfl)) (hw _ (List.mem_of_getElem? (i := 7) rfl)) (by decide) (by decide)) (g := (mkF m 101 #[.val (.long qq1), .second, .val (.int pp2), .val (.int pp3), .val (.int pp4), .val (.long kk), .second, .val (.ref f7), .val (.int (1 : Int32)), .val (.ref ss), .val (.ref fz), .val (.long (((pp2 &&& (2147483647 : Int32)).toInt64 <<< ((32 : Int32) &&& 0x3f).toInt64) ||| ((((pp3 &&& (1073741823 : Int32)).toInt64 * ((4 : Int32).toInt64)) + (((1 : Int32) * (2 : Int32)).toInt64)) + ((1 : Int32).toInt64)))), .second, .unset] [(.long (((pp2 &&& (2147483647 : Int32)).toInt64 <<< ((32 : Int32) &&& 0x3f).toInt64) ||| ((((pp3 &&& (1073741823 : Int32)).toInt64 * ((4 : Int32).toInt64)) + (((1 : Int32) * (2 : Int32)).toInt64)) + ((1 : Int32).toInt64))))])) rfl (by rw [hml]; rfl) (argsL := [(.long (((pp2 &&& (2147483647 : Int32)).toInt64 <<< ((32 : Int32) &&& 0x3f).toInt64) ||| ((((pp3 &&& (1073741823 : Int32)).toInt64 * ((4 : Int32).toInt64)) + (((1 : Int32) * (2 : Int32)).toInt64)) + ((1 : Int32).toInt64))))]) (rest := []) (lenOf pd__28_J_29_Lcom_2f_example_2f_tallyhouse_2f_tallyhouse_2f_book_2f_Side_3b_ rfl) rfl (by show 2 * 0 + _ ≤ _; exact Nat.le_of_eq rfl) (hb hby at_101) (fun _ _ => ⟨rfl, e24, (by decide : 0 + 0 ≤ _), (by decide : 0 + 0 ≤ _)⟩)
      dsimp only [Pt.U, Pt.locs, Pt.cells, Pt.slots] at X25 l25 y25 z25 st25 hQ25
      subst l25 y25 z25
      obtain ⟨rfl, N25q, e25⟩ := hQ25
      have N25 := Fr.app N24 N25q
      have hc118_4 : ¬ ((1 : Int32) = (0 : Int32)) := by decide
      have hc123_4 : ¬ ((1 : Int32) = (0 : Int32)) := by decide
      obtain ⟨fs, hr, hrun, hended, hW, hsame⟩ := X25.leave (v := some (.int (1 : Int32))) (fun h => by rw [Bd.returns] at h; cases h)
      refine ⟨_, _, pre19 _ ?_, hrun, hended, _, _, rfl, ?_, ⟨_, rfl⟩, hW, hsame.mono (by decide) (by decide)⟩
      · show Steps p.tables e below (T18.setTop (mkF m 68 #[.val (.long qq1), .second, .val (.int pp2), .val (.int pp3), .val (.int pp4), .val (.long kk), .second, .val (.ref f7), .val (.int (1 : Int32)), .val (.ref ss), .unset, .unset, .unset, .unset] [(.int (pp4 &&& (2 : Int32)))])) _
        refine XS.ifNo X18.here hx rfl (hb hby at_68) rfl ((if0 _ _).trans (feq hc68_2).1) ?_
        show Steps p.tables e below (T18.setTop (mkF m 71 #[.val (.long qq1), .second, .val (.int pp2), .val (.int pp3), .val (.int pp4), .val (.long kk), .second, .val (.ref f7), .val (.int (1 : Int32)), .val (.ref ss), .unset, .unset, .unset, .unset] [])) _
        refine st23 _ ?_
        show Steps p.tables e below (T23.setTop (mkF m 74 #[.val (.long qq1), .second, .val (.int pp2), .val (.int pp3), .val (.int pp4), .val (.long kk), .second, .val (.ref f7), .val (.int (1 : Int32)), .val (.ref ss), .unset, .unset, .unset, .unset] [(.ref fz)])) _
        refine XS.goto X23.here hx rfl (pc0 := 74) (pc' := 80) rfl (hb hby at_74) (by decide) (by decide) ?_
        show Steps p.tables e below (T23.setTop (mkF m 80 #[.val (.long qq1), .second, .val (.int pp2), .val (.int pp3), .val (.int pp4), .val (.long kk), .second, .val (.ref f7), .val (.int (1 : Int32)), .val (.ref ss), .unset, .unset, .unset, .unset] [(.ref fz)])) _
        refine XS.astore X23.here hx rfl (hb hby at_80) rfl rfl (l' := #[.val (.long qq1), .second, .val (.int pp2), .val (.int pp3), .val (.int pp4), .val (.long kk), .second, .val (.ref f7), .val (.int (1 : Int32)), .val (.ref ss), .val (.ref fz), .unset, .unset, .unset]) rfl ?_
        show Steps p.tables e below (T23.setTop (mkF m 82 #[.val (.long qq1), .second, .val (.int pp2), .val (.int pp3), .val (.int pp4), .val (.long kk), .second, .val (.ref f7), .val (.int (1 : Int32)), .val (.ref ss), .val (.ref fz), .unset, .unset, .unset] [])) _
        refine XS.iloadN X23.here hx rfl (hb hby at_82) rfl ?_
        show Steps p.tables e below (T23.setTop (mkF m 83 #[.val (.long qq1), .second, .val (.int pp2), .val (.int pp3), .val (.int pp4), .val (.long kk), .second, .val (.ref f7), .val (.int (1 : Int32)), .val (.ref ss), .val (.ref fz), .unset, .unset, .unset] [(.int pp2)])) _
        refine X23.ldcInt hx hown (mvT hZ (hw _ (List.mem_of_getElem? (i := 20) rfl))) (g := (mkF m 83 #[.val (.long qq1), .second, .val (.int pp2), .val (.int pp3), .val (.int pp4), .val (.long kk), .second, .val (.ref f7), .val (.int (1 : Int32)), .val (.ref ss), .val (.ref fz), .unset, .unset, .unset] [(.int pp2)])) rfl (hb hby at_83) _ ?_
        show Steps p.tables e below (T23.setTop (mkF m 85 #[.val (.long qq1), .second, .val (.int pp2), .val (.int pp3), .val (.int pp4), .val (.long kk), .second, .val (.ref f7), .val (.int (1 : Int32)), .val (.ref ss), .val (.ref fz), .unset, .unset, .unset] [(.int (2147483647 : Int32)), (.int pp2)])) _
        refine XS.iand X23.here hx rfl (hb hby at_85) rfl ?_
        show Steps p.tables e below (T23.setTop (mkF m 86 #[.val (.long qq1), .second, .val (.int pp2), .val (.int pp3), .val (.int pp4), .val (.long kk), .second, .val (.ref f7), .val (.int (1 : Int32)), .val (.ref ss), .val (.ref fz), .unset, .unset, .unset] [(.int (pp2 &&& (2147483647 : Int32)))])) _
        refine XS.iloadN X23.here hx rfl (hb hby at_86) rfl ?_
        show Steps p.tables e below (T23.setTop (mkF m 87 #[.val (.long qq1), .second, .val (.int pp2), .val (.int pp3), .val (.int pp4), .val (.long kk), .second, .val (.ref f7), .val (.int (1 : Int32)), .val (.ref ss), .val (.ref fz), .unset, .unset, .unset] [(.int pp3), (.int (pp2 &&& (2147483647 : Int32)))])) _
        refine X23.ldcInt hx hown (mvT hZ (hw _ (List.mem_of_getElem? (i := 21) rfl))) (g := (mkF m 87 #[.val (.long qq1), .second, .val (.int pp2), .val (.int pp3), .val (.int pp4), .val (.long kk), .second, .val (.ref f7), .val (.int (1 : Int32)), .val (.ref ss), .val (.ref fz), .unset, .unset, .unset] [(.int pp3), (.int (pp2 &&& (2147483647 : Int32)))])) rfl (hb hby at_87) _ ?_
        show Steps p.tables e below (T23.setTop (mkF m 89 #[.val (.long qq1), .second, .val (.int pp2), .val (.int pp3), .val (.int pp4), .val (.long kk), .second, .val (.ref f7), .val (.int (1 : Int32)), .val (.ref ss), .val (.ref fz), .unset, .unset, .unset] [(.int (1073741823 : Int32)), (.int pp3), (.int (pp2 &&& (2147483647 : Int32)))])) _
        refine XS.iand X23.here hx rfl (hb hby at_89) rfl ?_
        show Steps p.tables e below (T23.setTop (mkF m 90 #[.val (.long qq1), .second, .val (.int pp2), .val (.int pp3), .val (.int pp4), .val (.long kk), .second, .val (.ref f7), .val (.int (1 : Int32)), .val (.ref ss), .val (.ref fz), .unset, .unset, .unset] [(.int (pp3 &&& (1073741823 : Int32))), (.int (pp2 &&& (2147483647 : Int32)))])) _
        refine XS.aload X23.here hx rfl (hb hby at_90) rfl rfl ?_
        show Steps p.tables e below (T23.setTop (mkF m 92 #[.val (.long qq1), .second, .val (.int pp2), .val (.int pp3), .val (.int pp4), .val (.long kk), .second, .val (.ref f7), .val (.int (1 : Int32)), .val (.ref ss), .val (.ref fz), .unset, .unset, .unset] [(.ref ss), (.int (pp3 &&& (1073741823 : Int32))), (.int (pp2 &&& (2147483647 : Int32)))])) _
        refine XS.aload X23.here hx rfl (hb hby at_92) rfl rfl ?_
        show Steps p.tables e below (T23.setTop (mkF m 94 #[.val (.long qq1), .second, .val (.int pp2), .val (.int pp3), .val (.int pp4), .val (.long kk), .second, .val (.ref f7), .val (.int (1 : Int32)), .val (.ref ss), .val (.ref fz), .unset, .unset, .unset] [(.ref fz), (.ref ss), (.int (pp3 &&& (1073741823 : Int32))), (.int (pp2 &&& (2147483647 : Int32)))])) _
        refine st24 _ ?_
        show Steps p.tables e below (T24.setTop (mkF m 97 #[.val (.long qq1), .second, .val (.int pp2), .val (.int pp3), .val (.int pp4), .val (.long kk), .second, .val (.ref f7), .val (.int (1 : Int32)), .val (.ref ss), .val (.ref fz), .unset, .unset, .unset] [(.long (((pp2 &&& (2147483647 : Int32)).toInt64 <<< ((32 : Int32) &&& 0x3f).toInt64) ||| ((((pp3 &&& (1073741823 : Int32)).toInt64 * ((4 : Int32).toInt64)) + (((1 : Int32) * (2 : Int32)).toInt64)) + ((1 : Int32).toInt64))))])) _
        refine XS.lstore X24.here hx rfl (hb hby at_97) rfl (l' := #[.val (.long qq1), .second, .val (.int pp2), .val (.int pp3), .val (.int pp4), .val (.long kk), .second, .val (.ref f7), .val (.int (1 : Int32)), .val (.ref ss), .val (.ref fz), .val (.long (((pp2 &&& (2147483647 : Int32)).toInt64 <<< ((32 : Int32) &&& 0x3f).toInt64) ||| ((((pp3 &&& (1073741823 : Int32)).toInt64 * ((4 : Int32).toInt64)) + (((1 : Int32) * (2 : Int32)).toInt64)) + ((1 : Int32).toInt64)))), .second, .unset]) rfl ?_
        show Steps p.tables e below (T24.setTop (mkF m 99 #[.val (.long qq1), .second, .val (.int pp2), .val (.int pp3), .val (.int pp4), .val (.long kk), .second, .val (.ref f7), .val (.int (1 : Int32)), .val (.ref ss), .val (.ref fz), .val (.long (((pp2 &&& (2147483647 : Int32)).toInt64 <<< ((32 : Int32) &&& 0x3f).toInt64) ||| ((((pp3 &&& (1073741823 : Int32)).toInt64 * ((4 : Int32).toInt64)) + (((1 : Int32) * (2 : Int32)).toInt64)) + ((1 : Int32).toInt64)))), .second, .unset] [])) _
        refine XS.lload X24.here hx rfl (hb hby at_99) rfl ?_
        show Steps p.tables e below (T24.setTop (mkF m 101 #[.val (.long qq1), .second, .val (.int pp2), .val (.int pp3), .val (.int pp4), .val (.long kk), .second, .val (.ref f7), .val (.int (1 : Int32)), .val (.ref ss), .val (.ref fz), .val (.long (((pp2 &&& (2147483647 : Int32)).toInt64 <<< ((32 : Int32) &&& 0x3f).toInt64) ||| ((((pp3 &&& (1073741823 : Int32)).toInt64 * ((4 : Int32).toInt64)) + (((1 : Int32) * (2 : Int32)).toInt64)) + ((1 : Int32).toInt64)))), .second, .unset] [(.long (((pp2 &&& (2147483647 : Int32)).toInt64 <<< ((32 : Int32) &&& 0x3f).toInt64) ||| ((((pp3 &&& (1073741823 : Int32)).toInt64 * ((4 : Int32).toInt64)) + (((1 : Int32) * (2 : Int32)).toInt64)) + ((1 : Int32).toInt64))))])) _
        refine st25 _ ?_
        show Steps p.tables e below (T25.setTop (mkF m 104 #[.val (.long qq1), .second, .val (.int pp2), .val (.int pp3), .val (.int pp4), .val (.long kk), .second, .val (.ref f7), .val (.int (1 : Int32)), .val (.ref ss), .val (.ref fz), .val (.long (((pp2 &&& (2147483647 : Int32)).toInt64 <<< ((32 : Int32) &&& 0x3f).toInt64) ||| ((((pp3 &&& (1073741823 : Int32)).toInt64 * ((4 : Int32).toInt64)) + (((1 : Int32) * (2 : Int32)).toInt64)) + ((1 : Int32).toInt64)))), .second, .unset] [(.ref ss)])) _
        refine XS.aload X25.here hx rfl (hb hby at_104) rfl rfl ?_
        show Steps p.tables e below (T25.setTop (mkF m 106 #[.val (.long qq1), .second, .val (.int pp2), .val (.int pp3), .val (.int pp4), .val (.long kk), .second, .val (.ref f7), .val (.int (1 : Int32)), .val (.ref ss), .val (.ref fz), .val (.long (((pp2 &&& (2147483647 : Int32)).toInt64 <<< ((32 : Int32) &&& 0x3f).toInt64) ||| ((((pp3 &&& (1073741823 : Int32)).toInt64 * ((4 : Int32).toInt64)) + (((1 : Int32) * (2 : Int32)).toInt64)) + ((1 : Int32).toInt64)))), .second, .unset] [(.ref ss), (.ref ss)])) _
        refine Jvm.RoadKit.acmp (g := (mkF m 106 #[.val (.long qq1), .second, .val (.int pp2), .val (.int pp3), .val (.int pp4), .val (.long kk), .second, .val (.ref f7), .val (.int (1 : Int32)), .val (.ref ss), .val (.ref fz), .val (.long (((pp2 &&& (2147483647 : Int32)).toInt64 <<< ((32 : Int32) &&& 0x3f).toInt64) ||| ((((pp3 &&& (1073741823 : Int32)).toInt64 * ((4 : Int32).toInt64)) + (((1 : Int32) * (2 : Int32)).toInt64)) + ((1 : Int32).toInt64)))), .second, .unset] [(.ref ss), (.ref ss)])) X25 hx rfl rfl rfl (pc0 := 106) (pc' := 109) (same := true) rfl (hb hby at_106) rfl (decide_eq_true rfl) (by decide) (by decide) ?_
        show Steps p.tables e below (T25.setTop (mkF m 109 #[.val (.long qq1), .second, .val (.int pp2), .val (.int pp3), .val (.int pp4), .val (.long kk), .second, .val (.ref f7), .val (.int (1 : Int32)), .val (.ref ss), .val (.ref fz), .val (.long (((pp2 &&& (2147483647 : Int32)).toInt64 <<< ((32 : Int32) &&& 0x3f).toInt64) ||| ((((pp3 &&& (1073741823 : Int32)).toInt64 * ((4 : Int32).toInt64)) + (((1 : Int32) * (2 : Int32)).toInt64)) + ((1 : Int32).toInt64)))), .second, .unset] [])) _
        refine XS.iconst X25.here hx rfl (hb hby at_109) ?_
        show Steps p.tables e below (T25.setTop (mkF m 110 #[.val (.long qq1), .second, .val (.int pp2), .val (.int pp3), .val (.int pp4), .val (.long kk), .second, .val (.ref f7), .val (.int (1 : Int32)), .val (.ref ss), .val (.ref fz), .val (.long (((pp2 &&& (2147483647 : Int32)).toInt64 <<< ((32 : Int32) &&& 0x3f).toInt64) ||| ((((pp3 &&& (1073741823 : Int32)).toInt64 * ((4 : Int32).toInt64)) + (((1 : Int32) * (2 : Int32)).toInt64)) + ((1 : Int32).toInt64)))), .second, .unset] [(.int (1 : Int32))])) _
        refine XS.goto X25.here hx rfl (pc0 := 110) (pc' := 114) rfl (hb hby at_110) (by decide) (by decide) ?_
        show Steps p.tables e below (T25.setTop (mkF m 114 #[.val (.long qq1), .second, .val (.int pp2), .val (.int pp3), .val (.int pp4), .val (.long kk), .second, .val (.ref f7), .val (.int (1 : Int32)), .val (.ref ss), .val (.ref fz), .val (.long (((pp2 &&& (2147483647 : Int32)).toInt64 <<< ((32 : Int32) &&& 0x3f).toInt64) ||| ((((pp3 &&& (1073741823 : Int32)).toInt64 * ((4 : Int32).toInt64)) + (((1 : Int32) * (2 : Int32)).toInt64)) + ((1 : Int32).toInt64)))), .second, .unset] [(.int (1 : Int32))])) _
        refine XS.istore X25.here hx rfl (hb hby at_114) rfl (l' := #[.val (.long qq1), .second, .val (.int pp2), .val (.int pp3), .val (.int pp4), .val (.long kk), .second, .val (.ref f7), .val (.int (1 : Int32)), .val (.ref ss), .val (.ref fz), .val (.long (((pp2 &&& (2147483647 : Int32)).toInt64 <<< ((32 : Int32) &&& 0x3f).toInt64) ||| ((((pp3 &&& (1073741823 : Int32)).toInt64 * ((4 : Int32).toInt64)) + (((1 : Int32) * (2 : Int32)).toInt64)) + ((1 : Int32).toInt64)))), .second, .val (.int (1 : Int32))]) rfl ?_
        show Steps p.tables e below (T25.setTop (mkF m 116 #[.val (.long qq1), .second, .val (.int pp2), .val (.int pp3), .val (.int pp4), .val (.long kk), .second, .val (.ref f7), .val (.int (1 : Int32)), .val (.ref ss), .val (.ref fz), .val (.long (((pp2 &&& (2147483647 : Int32)).toInt64 <<< ((32 : Int32) &&& 0x3f).toInt64) ||| ((((pp3 &&& (1073741823 : Int32)).toInt64 * ((4 : Int32).toInt64)) + (((1 : Int32) * (2 : Int32)).toInt64)) + ((1 : Int32).toInt64)))), .second, .val (.int (1 : Int32))] [])) _
        refine XS.iload X25.here hx rfl (hb hby at_116) rfl ?_
        show Steps p.tables e below (T25.setTop (mkF m 118 #[.val (.long qq1), .second, .val (.int pp2), .val (.int pp3), .val (.int pp4), .val (.long kk), .second, .val (.ref f7), .val (.int (1 : Int32)), .val (.ref ss), .val (.ref fz), .val (.long (((pp2 &&& (2147483647 : Int32)).toInt64 <<< ((32 : Int32) &&& 0x3f).toInt64) ||| ((((pp3 &&& (1073741823 : Int32)).toInt64 * ((4 : Int32).toInt64)) + (((1 : Int32) * (2 : Int32)).toInt64)) + ((1 : Int32).toInt64)))), .second, .val (.int (1 : Int32))] [(.int (1 : Int32))])) _
        refine XS.ifNo X25.here hx rfl (hb hby at_118) rfl ((if0 _ _).trans (feq hc118_4).1) ?_
        show Steps p.tables e below (T25.setTop (mkF m 121 #[.val (.long qq1), .second, .val (.int pp2), .val (.int pp3), .val (.int pp4), .val (.long kk), .second, .val (.ref f7), .val (.int (1 : Int32)), .val (.ref ss), .val (.ref fz), .val (.long (((pp2 &&& (2147483647 : Int32)).toInt64 <<< ((32 : Int32) &&& 0x3f).toInt64) ||| ((((pp3 &&& (1073741823 : Int32)).toInt64 * ((4 : Int32).toInt64)) + (((1 : Int32) * (2 : Int32)).toInt64)) + ((1 : Int32).toInt64)))), .second, .val (.int (1 : Int32))] [])) _
        refine XS.iload X25.here hx rfl (hb hby at_121) rfl ?_
        show Steps p.tables e below (T25.setTop (mkF m 123 #[.val (.long qq1), .second, .val (.int pp2), .val (.int pp3), .val (.int pp4), .val (.long kk), .second, .val (.ref f7), .val (.int (1 : Int32)), .val (.ref ss), .val (.ref fz), .val (.long (((pp2 &&& (2147483647 : Int32)).toInt64 <<< ((32 : Int32) &&& 0x3f).toInt64) ||| ((((pp3 &&& (1073741823 : Int32)).toInt64 * ((4 : Int32).toInt64)) + (((1 : Int32) * (2 : Int32)).toInt64)) + ((1 : Int32).toInt64)))), .second, .val (.int (1 : Int32))] [(.int (1 : Int32))])) _
        refine XS.ifNo X25.here hx rfl (hb hby at_123) rfl ((if0 _ _).trans (feq hc123_4).1) ?_
        show Steps p.tables e below (T25.setTop (mkF m 126 #[.val (.long qq1), .second, .val (.int pp2), .val (.int pp3), .val (.int pp4), .val (.long kk), .second, .val (.ref f7), .val (.int (1 : Int32)), .val (.ref ss), .val (.ref fz), .val (.long (((pp2 &&& (2147483647 : Int32)).toInt64 <<< ((32 : Int32) &&& 0x3f).toInt64) ||| ((((pp3 &&& (1073741823 : Int32)).toInt64 * ((4 : Int32).toInt64)) + (((1 : Int32) * (2 : Int32)).toInt64)) + ((1 : Int32).toInt64)))), .second, .val (.int (1 : Int32))] [])) _
        refine XS.iconst X25.here hx rfl (hb hby at_126) ?_
        show Steps p.tables e below (T25.setTop (mkF m 127 #[.val (.long qq1), .second, .val (.int pp2), .val (.int pp3), .val (.int pp4), .val (.long kk), .second, .val (.ref f7), .val (.int (1 : Int32)), .val (.ref ss), .val (.ref fz), .val (.long (((pp2 &&& (2147483647 : Int32)).toInt64 <<< ((32 : Int32) &&& 0x3f).toInt64) ||| ((((pp3 &&& (1073741823 : Int32)).toInt64 * ((4 : Int32).toInt64)) + (((1 : Int32) * (2 : Int32)).toInt64)) + ((1 : Int32).toInt64)))), .second, .val (.int (1 : Int32))] [(.int (1 : Int32))])) _
        refine XS.goto X25.here hx rfl (pc0 := 127) (pc' := 131) rfl (hb hby at_127) (by decide) (by decide) ?_
        show Steps p.tables e below (T25.setTop (mkF m 131 #[.val (.long qq1), .second, .val (.int pp2), .val (.int pp3), .val (.int pp4), .val (.long kk), .second, .val (.ref f7), .val (.int (1 : Int32)), .val (.ref ss), .val (.ref fz), .val (.long (((pp2 &&& (2147483647 : Int32)).toInt64 <<< ((32 : Int32) &&& 0x3f).toInt64) ||| ((((pp3 &&& (1073741823 : Int32)).toInt64 * ((4 : Int32).toInt64)) + (((1 : Int32) * (2 : Int32)).toInt64)) + ((1 : Int32).toInt64)))), .second, .val (.int (1 : Int32))] [(.int (1 : Int32))])) _
        exact retN X25 hx (t := .boolean) Bd.returns (by simp) (hb hby at_131) hr
      · show Q0 Z qq1 pp2 pp3 pp4 fh fz sl ss af kf vf as_ ks h0 n0 _ T25.heap _
        rw [e25]
        exact ⟨rfl, N25⟩
set_option maxRecDepth 65536 in
set_option maxHeartbeats 40000000 in
theorem comes_1 {Post : Tables → Env → Array Value → State → Outcome → State → Prop} (hpost : ∀ tb e args s v u, (limb_1_1.after args s (.returned v) u = true ∧ limb_1_2.after args s (.returned v) u = true ∧ True) → FrameEnd s (.returned v) u (Jvm.fieldLocs frame_1_writes args s ++ Jvm.arrayLocs frame_1_arrays args s ++ Jvm.staticLocs frame_1_statics s) 0 0 → Post tb e args s (.returned v) u) :
    ArmFor flags0 classFile x code maxLocals ret World_1 tables_1 room_1 Calls_1 rest_1 Pre_1 Post := by
  intro l hfl _ _ p e ha hc hk s m args below hf hA hF happ hP
  obtain ⟨hcalls, hrest, hpre⟩ := hP
  obtain ⟨-, -, -, hnamed, -, -, -, hat⟩ := (Spec.applies_iff hf).mp happ
  obtain ⟨hg, hn⟩ := and_e (Cond.before_iff.mp (show (Jvm.Cond.and given_1 narrow_1).before args s = true from hpre))
  obtain ⟨g1, g2⟩ := and_e hg
  obtain ⟨g3, g4⟩ := and_e g2
  obtain ⟨g5, g6⟩ := and_e g4
  obtain ⟨g7, g8⟩ := and_e g6
  obtain ⟨w0, w1, w2, w3, rfl⟩ : ∃ w0 w1 w2 w3 : Value, args = #[w0, w1, w2, w3] := by
    have hs : args.size = 4 := by simpa [Cond.value, given_1] using g1
    obtain ⟨L⟩ := args
    match L, hs with
    | [w0, w1, w2, w3], _ => exact ⟨w0, w1, w2, w3, rfl⟩
  have hw := fun d (hd : d ∈ tables_1) => atoms_spec (ws := Jvm.Cond.code x code maxLocals ret :: tables_1) hat d (List.mem_cons_of_mem _ hd)
  have hfit : Fit s := fun {y c} hc i hi => by
    obtain ⟨ha, rfl⟩ := Array.getElem?_eq_some_iff.mp hc
    have q := List.all_eq_true.mp ((Array.all_eq_true_iff_forall_mem.mp hF) _ (Array.getElem_mem ha)) i (List.mem_range.mpr hi)
    simpa [Array.getElem?_eq_getElem hi] using q
  obtain ⟨i0, ei0⟩ := isL_v g3
  obtain rfl : w0 = (.long i0) := Option.some.inj ei0
  obtain ⟨i1, ei1⟩ := is_v g5
  obtain rfl : w1 = (.int i1) := Option.some.inj ei1
  obtain ⟨i2, ei2⟩ := is_v g7
  obtain rfl : w2 = (.int i2) := Option.some.inj ei2
  obtain ⟨i3, ei3⟩ := is_v g8
  obtain rfl : w3 = (.int i3) := Option.some.inj ei3
  obtain ⟨na1, nb1⟩ := and_e hn
  obtain ⟨na2, nb2⟩ := and_e nb1
  obtain ⟨na3, nb3⟩ := and_e nb2
  obtain ⟨na4, nb4⟩ := and_e nb3
  obtain ⟨na5, nb5⟩ := and_e nb4
  obtain ⟨na6, nb6⟩ := and_e nb5
  obtain ⟨na7, nb7⟩ := and_e nb6
  obtain ⟨na8, nb8⟩ := and_e nb7
  obtain ⟨na9, nb9⟩ := and_e nb8
  obtain ⟨na10, nb10⟩ := and_e nb9
  obtain ⟨na11, nb11⟩ := and_e nb10
  obtain ⟨na12, nb12⟩ := and_e nb11
  obtain ⟨na13, nb13⟩ := and_e nb12
  obtain ⟨na14, nb14⟩ := and_e nb13
  obtain ⟨x_HEDGE, ev_HEDGE⟩ := exa_v na9
  have sta_HEDGE := Sta.start ev_HEDGE (Or.inr ⟨(hw _ (List.mem_of_getElem? (i := 18) rfl)), (hw _ (List.mem_of_getElem? (i := 19) rfl))⟩)
  have exa_HEDGE := Exa.start ev_HEDGE na9
  have fld_HEDGE_ordinal := Fld.start (own_feq ev_HEDGE na11)
  obtain ⟨x_SPEC, ev_SPEC⟩ := exa_v na13
  have sta_SPEC := Sta.start ev_SPEC (Or.inr ⟨(hw _ (List.mem_of_getElem? (i := 18) rfl)), (hw _ (List.mem_of_getElem? (i := 39) rfl))⟩)
  have exa_SPEC := Exa.start ev_SPEC na13
  have fld_SPEC_ordinal := Fld.start (own_feq ev_SPEC nb14)
  obtain ⟨x_LONG, ev_LONG⟩ := exa_v na8
  have sta_LONG := Sta.start ev_LONG (Or.inr ⟨(hw _ (List.mem_of_getElem? (i := 3) rfl)), (hw _ (List.mem_of_getElem? (i := 16) rfl))⟩)
  have exa_LONG := Exa.start ev_LONG na8
  have fld_LONG_ordinal := Fld.start (own_feq ev_LONG na10)
  obtain ⟨x_SHORT, ev_SHORT⟩ := exa_v na1
  have sta_SHORT := Sta.start ev_SHORT (Or.inr ⟨(hw _ (List.mem_of_getElem? (i := 3) rfl)), (hw _ (List.mem_of_getElem? (i := 4) rfl))⟩)
  have exa_SHORT := Exa.start ev_SHORT na1
  have fld_SHORT_ordinal := Fld.start (own_feq ev_SHORT na14)
  obtain ⟨x_FLAGS, ev_FLAGS⟩ := arr_v na5
  obtain ⟨cl_FLAGS, Ar_FLAGS⟩ := Arr.start ev_FLAGS na5
  obtain ⟨sz_FLAGS, le_FLAGS⟩ := own_leneq ev_FLAGS Ar_FLAGS na6
  have sta_FLAGS := Sta.start ev_FLAGS (Or.inr ⟨(hw _ (List.mem_of_getElem? (i := 7) rfl)), (hw _ (List.mem_of_getElem? (i := 14) rfl))⟩)
  have arv_FLAGS := own_anyArv (dv := .null) hfit Ar_FLAGS sz_FLAGS le_FLAGS (by decide)
  obtain ⟨x_SIDES, ev_SIDES⟩ := arr_v na2
  obtain ⟨cl_SIDES, Ar_SIDES⟩ := Arr.start ev_SIDES na2
  obtain ⟨sz_SIDES, le_SIDES⟩ := own_leneq ev_SIDES Ar_SIDES na3
  have sta_SIDES := Sta.start ev_SIDES (Or.inr ⟨(hw _ (List.mem_of_getElem? (i := 7) rfl)), (hw _ (List.mem_of_getElem? (i := 10) rfl))⟩)
  have arv_SIDES := Arv.start (vs := [.ref x_LONG, .ref x_SHORT]) (dv := .null) hfit Ar_SIDES sz_SIDES le_SIDES (by decide) (by first | rfl | decide | simp) ⟨own_eleq ev_SIDES ev_LONG Ar_SIDES.1 na12, own_eleq ev_SIDES ev_SHORT Ar_SIDES.1 na7, trivial⟩
  have sta_LINES := Sta.start (own_inteq na4) (Or.inr ⟨(hw _ (List.mem_of_getElem? (i := 7) rfl)), (hw _ (List.mem_of_getElem? (i := 12) rfl))⟩)
  obtain ⟨n, o, h1, h2, h3, _, L, rfl, ⟨rfl, N⟩, hq⟩ := rm0 l s _ hw tables_1 i0 i1 i2 i3 x_HEDGE x_SPEC x_LONG x_SHORT x_FLAGS _ _ x_SIDES _ s.heap s.heap.size (Nat.le_refl _) (Old.start s) sta_HEDGE sta_SPEC sta_LONG sta_SHORT sta_FLAGS sta_SIDES sta_LINES arv_FLAGS arv_SIDES exa_HEDGE exa_SPEC exa_LONG exa_SHORT fld_HEDGE_ordinal fld_SPEC_ordinal fld_LONG_ordinal fld_SHORT_ordinal p e ha hc hk s m _ below hf ((Spec.applies_iff_loose hf).mp happ).1 ⟨rfl, State.Warmed39.refl s, rfl⟩ trivial
  refine ⟨n, _, h1, h2, h3, hpost _ _ _ _ _ _ ⟨Cond.after_iff.mpr rfl, Cond.after_iff.mpr (eq_i res_at (Term.int_eval (1)) rfl), trivial⟩ ⟨hq.1, hq.2.1, (hq.2.2.sift fun y hy => Or.inr (N y hy)).mono (by decide) (by decide)⟩⟩
theorem main_1_1 : Claimed_1_1 := comes_1 fun _ _ _ _ _ _ h hF => ⟨h.1, hF⟩
theorem main_1_2 : Claimed_1_2 := comes_1 fun _ _ _ _ _ _ h hF => ⟨h.2.1, hF⟩
end Jvm.Pilot.@@N@@
namespace Jvm.Pilot.@@N@@
open Jvm Jvm.ClassFile Sem Op Lib Jvm.Free Jvm.Stand Jvm.Pilot.@@N@@.Jvm.D
/-! MADE BY PROGRAM (witnessworld.py) out of the Statement's table words and the real class files: 16 classes; the members and pool entries that the words name. The judged class is class 1, her method 1. -/
namespace start1
open Jvm.ClassFile
def u (s : String) : CpInfo := .utf8 (stringToUtf16 s)
/-- a pool by its gaps: so many unusable entries, then the entry; so many at the end -/
def gap : Nat → List CpInfo → List CpInfo
  | 0, r => r
  | n + 1, r => .unusable :: gap n r
def poolList (es : List (Nat × CpInfo)) (last : Nat) : List CpInfo := es.foldr (fun e r => gap e.1 (e.2 :: r)) (gap last [])
def pool (es : List (Nat × CpInfo)) (last : Nat) : Array CpInfo := ⟨poolList es last⟩
def fileOf (pool : Array CpInfo) (this : Nat) (attrs : Array Attribute := #[]) (ms : Array MethodInfo := #[]) (fl : Nat := 33) (sup : Nat := 0) (ifs : Array Nat := #[]) (fds : Array FieldInfo := #[]) : ClassFile where
  minorVersion := 0
  majorVersion := 65
  constantPool := pool
  accessFlags := fl
  thisClass := this
  superClass := sup
  interfaces := ifs
  fields := fds
  methods := ms
  attributes := attrs
def plain (name : String) (sup : Option ClassId) : Class where
  name := name
  kind := .ordinary
  loader := none
  accessFlags := 33
  super := sup
  interfaces := #[]
  cf := none
  fields := #[]
  methods := #[]
  instanceTypes := #[]
  staticTypes := #[]
  resolved := #[]
  callSites := []
  init := .initialized
  statics := none
  mirror := none

def pool0 : Array CpInfo := pool [(5, u "<init>"), (0, u "()V"), (1, .class_ 10), (1, u "java/lang/Object")] 113

def k0m0 : Method := { name := "<init>", desc := "()V", sig := { parameters := [], returnType := none }, accessFlags := 1, code := none }
/-- java/lang/Object -/
def k0 : Class := { plain "java/lang/Object" none with
  accessFlags := 33
  interfaces := #[]
  cf := some (fileOf pool0 8 #[] #[{ accessFlags := 1, nameIndex := 5, descriptorIndex := 6, attributes := #[] }] 33 0 #[] #[])
  fields := #[]
  methods := #[k0m0]
  instanceTypes := #[]
  staticTypes := #[]
  resolved := Array.replicate 124 none
  statics := none }

def pool1 : Array CpInfo := pool [(2, .class_ 4), (1, u "java/lang/Object"), (0, u "<init>"), (0, u "()V"), (2, .long 9223372036854775807), (1, .long 2), (1, .fieldref 14 15), (0, .class_ 16), (0, .nameAndType 17 18), (0, u "com/example/tallyhouse/tallyhouse/book/Side"), (0, u "LONG"), (0, u "Lcom/example/tallyhouse/tallyhouse/book/Side;"), (0, .fieldref 14 20), (0, .nameAndType 21 18), (0, u "SHORT"), (0, .methodref 23 24), (0, .class_ 25), (0, .nameAndType 26 27), (0, u "com/example/tallyhouse/tallyhouse/book/LineKey"), (0, u "side"), (0, u "(J)Lcom/example/tallyhouse/tallyhouse/book/Side;"), (0, .fieldref 29 30), (0, .class_ 31), (0, .nameAndType 32 33), (0, u "com/example/tallyhouse/tallyhouse/book/Flag"), (0, u "SPEC"), (0, u "Lcom/example/tallyhouse/tallyhouse/book/Flag;"), (0, .fieldref 29 35), (0, .nameAndType 36 33), (0, u "HEDGE"), (0, .integer 2147483647), (0, .integer 1073741823), (0, .methodref 23 40), (0, .nameAndType 41 42), (0, u "of"), (0, u "(IILcom/example/tallyhouse/tallyhouse/book/Side;Lcom/example/tallyhouse/tallyhouse/book/Flag;)J"), (0, .class_ 44), (0, u "com/example/tallyhouse/tallyhouse/book/LineKeySidePinLaw"), (2, u "law"), (0, u "(JIII)Z")] 3

def k1m0 : Method := { name := "<init>", desc := "()V", sig := { parameters := [], returnType := none }, accessFlags := 2, code := none }
def k1c1 : Code := { maxStack := 4, maxLocals := 14, code := code, exceptionTable := #[], attributes := #[] }
def k1m1 : Method := { name := "law", desc := "(JIII)Z", sig := { parameters := [.long, .int, .int, .int], returnType := some .boolean }, accessFlags := 9, code := some k1c1 }
/-- com/example/tallyhouse/tallyhouse/book/LineKeySidePinLaw -/
def k1 : Class := { plain "com/example/tallyhouse/tallyhouse/book/LineKeySidePinLaw" (some 0) with
  accessFlags := 49
  interfaces := #[]
  cf := some (fileOf pool1 43 #[] #[{ accessFlags := 2, nameIndex := 5, descriptorIndex := 6, attributes := #[] }, { accessFlags := 9, nameIndex := 47, descriptorIndex := 48, attributes := #[] }] 49 2 #[] #[])
  fields := #[]
  methods := #[k1m0, k1m1]
  instanceTypes := #[]
  staticTypes := #[]
  resolved := Array.replicate 52 none
  statics := none }

def pool2 : Array CpInfo := pool [(1, .class_ 2), (0, u "java/lang/constant/Constable"), (0, .class_ 4), (0, u "java/lang/Object")] 6

/-- java/lang/constant/Constable -/
def k2 : Class := { plain "java/lang/constant/Constable" (some 0) with
  accessFlags := 1537
  interfaces := #[]
  cf := some (fileOf pool2 1 #[] #[] 1537 3 #[] #[])
  fields := #[]
  methods := #[]
  instanceTypes := #[]
  staticTypes := #[]
  resolved := Array.replicate 11 none
  statics := none }

def pool3 : Array CpInfo := pool [(1, .class_ 2), (0, u "java/lang/Comparable"), (0, .class_ 4), (0, u "java/lang/Object")] 7

/-- java/lang/Comparable -/
def k3 : Class := { plain "java/lang/Comparable" (some 0) with
  accessFlags := 1537
  interfaces := #[]
  cf := some (fileOf pool3 1 #[] #[] 1537 3 #[] #[])
  fields := #[]
  methods := #[]
  instanceTypes := #[]
  staticTypes := #[]
  resolved := Array.replicate 12 none
  statics := none }

def pool4 : Array CpInfo := pool [(1, .class_ 2), (0, u "java/io/Serializable"), (0, .class_ 4), (0, u "java/lang/Object")] 2

/-- java/io/Serializable -/
def k4 : Class := { plain "java/io/Serializable" (some 0) with
  accessFlags := 1537
  interfaces := #[]
  cf := some (fileOf pool4 1 #[] #[] 1537 3 #[] #[])
  fields := #[]
  methods := #[]
  instanceTypes := #[]
  staticTypes := #[]
  resolved := Array.replicate 7 none
  statics := none }

def pool5 : Array CpInfo := pool [(2, .class_ 4), (1, u "java/lang/Enum"), (0, u "name"), (0, u "Ljava/lang/String;"), (0, .fieldref 2 8), (0, .nameAndType 9 10), (0, u "ordinal"), (0, u "I"), (1, .class_ 14), (1, u "java/lang/Object"), (4, u "hash"), (86, .class_ 108), (1, u "java/lang/Enum$EnumDesc"), (2, .class_ 112), (0, u "java/lang/constant/Constable"), (0, .class_ 114), (0, u "java/lang/Comparable"), (0, .class_ 116), (0, u "java/io/Serializable"), (9, u "()I")] 77

def k5c0 : Code := { maxStack := 1, maxLocals := 1, code := jdk_37_method_2_code, exceptionTable := #[], attributes := #[] }
def k5m0 : Method := { name := "ordinal", desc := "()I", sig := { parameters := [], returnType := some .int }, accessFlags := 17, code := some k5c0 }
/-- java/lang/Enum -/
def k5 : Class := { plain "java/lang/Enum" (some 0) with
  accessFlags := 1057
  interfaces := #[2, 3, 4]
  cf := some (fileOf pool5 2 #[.nestMembers #[106]] #[{ accessFlags := 17, nameIndex := 9, descriptorIndex := 126, attributes := #[] }] 1057 12 #[111, 113, 115] #[{ accessFlags := 18, nameIndex := 5, descriptorIndex := 6, attributes := #[] }, { accessFlags := 18, nameIndex := 9, descriptorIndex := 10, attributes := #[] }, { accessFlags := 2, nameIndex := 19, descriptorIndex := 10, attributes := #[] }])
  fields := #[{ name := "name", type := (.object "java/lang/String"), accessFlags := 18, slot := 0, constantValue := 0 }, { name := "ordinal", type := .int, accessFlags := 18, slot := 1, constantValue := 0 }, { name := "hash", type := .int, accessFlags := 2, slot := 2, constantValue := 0 }]
  methods := #[k5m0]
  instanceTypes := #[(.object "java/lang/String"), .int, .int]
  staticTypes := #[]
  resolved := Array.replicate 204 none
  statics := none }

def pool6 : Array CpInfo := pool [(1, .class_ 2), (0, u "com/example/tallyhouse/tallyhouse/book/Side"), (2, u "LONG"), (0, u "Lcom/example/tallyhouse/tallyhouse/book/Side;"), (2, u "SHORT"), (2, u "$VALUES"), (0, u "[Lcom/example/tallyhouse/tallyhouse/book/Side;"), (6, .class_ 22), (1, u "java/lang/Enum")] 24

/-- com/example/tallyhouse/tallyhouse/book/Side -/
def k6 : Class := { plain "com/example/tallyhouse/tallyhouse/book/Side" (some 5) with
  accessFlags := 16433
  interfaces := #[]
  cf := some (fileOf pool6 1 #[] #[] 16433 20 #[] #[{ accessFlags := 16409, nameIndex := 5, descriptorIndex := 6, attributes := #[] }, { accessFlags := 16409, nameIndex := 9, descriptorIndex := 6, attributes := #[] }, { accessFlags := 4122, nameIndex := 12, descriptorIndex := 13, attributes := #[] }])
  fields := #[{ name := "LONG", type := (.object "com/example/tallyhouse/tallyhouse/book/Side"), accessFlags := 16409, slot := 0, constantValue := 0 }, { name := "SHORT", type := (.object "com/example/tallyhouse/tallyhouse/book/Side"), accessFlags := 16409, slot := 1, constantValue := 0 }, { name := "$VALUES", type := (.array (.object "com/example/tallyhouse/tallyhouse/book/Side")), accessFlags := 4122, slot := 2, constantValue := 0 }]
  methods := #[]
  instanceTypes := #[(.object "java/lang/String"), .int, .int]
  staticTypes := #[(.object "com/example/tallyhouse/tallyhouse/book/Side"), (.object "com/example/tallyhouse/tallyhouse/book/Side"), (.array (.object "com/example/tallyhouse/tallyhouse/book/Side"))]
  resolved := Array.replicate 47 none
  statics := some 0 }

def pool7 : Array CpInfo := pool [(2, .class_ 4), (1, u "java/lang/Object"), (0, u "<init>"), (0, u "()V"), (2, .fieldref 10 11), (0, .class_ 12), (0, .nameAndType 13 14), (0, u "com/example/tallyhouse/tallyhouse/book/LineKey"), (0, u "LINES"), (0, u "I"), (0, .methodref 16 17), (0, .class_ 18), (0, .nameAndType 19 20), (0, u "com/example/tallyhouse/tallyhouse/book/Side"), (0, u "ordinal"), (0, u "()I"), (0, .fieldref 10 22), (0, .nameAndType 23 24), (0, u "FLAGS"), (0, u "[Lcom/example/tallyhouse/tallyhouse/book/Flag;"), (0, .methodref 26 17), (0, .class_ 27), (0, u "com/example/tallyhouse/tallyhouse/book/Flag"), (2, .fieldref 10 31), (0, .nameAndType 32 33), (0, u "SIDES"), (0, u "[Lcom/example/tallyhouse/tallyhouse/book/Side;"), (21, u "side"), (0, u "(J)Lcom/example/tallyhouse/tallyhouse/book/Side;"), (19, u "CONTRACTS"), (2, u "of"), (0, u "(IILcom/example/tallyhouse/tallyhouse/book/Side;Lcom/example/tallyhouse/tallyhouse/book/Flag;)J")] 6

def k7m0 : Method := { name := "<init>", desc := "()V", sig := { parameters := [], returnType := none }, accessFlags := 2, code := none }
def k7c1 : Code := { maxStack := 6, maxLocals := 4, code := prog_5_method_2_code, exceptionTable := #[], attributes := #[] }
def k7m1 : Method := { name := "of", desc := "(IILcom/example/tallyhouse/tallyhouse/book/Side;Lcom/example/tallyhouse/tallyhouse/book/Flag;)J", sig := { parameters := [.int, .int, (.object "com/example/tallyhouse/tallyhouse/book/Side"), (.object "com/example/tallyhouse/tallyhouse/book/Flag")], returnType := some .long }, accessFlags := 8, code := some k7c1 }
def k7c2 : Code := { maxStack := 5, maxLocals := 2, code := prog_5_method_5_code, exceptionTable := #[], attributes := #[] }
def k7m2 : Method := { name := "side", desc := "(J)Lcom/example/tallyhouse/tallyhouse/book/Side;", sig := { parameters := [.long], returnType := some (.object "com/example/tallyhouse/tallyhouse/book/Side") }, accessFlags := 8, code := some k7c2 }
/-- com/example/tallyhouse/tallyhouse/book/LineKey -/
def k7 : Class := { plain "com/example/tallyhouse/tallyhouse/book/LineKey" (some 0) with
  accessFlags := 48
  interfaces := #[]
  cf := some (fileOf pool7 10 #[] #[{ accessFlags := 2, nameIndex := 5, descriptorIndex := 6, attributes := #[] }, { accessFlags := 8, nameIndex := 79, descriptorIndex := 80, attributes := #[] }, { accessFlags := 8, nameIndex := 55, descriptorIndex := 56, attributes := #[] }] 48 2 #[] #[{ accessFlags := 26, nameIndex := 32, descriptorIndex := 33, attributes := #[] }, { accessFlags := 26, nameIndex := 23, descriptorIndex := 24, attributes := #[] }, { accessFlags := 26, nameIndex := 13, descriptorIndex := 14, attributes := #[] }, { accessFlags := 24, nameIndex := 76, descriptorIndex := 14, attributes := #[] }])
  fields := #[{ name := "SIDES", type := (.array (.object "com/example/tallyhouse/tallyhouse/book/Side")), accessFlags := 26, slot := 0, constantValue := 0 }, { name := "FLAGS", type := (.array (.object "com/example/tallyhouse/tallyhouse/book/Flag")), accessFlags := 26, slot := 1, constantValue := 0 }, { name := "LINES", type := .int, accessFlags := 26, slot := 2, constantValue := 0 }, { name := "CONTRACTS", type := .int, accessFlags := 24, slot := 3, constantValue := 0 }]
  methods := #[k7m0, k7m1, k7m2]
  instanceTypes := #[]
  staticTypes := #[(.array (.object "com/example/tallyhouse/tallyhouse/book/Side")), (.array (.object "com/example/tallyhouse/tallyhouse/book/Flag")), .int, .int]
  resolved := Array.replicate 87 none
  statics := some 1 }

def pool8 : Array CpInfo := pool [(1, .class_ 2), (0, u "com/example/tallyhouse/tallyhouse/book/Flag"), (2, u "HEDGE"), (0, u "Lcom/example/tallyhouse/tallyhouse/book/Flag;"), (2, u "SPEC"), (2, u "$VALUES"), (0, u "[Lcom/example/tallyhouse/tallyhouse/book/Flag;"), (6, .class_ 22), (1, u "java/lang/Enum")] 24

/-- com/example/tallyhouse/tallyhouse/book/Flag -/
def k8 : Class := { plain "com/example/tallyhouse/tallyhouse/book/Flag" (some 5) with
  accessFlags := 16433
  interfaces := #[]
  cf := some (fileOf pool8 1 #[] #[] 16433 20 #[] #[{ accessFlags := 16409, nameIndex := 5, descriptorIndex := 6, attributes := #[] }, { accessFlags := 16409, nameIndex := 9, descriptorIndex := 6, attributes := #[] }, { accessFlags := 4122, nameIndex := 12, descriptorIndex := 13, attributes := #[] }])
  fields := #[{ name := "HEDGE", type := (.object "com/example/tallyhouse/tallyhouse/book/Flag"), accessFlags := 16409, slot := 0, constantValue := 0 }, { name := "SPEC", type := (.object "com/example/tallyhouse/tallyhouse/book/Flag"), accessFlags := 16409, slot := 1, constantValue := 0 }, { name := "$VALUES", type := (.array (.object "com/example/tallyhouse/tallyhouse/book/Flag")), accessFlags := 4122, slot := 2, constantValue := 0 }]
  methods := #[]
  instanceTypes := #[(.object "java/lang/String"), .int, .int]
  staticTypes := #[(.object "com/example/tallyhouse/tallyhouse/book/Flag"), (.object "com/example/tallyhouse/tallyhouse/book/Flag"), (.array (.object "com/example/tallyhouse/tallyhouse/book/Flag"))]
  resolved := Array.replicate 47 none
  statics := some 2 }

def pool9 : Array CpInfo := pool [(1, u "java/lang/Cloneable"), (0, .class_ 1), (0, u "java/lang/Object"), (0, .class_ 3)] 3

/-- java/lang/Cloneable -/
def k9 : Class := { plain "java/lang/Cloneable" (some 0) with
  accessFlags := 1537
  interfaces := #[]
  cf := some (fileOf pool9 2 #[] #[] 1537 4 #[] #[])
  fields := #[]
  methods := #[]
  instanceTypes := #[]
  staticTypes := #[]
  resolved := Array.replicate 8 none
  statics := none }

/-- the primitive byte -/
def k10 : Class := { plain "byte" none with kind := .primitive 'B', accessFlags := 0x411 }
/-- [B -/
def k11 : Class := { plain "[B" (some 0) with kind := .array 10 .byte, interfaces := #[9, 4], accessFlags := 1041 }

/-- the primitive int -/
def k12 : Class := { plain "int" none with kind := .primitive 'I', accessFlags := 0x411 }
/-- [I -/
def k13 : Class := { plain "[I" (some 0) with kind := .array 12 .int, interfaces := #[9, 4], accessFlags := 1041 }

/-- [Lcom/example/tallyhouse/tallyhouse/book/Flag; -/
def k14 : Class := { plain "[Lcom/example/tallyhouse/tallyhouse/book/Flag;" (some 0) with kind := .array 8 (.object "com/example/tallyhouse/tallyhouse/book/Flag"), interfaces := #[9, 4], accessFlags := 1041 }

/-- [Lcom/example/tallyhouse/tallyhouse/book/Side; -/
def k15 : Class := { plain "[Lcom/example/tallyhouse/tallyhouse/book/Side;" (some 0) with kind := .array 6 (.object "com/example/tallyhouse/tallyhouse/book/Side"), interfaces := #[9, 4], accessFlags := 1041 }

def heap : Heap := #[{ cls := 6, slots := #[.ref 7, .ref 8, .null], vm := .statics 6 },
  { cls := 7, slots := #[.ref 3, .ref 4, .int 4, .int 0], vm := .statics 7 },
  { cls := 8, slots := #[.ref 5, .ref 6, .null], vm := .statics 8 },
  { cls := 15, slots := #[.ref 7, .ref 8], vm := .none },
  { cls := 14, slots := #[.ref 5, .ref 6], vm := .none },
  { cls := 8, slots := #[.null, .int 0, .int 0], vm := .none },
  { cls := 8, slots := #[.null, .int 1, .int 0], vm := .none },
  { cls := 6, slots := #[.null, .int 0, .int 0], vm := .none },
  { cls := 6, slots := #[.null, .int 1, .int 0], vm := .none }]
def classes : Array Class := #[k0, k1, k2, k3, k4, k5, k6, k7, k8, k9, k10, k11, k12, k13, k14, k15]
def interned : List (Array UInt16 × Addr) := []
def slotsUsed : Nat := 26
def theMethod : MethodId := ⟨1, 1⟩
def args0 : Array Value := #[.long 5, .int 1, .int 2, .int 3]
def aboutOver (below : List Frame) : State where
  vm := { classes := classes, interned := interned.toArray }
  heap := heap
  slotsUsed := slotsUsed
  threads := #[{ frames := .invoking theMethod args0 :: below }]
def below0 : List Frame := [.native { method := ⟨0, 0⟩, args := #[] }]
def about1 : State := aboutOver below0
def p0 : Program := .bare "" "" ""
def e0 : Env := launch0.env 0 0 0
theorem w_frames : about1.frames = Frame.invoking theMethod args0 :: below0 := rfl
set_option maxRecDepth 65536 in
theorem w_args : argsFit about1.vm theMethod args0 = true := by decide +kernel
set_option maxRecDepth 65536 in
theorem w_heap : heapFits about1 = true := by decide +kernel
set_option maxRecDepth 65536 in
theorem w_runnable : about1.curStatus? = some .runnable := by decide +kernel
set_option maxRecDepth 65536 in
theorem w_alone : about1.alone = true := by decide +kernel
set_option maxRecDepth 65536 in
theorem w_named : about1.methodNamed? x = some theMethod := by decide +kernel
set_option maxRecDepth 65536 in
theorem w_hears : about1.hears theMethod below0 = true := by decide +kernel
set_option maxRecDepth 65536 in
theorem w_ripe : about1.ripe theMethod args0 below0 = true := by decide +kernel
theorem w_running : about1.status = .running := rfl
set_option maxRecDepth 65536 in
theorem w_room : about1.hasRoom e0.platform room_1 = true :=
  launch0.hasRoom_least _ room_1 (by decide +kernel) (by decide +kernel) (by decide +kernel) (by decide +kernel) (by decide +kernel) (by decide +kernel)
theorem allAtoms_all (ts : List Jvm.Cond) (a : Array Jvm.Value) (st : Jvm.State) : (allAtoms ts).before a st = ts.all (fun c => c.before a st) := by
  induction ts with
  | nil => rfl
  | cons c t ih =>
    show (Jvm.Cond.and c (allAtoms t)).before a st = _
    rw [Jvm.Cond.before_and, ih, List.all_cons]
def words1 : List Jvm.Cond := Jvm.Cond.code x code maxLocals ret :: tables_1
/-- a 'code' word, met by the world's own term for the bytes: nothing is compared byte by byte -/
theorem code_word {y : MethodName} {bytes : ByteArray} {mx : Nat} {rt : Option FieldType} {a : Array Value} {s : State} {m : MethodId} {meth : Method} {c : Code} (h1 : s.methodNamed? y = some m) (h2 : s.vm.method? m = some meth) (h3 : meth.code = some c) (h4 : c.code = bytes)
    (h5 : (c.maxLocals == mx && c.exceptionTable.isEmpty && decide (c.maxStack ≤ mostOperands) && decide (meth.sig.returnType = rt) && !meth.locks && decide (parseMethodDescriptor y.desc = some meth.sig)) = true) : (Jvm.Cond.code y bytes mx rt).before a s = true := by
  simp only [Bool.and_eq_true, beq_iff_eq, Bool.not_eq_true', decide_eq_true_eq] at h5
  obtain ⟨⟨⟨⟨⟨g1, g2⟩, g3⟩, g4⟩, g5⟩, g6⟩ := h5
  simp [Cond.before, Cond.holds, Cond.value, h1, h2, h3, h4, g1, g2, g3, g4, g5, g6]
def isCode : Jvm.Cond → Bool
  | .code _ _ _ _ => true
  | _ => false
theorem all_split {L : List Jvm.Cond} {P : Jvm.Cond → Bool} (h1 : L.all (fun c => isCode c || P c) = true) (h2 : ∀ c ∈ L.filter isCode, P c = true) : L.all P = true := by
  refine List.all_eq_true.mpr fun c hc => ?_
  have h := List.all_eq_true.mp h1 c hc
  rcases Bool.eq_false_or_eq_true (isCode c) with hi | hi
  · exact h2 c (List.mem_filter.mpr ⟨hc, hi⟩)
  · simpa [hi] using h
set_option maxRecDepth 65536 in
theorem w_c0 : (Jvm.Cond.code x code maxLocals ret).before args0 about1 = true := code_word (m := ⟨1, 1⟩) (meth := k1m1) (c := k1c1) (by decide +kernel) rfl rfl rfl (by decide +kernel)
set_option maxRecDepth 65536 in
theorem w_c1 : (Jvm.Cond.code ({ cls := "com/example/tallyhouse/tallyhouse/book/LineKey", name := "side", desc := "(J)Lcom/example/tallyhouse/tallyhouse/book/Side;" } : Jvm.MethodName) prog_5_method_5_code (2 : Nat) (Option.some (Jvm.ClassFile.FieldType.object "com/example/tallyhouse/tallyhouse/book/Side"))).before args0 about1 = true := code_word (m := ⟨7, 2⟩) (meth := k7m2) (c := k7c2) (by decide +kernel) rfl rfl rfl (by decide +kernel)
set_option maxRecDepth 65536 in
theorem w_c2 : (Jvm.Cond.code ({ cls := "com/example/tallyhouse/tallyhouse/book/LineKey", name := "of", desc := "(IILcom/example/tallyhouse/tallyhouse/book/Side;Lcom/example/tallyhouse/tallyhouse/book/Flag;)J" } : Jvm.MethodName) prog_5_method_2_code (4 : Nat) (Option.some Jvm.ClassFile.FieldType.long)).before args0 about1 = true := code_word (m := ⟨7, 1⟩) (meth := k7m1) (c := k7c1) (by decide +kernel) rfl rfl rfl (by decide +kernel)
set_option maxRecDepth 65536 in
theorem w_c3 : (Jvm.Cond.code ({ cls := "java/lang/Enum", name := "ordinal", desc := "()I" } : Jvm.MethodName) jdk_37_method_2_code (1 : Nat) (Option.some Jvm.ClassFile.FieldType.int)).before args0 about1 = true := code_word (m := ⟨5, 0⟩) (meth := k5m0) (c := k5c0) (by decide +kernel) rfl rfl rfl (by decide +kernel)
def codes1 : List Jvm.Cond := [Jvm.Cond.code x code maxLocals ret, Jvm.Cond.code ({ cls := "com/example/tallyhouse/tallyhouse/book/LineKey", name := "side", desc := "(J)Lcom/example/tallyhouse/tallyhouse/book/Side;" } : Jvm.MethodName) prog_5_method_5_code (2 : Nat) (Option.some (Jvm.ClassFile.FieldType.object "com/example/tallyhouse/tallyhouse/book/Side")), Jvm.Cond.code ({ cls := "com/example/tallyhouse/tallyhouse/book/LineKey", name := "of", desc := "(IILcom/example/tallyhouse/tallyhouse/book/Side;Lcom/example/tallyhouse/tallyhouse/book/Flag;)J" } : Jvm.MethodName) prog_5_method_2_code (4 : Nat) (Option.some Jvm.ClassFile.FieldType.long), Jvm.Cond.code ({ cls := "java/lang/Enum", name := "ordinal", desc := "()I" } : Jvm.MethodName) jdk_37_method_2_code (1 : Nat) (Option.some Jvm.ClassFile.FieldType.int)]
set_option maxRecDepth 65536 in
theorem codes_eq : words1.filter isCode = codes1 := rfl
theorem w_codes : ∀ c ∈ words1.filter isCode, c.before args0 about1 = true := by
  rw [codes_eq]
  intro c hc
  simp only [codes1, List.mem_cons, List.not_mem_nil, or_false] at hc
  rcases hc with rfl | rfl | rfl | rfl
  · exact w_c0
  · exact w_c1
  · exact w_c2
  · exact w_c3
set_option maxRecDepth 65536 in
theorem w_t1 : (words1.take 24).all (fun c => isCode c || c.before args0 about1) = true := by decide +kernel
set_option maxRecDepth 65536 in
theorem w_t2 : (words1.drop 24).all (fun c => isCode c || c.before args0 about1) = true := by decide +kernel
theorem w_tables : (allAtoms (Jvm.Cond.code x code maxLocals ret :: tables_1)).before args0 about1 = true := by
  rw [allAtoms_all]
  show words1.all (fun c => c.before args0 about1) = true
  refine all_split ?_ w_codes
  rw [← List.take_append_drop 24 words1, List.all_append, w_t1, w_t2]
  rfl
set_option maxRecDepth 65536 in
theorem w_case : (Jvm.Cond.and given_1 narrow_1).before args0 about1 = true := by decide +kernel
theorem w_applies : (headSpec (Jvm.Cond.code x code maxLocals ret :: tables_1) room_1).applies x e0.platform about1 = true :=
  (Spec.applies_iff w_frames).mpr ⟨w_running, w_runnable, w_alone, w_named, w_hears, w_ripe, w_room, w_tables⟩
theorem atStart : AtStart classFile x code maxLocals ret World_1 tables_1 room_1 Calls_1 rest_1 Pre_1 launch0 p0 e0 about1 theMethod args0 below0 :=
  ⟨lists_1, trivial, launch0.admits_env _ _ _, launch0.least_env, fairChoices_fair.cas, fairChoices_fair.clock, w_frames, w_args, w_heap, w_applies, trivial, trivial, w_case⟩
end start1
theorem witness_1 : WitnessClaimed_1 := ⟨start1.p0, start1.e0, start1.about1, start1.theMethod, start1.args0, start1.below0, start1.atStart⟩
end Jvm.Pilot.@@N@@
