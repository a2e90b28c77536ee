import JvmDerived
import JvmDerived.Pilot.@@N@@Statement
import JvmDerived.Pilot.@@N@@Code
set_option linter.unusedVariables false
set_option linter.unusedSimpArgs false
namespace Jvm.RoadKit
open Sem ClassFile Op Lib Jvm.Stand Jvm.Free Jvm.LawKit
section New
variable {p : Program} {l : Launch} {e : Env} {R : Room} {s : State} {m : MethodId} {args : Array Value} {below : List Frame} {meth : Method} {c : Code} {T : State} {locs : List Loc} {cells slots : Nat}
theorem retI (X : Stand p l e R s m args below meth c T locs cells slots) (hx : p.tables.exec = Jvm.exec) {pc : Nat} {Ls : Array Slot} {z : Int32} {rest : List Value} (hret : meth.sig.returnType = some .int) (hd : decode c.code pc = .ok (.ireturn, 1)) {fs : List Frame}
    (hl : ∀ (f : JFrame) (acts : List Action), f.method = m → f.locked = none → f.entered = [] → (doReturn e (T.setTop f) acts (some (.int z))).1 = T.setFrames fs) : Steps p.tables e below (T.setTop (mkF m pc Ls (.int z :: rest))) (T.setFrames fs) := by
  have hm' : T.vm.method? m = some meth := X.method'
  have hn : narrow .int (.int z) = .int z := rfl
  show Steps p.tables e below (T.setTop { method := m, pc := pc, locals := Ls, stack := _ :: rest, locked := none }) _
  jvm_step X.here [X.here.top, hx, hd, hm', hret, hn]
  first | (intro acts; rw [hl _ acts rfl rfl rfl]) | rw [hl _ _ rfl rfl rfl]
  exact Steps.refl _
theorem retJ (X : Stand p l e R s m args below meth c T locs cells slots) (hx : p.tables.exec = Jvm.exec) {pc : Nat} {Ls : Array Slot} {z : Int64} {rest : List Value} (hret : meth.sig.returnType = some .long) (hd : decode c.code pc = .ok (.lreturn, 1)) {fs : List Frame}
    (hl : ∀ (f : JFrame) (acts : List Action), f.method = m → f.locked = none → f.entered = [] → (doReturn e (T.setTop f) acts (some (.long z))).1 = T.setFrames fs) : Steps p.tables e below (T.setTop (mkF m pc Ls (.long z :: rest))) (T.setFrames fs) := by
  have hm' : T.vm.method? m = some meth := X.method'
  have hn : narrow .long (.long z) = .long z := rfl
  show Steps p.tables e below (T.setTop { method := m, pc := pc, locals := Ls, stack := _ :: rest, locked := none }) _
  jvm_step X.here [X.here.top, hx, hd, hm', hret, hn]
  first | (intro acts; rw [hl _ acts rfl rfl rfl]) | rw [hl _ _ rfl rfl rfl]
  exact Steps.refl _
theorem retD (X : Stand p l e R s m args below meth c T locs cells slots) (hx : p.tables.exec = Jvm.exec) {pc : Nat} {Ls : Array Slot} {z : UInt64} {rest : List Value} (hret : meth.sig.returnType = some .double) (hd : decode c.code pc = .ok (.dreturn, 1)) {fs : List Frame}
    (hl : ∀ (f : JFrame) (acts : List Action), f.method = m → f.locked = none → f.entered = [] → (doReturn e (T.setTop f) acts (some (.double z))).1 = T.setFrames fs) : Steps p.tables e below (T.setTop (mkF m pc Ls (.double z :: rest))) (T.setFrames fs) := by
  have hm' : T.vm.method? m = some meth := X.method'
  have hn : narrow .double (.double z) = .double z := rfl
  show Steps p.tables e below (T.setTop { method := m, pc := pc, locals := Ls, stack := _ :: rest, locked := none }) _
  jvm_step X.here [X.here.top, hx, hd, hm', hret, hn]
  first | (intro acts; rw [hl _ acts rfl rfl rfl]) | rw [hl _ _ rfl rfl rfl]
  exact Steps.refl _
end New
end Jvm.RoadKit
@@BLOCK:NumsL.lean.txt@@
/- laws to paste: Road.backV (cut by pick.py; bodies as the Statement names them) -/
namespace Jvm.Pilot.@@N@@
namespace StrChars
open Jvm Sem ClassFile Op Lib Jvm.Stand Jvm.Free.XT Jvm.Free.ALB Jvm.Free.JM Jvm.Free
open Jvm.Lib.Cold (StaticIs)
/-- a char array whose places are chars -/
def Ch (a : Addr) (A : Cell) (U : State) : Prop := Arr .char a A U ∧ Typed .char A
theorem Ch.mv {a : Addr} {A : Cell} {U U' : State} (h : Ch a A U) (hal : U.vm.Alike U'.vm) (hh : U'.heap = U.heap) : Ch a A U' := ⟨h.1.mv hal hh, h.2⟩
theorem Ch.keep {a : Addr} {A : Cell} {U U' : State} (h : Ch a A U) (hal : U.vm.Alike U'.vm) (hk : U'.heap[a]? = some A) : Ch a A U' := ⟨h.1.keep hal hk, h.2⟩
/-- what place i of a char[]'s cell holds -/
def cv (A : Cell) (i : Nat) : Int32 := match A.slots[i]? with | some (.int x) => x | _ => 0
theorem Ch.get {a : Addr} {A : Cell} {U : State} (h : Ch a A U) {i : Nat} (hi : i < A.slots.size) : A.slots[i]? = some (.int (cv A i)) := by
  have e := Array.getElem?_eq_getElem hi
  have f := h.2 i _ e
  unfold cv; rw [e]
  generalize A.slots[i] = v at f
  cases v <;> simp [fits] at f ⊢
/-- the byte that i2b leaves of a char -/
def lo8 (x : Int32) : Int32 := x.toInt8.toInt32
theorem fits_lo8 (y : Int32) : fits .byte (.int (lo8 y)) = true := by
  have h1 := y.toInt8.le_toInt
  have h2 := y.toInt8.toInt_lt
  simp only [lo8, fits, Bool.and_eq_true, decide_eq_true_eq, Int32.le_iff_toInt_le, Int8.toInt_toInt32, show (-128 : Int32).toInt = -128 from by decide, show (127 : Int32).toInt = 127 from by decide]
  omega
/-- A' is A but that each place j of lo .. hi - 1 holds f j -/
def Laid (A A' : Cell) (lo hi : Nat) (f : Nat → Value) : Prop := A'.cls = A.cls ∧ A'.vm = A.vm ∧ A'.slots.size = A.slots.size ∧ ∀ i, A'.slots[i]? = if lo ≤ i ∧ i < hi then some (f i) else A.slots[i]?
theorem Laid.zero (A : Cell) (lo : Nat) (f : Nat → Value) : Laid A A lo (lo + 0) f := ⟨rfl, rfl, rfl, fun i => by rw [if_neg (by omega)]⟩
theorem Laid.step {A Ak : Cell} {lo k : Nat} {f : Nat → Value} {v : Value} (h : Laid A Ak lo k f) (hlo : lo ≤ k) (hk : k < Ak.slots.size) (hv : v = f k) : Laid A (Ak.setSlot k v) lo (k + 1) f := by
  refine ⟨h.1, h.2.1, by simpa [Cell.setSlot] using h.2.2.1, fun i => ?_⟩
  by_cases e : k = i
  · subst e; rw [Cell.slots_setSlot_self v hk, if_pos (by omega), hv]
  · rw [Cell.slots_setSlot_ne v e, h.2.2.2 i]
    by_cases q : lo ≤ i ∧ i < k
    · rw [if_pos q, if_pos (by omega)]
    · rw [if_neg q, if_neg (by omega)]
def U16 : String := "java/lang/StringUTF16"
namespace Cmp5
def yN : MethodName := ⟨"java/lang/StringUTF16", "compress", "([CI[BII)I"⟩
abbrev yB : ByteArray := jdk_52_method_21_code
theorem d0 : decode yB 0 = .ok (.iconst 0, 1) := by decide +kernel
theorem d1 : decode yB 1 = .ok (.istore 5, 2) := by decide +kernel
theorem d3 : decode yB 3 = .ok (.iload 5, 2) := by decide +kernel
theorem d5 : decode yB 5 = .ok (.iload 4, 2) := by decide +kernel
theorem d7 : decode yB 7 = .ok (.if_icmp (.ge) 37, 3) := by decide +kernel
theorem d10 : decode yB 10 = .ok (.aload_n 0, 1) := by decide +kernel
theorem d11 : decode yB 11 = .ok (.iload_n 1, 1) := by decide +kernel
theorem d12 : decode yB 12 = .ok (.caload, 1) := by decide +kernel
theorem d13 : decode yB 13 = .ok (.istore 6, 2) := by decide +kernel
theorem d15 : decode yB 15 = .ok (.iload 6, 2) := by decide +kernel
theorem d17 : decode yB 17 = .ok (.sipush 255, 3) := by decide +kernel
theorem d20 : decode yB 20 = .ok (.if_icmp (.le) 6, 3) := by decide +kernel
theorem d26 : decode yB 26 = .ok (.aload_n 2, 1) := by decide +kernel
theorem d27 : decode yB 27 = .ok (.iload_n 3, 1) := by decide +kernel
theorem d28 : decode yB 28 = .ok (.iload 6, 2) := by decide +kernel
theorem d30 : decode yB 30 = .ok (.i2b, 1) := by decide +kernel
theorem d31 : decode yB 31 = .ok (.bastore, 1) := by decide +kernel
theorem d32 : decode yB 32 = .ok (.iinc 1 1, 3) := by decide +kernel
theorem d35 : decode yB 35 = .ok (.iinc 3 1, 3) := by decide +kernel
theorem d38 : decode yB 38 = .ok (.iinc 5 1, 3) := by decide +kernel
theorem d41 : decode yB 41 = .ok (.goto (-38), 3) := by decide +kernel
theorem d44 : decode yB 44 = .ok (.iload 4, 2) := by decide +kernel
theorem d46 : decode yB 46 = .ok (.ireturn, 1) := by decide +kernel
def site : List Cond := []
def tab : Cond := tabOf yN yB 7 (some .int) site
def P (b : Addr) (A : Cell) (d : Addr) (B : Cell) (o q len : Nat) (args : Array Value) (s : State) : Prop := args = #[.ref b, .int (Int32.ofNat o), .ref d, .int (Int32.ofNat q), .int (Int32.ofNat len)] ∧ Ch b A s ∧ Arr .byte d B s ∧ b ≠ d ∧ o + len ≤ A.slots.size ∧ q + len ≤ B.slots.size ∧ ∀ i, i < len → ¬ 255 < cv A (o + i)
def E (b : Addr) (A : Cell) (d : Addr) (B : Cell) (o q len : Nat) (r : Option Value) (s u : State) : Prop := r = some (.int (Int32.ofNat len)) ∧ ∃ B', Put d B' s u ∧ Laid B B' q (q + len) (fun j => Value.int (lo8 (cv A (o + (j - q)))))
/-- no char of the range above 255: len; the places written hold each char's low byte -/
theorem law (l : Launch) (b : Addr) (A : Cell) (d : Addr) (B : Cell) (o q len : Nat) : Law l yN 5 5 0 0 yB 7 (some .int) site (P b A d B o q len) (E b A d B o q len) (copyLocs d q len) 0 0 := by
  refine Law.of_walk (plainFor_of_name (by decide +kernel)) (by decide +kernel) (by decide +kernel) (by decide) (fun _ _ h => by rw [h.1]; rfl) (fun _ U U' hal hh h => ⟨h.1, h.2.1.mv hal hh, h.2.2.1.mv hal hh, h.2.2.2⟩) (fun r U U' V V' h1 hal h2 h => ⟨h.1, h.2.elim fun B' q => ⟨B', q.1.mv h1 h2, q.2⟩⟩) ?_
  intro p e s m args below meth c s₁ X0 hexec hbytes hml hret hlk hnm hown hh0 W hP
  obtain ⟨rfl, hA, hB, hne, l1, l2, hp⟩ := hP
  have c1 : Steps p.tables e below (s₁.setTop (entryFrame m #[.ref b, .int (Int32.ofNat o), .ref d, .int (Int32.ofNat q), .int (Int32.ofNat len)] 7)) (s₁.setTop (mkF m 0 #[.val (.ref b), .val (.int (Int32.ofNat o)), .val (.ref d), .val (.int (Int32.ofNat q)), .val (.int (Int32.ofNat len)), .unset, .unset] [])) := entry rfl
  have hA0 := hA.1.mv X0.warmed.alike hh0
  have hB0 := hB.mv X0.warmed.alike hh0
  have a31 := hA.1.2.2.2
  have c2 : Steps p.tables e below (s₁.setTop (entryFrame m #[.ref b, .int (Int32.ofNat o), .ref d, .int (Int32.ofNat q), .int (Int32.ofNat len)] 7)) (s₁.setTop (mkF m 3 #[.val (.ref b), .val (.int (Int32.ofNat o)), .val (.ref d), .val (.int (Int32.ofNat q)), .val (.int (Int32.ofNat len)), .val (.int 0), .unset] [])) := c1.trans (by
    refine iconstV X0.here hexec rfl 0 (hb hbytes d0) (by decide) ?_
    refine XS.istore X0.here hexec rfl (hb hbytes d1) rfl rfl ?_
    exact Steps.refl _)
  have loop : ∀ (r i : Nat), i + r = len → ∀ (z : Slot), (z = .unset ∨ ∃ w, z = .val w ∧ w.category = 1) → ∀ (Tl : State) (Bk : Cell), Stand p l e { frames := 0, locals := 0, cells := 0, slots := 0 } s m #[.ref b, .int (Int32.ofNat o), .ref d, .int (Int32.ofNat q), .int (Int32.ofNat len)] below meth c Tl ([] ++ copyLocs d q i) 0 0 → Put d Bk s₁ Tl → Laid B Bk q (q + i) (fun j => Value.int (lo8 (cv A (o + (j - q))))) →
      Steps p.tables e below (s₁.setTop (entryFrame m #[.ref b, .int (Int32.ofNat o), .ref d, .int (Int32.ofNat q), .int (Int32.ofNat len)] 7)) (Tl.setTop (mkF m 3 #[.val (.ref b), .val (.int (Int32.ofNat (o + i))), .val (.ref d), .val (.int (Int32.ofNat (q + i))), .val (.int (Int32.ofNat len)), .val (.int (Int32.ofNat i)), z] [])) → ∃ (T' : State) (B' : Cell) (z' : Slot), Stand p l e { frames := 0, locals := 0, cells := 0, slots := 0 } s m #[.ref b, .int (Int32.ofNat o), .ref d, .int (Int32.ofNat q), .int (Int32.ofNat len)] below meth c T' ([] ++ copyLocs d q len) 0 0 ∧ Put d B' s₁ T' ∧ Laid B B' q (q + len) (fun j => Value.int (lo8 (cv A (o + (j - q))))) ∧
      Steps p.tables e below (s₁.setTop (entryFrame m #[.ref b, .int (Int32.ofNat o), .ref d, .int (Int32.ofNat q), .int (Int32.ofNat len)] 7)) (T'.setTop (mkF m 3 #[.val (.ref b), .val (.int (Int32.ofNat (o + len))), .val (.ref d), .val (.int (Int32.ofNat (q + len))), .val (.int (Int32.ofNat len)), .val (.int (Int32.ofNat len)), z'] [])) := by
    intro r
    induction r with
    | zero =>
      intro i hi z hz Tl Bk Xl pl fl cl
      have hil : i = len := by omega
      rw [hil] at Xl fl cl
      exact ⟨Tl, Bk, z, Xl, pl, fl, cl⟩
    | succ r ih =>
      intro i hi z hz Tl Bk Xl pl fl cl
      have all := X0.warmed.alike.symm.trans Xl.warmed.alike
      have hAl := hA0.keep all (pl.other hne hA0.1)
      have hBk := hB0.like all pl.1 fl.1 fl.2.1 fl.2.2.1
      have hlt : q + i < Bk.slots.size := by rw [fl.2.2.1]; omega
      have c3 : Steps p.tables e below (s₁.setTop (entryFrame m #[.ref b, .int (Int32.ofNat o), .ref d, .int (Int32.ofNat q), .int (Int32.ofNat len)] 7)) (Tl.setTop (mkF m 12 #[.val (.ref b), .val (.int (Int32.ofNat (o + i))), .val (.ref d), .val (.int (Int32.ofNat (q + i))), .val (.int (Int32.ofNat len)), .val (.int (Int32.ofNat i)), z] [.int (Int32.ofNat (o + i)), .ref b])) := cl.trans (by
        refine XS.iload Xl.here hexec rfl (hb hbytes d3) rfl ?_
        refine XS.iload Xl.here hexec rfl (hb hbytes d5) rfl ?_
        refine XS.icmpNo Xl.here hexec rfl (hb hbytes d7) rfl (ii_ge_f (lt32 (by omega) (by omega))) ?_
        refine XS.aloadN Xl.here hexec rfl (hb hbytes d10) rfl rfl ?_
        refine XS.iloadN Xl.here hexec rfl (hb hbytes d11) rfl ?_
        exact Steps.refl _)
      have c4 : Steps p.tables e below (s₁.setTop (entryFrame m #[.ref b, .int (Int32.ofNat o), .ref d, .int (Int32.ofNat q), .int (Int32.ofNat len)] 7)) (Tl.setTop (mkF m 13 #[.val (.ref b), .val (.int (Int32.ofNat (o + i))), .val (.ref d), .val (.int (Int32.ofNat (q + i))), .val (.int (Int32.ofNat len)), .val (.int (Int32.ofNat i)), z] [.int (cv A (o + i))])) := c3.trans (by
        refine Xl.aget hexec hAl rfl (hA.get (i := o + i) (by omega)) rfl rfl (hb hbytes d12) ?_
        exact Steps.refl _)
      have c5 : Steps p.tables e below (s₁.setTop (entryFrame m #[.ref b, .int (Int32.ofNat o), .ref d, .int (Int32.ofNat q), .int (Int32.ofNat len)] 7)) (Tl.setTop (mkF m 15 #[.val (.ref b), .val (.int (Int32.ofNat (o + i))), .val (.ref d), .val (.int (Int32.ofNat (q + i))), .val (.int (Int32.ofNat len)), .val (.int (Int32.ofNat i)), .val (.int (cv A (o + i)))] [])) := c4.trans (by
        refine XS.istoreS Xl.here hexec rfl (hb hbytes d13) rfl rfl hz ?_
        exact Steps.refl _)
      have c6 : Steps p.tables e below (s₁.setTop (entryFrame m #[.ref b, .int (Int32.ofNat o), .ref d, .int (Int32.ofNat q), .int (Int32.ofNat len)] 7)) (Tl.setTop (mkF m 31 #[.val (.ref b), .val (.int (Int32.ofNat (o + i))), .val (.ref d), .val (.int (Int32.ofNat (q + i))), .val (.int (Int32.ofNat len)), .val (.int (Int32.ofNat i)), .val (.int (cv A (o + i)))] [.int (lo8 (cv A (o + i))), .int (Int32.ofNat (q + i)), .ref d])) := c5.trans (by
        refine XS.iload Xl.here hexec rfl (hb hbytes d15) rfl ?_
        refine sipushV Xl.here hexec rfl 255 (hb hbytes d17) (by decide) ?_
        refine XS.icmpYes Xl.here hexec rfl (pc0 := 20) rfl (hb hbytes d20) rfl (ii_le_t (hp i (by omega))) (by decide) rfl ?_
        refine XS.aloadN Xl.here hexec rfl (hb hbytes d26) rfl rfl ?_
        refine XS.iloadN Xl.here hexec rfl (hb hbytes d27) rfl ?_
        refine XS.iload Xl.here hexec rfl (hb hbytes d28) rfl ?_
        refine i2b Xl.here hexec rfl (hb hbytes d30) rfl ?_
        exact Steps.refl _)
      obtain ⟨T7, X7, p7, st7⟩ := Xl.aput hexec hBk rfl hlt rfl (fits_lo8 (cv A (o + i))) (g := (mkF m 31 #[.val (.ref b), .val (.int (Int32.ofNat (o + i))), .val (.ref d), .val (.int (Int32.ofNat (q + i))), .val (.int (Int32.ofNat len)), .val (.int (Int32.ofNat i)), .val (.int (cv A (o + i)))] [.int (lo8 (cv A (o + i))), .int (Int32.ofNat (q + i)), .ref d])) rfl (rest := []) rfl (hb hbytes d31)
      have c8 : Steps p.tables e below (s₁.setTop (entryFrame m #[.ref b, .int (Int32.ofNat o), .ref d, .int (Int32.ofNat q), .int (Int32.ofNat len)] 7)) (T7.setTop (mkF m 32 #[.val (.ref b), .val (.int (Int32.ofNat (o + i))), .val (.ref d), .val (.int (Int32.ofNat (q + i))), .val (.int (Int32.ofNat len)), .val (.int (Int32.ofNat i)), .val (.int (cv A (o + i)))] [])) := c6.trans (st7 _ (Steps.refl _))
      have c9 : Steps p.tables e below (s₁.setTop (entryFrame m #[.ref b, .int (Int32.ofNat o), .ref d, .int (Int32.ofNat q), .int (Int32.ofNat len)] 7)) (T7.setTop (mkF m 3 #[.val (.ref b), .val (.int (Int32.ofNat (o + i) + 1)), .val (.ref d), .val (.int (Int32.ofNat (q + i) + 1)), .val (.int (Int32.ofNat len)), .val (.int (Int32.ofNat i + 1)), .val (.int (cv A (o + i)))] [])) := c8.trans (by
        refine iincV X7.here hexec rfl 1 (hb hbytes d32) (by decide) rfl rfl ?_
        refine iincV X7.here hexec rfl 1 (hb hbytes d35) (by decide) rfl rfl ?_
        refine iincV X7.here hexec rfl 1 (hb hbytes d38) (by decide) rfl rfl ?_
        refine XS.goto X7.here hexec rfl (pc0 := 41) rfl (hb hbytes d41) (by decide) rfl ?_
        exact Steps.refl _)
      have c10 : Steps p.tables e below (s₁.setTop (entryFrame m #[.ref b, .int (Int32.ofNat o), .ref d, .int (Int32.ofNat q), .int (Int32.ofNat len)] 7)) (T7.setTop (mkF m 3 #[.val (.ref b), .val (.int (Int32.ofNat (o + (i + 1)))), .val (.ref d), .val (.int (Int32.ofNat (q + (i + 1)))), .val (.int (Int32.ofNat len)), .val (.int (Int32.ofNat (i + 1))), .val (.int (cv A (o + i)))] [])) := by
        have := c9
        rw [succ32, succ32, succ32] at this
        exact this
      exact ih (i + 1) (by omega) _ (Or.inr ⟨_, rfl, rfl⟩) T7 _ (by rw [copyLocs_step, ← List.append_assoc]; exact X7) (pl.trans p7) (fl.step (by omega) hlt (by simp)) c10
  obtain ⟨T9, B9, z9, X9, p9, f9, g9⟩ := loop len 0 (by omega) .unset (Or.inl rfl) s₁ B (by simpa [copyLocs] using X0) ⟨hB0.1, fun _ _ => rfl, rfl⟩ (Laid.zero _ _ _) c2
  have c11 : Steps p.tables e below (s₁.setTop (entryFrame m #[.ref b, .int (Int32.ofNat o), .ref d, .int (Int32.ofNat q), .int (Int32.ofNat len)] 7)) (T9.setTop (mkF m 46 #[.val (.ref b), .val (.int (Int32.ofNat (o + len))), .val (.ref d), .val (.int (Int32.ofNat (q + len))), .val (.int (Int32.ofNat len)), .val (.int (Int32.ofNat len)), z9] [.int (Int32.ofNat len)])) := g9.trans (by
    refine XS.iload X9.here hexec rfl (hb hbytes d3) rfl ?_
    refine XS.iload X9.here hexec rfl (hb hbytes d5) rfl ?_
    refine XS.icmpYes X9.here hexec rfl (pc0 := 7) rfl (hb hbytes d7) rfl (ii_ge_t (nlt32 (by omega) (Nat.le_refl _))) (by decide) rfl ?_
    refine XS.iload X9.here hexec rfl (hb hbytes d44) rfl ?_
    exact Steps.refl _)
  exact ⟨T9, some (.int (Int32.ofNat len)), _, _, _, X9, by simp, rfl, rfl, (fun h => by cases h), ⟨rfl, B9, p9.from hh0, f9⟩, fun fs hl => c11.trans (X9.ireturnOut hexec hret rfl (Or.inl rfl) (hb hbytes d46) hl)⟩
end Cmp5
namespace Cmp3
def yN : MethodName := ⟨"java/lang/StringUTF16", "compress", "([CII)[B"⟩
abbrev yB : ByteArray := jdk_52_method_16_code
theorem d0 : decode yB 0 = .ok (.iload_n 2, 1) := by decide +kernel
theorem d1 : decode yB 1 = .ok (.newarray .byte, 2) := by decide +kernel
theorem d3 : decode yB 3 = .ok (.astore_n 3, 1) := by decide +kernel
theorem d4 : decode yB 4 = .ok (.aload_n 0, 1) := by decide +kernel
theorem d5 : decode yB 5 = .ok (.iload_n 1, 1) := by decide +kernel
theorem d6 : decode yB 6 = .ok (.aload_n 3, 1) := by decide +kernel
theorem d7 : decode yB 7 = .ok (.iconst 0, 1) := by decide +kernel
theorem d8 : decode yB 8 = .ok (.iload_n 2, 1) := by decide +kernel
theorem d9 : decode yB 9 = .ok (.invokestatic 115, 3) := by decide +kernel
theorem d12 : decode yB 12 = .ok (.istore 4, 2) := by decide +kernel
theorem d14 : decode yB 14 = .ok (.iload 4, 2) := by decide +kernel
theorem d16 : decode yB 16 = .ok (.iload_n 2, 1) := by decide +kernel
theorem d17 : decode yB 17 = .ok (.if_icmp (.eq) 40, 3) := by decide +kernel
theorem d57 : decode yB 57 = .ok (.aload_n 3, 1) := by decide +kernel
theorem d58 : decode yB 58 = .ok (.areturn, 1) := by decide +kernel
def site : List Cond := [.arrayClass .byte, Cmp5.tab] ++ staticW U16 115 Cmp5.yN
def tab : Cond := tabOf yN yB 6 (some (.array .byte)) site
def P (b : Addr) (A : Cell) (o len : Nat) (args : Array Value) (s : State) : Prop := args = #[.ref b, .int (Int32.ofNat o), .int (Int32.ofNat len)] ∧ Ch b A s ∧ o + len ≤ A.slots.size ∧ len ≤ 536870912 ∧ ∀ i, i < len → ¬ 255 < cv A (o + i)
def E (b : Addr) (A : Cell) (o len : Nat) (r : Option Value) (s u : State) : Prop := NewArr .byte "[B" len (fun j => .int (lo8 (cv A (o + j)))) r s u ∧ u.heap.size = s.heap.size + 1
/-- no char of the range above 255: a new byte[] of their low bytes -/
theorem law (l : Launch) (b : Addr) (A : Cell) (o len : Nat) : Law l yN 3 3 1 18 yB 6 (some (.array .byte)) site (P b A o len) (E b A o len) [] 1 len := by
  refine Law.of_walk (plainFor_of_name (by decide +kernel)) (by decide +kernel) (by decide +kernel) (by decide) (fun _ _ h => by rw [h.1]; rfl) (fun _ U U' hal hh h => ⟨h.1, h.2.1.mv hal hh, h.2.2⟩) (fun r U U' V V' h1 hal h2 h => ⟨NewArr.mv r U U' V V' h1 hal h2 h.1, by rw [h1, h2]; exact h.2⟩) ?_
  intro p e s m args below meth c s₁ X0 hexec hbytes hml hret hlk hnm hown hh0 W hP
  obtain ⟨rfl, hA, l1, l2, hp⟩ := hP
  have a31 := hA.1.2.2.2
  have c1 : Steps p.tables e below (s₁.setTop (entryFrame m #[.ref b, .int (Int32.ofNat o), .int (Int32.ofNat len)] 6)) (s₁.setTop (mkF m 0 #[.val (.ref b), .val (.int (Int32.ofNat o)), .val (.int (Int32.ofNat len)), .unset, .unset, .unset] [])) := entry rfl
  have c2 : Steps p.tables e below (s₁.setTop (entryFrame m #[.ref b, .int (Int32.ofNat o), .int (Int32.ofNat len)] 6)) (s₁.setTop (mkF m 1 #[.val (.ref b), .val (.int (Int32.ofNat o)), .val (.int (Int32.ofNat len)), .unset, .unset, .unset] [.int (Int32.ofNat len)])) := c1.trans (by
    refine XS.iloadN X0.here hexec rfl (hb hbytes d0) rfl ?_
    exact Steps.refl _)
  obtain ⟨T3, B3, X3, ba3, bs3, bv3, bh3, bf3, st3⟩ := X0.anew hexec (atype := .byte) (wk W (.arrayClass .byte)) rfl (by show len * 1 ≤ _; omega) (by omega) (g := (mkF m 1 #[.val (.ref b), .val (.int (Int32.ofNat o)), .val (.int (Int32.ofNat len)), .unset, .unset, .unset] [.int (Int32.ofNat len)])) rfl (hb hbytes d1) (rest := []) rfl (Nat.le_refl _) (by show 0 + len ≤ len; omega)
  rw [hh0] at ba3 st3
  have kp3 : XT.Kept s T3 := (XT.Kept.of_eq hh0).push bh3
  have hA3 := hA.keep X3.warmed.alike (kp3 _ _ hA.1.1)
  have hne : b ≠ s.heap.size := hA.1.ne
  have c4 : Steps p.tables e below (s₁.setTop (entryFrame m #[.ref b, .int (Int32.ofNat o), .int (Int32.ofNat len)] 6)) (T3.setTop (mkF m 3 #[.val (.ref b), .val (.int (Int32.ofNat o)), .val (.int (Int32.ofNat len)), .unset, .unset, .unset] [.ref s.heap.size])) := c2.trans (st3 _ (Steps.refl _))
  have c5 : Steps p.tables e below (s₁.setTop (entryFrame m #[.ref b, .int (Int32.ofNat o), .int (Int32.ofNat len)] 6)) (T3.setTop (mkF m 9 #[.val (.ref b), .val (.int (Int32.ofNat o)), .val (.int (Int32.ofNat len)), .val (.ref s.heap.size), .unset, .unset] [.int (Int32.ofNat len), .int 0, .ref s.heap.size, .int (Int32.ofNat o), .ref b])) := c4.trans (by
    refine XS.astoreN X3.here hexec rfl (hb hbytes d3) rfl rfl rfl ?_
    refine XS.aloadN X3.here hexec rfl (hb hbytes d4) rfl rfl ?_
    refine XS.iloadN X3.here hexec rfl (hb hbytes d5) rfl ?_
    refine XS.aloadN X3.here hexec rfl (hb hbytes d6) rfl rfl ?_
    refine iconstV X3.here hexec rfl 0 (hb hbytes d7) (by decide) ?_
    refine XS.iloadN X3.here hexec rfl (hb hbytes d8) rfl ?_
    exact Steps.refl _)
  obtain ⟨v6, T6, X6, E6, g6⟩ := X3.callS hexec (Cmp5.law l b A s.heap.size B3 o 0 len) hown (wks W (staticW U16 115 Cmp5.yN)) (wk W Cmp5.tab) (W := 0) (Nat.le_of_ble_eq_true rfl) (Nat.le_of_ble_eq_true rfl) (Nat.le_refl _) (by show 0 + len + 0 ≤ len; omega) (g := (mkF m 9 #[.val (.ref b), .val (.int (Int32.ofNat o)), .val (.int (Int32.ofNat len)), .val (.ref s.heap.size), .unset, .unset] [.int (Int32.ofNat len), .int (Int32.ofNat 0), .ref s.heap.size, .int (Int32.ofNat o), .ref b])) rfl (by rw [hml]; rfl) c5 (argsL := [.ref b, .int (Int32.ofNat o), .ref s.heap.size, .int (Int32.ofNat 0), .int (Int32.ofNat len)]) (rest := []) rfl rfl (by show 2 * 0 + 0 ≤ _; decide) (hb hbytes d9) (⟨rfl, hA3, ba3, hne, l1, by rw [bs3]; simp, hp⟩)
  obtain ⟨rfl, B6, p6, f6⟩ := E6
  have c7 : Steps p.tables e below (s₁.setTop (entryFrame m #[.ref b, .int (Int32.ofNat o), .int (Int32.ofNat len)] 6)) (T6.setTop (mkF m 12 #[.val (.ref b), .val (.int (Int32.ofNat o)), .val (.int (Int32.ofNat len)), .val (.ref s.heap.size), .unset, .unset] [.int (Int32.ofNat len)])) := g6
  have c8 : Steps p.tables e below (s₁.setTop (entryFrame m #[.ref b, .int (Int32.ofNat o), .int (Int32.ofNat len)] 6)) (T6.setTop (mkF m 58 #[.val (.ref b), .val (.int (Int32.ofNat o)), .val (.int (Int32.ofNat len)), .val (.ref s.heap.size), .val (.int (Int32.ofNat len)), .unset] [.ref s.heap.size])) := c7.trans (by
    refine XS.istore X6.here hexec rfl (hb hbytes d12) rfl rfl ?_
    refine XS.iload X6.here hexec rfl (hb hbytes d14) rfl ?_
    refine XS.iloadN X6.here hexec rfl (hb hbytes d16) rfl ?_
    refine XS.icmpYes X6.here hexec rfl (pc0 := 17) rfl (hb hbytes d17) rfl (ii_eq_t rfl) (by decide) rfl ?_
    refine XS.aloadN X6.here hexec rfl (hb hbytes d57) rfl rfl ?_
    exact Steps.refl _)
  have X8 := X6.wide (L' := []) (cells' := 1) (slots' := len) (fun x hx hlt => by
    simp only [List.nil_append, copyLocs, List.mem_map, List.mem_range] at hx
    obtain ⟨i, -, rfl⟩ := hx
    exact absurd hlt (Nat.lt_irrefl _)) (Nat.le_refl _) (by omega)
  exact ⟨T6, some (.ref s.heap.size), _, _, _, X8, rfl, rfl, rfl, (fun h => by cases h), ⟨⟨rfl, B6, ba3.like (X3.warmed.alike.symm.trans X6.warmed.alike) p6.1 f6.1 f6.2.1 f6.2.2.1, f6.2.1.trans bv3, by rw [X6.warmed.alike.findClass, f6.1]; exact bf3, by rw [f6.2.2.1, bs3]; simp, fun j hj => by rw [f6.2.2.2 j, if_pos (by omega)]; rfl, kp3.put p6 (Nat.le_refl _)⟩, by rw [p6.2.2, bh3, hh0]; simp⟩, fun fs hl => c8.trans (X8.areturnOut hexec rfl hret rfl (hb hbytes d58) hl)⟩
end Cmp3
namespace CodL
def yN : MethodName := ⟨"java/lang/StringUTF16", "coderFromArrayLen", "([BI)B"⟩
abbrev yB : ByteArray := jdk_52_method_15_code
theorem d0 : decode yB 0 = .ok (.iload_n 1, 1) := by decide +kernel
theorem d1 : decode yB 1 = .ok (.aload_n 0, 1) := by decide +kernel
theorem d2 : decode yB 2 = .ok (.arraylength, 1) := by decide +kernel
theorem d3 : decode yB 3 = .ok (.isub, 1) := by decide +kernel
theorem d4 : decode yB 4 = .ok (.bipush 31, 2) := by decide +kernel
theorem d6 : decode yB 6 = .ok (.iushr, 1) := by decide +kernel
theorem d7 : decode yB 7 = .ok (.i2b, 1) := by decide +kernel
theorem d8 : decode yB 8 = .ok (.ireturn, 1) := by decide +kernel
def site : List Cond := []
def tab : Cond := tabOf yN yB 2 (some .byte) site
def P (d : Addr) (B : Cell) (args : Array Value) (s : State) : Prop := args = #[.ref d, .int (Int32.ofNat B.slots.size)] ∧ Arr .byte d B s
def E (r : Option Value) (s u : State) : Prop := XT.PureE (some (.int 0)) r s u
/-- an array as long as the number of chars: LATIN1 -/
theorem law (l : Launch) (d : Addr) (B : Cell) : Law l yN 2 2 0 0 yB 2 (some .byte) site (P d B) E [] 0 0 := by
  refine Law.of_walk (plainFor_of_name (by decide +kernel)) (by decide +kernel) (by decide +kernel) (by decide) (fun _ _ h => by rw [h.1]; rfl) (fun _ U U' hal hh h => ⟨h.1, h.2.mv hal hh⟩) (fun r U U' V V' h1 hal h2 h => XT.PureE.mv r U U' V V' h1 hal h2 h) ?_
  intro p e s m args below meth c s₁ X0 hexec hbytes hml hret hlk hnm hown hh0 W hP
  obtain ⟨rfl, hB⟩ := hP
  have hB0 := hB.mv X0.warmed.alike hh0
  have c1 : Steps p.tables e below (s₁.setTop (entryFrame m #[.ref d, .int (Int32.ofNat B.slots.size)] 2)) (s₁.setTop (mkF m 0 #[.val (.ref d), .val (.int (Int32.ofNat B.slots.size))] [])) := entry rfl
  have c2 : Steps p.tables e below (s₁.setTop (entryFrame m #[.ref d, .int (Int32.ofNat B.slots.size)] 2)) (s₁.setTop (mkF m 2 #[.val (.ref d), .val (.int (Int32.ofNat B.slots.size))] [.ref d, .int (Int32.ofNat B.slots.size)])) := c1.trans (by
    refine XS.iloadN X0.here hexec rfl (hb hbytes d0) rfl ?_
    refine XS.aloadN X0.here hexec rfl (hb hbytes d1) rfl rfl ?_
    exact Steps.refl _)
  have c3 : Steps p.tables e below (s₁.setTop (entryFrame m #[.ref d, .int (Int32.ofNat B.slots.size)] 2)) (s₁.setTop (mkF m 8 #[.val (.ref d), .val (.int (Int32.ofNat B.slots.size))] [.int (lo8 (ushr (Int32.ofNat B.slots.size - Int32.ofNat B.slots.size) 31))])) := c2.trans (by
    refine X0.alen hexec hB0 rfl rfl (hb hbytes d2) ?_
    refine XS.isub X0.here hexec rfl (hb hbytes d3) rfl ?_
    refine bipushV X0.here hexec rfl 31 (hb hbytes d4) (by decide) ?_
    refine iushr X0.here hexec rfl (hb hbytes d6) rfl ?_
    refine i2b X0.here hexec rfl (hb hbytes d7) rfl ?_
    exact Steps.refl _)
  have e0 : lo8 (ushr (Int32.ofNat B.slots.size - Int32.ofNat B.slots.size) 31) = 0 := by rw [Int32.sub_self]; decide
  rw [e0] at c3
  exact ⟨s₁, some (.int 0), _, _, _, X0, rfl, rfl, rfl, (fun h => by cases h), ⟨rfl, hh0⟩, fun fs hl => c3.trans (X0.ireturnOut hexec hret rfl (Or.inr (Or.inr (Or.inl rfl))) (hb hbytes d8) hl)⟩
end CodL
/-- the String at a is Latin-1 over a new byte[] (the heap's one new cell): the low bytes of the len chars of A from o on; every cell but a is kept -/
def Got (a : Addr) (D : Cell) (fV fC : Field) (A : Cell) (o len : Nat) (r : Option Value) (s u : State) : Prop := r = none ∧ ∃ D' V : Cell, Blank "java/lang/String" a D' u ∧ Same D D' [fV.slot, fC.slot] ∧ D'.slots[fV.slot]? = some (.ref s.heap.size) ∧ D'.slots[fC.slot]? = some (.int 0) ∧ Arr .byte s.heap.size V u ∧ V.vm = .none ∧ u.vm.findClass "[B" = some V.cls ∧ V.slots.size = len ∧ (∀ j, j < len → V.slots[j]? = some (.int (lo8 (cv A (o + j))))) ∧ (∀ (y : Addr) (c : Cell), y ≠ a → s.heap[y]? = some c → u.heap[y]? = some c) ∧ u.heap.size = s.heap.size + 1
theorem Got.mv {a : Addr} {D A : Cell} {fV fC : Field} {o len : Nat} : ∀ r (U U' V V' : State), U'.heap = U.heap → V.vm.Alike V'.vm → V'.heap = V.heap → Got a D fV fC A o len r U V → Got a D fV fC A o len r U' V' :=
  fun r U U' V V' h1 hal h2 ⟨e0, D', X, a1, a2, a3, a4, a5, a6, a7, a8, a9, a10, a11⟩ => ⟨e0, D', X, a1.mv hal h2, a2, by rw [h1]; exact a3, a4, by rw [h1]; exact a5.mv hal h2, a6, by rw [hal.findClass]; exact a7, a8, a9, by rw [h1, h2]; exact a10, by rw [h1, h2]; exact a11⟩
namespace New4
def yN : MethodName := ⟨"java/lang/String", "<init>", "([CIILjava/lang/Void;)V"⟩
abbrev yB : ByteArray := jdk_42_method_149_code
theorem d0 : decode yB 0 = .ok (.aload_n 0, 1) := by decide +kernel
theorem d1 : decode yB 1 = .ok (.invokespecial 1, 3) := by decide +kernel
theorem d4 : decode yB 4 = .ok (.iload_n 3, 1) := by decide +kernel
theorem d5 : decode yB 5 = .ok (.ifCond (.ne) 22, 3) := by decide +kernel
theorem d27 : decode yB 27 = .ok (.getstatic 38, 3) := by decide +kernel
theorem d30 : decode yB 30 = .ok (.ifCond (.eq) 28, 3) := by decide +kernel
theorem d33 : decode yB 33 = .ok (.aload_n 1, 1) := by decide +kernel
theorem d34 : decode yB 34 = .ok (.iload_n 2, 1) := by decide +kernel
theorem d35 : decode yB 35 = .ok (.iload_n 3, 1) := by decide +kernel
theorem d36 : decode yB 36 = .ok (.invokestatic 177, 3) := by decide +kernel
theorem d39 : decode yB 39 = .ok (.astore 5, 2) := by decide +kernel
theorem d41 : decode yB 41 = .ok (.aload_n 0, 1) := by decide +kernel
theorem d42 : decode yB 42 = .ok (.aload 5, 2) := by decide +kernel
theorem d44 : decode yB 44 = .ok (.iload_n 3, 1) := by decide +kernel
theorem d45 : decode yB 45 = .ok (.invokestatic 47, 3) := by decide +kernel
theorem d48 : decode yB 48 = .ok (.putfield 15, 3) := by decide +kernel
theorem d51 : decode yB 51 = .ok (.aload_n 0, 1) := by decide +kernel
theorem d52 : decode yB 52 = .ok (.aload 5, 2) := by decide +kernel
theorem d54 : decode yB 54 = .ok (.putfield 9, 3) := by decide +kernel
theorem d57 : decode yB 57 = .ok (.return_, 1) := by decide +kernel
def site : List Cond := [.fieldLink "java/lang/String" 38 "java/lang/String" "COMPACT_STRINGS" "Z", Cmp3.tab, CodL.tab, .laysFinal "java/lang/String" "java/lang/String" "value" "[B", .fieldLink "java/lang/String" 9 "java/lang/String" "value" "[B", .laysFinal "java/lang/String" "java/lang/String" "coder" "B", .fieldLink "java/lang/String" 15 "java/lang/String" "coder" "B"] ++ objW "java/lang/String" 1 ++ staticW "java/lang/String" 177 Cmp3.yN ++ staticW "java/lang/String" 47 CodL.yN
def tab : Cond := tabOf yN yB 6 none site
def P (a : Addr) (D : Cell) (fV fC : Field) (b : Addr) (A : Cell) (z : Int32) (o len : Nat) (args : Array Value) (s : State) : Prop := args = #[.ref a, .ref b, .int (Int32.ofNat o), .int (Int32.ofNat len), .null] ∧ Blank "java/lang/String" a D s ∧ Found "java/lang/String" "value" "[B" fV s ∧ Found "java/lang/String" "coder" "B" fC s ∧ Ch b A s ∧ StaticIs s "java/lang/String" "COMPACT_STRINGS" "Z" (.int z) ∧ ¬ z = 0 ∧ 0 < len ∧ o + len ≤ A.slots.size ∧ len ≤ 536870912 ∧ ∀ i, i < len → ¬ 255 < cv A (o + i)
def E (a : Addr) (D : Cell) (fV fC : Field) (A : Cell) (o len : Nat) (r : Option Value) (s u : State) : Prop := Got a D fV fC A o len r s u
/-- len > 0, no char of the range above 255: a Latin-1 String of their low bytes -/
theorem law (l : Launch) (a : Addr) (D : Cell) (fV fC : Field) (b : Addr) (A : Cell) (z : Int32) (o len : Nat) : Law l yN 5 4 2 35 yB 6 none site (P a D fV fC b A z o len) (E a D fV fC A o len) [⟨a, fC.slot⟩, ⟨a, fV.slot⟩] 1 len := by
  refine Law.of_walk (plainFor_of_name (by decide +kernel)) (by decide +kernel) (by decide +kernel) (by decide) (fun _ _ h => by rw [h.1]; rfl) (fun _ U U' hal hh h => ⟨h.1, h.2.1.mv hal hh, h.2.2.1.al hal, h.2.2.2.1.al hal, h.2.2.2.2.1.mv hal hh, h.2.2.2.2.2.1.there hal hh, h.2.2.2.2.2.2⟩) (fun r U U' V V' h1 hal h2 h => Got.mv r U U' V V' h1 hal h2 h) ?_
  intro p e s m args below meth c s₁ X0 hexec hbytes hml hret hlk hnm hown hh0 W hP
  obtain ⟨rfl, hB, f1, f2, hA, s1, hz, l0, l1, l2, hp⟩ := hP
  have a31 := hA.1.2.2.2
  have c1 : Steps p.tables e below (s₁.setTop (entryFrame m #[.ref a, .ref b, .int (Int32.ofNat o), .int (Int32.ofNat len), .null] 6)) (s₁.setTop (mkF m 0 #[.val (.ref a), .val (.ref b), .val (.int (Int32.ofNat o)), .val (.int (Int32.ofNat len)), .val .null, .unset] [])) := entry rfl
  have c2 : Steps p.tables e below (s₁.setTop (entryFrame m #[.ref a, .ref b, .int (Int32.ofNat o), .int (Int32.ofNat len), .null] 6)) (s₁.setTop (mkF m 1 #[.val (.ref a), .val (.ref b), .val (.int (Int32.ofNat o)), .val (.int (Int32.ofNat len)), .val .null, .unset] [.ref a])) := c1.trans (by
    refine XS.aloadN X0.here hexec rfl (hb hbytes d0) rfl rfl ?_
    exact Steps.refl _)
  obtain ⟨T3, X3, q3, st3⟩ := X0.oinit hexec hown (wks W (objW "java/lang/String" 1)) (g := (mkF m 1 #[.val (.ref a), .val (.ref b), .val (.int (Int32.ofNat o)), .val (.int (Int32.ofNat len)), .val .null, .unset] [.ref a])) rfl (by rw [hml]; rfl) (rest := []) rfl (hb hbytes d1) (W := 0) (by show 2 * 0 + 0 ≤ _; decide) (Nat.le_of_ble_eq_true rfl) (Nat.le_of_ble_eq_true rfl)
  have hh3 := q3.trans hh0
  have c4 : Steps p.tables e below (s₁.setTop (entryFrame m #[.ref a, .ref b, .int (Int32.ofNat o), .int (Int32.ofNat len), .null] 6)) (T3.setTop (mkF m 27 #[.val (.ref a), .val (.ref b), .val (.int (Int32.ofNat o)), .val (.int (Int32.ofNat len)), .val .null, .unset] [])) := (c2.trans (st3 _ (Steps.refl _))).trans (by
    refine XS.iloadN X3.here hexec rfl (hb hbytes d4) rfl ?_
    refine XS.ifYes X3.here hexec rfl (pc0 := 5) rfl (hb hbytes d5) rfl (i0_ne_t (nz32 (by omega) l0)) (by decide) rfl ?_
    exact Steps.refl _)
  obtain ⟨T5, X5, q5, st5⟩ := X3.sget hexec hown (wk W (.fieldLink "java/lang/String" 38 "java/lang/String" "COMPACT_STRINGS" "Z")) s1 (fun _ _ h => by rw [hh3]; exact h) (g := (mkF m 27 #[.val (.ref a), .val (.ref b), .val (.int (Int32.ofNat o)), .val (.int (Int32.ofNat len)), .val .null, .unset] [])) rfl (hb hbytes d27)
  have hh5 := q5.trans hh3
  have c6 : Steps p.tables e below (s₁.setTop (entryFrame m #[.ref a, .ref b, .int (Int32.ofNat o), .int (Int32.ofNat len), .null] 6)) (T5.setTop (mkF m 30 #[.val (.ref a), .val (.ref b), .val (.int (Int32.ofNat o)), .val (.int (Int32.ofNat len)), .val .null, .unset] [.int z])) := c4.trans (st5 _ (Steps.refl _))
  have c7 : Steps p.tables e below (s₁.setTop (entryFrame m #[.ref a, .ref b, .int (Int32.ofNat o), .int (Int32.ofNat len), .null] 6)) (T5.setTop (mkF m 36 #[.val (.ref a), .val (.ref b), .val (.int (Int32.ofNat o)), .val (.int (Int32.ofNat len)), .val .null, .unset] [.int (Int32.ofNat len), .int (Int32.ofNat o), .ref b])) := c6.trans (by
    refine XS.ifNo X5.here hexec rfl (hb hbytes d30) rfl (i0_eq_f hz) ?_
    refine XS.aloadN X5.here hexec rfl (hb hbytes d33) rfl rfl ?_
    refine XS.iloadN X5.here hexec rfl (hb hbytes d34) rfl ?_
    refine XS.iloadN X5.here hexec rfl (hb hbytes d35) rfl ?_
    exact Steps.refl _)
  obtain ⟨v8, T8, X8, E8, g8⟩ := X5.callS hexec (Cmp3.law l b A o len) hown (wks W (staticW "java/lang/String" 177 Cmp3.yN)) (wk W Cmp3.tab) (W := 0) (Nat.le_of_ble_eq_true rfl) (Nat.le_of_ble_eq_true rfl) (Nat.le_refl _) (by show 0 + len ≤ len; omega) (g := (mkF m 36 #[.val (.ref a), .val (.ref b), .val (.int (Int32.ofNat o)), .val (.int (Int32.ofNat len)), .val .null, .unset] [.int (Int32.ofNat len), .int (Int32.ofNat o), .ref b])) rfl (by rw [hml]; rfl) c7 (argsL := [.ref b, .int (Int32.ofNat o), .int (Int32.ofNat len)]) (rest := []) rfl rfl (by show 2 * 0 + 0 ≤ _; decide) (hb hbytes d36) (⟨rfl, hA.mv X5.warmed.alike hh5, l1, l2, hp⟩)
  obtain ⟨e8, z8⟩ := E8
  obtain ⟨rfl, N, n1, n2, n3, n4, n5, n6⟩ := NewArr.mv _ T5 s _ _ hh5.symm (Vm.Alike.refl _) rfl e8
  rw [hh5] at z8
  have hB1 := hB.keep X8.warmed.alike (n6 _ _ hB.1)
  have hne : s.heap.size ≠ a := (Nat.ne_of_lt (Array.getElem?_eq_some_iff.mp hB.1).1).symm
  have c9 : Steps p.tables e below (s₁.setTop (entryFrame m #[.ref a, .ref b, .int (Int32.ofNat o), .int (Int32.ofNat len), .null] 6)) (T8.setTop (mkF m 39 #[.val (.ref a), .val (.ref b), .val (.int (Int32.ofNat o)), .val (.int (Int32.ofNat len)), .val .null, .unset] [.ref s.heap.size])) := g8
  have c10 : Steps p.tables e below (s₁.setTop (entryFrame m #[.ref a, .ref b, .int (Int32.ofNat o), .int (Int32.ofNat len), .null] 6)) (T8.setTop (mkF m 45 #[.val (.ref a), .val (.ref b), .val (.int (Int32.ofNat o)), .val (.int (Int32.ofNat len)), .val .null, .val (.ref s.heap.size)] [.int (Int32.ofNat N.slots.size), .ref s.heap.size, .ref a])) := by
    have hc : Steps p.tables e below (s₁.setTop (entryFrame m #[.ref a, .ref b, .int (Int32.ofNat o), .int (Int32.ofNat len), .null] 6)) (T8.setTop (mkF m 45 #[.val (.ref a), .val (.ref b), .val (.int (Int32.ofNat o)), .val (.int (Int32.ofNat len)), .val .null, .val (.ref s.heap.size)] [.int (Int32.ofNat len), .ref s.heap.size, .ref a])) := c9.trans (by
      refine XS.astore X8.here hexec rfl (hb hbytes d39) rfl rfl rfl ?_
      refine XS.aloadN X8.here hexec rfl (hb hbytes d41) rfl rfl ?_
      refine XS.aload X8.here hexec rfl (hb hbytes d42) rfl rfl ?_
      refine XS.iloadN X8.here hexec rfl (hb hbytes d44) rfl ?_
      exact Steps.refl _)
    rw [n4]; exact hc
  obtain ⟨v11, T11, X11, E11, g11⟩ := X8.callS hexec (CodL.law l s.heap.size N) hown (wks W (staticW "java/lang/String" 47 CodL.yN)) (wk W CodL.tab) (W := 1) (Nat.le_of_ble_eq_true rfl) (Nat.le_of_ble_eq_true rfl) (Nat.le_refl _) (by show 0 + len + 0 ≤ len; omega) (g := (mkF m 45 #[.val (.ref a), .val (.ref b), .val (.int (Int32.ofNat o)), .val (.int (Int32.ofNat len)), .val .null, .val (.ref s.heap.size)] [.int (Int32.ofNat N.slots.size), .ref s.heap.size, .ref a])) rfl (by rw [hml]; rfl) c10 (argsL := [.ref s.heap.size, .int (Int32.ofNat N.slots.size)]) (rest := [.ref a]) rfl rfl (by show 2 * 0 + (1 + 0) ≤ _; decide) (hb hbytes d45) (⟨rfl, n1⟩)
  obtain ⟨rfl, q11⟩ := E11
  have hB11 := hB1.mv (X8.warmed.alike.symm.trans X11.warmed.alike) q11
  have c12 : Steps p.tables e below (s₁.setTop (entryFrame m #[.ref a, .ref b, .int (Int32.ofNat o), .int (Int32.ofNat len), .null] 6)) (T11.setTop (mkF m 48 #[.val (.ref a), .val (.ref b), .val (.int (Int32.ofNat o)), .val (.int (Int32.ofNat len)), .val .null, .val (.ref s.heap.size)] [.int 0, .ref a])) := g11
  obtain ⟨T13, X13, p13, bl13, sl13, st13⟩ := X11.finit hexec hown (wk W (.fieldLink "java/lang/String" 15 "java/lang/String" "coder" "B")) (Or.inr ⟨_, (wk W (.laysFinal "java/lang/String" "java/lang/String" "coder" "B"))⟩) (Or.inl ⟨rfl, hnm⟩) f2 (Or.inl rfl) hB11 (t := .byte) (by decide +kernel) rfl (g := (mkF m 48 #[.val (.ref a), .val (.ref b), .val (.int (Int32.ofNat o)), .val (.int (Int32.ofNat len)), .val .null, .val (.ref s.heap.size)] [.int 0, .ref a])) rfl (rest := []) rfl (hb hbytes d48)
  have c14 : Steps p.tables e below (s₁.setTop (entryFrame m #[.ref a, .ref b, .int (Int32.ofNat o), .int (Int32.ofNat len), .null] 6)) (T13.setTop (mkF m 54 #[.val (.ref a), .val (.ref b), .val (.int (Int32.ofNat o)), .val (.int (Int32.ofNat len)), .val .null, .val (.ref s.heap.size)] [.ref s.heap.size, .ref a])) := (c12.trans (st13 _ (Steps.refl _))).trans (by
    refine XS.aloadN X13.here hexec rfl (hb hbytes d51) rfl rfl ?_
    refine XS.aload X13.here hexec rfl (hb hbytes d52) rfl rfl ?_
    exact Steps.refl _)
  obtain ⟨T15, X15, p15, bl15, sl15, st15⟩ := X13.finit hexec hown (wk W (.fieldLink "java/lang/String" 9 "java/lang/String" "value" "[B")) (Or.inr ⟨_, (wk W (.laysFinal "java/lang/String" "java/lang/String" "value" "[B"))⟩) (Or.inl ⟨rfl, hnm⟩) f1 (Or.inl rfl) bl13 (t := (.array .byte)) (by decide +kernel) rfl (g := (mkF m 54 #[.val (.ref a), .val (.ref b), .val (.int (Int32.ofNat o)), .val (.int (Int32.ofNat len)), .val .null, .val (.ref s.heap.size)] [.ref s.heap.size, .ref a])) rfl (rest := []) rfl (hb hbytes d54)
  have c16 : Steps p.tables e below (s₁.setTop (entryFrame m #[.ref a, .ref b, .int (Int32.ofNat o), .int (Int32.ofNat len), .null] 6)) (T15.setTop (mkF m 57 #[.val (.ref a), .val (.ref b), .val (.int (Int32.ofNat o)), .val (.int (Int32.ofNat len)), .val .null, .val (.ref s.heap.size)] [])) := c14.trans (st15 _ (Steps.refl _))
  have ap := apart (Or.inr ⟨_, (wk W (.laysFinal "java/lang/String" "java/lang/String" "value" "[B"))⟩) (Or.inr ⟨_, (wk W (.laysFinal "java/lang/String" "java/lang/String" "coder" "B"))⟩) f1 f2 (t₁ := .array .byte) (t₂ := .byte) (by decide +kernel) (by decide +kernel) (by decide)
  have al := X8.warmed.alike.symm.trans X15.warmed.alike
  have n7 : T11.heap[s.heap.size]? = some N := by rw [q11]; exact n1.1
  exact ⟨T15, none, _, _, _, X15, by simp, rfl, by omega, (fun _ => rfl), ⟨rfl, _, N, bl15, ((Same.refl D _).set _ (by simp)).set _ (by simp), sl15, (Cell.slots_setSlot_ne _ ap).trans sl13, n1.keep al (p15.other hne (p13.other hne n7)), n2, by rw [al.findClass]; exact n3, n4, n5, fun y c h1 h2 => p15.other h1 (p13.other h1 (by rw [q11]; exact n6 y c h2)), by rw [p15.2.2, p13.2.2, q11]; exact z8⟩, fun fs hl => c16.trans (X15.returnOut hexec hret (hb hbytes d57) hl)⟩
end New4
namespace New1
def yN : MethodName := ⟨"java/lang/String", "<init>", "([C)V"⟩
abbrev yB : ByteArray := jdk_42_method_3_code
theorem d0 : decode yB 0 = .ok (.aload_n 0, 1) := by decide +kernel
theorem d1 : decode yB 1 = .ok (.aload_n 1, 1) := by decide +kernel
theorem d2 : decode yB 2 = .ok (.iconst 0, 1) := by decide +kernel
theorem d3 : decode yB 3 = .ok (.aload_n 1, 1) := by decide +kernel
theorem d4 : decode yB 4 = .ok (.arraylength, 1) := by decide +kernel
theorem d5 : decode yB 5 = .ok (.aconst_null, 1) := by decide +kernel
theorem d6 : decode yB 6 = .ok (.invokespecial 27, 3) := by decide +kernel
theorem d9 : decode yB 9 = .ok (.return_, 1) := by decide +kernel
def site : List Cond := [New4.tab] ++ initW "java/lang/String" 27 New4.yN
def tab : Cond := tabOf yN yB 2 none site
def P (a : Addr) (D : Cell) (fV fC : Field) (b : Addr) (A : Cell) (z : Int32) (args : Array Value) (s : State) : Prop := args = #[.ref a, .ref b] ∧ Blank "java/lang/String" a D s ∧ Found "java/lang/String" "value" "[B" fV s ∧ Found "java/lang/String" "coder" "B" fC s ∧ Ch b A s ∧ StaticIs s "java/lang/String" "COMPACT_STRINGS" "Z" (.int z) ∧ ¬ z = 0 ∧ 0 < A.slots.size ∧ A.slots.size ≤ 536870912 ∧ ∀ i, i < A.slots.size → ¬ 255 < cv A i
def E (a : Addr) (D : Cell) (fV fC : Field) (A : Cell) (r : Option Value) (s u : State) : Prop := Got a D fV fC A 0 A.slots.size r s u
/-- new String(chars), not empty, no char above 255: a Latin-1 String of their low bytes -/
theorem law (l : Launch) (a : Addr) (D : Cell) (fV fC : Field) (b : Addr) (A : Cell) (z : Int32) : Law l yN 2 1 3 52 yB 2 none site (P a D fV fC b A z) (E a D fV fC A) [⟨a, fC.slot⟩, ⟨a, fV.slot⟩] 1 A.slots.size := by
  refine Law.of_walk (plainFor_of_name (by decide +kernel)) (by decide +kernel) (by decide +kernel) (by decide) (fun _ _ h => by rw [h.1]; rfl) (fun _ U U' hal hh h => ⟨h.1, h.2.1.mv hal hh, h.2.2.1.al hal, h.2.2.2.1.al hal, h.2.2.2.2.1.mv hal hh, h.2.2.2.2.2.1.there hal hh, h.2.2.2.2.2.2⟩) (fun r U U' V V' h1 hal h2 h => Got.mv r U U' V V' h1 hal h2 h) ?_
  intro p e s m args below meth c s₁ X0 hexec hbytes hml hret hlk hnm hown hh0 W hP
  obtain ⟨rfl, hB, f1, f2, hA, s1, hz, l0, l2, hp⟩ := hP
  have c1 : Steps p.tables e below (s₁.setTop (entryFrame m #[.ref a, .ref b] 2)) (s₁.setTop (mkF m 0 #[.val (.ref a), .val (.ref b)] [])) := entry rfl
  have c2 : Steps p.tables e below (s₁.setTop (entryFrame m #[.ref a, .ref b] 2)) (s₁.setTop (mkF m 6 #[.val (.ref a), .val (.ref b)] [.null, .int (Int32.ofNat A.slots.size), .int 0, .ref b, .ref a])) := c1.trans (by
    refine XS.aloadN X0.here hexec rfl (hb hbytes d0) rfl rfl ?_
    refine XS.aloadN X0.here hexec rfl (hb hbytes d1) rfl rfl ?_
    refine iconstV X0.here hexec rfl 0 (hb hbytes d2) (by decide) ?_
    refine XS.aloadN X0.here hexec rfl (hb hbytes d3) rfl rfl ?_
    refine X0.alen hexec (hA.1.mv X0.warmed.alike hh0) rfl rfl (hb hbytes d4) ?_
    refine XS.aconstNull X0.here hexec rfl (hb hbytes d5) ?_
    exact Steps.refl _)
  obtain ⟨v3, T3, X3, E3, g3⟩ := X0.callN hexec (New4.law l a D fV fC b A z 0 A.slots.size) rfl hown (wks W (initW "java/lang/String" 27 New4.yN)) (W New4.tab (by simp only [site, List.mem_cons, List.mem_append, true_or, or_true])) (W := 0) (Nat.le_of_ble_eq_true rfl) (Nat.le_of_ble_eq_true rfl) (Nat.le_refl _) (by show 0 + A.slots.size ≤ A.slots.size; omega) (g := (mkF m 6 #[.val (.ref a), .val (.ref b)] [.null, .int (Int32.ofNat A.slots.size), .int (Int32.ofNat 0), .ref b, .ref a])) rfl (by rw [hml]; rfl) c2 (argsL := [.ref b, .int (Int32.ofNat 0), .int (Int32.ofNat A.slots.size), .null]) (rest := []) rfl rfl (by show 2 * 0 + 0 ≤ _; decide) (hb hbytes d6) (⟨rfl, hB.mv X0.warmed.alike hh0, f1.al X0.warmed.alike, f2.al X0.warmed.alike, hA.mv X0.warmed.alike hh0, s1.there X0.warmed.alike hh0, hz, l0, by omega, l2, fun i hi => by rw [Nat.zero_add]; exact hp i hi⟩)
  have e0 := Got.mv _ s₁ s _ _ hh0.symm (Vm.Alike.refl _) rfl E3
  obtain rfl := e0.1
  have c4 : Steps p.tables e below (s₁.setTop (entryFrame m #[.ref a, .ref b] 2)) (T3.setTop (mkF m 9 #[.val (.ref a), .val (.ref b)] [])) := g3
  exact ⟨T3, none, _, _, _, X3, by simp, rfl, by omega, (fun _ => rfl), e0, fun fs hl => c4.trans (X3.returnOut hexec hret (hb hbytes d9) hl)⟩
theorem pays {l : Launch} {R : Room} {p : Program} {e : Env} {below : List Frame} {s : State} {sargs : Array Value} {len W : Nat} (a : Addr) (D : Cell) (fV fC : Field) (b : Addr) (A : Cell) (z : Int32) (htab : tab.before sargs s = true) (hfr : 4 ≤ R.frames) (hlo : W + 65 ≤ R.locals) :
    Back l R p e below s sargs yN len W (fun A₁ a₁ => A₁.cells + 1 ≤ R.cells ∧ A₁.slots + A.slots.size ≤ R.slots ∧ P a D fV fC b A z a₁ A₁.U) (fun A₁ _ v₁ B₁ => E a D fV fC A v₁ A₁.U B₁.U ∧ B₁.locs = A₁.locs ++ [⟨a, fC.slot⟩, ⟨a, fV.slot⟩] ∧ B₁.cells = A₁.cells + 1 ∧ B₁.slots = A₁.slots + A.slots.size) :=
  (law l a D fV fC b A z).pays htab hfr (by omega)
end New1
end StrChars
namespace StrChars.Road
open Jvm Sem ClassFile Op Lib Jvm.Stand Jvm.Free Jvm.Free.XT
open Jvm.Lib.Cold (StaticIs)
abbrev ST : String := "java/lang/String"
/-- every table word that New1's law asks, flat -/
abbrev words : List Jvm.Cond := [.code New1.yN New1.yB 2 none, .initialized ST, .methodLink ST 27 New4.yN, .instanceMethod New4.yN,
  .code New4.yN New4.yB 6 none, .fieldLink ST 38 ST "COMPACT_STRINGS" "Z", .laysFinal ST ST "value" "[B", .fieldLink ST 9 ST "value" "[B", .laysFinal ST ST "coder" "B", .fieldLink ST 15 ST "coder" "B",
  .methodLink ST 1 Lib.objectInit, .instanceMethod Lib.objectInit, .code Lib.objectInit ⟨#[0xb1]⟩ 1 none, .methodLink ST 177 Cmp3.yN, .static Cmp3.yN, .methodLink ST 47 CodL.yN, .static CodL.yN,
  .code Cmp3.yN Cmp3.yB 6 (some (.array .byte)), .initialized U16, .arrayClass .byte, .methodLink U16 115 Cmp5.yN, .static Cmp5.yN, .code Cmp5.yN Cmp5.yB 7 (some .int), .code CodL.yN CodL.yB 2 (some .byte)]
theorem tab_of {a : Array Value} {s : State} (h : ∀ w ∈ words, w.before a s = true) : New1.tab.before a s = true := by
  have h5 : Cmp5.tab.before a s = true := unparts (wk h (.code Cmp5.yN Cmp5.yB 7 (some .int))) (wks h (.initialized Cmp5.yN.cls :: Cmp5.site))
  have hc : CodL.tab.before a s = true := unparts (wk h (.code CodL.yN CodL.yB 2 (some .byte))) (wks h (.initialized CodL.yN.cls :: CodL.site))
  have q5 : ∀ w ∈ Cmp5.tab :: words, w.before a s = true := fun w hw => (List.mem_cons.mp hw).elim (fun e => e ▸ h5) (h w)
  have h3 : Cmp3.tab.before a s = true := unparts (wk q5 (.code Cmp3.yN Cmp3.yB 6 (some (.array .byte)))) (wks q5 (.initialized Cmp3.yN.cls :: Cmp3.site))
  have q3 : ∀ w ∈ Cmp3.tab :: CodL.tab :: words, w.before a s = true := fun w hw => (List.mem_cons.mp hw).elim (fun e => e ▸ h3) fun hw => (List.mem_cons.mp hw).elim (fun e => e ▸ hc) (h w)
  have h4 : New4.tab.before a s = true := unparts (wk q3 (.code New4.yN New4.yB 6 none)) (wks q3 (.initialized New4.yN.cls :: New4.site))
  have q4 : ∀ w ∈ New4.tab :: words, w.before a s = true := fun w hw => (List.mem_cons.mp hw).elim (fun e => e ▸ h4) (h w)
  exact unparts (wk q4 (.code New1.yN New1.yB 2 none)) (wks q4 (.initialized New1.yN.cls :: New1.site))
/-- the words ride from the start Z to the walk's own state -/
theorem moved {Z s : State} {a0 args : Array Value} (hZ : Z.Warmed39 s.vm) (hw : ∀ d ∈ words, d.before a0 Z = true) : ∀ d ∈ words, d.before args s = true := fun d hd => by
  have q := hw d hd
  have t : ∀ d ∈ words, d = .arrayClass .byte ∨ (d.onTables && d.keepsFace) = true := by decide +kernel
  rcases t d hd with rfl | t
  · exact RoadKit.mvA hZ q
  · exact RoadKit.mv hZ q t
/-- WHAT COMES BACK, over the tables of the start Z: h the heap at the call, h' behind it -/
def Q (Z : State) (x : Addr) (A : Cell) (h : Heap) (v : Option Value) (h' : Heap) (L : List Loc) : Prop := v = none ∧ (∀ y ∈ L, y.base = x) ∧ RoadKit.Keep h h' [x] ∧ h'.size = h.size + 1 ∧ RoadKit.Exa Z h' x ST ∧ RoadKit.Fld Z h' x ST "value" "[B" (.ref h.size) ∧ RoadKit.Fld Z h' x ST "coder" "B" (.int 0) ∧
  (∃ V : Cell, RoadKit.Arr Z h' h.size V .byte ∧ V.vm = .none ∧ Z.vm.findClass "[B" = some V.cls ∧ V.slots.size = A.slots.size ∧ ∀ j, j < A.slots.size → V.slots[j]? = some (.int (lo8 (cv A j)))) ∧
  ∀ (O n d : String) (w : Value), RoadKit.Fld Z h x O n d w → RoadKit.slotOf Z O n d ≠ RoadKit.slotOf Z ST "value" "[B" → RoadKit.slotOf Z O n d ≠ RoadKit.slotOf Z ST "coder" "B" → RoadKit.Fld Z h' x O n d w
/-- **new String(chars) AT A CALL, IN THE ROAD'S FORM**: for specialBack behind newO: x the fresh String, b the char[] with the cell A -/
theorem back {p : Program} {l : Launch} {e : Env} {R : Room} {s : State} {args : Array Value} {below : List Frame} {len W : Nat} {Z : State} {a0 : Array Value} {h : Heap} (hZ : Z.Warmed39 s.vm) (hw : ∀ d ∈ words, d.before a0 Z = true) {kI : Nat} (wi : (Jvm.Cond.instantiable ST kI).before a0 Z = true)
    {x b : Addr} {A : Cell} {z : Int32} {v0 c0 : Value} (E : RoadKit.Exa Z h x ST) (V : RoadKit.Fld Z h x ST "value" "[B" v0) (C : RoadKit.Fld Z h x ST "coder" "B" c0) (K : RoadKit.Arr Z h b A .char) (hty : Typed .char A) (S : RoadKit.Sta Z h ST "COMPACT_STRINGS" "Z" (.int z)) (hz : ¬ z = 0)
    (l0 : 0 < A.slots.size) (l2 : A.slots.size ≤ 536870912) (hp : ∀ i, i < A.slots.size → ¬ 255 < cv A i) (hfr : 4 ≤ R.frames) (hlo : W + 65 ≤ R.locals) :
    Back l R p e below s args New1.yN len W (fun P a => a = #[.ref x, .ref b] ∧ P.U.heap = h ∧ P.cells + 1 ≤ R.cells ∧ P.slots + A.slots.size ≤ R.slots)
      (fun P _ v B => ∃ L, Q Z x A h v B.U.heap L ∧ B.locs = P.locs ++ L ∧ B.cells = P.cells + 1 ∧ B.slots = P.slots + A.slots.size) := by
  intro m meth c P g ig mk a X hg hsize hdg hW hn hp'
  obtain ⟨rfl, rfl, r1, r2⟩ := hp'
  have al : Z.vm.Alike P.U.vm := hZ.alike.trans X.warmed.alike
  obtain ⟨D, cfV, kV, iV, fV, hD, gV, stV, knV, obV, asV, slV⟩ := id V
  obtain ⟨D', cfC, kC, iC, fC, hD', gC, stC, -, -, asC, slC⟩ := id C
  cases hD.symm.trans hD'
  obtain ⟨D2, kD, e1, e2, e3, e4, e5⟩ := id E
  cases hD.symm.trans e1
  obtain ⟨c2, k2, i1, i2, i3, -⟩ := Cond.instantiable_spec wi
  cases e2.symm.trans i1
  cases e3.symm.trans i2
  obtain ⟨kU, u1, u2⟩ := al.2.2 _ _ e3
  have hB : Blank ST x D P.U := ⟨hD, ⟨knV, fun q hq => by rw [hq] at obV; cases obV⟩, by rw [al.findClass]; exact e2, kU, u1, by rw [u2]; exact i3, by rw [u2]; exact e5 i3⟩
  have F1 : Found ST "value" "[B" fV P.U := ⟨SBG.found_only al ⟨cfV, kV, iV, gV⟩, stV⟩
  have F2 : Found ST "coder" "B" fC P.U := ⟨SBG.found_only al ⟨cfC, kC, iC, gC⟩, stC⟩
  have hA : Ch b A P.U := ⟨⟨K.1, State.isArrayOf_alike al K.2.1, K.2.2, by omega⟩, hty⟩
  have hS : StaticIs P.U ST "COMPACT_STRINGS" "Z" (.int z) := by
    obtain ⟨cfS, iS, kS, fS, st, cS, t1, t2, t3, t4, t5, t6, t7⟩ := S
    exact StaticIs.there (s := { Z with heap := P.U.heap }) ⟨cfS, iS, kS, fS, st, cS, t1, t2, t3, t4, t5, (fun q => by rw [q] at t6; cases t6), t7⟩ al rfl
  obtain ⟨v, B, X', ⟨⟨hv, E', V', q1, q2, q3, q4, q5, q6, q7, q8, q9, q10, q11⟩, hl, hc, hs⟩, st⟩ := New1.pays x D fV fC b A z (tab_of (moved hZ hw)) hfr hlo m meth c P g ig mk _ X hg hsize hdg hW hn ⟨r1, r2, rfl, hB, F1, F2, hA, hS, hz, l0, l2, hp⟩
  have al' : Z.vm.Alike B.U.vm := hZ.alike.trans X'.warmed.alike
  have hsz : E'.slots.size = D.slots.size := by
    obtain ⟨-, -, -, kB, w1, w2, w3⟩ := q1
    obtain ⟨kB', y1, y2⟩ := al'.2.2 _ _ e3
    rw [q2.2.1] at w1
    cases w1.symm.trans y1
    rw [w3, e5 i3, y2]
  refine ⟨v, B, X', ⟨_, ⟨hv, ?_, ⟨by omega, fun y cy hy hn' => q10 y cy (by simpa using hn') hy, fun y cy hy => ?_⟩, q11, ⟨E', _, q1.1, by rw [q2.2.1]; exact e2, by rw [q2.2.1]; exact e3, by rw [q2.1]; exact obV, fun _ => by rw [hsz]; exact e5 i3⟩,
    ⟨E', cfV, kV, iV, fV, q1.1, gV, stV, by rw [q2.1]; exact knV, by rw [q2.1]; exact obV, by rw [q2.2.1]; exact asV, q3⟩, ⟨E', cfC, kC, iC, fC, q1.1, gC, stC, by rw [q2.1]; exact knV, by rw [q2.1]; exact obV, by rw [q2.2.1]; exact asC, q4⟩,
    ⟨V', ⟨q5.1, State.isArrayOf_alike al'.symm q5.2.1, q5.2.2.1⟩, q6, by rw [← al'.findClass]; exact q7, q8, fun j hj => by have := q9 j hj; rwa [Nat.zero_add] at this⟩, fun O n d w F n1 n2 => ?_⟩, hl, hc, hs⟩, st⟩
  · intro y hy
    simp only [List.mem_cons, List.not_mem_nil, or_false] at hy
    rcases hy with rfl | rfl <;> rfl
  · by_cases q : y = x
    · subst q
      cases hD.symm.trans hy
      exact ⟨E', q1.1, q2.2.1, q2.1, hsz⟩
    · exact ⟨cy, q10 y cy q hy, rfl, rfl, rfl⟩
  · obtain ⟨D3, cf, k, i, f, g1, g2, g3, g4, g5, g6, g7⟩ := F
    cases hD.symm.trans g1
    simp only [RoadKit.slotOf, g2, gV, gC, Option.map_some, Option.getD_some] at n1 n2
    exact ⟨E', cf, k, i, f, q1.1, g2, g3, by rw [q2.1]; exact g4, by rw [q2.1]; exact g5, by rw [q2.2.1]; exact g6, by rw [q2.2.2 f.slot (by simp [n1, n2])]; exact g7⟩
end StrChars.Road
namespace StrChars.Road
open Jvm Sem ClassFile Op Lib Jvm.Stand Jvm.Free Jvm.Free.XT
/-- WHAT COMES BACK, the byte[] as a list of values -/
def QA (Z : State) (x : Addr) (zn : Int32) (cs : List Int32) (h : Heap) (v : Option Value) (h' : Heap) (L : List Loc) : Prop := v = none ∧ (∀ y ∈ L, y.base = x) ∧ RoadKit.Keep h h' [x] ∧ h'.size = h.size + 1 ∧ RoadKit.Exa Z h' x ST ∧ RoadKit.Fld Z h' x ST "value" "[B" (.ref h.size) ∧ RoadKit.Fld Z h' x ST "coder" "B" (.int 0) ∧
  (∃ kb, Z.vm.findClass "[B" = some kb ∧ RoadKit.Arv Z h' h.size kb .byte zn (cs.map fun c => .int (lo8 c)) (.int 0)) ∧
  ∀ (O n d : String) (w : Value), RoadKit.Fld Z h x O n d w → RoadKit.slotOf Z O n d ≠ RoadKit.slotOf Z ST "value" "[B" → RoadKit.slotOf Z O n d ≠ RoadKit.slotOf Z ST "coder" "B" → RoadKit.Fld Z h' x O n d w
/-- **new String(chars) AT A CALL, THE ARRAYS AS LISTS**: the char[] at b holds cs, not empty, no char above 255 -/
theorem backArv {p : Program} {l : Launch} {e : Env} {R : Room} {s : State} {args : Array Value} {below : List Frame} {len W : Nat} {Z : State} {a0 : Array Value} {h : Heap} (hZ : Z.Warmed39 s.vm) (hw : ∀ d ∈ words, d.before a0 Z = true) {kI : Nat} (wi : (Jvm.Cond.instantiable ST kI).before a0 Z = true)
    {x b : Addr} {k : ClassId} {zn z : Int32} {cs : List Int32} {dv v0 c0 : Value} (E : RoadKit.Exa Z h x ST) (V : RoadKit.Fld Z h x ST "value" "[B" v0) (C : RoadKit.Fld Z h x ST "coder" "B" c0) (K : RoadKit.Arv Z h b k .char zn (cs.map Value.int) dv) (S : RoadKit.Sta Z h ST "COMPACT_STRINGS" "Z" (.int z)) (hz : ¬ z = 0)
    (hlen : zn.toNatClampNeg = cs.length) (h0 : 0 < cs.length) (hbig : cs.length ≤ 536870912) (hall : ∀ c ∈ cs, ¬ 255 < c) (hfr : 4 ≤ R.frames) (hlo : W + 65 ≤ R.locals) :
    Back l R p e below s args New1.yN len W (fun P a => a = #[.ref x, .ref b] ∧ P.U.heap = h ∧ P.cells + 1 ≤ R.cells ∧ P.slots + cs.length ≤ R.slots)
      (fun P _ v B => ∃ L, QA Z x zn cs h v B.U.heap L ∧ B.locs = P.locs ++ L ∧ B.cells = P.cells + 1 ∧ B.slots = P.slots + cs.length) := by
  obtain ⟨A, K1, K2, K3, K4, K5, K6⟩ := K
  have e : A.slots.size = cs.length := K3.trans hlen
  have hat : ∀ (i : Nat) (hi : i < cs.length), A.slots[i]? = some (.int cs[i]) := fun i hi => by rw [K5 i (by omega)]; simp [List.getD_eq_getElem?_getD, hi]
  have hcv : ∀ (i : Nat) (hi : i < cs.length), cv A i = cs[i] := fun i hi => by unfold cv; rw [hat i hi]
  have hty : Typed .char A := fun i v hv => by
    have hi : i < A.slots.size := (Array.getElem?_eq_some_iff.mp hv).1
    have q := K5 i hi
    rw [hv] at q
    rw [Option.some.inj q]
    exact K6 i hi
  refine Back.mono (back hZ hw wi E V C K1 hty S hz (by omega) (by omega) (fun i hi => by rw [hcv i (by omega)]; exact hall _ (List.getElem_mem _)) hfr hlo) (fun P a hp => ⟨hp.1, hp.2.1, hp.2.2.1, by rw [e]; exact hp.2.2.2⟩) (fun P a v B hp hq => ?_)
  obtain ⟨L, ⟨q1, q2, q3, q4, q5, q6, q7, ⟨V', v1, v2, v3, v4, v5⟩, q9⟩, hl, hc, hs⟩ := hq
  refine ⟨L, ⟨q1, q2, q3, q4, q5, q6, q7, ⟨V'.cls, v3, V', v1, rfl, by rw [v4, e, hlen], K4, fun i hi => ?_, fun i hi => ?_⟩, q9⟩, hl, hc, by rw [hs, e]⟩
  · have hi' : i < cs.length := by omega
    rw [v5 i (by omega), hcv i hi']; simp [List.getD_eq_getElem?_getD, hi']
  · have hi' : i < cs.length := by omega
    simp only [List.getD_eq_getElem?_getD, List.getElem?_map, List.getElem?_eq_getElem hi', Option.map_some, Option.getD_some]
    exact fits_lo8 _
end StrChars.Road
namespace StrChars.Road
open Jvm Sem ClassFile Op Lib Jvm.Stand Jvm.Free Jvm.Free.XT
/-- WHAT COMES BACK, in the writer's own shape -/
def QV (Z : State) (x : Addr) (N : Int32) (bs : List Int32) (h : Heap) (n0 : Nat) (v : Option Value) (h' : Heap) (L : List Loc) : Prop := v = none ∧ RoadKit.Fr n0 L ∧ RoadKit.Keep h h' [x] ∧ RoadKit.Exa Z h' x ST ∧ RoadKit.Fld Z h' x ST "coder" "B" (.int 0) ∧
  ∃ (t : Addr) (kb : ClassId), n0 ≤ t ∧ h.size ≤ t ∧ ¬ t = x ∧ RoadKit.Fld Z h' x ST "value" "[B" (.ref t) ∧ RoadKit.Arv Z h' t kb .byte N (bs.map Value.int) (.int 0)
/-- **new String(chars) AT A CALL, FOR THE WRITER**: a char[] of n known ints, each 0 to 255 -/
theorem backV {p : Program} {l : Launch} {e : Env} {R : Room} {s : State} {args : Array Value} {below : List Frame} {len W : Nat} {Z : State} {a0 : Array Value} {h : Heap} (hZ : Z.Warmed39 s.vm) (hw : ∀ d ∈ words, d.before a0 Z = true) {kI : Nat} (wi : (Jvm.Cond.instantiable ST kI).before a0 Z = true)
    {x b : Addr} {kC : ClassId} {cs bs : List Int32} {d v0 c0 : Value} {z N : Int32} {n n0 : Nat} (hx0 : n0 ≤ x) (hh0 : n0 ≤ h.size) (E : RoadKit.Exa Z h x ST) (V : RoadKit.Fld Z h x ST "value" "[B" v0) (C : RoadKit.Fld Z h x ST "coder" "B" c0) (K : RoadKit.Arv Z h b kC .char N (cs.map Value.int) d) (S : RoadKit.Sta Z h ST "COMPACT_STRINGS" "Z" (.int z)) (hz : ¬ z = 0)
    (hn : cs.length = n) (hN : N = Int32.ofNat n) (l0 : 0 < n) (l2 : n ≤ 4000) (hp : ∀ c ∈ cs, ¬ c < 0 ∧ ¬ (255 : Int32) < c) (hb : bs = cs.map (fun c => c.toInt8.toInt32)) (hfr : 4 ≤ R.frames) (hlo : W + 65 ≤ R.locals) :
    Back l R p e below s args (⟨"java/lang/String", "<init>", "([C)V"⟩ : MethodName) len W (fun P a => a = #[.ref x, .ref b] ∧ P.U.heap = h ∧ P.cells + 1 ≤ R.cells ∧ P.slots + n ≤ R.slots)
      (fun P _ v B => ∃ L, QV Z x N bs h n0 v B.U.heap L ∧ B.locs = P.locs ++ L ∧ B.cells = P.cells + 1 ∧ B.slots = P.slots + n) := by
  subst hn hN hb
  refine Back.mono (backArv hZ hw wi E V C K S hz (n32 (by omega)) l0 (by omega) (fun c hc => (hp c hc).2) hfr hlo) (fun P a hp => hp) (fun P a v B hp hq => ?_)
  obtain ⟨L, ⟨q1, q2, q3, q4, q5, q6, q7, ⟨kb, v1, v2⟩, q9⟩, hl, hc, hs⟩ := hq
  exact ⟨L, ⟨q1, fun y hy => by rw [q2 y hy]; exact hx0, q3, q5, q7, h.size, kb, hh0, Nat.le_refl _, Nat.ne_of_gt E.lt, q6, by rw [List.map_map]; exact v2⟩, hl, hc, hs⟩
end StrChars.Road
end Jvm.Pilot.@@N@@
namespace Jvm.Pilot.@@N@@
open Jvm Jvm.ClassFile Sem Op Lib Jvm.Free Jvm.Stand Jvm.LawKit Jvm.RoadKit Bundle Jvm.Pilot.@@N@@.Jvm.D
theorem own_charv (y : Int32) : (y &&& (255 : Int32)).toUInt32.toUInt16.toUInt32.toInt32 = y &&& (255 : Int32) := by
  have h : (y &&& (255 : Int32)).toBitVec.toNat ≤ 255 := by
    show (y.toBitVec &&& 255#32).toNat ≤ 255
    rw [BitVec.toNat_and]; exact Nat.and_le_right
  apply Int32.toBitVec_inj.mp
  apply BitVec.eq_of_toNat_eq
  show (((y &&& (255 : Int32)).toBitVec.setWidth 16).setWidth 32).toNat = _
  rw [BitVec.toNat_setWidth, BitVec.toNat_setWidth]
  omega
theorem own_c255 (y : Int32) : ¬ (y &&& (255 : Int32)) < (0 : Int32) ∧ ¬ (255 : Int32) < (y &&& (255 : Int32)) := by
  have m := Jvm.Kit.i32_mask y 255 (k := 8) (by decide) (by decide)
  have e0 : (0 : Int32).toInt = 0 := by decide
  have e5 : (255 : Int32).toInt = 255 := by decide
  rw [Int32.lt_iff_toInt_lt, Int32.lt_iff_toInt_lt, m, e0, e5]; omega
theorem own_ch (y : Int32) : ¬ (255 : Int32) < ((y &&& (255 : Int32)).toUInt32.toUInt16.toUInt32.toInt32) := by rw [own_charv]; exact (own_c255 y).2
theorem own_chn (y : Int32) : ¬ (nar .char ((y &&& (255 : Int32)).toUInt32.toUInt16.toUInt32.toInt32)) < (0 : Int32) ∧ ¬ (255 : Int32) < (nar .char ((y &&& (255 : Int32)).toUInt32.toUInt16.toUInt32.toInt32)) := by
  have e : nar .char ((y &&& (255 : Int32)).toUInt32.toUInt16.toUInt32.toInt32) = y &&& (255 : Int32) := by
    rw [own_charv]; exact own_charv y
  rw [e]; exact own_c255 y
theorem own_two_in {a b : Int32} (ha : ¬ a < (0 : Int32) ∧ ¬ (255 : Int32) < a) (hb : ¬ b < (0 : Int32) ∧ ¬ (255 : Int32) < b) : ∀ c ∈ ([a, b] : List Int32), ¬ c < 0 ∧ ¬ (255 : Int32) < c := by
  intro c hc
  simp only [List.mem_cons, List.not_mem_nil, or_false] at hc
  rcases hc with rfl | rfl
  · exact ha
  · exact hb
theorem own_neq {args : Array Value} {s : State} {t : Term} {v n : Int32} (ht : t.eval args s none [] s = some (.int v)) (h : (Jvm.Cond.not (Jvm.Cond.eq t (Jvm.Term.int n))).value args s none s [] = some true) : ¬ v = n := by
  have h' := not_v h
  intro e
  subst e
  simp [Cond.value, ht, Term.eval] at h'
theorem own_sw_in : ∀ d ∈ StrChars.Road.words, d ∈ tables_1 := by decide +kernel
theorem pd__28__5b_C_29_V : parseMethodDescriptor "([C)V" = some ⟨[(.array .char)], none⟩ := by decide +kernel
theorem pn_com_example_outremer_engine_outremerengine_diplomacy_SupportMoveGivenToPinLaw : plainName "com/example/outremer_engine/outremerengine/diplomacy/SupportMoveGivenToPinLaw" = true := by first | (simp [plainName, overriddenIn]; done) | decide +kernel
theorem d1_0 : decode method_2_code 0 = .ok (.iconst 2, 1) := by decide +kernel
theorem d1_1 : decode method_2_code 1 = .ok (.newarray .char, 2) := by decide +kernel
theorem d1_3 : decode method_2_code 3 = .ok (.astore_n 1, 1) := by decide +kernel
theorem d1_4 : decode method_2_code 4 = .ok (.aload_n 1, 1) := by decide +kernel
theorem d1_5 : decode method_2_code 5 = .ok (.iconst 0, 1) := by decide +kernel
theorem d1_6 : decode method_2_code 6 = .ok (.iload_n 0, 1) := by decide +kernel
theorem d1_7 : decode method_2_code 7 = .ok (.sipush 255, 3) := by decide +kernel
theorem d1_10 : decode method_2_code 10 = .ok (.iand, 1) := by decide +kernel
theorem d1_11 : decode method_2_code 11 = .ok (.i2c, 1) := by decide +kernel
theorem d1_12 : decode method_2_code 12 = .ok (.castore, 1) := by decide +kernel
theorem d1_13 : decode method_2_code 13 = .ok (.aload_n 1, 1) := by decide +kernel
theorem d1_14 : decode method_2_code 14 = .ok (.iconst 1, 1) := by decide +kernel
theorem d1_15 : decode method_2_code 15 = .ok (.iload_n 0, 1) := by decide +kernel
theorem d1_16 : decode method_2_code 16 = .ok (.bipush 8, 2) := by decide +kernel
theorem d1_18 : decode method_2_code 18 = .ok (.iushr, 1) := by decide +kernel
theorem d1_19 : decode method_2_code 19 = .ok (.sipush 255, 3) := by decide +kernel
theorem d1_22 : decode method_2_code 22 = .ok (.iand, 1) := by decide +kernel
theorem d1_23 : decode method_2_code 23 = .ok (.i2c, 1) := by decide +kernel
theorem d1_24 : decode method_2_code 24 = .ok (.castore, 1) := by decide +kernel
theorem d1_25 : decode method_2_code 25 = .ok (.new 7, 3) := by decide +kernel
theorem d1_28 : decode method_2_code 28 = .ok (.dup, 1) := by decide +kernel
theorem d1_29 : decode method_2_code 29 = .ok (.aload_n 1, 1) := by decide +kernel
theorem d1_30 : decode method_2_code 30 = .ok (.invokespecial 9, 3) := by decide +kernel
theorem d1_33 : decode method_2_code 33 = .ok (.areturn, 1) := by decide +kernel
theorem ef_1 (m : MethodId) (x0 : Int32) : entryFrame m #[(.int x0)] 2 = mkF m 0 #[.val (.int x0), .unset] [] := by first | (simp [entryFrame, mkF, argsToLocals, Value.category]; done) | rfl
def Q1 (Z : State) (pp1 : Int32) (cs : Int32) (h0 : Heap) (n0 : Nat) (v : Option Value) (h : Heap) (L : List Loc) : Prop := ∃ (bx : Addr), v = some (.ref bx) ∧ Fr n0 L ∧ Keep h0 h [] ∧ n0 ≤ bx ∧ h0.size ≤ bx
set_option maxRecDepth 65536 in
set_option maxHeartbeats 40000000 in
theorem rm1 (l : Launch) (Z : State) (a0 : Array Value) (hw : ∀ d ∈ tables_1, d.before a0 Z = true) (ws : List Jvm.Cond) (pp1 : Int32) (cs : Int32) (h0 : Heap) (n0 : Nat) (Z0 : n0 ≤ h0.size) (O0 : Old Z n0 h0) (S_COMPACT_STRINGS : Sta Z Z.heap "java/lang/String" "COMPACT_STRINGS" "Z" (.int cs)) (hcs : ¬ cs = (0 : Int32)) :
    MetFree l (⟨"com/example/outremer_engine/outremerengine/diplomacy/SupportMoveGivenToPinLaw", "drawn", "(I)Ljava/lang/String;"⟩ : MethodName) (head1 (Jvm.Cond.code (⟨"com/example/outremer_engine/outremerengine/diplomacy/SupportMoveGivenToPinLaw", "drawn", "(I)Ljava/lang/String;"⟩ : MethodName) method_2_code 2 (some (.object "java/lang/String")) :: ws) ({ frames := 4, cells := 3, slots := 8, locals := 66 } : Room)) (fun a U => a = #[(.int pp1)] ∧ Z.Warmed39 U.vm ∧ U.heap = h0) (fun _ _ _ _ _ => True) (fun _ U o U' => ∃ v L, o = .returned v ∧ Q1 Z pp1 cs h0 n0 v U'.heap L ∧ FrameEnd U o U' L ({ frames := 4, cells := 3, slots := 8, locals := 66 } : Room).cells ({ frames := 4, cells := 3, slots := 8, locals := 66 } : Room).slots) := by
  refine MetFree.of_bodySF (plainFor_of_name pn_com_example_outremer_engine_outremerengine_diplomacy_SupportMoveGivenToPinLaw) hisR ?_
  intro p e s m args below meth c s₁ Bd hml0 hP hK
  obtain ⟨rfl, hZ, hh⟩ := hP
  have hx := Bd.exec
  have hby := Bd.bytes
  have hml : c.maxLocals = 2 := hml0
  have hown : s.vm.findClass "com/example/outremer_engine/outremerengine/diplomacy/SupportMoveGivenToPinLaw" = some m.cls := findClass_of_methodNamed Bd.named
  have hnm := (name_of_methodNamed Bd.named Bd.method).1
  have X0 : Stand p l e ({ frames := 4, cells := 3, slots := 8, locals := 66 } : Room) s m #[(.int pp1)] below meth c s₁ [] 0 0 := Stand.of_body Bd
  have e0 : s₁.heap = h0 := by rw [← hh, Bd.state]; rfl
  have N0 := Fr.nil n0
  have pre0 : ∀ t, Steps p.tables e below (s₁.setTop (mkF m 0 #[.val (.int pp1), .unset] [])) t → Steps p.tables e below (s₁.setTop (entryFrame m #[(.int pp1)] 2)) t := fun t k => castTop (ef_1 m pp1) k
  obtain ⟨T1, h1, k1, X1, e1, E1, A1, st1⟩ := newP X0 hx hZ (hw _ (List.mem_of_getElem? (i := 7) rfl)) e0 (g := (mkF m 1 #[.val (.int pp1), .unset] [(.int (2 : Int32))])) rfl (hb hby d1_1) rfl (by decide) (cap := 2) (by decide) (by decide) (by decide) (by decide)
  obtain ⟨b1, g1⟩ : ∃ z, z = h0.size := ⟨_, rfl⟩
  rw [← g1] at A1 st1
  have g_b1 : n0 ≤ b1 := Nat.le_trans Z0 (Nat.le_of_eq g1.symm)
  have sz_b1 : h0.size ≤ b1 := Nat.le_trans (Keep.refl h0 []).1 (Nat.le_of_eq g1.symm)
  have Z1 : n0 ≤ h1.size := Nat.le_trans Z0 E1.1
  have K1 : Keep h0 h1 [] := (Keep.refl h0 []).ext E1
  have V1 : Arv Z h1 b1 k1 .char (2 : Int32) [(.int (0 : Int32)), (.int (0 : Int32))] (.int (0 : Int32)) := (Arv.new A1 (by decide)).pad (pad_rep [] (.int (0 : Int32)) 2)
  obtain ⟨cl_2, Ar_2, qq_2, Sz_2, Nn_2, Hh_2, Gg_2⟩ := id V1
  have hin_2 : ¬ ((0 : Int32) < 0 ∨ cl_2.slots.size ≤ ((0 : Int32)).toNatClampNeg) := inb_of Sz_2 ⟨by decide, by decide⟩
  obtain ⟨T3, h3, X3, e3, W3, st3⟩ := stC X1 hx hZ e1 Ar_2 (j := (0 : Int32)) hin_2 (g := (mkF m 12 #[.val (.int pp1), .val (.ref b1)] [(.int ((pp1 &&& (255 : Int32)).toUInt32.toUInt16.toUInt32.toInt32)), (.int (0 : Int32)), (.ref b1)])) rfl rfl (hb hby d1_12)
  have N3 := Fr.snoc X3 N0 g_b1
  have Z3 : n0 ≤ h3.size := Nat.le_trans Z1 (Keep.of_wr W3).1
  have K3 : Keep h0 h3 [] := K1.wr W3 (Or.inr sz_b1)
  have V3 : Arv Z h3 b1 k1 .char (2 : Int32) [(.int (nar .char ((pp1 &&& (255 : Int32)).toUInt32.toUInt16.toUInt32.toInt32))), (.int (0 : Int32))] (.int (0 : Int32)) := Arv.set Ar_2 qq_2 Sz_2 Nn_2 Hh_2 Gg_2 (fits_nar_char _) W3 0 rfl (Nat.le_of_ble_eq_true rfl)
  obtain ⟨cl_4, Ar_4, qq_4, Sz_4, Nn_4, Hh_4, Gg_4⟩ := id V3
  have hin_4 : ¬ ((1 : Int32) < 0 ∨ cl_4.slots.size ≤ ((1 : Int32)).toNatClampNeg) := inb_of Sz_4 ⟨by decide, by decide⟩
  obtain ⟨T5, h5, X5, e5, W5, st5⟩ := stC X3 hx hZ e3 Ar_4 (j := (1 : Int32)) hin_4 (g := (mkF m 24 #[.val (.int pp1), .val (.ref b1)] [(.int ((((pp1.toUInt32 >>> ((8 : Int32) &&& 31).toUInt32).toInt32) &&& (255 : Int32)).toUInt32.toUInt16.toUInt32.toInt32)), (.int (1 : Int32)), (.ref b1)])) rfl rfl (hb hby d1_24)
  have N5 := Fr.snoc X5 N3 g_b1
  have Z5 : n0 ≤ h5.size := Nat.le_trans Z3 (Keep.of_wr W5).1
  have K5 : Keep h0 h5 [] := K3.wr W5 (Or.inr sz_b1)
  have V5 : Arv Z h5 b1 k1 .char (2 : Int32) [(.int (nar .char ((pp1 &&& (255 : Int32)).toUInt32.toUInt16.toUInt32.toInt32))), (.int (nar .char ((((pp1.toUInt32 >>> ((8 : Int32) &&& 31).toUInt32).toInt32) &&& (255 : Int32)).toUInt32.toUInt16.toUInt32.toInt32)))] (.int (0 : Int32)) := Arv.set Ar_4 qq_4 Sz_4 Nn_4 Hh_4 Gg_4 (fits_nar_char _) W5 1 rfl (Nat.le_of_ble_eq_true rfl)
  obtain ⟨T6, h6, X6, e6, E6, A6, D6, -, st6⟩ := newO X5 hx hZ hown (hw _ (List.mem_of_getElem? (i := 8) rfl)) (hw _ (List.mem_of_getElem? (i := 9) rfl)) (hw _ (List.mem_of_getElem? (i := 10) rfl)) e5 (g := (mkF m 25 #[.val (.int pp1), .val (.ref b1)] [])) rfl (hb hby d1_25) (by decide) (by decide)
  obtain ⟨b6, g6⟩ : ∃ z, z = h5.size := ⟨_, rfl⟩
  rw [← g6] at A6 D6 st6
  have g_b6 : n0 ≤ b6 := Nat.le_trans Z5 (Nat.le_of_eq g6.symm)
  have sz_b6 : h0.size ≤ b6 := Nat.le_trans K5.1 (Nat.le_of_eq g6.symm)
  have Z6 : n0 ≤ h6.size := Nat.le_trans Z5 E6.1
  have K6 : Keep h0 h6 [] := K5.ext E6
  have F6_coder : Fld Z h6 b6 "java/lang/String" "coder" "B" (.int (0 : Int32)) := D6 (Or.inr (hw _ (List.mem_of_getElem? (i := 34) rfl))) (ty := .byte) (by decide)
  have F6_value : Fld Z h6 b6 "java/lang/String" "value" "[B" .null := D6 (Or.inr (hw _ (List.mem_of_getElem? (i := 36) rfl))) (ty := (.array .byte)) (by decide)
  have V_7 : Arv Z h6 b1 k1 .char (2 : Int32) [(.int (nar .char ((pp1 &&& (255 : Int32)).toUInt32.toUInt16.toUInt32.toInt32))), (.int (nar .char ((((pp1.toUInt32 >>> ((8 : Int32) &&& 31).toUInt32).toInt32) &&& (255 : Int32)).toUInt32.toUInt16.toUInt32.toInt32)))] (.int (0 : Int32)) := (V5.ext E6)
  have O_8 : Old Z n0 h6 := ((((O0.ext E1).wr W3 g_b1).wr W5 g_b1).ext E6)
  obtain ⟨_, _, ⟨T9, L9, k9, n9⟩, -, X9, ⟨Lc9, hQ9, l9, y9, z9⟩, st9⟩ := X6.specialBack hx (y := (⟨"java/lang/String", "<init>", "([C)V"⟩ : MethodName)) rfl hown (mvT hZ (hw _ (List.mem_of_getElem? (i := 11) rfl))) (mvT hZ (hw _ (List.mem_of_getElem? (i := 12) rfl))) (mvT hZ (hw _ (List.mem_of_getElem? (i := 13) rfl))) (by decide) (StrChars.Road.backV (W := 1) hZ (fun d hd => hw d (own_sw_in d hd)) (kI := 4) (hw _ (List.mem_of_getElem? (i := 9) rfl)) (cs := ([(nar .char ((pp1 &&& (255 : Int32)).toUInt32.toUInt16.toUInt32.toInt32)), (nar .char ((((pp1.toUInt32 >>> ((8 : Int32) &&& 31).toUInt32).toInt32) &&& (255 : Int32)).toUInt32.toUInt16.toUInt32.toInt32))] : List Int32)) (bs := (([(nar .char ((pp1 &&& (255 : Int32)).toUInt32.toUInt16.toUInt32.toInt32)), (nar .char ((((pp1.toUInt32 >>> ((8 : Int32) &&& 31).toUInt32).toInt32) &&& (255 : Int32)).toUInt32.toUInt16.toUInt32.toInt32))] : List Int32)).map (fun c => c.toInt8.toInt32)) (n := 2) g_b6 Z6 A6 F6_value F6_coder V_7 (S_COMPACT_STRINGS.ext O_8.2) hcs rfl rfl (by decide) (by decide) (own_two_in (own_chn _) (own_chn _)) rfl (by decide) (by decide)) (g := (mkF m 30 #[.val (.int pp1), .val (.ref b1)] [(.ref b1), (.ref b6), (.ref b6)])) rfl (by rw [hml]; rfl) (Steps.refl _) (a := b6) (argsL := [(.ref b1)]) (rest := [(.ref b6)]) (lenOf pd__28__5b_C_29_V rfl) rfl (by show 2 * 0 + _ ≤ _; exact Nat.le_of_eq rfl) (hb hby d1_30) (fun _ _ => ⟨rfl, e6, (by decide : 2 + 1 ≤ _), (by decide : 6 + 2 ≤ _)⟩)
  dsimp only [Pt.U, Pt.locs, Pt.cells, Pt.slots] at X9 l9 y9 z9 st9 hQ9
  subst y9 z9
  obtain ⟨rfl, N9q, K9c, R9_0, R9_1, t9, kb9, g_t9, sb_t9, ne_t9, R9_2, R9_3⟩ := hQ9
  have N9 : Fr n0 L9 := by rw [l9]; exact Fr.app N5 N9q
  have Z9 : n0 ≤ T9.heap.size := Nat.le_trans Z6 K9c.1
  have K9 : Keep h0 T9.heap [] := K6.trans K9c (allS (Or.inr sz_b6) all0)
  obtain ⟨fs, hr, hrun, hended, hW, hsame⟩ := X9.leave (v := some (.ref b6)) (fun h => by rw [Bd.returns] at h; cases h)
  refine ⟨_, _, pre0 _ ?_, hrun, hended, _, _, rfl, ?_, ⟨_, rfl⟩, hW, hsame.mono (by decide) (by decide)⟩
  · show Steps p.tables e below (s₁.setTop (mkF m 0 #[.val (.int pp1), .unset] [])) _
    refine XS.iconst X0.here hx rfl (hb hby d1_0) ?_
    refine st1 _ ?_
    refine XS.astoreN X1.here hx rfl (hb hby d1_3) rfl rfl (l' := #[.val (.int pp1), .val (.ref b1)]) rfl ?_
    refine XS.aloadN X1.here hx rfl (hb hby d1_4) rfl rfl ?_
    refine XS.iconst X1.here hx rfl (hb hby d1_5) ?_
    refine XS.iloadN X1.here hx rfl (hb hby d1_6) rfl ?_
    refine XS.sipush X1.here hx rfl (hb hby d1_7) ?_
    refine XS.iand X1.here hx rfl (hb hby d1_10) rfl ?_
    refine XS.i2c X1.here hx rfl (hb hby d1_11) rfl ?_
    refine st3 _ ?_
    refine XS.aloadN X3.here hx rfl (hb hby d1_13) rfl rfl ?_
    refine XS.iconst X3.here hx rfl (hb hby d1_14) ?_
    refine XS.iloadN X3.here hx rfl (hb hby d1_15) rfl ?_
    refine XS.bipush X3.here hx rfl (hb hby d1_16) ?_
    refine XS.iushr X3.here hx rfl (hb hby d1_18) rfl ?_
    refine XS.sipush X3.here hx rfl (hb hby d1_19) ?_
    refine XS.iand X3.here hx rfl (hb hby d1_22) rfl ?_
    refine XS.i2c X3.here hx rfl (hb hby d1_23) rfl ?_
    refine st5 _ ?_
    refine st6 _ ?_
    refine XS.dup X6.here hx rfl (hb hby d1_28) rfl rfl ?_
    refine XS.aloadN X6.here hx rfl (hb hby d1_29) rfl rfl ?_
    refine st9.trans ?_
    jvm_step X9.here [X9.here.top, hx, (hb hby d1_33), X9.method', Bd.returns, Value.isRef, FieldType.isReference]
    first | (intro acts; rw [hr _ acts rfl rfl rfl]) | rw [hr _ _ rfl rfl rfl]
    exact Steps.refl _
  · show Q1 Z pp1 cs h0 n0 _ T9.heap _
    exact ⟨b6, rfl, N9, K9, g_b6, sz_b6⟩
theorem pn_java_lang_Record : plainName "java/lang/Record" = true := by first | (simp [plainName, overriddenIn]; done) | decide +kernel
theorem d9_0 : decode jdk_30_method_1_code 0 = .ok (.aload_n 0, 1) := by decide +kernel
theorem d9_1 : decode jdk_30_method_1_code 1 = .ok (.invokespecial 1, 3) := by decide +kernel
theorem d9_4 : decode jdk_30_method_1_code 4 = .ok (.return_, 1) := by decide +kernel
theorem ef_9 (m : MethodId) (x0 : Addr) : entryFrame m #[(.ref x0)] 1 = mkF m 0 #[.val (.ref x0)] [] := by first | (simp [entryFrame, mkF, argsToLocals, Value.category]; done) | rfl
def Q9 (Z : State) (aa0 : Addr) (h0 : Heap) (n0 : Nat) (v : Option Value) (h : Heap) (L : List Loc) : Prop := v = none ∧ Fr n0 L ∧ h = h0
set_option maxRecDepth 65536 in
set_option maxHeartbeats 40000000 in
theorem rm9 (l : Launch) (Z : State) (a0 : Array Value) (hw : ∀ d ∈ tables_1, d.before a0 Z = true) (ws : List Jvm.Cond) (aa0 : Addr) (h0 : Heap) (n0 : Nat) (Z0 : n0 ≤ h0.size) :
    MetFree l (⟨"java/lang/Record", "<init>", "()V"⟩ : MethodName) (head1 (Jvm.Cond.code (⟨"java/lang/Record", "<init>", "()V"⟩ : MethodName) jdk_30_method_1_code 1 none :: ws) ({ frames := 1, cells := 0, slots := 0, locals := 12 } : Room)) (fun a U => a = #[(.ref aa0)] ∧ Z.Warmed39 U.vm ∧ U.heap = h0) (fun _ _ _ _ _ => True) (fun _ U o U' => ∃ v L, o = .returned v ∧ Q9 Z aa0 h0 n0 v U'.heap L ∧ FrameEnd U o U' L ({ frames := 1, cells := 0, slots := 0, locals := 12 } : Room).cells ({ frames := 1, cells := 0, slots := 0, locals := 12 } : Room).slots) := by
  refine MetFree.of_bodySF (plainFor_of_name pn_java_lang_Record) hisR ?_
  intro p e s m args below meth c s₁ Bd hml0 hP hK
  obtain ⟨rfl, hZ, hh⟩ := hP
  have hx := Bd.exec
  have hby := Bd.bytes
  have hml : c.maxLocals = 1 := hml0
  have hown : s.vm.findClass "java/lang/Record" = some m.cls := findClass_of_methodNamed Bd.named
  have hnm := (name_of_methodNamed Bd.named Bd.method).1
  have X0 : Stand p l e ({ frames := 1, cells := 0, slots := 0, locals := 12 } : Room) s m #[(.ref aa0)] below meth c s₁ [] 0 0 := Stand.of_body Bd
  have e0 : s₁.heap = h0 := by rw [← hh, Bd.state]; rfl
  have N0 := Fr.nil n0
  have pre0 : ∀ t, Steps p.tables e below (s₁.setTop (mkF m 0 #[.val (.ref aa0)] [])) t → Steps p.tables e below (s₁.setTop (entryFrame m #[(.ref aa0)] 1)) t := fun t k => castTop (ef_9 m aa0) k
  obtain ⟨T1, X1, e1, st1⟩ := initO X0 hx hZ hown (hw _ (List.mem_of_getElem? (i := 45) rfl)) (hw _ (List.mem_of_getElem? (i := 19) rfl)) (hw _ (List.mem_of_getElem? (i := 20) rfl)) e0 (g := (mkF m 1 #[.val (.ref aa0)] [(.ref aa0)])) rfl (by rw [hml]; rfl) rfl (hb hby d9_1) (by decide) (W := 0) (by show 2 * 0 + _ ≤ _; exact Nat.le_of_eq rfl) (by decide)
  obtain ⟨fs, hr, hrun, hended, hW, hsame⟩ := X1.leave (v := none) (fun _ => rfl)
  refine ⟨_, _, pre0 _ ?_, hrun, hended, _, _, rfl, ?_, ⟨_, rfl⟩, hW, hsame.mono (by decide) (by decide)⟩
  · show Steps p.tables e below (s₁.setTop (mkF m 0 #[.val (.ref aa0)] [])) _
    refine XS.aloadN X0.here hx rfl (hb hby d9_0) rfl rfl ?_
    refine st1 _ ?_
    exact X1.returnOut hx Bd.returns (hb hby d9_4) hr
  · show Q9 Z aa0 h0 n0 _ T1.heap _
    rw [e1]
    exact ⟨rfl, N0, rfl⟩
theorem pd__28__29_V : parseMethodDescriptor "()V" = some ⟨[], none⟩ := by decide +kernel
theorem pn_com_example_outremer_engine_outremerengine_board_Place : plainName "com/example/outremer_engine/outremerengine/board/Place" = true := by first | (simp [plainName, overriddenIn]; done) | decide +kernel
theorem d8_0 : decode prog_5_method_2_code 0 = .ok (.aload_n 0, 1) := by decide +kernel
theorem d8_1 : decode prog_5_method_2_code 1 = .ok (.invokespecial 1, 3) := by decide +kernel
theorem d8_4 : decode prog_5_method_2_code 4 = .ok (.aload_n 0, 1) := by decide +kernel
theorem d8_5 : decode prog_5_method_2_code 5 = .ok (.aload_n 1, 1) := by decide +kernel
theorem d8_6 : decode prog_5_method_2_code 6 = .ok (.putfield 7, 3) := by decide +kernel
theorem d8_9 : decode prog_5_method_2_code 9 = .ok (.aload_n 0, 1) := by decide +kernel
theorem d8_10 : decode prog_5_method_2_code 10 = .ok (.aload_n 2, 1) := by decide +kernel
theorem d8_11 : decode prog_5_method_2_code 11 = .ok (.putfield 13, 3) := by decide +kernel
theorem d8_14 : decode prog_5_method_2_code 14 = .ok (.return_, 1) := by decide +kernel
theorem ef_8 (m : MethodId) (x0 : Addr) (x2 : Addr) : entryFrame m #[(.ref x0), .null, (.ref x2)] 3 = mkF m 0 #[.val (.ref x0), .val .null, .val (.ref x2)] [] := by first | (simp [entryFrame, mkF, argsToLocals, Value.category]; done) | rfl
def Q8 (Z : State) (aa0 : Addr) (aa2 : Addr) (u_province : Value) (u_coast : Value) (h0 : Heap) (n0 : Nat) (v : Option Value) (h : Heap) (L : List Loc) : Prop := v = none ∧ Fr n0 L ∧ Keep h0 h [aa0] ∧ (Fld Z h aa0 "com/example/outremer_engine/outremerengine/board/Place" "province" "Lcom/example/outremer_engine/outremerengine/board/Province;" .null) ∧ (Fld Z h aa0 "com/example/outremer_engine/outremerengine/board/Place" "coast" "Ljava/lang/String;" (.ref aa2))
set_option maxRecDepth 65536 in
set_option maxHeartbeats 40000000 in
theorem rm8 (l : Launch) (Z : State) (a0 : Array Value) (hw : ∀ d ∈ tables_1, d.before a0 Z = true) (ws : List Jvm.Cond) (aa0 : Addr) (aa2 : Addr) (u_province : Value) (u_coast : Value) (h0 : Heap) (n0 : Nat) (Z0 : n0 ≤ h0.size) (E_aa0 : Exa Z h0 aa0 "com/example/outremer_engine/outremerengine/board/Place") (g_aa0 : n0 ≤ aa0) (F_aa0_province : Fld Z h0 aa0 "com/example/outremer_engine/outremerengine/board/Place" "province" "Lcom/example/outremer_engine/outremerengine/board/Province;" u_province) (F_aa0_coast : Fld Z h0 aa0 "com/example/outremer_engine/outremerengine/board/Place" "coast" "Ljava/lang/String;" u_coast) :
    MetFree l (⟨"com/example/outremer_engine/outremerengine/board/Place", "<init>", "(Lcom/example/outremer_engine/outremerengine/board/Province;Ljava/lang/String;)V"⟩ : MethodName) (head1 (Jvm.Cond.code (⟨"com/example/outremer_engine/outremerengine/board/Place", "<init>", "(Lcom/example/outremer_engine/outremerengine/board/Province;Ljava/lang/String;)V"⟩ : MethodName) prog_5_method_2_code 3 none :: ws) ({ frames := 2, cells := 0, slots := 0, locals := 24 } : Room)) (fun a U => a = #[(.ref aa0), .null, (.ref aa2)] ∧ Z.Warmed39 U.vm ∧ U.heap = h0) (fun _ _ _ _ _ => True) (fun _ U o U' => ∃ v L, o = .returned v ∧ Q8 Z aa0 aa2 u_province u_coast h0 n0 v U'.heap L ∧ FrameEnd U o U' L ({ frames := 2, cells := 0, slots := 0, locals := 24 } : Room).cells ({ frames := 2, cells := 0, slots := 0, locals := 24 } : Room).slots) := by
  refine MetFree.of_bodySF (plainFor_of_name pn_com_example_outremer_engine_outremerengine_board_Place) hisR ?_
  intro p e s m args below meth c s₁ Bd hml0 hP hK
  obtain ⟨rfl, hZ, hh⟩ := hP
  have hx := Bd.exec
  have hby := Bd.bytes
  have hml : c.maxLocals = 3 := hml0
  have hown : s.vm.findClass "com/example/outremer_engine/outremerengine/board/Place" = some m.cls := findClass_of_methodNamed Bd.named
  have hnm := (name_of_methodNamed Bd.named Bd.method).1
  have X0 : Stand p l e ({ frames := 2, cells := 0, slots := 0, locals := 24 } : Room) s m #[(.ref aa0), .null, (.ref aa2)] below meth c s₁ [] 0 0 := Stand.of_body Bd
  have e0 : s₁.heap = h0 := by rw [← hh, Bd.state]; rfl
  have N0 := Fr.nil n0
  have pre0 : ∀ t, Steps p.tables e below (s₁.setTop (mkF m 0 #[.val (.ref aa0), .val .null, .val (.ref aa2)] [])) t → Steps p.tables e below (s₁.setTop (entryFrame m #[(.ref aa0), .null, (.ref aa2)] 3)) t := fun t k => castTop (ef_8 m aa0 aa2) k
  obtain ⟨_, _, ⟨T1, L1, k1, n1⟩, -, X1, ⟨Lc1, hQ1, l1, y1, z1⟩, st1⟩ := X0.specialBack hx (y := (⟨"java/lang/Record", "<init>", "()V"⟩ : MethodName)) rfl hown (mvT hZ (hw _ (List.mem_of_getElem? (i := 40) rfl))) (mvT hZ (hw _ (List.mem_of_getElem? (i := 41) rfl))) (mvT hZ (hw _ (List.mem_of_getElem? (i := 44) rfl))) (by decide) (backOf (W := 0) (rm9 l Z a0 hw [] aa0 h0 n0 Z0 ) hZ (hw _ (List.mem_of_getElem? (i := 44) rfl)) (hw _ (List.mem_of_getElem? (i := 43) rfl)) (by decide) (by decide)) (g := (mkF m 1 #[.val (.ref aa0), .val .null, .val (.ref aa2)] [(.ref aa0)])) rfl (by rw [hml]; rfl) (Steps.refl _) (a := aa0) (argsL := []) (rest := []) (lenOf pd__28__29_V rfl) rfl (by show 2 * 0 + _ ≤ _; exact Nat.le_of_eq rfl) (hb hby d8_1) (fun _ _ => ⟨rfl, e0, (by decide : 0 + 0 ≤ _), (by decide : 0 + 0 ≤ _)⟩)
  dsimp only [Pt.U, Pt.locs, Pt.cells, Pt.slots] at X1 l1 y1 z1 st1 hQ1
  subst y1 z1
  obtain ⟨rfl, N1q, e1⟩ := hQ1
  have N1 : Fr n0 L1 := by rw [l1]; exact Fr.app N0 N1q
  change Stand _ _ _ _ _ _ _ _ _ _ _ _ 0 0 at X1
  obtain ⟨T2, h2, X2, e2, W2, st2⟩ := putF X1 hx hZ hown (host := "") (Or.inl (hw _ (List.mem_of_getElem? (i := 46) rfl))) Via.refl e1 F_aa0_province E_aa0 (Or.inr ⟨(hw _ (List.mem_of_getElem? (i := 47) rfl)), rfl, hnm⟩) (hw _ (List.mem_of_getElem? (i := 1) rfl)) (ty := (.object "com/example/outremer_engine/outremerengine/board/Province")) (by decide) rfl rfl (g := (mkF m 6 #[.val (.ref aa0), .val .null, .val (.ref aa2)] [.null, (.ref aa0)])) rfl rfl (hb hby d8_6)
  have N2 := Fr.snoc X2 N1 g_aa0
  have Z2 : n0 ≤ h2.size := Nat.le_trans Z0 (Keep.of_wr W2).1
  have K2 : Keep h0 h2 [aa0] := (Keep.refl h0 [aa0]).wr W2 (Or.inl (List.mem_of_getElem? (i := 0) rfl))
  have F2 : Fld Z h2 aa0 "com/example/outremer_engine/outremerengine/board/Place" "province" "Lcom/example/outremer_engine/outremerengine/board/Province;" .null := F_aa0_province.same W2
  have E_3 : Exa Z h2 aa0 "com/example/outremer_engine/outremerengine/board/Place" := (E_aa0.wr W2)
  have F_4 : Fld Z h2 aa0 "com/example/outremer_engine/outremerengine/board/Place" "coast" "Ljava/lang/String;" u_coast := (F_aa0_coast.other W2 (Or.inr (slot_ne (Or.inr (hw _ (List.mem_of_getElem? (i := 49) rfl))) (Or.inr (hw _ (List.mem_of_getElem? (i := 47) rfl))) (by decide) (t := (.object "java/lang/String")) (t' := (.object "com/example/outremer_engine/outremerengine/board/Province")) (by decide) (by decide))))
  obtain ⟨T5, h5, X5, e5, W5, st5⟩ := putF X2 hx hZ hown (host := "") (Or.inl (hw _ (List.mem_of_getElem? (i := 48) rfl))) Via.refl e2 F_4 E_3 (Or.inr ⟨(hw _ (List.mem_of_getElem? (i := 49) rfl)), rfl, hnm⟩) (hw _ (List.mem_of_getElem? (i := 1) rfl)) (ty := (.object "java/lang/String")) (by decide) rfl rfl (g := (mkF m 11 #[.val (.ref aa0), .val .null, .val (.ref aa2)] [(.ref aa2), (.ref aa0)])) rfl rfl (hb hby d8_11)
  have N5 := Fr.snoc X5 N2 g_aa0
  have Z5 : n0 ≤ h5.size := Nat.le_trans Z2 (Keep.of_wr W5).1
  have K5 : Keep h0 h5 [aa0] := K2.wr W5 (Or.inl (List.mem_of_getElem? (i := 0) rfl))
  have F5 : Fld Z h5 aa0 "com/example/outremer_engine/outremerengine/board/Place" "coast" "Ljava/lang/String;" (.ref aa2) := F_4.same W5
  have F_6 : Fld Z h5 aa0 "com/example/outremer_engine/outremerengine/board/Place" "province" "Lcom/example/outremer_engine/outremerengine/board/Province;" .null := (F2.other W5 (Or.inr (slot_ne (Or.inr (hw _ (List.mem_of_getElem? (i := 47) rfl))) (Or.inr (hw _ (List.mem_of_getElem? (i := 49) rfl))) (by decide) (t := (.object "com/example/outremer_engine/outremerengine/board/Province")) (t' := (.object "java/lang/String")) (by decide) (by decide))))
  obtain ⟨fs, hr, hrun, hended, hW, hsame⟩ := X5.leave (v := none) (fun _ => rfl)
  refine ⟨_, _, pre0 _ ?_, hrun, hended, _, _, rfl, ?_, ⟨_, rfl⟩, hW, hsame.mono (by decide) (by decide)⟩
  · show Steps p.tables e below (s₁.setTop (mkF m 0 #[.val (.ref aa0), .val .null, .val (.ref aa2)] [])) _
    refine XS.aloadN X0.here hx rfl (hb hby d8_0) rfl rfl ?_
    refine st1.trans ?_
    refine XS.aloadN X1.here hx rfl (hb hby d8_4) rfl rfl ?_
    refine XS.aloadN X1.here hx rfl (hb hby d8_5) rfl rfl ?_
    refine st2 _ ?_
    refine XS.aloadN X2.here hx rfl (hb hby d8_9) rfl rfl ?_
    refine XS.aloadN X2.here hx rfl (hb hby d8_10) rfl rfl ?_
    refine st5 _ ?_
    exact X5.returnOut hx Bd.returns (hb hby d8_14) hr
  · show Q8 Z aa0 aa2 u_province u_coast h0 n0 _ T5.heap _
    rw [e5]
    exact ⟨rfl, N5, K5, F_6, F5⟩
theorem pn_com_example_outremer_engine_outremerengine_board_Unit : plainName "com/example/outremer_engine/outremerengine/board/Unit" = true := by first | (simp [plainName, overriddenIn]; done) | decide +kernel
theorem d10_0 : decode prog_8_method_1_code 0 = .ok (.aload_n 0, 1) := by decide +kernel
theorem d10_1 : decode prog_8_method_1_code 1 = .ok (.invokespecial 1, 3) := by decide +kernel
theorem d10_4 : decode prog_8_method_1_code 4 = .ok (.aload_n 0, 1) := by decide +kernel
theorem d10_5 : decode prog_8_method_1_code 5 = .ok (.aload_n 1, 1) := by decide +kernel
theorem d10_6 : decode prog_8_method_1_code 6 = .ok (.putfield 7, 3) := by decide +kernel
theorem d10_9 : decode prog_8_method_1_code 9 = .ok (.aload_n 0, 1) := by decide +kernel
theorem d10_10 : decode prog_8_method_1_code 10 = .ok (.aload_n 2, 1) := by decide +kernel
theorem d10_11 : decode prog_8_method_1_code 11 = .ok (.putfield 13, 3) := by decide +kernel
theorem d10_14 : decode prog_8_method_1_code 14 = .ok (.aload_n 0, 1) := by decide +kernel
theorem d10_15 : decode prog_8_method_1_code 15 = .ok (.aload_n 3, 1) := by decide +kernel
theorem d10_16 : decode prog_8_method_1_code 16 = .ok (.putfield 17, 3) := by decide +kernel
theorem d10_19 : decode prog_8_method_1_code 19 = .ok (.return_, 1) := by decide +kernel
theorem ef_10 (m : MethodId) (x0 : Addr) (x1 : Addr) (x3 : Addr) : entryFrame m #[(.ref x0), (.ref x1), .null, (.ref x3)] 4 = mkF m 0 #[.val (.ref x0), .val (.ref x1), .val .null, .val (.ref x3)] [] := by first | (simp [entryFrame, mkF, argsToLocals, Value.category]; done) | rfl
def Q10 (Z : State) (aa0 : Addr) (aa1 : Addr) (aa3 : Addr) (u_nation : Value) (u_type : Value) (u_place : Value) (h0 : Heap) (n0 : Nat) (v : Option Value) (h : Heap) (L : List Loc) : Prop := v = none ∧ Fr n0 L ∧ Keep h0 h [aa0] ∧ (Fld Z h aa0 "com/example/outremer_engine/outremerengine/board/Unit" "nation" "Ljava/lang/String;" (.ref aa1)) ∧ (Fld Z h aa0 "com/example/outremer_engine/outremerengine/board/Unit" "type" "Lcom/example/outremer_engine/outremerengine/board/UnitType;" .null) ∧ (Fld Z h aa0 "com/example/outremer_engine/outremerengine/board/Unit" "place" "Lcom/example/outremer_engine/outremerengine/board/Place;" (.ref aa3))
set_option maxRecDepth 65536 in
set_option maxHeartbeats 40000000 in
theorem rm10 (l : Launch) (Z : State) (a0 : Array Value) (hw : ∀ d ∈ tables_1, d.before a0 Z = true) (ws : List Jvm.Cond) (aa0 : Addr) (aa1 : Addr) (aa3 : Addr) (u_nation : Value) (u_type : Value) (u_place : Value) (h0 : Heap) (n0 : Nat) (Z0 : n0 ≤ h0.size) (E_aa0 : Exa Z h0 aa0 "com/example/outremer_engine/outremerengine/board/Unit") (g_aa0 : n0 ≤ aa0) (F_aa0_nation : Fld Z h0 aa0 "com/example/outremer_engine/outremerengine/board/Unit" "nation" "Ljava/lang/String;" u_nation) (F_aa0_type : Fld Z h0 aa0 "com/example/outremer_engine/outremerengine/board/Unit" "type" "Lcom/example/outremer_engine/outremerengine/board/UnitType;" u_type) (F_aa0_place : Fld Z h0 aa0 "com/example/outremer_engine/outremerengine/board/Unit" "place" "Lcom/example/outremer_engine/outremerengine/board/Place;" u_place) :
    MetFree l (⟨"com/example/outremer_engine/outremerengine/board/Unit", "<init>", "(Ljava/lang/String;Lcom/example/outremer_engine/outremerengine/board/UnitType;Lcom/example/outremer_engine/outremerengine/board/Place;)V"⟩ : MethodName) (head1 (Jvm.Cond.code (⟨"com/example/outremer_engine/outremerengine/board/Unit", "<init>", "(Ljava/lang/String;Lcom/example/outremer_engine/outremerengine/board/UnitType;Lcom/example/outremer_engine/outremerengine/board/Place;)V"⟩ : MethodName) prog_8_method_1_code 4 none :: ws) ({ frames := 2, cells := 0, slots := 0, locals := 24 } : Room)) (fun a U => a = #[(.ref aa0), (.ref aa1), .null, (.ref aa3)] ∧ Z.Warmed39 U.vm ∧ U.heap = h0) (fun _ _ _ _ _ => True) (fun _ U o U' => ∃ v L, o = .returned v ∧ Q10 Z aa0 aa1 aa3 u_nation u_type u_place h0 n0 v U'.heap L ∧ FrameEnd U o U' L ({ frames := 2, cells := 0, slots := 0, locals := 24 } : Room).cells ({ frames := 2, cells := 0, slots := 0, locals := 24 } : Room).slots) := by
  refine MetFree.of_bodySF (plainFor_of_name pn_com_example_outremer_engine_outremerengine_board_Unit) hisR ?_
  intro p e s m args below meth c s₁ Bd hml0 hP hK
  obtain ⟨rfl, hZ, hh⟩ := hP
  have hx := Bd.exec
  have hby := Bd.bytes
  have hml : c.maxLocals = 4 := hml0
  have hown : s.vm.findClass "com/example/outremer_engine/outremerengine/board/Unit" = some m.cls := findClass_of_methodNamed Bd.named
  have hnm := (name_of_methodNamed Bd.named Bd.method).1
  have X0 : Stand p l e ({ frames := 2, cells := 0, slots := 0, locals := 24 } : Room) s m #[(.ref aa0), (.ref aa1), .null, (.ref aa3)] below meth c s₁ [] 0 0 := Stand.of_body Bd
  have e0 : s₁.heap = h0 := by rw [← hh, Bd.state]; rfl
  have N0 := Fr.nil n0
  have pre0 : ∀ t, Steps p.tables e below (s₁.setTop (mkF m 0 #[.val (.ref aa0), .val (.ref aa1), .val .null, .val (.ref aa3)] [])) t → Steps p.tables e below (s₁.setTop (entryFrame m #[(.ref aa0), (.ref aa1), .null, (.ref aa3)] 4)) t := fun t k => castTop (ef_10 m aa0 aa1 aa3) k
  obtain ⟨_, _, ⟨T1, L1, k1, n1⟩, -, X1, ⟨Lc1, hQ1, l1, y1, z1⟩, st1⟩ := X0.specialBack hx (y := (⟨"java/lang/Record", "<init>", "()V"⟩ : MethodName)) rfl hown (mvT hZ (hw _ (List.mem_of_getElem? (i := 56) rfl))) (mvT hZ (hw _ (List.mem_of_getElem? (i := 41) rfl))) (mvT hZ (hw _ (List.mem_of_getElem? (i := 44) rfl))) (by decide) (backOf (W := 0) (rm9 l Z a0 hw [] aa0 h0 n0 Z0 ) hZ (hw _ (List.mem_of_getElem? (i := 44) rfl)) (hw _ (List.mem_of_getElem? (i := 43) rfl)) (by decide) (by decide)) (g := (mkF m 1 #[.val (.ref aa0), .val (.ref aa1), .val .null, .val (.ref aa3)] [(.ref aa0)])) rfl (by rw [hml]; rfl) (Steps.refl _) (a := aa0) (argsL := []) (rest := []) (lenOf pd__28__29_V rfl) rfl (by show 2 * 0 + _ ≤ _; exact Nat.le_of_eq rfl) (hb hby d10_1) (fun _ _ => ⟨rfl, e0, (by decide : 0 + 0 ≤ _), (by decide : 0 + 0 ≤ _)⟩)
  dsimp only [Pt.U, Pt.locs, Pt.cells, Pt.slots] at X1 l1 y1 z1 st1 hQ1
  subst y1 z1
  obtain ⟨rfl, N1q, e1⟩ := hQ1
  have N1 : Fr n0 L1 := by rw [l1]; exact Fr.app N0 N1q
  change Stand _ _ _ _ _ _ _ _ _ _ _ _ 0 0 at X1
  obtain ⟨T2, h2, X2, e2, W2, st2⟩ := putF X1 hx hZ hown (host := "") (Or.inl (hw _ (List.mem_of_getElem? (i := 57) rfl))) Via.refl e1 F_aa0_nation E_aa0 (Or.inr ⟨(hw _ (List.mem_of_getElem? (i := 58) rfl)), rfl, hnm⟩) (hw _ (List.mem_of_getElem? (i := 51) rfl)) (ty := (.object "java/lang/String")) (by decide) rfl rfl (g := (mkF m 6 #[.val (.ref aa0), .val (.ref aa1), .val .null, .val (.ref aa3)] [(.ref aa1), (.ref aa0)])) rfl rfl (hb hby d10_6)
  have N2 := Fr.snoc X2 N1 g_aa0
  have Z2 : n0 ≤ h2.size := Nat.le_trans Z0 (Keep.of_wr W2).1
  have K2 : Keep h0 h2 [aa0] := (Keep.refl h0 [aa0]).wr W2 (Or.inl (List.mem_of_getElem? (i := 0) rfl))
  have F2 : Fld Z h2 aa0 "com/example/outremer_engine/outremerengine/board/Unit" "nation" "Ljava/lang/String;" (.ref aa1) := F_aa0_nation.same W2
  have E_3 : Exa Z h2 aa0 "com/example/outremer_engine/outremerengine/board/Unit" := (E_aa0.wr W2)
  have F_4 : Fld Z h2 aa0 "com/example/outremer_engine/outremerengine/board/Unit" "type" "Lcom/example/outremer_engine/outremerengine/board/UnitType;" u_type := (F_aa0_type.other W2 (Or.inr (slot_ne (Or.inr (hw _ (List.mem_of_getElem? (i := 60) rfl))) (Or.inr (hw _ (List.mem_of_getElem? (i := 58) rfl))) (by decide) (t := (.object "com/example/outremer_engine/outremerengine/board/UnitType")) (t' := (.object "java/lang/String")) (by decide) (by decide))))
  obtain ⟨T5, h5, X5, e5, W5, st5⟩ := putF X2 hx hZ hown (host := "") (Or.inl (hw _ (List.mem_of_getElem? (i := 59) rfl))) Via.refl e2 F_4 E_3 (Or.inr ⟨(hw _ (List.mem_of_getElem? (i := 60) rfl)), rfl, hnm⟩) (hw _ (List.mem_of_getElem? (i := 51) rfl)) (ty := (.object "com/example/outremer_engine/outremerengine/board/UnitType")) (by decide) rfl rfl (g := (mkF m 11 #[.val (.ref aa0), .val (.ref aa1), .val .null, .val (.ref aa3)] [.null, (.ref aa0)])) rfl rfl (hb hby d10_11)
  have N5 := Fr.snoc X5 N2 g_aa0
  have Z5 : n0 ≤ h5.size := Nat.le_trans Z2 (Keep.of_wr W5).1
  have K5 : Keep h0 h5 [aa0] := K2.wr W5 (Or.inl (List.mem_of_getElem? (i := 0) rfl))
  have F5 : Fld Z h5 aa0 "com/example/outremer_engine/outremerengine/board/Unit" "type" "Lcom/example/outremer_engine/outremerengine/board/UnitType;" .null := F_4.same W5
  have E_6 : Exa Z h5 aa0 "com/example/outremer_engine/outremerengine/board/Unit" := (E_3.wr W5)
  have F_7 : Fld Z h5 aa0 "com/example/outremer_engine/outremerengine/board/Unit" "place" "Lcom/example/outremer_engine/outremerengine/board/Place;" u_place := ((F_aa0_place.other W2 (Or.inr (slot_ne (Or.inr (hw _ (List.mem_of_getElem? (i := 62) rfl))) (Or.inr (hw _ (List.mem_of_getElem? (i := 58) rfl))) (by decide) (t := (.object "com/example/outremer_engine/outremerengine/board/Place")) (t' := (.object "java/lang/String")) (by decide) (by decide)))).other W5 (Or.inr (slot_ne (Or.inr (hw _ (List.mem_of_getElem? (i := 62) rfl))) (Or.inr (hw _ (List.mem_of_getElem? (i := 60) rfl))) (by decide) (t := (.object "com/example/outremer_engine/outremerengine/board/Place")) (t' := (.object "com/example/outremer_engine/outremerengine/board/UnitType")) (by decide) (by decide))))
  obtain ⟨T8, h8, X8, e8, W8, st8⟩ := putF X5 hx hZ hown (host := "") (Or.inl (hw _ (List.mem_of_getElem? (i := 61) rfl))) Via.refl e5 F_7 E_6 (Or.inr ⟨(hw _ (List.mem_of_getElem? (i := 62) rfl)), rfl, hnm⟩) (hw _ (List.mem_of_getElem? (i := 51) rfl)) (ty := (.object "com/example/outremer_engine/outremerengine/board/Place")) (by decide) rfl rfl (g := (mkF m 16 #[.val (.ref aa0), .val (.ref aa1), .val .null, .val (.ref aa3)] [(.ref aa3), (.ref aa0)])) rfl rfl (hb hby d10_16)
  have N8 := Fr.snoc X8 N5 g_aa0
  have Z8 : n0 ≤ h8.size := Nat.le_trans Z5 (Keep.of_wr W8).1
  have K8 : Keep h0 h8 [aa0] := K5.wr W8 (Or.inl (List.mem_of_getElem? (i := 0) rfl))
  have F8 : Fld Z h8 aa0 "com/example/outremer_engine/outremerengine/board/Unit" "place" "Lcom/example/outremer_engine/outremerengine/board/Place;" (.ref aa3) := F_7.same W8
  have F_9 : Fld Z h8 aa0 "com/example/outremer_engine/outremerengine/board/Unit" "nation" "Ljava/lang/String;" (.ref aa1) := ((F2.other W5 (Or.inr (slot_ne (Or.inr (hw _ (List.mem_of_getElem? (i := 58) rfl))) (Or.inr (hw _ (List.mem_of_getElem? (i := 60) rfl))) (by decide) (t := (.object "java/lang/String")) (t' := (.object "com/example/outremer_engine/outremerengine/board/UnitType")) (by decide) (by decide)))).other W8 (Or.inr (slot_ne (Or.inr (hw _ (List.mem_of_getElem? (i := 58) rfl))) (Or.inr (hw _ (List.mem_of_getElem? (i := 62) rfl))) (by decide) (t := (.object "java/lang/String")) (t' := (.object "com/example/outremer_engine/outremerengine/board/Place")) (by decide) (by decide))))
  have F_10 : Fld Z h8 aa0 "com/example/outremer_engine/outremerengine/board/Unit" "type" "Lcom/example/outremer_engine/outremerengine/board/UnitType;" .null := (F5.other W8 (Or.inr (slot_ne (Or.inr (hw _ (List.mem_of_getElem? (i := 60) rfl))) (Or.inr (hw _ (List.mem_of_getElem? (i := 62) rfl))) (by decide) (t := (.object "com/example/outremer_engine/outremerengine/board/UnitType")) (t' := (.object "com/example/outremer_engine/outremerengine/board/Place")) (by decide) (by decide))))
  obtain ⟨fs, hr, hrun, hended, hW, hsame⟩ := X8.leave (v := none) (fun _ => rfl)
  refine ⟨_, _, pre0 _ ?_, hrun, hended, _, _, rfl, ?_, ⟨_, rfl⟩, hW, hsame.mono (by decide) (by decide)⟩
  · show Steps p.tables e below (s₁.setTop (mkF m 0 #[.val (.ref aa0), .val (.ref aa1), .val .null, .val (.ref aa3)] [])) _
    refine XS.aloadN X0.here hx rfl (hb hby d10_0) rfl rfl ?_
    refine st1.trans ?_
    refine XS.aloadN X1.here hx rfl (hb hby d10_4) rfl rfl ?_
    refine XS.aloadN X1.here hx rfl (hb hby d10_5) rfl rfl ?_
    refine st2 _ ?_
    refine XS.aloadN X2.here hx rfl (hb hby d10_9) rfl rfl ?_
    refine XS.aloadN X2.here hx rfl (hb hby d10_10) rfl rfl ?_
    refine st5 _ ?_
    refine XS.aloadN X5.here hx rfl (hb hby d10_14) rfl rfl ?_
    refine XS.aloadN X5.here hx rfl (hb hby d10_15) rfl rfl ?_
    refine st8 _ ?_
    exact X8.returnOut hx Bd.returns (hb hby d10_19) hr
  · show Q10 Z aa0 aa1 aa3 u_nation u_type u_place h0 n0 _ T8.heap _
    rw [e8]
    exact ⟨rfl, N8, K8, F_9, F_10, F8⟩
theorem pn_com_example_outremer_engine_outremerengine_diplomacy_Order_SupportMove : plainName "com/example/outremer_engine/outremerengine/diplomacy/Order$SupportMove" = true := by first | (simp [plainName, overriddenIn]; done) | decide +kernel
theorem d11_0 : decode prog_81_method_1_code 0 = .ok (.aload_n 0, 1) := by decide +kernel
theorem d11_1 : decode prog_81_method_1_code 1 = .ok (.invokespecial 1, 3) := by decide +kernel
theorem d11_4 : decode prog_81_method_1_code 4 = .ok (.aload_n 0, 1) := by decide +kernel
theorem d11_5 : decode prog_81_method_1_code 5 = .ok (.aload_n 1, 1) := by decide +kernel
theorem d11_6 : decode prog_81_method_1_code 6 = .ok (.putfield 7, 3) := by decide +kernel
theorem d11_9 : decode prog_81_method_1_code 9 = .ok (.aload_n 0, 1) := by decide +kernel
theorem d11_10 : decode prog_81_method_1_code 10 = .ok (.aload_n 2, 1) := by decide +kernel
theorem d11_11 : decode prog_81_method_1_code 11 = .ok (.putfield 13, 3) := by decide +kernel
theorem d11_14 : decode prog_81_method_1_code 14 = .ok (.aload_n 0, 1) := by decide +kernel
theorem d11_15 : decode prog_81_method_1_code 15 = .ok (.aload_n 3, 1) := by decide +kernel
theorem d11_16 : decode prog_81_method_1_code 16 = .ok (.putfield 17, 3) := by decide +kernel
theorem d11_19 : decode prog_81_method_1_code 19 = .ok (.aload_n 0, 1) := by decide +kernel
theorem d11_20 : decode prog_81_method_1_code 20 = .ok (.aload 4, 2) := by decide +kernel
theorem d11_22 : decode prog_81_method_1_code 22 = .ok (.putfield 21, 3) := by decide +kernel
theorem d11_25 : decode prog_81_method_1_code 25 = .ok (.return_, 1) := by decide +kernel
theorem ef_11_n (m : MethodId) (x0 : Addr) (x1 : Addr) (x3 : Addr) (x4 : Addr) : entryFrame m #[(.ref x0), (.ref x1), .null, (.ref x3), (.ref x4)] 5 = mkF m 0 #[.val (.ref x0), .val (.ref x1), .val .null, .val (.ref x3), .val (.ref x4)] [] := by first | (simp [entryFrame, mkF, argsToLocals, Value.category]; done) | rfl
def Q11_n (Z : State) (aa0 : Addr) (aa1 : Addr) (aa3 : Addr) (aa4 : Addr) (u_unit : Value) (u_supportedType : Value) (u_from : Value) (u_to : Value) (h0 : Heap) (n0 : Nat) (v : Option Value) (h : Heap) (L : List Loc) : Prop := v = none ∧ Fr n0 L ∧ Keep h0 h [aa0] ∧ (Fld Z h aa0 "com/example/outremer_engine/outremerengine/diplomacy/Order$SupportMove" "unit" "Lcom/example/outremer_engine/outremerengine/board/Unit;" (.ref aa1)) ∧ (Fld Z h aa0 "com/example/outremer_engine/outremerengine/diplomacy/Order$SupportMove" "supportedType" "Ljava/util/Optional;" .null) ∧ (Fld Z h aa0 "com/example/outremer_engine/outremerengine/diplomacy/Order$SupportMove" "from" "Lcom/example/outremer_engine/outremerengine/board/Place;" (.ref aa3)) ∧ (Fld Z h aa0 "com/example/outremer_engine/outremerengine/diplomacy/Order$SupportMove" "to" "Lcom/example/outremer_engine/outremerengine/board/Place;" (.ref aa4))
set_option maxRecDepth 65536 in
set_option maxHeartbeats 40000000 in
theorem rm11_n (l : Launch) (Z : State) (a0 : Array Value) (hw : ∀ d ∈ tables_1, d.before a0 Z = true) (ws : List Jvm.Cond) (aa0 : Addr) (aa1 : Addr) (aa3 : Addr) (aa4 : Addr) (u_unit : Value) (u_supportedType : Value) (u_from : Value) (u_to : Value) (h0 : Heap) (n0 : Nat) (Z0 : n0 ≤ h0.size) (E_aa0 : Exa Z h0 aa0 "com/example/outremer_engine/outremerengine/diplomacy/Order$SupportMove") (g_aa0 : n0 ≤ aa0) (F_aa0_unit : Fld Z h0 aa0 "com/example/outremer_engine/outremerengine/diplomacy/Order$SupportMove" "unit" "Lcom/example/outremer_engine/outremerengine/board/Unit;" u_unit) (F_aa0_supportedType : Fld Z h0 aa0 "com/example/outremer_engine/outremerengine/diplomacy/Order$SupportMove" "supportedType" "Ljava/util/Optional;" u_supportedType) (F_aa0_from : Fld Z h0 aa0 "com/example/outremer_engine/outremerengine/diplomacy/Order$SupportMove" "from" "Lcom/example/outremer_engine/outremerengine/board/Place;" u_from) (F_aa0_to : Fld Z h0 aa0 "com/example/outremer_engine/outremerengine/diplomacy/Order$SupportMove" "to" "Lcom/example/outremer_engine/outremerengine/board/Place;" u_to) :
    MetFree l (⟨"com/example/outremer_engine/outremerengine/diplomacy/Order$SupportMove", "<init>", "(Lcom/example/outremer_engine/outremerengine/board/Unit;Ljava/util/Optional;Lcom/example/outremer_engine/outremerengine/board/Place;Lcom/example/outremer_engine/outremerengine/board/Place;)V"⟩ : MethodName) (head1 (Jvm.Cond.code (⟨"com/example/outremer_engine/outremerengine/diplomacy/Order$SupportMove", "<init>", "(Lcom/example/outremer_engine/outremerengine/board/Unit;Ljava/util/Optional;Lcom/example/outremer_engine/outremerengine/board/Place;Lcom/example/outremer_engine/outremerengine/board/Place;)V"⟩ : MethodName) prog_81_method_1_code 5 none :: ws) ({ frames := 2, cells := 0, slots := 0, locals := 24 } : Room)) (fun a U => a = #[(.ref aa0), (.ref aa1), .null, (.ref aa3), (.ref aa4)] ∧ Z.Warmed39 U.vm ∧ U.heap = h0) (fun _ _ _ _ _ => True) (fun _ U o U' => ∃ v L, o = .returned v ∧ Q11_n Z aa0 aa1 aa3 aa4 u_unit u_supportedType u_from u_to h0 n0 v U'.heap L ∧ FrameEnd U o U' L ({ frames := 2, cells := 0, slots := 0, locals := 24 } : Room).cells ({ frames := 2, cells := 0, slots := 0, locals := 24 } : Room).slots) := by
  refine MetFree.of_bodySF (plainFor_of_name pn_com_example_outremer_engine_outremerengine_diplomacy_Order_SupportMove) hisR ?_
  intro p e s m args below meth c s₁ Bd hml0 hP hK
  obtain ⟨rfl, hZ, hh⟩ := hP
  have hx := Bd.exec
  have hby := Bd.bytes
  have hml : c.maxLocals = 5 := hml0
  have hown : s.vm.findClass "com/example/outremer_engine/outremerengine/diplomacy/Order$SupportMove" = some m.cls := findClass_of_methodNamed Bd.named
  have hnm := (name_of_methodNamed Bd.named Bd.method).1
  have X0 : Stand p l e ({ frames := 2, cells := 0, slots := 0, locals := 24 } : Room) s m #[(.ref aa0), (.ref aa1), .null, (.ref aa3), (.ref aa4)] below meth c s₁ [] 0 0 := Stand.of_body Bd
  have e0 : s₁.heap = h0 := by rw [← hh, Bd.state]; rfl
  have N0 := Fr.nil n0
  have pre0 : ∀ t, Steps p.tables e below (s₁.setTop (mkF m 0 #[.val (.ref aa0), .val (.ref aa1), .val .null, .val (.ref aa3), .val (.ref aa4)] [])) t → Steps p.tables e below (s₁.setTop (entryFrame m #[(.ref aa0), (.ref aa1), .null, (.ref aa3), (.ref aa4)] 5)) t := fun t k => castTop (ef_11_n m aa0 aa1 aa3 aa4) k
  obtain ⟨_, _, ⟨T1, L1, k1, n1⟩, -, X1, ⟨Lc1, hQ1, l1, y1, z1⟩, st1⟩ := X0.specialBack hx (y := (⟨"java/lang/Record", "<init>", "()V"⟩ : MethodName)) rfl hown (mvT hZ (hw _ (List.mem_of_getElem? (i := 69) rfl))) (mvT hZ (hw _ (List.mem_of_getElem? (i := 41) rfl))) (mvT hZ (hw _ (List.mem_of_getElem? (i := 44) rfl))) (by decide) (backOf (W := 0) (rm9 l Z a0 hw [] aa0 h0 n0 Z0 ) hZ (hw _ (List.mem_of_getElem? (i := 44) rfl)) (hw _ (List.mem_of_getElem? (i := 43) rfl)) (by decide) (by decide)) (g := (mkF m 1 #[.val (.ref aa0), .val (.ref aa1), .val .null, .val (.ref aa3), .val (.ref aa4)] [(.ref aa0)])) rfl (by rw [hml]; rfl) (Steps.refl _) (a := aa0) (argsL := []) (rest := []) (lenOf pd__28__29_V rfl) rfl (by show 2 * 0 + _ ≤ _; exact Nat.le_of_eq rfl) (hb hby d11_1) (fun _ _ => ⟨rfl, e0, (by decide : 0 + 0 ≤ _), (by decide : 0 + 0 ≤ _)⟩)
  dsimp only [Pt.U, Pt.locs, Pt.cells, Pt.slots] at X1 l1 y1 z1 st1 hQ1
  subst y1 z1
  obtain ⟨rfl, N1q, e1⟩ := hQ1
  have N1 : Fr n0 L1 := by rw [l1]; exact Fr.app N0 N1q
  change Stand _ _ _ _ _ _ _ _ _ _ _ _ 0 0 at X1
  obtain ⟨T2, h2, X2, e2, W2, st2⟩ := putF X1 hx hZ hown (host := "") (Or.inl (hw _ (List.mem_of_getElem? (i := 70) rfl))) Via.refl e1 F_aa0_unit E_aa0 (Or.inr ⟨(hw _ (List.mem_of_getElem? (i := 71) rfl)), rfl, hnm⟩) (hw _ (List.mem_of_getElem? (i := 64) rfl)) (ty := (.object "com/example/outremer_engine/outremerengine/board/Unit")) (by decide) rfl rfl (g := (mkF m 6 #[.val (.ref aa0), .val (.ref aa1), .val .null, .val (.ref aa3), .val (.ref aa4)] [(.ref aa1), (.ref aa0)])) rfl rfl (hb hby d11_6)
  have N2 := Fr.snoc X2 N1 g_aa0
  have Z2 : n0 ≤ h2.size := Nat.le_trans Z0 (Keep.of_wr W2).1
  have K2 : Keep h0 h2 [aa0] := (Keep.refl h0 [aa0]).wr W2 (Or.inl (List.mem_of_getElem? (i := 0) rfl))
  have F2 : Fld Z h2 aa0 "com/example/outremer_engine/outremerengine/diplomacy/Order$SupportMove" "unit" "Lcom/example/outremer_engine/outremerengine/board/Unit;" (.ref aa1) := F_aa0_unit.same W2
  have E_3 : Exa Z h2 aa0 "com/example/outremer_engine/outremerengine/diplomacy/Order$SupportMove" := (E_aa0.wr W2)
  have F_4 : Fld Z h2 aa0 "com/example/outremer_engine/outremerengine/diplomacy/Order$SupportMove" "supportedType" "Ljava/util/Optional;" u_supportedType := (F_aa0_supportedType.other W2 (Or.inr (slot_ne (Or.inr (hw _ (List.mem_of_getElem? (i := 73) rfl))) (Or.inr (hw _ (List.mem_of_getElem? (i := 71) rfl))) (by decide) (t := (.object "java/util/Optional")) (t' := (.object "com/example/outremer_engine/outremerengine/board/Unit")) (by decide) (by decide))))
  obtain ⟨T5, h5, X5, e5, W5, st5⟩ := putF X2 hx hZ hown (host := "") (Or.inl (hw _ (List.mem_of_getElem? (i := 72) rfl))) Via.refl e2 F_4 E_3 (Or.inr ⟨(hw _ (List.mem_of_getElem? (i := 73) rfl)), rfl, hnm⟩) (hw _ (List.mem_of_getElem? (i := 64) rfl)) (ty := (.object "java/util/Optional")) (by decide) rfl rfl (g := (mkF m 11 #[.val (.ref aa0), .val (.ref aa1), .val .null, .val (.ref aa3), .val (.ref aa4)] [.null, (.ref aa0)])) rfl rfl (hb hby d11_11)
  have N5 := Fr.snoc X5 N2 g_aa0
  have Z5 : n0 ≤ h5.size := Nat.le_trans Z2 (Keep.of_wr W5).1
  have K5 : Keep h0 h5 [aa0] := K2.wr W5 (Or.inl (List.mem_of_getElem? (i := 0) rfl))
  have F5 : Fld Z h5 aa0 "com/example/outremer_engine/outremerengine/diplomacy/Order$SupportMove" "supportedType" "Ljava/util/Optional;" .null := F_4.same W5
  have E_6 : Exa Z h5 aa0 "com/example/outremer_engine/outremerengine/diplomacy/Order$SupportMove" := (E_3.wr W5)
  have F_7 : Fld Z h5 aa0 "com/example/outremer_engine/outremerengine/diplomacy/Order$SupportMove" "from" "Lcom/example/outremer_engine/outremerengine/board/Place;" u_from := ((F_aa0_from.other W2 (Or.inr (slot_ne (Or.inr (hw _ (List.mem_of_getElem? (i := 75) rfl))) (Or.inr (hw _ (List.mem_of_getElem? (i := 71) rfl))) (by decide) (t := (.object "com/example/outremer_engine/outremerengine/board/Place")) (t' := (.object "com/example/outremer_engine/outremerengine/board/Unit")) (by decide) (by decide)))).other W5 (Or.inr (slot_ne (Or.inr (hw _ (List.mem_of_getElem? (i := 75) rfl))) (Or.inr (hw _ (List.mem_of_getElem? (i := 73) rfl))) (by decide) (t := (.object "com/example/outremer_engine/outremerengine/board/Place")) (t' := (.object "java/util/Optional")) (by decide) (by decide))))
  obtain ⟨T8, h8, X8, e8, W8, st8⟩ := putF X5 hx hZ hown (host := "") (Or.inl (hw _ (List.mem_of_getElem? (i := 74) rfl))) Via.refl e5 F_7 E_6 (Or.inr ⟨(hw _ (List.mem_of_getElem? (i := 75) rfl)), rfl, hnm⟩) (hw _ (List.mem_of_getElem? (i := 64) rfl)) (ty := (.object "com/example/outremer_engine/outremerengine/board/Place")) (by decide) rfl rfl (g := (mkF m 16 #[.val (.ref aa0), .val (.ref aa1), .val .null, .val (.ref aa3), .val (.ref aa4)] [(.ref aa3), (.ref aa0)])) rfl rfl (hb hby d11_16)
  have N8 := Fr.snoc X8 N5 g_aa0
  have Z8 : n0 ≤ h8.size := Nat.le_trans Z5 (Keep.of_wr W8).1
  have K8 : Keep h0 h8 [aa0] := K5.wr W8 (Or.inl (List.mem_of_getElem? (i := 0) rfl))
  have F8 : Fld Z h8 aa0 "com/example/outremer_engine/outremerengine/diplomacy/Order$SupportMove" "from" "Lcom/example/outremer_engine/outremerengine/board/Place;" (.ref aa3) := F_7.same W8
  have E_9 : Exa Z h8 aa0 "com/example/outremer_engine/outremerengine/diplomacy/Order$SupportMove" := (E_6.wr W8)
  have F_10 : Fld Z h8 aa0 "com/example/outremer_engine/outremerengine/diplomacy/Order$SupportMove" "to" "Lcom/example/outremer_engine/outremerengine/board/Place;" u_to := (((F_aa0_to.other W2 (Or.inr (slot_ne (Or.inr (hw _ (List.mem_of_getElem? (i := 77) rfl))) (Or.inr (hw _ (List.mem_of_getElem? (i := 71) rfl))) (by decide) (t := (.object "com/example/outremer_engine/outremerengine/board/Place")) (t' := (.object "com/example/outremer_engine/outremerengine/board/Unit")) (by decide) (by decide)))).other W5 (Or.inr (slot_ne (Or.inr (hw _ (List.mem_of_getElem? (i := 77) rfl))) (Or.inr (hw _ (List.mem_of_getElem? (i := 73) rfl))) (by decide) (t := (.object "com/example/outremer_engine/outremerengine/board/Place")) (t' := (.object "java/util/Optional")) (by decide) (by decide)))).other W8 (Or.inr (slot_ne (Or.inr (hw _ (List.mem_of_getElem? (i := 77) rfl))) (Or.inr (hw _ (List.mem_of_getElem? (i := 75) rfl))) (by decide) (t := (.object "com/example/outremer_engine/outremerengine/board/Place")) (t' := (.object "com/example/outremer_engine/outremerengine/board/Place")) (by decide) (by decide))))
  obtain ⟨T11, h11, X11, e11, W11, st11⟩ := putF X8 hx hZ hown (host := "") (Or.inl (hw _ (List.mem_of_getElem? (i := 76) rfl))) Via.refl e8 F_10 E_9 (Or.inr ⟨(hw _ (List.mem_of_getElem? (i := 77) rfl)), rfl, hnm⟩) (hw _ (List.mem_of_getElem? (i := 64) rfl)) (ty := (.object "com/example/outremer_engine/outremerengine/board/Place")) (by decide) rfl rfl (g := (mkF m 22 #[.val (.ref aa0), .val (.ref aa1), .val .null, .val (.ref aa3), .val (.ref aa4)] [(.ref aa4), (.ref aa0)])) rfl rfl (hb hby d11_22)
  have N11 := Fr.snoc X11 N8 g_aa0
  have Z11 : n0 ≤ h11.size := Nat.le_trans Z8 (Keep.of_wr W11).1
  have K11 : Keep h0 h11 [aa0] := K8.wr W11 (Or.inl (List.mem_of_getElem? (i := 0) rfl))
  have F11 : Fld Z h11 aa0 "com/example/outremer_engine/outremerengine/diplomacy/Order$SupportMove" "to" "Lcom/example/outremer_engine/outremerengine/board/Place;" (.ref aa4) := F_10.same W11
  have F_12 : Fld Z h11 aa0 "com/example/outremer_engine/outremerengine/diplomacy/Order$SupportMove" "unit" "Lcom/example/outremer_engine/outremerengine/board/Unit;" (.ref aa1) := (((F2.other W5 (Or.inr (slot_ne (Or.inr (hw _ (List.mem_of_getElem? (i := 71) rfl))) (Or.inr (hw _ (List.mem_of_getElem? (i := 73) rfl))) (by decide) (t := (.object "com/example/outremer_engine/outremerengine/board/Unit")) (t' := (.object "java/util/Optional")) (by decide) (by decide)))).other W8 (Or.inr (slot_ne (Or.inr (hw _ (List.mem_of_getElem? (i := 71) rfl))) (Or.inr (hw _ (List.mem_of_getElem? (i := 75) rfl))) (by decide) (t := (.object "com/example/outremer_engine/outremerengine/board/Unit")) (t' := (.object "com/example/outremer_engine/outremerengine/board/Place")) (by decide) (by decide)))).other W11 (Or.inr (slot_ne (Or.inr (hw _ (List.mem_of_getElem? (i := 71) rfl))) (Or.inr (hw _ (List.mem_of_getElem? (i := 77) rfl))) (by decide) (t := (.object "com/example/outremer_engine/outremerengine/board/Unit")) (t' := (.object "com/example/outremer_engine/outremerengine/board/Place")) (by decide) (by decide))))
  have F_13 : Fld Z h11 aa0 "com/example/outremer_engine/outremerengine/diplomacy/Order$SupportMove" "supportedType" "Ljava/util/Optional;" .null := ((F5.other W8 (Or.inr (slot_ne (Or.inr (hw _ (List.mem_of_getElem? (i := 73) rfl))) (Or.inr (hw _ (List.mem_of_getElem? (i := 75) rfl))) (by decide) (t := (.object "java/util/Optional")) (t' := (.object "com/example/outremer_engine/outremerengine/board/Place")) (by decide) (by decide)))).other W11 (Or.inr (slot_ne (Or.inr (hw _ (List.mem_of_getElem? (i := 73) rfl))) (Or.inr (hw _ (List.mem_of_getElem? (i := 77) rfl))) (by decide) (t := (.object "java/util/Optional")) (t' := (.object "com/example/outremer_engine/outremerengine/board/Place")) (by decide) (by decide))))
  have F_14 : Fld Z h11 aa0 "com/example/outremer_engine/outremerengine/diplomacy/Order$SupportMove" "from" "Lcom/example/outremer_engine/outremerengine/board/Place;" (.ref aa3) := (F8.other W11 (Or.inr (slot_ne (Or.inr (hw _ (List.mem_of_getElem? (i := 75) rfl))) (Or.inr (hw _ (List.mem_of_getElem? (i := 77) rfl))) (by decide) (t := (.object "com/example/outremer_engine/outremerengine/board/Place")) (t' := (.object "com/example/outremer_engine/outremerengine/board/Place")) (by decide) (by decide))))
  obtain ⟨fs, hr, hrun, hended, hW, hsame⟩ := X11.leave (v := none) (fun _ => rfl)
  refine ⟨_, _, pre0 _ ?_, hrun, hended, _, _, rfl, ?_, ⟨_, rfl⟩, hW, hsame.mono (by decide) (by decide)⟩
  · show Steps p.tables e below (s₁.setTop (mkF m 0 #[.val (.ref aa0), .val (.ref aa1), .val .null, .val (.ref aa3), .val (.ref aa4)] [])) _
    refine XS.aloadN X0.here hx rfl (hb hby d11_0) rfl rfl ?_
    refine st1.trans ?_
    refine XS.aloadN X1.here hx rfl (hb hby d11_4) rfl rfl ?_
    refine XS.aloadN X1.here hx rfl (hb hby d11_5) rfl rfl ?_
    refine st2 _ ?_
    refine XS.aloadN X2.here hx rfl (hb hby d11_9) rfl rfl ?_
    refine XS.aloadN X2.here hx rfl (hb hby d11_10) rfl rfl ?_
    refine st5 _ ?_
    refine XS.aloadN X5.here hx rfl (hb hby d11_14) rfl rfl ?_
    refine XS.aloadN X5.here hx rfl (hb hby d11_15) rfl rfl ?_
    refine st8 _ ?_
    refine XS.aloadN X8.here hx rfl (hb hby d11_19) rfl rfl ?_
    refine XS.aload X8.here hx rfl (hb hby d11_20) rfl rfl ?_
    refine st11 _ ?_
    exact X11.returnOut hx Bd.returns (hb hby d11_25) hr
  · show Q11_n Z aa0 aa1 aa3 aa4 u_unit u_supportedType u_from u_to h0 n0 _ T11.heap _
    rw [e11]
    exact ⟨rfl, N11, K11, F_12, F_13, F_14, F11⟩
theorem pd__28_Lcom_2f_example_2f_outremer_engine_2f_outremerengine_2f_board_2f_Unit_3b_Ljava_2f_util_2f_Optional_3b_Lcom_2f_example_2f_outremer_engine_2f_outremerengine_2f_board_2f_Place_3b_Lcom_2f_example_2f_outremer_engine_2f_outremerengine_2f_board_2f_Place_3b__29_V : parseMethodDescriptor "(Lcom/example/outremer_engine/outremerengine/board/Unit;Ljava/util/Optional;Lcom/example/outremer_engine/outremerengine/board/Place;Lcom/example/outremer_engine/outremerengine/board/Place;)V" = some ⟨[(.object "com/example/outremer_engine/outremerengine/board/Unit"), (.object "java/util/Optional"), (.object "com/example/outremer_engine/outremerengine/board/Place"), (.object "com/example/outremer_engine/outremerengine/board/Place")], none⟩ := by decide +kernel
theorem d12_0 : decode prog_81_method_2_code 0 = .ok (.new 8, 3) := by decide +kernel
theorem d12_3 : decode prog_81_method_2_code 3 = .ok (.dup, 1) := by decide +kernel
theorem d12_4 : decode prog_81_method_2_code 4 = .ok (.aload_n 1, 1) := by decide +kernel
theorem d12_5 : decode prog_81_method_2_code 5 = .ok (.aload_n 0, 1) := by decide +kernel
theorem d12_6 : decode prog_81_method_2_code 6 = .ok (.getfield 13, 3) := by decide +kernel
theorem d12_9 : decode prog_81_method_2_code 9 = .ok (.aload_n 0, 1) := by decide +kernel
theorem d12_10 : decode prog_81_method_2_code 10 = .ok (.getfield 17, 3) := by decide +kernel
theorem d12_13 : decode prog_81_method_2_code 13 = .ok (.aload_n 0, 1) := by decide +kernel
theorem d12_14 : decode prog_81_method_2_code 14 = .ok (.getfield 21, 3) := by decide +kernel
theorem d12_17 : decode prog_81_method_2_code 17 = .ok (.invokespecial 24, 3) := by decide +kernel
theorem d12_20 : decode prog_81_method_2_code 20 = .ok (.areturn, 1) := by decide +kernel
theorem ef_12_n (m : MethodId) (x0 : Addr) (x1 : Addr) : entryFrame m #[(.ref x0), (.ref x1)] 2 = mkF m 0 #[.val (.ref x0), .val (.ref x1)] [] := by first | (simp [entryFrame, mkF, argsToLocals, Value.category]; done) | rfl
def Q12_n (Z : State) (aa0 : Addr) (aa1 : Addr) (ff : Addr) (tt : Addr) (h0 : Heap) (n0 : Nat) (v : Option Value) (h : Heap) (L : List Loc) : Prop := ∃ (bx : Addr), v = some (.ref bx) ∧ Fr n0 L ∧ Keep h0 h [] ∧ n0 ≤ bx ∧ h0.size ≤ bx ∧ (Exa Z h bx "com/example/outremer_engine/outremerengine/diplomacy/Order$SupportMove") ∧ (Fld Z h bx "com/example/outremer_engine/outremerengine/diplomacy/Order$SupportMove" "unit" "Lcom/example/outremer_engine/outremerengine/board/Unit;" (.ref aa1)) ∧ (Fld Z h bx "com/example/outremer_engine/outremerengine/diplomacy/Order$SupportMove" "supportedType" "Ljava/util/Optional;" .null) ∧ (Fld Z h bx "com/example/outremer_engine/outremerengine/diplomacy/Order$SupportMove" "from" "Lcom/example/outremer_engine/outremerengine/board/Place;" (.ref ff)) ∧ (Fld Z h bx "com/example/outremer_engine/outremerengine/diplomacy/Order$SupportMove" "to" "Lcom/example/outremer_engine/outremerengine/board/Place;" (.ref tt))
set_option maxRecDepth 65536 in
set_option maxHeartbeats 40000000 in
theorem rm12_n (l : Launch) (Z : State) (a0 : Array Value) (hw : ∀ d ∈ tables_1, d.before a0 Z = true) (ws : List Jvm.Cond) (aa0 : Addr) (aa1 : Addr) (ff : Addr) (tt : Addr) (h0 : Heap) (n0 : Nat) (Z0 : n0 ≤ h0.size) (F_aa0_supportedType : Fld Z h0 aa0 "com/example/outremer_engine/outremerengine/diplomacy/Order$SupportMove" "supportedType" "Ljava/util/Optional;" .null) (F_aa0_from : Fld Z h0 aa0 "com/example/outremer_engine/outremerengine/diplomacy/Order$SupportMove" "from" "Lcom/example/outremer_engine/outremerengine/board/Place;" (.ref ff)) (F_aa0_to : Fld Z h0 aa0 "com/example/outremer_engine/outremerengine/diplomacy/Order$SupportMove" "to" "Lcom/example/outremer_engine/outremerengine/board/Place;" (.ref tt)) :
    MetFree l (⟨"com/example/outremer_engine/outremerengine/diplomacy/Order$SupportMove", "givenTo", "(Lcom/example/outremer_engine/outremerengine/board/Unit;)Lcom/example/outremer_engine/outremerengine/diplomacy/Order$SupportMove;"⟩ : MethodName) (head1 (Jvm.Cond.code (⟨"com/example/outremer_engine/outremerengine/diplomacy/Order$SupportMove", "givenTo", "(Lcom/example/outremer_engine/outremerengine/board/Unit;)Lcom/example/outremer_engine/outremerengine/diplomacy/Order$SupportMove;"⟩ : MethodName) prog_81_method_2_code 2 (some (.object "com/example/outremer_engine/outremerengine/diplomacy/Order$SupportMove")) :: ws) ({ frames := 3, cells := 1, slots := 4, locals := 41 } : Room)) (fun a U => a = #[(.ref aa0), (.ref aa1)] ∧ Z.Warmed39 U.vm ∧ U.heap = h0) (fun _ _ _ _ _ => True) (fun _ U o U' => ∃ v L, o = .returned v ∧ Q12_n Z aa0 aa1 ff tt h0 n0 v U'.heap L ∧ FrameEnd U o U' L ({ frames := 3, cells := 1, slots := 4, locals := 41 } : Room).cells ({ frames := 3, cells := 1, slots := 4, locals := 41 } : Room).slots) := by
  refine MetFree.of_bodySF (plainFor_of_name pn_com_example_outremer_engine_outremerengine_diplomacy_Order_SupportMove) hisR ?_
  intro p e s m args below meth c s₁ Bd hml0 hP hK
  obtain ⟨rfl, hZ, hh⟩ := hP
  have hx := Bd.exec
  have hby := Bd.bytes
  have hml : c.maxLocals = 2 := hml0
  have hown : s.vm.findClass "com/example/outremer_engine/outremerengine/diplomacy/Order$SupportMove" = some m.cls := findClass_of_methodNamed Bd.named
  have hnm := (name_of_methodNamed Bd.named Bd.method).1
  have X0 : Stand p l e ({ frames := 3, cells := 1, slots := 4, locals := 41 } : Room) s m #[(.ref aa0), (.ref aa1)] below meth c s₁ [] 0 0 := Stand.of_body Bd
  have e0 : s₁.heap = h0 := by rw [← hh, Bd.state]; rfl
  have N0 := Fr.nil n0
  have pre0 : ∀ t, Steps p.tables e below (s₁.setTop (mkF m 0 #[.val (.ref aa0), .val (.ref aa1)] [])) t → Steps p.tables e below (s₁.setTop (entryFrame m #[(.ref aa0), (.ref aa1)] 2)) t := fun t k => castTop (ef_12_n m aa0 aa1) k
  obtain ⟨T1, h1, X1, e1, E1, A1, D1, -, st1⟩ := newO X0 hx hZ hown (hw _ (List.mem_of_getElem? (i := 83) rfl)) (hw _ (List.mem_of_getElem? (i := 64) rfl)) (hw _ (List.mem_of_getElem? (i := 65) rfl)) e0 (g := (mkF m 0 #[.val (.ref aa0), .val (.ref aa1)] [])) rfl (hb hby d12_0) (by decide) (by decide)
  obtain ⟨b1, g1⟩ : ∃ z, z = h0.size := ⟨_, rfl⟩
  rw [← g1] at A1 D1 st1
  have g_b1 : n0 ≤ b1 := Nat.le_trans Z0 (Nat.le_of_eq g1.symm)
  have sz_b1 : h0.size ≤ b1 := Nat.le_trans (Keep.refl h0 []).1 (Nat.le_of_eq g1.symm)
  have Z1 : n0 ≤ h1.size := Nat.le_trans Z0 E1.1
  have K1 : Keep h0 h1 [] := (Keep.refl h0 []).ext E1
  have F1_unit : Fld Z h1 b1 "com/example/outremer_engine/outremerengine/diplomacy/Order$SupportMove" "unit" "Lcom/example/outremer_engine/outremerengine/board/Unit;" .null := D1 (Or.inr (hw _ (List.mem_of_getElem? (i := 71) rfl))) (ty := (.object "com/example/outremer_engine/outremerengine/board/Unit")) (by decide)
  have F1_supportedType : Fld Z h1 b1 "com/example/outremer_engine/outremerengine/diplomacy/Order$SupportMove" "supportedType" "Ljava/util/Optional;" .null := D1 (Or.inr (hw _ (List.mem_of_getElem? (i := 73) rfl))) (ty := (.object "java/util/Optional")) (by decide)
  have F1_from : Fld Z h1 b1 "com/example/outremer_engine/outremerengine/diplomacy/Order$SupportMove" "from" "Lcom/example/outremer_engine/outremerengine/board/Place;" .null := D1 (Or.inr (hw _ (List.mem_of_getElem? (i := 75) rfl))) (ty := (.object "com/example/outremer_engine/outremerengine/board/Place")) (by decide)
  have F1_to : Fld Z h1 b1 "com/example/outremer_engine/outremerengine/diplomacy/Order$SupportMove" "to" "Lcom/example/outremer_engine/outremerengine/board/Place;" .null := D1 (Or.inr (hw _ (List.mem_of_getElem? (i := 77) rfl))) (ty := (.object "com/example/outremer_engine/outremerengine/board/Place")) (by decide)
  have F_2 : Fld Z h1 aa0 "com/example/outremer_engine/outremerengine/diplomacy/Order$SupportMove" "supportedType" "Ljava/util/Optional;" .null := (F_aa0_supportedType.ext E1)
  obtain ⟨T3, X3, e3, st3⟩ := getF X1 hx hZ hown (host := "") (Or.inl (hw _ (List.mem_of_getElem? (i := 72) rfl))) Via.refl e1 F_2 (g := (mkF m 6 #[.val (.ref aa0), .val (.ref aa1)] [(.ref aa0), (.ref aa1), (.ref b1), (.ref b1)])) rfl rfl (hb hby d12_6)
  have F_4 : Fld Z h1 aa0 "com/example/outremer_engine/outremerengine/diplomacy/Order$SupportMove" "from" "Lcom/example/outremer_engine/outremerengine/board/Place;" (.ref ff) := (F_aa0_from.ext E1)
  obtain ⟨T5, X5, e5, st5⟩ := getF X3 hx hZ hown (host := "") (Or.inl (hw _ (List.mem_of_getElem? (i := 74) rfl))) Via.refl e3 F_4 (g := (mkF m 10 #[.val (.ref aa0), .val (.ref aa1)] [(.ref aa0), .null, (.ref aa1), (.ref b1), (.ref b1)])) rfl rfl (hb hby d12_10)
  have F_6 : Fld Z h1 aa0 "com/example/outremer_engine/outremerengine/diplomacy/Order$SupportMove" "to" "Lcom/example/outremer_engine/outremerengine/board/Place;" (.ref tt) := (F_aa0_to.ext E1)
  obtain ⟨T7, X7, e7, st7⟩ := getF X5 hx hZ hown (host := "") (Or.inl (hw _ (List.mem_of_getElem? (i := 76) rfl))) Via.refl e5 F_6 (g := (mkF m 14 #[.val (.ref aa0), .val (.ref aa1)] [(.ref aa0), (.ref ff), .null, (.ref aa1), (.ref b1), (.ref b1)])) rfl rfl (hb hby d12_14)
  obtain ⟨_, _, ⟨T8, L8, k8, n8⟩, -, X8, ⟨Lc8, hQ8, l8, y8, z8⟩, st8⟩ := X7.specialBack hx (y := (⟨"com/example/outremer_engine/outremerengine/diplomacy/Order$SupportMove", "<init>", "(Lcom/example/outremer_engine/outremerengine/board/Unit;Ljava/util/Optional;Lcom/example/outremer_engine/outremerengine/board/Place;Lcom/example/outremer_engine/outremerengine/board/Place;)V"⟩ : MethodName)) rfl hown (mvT hZ (hw _ (List.mem_of_getElem? (i := 84) rfl))) (mvT hZ (hw _ (List.mem_of_getElem? (i := 67) rfl))) (mvT hZ (hw _ (List.mem_of_getElem? (i := 68) rfl))) (by decide) (backOf (W := 1) (rm11_n l Z a0 hw [] b1 aa1 ff tt .null .null .null .null h1 n0 Z1 A1 g_b1 F1_unit F1_supportedType F1_from F1_to) hZ (hw _ (List.mem_of_getElem? (i := 68) rfl)) (hw _ (List.mem_of_getElem? (i := 65) rfl)) (by decide) (by decide)) (g := (mkF m 17 #[.val (.ref aa0), .val (.ref aa1)] [(.ref tt), (.ref ff), .null, (.ref aa1), (.ref b1), (.ref b1)])) rfl (by rw [hml]; rfl) (Steps.refl _) (a := b1) (argsL := [(.ref aa1), .null, (.ref ff), (.ref tt)]) (rest := [(.ref b1)]) (lenOf pd__28_Lcom_2f_example_2f_outremer_engine_2f_outremerengine_2f_board_2f_Unit_3b_Ljava_2f_util_2f_Optional_3b_Lcom_2f_example_2f_outremer_engine_2f_outremerengine_2f_board_2f_Place_3b_Lcom_2f_example_2f_outremer_engine_2f_outremerengine_2f_board_2f_Place_3b__29_V rfl) rfl (by show 2 * 0 + _ ≤ _; exact Nat.le_of_eq rfl) (hb hby d12_17) (fun _ _ => ⟨rfl, e7, (by decide : 1 + 0 ≤ _), (by decide : 4 + 0 ≤ _)⟩)
  dsimp only [Pt.U, Pt.locs, Pt.cells, Pt.slots] at X8 l8 y8 z8 st8 hQ8
  subst y8 z8
  obtain ⟨rfl, N8q, K8c, R8_0, R8_1, R8_2, R8_3⟩ := hQ8
  have N8 : Fr n0 L8 := by rw [l8]; exact Fr.app N0 N8q
  have Z8 : n0 ≤ T8.heap.size := Nat.le_trans Z1 K8c.1
  have K8 : Keep h0 T8.heap [] := K1.trans K8c (allS (Or.inr sz_b1) all0)
  change Stand _ _ _ _ _ _ _ _ _ _ _ _ 1 4 at X8
  have E_9 : Exa Z T8.heap b1 "com/example/outremer_engine/outremerengine/diplomacy/Order$SupportMove" := (A1.keep K8c)
  obtain ⟨fs, hr, hrun, hended, hW, hsame⟩ := X8.leave (v := some (.ref b1)) (fun h => by rw [Bd.returns] at h; cases h)
  refine ⟨_, _, pre0 _ ?_, hrun, hended, _, _, rfl, ?_, ⟨_, rfl⟩, hW, hsame.mono (by decide) (by decide)⟩
  · show Steps p.tables e below (s₁.setTop (mkF m 0 #[.val (.ref aa0), .val (.ref aa1)] [])) _
    refine st1 _ ?_
    refine XS.dup X1.here hx rfl (hb hby d12_3) rfl rfl ?_
    refine XS.aloadN X1.here hx rfl (hb hby d12_4) rfl rfl ?_
    refine XS.aloadN X1.here hx rfl (hb hby d12_5) rfl rfl ?_
    refine st3 _ ?_
    refine XS.aloadN X3.here hx rfl (hb hby d12_9) rfl rfl ?_
    refine st5 _ ?_
    refine XS.aloadN X5.here hx rfl (hb hby d12_13) rfl rfl ?_
    refine st7 _ ?_
    refine st8.trans ?_
    jvm_step X8.here [X8.here.top, hx, (hb hby d12_20), X8.method', Bd.returns, Value.isRef, FieldType.isReference]
    first | (intro acts; rw [hr _ acts rfl rfl rfl]) | rw [hr _ _ rfl rfl rfl]
    exact Steps.refl _
  · show Q12_n Z aa0 aa1 ff tt h0 n0 _ T8.heap _
    exact ⟨b1, rfl, N8, K8, g_b1, sz_b1, E_9, R8_0, R8_1, R8_2, R8_3⟩
theorem d14_0 : decode prog_81_method_7_code 0 = .ok (.aload_n 0, 1) := by decide +kernel
theorem d14_1 : decode prog_81_method_7_code 1 = .ok (.getfield 13, 3) := by decide +kernel
theorem d14_4 : decode prog_81_method_7_code 4 = .ok (.areturn, 1) := by decide +kernel
theorem ef_14_n (m : MethodId) (x0 : Addr) : entryFrame m #[(.ref x0)] 1 = mkF m 0 #[.val (.ref x0)] [] := by first | (simp [entryFrame, mkF, argsToLocals, Value.category]; done) | rfl
def Q14_n (Z : State) (aa0 : Addr) (h0 : Heap) (n0 : Nat) (v : Option Value) (h : Heap) (L : List Loc) : Prop := v = some .null ∧ Fr n0 L ∧ h = h0
set_option maxRecDepth 65536 in
set_option maxHeartbeats 40000000 in
theorem rm14_n (l : Launch) (Z : State) (a0 : Array Value) (hw : ∀ d ∈ tables_1, d.before a0 Z = true) (ws : List Jvm.Cond) (aa0 : Addr) (h0 : Heap) (n0 : Nat) (Z0 : n0 ≤ h0.size) (F_aa0_supportedType : Fld Z h0 aa0 "com/example/outremer_engine/outremerengine/diplomacy/Order$SupportMove" "supportedType" "Ljava/util/Optional;" .null) :
    MetFree l (⟨"com/example/outremer_engine/outremerengine/diplomacy/Order$SupportMove", "supportedType", "()Ljava/util/Optional;"⟩ : MethodName) (head1 (Jvm.Cond.code (⟨"com/example/outremer_engine/outremerengine/diplomacy/Order$SupportMove", "supportedType", "()Ljava/util/Optional;"⟩ : MethodName) prog_81_method_7_code 1 (some (.object "java/util/Optional")) :: ws) ({ frames := 0, cells := 0, slots := 0, locals := 0 } : Room)) (fun a U => a = #[(.ref aa0)] ∧ Z.Warmed39 U.vm ∧ U.heap = h0) (fun _ _ _ _ _ => True) (fun _ U o U' => ∃ v L, o = .returned v ∧ Q14_n Z aa0 h0 n0 v U'.heap L ∧ FrameEnd U o U' L ({ frames := 0, cells := 0, slots := 0, locals := 0 } : Room).cells ({ frames := 0, cells := 0, slots := 0, locals := 0 } : Room).slots) := by
  refine MetFree.of_bodySF (plainFor_of_name pn_com_example_outremer_engine_outremerengine_diplomacy_Order_SupportMove) hisR ?_
  intro p e s m args below meth c s₁ Bd hml0 hP hK
  obtain ⟨rfl, hZ, hh⟩ := hP
  have hx := Bd.exec
  have hby := Bd.bytes
  have hml : c.maxLocals = 1 := hml0
  have hown : s.vm.findClass "com/example/outremer_engine/outremerengine/diplomacy/Order$SupportMove" = some m.cls := findClass_of_methodNamed Bd.named
  have hnm := (name_of_methodNamed Bd.named Bd.method).1
  have X0 : Stand p l e ({ frames := 0, cells := 0, slots := 0, locals := 0 } : Room) s m #[(.ref aa0)] below meth c s₁ [] 0 0 := Stand.of_body Bd
  have e0 : s₁.heap = h0 := by rw [← hh, Bd.state]; rfl
  have N0 := Fr.nil n0
  have pre0 : ∀ t, Steps p.tables e below (s₁.setTop (mkF m 0 #[.val (.ref aa0)] [])) t → Steps p.tables e below (s₁.setTop (entryFrame m #[(.ref aa0)] 1)) t := fun t k => castTop (ef_14_n m aa0) k
  obtain ⟨T1, X1, e1, st1⟩ := getF X0 hx hZ hown (host := "") (Or.inl (hw _ (List.mem_of_getElem? (i := 72) rfl))) Via.refl e0 F_aa0_supportedType (g := (mkF m 1 #[.val (.ref aa0)] [(.ref aa0)])) rfl rfl (hb hby d14_1)
  obtain ⟨fs, hr, hrun, hended, hW, hsame⟩ := X1.leave (v := some .null) (fun h => by rw [Bd.returns] at h; cases h)
  refine ⟨_, _, pre0 _ ?_, hrun, hended, _, _, rfl, ?_, ⟨_, rfl⟩, hW, hsame.mono (by decide) (by decide)⟩
  · show Steps p.tables e below (s₁.setTop (mkF m 0 #[.val (.ref aa0)] [])) _
    refine XS.aloadN X0.here hx rfl (hb hby d14_0) rfl rfl ?_
    refine st1 _ ?_
    jvm_step X1.here [X1.here.top, hx, (hb hby d14_4), X1.method', Bd.returns, Value.isRef, FieldType.isReference]
    first | (intro acts; rw [hr _ acts rfl rfl rfl]) | rw [hr _ _ rfl rfl rfl]
    exact Steps.refl _
  · show Q14_n Z aa0 h0 n0 _ T1.heap _
    rw [e1]
    exact ⟨rfl, N0, rfl⟩
theorem ef_11_o (m : MethodId) (x0 : Addr) (x1 : Addr) (x2 : Addr) (x3 : Addr) (x4 : Addr) : entryFrame m #[(.ref x0), (.ref x1), (.ref x2), (.ref x3), (.ref x4)] 5 = mkF m 0 #[.val (.ref x0), .val (.ref x1), .val (.ref x2), .val (.ref x3), .val (.ref x4)] [] := by first | (simp [entryFrame, mkF, argsToLocals, Value.category]; done) | rfl
def Q11_o (Z : State) (aa0 : Addr) (aa1 : Addr) (aa2 : Addr) (aa3 : Addr) (aa4 : Addr) (u_unit : Value) (u_supportedType : Value) (u_from : Value) (u_to : Value) (h0 : Heap) (n0 : Nat) (v : Option Value) (h : Heap) (L : List Loc) : Prop := v = none ∧ Fr n0 L ∧ Keep h0 h [aa0] ∧ (Fld Z h aa0 "com/example/outremer_engine/outremerengine/diplomacy/Order$SupportMove" "unit" "Lcom/example/outremer_engine/outremerengine/board/Unit;" (.ref aa1)) ∧ (Fld Z h aa0 "com/example/outremer_engine/outremerengine/diplomacy/Order$SupportMove" "supportedType" "Ljava/util/Optional;" (.ref aa2)) ∧ (Fld Z h aa0 "com/example/outremer_engine/outremerengine/diplomacy/Order$SupportMove" "from" "Lcom/example/outremer_engine/outremerengine/board/Place;" (.ref aa3)) ∧ (Fld Z h aa0 "com/example/outremer_engine/outremerengine/diplomacy/Order$SupportMove" "to" "Lcom/example/outremer_engine/outremerengine/board/Place;" (.ref aa4))
set_option maxRecDepth 65536 in
set_option maxHeartbeats 40000000 in
theorem rm11_o (l : Launch) (Z : State) (a0 : Array Value) (hw : ∀ d ∈ tables_1, d.before a0 Z = true) (ws : List Jvm.Cond) (aa0 : Addr) (aa1 : Addr) (aa2 : Addr) (aa3 : Addr) (aa4 : Addr) (u_unit : Value) (u_supportedType : Value) (u_from : Value) (u_to : Value) (h0 : Heap) (n0 : Nat) (Z0 : n0 ≤ h0.size) (E_aa0 : Exa Z h0 aa0 "com/example/outremer_engine/outremerengine/diplomacy/Order$SupportMove") (g_aa0 : n0 ≤ aa0) (F_aa0_unit : Fld Z h0 aa0 "com/example/outremer_engine/outremerengine/diplomacy/Order$SupportMove" "unit" "Lcom/example/outremer_engine/outremerengine/board/Unit;" u_unit) (F_aa0_supportedType : Fld Z h0 aa0 "com/example/outremer_engine/outremerengine/diplomacy/Order$SupportMove" "supportedType" "Ljava/util/Optional;" u_supportedType) (F_aa0_from : Fld Z h0 aa0 "com/example/outremer_engine/outremerengine/diplomacy/Order$SupportMove" "from" "Lcom/example/outremer_engine/outremerengine/board/Place;" u_from) (F_aa0_to : Fld Z h0 aa0 "com/example/outremer_engine/outremerengine/diplomacy/Order$SupportMove" "to" "Lcom/example/outremer_engine/outremerengine/board/Place;" u_to) :
    MetFree l (⟨"com/example/outremer_engine/outremerengine/diplomacy/Order$SupportMove", "<init>", "(Lcom/example/outremer_engine/outremerengine/board/Unit;Ljava/util/Optional;Lcom/example/outremer_engine/outremerengine/board/Place;Lcom/example/outremer_engine/outremerengine/board/Place;)V"⟩ : MethodName) (head1 (Jvm.Cond.code (⟨"com/example/outremer_engine/outremerengine/diplomacy/Order$SupportMove", "<init>", "(Lcom/example/outremer_engine/outremerengine/board/Unit;Ljava/util/Optional;Lcom/example/outremer_engine/outremerengine/board/Place;Lcom/example/outremer_engine/outremerengine/board/Place;)V"⟩ : MethodName) prog_81_method_1_code 5 none :: ws) ({ frames := 2, cells := 0, slots := 0, locals := 24 } : Room)) (fun a U => a = #[(.ref aa0), (.ref aa1), (.ref aa2), (.ref aa3), (.ref aa4)] ∧ Z.Warmed39 U.vm ∧ U.heap = h0) (fun _ _ _ _ _ => True) (fun _ U o U' => ∃ v L, o = .returned v ∧ Q11_o Z aa0 aa1 aa2 aa3 aa4 u_unit u_supportedType u_from u_to h0 n0 v U'.heap L ∧ FrameEnd U o U' L ({ frames := 2, cells := 0, slots := 0, locals := 24 } : Room).cells ({ frames := 2, cells := 0, slots := 0, locals := 24 } : Room).slots) := by
  refine MetFree.of_bodySF (plainFor_of_name pn_com_example_outremer_engine_outremerengine_diplomacy_Order_SupportMove) hisR ?_
  intro p e s m args below meth c s₁ Bd hml0 hP hK
  obtain ⟨rfl, hZ, hh⟩ := hP
  have hx := Bd.exec
  have hby := Bd.bytes
  have hml : c.maxLocals = 5 := hml0
  have hown : s.vm.findClass "com/example/outremer_engine/outremerengine/diplomacy/Order$SupportMove" = some m.cls := findClass_of_methodNamed Bd.named
  have hnm := (name_of_methodNamed Bd.named Bd.method).1
  have X0 : Stand p l e ({ frames := 2, cells := 0, slots := 0, locals := 24 } : Room) s m #[(.ref aa0), (.ref aa1), (.ref aa2), (.ref aa3), (.ref aa4)] below meth c s₁ [] 0 0 := Stand.of_body Bd
  have e0 : s₁.heap = h0 := by rw [← hh, Bd.state]; rfl
  have N0 := Fr.nil n0
  have pre0 : ∀ t, Steps p.tables e below (s₁.setTop (mkF m 0 #[.val (.ref aa0), .val (.ref aa1), .val (.ref aa2), .val (.ref aa3), .val (.ref aa4)] [])) t → Steps p.tables e below (s₁.setTop (entryFrame m #[(.ref aa0), (.ref aa1), (.ref aa2), (.ref aa3), (.ref aa4)] 5)) t := fun t k => castTop (ef_11_o m aa0 aa1 aa2 aa3 aa4) k
  obtain ⟨_, _, ⟨T1, L1, k1, n1⟩, -, X1, ⟨Lc1, hQ1, l1, y1, z1⟩, st1⟩ := X0.specialBack hx (y := (⟨"java/lang/Record", "<init>", "()V"⟩ : MethodName)) rfl hown (mvT hZ (hw _ (List.mem_of_getElem? (i := 69) rfl))) (mvT hZ (hw _ (List.mem_of_getElem? (i := 41) rfl))) (mvT hZ (hw _ (List.mem_of_getElem? (i := 44) rfl))) (by decide) (backOf (W := 0) (rm9 l Z a0 hw [] aa0 h0 n0 Z0 ) hZ (hw _ (List.mem_of_getElem? (i := 44) rfl)) (hw _ (List.mem_of_getElem? (i := 43) rfl)) (by decide) (by decide)) (g := (mkF m 1 #[.val (.ref aa0), .val (.ref aa1), .val (.ref aa2), .val (.ref aa3), .val (.ref aa4)] [(.ref aa0)])) rfl (by rw [hml]; rfl) (Steps.refl _) (a := aa0) (argsL := []) (rest := []) (lenOf pd__28__29_V rfl) rfl (by show 2 * 0 + _ ≤ _; exact Nat.le_of_eq rfl) (hb hby d11_1) (fun _ _ => ⟨rfl, e0, (by decide : 0 + 0 ≤ _), (by decide : 0 + 0 ≤ _)⟩)
  dsimp only [Pt.U, Pt.locs, Pt.cells, Pt.slots] at X1 l1 y1 z1 st1 hQ1
  subst y1 z1
  obtain ⟨rfl, N1q, e1⟩ := hQ1
  have N1 : Fr n0 L1 := by rw [l1]; exact Fr.app N0 N1q
  change Stand _ _ _ _ _ _ _ _ _ _ _ _ 0 0 at X1
  obtain ⟨T2, h2, X2, e2, W2, st2⟩ := putF X1 hx hZ hown (host := "") (Or.inl (hw _ (List.mem_of_getElem? (i := 70) rfl))) Via.refl e1 F_aa0_unit E_aa0 (Or.inr ⟨(hw _ (List.mem_of_getElem? (i := 71) rfl)), rfl, hnm⟩) (hw _ (List.mem_of_getElem? (i := 64) rfl)) (ty := (.object "com/example/outremer_engine/outremerengine/board/Unit")) (by decide) rfl rfl (g := (mkF m 6 #[.val (.ref aa0), .val (.ref aa1), .val (.ref aa2), .val (.ref aa3), .val (.ref aa4)] [(.ref aa1), (.ref aa0)])) rfl rfl (hb hby d11_6)
  have N2 := Fr.snoc X2 N1 g_aa0
  have Z2 : n0 ≤ h2.size := Nat.le_trans Z0 (Keep.of_wr W2).1
  have K2 : Keep h0 h2 [aa0] := (Keep.refl h0 [aa0]).wr W2 (Or.inl (List.mem_of_getElem? (i := 0) rfl))
  have F2 : Fld Z h2 aa0 "com/example/outremer_engine/outremerengine/diplomacy/Order$SupportMove" "unit" "Lcom/example/outremer_engine/outremerengine/board/Unit;" (.ref aa1) := F_aa0_unit.same W2
  have E_3 : Exa Z h2 aa0 "com/example/outremer_engine/outremerengine/diplomacy/Order$SupportMove" := (E_aa0.wr W2)
  have F_4 : Fld Z h2 aa0 "com/example/outremer_engine/outremerengine/diplomacy/Order$SupportMove" "supportedType" "Ljava/util/Optional;" u_supportedType := (F_aa0_supportedType.other W2 (Or.inr (slot_ne (Or.inr (hw _ (List.mem_of_getElem? (i := 73) rfl))) (Or.inr (hw _ (List.mem_of_getElem? (i := 71) rfl))) (by decide) (t := (.object "java/util/Optional")) (t' := (.object "com/example/outremer_engine/outremerengine/board/Unit")) (by decide) (by decide))))
  obtain ⟨T5, h5, X5, e5, W5, st5⟩ := putF X2 hx hZ hown (host := "") (Or.inl (hw _ (List.mem_of_getElem? (i := 72) rfl))) Via.refl e2 F_4 E_3 (Or.inr ⟨(hw _ (List.mem_of_getElem? (i := 73) rfl)), rfl, hnm⟩) (hw _ (List.mem_of_getElem? (i := 64) rfl)) (ty := (.object "java/util/Optional")) (by decide) rfl rfl (g := (mkF m 11 #[.val (.ref aa0), .val (.ref aa1), .val (.ref aa2), .val (.ref aa3), .val (.ref aa4)] [(.ref aa2), (.ref aa0)])) rfl rfl (hb hby d11_11)
  have N5 := Fr.snoc X5 N2 g_aa0
  have Z5 : n0 ≤ h5.size := Nat.le_trans Z2 (Keep.of_wr W5).1
  have K5 : Keep h0 h5 [aa0] := K2.wr W5 (Or.inl (List.mem_of_getElem? (i := 0) rfl))
  have F5 : Fld Z h5 aa0 "com/example/outremer_engine/outremerengine/diplomacy/Order$SupportMove" "supportedType" "Ljava/util/Optional;" (.ref aa2) := F_4.same W5
  have E_6 : Exa Z h5 aa0 "com/example/outremer_engine/outremerengine/diplomacy/Order$SupportMove" := (E_3.wr W5)
  have F_7 : Fld Z h5 aa0 "com/example/outremer_engine/outremerengine/diplomacy/Order$SupportMove" "from" "Lcom/example/outremer_engine/outremerengine/board/Place;" u_from := ((F_aa0_from.other W2 (Or.inr (slot_ne (Or.inr (hw _ (List.mem_of_getElem? (i := 75) rfl))) (Or.inr (hw _ (List.mem_of_getElem? (i := 71) rfl))) (by decide) (t := (.object "com/example/outremer_engine/outremerengine/board/Place")) (t' := (.object "com/example/outremer_engine/outremerengine/board/Unit")) (by decide) (by decide)))).other W5 (Or.inr (slot_ne (Or.inr (hw _ (List.mem_of_getElem? (i := 75) rfl))) (Or.inr (hw _ (List.mem_of_getElem? (i := 73) rfl))) (by decide) (t := (.object "com/example/outremer_engine/outremerengine/board/Place")) (t' := (.object "java/util/Optional")) (by decide) (by decide))))
  obtain ⟨T8, h8, X8, e8, W8, st8⟩ := putF X5 hx hZ hown (host := "") (Or.inl (hw _ (List.mem_of_getElem? (i := 74) rfl))) Via.refl e5 F_7 E_6 (Or.inr ⟨(hw _ (List.mem_of_getElem? (i := 75) rfl)), rfl, hnm⟩) (hw _ (List.mem_of_getElem? (i := 64) rfl)) (ty := (.object "com/example/outremer_engine/outremerengine/board/Place")) (by decide) rfl rfl (g := (mkF m 16 #[.val (.ref aa0), .val (.ref aa1), .val (.ref aa2), .val (.ref aa3), .val (.ref aa4)] [(.ref aa3), (.ref aa0)])) rfl rfl (hb hby d11_16)
  have N8 := Fr.snoc X8 N5 g_aa0
  have Z8 : n0 ≤ h8.size := Nat.le_trans Z5 (Keep.of_wr W8).1
  have K8 : Keep h0 h8 [aa0] := K5.wr W8 (Or.inl (List.mem_of_getElem? (i := 0) rfl))
  have F8 : Fld Z h8 aa0 "com/example/outremer_engine/outremerengine/diplomacy/Order$SupportMove" "from" "Lcom/example/outremer_engine/outremerengine/board/Place;" (.ref aa3) := F_7.same W8
  have E_9 : Exa Z h8 aa0 "com/example/outremer_engine/outremerengine/diplomacy/Order$SupportMove" := (E_6.wr W8)
  have F_10 : Fld Z h8 aa0 "com/example/outremer_engine/outremerengine/diplomacy/Order$SupportMove" "to" "Lcom/example/outremer_engine/outremerengine/board/Place;" u_to := (((F_aa0_to.other W2 (Or.inr (slot_ne (Or.inr (hw _ (List.mem_of_getElem? (i := 77) rfl))) (Or.inr (hw _ (List.mem_of_getElem? (i := 71) rfl))) (by decide) (t := (.object "com/example/outremer_engine/outremerengine/board/Place")) (t' := (.object "com/example/outremer_engine/outremerengine/board/Unit")) (by decide) (by decide)))).other W5 (Or.inr (slot_ne (Or.inr (hw _ (List.mem_of_getElem? (i := 77) rfl))) (Or.inr (hw _ (List.mem_of_getElem? (i := 73) rfl))) (by decide) (t := (.object "com/example/outremer_engine/outremerengine/board/Place")) (t' := (.object "java/util/Optional")) (by decide) (by decide)))).other W8 (Or.inr (slot_ne (Or.inr (hw _ (List.mem_of_getElem? (i := 77) rfl))) (Or.inr (hw _ (List.mem_of_getElem? (i := 75) rfl))) (by decide) (t := (.object "com/example/outremer_engine/outremerengine/board/Place")) (t' := (.object "com/example/outremer_engine/outremerengine/board/Place")) (by decide) (by decide))))
  obtain ⟨T11, h11, X11, e11, W11, st11⟩ := putF X8 hx hZ hown (host := "") (Or.inl (hw _ (List.mem_of_getElem? (i := 76) rfl))) Via.refl e8 F_10 E_9 (Or.inr ⟨(hw _ (List.mem_of_getElem? (i := 77) rfl)), rfl, hnm⟩) (hw _ (List.mem_of_getElem? (i := 64) rfl)) (ty := (.object "com/example/outremer_engine/outremerengine/board/Place")) (by decide) rfl rfl (g := (mkF m 22 #[.val (.ref aa0), .val (.ref aa1), .val (.ref aa2), .val (.ref aa3), .val (.ref aa4)] [(.ref aa4), (.ref aa0)])) rfl rfl (hb hby d11_22)
  have N11 := Fr.snoc X11 N8 g_aa0
  have Z11 : n0 ≤ h11.size := Nat.le_trans Z8 (Keep.of_wr W11).1
  have K11 : Keep h0 h11 [aa0] := K8.wr W11 (Or.inl (List.mem_of_getElem? (i := 0) rfl))
  have F11 : Fld Z h11 aa0 "com/example/outremer_engine/outremerengine/diplomacy/Order$SupportMove" "to" "Lcom/example/outremer_engine/outremerengine/board/Place;" (.ref aa4) := F_10.same W11
  have F_12 : Fld Z h11 aa0 "com/example/outremer_engine/outremerengine/diplomacy/Order$SupportMove" "unit" "Lcom/example/outremer_engine/outremerengine/board/Unit;" (.ref aa1) := (((F2.other W5 (Or.inr (slot_ne (Or.inr (hw _ (List.mem_of_getElem? (i := 71) rfl))) (Or.inr (hw _ (List.mem_of_getElem? (i := 73) rfl))) (by decide) (t := (.object "com/example/outremer_engine/outremerengine/board/Unit")) (t' := (.object "java/util/Optional")) (by decide) (by decide)))).other W8 (Or.inr (slot_ne (Or.inr (hw _ (List.mem_of_getElem? (i := 71) rfl))) (Or.inr (hw _ (List.mem_of_getElem? (i := 75) rfl))) (by decide) (t := (.object "com/example/outremer_engine/outremerengine/board/Unit")) (t' := (.object "com/example/outremer_engine/outremerengine/board/Place")) (by decide) (by decide)))).other W11 (Or.inr (slot_ne (Or.inr (hw _ (List.mem_of_getElem? (i := 71) rfl))) (Or.inr (hw _ (List.mem_of_getElem? (i := 77) rfl))) (by decide) (t := (.object "com/example/outremer_engine/outremerengine/board/Unit")) (t' := (.object "com/example/outremer_engine/outremerengine/board/Place")) (by decide) (by decide))))
  have F_13 : Fld Z h11 aa0 "com/example/outremer_engine/outremerengine/diplomacy/Order$SupportMove" "supportedType" "Ljava/util/Optional;" (.ref aa2) := ((F5.other W8 (Or.inr (slot_ne (Or.inr (hw _ (List.mem_of_getElem? (i := 73) rfl))) (Or.inr (hw _ (List.mem_of_getElem? (i := 75) rfl))) (by decide) (t := (.object "java/util/Optional")) (t' := (.object "com/example/outremer_engine/outremerengine/board/Place")) (by decide) (by decide)))).other W11 (Or.inr (slot_ne (Or.inr (hw _ (List.mem_of_getElem? (i := 73) rfl))) (Or.inr (hw _ (List.mem_of_getElem? (i := 77) rfl))) (by decide) (t := (.object "java/util/Optional")) (t' := (.object "com/example/outremer_engine/outremerengine/board/Place")) (by decide) (by decide))))
  have F_14 : Fld Z h11 aa0 "com/example/outremer_engine/outremerengine/diplomacy/Order$SupportMove" "from" "Lcom/example/outremer_engine/outremerengine/board/Place;" (.ref aa3) := (F8.other W11 (Or.inr (slot_ne (Or.inr (hw _ (List.mem_of_getElem? (i := 75) rfl))) (Or.inr (hw _ (List.mem_of_getElem? (i := 77) rfl))) (by decide) (t := (.object "com/example/outremer_engine/outremerengine/board/Place")) (t' := (.object "com/example/outremer_engine/outremerengine/board/Place")) (by decide) (by decide))))
  obtain ⟨fs, hr, hrun, hended, hW, hsame⟩ := X11.leave (v := none) (fun _ => rfl)
  refine ⟨_, _, pre0 _ ?_, hrun, hended, _, _, rfl, ?_, ⟨_, rfl⟩, hW, hsame.mono (by decide) (by decide)⟩
  · show Steps p.tables e below (s₁.setTop (mkF m 0 #[.val (.ref aa0), .val (.ref aa1), .val (.ref aa2), .val (.ref aa3), .val (.ref aa4)] [])) _
    refine XS.aloadN X0.here hx rfl (hb hby d11_0) rfl rfl ?_
    refine st1.trans ?_
    refine XS.aloadN X1.here hx rfl (hb hby d11_4) rfl rfl ?_
    refine XS.aloadN X1.here hx rfl (hb hby d11_5) rfl rfl ?_
    refine st2 _ ?_
    refine XS.aloadN X2.here hx rfl (hb hby d11_9) rfl rfl ?_
    refine XS.aloadN X2.here hx rfl (hb hby d11_10) rfl rfl ?_
    refine st5 _ ?_
    refine XS.aloadN X5.here hx rfl (hb hby d11_14) rfl rfl ?_
    refine XS.aloadN X5.here hx rfl (hb hby d11_15) rfl rfl ?_
    refine st8 _ ?_
    refine XS.aloadN X8.here hx rfl (hb hby d11_19) rfl rfl ?_
    refine XS.aload X8.here hx rfl (hb hby d11_20) rfl rfl ?_
    refine st11 _ ?_
    exact X11.returnOut hx Bd.returns (hb hby d11_25) hr
  · show Q11_o Z aa0 aa1 aa2 aa3 aa4 u_unit u_supportedType u_from u_to h0 n0 _ T11.heap _
    rw [e11]
    exact ⟨rfl, N11, K11, F_12, F_13, F_14, F11⟩
theorem ef_12_o (m : MethodId) (x0 : Addr) (x1 : Addr) : entryFrame m #[(.ref x0), (.ref x1)] 2 = mkF m 0 #[.val (.ref x0), .val (.ref x1)] [] := by first | (simp [entryFrame, mkF, argsToLocals, Value.category]; done) | rfl
def Q12_o (Z : State) (aa0 : Addr) (aa1 : Addr) (op : Addr) (ff : Addr) (tt : Addr) (h0 : Heap) (n0 : Nat) (v : Option Value) (h : Heap) (L : List Loc) : Prop := ∃ (bx : Addr), v = some (.ref bx) ∧ Fr n0 L ∧ Keep h0 h [] ∧ n0 ≤ bx ∧ h0.size ≤ bx ∧ (Exa Z h bx "com/example/outremer_engine/outremerengine/diplomacy/Order$SupportMove") ∧ (Fld Z h bx "com/example/outremer_engine/outremerengine/diplomacy/Order$SupportMove" "unit" "Lcom/example/outremer_engine/outremerengine/board/Unit;" (.ref aa1)) ∧ (Fld Z h bx "com/example/outremer_engine/outremerengine/diplomacy/Order$SupportMove" "supportedType" "Ljava/util/Optional;" (.ref op)) ∧ (Fld Z h bx "com/example/outremer_engine/outremerengine/diplomacy/Order$SupportMove" "from" "Lcom/example/outremer_engine/outremerengine/board/Place;" (.ref ff)) ∧ (Fld Z h bx "com/example/outremer_engine/outremerengine/diplomacy/Order$SupportMove" "to" "Lcom/example/outremer_engine/outremerengine/board/Place;" (.ref tt))
set_option maxRecDepth 65536 in
set_option maxHeartbeats 40000000 in
theorem rm12_o (l : Launch) (Z : State) (a0 : Array Value) (hw : ∀ d ∈ tables_1, d.before a0 Z = true) (ws : List Jvm.Cond) (aa0 : Addr) (aa1 : Addr) (op : Addr) (ff : Addr) (tt : Addr) (h0 : Heap) (n0 : Nat) (Z0 : n0 ≤ h0.size) (F_aa0_supportedType : Fld Z h0 aa0 "com/example/outremer_engine/outremerengine/diplomacy/Order$SupportMove" "supportedType" "Ljava/util/Optional;" (.ref op)) (F_aa0_from : Fld Z h0 aa0 "com/example/outremer_engine/outremerengine/diplomacy/Order$SupportMove" "from" "Lcom/example/outremer_engine/outremerengine/board/Place;" (.ref ff)) (F_aa0_to : Fld Z h0 aa0 "com/example/outremer_engine/outremerengine/diplomacy/Order$SupportMove" "to" "Lcom/example/outremer_engine/outremerengine/board/Place;" (.ref tt)) :
    MetFree l (⟨"com/example/outremer_engine/outremerengine/diplomacy/Order$SupportMove", "givenTo", "(Lcom/example/outremer_engine/outremerengine/board/Unit;)Lcom/example/outremer_engine/outremerengine/diplomacy/Order$SupportMove;"⟩ : MethodName) (head1 (Jvm.Cond.code (⟨"com/example/outremer_engine/outremerengine/diplomacy/Order$SupportMove", "givenTo", "(Lcom/example/outremer_engine/outremerengine/board/Unit;)Lcom/example/outremer_engine/outremerengine/diplomacy/Order$SupportMove;"⟩ : MethodName) prog_81_method_2_code 2 (some (.object "com/example/outremer_engine/outremerengine/diplomacy/Order$SupportMove")) :: ws) ({ frames := 3, cells := 1, slots := 4, locals := 41 } : Room)) (fun a U => a = #[(.ref aa0), (.ref aa1)] ∧ Z.Warmed39 U.vm ∧ U.heap = h0) (fun _ _ _ _ _ => True) (fun _ U o U' => ∃ v L, o = .returned v ∧ Q12_o Z aa0 aa1 op ff tt h0 n0 v U'.heap L ∧ FrameEnd U o U' L ({ frames := 3, cells := 1, slots := 4, locals := 41 } : Room).cells ({ frames := 3, cells := 1, slots := 4, locals := 41 } : Room).slots) := by
  refine MetFree.of_bodySF (plainFor_of_name pn_com_example_outremer_engine_outremerengine_diplomacy_Order_SupportMove) hisR ?_
  intro p e s m args below meth c s₁ Bd hml0 hP hK
  obtain ⟨rfl, hZ, hh⟩ := hP
  have hx := Bd.exec
  have hby := Bd.bytes
  have hml : c.maxLocals = 2 := hml0
  have hown : s.vm.findClass "com/example/outremer_engine/outremerengine/diplomacy/Order$SupportMove" = some m.cls := findClass_of_methodNamed Bd.named
  have hnm := (name_of_methodNamed Bd.named Bd.method).1
  have X0 : Stand p l e ({ frames := 3, cells := 1, slots := 4, locals := 41 } : Room) s m #[(.ref aa0), (.ref aa1)] below meth c s₁ [] 0 0 := Stand.of_body Bd
  have e0 : s₁.heap = h0 := by rw [← hh, Bd.state]; rfl
  have N0 := Fr.nil n0
  have pre0 : ∀ t, Steps p.tables e below (s₁.setTop (mkF m 0 #[.val (.ref aa0), .val (.ref aa1)] [])) t → Steps p.tables e below (s₁.setTop (entryFrame m #[(.ref aa0), (.ref aa1)] 2)) t := fun t k => castTop (ef_12_o m aa0 aa1) k
  obtain ⟨T1, h1, X1, e1, E1, A1, D1, -, st1⟩ := newO X0 hx hZ hown (hw _ (List.mem_of_getElem? (i := 83) rfl)) (hw _ (List.mem_of_getElem? (i := 64) rfl)) (hw _ (List.mem_of_getElem? (i := 65) rfl)) e0 (g := (mkF m 0 #[.val (.ref aa0), .val (.ref aa1)] [])) rfl (hb hby d12_0) (by decide) (by decide)
  obtain ⟨b1, g1⟩ : ∃ z, z = h0.size := ⟨_, rfl⟩
  rw [← g1] at A1 D1 st1
  have g_b1 : n0 ≤ b1 := Nat.le_trans Z0 (Nat.le_of_eq g1.symm)
  have sz_b1 : h0.size ≤ b1 := Nat.le_trans (Keep.refl h0 []).1 (Nat.le_of_eq g1.symm)
  have Z1 : n0 ≤ h1.size := Nat.le_trans Z0 E1.1
  have K1 : Keep h0 h1 [] := (Keep.refl h0 []).ext E1
  have F1_unit : Fld Z h1 b1 "com/example/outremer_engine/outremerengine/diplomacy/Order$SupportMove" "unit" "Lcom/example/outremer_engine/outremerengine/board/Unit;" .null := D1 (Or.inr (hw _ (List.mem_of_getElem? (i := 71) rfl))) (ty := (.object "com/example/outremer_engine/outremerengine/board/Unit")) (by decide)
  have F1_supportedType : Fld Z h1 b1 "com/example/outremer_engine/outremerengine/diplomacy/Order$SupportMove" "supportedType" "Ljava/util/Optional;" .null := D1 (Or.inr (hw _ (List.mem_of_getElem? (i := 73) rfl))) (ty := (.object "java/util/Optional")) (by decide)
  have F1_from : Fld Z h1 b1 "com/example/outremer_engine/outremerengine/diplomacy/Order$SupportMove" "from" "Lcom/example/outremer_engine/outremerengine/board/Place;" .null := D1 (Or.inr (hw _ (List.mem_of_getElem? (i := 75) rfl))) (ty := (.object "com/example/outremer_engine/outremerengine/board/Place")) (by decide)
  have F1_to : Fld Z h1 b1 "com/example/outremer_engine/outremerengine/diplomacy/Order$SupportMove" "to" "Lcom/example/outremer_engine/outremerengine/board/Place;" .null := D1 (Or.inr (hw _ (List.mem_of_getElem? (i := 77) rfl))) (ty := (.object "com/example/outremer_engine/outremerengine/board/Place")) (by decide)
  have F_2 : Fld Z h1 aa0 "com/example/outremer_engine/outremerengine/diplomacy/Order$SupportMove" "supportedType" "Ljava/util/Optional;" (.ref op) := (F_aa0_supportedType.ext E1)
  obtain ⟨T3, X3, e3, st3⟩ := getF X1 hx hZ hown (host := "") (Or.inl (hw _ (List.mem_of_getElem? (i := 72) rfl))) Via.refl e1 F_2 (g := (mkF m 6 #[.val (.ref aa0), .val (.ref aa1)] [(.ref aa0), (.ref aa1), (.ref b1), (.ref b1)])) rfl rfl (hb hby d12_6)
  have F_4 : Fld Z h1 aa0 "com/example/outremer_engine/outremerengine/diplomacy/Order$SupportMove" "from" "Lcom/example/outremer_engine/outremerengine/board/Place;" (.ref ff) := (F_aa0_from.ext E1)
  obtain ⟨T5, X5, e5, st5⟩ := getF X3 hx hZ hown (host := "") (Or.inl (hw _ (List.mem_of_getElem? (i := 74) rfl))) Via.refl e3 F_4 (g := (mkF m 10 #[.val (.ref aa0), .val (.ref aa1)] [(.ref aa0), (.ref op), (.ref aa1), (.ref b1), (.ref b1)])) rfl rfl (hb hby d12_10)
  have F_6 : Fld Z h1 aa0 "com/example/outremer_engine/outremerengine/diplomacy/Order$SupportMove" "to" "Lcom/example/outremer_engine/outremerengine/board/Place;" (.ref tt) := (F_aa0_to.ext E1)
  obtain ⟨T7, X7, e7, st7⟩ := getF X5 hx hZ hown (host := "") (Or.inl (hw _ (List.mem_of_getElem? (i := 76) rfl))) Via.refl e5 F_6 (g := (mkF m 14 #[.val (.ref aa0), .val (.ref aa1)] [(.ref aa0), (.ref ff), (.ref op), (.ref aa1), (.ref b1), (.ref b1)])) rfl rfl (hb hby d12_14)
  obtain ⟨_, _, ⟨T8, L8, k8, n8⟩, -, X8, ⟨Lc8, hQ8, l8, y8, z8⟩, st8⟩ := X7.specialBack hx (y := (⟨"com/example/outremer_engine/outremerengine/diplomacy/Order$SupportMove", "<init>", "(Lcom/example/outremer_engine/outremerengine/board/Unit;Ljava/util/Optional;Lcom/example/outremer_engine/outremerengine/board/Place;Lcom/example/outremer_engine/outremerengine/board/Place;)V"⟩ : MethodName)) rfl hown (mvT hZ (hw _ (List.mem_of_getElem? (i := 84) rfl))) (mvT hZ (hw _ (List.mem_of_getElem? (i := 67) rfl))) (mvT hZ (hw _ (List.mem_of_getElem? (i := 68) rfl))) (by decide) (backOf (W := 1) (rm11_o l Z a0 hw [] b1 aa1 op ff tt .null .null .null .null h1 n0 Z1 A1 g_b1 F1_unit F1_supportedType F1_from F1_to) hZ (hw _ (List.mem_of_getElem? (i := 68) rfl)) (hw _ (List.mem_of_getElem? (i := 65) rfl)) (by decide) (by decide)) (g := (mkF m 17 #[.val (.ref aa0), .val (.ref aa1)] [(.ref tt), (.ref ff), (.ref op), (.ref aa1), (.ref b1), (.ref b1)])) rfl (by rw [hml]; rfl) (Steps.refl _) (a := b1) (argsL := [(.ref aa1), (.ref op), (.ref ff), (.ref tt)]) (rest := [(.ref b1)]) (lenOf pd__28_Lcom_2f_example_2f_outremer_engine_2f_outremerengine_2f_board_2f_Unit_3b_Ljava_2f_util_2f_Optional_3b_Lcom_2f_example_2f_outremer_engine_2f_outremerengine_2f_board_2f_Place_3b_Lcom_2f_example_2f_outremer_engine_2f_outremerengine_2f_board_2f_Place_3b__29_V rfl) rfl (by show 2 * 0 + _ ≤ _; exact Nat.le_of_eq rfl) (hb hby d12_17) (fun _ _ => ⟨rfl, e7, (by decide : 1 + 0 ≤ _), (by decide : 4 + 0 ≤ _)⟩)
  dsimp only [Pt.U, Pt.locs, Pt.cells, Pt.slots] at X8 l8 y8 z8 st8 hQ8
  subst y8 z8
  obtain ⟨rfl, N8q, K8c, R8_0, R8_1, R8_2, R8_3⟩ := hQ8
  have N8 : Fr n0 L8 := by rw [l8]; exact Fr.app N0 N8q
  have Z8 : n0 ≤ T8.heap.size := Nat.le_trans Z1 K8c.1
  have K8 : Keep h0 T8.heap [] := K1.trans K8c (allS (Or.inr sz_b1) all0)
  change Stand _ _ _ _ _ _ _ _ _ _ _ _ 1 4 at X8
  have E_9 : Exa Z T8.heap b1 "com/example/outremer_engine/outremerengine/diplomacy/Order$SupportMove" := (A1.keep K8c)
  obtain ⟨fs, hr, hrun, hended, hW, hsame⟩ := X8.leave (v := some (.ref b1)) (fun h => by rw [Bd.returns] at h; cases h)
  refine ⟨_, _, pre0 _ ?_, hrun, hended, _, _, rfl, ?_, ⟨_, rfl⟩, hW, hsame.mono (by decide) (by decide)⟩
  · show Steps p.tables e below (s₁.setTop (mkF m 0 #[.val (.ref aa0), .val (.ref aa1)] [])) _
    refine st1 _ ?_
    refine XS.dup X1.here hx rfl (hb hby d12_3) rfl rfl ?_
    refine XS.aloadN X1.here hx rfl (hb hby d12_4) rfl rfl ?_
    refine XS.aloadN X1.here hx rfl (hb hby d12_5) rfl rfl ?_
    refine st3 _ ?_
    refine XS.aloadN X3.here hx rfl (hb hby d12_9) rfl rfl ?_
    refine st5 _ ?_
    refine XS.aloadN X5.here hx rfl (hb hby d12_13) rfl rfl ?_
    refine st7 _ ?_
    refine st8.trans ?_
    jvm_step X8.here [X8.here.top, hx, (hb hby d12_20), X8.method', Bd.returns, Value.isRef, FieldType.isReference]
    first | (intro acts; rw [hr _ acts rfl rfl rfl]) | rw [hr _ _ rfl rfl rfl]
    exact Steps.refl _
  · show Q12_o Z aa0 aa1 op ff tt h0 n0 _ T8.heap _
    exact ⟨b1, rfl, N8, K8, g_b1, sz_b1, E_9, R8_0, R8_1, R8_2, R8_3⟩
theorem ef_14_o (m : MethodId) (x0 : Addr) : entryFrame m #[(.ref x0)] 1 = mkF m 0 #[.val (.ref x0)] [] := by first | (simp [entryFrame, mkF, argsToLocals, Value.category]; done) | rfl
def Q14_o (Z : State) (aa0 : Addr) (vv : Addr) (h0 : Heap) (n0 : Nat) (v : Option Value) (h : Heap) (L : List Loc) : Prop := v = some (.ref vv) ∧ Fr n0 L ∧ h = h0
set_option maxRecDepth 65536 in
set_option maxHeartbeats 40000000 in
theorem rm14_o (l : Launch) (Z : State) (a0 : Array Value) (hw : ∀ d ∈ tables_1, d.before a0 Z = true) (ws : List Jvm.Cond) (aa0 : Addr) (vv : Addr) (h0 : Heap) (n0 : Nat) (Z0 : n0 ≤ h0.size) (F_aa0_supportedType : Fld Z h0 aa0 "com/example/outremer_engine/outremerengine/diplomacy/Order$SupportMove" "supportedType" "Ljava/util/Optional;" (.ref vv)) :
    MetFree l (⟨"com/example/outremer_engine/outremerengine/diplomacy/Order$SupportMove", "supportedType", "()Ljava/util/Optional;"⟩ : MethodName) (head1 (Jvm.Cond.code (⟨"com/example/outremer_engine/outremerengine/diplomacy/Order$SupportMove", "supportedType", "()Ljava/util/Optional;"⟩ : MethodName) prog_81_method_7_code 1 (some (.object "java/util/Optional")) :: ws) ({ frames := 0, cells := 0, slots := 0, locals := 0 } : Room)) (fun a U => a = #[(.ref aa0)] ∧ Z.Warmed39 U.vm ∧ U.heap = h0) (fun _ _ _ _ _ => True) (fun _ U o U' => ∃ v L, o = .returned v ∧ Q14_o Z aa0 vv h0 n0 v U'.heap L ∧ FrameEnd U o U' L ({ frames := 0, cells := 0, slots := 0, locals := 0 } : Room).cells ({ frames := 0, cells := 0, slots := 0, locals := 0 } : Room).slots) := by
  refine MetFree.of_bodySF (plainFor_of_name pn_com_example_outremer_engine_outremerengine_diplomacy_Order_SupportMove) hisR ?_
  intro p e s m args below meth c s₁ Bd hml0 hP hK
  obtain ⟨rfl, hZ, hh⟩ := hP
  have hx := Bd.exec
  have hby := Bd.bytes
  have hml : c.maxLocals = 1 := hml0
  have hown : s.vm.findClass "com/example/outremer_engine/outremerengine/diplomacy/Order$SupportMove" = some m.cls := findClass_of_methodNamed Bd.named
  have hnm := (name_of_methodNamed Bd.named Bd.method).1
  have X0 : Stand p l e ({ frames := 0, cells := 0, slots := 0, locals := 0 } : Room) s m #[(.ref aa0)] below meth c s₁ [] 0 0 := Stand.of_body Bd
  have e0 : s₁.heap = h0 := by rw [← hh, Bd.state]; rfl
  have N0 := Fr.nil n0
  have pre0 : ∀ t, Steps p.tables e below (s₁.setTop (mkF m 0 #[.val (.ref aa0)] [])) t → Steps p.tables e below (s₁.setTop (entryFrame m #[(.ref aa0)] 1)) t := fun t k => castTop (ef_14_o m aa0) k
  obtain ⟨T1, X1, e1, st1⟩ := getF X0 hx hZ hown (host := "") (Or.inl (hw _ (List.mem_of_getElem? (i := 72) rfl))) Via.refl e0 F_aa0_supportedType (g := (mkF m 1 #[.val (.ref aa0)] [(.ref aa0)])) rfl rfl (hb hby d14_1)
  obtain ⟨fs, hr, hrun, hended, hW, hsame⟩ := X1.leave (v := some (.ref vv)) (fun h => by rw [Bd.returns] at h; cases h)
  refine ⟨_, _, pre0 _ ?_, hrun, hended, _, _, rfl, ?_, ⟨_, rfl⟩, hW, hsame.mono (by decide) (by decide)⟩
  · show Steps p.tables e below (s₁.setTop (mkF m 0 #[.val (.ref aa0)] [])) _
    refine XS.aloadN X0.here hx rfl (hb hby d14_0) rfl rfl ?_
    refine st1 _ ?_
    jvm_step X1.here [X1.here.top, hx, (hb hby d14_4), X1.method', Bd.returns, Value.isRef, FieldType.isReference]
    first | (intro acts; rw [hr _ acts rfl rfl rfl]) | rw [hr _ _ rfl rfl rfl]
    exact Steps.refl _
  · show Q14_o Z aa0 vv h0 n0 _ T1.heap _
    rw [e1]
    exact ⟨rfl, N0, rfl⟩
theorem d13_0 : decode prog_81_method_6_code 0 = .ok (.aload_n 0, 1) := by decide +kernel
theorem d13_1 : decode prog_81_method_6_code 1 = .ok (.getfield 7, 3) := by decide +kernel
theorem d13_4 : decode prog_81_method_6_code 4 = .ok (.areturn, 1) := by decide +kernel
theorem ef_13 (m : MethodId) (x0 : Addr) : entryFrame m #[(.ref x0)] 1 = mkF m 0 #[.val (.ref x0)] [] := by first | (simp [entryFrame, mkF, argsToLocals, Value.category]; done) | rfl
def Q13 (Z : State) (aa0 : Addr) (vv : Addr) (h0 : Heap) (n0 : Nat) (v : Option Value) (h : Heap) (L : List Loc) : Prop := v = some (.ref vv) ∧ Fr n0 L ∧ h = h0
set_option maxRecDepth 65536 in
set_option maxHeartbeats 40000000 in
theorem rm13 (l : Launch) (Z : State) (a0 : Array Value) (hw : ∀ d ∈ tables_1, d.before a0 Z = true) (ws : List Jvm.Cond) (aa0 : Addr) (vv : Addr) (h0 : Heap) (n0 : Nat) (Z0 : n0 ≤ h0.size) (F_aa0_unit : Fld Z h0 aa0 "com/example/outremer_engine/outremerengine/diplomacy/Order$SupportMove" "unit" "Lcom/example/outremer_engine/outremerengine/board/Unit;" (.ref vv)) :
    MetFree l (⟨"com/example/outremer_engine/outremerengine/diplomacy/Order$SupportMove", "unit", "()Lcom/example/outremer_engine/outremerengine/board/Unit;"⟩ : MethodName) (head1 (Jvm.Cond.code (⟨"com/example/outremer_engine/outremerengine/diplomacy/Order$SupportMove", "unit", "()Lcom/example/outremer_engine/outremerengine/board/Unit;"⟩ : MethodName) prog_81_method_6_code 1 (some (.object "com/example/outremer_engine/outremerengine/board/Unit")) :: ws) ({ frames := 0, cells := 0, slots := 0, locals := 0 } : Room)) (fun a U => a = #[(.ref aa0)] ∧ Z.Warmed39 U.vm ∧ U.heap = h0) (fun _ _ _ _ _ => True) (fun _ U o U' => ∃ v L, o = .returned v ∧ Q13 Z aa0 vv h0 n0 v U'.heap L ∧ FrameEnd U o U' L ({ frames := 0, cells := 0, slots := 0, locals := 0 } : Room).cells ({ frames := 0, cells := 0, slots := 0, locals := 0 } : Room).slots) := by
  refine MetFree.of_bodySF (plainFor_of_name pn_com_example_outremer_engine_outremerengine_diplomacy_Order_SupportMove) hisR ?_
  intro p e s m args below meth c s₁ Bd hml0 hP hK
  obtain ⟨rfl, hZ, hh⟩ := hP
  have hx := Bd.exec
  have hby := Bd.bytes
  have hml : c.maxLocals = 1 := hml0
  have hown : s.vm.findClass "com/example/outremer_engine/outremerengine/diplomacy/Order$SupportMove" = some m.cls := findClass_of_methodNamed Bd.named
  have hnm := (name_of_methodNamed Bd.named Bd.method).1
  have X0 : Stand p l e ({ frames := 0, cells := 0, slots := 0, locals := 0 } : Room) s m #[(.ref aa0)] below meth c s₁ [] 0 0 := Stand.of_body Bd
  have e0 : s₁.heap = h0 := by rw [← hh, Bd.state]; rfl
  have N0 := Fr.nil n0
  have pre0 : ∀ t, Steps p.tables e below (s₁.setTop (mkF m 0 #[.val (.ref aa0)] [])) t → Steps p.tables e below (s₁.setTop (entryFrame m #[(.ref aa0)] 1)) t := fun t k => castTop (ef_13 m aa0) k
  obtain ⟨T1, X1, e1, st1⟩ := getF X0 hx hZ hown (host := "") (Or.inl (hw _ (List.mem_of_getElem? (i := 70) rfl))) Via.refl e0 F_aa0_unit (g := (mkF m 1 #[.val (.ref aa0)] [(.ref aa0)])) rfl rfl (hb hby d13_1)
  obtain ⟨fs, hr, hrun, hended, hW, hsame⟩ := X1.leave (v := some (.ref vv)) (fun h => by rw [Bd.returns] at h; cases h)
  refine ⟨_, _, pre0 _ ?_, hrun, hended, _, _, rfl, ?_, ⟨_, rfl⟩, hW, hsame.mono (by decide) (by decide)⟩
  · show Steps p.tables e below (s₁.setTop (mkF m 0 #[.val (.ref aa0)] [])) _
    refine XS.aloadN X0.here hx rfl (hb hby d13_0) rfl rfl ?_
    refine st1 _ ?_
    jvm_step X1.here [X1.here.top, hx, (hb hby d13_4), X1.method', Bd.returns, Value.isRef, FieldType.isReference]
    first | (intro acts; rw [hr _ acts rfl rfl rfl]) | rw [hr _ _ rfl rfl rfl]
    exact Steps.refl _
  · show Q13 Z aa0 vv h0 n0 _ T1.heap _
    rw [e1]
    exact ⟨rfl, N0, rfl⟩
theorem d15_0 : decode prog_81_method_8_code 0 = .ok (.aload_n 0, 1) := by decide +kernel
theorem d15_1 : decode prog_81_method_8_code 1 = .ok (.getfield 17, 3) := by decide +kernel
theorem d15_4 : decode prog_81_method_8_code 4 = .ok (.areturn, 1) := by decide +kernel
theorem ef_15 (m : MethodId) (x0 : Addr) : entryFrame m #[(.ref x0)] 1 = mkF m 0 #[.val (.ref x0)] [] := by first | (simp [entryFrame, mkF, argsToLocals, Value.category]; done) | rfl
def Q15 (Z : State) (aa0 : Addr) (vv : Addr) (h0 : Heap) (n0 : Nat) (v : Option Value) (h : Heap) (L : List Loc) : Prop := v = some (.ref vv) ∧ Fr n0 L ∧ h = h0
set_option maxRecDepth 65536 in
set_option maxHeartbeats 40000000 in
theorem rm15 (l : Launch) (Z : State) (a0 : Array Value) (hw : ∀ d ∈ tables_1, d.before a0 Z = true) (ws : List Jvm.Cond) (aa0 : Addr) (vv : Addr) (h0 : Heap) (n0 : Nat) (Z0 : n0 ≤ h0.size) (F_aa0_from : Fld Z h0 aa0 "com/example/outremer_engine/outremerengine/diplomacy/Order$SupportMove" "from" "Lcom/example/outremer_engine/outremerengine/board/Place;" (.ref vv)) :
    MetFree l (⟨"com/example/outremer_engine/outremerengine/diplomacy/Order$SupportMove", "from", "()Lcom/example/outremer_engine/outremerengine/board/Place;"⟩ : MethodName) (head1 (Jvm.Cond.code (⟨"com/example/outremer_engine/outremerengine/diplomacy/Order$SupportMove", "from", "()Lcom/example/outremer_engine/outremerengine/board/Place;"⟩ : MethodName) prog_81_method_8_code 1 (some (.object "com/example/outremer_engine/outremerengine/board/Place")) :: ws) ({ frames := 0, cells := 0, slots := 0, locals := 0 } : Room)) (fun a U => a = #[(.ref aa0)] ∧ Z.Warmed39 U.vm ∧ U.heap = h0) (fun _ _ _ _ _ => True) (fun _ U o U' => ∃ v L, o = .returned v ∧ Q15 Z aa0 vv h0 n0 v U'.heap L ∧ FrameEnd U o U' L ({ frames := 0, cells := 0, slots := 0, locals := 0 } : Room).cells ({ frames := 0, cells := 0, slots := 0, locals := 0 } : Room).slots) := by
  refine MetFree.of_bodySF (plainFor_of_name pn_com_example_outremer_engine_outremerengine_diplomacy_Order_SupportMove) hisR ?_
  intro p e s m args below meth c s₁ Bd hml0 hP hK
  obtain ⟨rfl, hZ, hh⟩ := hP
  have hx := Bd.exec
  have hby := Bd.bytes
  have hml : c.maxLocals = 1 := hml0
  have hown : s.vm.findClass "com/example/outremer_engine/outremerengine/diplomacy/Order$SupportMove" = some m.cls := findClass_of_methodNamed Bd.named
  have hnm := (name_of_methodNamed Bd.named Bd.method).1
  have X0 : Stand p l e ({ frames := 0, cells := 0, slots := 0, locals := 0 } : Room) s m #[(.ref aa0)] below meth c s₁ [] 0 0 := Stand.of_body Bd
  have e0 : s₁.heap = h0 := by rw [← hh, Bd.state]; rfl
  have N0 := Fr.nil n0
  have pre0 : ∀ t, Steps p.tables e below (s₁.setTop (mkF m 0 #[.val (.ref aa0)] [])) t → Steps p.tables e below (s₁.setTop (entryFrame m #[(.ref aa0)] 1)) t := fun t k => castTop (ef_15 m aa0) k
  obtain ⟨T1, X1, e1, st1⟩ := getF X0 hx hZ hown (host := "") (Or.inl (hw _ (List.mem_of_getElem? (i := 74) rfl))) Via.refl e0 F_aa0_from (g := (mkF m 1 #[.val (.ref aa0)] [(.ref aa0)])) rfl rfl (hb hby d15_1)
  obtain ⟨fs, hr, hrun, hended, hW, hsame⟩ := X1.leave (v := some (.ref vv)) (fun h => by rw [Bd.returns] at h; cases h)
  refine ⟨_, _, pre0 _ ?_, hrun, hended, _, _, rfl, ?_, ⟨_, rfl⟩, hW, hsame.mono (by decide) (by decide)⟩
  · show Steps p.tables e below (s₁.setTop (mkF m 0 #[.val (.ref aa0)] [])) _
    refine XS.aloadN X0.here hx rfl (hb hby d15_0) rfl rfl ?_
    refine st1 _ ?_
    jvm_step X1.here [X1.here.top, hx, (hb hby d15_4), X1.method', Bd.returns, Value.isRef, FieldType.isReference]
    first | (intro acts; rw [hr _ acts rfl rfl rfl]) | rw [hr _ _ rfl rfl rfl]
    exact Steps.refl _
  · show Q15 Z aa0 vv h0 n0 _ T1.heap _
    rw [e1]
    exact ⟨rfl, N0, rfl⟩
theorem d16_0 : decode prog_81_method_9_code 0 = .ok (.aload_n 0, 1) := by decide +kernel
theorem d16_1 : decode prog_81_method_9_code 1 = .ok (.getfield 21, 3) := by decide +kernel
theorem d16_4 : decode prog_81_method_9_code 4 = .ok (.areturn, 1) := by decide +kernel
theorem ef_16 (m : MethodId) (x0 : Addr) : entryFrame m #[(.ref x0)] 1 = mkF m 0 #[.val (.ref x0)] [] := by first | (simp [entryFrame, mkF, argsToLocals, Value.category]; done) | rfl
def Q16 (Z : State) (aa0 : Addr) (vv : Addr) (h0 : Heap) (n0 : Nat) (v : Option Value) (h : Heap) (L : List Loc) : Prop := v = some (.ref vv) ∧ Fr n0 L ∧ h = h0
set_option maxRecDepth 65536 in
set_option maxHeartbeats 40000000 in
theorem rm16 (l : Launch) (Z : State) (a0 : Array Value) (hw : ∀ d ∈ tables_1, d.before a0 Z = true) (ws : List Jvm.Cond) (aa0 : Addr) (vv : Addr) (h0 : Heap) (n0 : Nat) (Z0 : n0 ≤ h0.size) (F_aa0_to : Fld Z h0 aa0 "com/example/outremer_engine/outremerengine/diplomacy/Order$SupportMove" "to" "Lcom/example/outremer_engine/outremerengine/board/Place;" (.ref vv)) :
    MetFree l (⟨"com/example/outremer_engine/outremerengine/diplomacy/Order$SupportMove", "to", "()Lcom/example/outremer_engine/outremerengine/board/Place;"⟩ : MethodName) (head1 (Jvm.Cond.code (⟨"com/example/outremer_engine/outremerengine/diplomacy/Order$SupportMove", "to", "()Lcom/example/outremer_engine/outremerengine/board/Place;"⟩ : MethodName) prog_81_method_9_code 1 (some (.object "com/example/outremer_engine/outremerengine/board/Place")) :: ws) ({ frames := 0, cells := 0, slots := 0, locals := 0 } : Room)) (fun a U => a = #[(.ref aa0)] ∧ Z.Warmed39 U.vm ∧ U.heap = h0) (fun _ _ _ _ _ => True) (fun _ U o U' => ∃ v L, o = .returned v ∧ Q16 Z aa0 vv h0 n0 v U'.heap L ∧ FrameEnd U o U' L ({ frames := 0, cells := 0, slots := 0, locals := 0 } : Room).cells ({ frames := 0, cells := 0, slots := 0, locals := 0 } : Room).slots) := by
  refine MetFree.of_bodySF (plainFor_of_name pn_com_example_outremer_engine_outremerengine_diplomacy_Order_SupportMove) hisR ?_
  intro p e s m args below meth c s₁ Bd hml0 hP hK
  obtain ⟨rfl, hZ, hh⟩ := hP
  have hx := Bd.exec
  have hby := Bd.bytes
  have hml : c.maxLocals = 1 := hml0
  have hown : s.vm.findClass "com/example/outremer_engine/outremerengine/diplomacy/Order$SupportMove" = some m.cls := findClass_of_methodNamed Bd.named
  have hnm := (name_of_methodNamed Bd.named Bd.method).1
  have X0 : Stand p l e ({ frames := 0, cells := 0, slots := 0, locals := 0 } : Room) s m #[(.ref aa0)] below meth c s₁ [] 0 0 := Stand.of_body Bd
  have e0 : s₁.heap = h0 := by rw [← hh, Bd.state]; rfl
  have N0 := Fr.nil n0
  have pre0 : ∀ t, Steps p.tables e below (s₁.setTop (mkF m 0 #[.val (.ref aa0)] [])) t → Steps p.tables e below (s₁.setTop (entryFrame m #[(.ref aa0)] 1)) t := fun t k => castTop (ef_16 m aa0) k
  obtain ⟨T1, X1, e1, st1⟩ := getF X0 hx hZ hown (host := "") (Or.inl (hw _ (List.mem_of_getElem? (i := 76) rfl))) Via.refl e0 F_aa0_to (g := (mkF m 1 #[.val (.ref aa0)] [(.ref aa0)])) rfl rfl (hb hby d16_1)
  obtain ⟨fs, hr, hrun, hended, hW, hsame⟩ := X1.leave (v := some (.ref vv)) (fun h => by rw [Bd.returns] at h; cases h)
  refine ⟨_, _, pre0 _ ?_, hrun, hended, _, _, rfl, ?_, ⟨_, rfl⟩, hW, hsame.mono (by decide) (by decide)⟩
  · show Steps p.tables e below (s₁.setTop (mkF m 0 #[.val (.ref aa0)] [])) _
    refine XS.aloadN X0.here hx rfl (hb hby d16_0) rfl rfl ?_
    refine st1 _ ?_
    jvm_step X1.here [X1.here.top, hx, (hb hby d16_4), X1.method', Bd.returns, Value.isRef, FieldType.isReference]
    first | (intro acts; rw [hr _ acts rfl rfl rfl]) | rw [hr _ _ rfl rfl rfl]
    exact Steps.refl _
  · show Q16 Z aa0 vv h0 n0 _ T1.heap _
    rw [e1]
    exact ⟨rfl, N0, rfl⟩
theorem pn_java_util_Optional : plainName "java/util/Optional" = true := by first | (simp [plainName, overriddenIn]; done) | decide +kernel
theorem d17_0 : decode jdk_32_method_1_code 0 = .ok (.getstatic 1, 3) := by decide +kernel
theorem d17_3 : decode jdk_32_method_1_code 3 = .ok (.astore_n 0, 1) := by decide +kernel
theorem d17_4 : decode jdk_32_method_1_code 4 = .ok (.aload_n 0, 1) := by decide +kernel
theorem d17_5 : decode jdk_32_method_1_code 5 = .ok (.areturn, 1) := by decide +kernel
theorem ef_17 (m : MethodId)  : entryFrame m #[] 1 = mkF m 0 #[.unset] [] := by first | (simp [entryFrame, mkF, argsToLocals, Value.category]; done) | rfl
def Q17 (Z : State) (op : Addr) (h0 : Heap) (n0 : Nat) (v : Option Value) (h : Heap) (L : List Loc) : Prop := v = some (.ref op) ∧ Fr n0 L ∧ h = h0
set_option maxRecDepth 65536 in
set_option maxHeartbeats 40000000 in
theorem rm17 (l : Launch) (Z : State) (a0 : Array Value) (hw : ∀ d ∈ tables_1, d.before a0 Z = true) (ws : List Jvm.Cond) (op : Addr) (h0 : Heap) (n0 : Nat) (Z0 : n0 ≤ h0.size) (O0 : Old Z n0 h0) (S_EMPTY : Sta Z Z.heap "java/util/Optional" "EMPTY" "Ljava/util/Optional;" (.ref op)) :
    MetFree l (⟨"java/util/Optional", "empty", "()Ljava/util/Optional;"⟩ : MethodName) (head1 (Jvm.Cond.code (⟨"java/util/Optional", "empty", "()Ljava/util/Optional;"⟩ : MethodName) jdk_32_method_1_code 1 (some (.object "java/util/Optional")) :: ws) ({ frames := 0, cells := 0, slots := 0, locals := 0 } : Room)) (fun a U => a = #[] ∧ Z.Warmed39 U.vm ∧ U.heap = h0) (fun _ _ _ _ _ => True) (fun _ U o U' => ∃ v L, o = .returned v ∧ Q17 Z op h0 n0 v U'.heap L ∧ FrameEnd U o U' L ({ frames := 0, cells := 0, slots := 0, locals := 0 } : Room).cells ({ frames := 0, cells := 0, slots := 0, locals := 0 } : Room).slots) := by
  refine MetFree.of_bodySF (plainFor_of_name pn_java_util_Optional) hisR ?_
  intro p e s m args below meth c s₁ Bd hml0 hP hK
  obtain ⟨rfl, hZ, hh⟩ := hP
  have hx := Bd.exec
  have hby := Bd.bytes
  have hml : c.maxLocals = 1 := hml0
  have hown : s.vm.findClass "java/util/Optional" = some m.cls := findClass_of_methodNamed Bd.named
  have hnm := (name_of_methodNamed Bd.named Bd.method).1
  have X0 : Stand p l e ({ frames := 0, cells := 0, slots := 0, locals := 0 } : Room) s m #[] below meth c s₁ [] 0 0 := Stand.of_body Bd
  have e0 : s₁.heap = h0 := by rw [← hh, Bd.state]; rfl
  have N0 := Fr.nil n0
  have pre0 : ∀ t, Steps p.tables e below (s₁.setTop (mkF m 0 #[.unset] [])) t → Steps p.tables e below (s₁.setTop (entryFrame m #[] 1)) t := fun t k => castTop (ef_17 m ) k
  obtain ⟨T1, X1, e1, st1⟩ := getS2 X0 hx hZ hown (host := "") (Or.inl (hw _ (List.mem_of_getElem? (i := 109) rfl))) Via.refl e0 (S_EMPTY.ext O0.2) (g := (mkF m 0 #[.unset] [])) rfl (hb hby d17_0)
  obtain ⟨fs, hr, hrun, hended, hW, hsame⟩ := X1.leave (v := some (.ref op)) (fun h => by rw [Bd.returns] at h; cases h)
  refine ⟨_, _, pre0 _ ?_, hrun, hended, _, _, rfl, ?_, ⟨_, rfl⟩, hW, hsame.mono (by decide) (by decide)⟩
  · show Steps p.tables e below (s₁.setTop (mkF m 0 #[.unset] [])) _
    refine st1 _ ?_
    refine XS.astoreN X1.here hx rfl (hb hby d17_3) rfl rfl (l' := #[.val (.ref op)]) rfl ?_
    refine XS.aloadN X1.here hx rfl (hb hby d17_4) rfl rfl ?_
    jvm_step X1.here [X1.here.top, hx, (hb hby d17_5), X1.method', Bd.returns, Value.isRef, FieldType.isReference]
    first | (intro acts; rw [hr _ acts rfl rfl rfl]) | rw [hr _ _ rfl rfl rfl]
    exact Steps.refl _
  · show Q17 Z op h0 n0 _ T1.heap _
    rw [e1]
    exact ⟨rfl, N0, rfl⟩
theorem pd__28_I_29_Ljava_2f_lang_2f_String_3b_ : parseMethodDescriptor "(I)Ljava/lang/String;" = some ⟨[.int], some (.object "java/lang/String")⟩ := by decide +kernel
theorem pd__28_Lcom_2f_example_2f_outremer_engine_2f_outremerengine_2f_board_2f_Province_3b_Ljava_2f_lang_2f_String_3b__29_V : parseMethodDescriptor "(Lcom/example/outremer_engine/outremerengine/board/Province;Ljava/lang/String;)V" = some ⟨[(.object "com/example/outremer_engine/outremerengine/board/Province"), (.object "java/lang/String")], none⟩ := by decide +kernel
theorem pd__28_Ljava_2f_lang_2f_String_3b_Lcom_2f_example_2f_outremer_engine_2f_outremerengine_2f_board_2f_UnitType_3b_Lcom_2f_example_2f_outremer_engine_2f_outremerengine_2f_board_2f_Place_3b__29_V : parseMethodDescriptor "(Ljava/lang/String;Lcom/example/outremer_engine/outremerengine/board/UnitType;Lcom/example/outremer_engine/outremerengine/board/Place;)V" = some ⟨[(.object "java/lang/String"), (.object "com/example/outremer_engine/outremerengine/board/UnitType"), (.object "com/example/outremer_engine/outremerengine/board/Place")], none⟩ := by decide +kernel
theorem pd__28_Lcom_2f_example_2f_outremer_engine_2f_outremerengine_2f_board_2f_Unit_3b__29_Lcom_2f_example_2f_outremer_engine_2f_outremerengine_2f_diplomacy_2f_Order_24_SupportMove_3b_ : parseMethodDescriptor "(Lcom/example/outremer_engine/outremerengine/board/Unit;)Lcom/example/outremer_engine/outremerengine/diplomacy/Order$SupportMove;" = some ⟨[(.object "com/example/outremer_engine/outremerengine/board/Unit")], some (.object "com/example/outremer_engine/outremerengine/diplomacy/Order$SupportMove")⟩ := by decide +kernel
theorem pd__28__29_Lcom_2f_example_2f_outremer_engine_2f_outremerengine_2f_board_2f_Unit_3b_ : parseMethodDescriptor "()Lcom/example/outremer_engine/outremerengine/board/Unit;" = some ⟨[], some (.object "com/example/outremer_engine/outremerengine/board/Unit")⟩ := by decide +kernel
theorem pd__28__29_Ljava_2f_util_2f_Optional_3b_ : parseMethodDescriptor "()Ljava/util/Optional;" = some ⟨[], some (.object "java/util/Optional")⟩ := by decide +kernel
theorem pd__28__29_Lcom_2f_example_2f_outremer_engine_2f_outremerengine_2f_board_2f_Place_3b_ : parseMethodDescriptor "()Lcom/example/outremer_engine/outremerengine/board/Place;" = some ⟨[], some (.object "com/example/outremer_engine/outremerengine/board/Place")⟩ := by decide +kernel
theorem ef_0 (m : MethodId) (x0 : Int32) (x1 : Int32) (x2 : Int32) (x3 : Int32) (x4 : Int32) : entryFrame m #[(.int x0), (.int x1), (.int x2), (.int x3), (.int x4)] maxLocals = mkF m 0 #[.val (.int x0), .val (.int x1), .val (.int x2), .val (.int x3), .val (.int x4), .unset, .unset, .unset, .unset, .unset, .unset, .unset, .unset, .unset, .unset, .unset, .unset] [] := by first | (simp [entryFrame, mkF, argsToLocals, Value.category, maxLocals]; done) | rfl
def Q0 (Z : State) (pp1 : Int32) (pp2 : Int32) (pp3 : Int32) (pp4 : Int32) (pp5 : Int32) (cs : Int32) (op : Addr) (h0 : Heap) (n0 : Nat) (v : Option Value) (h : Heap) (L : List Loc) : Prop := v = some (.int 1) ∧ Fr n0 L
set_option maxRecDepth 65536 in
set_option maxHeartbeats 40000000 in
theorem rm0 (l : Launch) (Z : State) (a0 : Array Value) (hw : ∀ d ∈ tables_1, d.before a0 Z = true) (ws : List Jvm.Cond) (pp1 : Int32) (pp2 : Int32) (pp3 : Int32) (pp4 : Int32) (pp5 : Int32) (cs : Int32) (op : Addr) (h0 : Heap) (n0 : Nat) (Z0 : n0 ≤ h0.size) (O0 : Old Z n0 h0) (S_COMPACT_STRINGS : Sta Z Z.heap "java/lang/String" "COMPACT_STRINGS" "Z" (.int cs)) (hcs : ¬ cs = (0 : Int32)) (S_EMPTY : Sta Z Z.heap "java/util/Optional" "EMPTY" "Ljava/util/Optional;" (.ref op)) :
    MetFree l x (head1 (Jvm.Cond.code x code maxLocals ret :: ws) room_1) (fun a U => a = #[(.int pp1), (.int pp2), (.int pp3), (.int pp4), (.int pp5)] ∧ Z.Warmed39 U.vm ∧ U.heap = h0) (fun _ _ _ _ _ => True) (fun _ U o U' => ∃ v L, o = .returned v ∧ Q0 Z pp1 pp2 pp3 pp4 pp5 cs op h0 n0 v U'.heap L ∧ FrameEnd U o U' L room_1.cells room_1.slots) := by
  refine MetFree.of_bodySF (plainFor_of_name pn_com_example_outremer_engine_outremerengine_diplomacy_SupportMoveGivenToPinLaw) hisR ?_
  intro p e s m args below meth c s₁ Bd hml0 hP hK
  obtain ⟨rfl, hZ, hh⟩ := hP
  have hx := Bd.exec
  have hby := Bd.bytes
  have hml : c.maxLocals = 17 := hml0
  have hown : s.vm.findClass "com/example/outremer_engine/outremerengine/diplomacy/SupportMoveGivenToPinLaw" = some m.cls := findClass_of_methodNamed Bd.named
  have hnm := (name_of_methodNamed Bd.named Bd.method).1
  have X0 : Stand p l e room_1 s m #[(.int pp1), (.int pp2), (.int pp3), (.int pp4), (.int pp5)] below meth c s₁ [] 0 0 := Stand.of_body Bd
  have e0 : s₁.heap = h0 := by rw [← hh, Bd.state]; rfl
  have N0 := Fr.nil n0
  have pre0 : ∀ t, Steps p.tables e below (s₁.setTop (mkF m 0 #[.val (.int pp1), .val (.int pp2), .val (.int pp3), .val (.int pp4), .val (.int pp5), .unset, .unset, .unset, .unset, .unset, .unset, .unset, .unset, .unset, .unset, .unset, .unset] [])) t → Steps p.tables e below (s₁.setTop (entryFrame m #[(.int pp1), (.int pp2), (.int pp3), (.int pp4), (.int pp5)] maxLocals)) t := fun t k => castTop (ef_0 m pp1 pp2 pp3 pp4 pp5) k
  have pre1 : ∀ t, Steps p.tables e below (s₁.setTop (mkF m 4 #[.val (.int pp1), .val (.int pp2), .val (.int pp3), .val (.int pp4), .val (.int pp5), .unset, .unset, .unset, .unset, .unset, .unset, .unset, .unset, .unset, .unset, .unset, .unset] [(.int (pp5 &&& (1 : Int32)))])) t → Steps p.tables e below (s₁.setTop (entryFrame m #[(.int pp1), (.int pp2), (.int pp3), (.int pp4), (.int pp5)] maxLocals)) t := fun t kt => pre0 t (by
    refine XS.iload X0.here hx rfl (hb hby at_0) rfl ?_
    refine XS.iconst X0.here hx rfl (hb hby at_2) ?_
    refine XS.iand X0.here hx rfl (hb hby at_3) rfl ?_
    exact kt)
  by_cases hc4 : (pp5 &&& (1 : Int32)) = (0 : Int32)
  · skip
    have pre2 : ∀ t, Steps p.tables e below (s₁.setTop (mkF m 18 #[.val (.int pp1), .val (.int pp2), .val (.int pp3), .val (.int pp4), .val (.int pp5), .val (.int (0 : Int32)), .unset, .unset, .unset, .unset, .unset, .unset, .unset, .unset, .unset, .unset, .unset] [(.int (pp5 &&& (2 : Int32)))])) t → Steps p.tables e below (s₁.setTop (entryFrame m #[(.int pp1), (.int pp2), (.int pp3), (.int pp4), (.int pp5)] maxLocals)) t := fun t kt => pre1 t (by
      refine XS.ifYes X0.here hx rfl (pc0 := 4) (pc' := 11) rfl (hb hby at_4) rfl ((if0 _ _).trans (teq hc4).1) (by decide) (by decide) ?_
      refine XS.iconst X0.here hx rfl (hb hby at_11) ?_
      refine XS.istore X0.here hx rfl (hb hby at_12) rfl (l' := #[.val (.int pp1), .val (.int pp2), .val (.int pp3), .val (.int pp4), .val (.int pp5), .val (.int (0 : Int32)), .unset, .unset, .unset, .unset, .unset, .unset, .unset, .unset, .unset, .unset, .unset]) rfl ?_
      refine XS.iload X0.here hx rfl (hb hby at_14) rfl ?_
      refine XS.iconst X0.here hx rfl (hb hby at_16) ?_
      refine XS.iand X0.here hx rfl (hb hby at_17) rfl ?_
      exact kt)
    by_cases hc18 : (pp5 &&& (2 : Int32)) = (0 : Int32)
    · skip
      have pre3 : ∀ t, Steps p.tables e below (s₁.setTop (mkF m 32 #[.val (.int pp1), .val (.int pp2), .val (.int pp3), .val (.int pp4), .val (.int pp5), .val (.int (0 : Int32)), .val (.int (0 : Int32)), .unset, .unset, .unset, .unset, .unset, .unset, .unset, .unset, .unset, .unset] [(.int (pp5 &&& (4 : Int32)))])) t → Steps p.tables e below (s₁.setTop (entryFrame m #[(.int pp1), (.int pp2), (.int pp3), (.int pp4), (.int pp5)] maxLocals)) t := fun t kt => pre2 t (by
        refine XS.ifYes X0.here hx rfl (pc0 := 18) (pc' := 25) rfl (hb hby at_18) rfl ((if0 _ _).trans (teq hc18).1) (by decide) (by decide) ?_
        refine XS.iconst X0.here hx rfl (hb hby at_25) ?_
        refine XS.istore X0.here hx rfl (hb hby at_26) rfl (l' := #[.val (.int pp1), .val (.int pp2), .val (.int pp3), .val (.int pp4), .val (.int pp5), .val (.int (0 : Int32)), .val (.int (0 : Int32)), .unset, .unset, .unset, .unset, .unset, .unset, .unset, .unset, .unset, .unset]) rfl ?_
        refine XS.iload X0.here hx rfl (hb hby at_28) rfl ?_
        refine XS.iconst X0.here hx rfl (hb hby at_30) ?_
        refine XS.iand X0.here hx rfl (hb hby at_31) rfl ?_
        exact kt)
      by_cases hc32 : (pp5 &&& (4 : Int32)) = (0 : Int32)
      · skip
        obtain ⟨T4, h4, X4, e4, E4, A4, D4, -, st4⟩ := newO X0 hx hZ hown (hw _ (List.mem_of_getElem? (i := 0) rfl)) (hw _ (List.mem_of_getElem? (i := 1) rfl)) (hw _ (List.mem_of_getElem? (i := 2) rfl)) e0 (g := (mkF m 42 #[.val (.int pp1), .val (.int pp2), .val (.int pp3), .val (.int pp4), .val (.int pp5), .val (.int (0 : Int32)), .val (.int (0 : Int32)), .val (.int (0 : Int32)), .unset, .unset, .unset, .unset, .unset, .unset, .unset, .unset, .unset] [])) rfl (hb hby at_42) (by decide) (by decide)
        obtain ⟨b4, g4⟩ : ∃ z, z = h0.size := ⟨_, rfl⟩
        rw [← g4] at A4 D4 st4
        have g_b4 : n0 ≤ b4 := Nat.le_trans Z0 (Nat.le_of_eq g4.symm)
        have Z4 : n0 ≤ h4.size := Nat.le_trans Z0 E4.1
        have F4_province : Fld Z h4 b4 "com/example/outremer_engine/outremerengine/board/Place" "province" "Lcom/example/outremer_engine/outremerengine/board/Province;" .null := D4 (Or.inr (hw _ (List.mem_of_getElem? (i := 47) rfl))) (ty := (.object "com/example/outremer_engine/outremerengine/board/Province")) (by decide)
        have F4_coast : Fld Z h4 b4 "com/example/outremer_engine/outremerengine/board/Place" "coast" "Ljava/lang/String;" .null := D4 (Or.inr (hw _ (List.mem_of_getElem? (i := 49) rfl))) (ty := (.object "java/lang/String")) (by decide)
        have O_5 : Old Z n0 h4 := (O0.ext E4)
        obtain ⟨_, _, ⟨T6, L6, k6, n6⟩, -, X6, ⟨Lc6, hQ6, l6, y6, z6⟩, st6⟩ := Jvm.LawKit.callS X4 hx (y := (⟨"com/example/outremer_engine/outremerengine/diplomacy/SupportMoveGivenToPinLaw", "drawn", "(I)Ljava/lang/String;"⟩ : MethodName)) hown (mvT hZ (hw _ (List.mem_of_getElem? (i := 3) rfl))) (mvT hZ (hw _ (List.mem_of_getElem? (i := 4) rfl))) (mvT hZ (hw _ (List.mem_of_getElem? (i := 5) rfl))) (mvT hZ (hw _ (List.mem_of_getElem? (i := 6) rfl))) (by decide) (backOf (W := 3) (rm1 l Z a0 hw [] pp3 cs h4 n0 Z4 O_5 S_COMPACT_STRINGS (show ¬ cs = (0 : Int32) from hcs)) hZ (hw _ (List.mem_of_getElem? (i := 6) rfl)) (hw _ (List.mem_of_getElem? (i := 5) rfl)) (by decide) (by decide)) (g := (mkF m 48 #[.val (.int pp1), .val (.int pp2), .val (.int pp3), .val (.int pp4), .val (.int pp5), .val (.int (0 : Int32)), .val (.int (0 : Int32)), .val (.int (0 : Int32)), .unset, .unset, .unset, .unset, .unset, .unset, .unset, .unset, .unset] [(.int pp3), .null, (.ref b4), (.ref b4)])) rfl (by rw [hml]; rfl) (argsL := [(.int pp3)]) (rest := [.null, (.ref b4), (.ref b4)]) (lenOf pd__28_I_29_Ljava_2f_lang_2f_String_3b_ rfl) rfl (by show 2 * 0 + _ ≤ _; exact Nat.le_of_eq rfl) (hb hby at_48) (fun _ _ => ⟨rfl, e4, (by decide : 1 + 3 ≤ _), (by decide : 2 + 8 ≤ _)⟩)
        dsimp only [Pt.U, Pt.locs, Pt.cells, Pt.slots] at X6 l6 y6 z6 st6 hQ6
        subst y6 z6
        obtain ⟨bx_6, rfl, N6q, K6c, g_bx_6, sb_bx_6⟩ := hQ6
        have N6 : Fr n0 L6 := by rw [l6]; exact Fr.app N0 N6q
        have Z6 : n0 ≤ T6.heap.size := Nat.le_trans Z4 K6c.1
        change Stand _ _ _ _ _ _ _ _ _ _ _ _ 4 10 at X6
        have E_7 : Exa Z T6.heap b4 "com/example/outremer_engine/outremerengine/board/Place" := (A4.keep K6c)
        have F_8 : Fld Z T6.heap b4 "com/example/outremer_engine/outremerengine/board/Place" "province" "Lcom/example/outremer_engine/outremerengine/board/Province;" .null := (F4_province.keep K6c nin0)
        have F_9 : Fld Z T6.heap b4 "com/example/outremer_engine/outremerengine/board/Place" "coast" "Ljava/lang/String;" .null := (F4_coast.keep K6c nin0)
        obtain ⟨_, _, ⟨T10, L10, k10, n10⟩, -, X10, ⟨Lc10, hQ10, l10, y10, z10⟩, st10⟩ := X6.specialBack hx (y := (⟨"com/example/outremer_engine/outremerengine/board/Place", "<init>", "(Lcom/example/outremer_engine/outremerengine/board/Province;Ljava/lang/String;)V"⟩ : MethodName)) rfl hown (mvT hZ (hw _ (List.mem_of_getElem? (i := 37) rfl))) (mvT hZ (hw _ (List.mem_of_getElem? (i := 38) rfl))) (mvT hZ (hw _ (List.mem_of_getElem? (i := 39) rfl))) (by decide) (backOf (W := 1) (rm8 l Z a0 hw [] b4 bx_6 .null .null T6.heap n0 Z6 E_7 g_b4 F_8 F_9) hZ (hw _ (List.mem_of_getElem? (i := 39) rfl)) (hw _ (List.mem_of_getElem? (i := 2) rfl)) (by decide) (by decide)) (g := (mkF m 51 #[.val (.int pp1), .val (.int pp2), .val (.int pp3), .val (.int pp4), .val (.int pp5), .val (.int (0 : Int32)), .val (.int (0 : Int32)), .val (.int (0 : Int32)), .unset, .unset, .unset, .unset, .unset, .unset, .unset, .unset, .unset] [(.ref bx_6), .null, (.ref b4), (.ref b4)])) rfl (by rw [hml]; rfl) (Steps.refl _) (a := b4) (argsL := [.null, (.ref bx_6)]) (rest := [(.ref b4)]) (lenOf pd__28_Lcom_2f_example_2f_outremer_engine_2f_outremerengine_2f_board_2f_Province_3b_Ljava_2f_lang_2f_String_3b__29_V rfl) rfl (by show 2 * 0 + _ ≤ _; exact Nat.le_of_eq rfl) (hb hby at_51) (fun _ _ => ⟨rfl, rfl, (by decide : 4 + 0 ≤ _), (by decide : 10 + 0 ≤ _)⟩)
        dsimp only [Pt.U, Pt.locs, Pt.cells, Pt.slots] at X10 l10 y10 z10 st10 hQ10
        subst y10 z10
        obtain ⟨rfl, N10q, K10c, R10_0, R10_1⟩ := hQ10
        have N10 : Fr n0 L10 := by rw [l10]; exact Fr.app N6 N10q
        have Z10 : n0 ≤ T10.heap.size := Nat.le_trans Z6 K10c.1
        change Stand _ _ _ _ _ _ _ _ _ _ _ _ 4 10 at X10
        have hc58 : (0 : Int32) = (0 : Int32) := by decide
        obtain ⟨T11, h11, X11, e11, E11, A11, D11, -, st11⟩ := newO X10 hx hZ hown (hw _ (List.mem_of_getElem? (i := 0) rfl)) (hw _ (List.mem_of_getElem? (i := 1) rfl)) (hw _ (List.mem_of_getElem? (i := 2) rfl)) rfl (g := (mkF m 66 #[.val (.int pp1), .val (.int pp2), .val (.int pp3), .val (.int pp4), .val (.int pp5), .val (.int (0 : Int32)), .val (.int (0 : Int32)), .val (.int (0 : Int32)), .val (.ref b4), .unset, .unset, .unset, .unset, .unset, .unset, .unset, .unset] [])) rfl (hb hby at_66) (by decide) (by decide)
        obtain ⟨b11, g11⟩ : ∃ z, z = T10.heap.size := ⟨_, rfl⟩
        rw [← g11] at A11 D11 st11
        have g_b11 : n0 ≤ b11 := Nat.le_trans Z10 (Nat.le_of_eq g11.symm)
        have Z11 : n0 ≤ h11.size := Nat.le_trans Z10 E11.1
        have F11_province : Fld Z h11 b11 "com/example/outremer_engine/outremerengine/board/Place" "province" "Lcom/example/outremer_engine/outremerengine/board/Province;" .null := D11 (Or.inr (hw _ (List.mem_of_getElem? (i := 47) rfl))) (ty := (.object "com/example/outremer_engine/outremerengine/board/Province")) (by decide)
        have F11_coast : Fld Z h11 b11 "com/example/outremer_engine/outremerengine/board/Place" "coast" "Ljava/lang/String;" .null := D11 (Or.inr (hw _ (List.mem_of_getElem? (i := 49) rfl))) (ty := (.object "java/lang/String")) (by decide)
        have O_12 : Old Z n0 h11 := (((O_5.keep K6c all0).keep K10c (allS g_b4 all0)).ext E11)
        obtain ⟨_, _, ⟨T13, L13, k13, n13⟩, -, X13, ⟨Lc13, hQ13, l13, y13, z13⟩, st13⟩ := Jvm.LawKit.callS X11 hx (y := (⟨"com/example/outremer_engine/outremerengine/diplomacy/SupportMoveGivenToPinLaw", "drawn", "(I)Ljava/lang/String;"⟩ : MethodName)) hown (mvT hZ (hw _ (List.mem_of_getElem? (i := 3) rfl))) (mvT hZ (hw _ (List.mem_of_getElem? (i := 4) rfl))) (mvT hZ (hw _ (List.mem_of_getElem? (i := 5) rfl))) (mvT hZ (hw _ (List.mem_of_getElem? (i := 6) rfl))) (by decide) (backOf (W := 3) (rm1 l Z a0 hw [] pp4 cs h11 n0 Z11 O_12 S_COMPACT_STRINGS (show ¬ cs = (0 : Int32) from hcs)) hZ (hw _ (List.mem_of_getElem? (i := 6) rfl)) (hw _ (List.mem_of_getElem? (i := 5) rfl)) (by decide) (by decide)) (g := (mkF m 72 #[.val (.int pp1), .val (.int pp2), .val (.int pp3), .val (.int pp4), .val (.int pp5), .val (.int (0 : Int32)), .val (.int (0 : Int32)), .val (.int (0 : Int32)), .val (.ref b4), .unset, .unset, .unset, .unset, .unset, .unset, .unset, .unset] [(.int pp4), .null, (.ref b11), (.ref b11)])) rfl (by rw [hml]; rfl) (argsL := [(.int pp4)]) (rest := [.null, (.ref b11), (.ref b11)]) (lenOf pd__28_I_29_Ljava_2f_lang_2f_String_3b_ rfl) rfl (by show 2 * 0 + _ ≤ _; exact Nat.le_of_eq rfl) (hb hby at_72) (fun _ _ => ⟨rfl, e11, (by decide : 5 + 3 ≤ _), (by decide : 12 + 8 ≤ _)⟩)
        dsimp only [Pt.U, Pt.locs, Pt.cells, Pt.slots] at X13 l13 y13 z13 st13 hQ13
        subst y13 z13
        obtain ⟨bx_13, rfl, N13q, K13c, g_bx_13, sb_bx_13⟩ := hQ13
        have N13 : Fr n0 L13 := by rw [l13]; exact Fr.app N10 N13q
        have Z13 : n0 ≤ T13.heap.size := Nat.le_trans Z11 K13c.1
        change Stand _ _ _ _ _ _ _ _ _ _ _ _ 8 20 at X13
        have E_14 : Exa Z T13.heap b11 "com/example/outremer_engine/outremerengine/board/Place" := (A11.keep K13c)
        have F_15 : Fld Z T13.heap b11 "com/example/outremer_engine/outremerengine/board/Place" "province" "Lcom/example/outremer_engine/outremerengine/board/Province;" .null := (F11_province.keep K13c nin0)
        have F_16 : Fld Z T13.heap b11 "com/example/outremer_engine/outremerengine/board/Place" "coast" "Ljava/lang/String;" .null := (F11_coast.keep K13c nin0)
        obtain ⟨_, _, ⟨T17, L17, k17, n17⟩, -, X17, ⟨Lc17, hQ17, l17, y17, z17⟩, st17⟩ := X13.specialBack hx (y := (⟨"com/example/outremer_engine/outremerengine/board/Place", "<init>", "(Lcom/example/outremer_engine/outremerengine/board/Province;Ljava/lang/String;)V"⟩ : MethodName)) rfl hown (mvT hZ (hw _ (List.mem_of_getElem? (i := 37) rfl))) (mvT hZ (hw _ (List.mem_of_getElem? (i := 38) rfl))) (mvT hZ (hw _ (List.mem_of_getElem? (i := 39) rfl))) (by decide) (backOf (W := 1) (rm8 l Z a0 hw [] b11 bx_13 .null .null T13.heap n0 Z13 E_14 g_b11 F_15 F_16) hZ (hw _ (List.mem_of_getElem? (i := 39) rfl)) (hw _ (List.mem_of_getElem? (i := 2) rfl)) (by decide) (by decide)) (g := (mkF m 75 #[.val (.int pp1), .val (.int pp2), .val (.int pp3), .val (.int pp4), .val (.int pp5), .val (.int (0 : Int32)), .val (.int (0 : Int32)), .val (.int (0 : Int32)), .val (.ref b4), .unset, .unset, .unset, .unset, .unset, .unset, .unset, .unset] [(.ref bx_13), .null, (.ref b11), (.ref b11)])) rfl (by rw [hml]; rfl) (Steps.refl _) (a := b11) (argsL := [.null, (.ref bx_13)]) (rest := [(.ref b11)]) (lenOf pd__28_Lcom_2f_example_2f_outremer_engine_2f_outremerengine_2f_board_2f_Province_3b_Ljava_2f_lang_2f_String_3b__29_V rfl) rfl (by show 2 * 0 + _ ≤ _; exact Nat.le_of_eq rfl) (hb hby at_75) (fun _ _ => ⟨rfl, rfl, (by decide : 8 + 0 ≤ _), (by decide : 20 + 0 ≤ _)⟩)
        dsimp only [Pt.U, Pt.locs, Pt.cells, Pt.slots] at X17 l17 y17 z17 st17 hQ17
        subst y17 z17
        obtain ⟨rfl, N17q, K17c, R17_0, R17_1⟩ := hQ17
        have N17 : Fr n0 L17 := by rw [l17]; exact Fr.app N13 N17q
        have Z17 : n0 ≤ T17.heap.size := Nat.le_trans Z13 K17c.1
        change Stand _ _ _ _ _ _ _ _ _ _ _ _ 8 20 at X17
        obtain ⟨T18, h18, X18, e18, E18, A18, D18, -, st18⟩ := newO X17 hx hZ hown (hw _ (List.mem_of_getElem? (i := 50) rfl)) (hw _ (List.mem_of_getElem? (i := 51) rfl)) (hw _ (List.mem_of_getElem? (i := 52) rfl)) rfl (g := (mkF m 80 #[.val (.int pp1), .val (.int pp2), .val (.int pp3), .val (.int pp4), .val (.int pp5), .val (.int (0 : Int32)), .val (.int (0 : Int32)), .val (.int (0 : Int32)), .val (.ref b4), .val (.ref b11), .unset, .unset, .unset, .unset, .unset, .unset, .unset] [])) rfl (hb hby at_80) (by decide) (by decide)
        obtain ⟨b18, g18⟩ : ∃ z, z = T17.heap.size := ⟨_, rfl⟩
        rw [← g18] at A18 D18 st18
        have g_b18 : n0 ≤ b18 := Nat.le_trans Z17 (Nat.le_of_eq g18.symm)
        have Z18 : n0 ≤ h18.size := Nat.le_trans Z17 E18.1
        have F18_nation : Fld Z h18 b18 "com/example/outremer_engine/outremerengine/board/Unit" "nation" "Ljava/lang/String;" .null := D18 (Or.inr (hw _ (List.mem_of_getElem? (i := 58) rfl))) (ty := (.object "java/lang/String")) (by decide)
        have F18_type : Fld Z h18 b18 "com/example/outremer_engine/outremerengine/board/Unit" "type" "Lcom/example/outremer_engine/outremerengine/board/UnitType;" .null := D18 (Or.inr (hw _ (List.mem_of_getElem? (i := 60) rfl))) (ty := (.object "com/example/outremer_engine/outremerengine/board/UnitType")) (by decide)
        have F18_place : Fld Z h18 b18 "com/example/outremer_engine/outremerengine/board/Unit" "place" "Lcom/example/outremer_engine/outremerengine/board/Place;" .null := D18 (Or.inr (hw _ (List.mem_of_getElem? (i := 62) rfl))) (ty := (.object "com/example/outremer_engine/outremerengine/board/Place")) (by decide)
        have O_19 : Old Z n0 h18 := (((O_12.keep K13c all0).keep K17c (allS g_b11 all0)).ext E18)
        obtain ⟨_, _, ⟨T20, L20, k20, n20⟩, -, X20, ⟨Lc20, hQ20, l20, y20, z20⟩, st20⟩ := Jvm.LawKit.callS X18 hx (y := (⟨"com/example/outremer_engine/outremerengine/diplomacy/SupportMoveGivenToPinLaw", "drawn", "(I)Ljava/lang/String;"⟩ : MethodName)) hown (mvT hZ (hw _ (List.mem_of_getElem? (i := 3) rfl))) (mvT hZ (hw _ (List.mem_of_getElem? (i := 4) rfl))) (mvT hZ (hw _ (List.mem_of_getElem? (i := 5) rfl))) (mvT hZ (hw _ (List.mem_of_getElem? (i := 6) rfl))) (by decide) (backOf (W := 2) (rm1 l Z a0 hw [] pp1 cs h18 n0 Z18 O_19 S_COMPACT_STRINGS (show ¬ cs = (0 : Int32) from hcs)) hZ (hw _ (List.mem_of_getElem? (i := 6) rfl)) (hw _ (List.mem_of_getElem? (i := 5) rfl)) (by decide) (by decide)) (g := (mkF m 85 #[.val (.int pp1), .val (.int pp2), .val (.int pp3), .val (.int pp4), .val (.int pp5), .val (.int (0 : Int32)), .val (.int (0 : Int32)), .val (.int (0 : Int32)), .val (.ref b4), .val (.ref b11), .unset, .unset, .unset, .unset, .unset, .unset, .unset] [(.int pp1), (.ref b18), (.ref b18)])) rfl (by rw [hml]; rfl) (argsL := [(.int pp1)]) (rest := [(.ref b18), (.ref b18)]) (lenOf pd__28_I_29_Ljava_2f_lang_2f_String_3b_ rfl) rfl (by show 2 * 0 + _ ≤ _; exact Nat.le_of_eq rfl) (hb hby at_85) (fun _ _ => ⟨rfl, e18, (by decide : 9 + 3 ≤ _), (by decide : 23 + 8 ≤ _)⟩)
        dsimp only [Pt.U, Pt.locs, Pt.cells, Pt.slots] at X20 l20 y20 z20 st20 hQ20
        subst y20 z20
        obtain ⟨bx_20, rfl, N20q, K20c, g_bx_20, sb_bx_20⟩ := hQ20
        have N20 : Fr n0 L20 := by rw [l20]; exact Fr.app N17 N20q
        have Z20 : n0 ≤ T20.heap.size := Nat.le_trans Z18 K20c.1
        change Stand _ _ _ _ _ _ _ _ _ _ _ _ 12 31 at X20
        obtain ⟨T21, h21, X21, e21, E21, A21, D21, -, st21⟩ := newO X20 hx hZ hown (hw _ (List.mem_of_getElem? (i := 0) rfl)) (hw _ (List.mem_of_getElem? (i := 1) rfl)) (hw _ (List.mem_of_getElem? (i := 2) rfl)) rfl (g := (mkF m 89 #[.val (.int pp1), .val (.int pp2), .val (.int pp3), .val (.int pp4), .val (.int pp5), .val (.int (0 : Int32)), .val (.int (0 : Int32)), .val (.int (0 : Int32)), .val (.ref b4), .val (.ref b11), .unset, .unset, .unset, .unset, .unset, .unset, .unset] [.null, (.ref bx_20), (.ref b18), (.ref b18)])) rfl (hb hby at_89) (by decide) (by decide)
        obtain ⟨b21, g21⟩ : ∃ z, z = T20.heap.size := ⟨_, rfl⟩
        rw [← g21] at A21 D21 st21
        have g_b21 : n0 ≤ b21 := Nat.le_trans Z20 (Nat.le_of_eq g21.symm)
        have Z21 : n0 ≤ h21.size := Nat.le_trans Z20 E21.1
        have F21_province : Fld Z h21 b21 "com/example/outremer_engine/outremerengine/board/Place" "province" "Lcom/example/outremer_engine/outremerengine/board/Province;" .null := D21 (Or.inr (hw _ (List.mem_of_getElem? (i := 47) rfl))) (ty := (.object "com/example/outremer_engine/outremerengine/board/Province")) (by decide)
        have F21_coast : Fld Z h21 b21 "com/example/outremer_engine/outremerengine/board/Place" "coast" "Ljava/lang/String;" .null := D21 (Or.inr (hw _ (List.mem_of_getElem? (i := 49) rfl))) (ty := (.object "java/lang/String")) (by decide)
        have O_22 : Old Z n0 h21 := ((O_19.keep K20c all0).ext E21)
        obtain ⟨_, _, ⟨T23, L23, k23, n23⟩, -, X23, ⟨Lc23, hQ23, l23, y23, z23⟩, st23⟩ := Jvm.LawKit.callS X21 hx (y := (⟨"com/example/outremer_engine/outremerengine/diplomacy/SupportMoveGivenToPinLaw", "drawn", "(I)Ljava/lang/String;"⟩ : MethodName)) hown (mvT hZ (hw _ (List.mem_of_getElem? (i := 3) rfl))) (mvT hZ (hw _ (List.mem_of_getElem? (i := 4) rfl))) (mvT hZ (hw _ (List.mem_of_getElem? (i := 5) rfl))) (mvT hZ (hw _ (List.mem_of_getElem? (i := 6) rfl))) (by decide) (backOf (W := 7) (rm1 l Z a0 hw [] ((pp4.toUInt32 >>> ((16 : Int32) &&& 31).toUInt32).toInt32) cs h21 n0 Z21 O_22 S_COMPACT_STRINGS (show ¬ cs = (0 : Int32) from hcs)) hZ (hw _ (List.mem_of_getElem? (i := 6) rfl)) (hw _ (List.mem_of_getElem? (i := 5) rfl)) (by decide) (by decide)) (g := (mkF m 98 #[.val (.int pp1), .val (.int pp2), .val (.int pp3), .val (.int pp4), .val (.int pp5), .val (.int (0 : Int32)), .val (.int (0 : Int32)), .val (.int (0 : Int32)), .val (.ref b4), .val (.ref b11), .unset, .unset, .unset, .unset, .unset, .unset, .unset] [(.int ((pp4.toUInt32 >>> ((16 : Int32) &&& 31).toUInt32).toInt32)), .null, (.ref b21), (.ref b21), .null, (.ref bx_20), (.ref b18), (.ref b18)])) rfl (by rw [hml]; rfl) (argsL := [(.int ((pp4.toUInt32 >>> ((16 : Int32) &&& 31).toUInt32).toInt32))]) (rest := [.null, (.ref b21), (.ref b21), .null, (.ref bx_20), (.ref b18), (.ref b18)]) (lenOf pd__28_I_29_Ljava_2f_lang_2f_String_3b_ rfl) rfl (by show 2 * 0 + _ ≤ _; exact Nat.le_of_eq rfl) (hb hby at_98) (fun _ _ => ⟨rfl, e21, (by decide : 13 + 3 ≤ _), (by decide : 33 + 8 ≤ _)⟩)
        dsimp only [Pt.U, Pt.locs, Pt.cells, Pt.slots] at X23 l23 y23 z23 st23 hQ23
        subst y23 z23
        obtain ⟨bx_23, rfl, N23q, K23c, g_bx_23, sb_bx_23⟩ := hQ23
        have N23 : Fr n0 L23 := by rw [l23]; exact Fr.app N20 N23q
        have Z23 : n0 ≤ T23.heap.size := Nat.le_trans Z21 K23c.1
        change Stand _ _ _ _ _ _ _ _ _ _ _ _ 16 41 at X23
        have E_24 : Exa Z T23.heap b21 "com/example/outremer_engine/outremerengine/board/Place" := (A21.keep K23c)
        have F_25 : Fld Z T23.heap b21 "com/example/outremer_engine/outremerengine/board/Place" "province" "Lcom/example/outremer_engine/outremerengine/board/Province;" .null := (F21_province.keep K23c nin0)
        have F_26 : Fld Z T23.heap b21 "com/example/outremer_engine/outremerengine/board/Place" "coast" "Ljava/lang/String;" .null := (F21_coast.keep K23c nin0)
        obtain ⟨_, _, ⟨T27, L27, k27, n27⟩, -, X27, ⟨Lc27, hQ27, l27, y27, z27⟩, st27⟩ := X23.specialBack hx (y := (⟨"com/example/outremer_engine/outremerengine/board/Place", "<init>", "(Lcom/example/outremer_engine/outremerengine/board/Province;Ljava/lang/String;)V"⟩ : MethodName)) rfl hown (mvT hZ (hw _ (List.mem_of_getElem? (i := 37) rfl))) (mvT hZ (hw _ (List.mem_of_getElem? (i := 38) rfl))) (mvT hZ (hw _ (List.mem_of_getElem? (i := 39) rfl))) (by decide) (backOf (W := 5) (rm8 l Z a0 hw [] b21 bx_23 .null .null T23.heap n0 Z23 E_24 g_b21 F_25 F_26) hZ (hw _ (List.mem_of_getElem? (i := 39) rfl)) (hw _ (List.mem_of_getElem? (i := 2) rfl)) (by decide) (by decide)) (g := (mkF m 101 #[.val (.int pp1), .val (.int pp2), .val (.int pp3), .val (.int pp4), .val (.int pp5), .val (.int (0 : Int32)), .val (.int (0 : Int32)), .val (.int (0 : Int32)), .val (.ref b4), .val (.ref b11), .unset, .unset, .unset, .unset, .unset, .unset, .unset] [(.ref bx_23), .null, (.ref b21), (.ref b21), .null, (.ref bx_20), (.ref b18), (.ref b18)])) rfl (by rw [hml]; rfl) (Steps.refl _) (a := b21) (argsL := [.null, (.ref bx_23)]) (rest := [(.ref b21), .null, (.ref bx_20), (.ref b18), (.ref b18)]) (lenOf pd__28_Lcom_2f_example_2f_outremer_engine_2f_outremerengine_2f_board_2f_Province_3b_Ljava_2f_lang_2f_String_3b__29_V rfl) rfl (by show 2 * 0 + _ ≤ _; exact Nat.le_of_eq rfl) (hb hby at_101) (fun _ _ => ⟨rfl, rfl, (by decide : 16 + 0 ≤ _), (by decide : 41 + 0 ≤ _)⟩)
        dsimp only [Pt.U, Pt.locs, Pt.cells, Pt.slots] at X27 l27 y27 z27 st27 hQ27
        subst y27 z27
        obtain ⟨rfl, N27q, K27c, R27_0, R27_1⟩ := hQ27
        have N27 : Fr n0 L27 := by rw [l27]; exact Fr.app N23 N27q
        have Z27 : n0 ≤ T27.heap.size := Nat.le_trans Z23 K27c.1
        change Stand _ _ _ _ _ _ _ _ _ _ _ _ 16 41 at X27
        have E_28 : Exa Z T27.heap b18 "com/example/outremer_engine/outremerengine/board/Unit" := ((((A18.keep K20c).ext E21).keep K23c).keep K27c)
        have F_29 : Fld Z T27.heap b18 "com/example/outremer_engine/outremerengine/board/Unit" "nation" "Ljava/lang/String;" .null := ((((F18_nation.keep K20c nin0).ext E21).keep K23c nin0).keep K27c (ninS (Nat.ne_of_lt (Nat.lt_of_lt_of_le (A18.keep K20c).lt (Nat.le_of_eq g21.symm))) nin0))
        have F_30 : Fld Z T27.heap b18 "com/example/outremer_engine/outremerengine/board/Unit" "type" "Lcom/example/outremer_engine/outremerengine/board/UnitType;" .null := ((((F18_type.keep K20c nin0).ext E21).keep K23c nin0).keep K27c (ninS (Nat.ne_of_lt (Nat.lt_of_lt_of_le (A18.keep K20c).lt (Nat.le_of_eq g21.symm))) nin0))
        have F_31 : Fld Z T27.heap b18 "com/example/outremer_engine/outremerengine/board/Unit" "place" "Lcom/example/outremer_engine/outremerengine/board/Place;" .null := ((((F18_place.keep K20c nin0).ext E21).keep K23c nin0).keep K27c (ninS (Nat.ne_of_lt (Nat.lt_of_lt_of_le (A18.keep K20c).lt (Nat.le_of_eq g21.symm))) nin0))
        obtain ⟨_, _, ⟨T32, L32, k32, n32⟩, -, X32, ⟨Lc32, hQ32, l32, y32, z32⟩, st32⟩ := X27.specialBack hx (y := (⟨"com/example/outremer_engine/outremerengine/board/Unit", "<init>", "(Ljava/lang/String;Lcom/example/outremer_engine/outremerengine/board/UnitType;Lcom/example/outremer_engine/outremerengine/board/Place;)V"⟩ : MethodName)) rfl hown (mvT hZ (hw _ (List.mem_of_getElem? (i := 53) rfl))) (mvT hZ (hw _ (List.mem_of_getElem? (i := 54) rfl))) (mvT hZ (hw _ (List.mem_of_getElem? (i := 55) rfl))) (by decide) (backOf (W := 1) (rm10 l Z a0 hw [] b18 bx_20 b21 .null .null .null T27.heap n0 Z27 E_28 g_b18 F_29 F_30 F_31) hZ (hw _ (List.mem_of_getElem? (i := 55) rfl)) (hw _ (List.mem_of_getElem? (i := 52) rfl)) (by decide) (by decide)) (g := (mkF m 104 #[.val (.int pp1), .val (.int pp2), .val (.int pp3), .val (.int pp4), .val (.int pp5), .val (.int (0 : Int32)), .val (.int (0 : Int32)), .val (.int (0 : Int32)), .val (.ref b4), .val (.ref b11), .unset, .unset, .unset, .unset, .unset, .unset, .unset] [(.ref b21), .null, (.ref bx_20), (.ref b18), (.ref b18)])) rfl (by rw [hml]; rfl) (Steps.refl _) (a := b18) (argsL := [(.ref bx_20), .null, (.ref b21)]) (rest := [(.ref b18)]) (lenOf pd__28_Ljava_2f_lang_2f_String_3b_Lcom_2f_example_2f_outremer_engine_2f_outremerengine_2f_board_2f_UnitType_3b_Lcom_2f_example_2f_outremer_engine_2f_outremerengine_2f_board_2f_Place_3b__29_V rfl) rfl (by show 2 * 0 + _ ≤ _; exact Nat.le_of_eq rfl) (hb hby at_104) (fun _ _ => ⟨rfl, rfl, (by decide : 16 + 0 ≤ _), (by decide : 41 + 0 ≤ _)⟩)
        dsimp only [Pt.U, Pt.locs, Pt.cells, Pt.slots] at X32 l32 y32 z32 st32 hQ32
        subst y32 z32
        obtain ⟨rfl, N32q, K32c, R32_0, R32_1, R32_2⟩ := hQ32
        have N32 : Fr n0 L32 := by rw [l32]; exact Fr.app N27 N32q
        have Z32 : n0 ≤ T32.heap.size := Nat.le_trans Z27 K32c.1
        change Stand _ _ _ _ _ _ _ _ _ _ _ _ 16 41 at X32
        have hc111 : (0 : Int32) = (0 : Int32) := by decide
        obtain ⟨T33, h33, X33, e33, E33, A33, D33, -, st33⟩ := newO X32 hx hZ hown (hw _ (List.mem_of_getElem? (i := 50) rfl)) (hw _ (List.mem_of_getElem? (i := 51) rfl)) (hw _ (List.mem_of_getElem? (i := 52) rfl)) rfl (g := (mkF m 119 #[.val (.int pp1), .val (.int pp2), .val (.int pp3), .val (.int pp4), .val (.int pp5), .val (.int (0 : Int32)), .val (.int (0 : Int32)), .val (.int (0 : Int32)), .val (.ref b4), .val (.ref b11), .val (.ref b18), .unset, .unset, .unset, .unset, .unset, .unset] [])) rfl (hb hby at_119) (by decide) (by decide)
        obtain ⟨b33, g33⟩ : ∃ z, z = T32.heap.size := ⟨_, rfl⟩
        rw [← g33] at A33 D33 st33
        have g_b33 : n0 ≤ b33 := Nat.le_trans Z32 (Nat.le_of_eq g33.symm)
        have Z33 : n0 ≤ h33.size := Nat.le_trans Z32 E33.1
        have F33_nation : Fld Z h33 b33 "com/example/outremer_engine/outremerengine/board/Unit" "nation" "Ljava/lang/String;" .null := D33 (Or.inr (hw _ (List.mem_of_getElem? (i := 58) rfl))) (ty := (.object "java/lang/String")) (by decide)
        have F33_type : Fld Z h33 b33 "com/example/outremer_engine/outremerengine/board/Unit" "type" "Lcom/example/outremer_engine/outremerengine/board/UnitType;" .null := D33 (Or.inr (hw _ (List.mem_of_getElem? (i := 60) rfl))) (ty := (.object "com/example/outremer_engine/outremerengine/board/UnitType")) (by decide)
        have F33_place : Fld Z h33 b33 "com/example/outremer_engine/outremerengine/board/Unit" "place" "Lcom/example/outremer_engine/outremerengine/board/Place;" .null := D33 (Or.inr (hw _ (List.mem_of_getElem? (i := 62) rfl))) (ty := (.object "com/example/outremer_engine/outremerengine/board/Place")) (by decide)
        have O_34 : Old Z n0 h33 := ((((O_22.keep K23c all0).keep K27c (allS g_b21 all0)).keep K32c (allS g_b18 all0)).ext E33)
        obtain ⟨_, _, ⟨T35, L35, k35, n35⟩, -, X35, ⟨Lc35, hQ35, l35, y35, z35⟩, st35⟩ := Jvm.LawKit.callS X33 hx (y := (⟨"com/example/outremer_engine/outremerengine/diplomacy/SupportMoveGivenToPinLaw", "drawn", "(I)Ljava/lang/String;"⟩ : MethodName)) hown (mvT hZ (hw _ (List.mem_of_getElem? (i := 3) rfl))) (mvT hZ (hw _ (List.mem_of_getElem? (i := 4) rfl))) (mvT hZ (hw _ (List.mem_of_getElem? (i := 5) rfl))) (mvT hZ (hw _ (List.mem_of_getElem? (i := 6) rfl))) (by decide) (backOf (W := 2) (rm1 l Z a0 hw [] pp2 cs h33 n0 Z33 O_34 S_COMPACT_STRINGS (show ¬ cs = (0 : Int32) from hcs)) hZ (hw _ (List.mem_of_getElem? (i := 6) rfl)) (hw _ (List.mem_of_getElem? (i := 5) rfl)) (by decide) (by decide)) (g := (mkF m 124 #[.val (.int pp1), .val (.int pp2), .val (.int pp3), .val (.int pp4), .val (.int pp5), .val (.int (0 : Int32)), .val (.int (0 : Int32)), .val (.int (0 : Int32)), .val (.ref b4), .val (.ref b11), .val (.ref b18), .unset, .unset, .unset, .unset, .unset, .unset] [(.int pp2), (.ref b33), (.ref b33)])) rfl (by rw [hml]; rfl) (argsL := [(.int pp2)]) (rest := [(.ref b33), (.ref b33)]) (lenOf pd__28_I_29_Ljava_2f_lang_2f_String_3b_ rfl) rfl (by show 2 * 0 + _ ≤ _; exact Nat.le_of_eq rfl) (hb hby at_124) (fun _ _ => ⟨rfl, e33, (by decide : 17 + 3 ≤ _), (by decide : 44 + 8 ≤ _)⟩)
        dsimp only [Pt.U, Pt.locs, Pt.cells, Pt.slots] at X35 l35 y35 z35 st35 hQ35
        subst y35 z35
        obtain ⟨bx_35, rfl, N35q, K35c, g_bx_35, sb_bx_35⟩ := hQ35
        have N35 : Fr n0 L35 := by rw [l35]; exact Fr.app N32 N35q
        have Z35 : n0 ≤ T35.heap.size := Nat.le_trans Z33 K35c.1
        change Stand _ _ _ _ _ _ _ _ _ _ _ _ 20 52 at X35
        obtain ⟨T36, h36, X36, e36, E36, A36, D36, -, st36⟩ := newO X35 hx hZ hown (hw _ (List.mem_of_getElem? (i := 0) rfl)) (hw _ (List.mem_of_getElem? (i := 1) rfl)) (hw _ (List.mem_of_getElem? (i := 2) rfl)) rfl (g := (mkF m 128 #[.val (.int pp1), .val (.int pp2), .val (.int pp3), .val (.int pp4), .val (.int pp5), .val (.int (0 : Int32)), .val (.int (0 : Int32)), .val (.int (0 : Int32)), .val (.ref b4), .val (.ref b11), .val (.ref b18), .unset, .unset, .unset, .unset, .unset, .unset] [.null, (.ref bx_35), (.ref b33), (.ref b33)])) rfl (hb hby at_128) (by decide) (by decide)
        obtain ⟨b36, g36⟩ : ∃ z, z = T35.heap.size := ⟨_, rfl⟩
        rw [← g36] at A36 D36 st36
        have g_b36 : n0 ≤ b36 := Nat.le_trans Z35 (Nat.le_of_eq g36.symm)
        have Z36 : n0 ≤ h36.size := Nat.le_trans Z35 E36.1
        have F36_province : Fld Z h36 b36 "com/example/outremer_engine/outremerengine/board/Place" "province" "Lcom/example/outremer_engine/outremerengine/board/Province;" .null := D36 (Or.inr (hw _ (List.mem_of_getElem? (i := 47) rfl))) (ty := (.object "com/example/outremer_engine/outremerengine/board/Province")) (by decide)
        have F36_coast : Fld Z h36 b36 "com/example/outremer_engine/outremerengine/board/Place" "coast" "Ljava/lang/String;" .null := D36 (Or.inr (hw _ (List.mem_of_getElem? (i := 49) rfl))) (ty := (.object "java/lang/String")) (by decide)
        have O_37 : Old Z n0 h36 := ((O_34.keep K35c all0).ext E36)
        obtain ⟨_, _, ⟨T38, L38, k38, n38⟩, -, X38, ⟨Lc38, hQ38, l38, y38, z38⟩, st38⟩ := Jvm.LawKit.callS X36 hx (y := (⟨"com/example/outremer_engine/outremerengine/diplomacy/SupportMoveGivenToPinLaw", "drawn", "(I)Ljava/lang/String;"⟩ : MethodName)) hown (mvT hZ (hw _ (List.mem_of_getElem? (i := 3) rfl))) (mvT hZ (hw _ (List.mem_of_getElem? (i := 4) rfl))) (mvT hZ (hw _ (List.mem_of_getElem? (i := 5) rfl))) (mvT hZ (hw _ (List.mem_of_getElem? (i := 6) rfl))) (by decide) (backOf (W := 7) (rm1 l Z a0 hw [] ((pp3.toUInt32 >>> ((16 : Int32) &&& 31).toUInt32).toInt32) cs h36 n0 Z36 O_37 S_COMPACT_STRINGS (show ¬ cs = (0 : Int32) from hcs)) hZ (hw _ (List.mem_of_getElem? (i := 6) rfl)) (hw _ (List.mem_of_getElem? (i := 5) rfl)) (by decide) (by decide)) (g := (mkF m 137 #[.val (.int pp1), .val (.int pp2), .val (.int pp3), .val (.int pp4), .val (.int pp5), .val (.int (0 : Int32)), .val (.int (0 : Int32)), .val (.int (0 : Int32)), .val (.ref b4), .val (.ref b11), .val (.ref b18), .unset, .unset, .unset, .unset, .unset, .unset] [(.int ((pp3.toUInt32 >>> ((16 : Int32) &&& 31).toUInt32).toInt32)), .null, (.ref b36), (.ref b36), .null, (.ref bx_35), (.ref b33), (.ref b33)])) rfl (by rw [hml]; rfl) (argsL := [(.int ((pp3.toUInt32 >>> ((16 : Int32) &&& 31).toUInt32).toInt32))]) (rest := [.null, (.ref b36), (.ref b36), .null, (.ref bx_35), (.ref b33), (.ref b33)]) (lenOf pd__28_I_29_Ljava_2f_lang_2f_String_3b_ rfl) rfl (by show 2 * 0 + _ ≤ _; exact Nat.le_of_eq rfl) (hb hby at_137) (fun _ _ => ⟨rfl, e36, (by decide : 21 + 3 ≤ _), (by decide : 54 + 8 ≤ _)⟩)
        dsimp only [Pt.U, Pt.locs, Pt.cells, Pt.slots] at X38 l38 y38 z38 st38 hQ38
        subst y38 z38
        obtain ⟨bx_38, rfl, N38q, K38c, g_bx_38, sb_bx_38⟩ := hQ38
        have N38 : Fr n0 L38 := by rw [l38]; exact Fr.app N35 N38q
        have Z38 : n0 ≤ T38.heap.size := Nat.le_trans Z36 K38c.1
        change Stand _ _ _ _ _ _ _ _ _ _ _ _ 24 62 at X38
        have E_39 : Exa Z T38.heap b36 "com/example/outremer_engine/outremerengine/board/Place" := (A36.keep K38c)
        have F_40 : Fld Z T38.heap b36 "com/example/outremer_engine/outremerengine/board/Place" "province" "Lcom/example/outremer_engine/outremerengine/board/Province;" .null := (F36_province.keep K38c nin0)
        have F_41 : Fld Z T38.heap b36 "com/example/outremer_engine/outremerengine/board/Place" "coast" "Ljava/lang/String;" .null := (F36_coast.keep K38c nin0)
        obtain ⟨_, _, ⟨T42, L42, k42, n42⟩, -, X42, ⟨Lc42, hQ42, l42, y42, z42⟩, st42⟩ := X38.specialBack hx (y := (⟨"com/example/outremer_engine/outremerengine/board/Place", "<init>", "(Lcom/example/outremer_engine/outremerengine/board/Province;Ljava/lang/String;)V"⟩ : MethodName)) rfl hown (mvT hZ (hw _ (List.mem_of_getElem? (i := 37) rfl))) (mvT hZ (hw _ (List.mem_of_getElem? (i := 38) rfl))) (mvT hZ (hw _ (List.mem_of_getElem? (i := 39) rfl))) (by decide) (backOf (W := 5) (rm8 l Z a0 hw [] b36 bx_38 .null .null T38.heap n0 Z38 E_39 g_b36 F_40 F_41) hZ (hw _ (List.mem_of_getElem? (i := 39) rfl)) (hw _ (List.mem_of_getElem? (i := 2) rfl)) (by decide) (by decide)) (g := (mkF m 140 #[.val (.int pp1), .val (.int pp2), .val (.int pp3), .val (.int pp4), .val (.int pp5), .val (.int (0 : Int32)), .val (.int (0 : Int32)), .val (.int (0 : Int32)), .val (.ref b4), .val (.ref b11), .val (.ref b18), .unset, .unset, .unset, .unset, .unset, .unset] [(.ref bx_38), .null, (.ref b36), (.ref b36), .null, (.ref bx_35), (.ref b33), (.ref b33)])) rfl (by rw [hml]; rfl) (Steps.refl _) (a := b36) (argsL := [.null, (.ref bx_38)]) (rest := [(.ref b36), .null, (.ref bx_35), (.ref b33), (.ref b33)]) (lenOf pd__28_Lcom_2f_example_2f_outremer_engine_2f_outremerengine_2f_board_2f_Province_3b_Ljava_2f_lang_2f_String_3b__29_V rfl) rfl (by show 2 * 0 + _ ≤ _; exact Nat.le_of_eq rfl) (hb hby at_140) (fun _ _ => ⟨rfl, rfl, (by decide : 24 + 0 ≤ _), (by decide : 62 + 0 ≤ _)⟩)
        dsimp only [Pt.U, Pt.locs, Pt.cells, Pt.slots] at X42 l42 y42 z42 st42 hQ42
        subst y42 z42
        obtain ⟨rfl, N42q, K42c, R42_0, R42_1⟩ := hQ42
        have N42 : Fr n0 L42 := by rw [l42]; exact Fr.app N38 N42q
        have Z42 : n0 ≤ T42.heap.size := Nat.le_trans Z38 K42c.1
        change Stand _ _ _ _ _ _ _ _ _ _ _ _ 24 62 at X42
        have E_43 : Exa Z T42.heap b33 "com/example/outremer_engine/outremerengine/board/Unit" := ((((A33.keep K35c).ext E36).keep K38c).keep K42c)
        have F_44 : Fld Z T42.heap b33 "com/example/outremer_engine/outremerengine/board/Unit" "nation" "Ljava/lang/String;" .null := ((((F33_nation.keep K35c nin0).ext E36).keep K38c nin0).keep K42c (ninS (Nat.ne_of_lt (Nat.lt_of_lt_of_le (A33.keep K35c).lt (Nat.le_of_eq g36.symm))) nin0))
        have F_45 : Fld Z T42.heap b33 "com/example/outremer_engine/outremerengine/board/Unit" "type" "Lcom/example/outremer_engine/outremerengine/board/UnitType;" .null := ((((F33_type.keep K35c nin0).ext E36).keep K38c nin0).keep K42c (ninS (Nat.ne_of_lt (Nat.lt_of_lt_of_le (A33.keep K35c).lt (Nat.le_of_eq g36.symm))) nin0))
        have F_46 : Fld Z T42.heap b33 "com/example/outremer_engine/outremerengine/board/Unit" "place" "Lcom/example/outremer_engine/outremerengine/board/Place;" .null := ((((F33_place.keep K35c nin0).ext E36).keep K38c nin0).keep K42c (ninS (Nat.ne_of_lt (Nat.lt_of_lt_of_le (A33.keep K35c).lt (Nat.le_of_eq g36.symm))) nin0))
        obtain ⟨_, _, ⟨T47, L47, k47, n47⟩, -, X47, ⟨Lc47, hQ47, l47, y47, z47⟩, st47⟩ := X42.specialBack hx (y := (⟨"com/example/outremer_engine/outremerengine/board/Unit", "<init>", "(Ljava/lang/String;Lcom/example/outremer_engine/outremerengine/board/UnitType;Lcom/example/outremer_engine/outremerengine/board/Place;)V"⟩ : MethodName)) rfl hown (mvT hZ (hw _ (List.mem_of_getElem? (i := 53) rfl))) (mvT hZ (hw _ (List.mem_of_getElem? (i := 54) rfl))) (mvT hZ (hw _ (List.mem_of_getElem? (i := 55) rfl))) (by decide) (backOf (W := 1) (rm10 l Z a0 hw [] b33 bx_35 b36 .null .null .null T42.heap n0 Z42 E_43 g_b33 F_44 F_45 F_46) hZ (hw _ (List.mem_of_getElem? (i := 55) rfl)) (hw _ (List.mem_of_getElem? (i := 52) rfl)) (by decide) (by decide)) (g := (mkF m 143 #[.val (.int pp1), .val (.int pp2), .val (.int pp3), .val (.int pp4), .val (.int pp5), .val (.int (0 : Int32)), .val (.int (0 : Int32)), .val (.int (0 : Int32)), .val (.ref b4), .val (.ref b11), .val (.ref b18), .unset, .unset, .unset, .unset, .unset, .unset] [(.ref b36), .null, (.ref bx_35), (.ref b33), (.ref b33)])) rfl (by rw [hml]; rfl) (Steps.refl _) (a := b33) (argsL := [(.ref bx_35), .null, (.ref b36)]) (rest := [(.ref b33)]) (lenOf pd__28_Ljava_2f_lang_2f_String_3b_Lcom_2f_example_2f_outremer_engine_2f_outremerengine_2f_board_2f_UnitType_3b_Lcom_2f_example_2f_outremer_engine_2f_outremerengine_2f_board_2f_Place_3b__29_V rfl) rfl (by show 2 * 0 + _ ≤ _; exact Nat.le_of_eq rfl) (hb hby at_143) (fun _ _ => ⟨rfl, rfl, (by decide : 24 + 0 ≤ _), (by decide : 62 + 0 ≤ _)⟩)
        dsimp only [Pt.U, Pt.locs, Pt.cells, Pt.slots] at X47 l47 y47 z47 st47 hQ47
        subst y47 z47
        obtain ⟨rfl, N47q, K47c, R47_0, R47_1, R47_2⟩ := hQ47
        have N47 : Fr n0 L47 := by rw [l47]; exact Fr.app N42 N47q
        have Z47 : n0 ≤ T47.heap.size := Nat.le_trans Z42 K47c.1
        change Stand _ _ _ _ _ _ _ _ _ _ _ _ 24 62 at X47
        have hc150 : (0 : Int32) = (0 : Int32) := by decide
        obtain ⟨T48, h48, X48, e48, E48, A48, D48, -, st48⟩ := newO X47 hx hZ hown (hw _ (List.mem_of_getElem? (i := 63) rfl)) (hw _ (List.mem_of_getElem? (i := 64) rfl)) (hw _ (List.mem_of_getElem? (i := 65) rfl)) rfl (g := (mkF m 162 #[.val (.int pp1), .val (.int pp2), .val (.int pp3), .val (.int pp4), .val (.int pp5), .val (.int (0 : Int32)), .val (.int (0 : Int32)), .val (.int (0 : Int32)), .val (.ref b4), .val (.ref b11), .val (.ref b18), .val (.ref b33), .val .null, .unset, .unset, .unset, .unset] [])) rfl (hb hby at_162) (by decide) (by decide)
        obtain ⟨b48, g48⟩ : ∃ z, z = T47.heap.size := ⟨_, rfl⟩
        rw [← g48] at A48 D48 st48
        have g_b48 : n0 ≤ b48 := Nat.le_trans Z47 (Nat.le_of_eq g48.symm)
        have Z48 : n0 ≤ h48.size := Nat.le_trans Z47 E48.1
        have F48_unit : Fld Z h48 b48 "com/example/outremer_engine/outremerengine/diplomacy/Order$SupportMove" "unit" "Lcom/example/outremer_engine/outremerengine/board/Unit;" .null := D48 (Or.inr (hw _ (List.mem_of_getElem? (i := 71) rfl))) (ty := (.object "com/example/outremer_engine/outremerengine/board/Unit")) (by decide)
        have F48_supportedType : Fld Z h48 b48 "com/example/outremer_engine/outremerengine/diplomacy/Order$SupportMove" "supportedType" "Ljava/util/Optional;" .null := D48 (Or.inr (hw _ (List.mem_of_getElem? (i := 73) rfl))) (ty := (.object "java/util/Optional")) (by decide)
        have F48_from : Fld Z h48 b48 "com/example/outremer_engine/outremerengine/diplomacy/Order$SupportMove" "from" "Lcom/example/outremer_engine/outremerengine/board/Place;" .null := D48 (Or.inr (hw _ (List.mem_of_getElem? (i := 75) rfl))) (ty := (.object "com/example/outremer_engine/outremerengine/board/Place")) (by decide)
        have F48_to : Fld Z h48 b48 "com/example/outremer_engine/outremerengine/diplomacy/Order$SupportMove" "to" "Lcom/example/outremer_engine/outremerengine/board/Place;" .null := D48 (Or.inr (hw _ (List.mem_of_getElem? (i := 77) rfl))) (ty := (.object "com/example/outremer_engine/outremerengine/board/Place")) (by decide)
        obtain ⟨_, _, ⟨T49, L49, k49, n49⟩, -, X49, ⟨Lc49, hQ49, l49, y49, z49⟩, st49⟩ := X48.specialBack hx (y := (⟨"com/example/outremer_engine/outremerengine/diplomacy/Order$SupportMove", "<init>", "(Lcom/example/outremer_engine/outremerengine/board/Unit;Ljava/util/Optional;Lcom/example/outremer_engine/outremerengine/board/Place;Lcom/example/outremer_engine/outremerengine/board/Place;)V"⟩ : MethodName)) rfl hown (mvT hZ (hw _ (List.mem_of_getElem? (i := 66) rfl))) (mvT hZ (hw _ (List.mem_of_getElem? (i := 67) rfl))) (mvT hZ (hw _ (List.mem_of_getElem? (i := 68) rfl))) (by decide) (backOf (W := 1) (rm11_n l Z a0 hw [] b48 b18 b4 b11 .null .null .null .null h48 n0 Z48 A48 g_b48 F48_unit F48_supportedType F48_from F48_to) hZ (hw _ (List.mem_of_getElem? (i := 68) rfl)) (hw _ (List.mem_of_getElem? (i := 65) rfl)) (by decide) (by decide)) (g := (mkF m 174 #[.val (.int pp1), .val (.int pp2), .val (.int pp3), .val (.int pp4), .val (.int pp5), .val (.int (0 : Int32)), .val (.int (0 : Int32)), .val (.int (0 : Int32)), .val (.ref b4), .val (.ref b11), .val (.ref b18), .val (.ref b33), .val .null, .unset, .unset, .unset, .unset] [(.ref b11), (.ref b4), .null, (.ref b18), (.ref b48), (.ref b48)])) rfl (by rw [hml]; rfl) (Steps.refl _) (a := b48) (argsL := [(.ref b18), .null, (.ref b4), (.ref b11)]) (rest := [(.ref b48)]) (lenOf pd__28_Lcom_2f_example_2f_outremer_engine_2f_outremerengine_2f_board_2f_Unit_3b_Ljava_2f_util_2f_Optional_3b_Lcom_2f_example_2f_outremer_engine_2f_outremerengine_2f_board_2f_Place_3b_Lcom_2f_example_2f_outremer_engine_2f_outremerengine_2f_board_2f_Place_3b__29_V rfl) rfl (by show 2 * 0 + _ ≤ _; exact Nat.le_of_eq rfl) (hb hby at_174) (fun _ _ => ⟨rfl, e48, (by decide : 25 + 0 ≤ _), (by decide : 66 + 0 ≤ _)⟩)
        dsimp only [Pt.U, Pt.locs, Pt.cells, Pt.slots] at X49 l49 y49 z49 st49 hQ49
        subst y49 z49
        obtain ⟨rfl, N49q, K49c, R49_0, R49_1, R49_2, R49_3⟩ := hQ49
        have N49 : Fr n0 L49 := by rw [l49]; exact Fr.app N47 N49q
        have Z49 : n0 ≤ T49.heap.size := Nat.le_trans Z48 K49c.1
        change Stand _ _ _ _ _ _ _ _ _ _ _ _ 25 66 at X49
        have E_51 : Exa Z T49.heap b48 "com/example/outremer_engine/outremerengine/diplomacy/Order$SupportMove" := (A48.keep K49c)
        obtain ⟨cq50, kq50, q50a, q50b, q50c⟩ := isOf hZ rfl E_51
        obtain ⟨_, _, ⟨T50, L50, k50, n50⟩, -, X50, ⟨Lc50, hQ50, l50, y50, z50⟩, st50⟩ := X49.virtualBack hx (y := (⟨"com/example/outremer_engine/outremerengine/diplomacy/Order$SupportMove", "givenTo", "(Lcom/example/outremer_engine/outremerengine/board/Unit;)Lcom/example/outremer_engine/outremerengine/diplomacy/Order$SupportMove;"⟩ : MethodName)) (z := (⟨"com/example/outremer_engine/outremerengine/diplomacy/Order$SupportMove", "givenTo", "(Lcom/example/outremer_engine/outremerengine/board/Unit;)Lcom/example/outremer_engine/outremerengine/diplomacy/Order$SupportMove;"⟩ : MethodName)) hown (mvT hZ (hw _ (List.mem_of_getElem? (i := 78) rfl))) (mvT hZ (hw _ (List.mem_of_getElem? (i := 79) rfl))) (notFace_of_selects (args := #[]) (mvT hZ (hw _ (List.mem_of_getElem? (i := 81) rfl)))) (mvT hZ (hw _ (List.mem_of_getElem? (i := 81) rfl))) (mvT hZ (hw _ (List.mem_of_getElem? (i := 80) rfl))) (by decide) (backOf (W := 0) (rm12_n l Z a0 hw [] b48 b33 b4 b11 T49.heap n0 Z49 R49_1 R49_2 R49_3) hZ (hw _ (List.mem_of_getElem? (i := 82) rfl)) (hw _ (List.mem_of_getElem? (i := 65) rfl)) (by decide) (by decide)) q50a q50c (g := (mkF m 183 #[.val (.int pp1), .val (.int pp2), .val (.int pp3), .val (.int pp4), .val (.int pp5), .val (.int (0 : Int32)), .val (.int (0 : Int32)), .val (.int (0 : Int32)), .val (.ref b4), .val (.ref b11), .val (.ref b18), .val (.ref b33), .val .null, .val (.ref b48), .unset, .unset, .unset] [(.ref b33), (.ref b48)])) rfl (by rw [hml]; rfl) (Steps.refl _) (argsL := [(.ref b33)]) (rest := []) (lenOf pd__28_Lcom_2f_example_2f_outremer_engine_2f_outremerengine_2f_board_2f_Unit_3b__29_Lcom_2f_example_2f_outremer_engine_2f_outremerengine_2f_diplomacy_2f_Order_24_SupportMove_3b_ rfl) rfl (by show 2 * 0 + _ ≤ _; exact Nat.le_of_eq rfl) (hb hby at_183) (fun _ _ => ⟨rfl, rfl, (by decide : 25 + 1 ≤ _), (by decide : 66 + 4 ≤ _)⟩)
        dsimp only [Pt.U, Pt.locs, Pt.cells, Pt.slots] at X50 l50 y50 z50 st50 hQ50
        subst y50 z50
        obtain ⟨bx_50, rfl, N50q, K50c, g_bx_50, sb_bx_50, R50_0, R50_1, R50_2, R50_3, R50_4⟩ := hQ50
        have N50 : Fr n0 L50 := by rw [l50]; exact Fr.app N49 N50q
        have Z50 : n0 ≤ T50.heap.size := Nat.le_trans Z49 K50c.1
        change Stand _ _ _ _ _ _ _ _ _ _ _ _ 26 70 at X50
        obtain ⟨cq52, kq52, q52a, q52b, q52c⟩ := isOf hZ rfl R50_0
        obtain ⟨_, _, ⟨T52, L52, k52, n52⟩, -, X52, ⟨Lc52, hQ52, l52, y52, z52⟩, st52⟩ := X50.virtualBack hx (y := (⟨"com/example/outremer_engine/outremerengine/diplomacy/Order$SupportMove", "unit", "()Lcom/example/outremer_engine/outremerengine/board/Unit;"⟩ : MethodName)) (z := (⟨"com/example/outremer_engine/outremerengine/diplomacy/Order$SupportMove", "unit", "()Lcom/example/outremer_engine/outremerengine/board/Unit;"⟩ : MethodName)) hown (mvT hZ (hw _ (List.mem_of_getElem? (i := 85) rfl))) (mvT hZ (hw _ (List.mem_of_getElem? (i := 86) rfl))) (notFace_of_selects (args := #[]) (mvT hZ (hw _ (List.mem_of_getElem? (i := 88) rfl)))) (mvT hZ (hw _ (List.mem_of_getElem? (i := 88) rfl))) (mvT hZ (hw _ (List.mem_of_getElem? (i := 87) rfl))) (by decide) (backOf (W := 0) (rm13 l Z a0 hw [] bx_50 b33 T50.heap n0 Z50 R50_1) hZ (hw _ (List.mem_of_getElem? (i := 89) rfl)) (hw _ (List.mem_of_getElem? (i := 65) rfl)) (by decide) (by decide)) q52a q52c (g := (mkF m 197 #[.val (.int pp1), .val (.int pp2), .val (.int pp3), .val (.int pp4), .val (.int pp5), .val (.int (0 : Int32)), .val (.int (0 : Int32)), .val (.int (0 : Int32)), .val (.ref b4), .val (.ref b11), .val (.ref b18), .val (.ref b33), .val .null, .val (.ref b48), .val (.ref bx_50), .unset, .unset] [(.ref bx_50)])) rfl (by rw [hml]; rfl) (Steps.refl _) (argsL := []) (rest := []) (lenOf pd__28__29_Lcom_2f_example_2f_outremer_engine_2f_outremerengine_2f_board_2f_Unit_3b_ rfl) rfl (by show 2 * 0 + _ ≤ _; exact Nat.le_of_eq rfl) (hb hby at_197) (fun _ _ => ⟨rfl, rfl, (by decide : 26 + 0 ≤ _), (by decide : 70 + 0 ≤ _)⟩)
        dsimp only [Pt.U, Pt.locs, Pt.cells, Pt.slots] at X52 l52 y52 z52 st52 hQ52
        subst y52 z52
        obtain ⟨rfl, N52q, e52⟩ := hQ52
        have N52 : Fr n0 L52 := by rw [l52]; exact Fr.app N50 N52q
        change Stand _ _ _ _ _ _ _ _ _ _ _ _ 26 70 at X52
        obtain ⟨cq53, kq53, q53a, q53b, q53c⟩ := isOf hZ e52 R50_0
        obtain ⟨_, _, ⟨T53, L53, k53, n53⟩, -, X53, ⟨Lc53, hQ53, l53, y53, z53⟩, st53⟩ := X52.virtualBack hx (y := (⟨"com/example/outremer_engine/outremerengine/diplomacy/Order$SupportMove", "supportedType", "()Ljava/util/Optional;"⟩ : MethodName)) (z := (⟨"com/example/outremer_engine/outremerengine/diplomacy/Order$SupportMove", "supportedType", "()Ljava/util/Optional;"⟩ : MethodName)) hown (mvT hZ (hw _ (List.mem_of_getElem? (i := 90) rfl))) (mvT hZ (hw _ (List.mem_of_getElem? (i := 91) rfl))) (notFace_of_selects (args := #[]) (mvT hZ (hw _ (List.mem_of_getElem? (i := 93) rfl)))) (mvT hZ (hw _ (List.mem_of_getElem? (i := 93) rfl))) (mvT hZ (hw _ (List.mem_of_getElem? (i := 92) rfl))) (by decide) (backOf (W := 0) (rm14_n l Z a0 hw [] bx_50 T50.heap n0 Z50 R50_2) hZ (hw _ (List.mem_of_getElem? (i := 94) rfl)) (hw _ (List.mem_of_getElem? (i := 65) rfl)) (by decide) (by decide)) q53a q53c (g := (mkF m 207 #[.val (.int pp1), .val (.int pp2), .val (.int pp3), .val (.int pp4), .val (.int pp5), .val (.int (0 : Int32)), .val (.int (0 : Int32)), .val (.int (0 : Int32)), .val (.ref b4), .val (.ref b11), .val (.ref b18), .val (.ref b33), .val .null, .val (.ref b48), .val (.ref bx_50), .unset, .unset] [(.ref bx_50)])) rfl (by rw [hml]; rfl) (Steps.refl _) (argsL := []) (rest := []) (lenOf pd__28__29_Ljava_2f_util_2f_Optional_3b_ rfl) rfl (by show 2 * 0 + _ ≤ _; exact Nat.le_of_eq rfl) (hb hby at_207) (fun _ _ => ⟨rfl, e52, (by decide : 26 + 0 ≤ _), (by decide : 70 + 0 ≤ _)⟩)
        dsimp only [Pt.U, Pt.locs, Pt.cells, Pt.slots] at X53 l53 y53 z53 st53 hQ53
        subst y53 z53
        obtain ⟨rfl, N53q, e53⟩ := hQ53
        have N53 : Fr n0 L53 := by rw [l53]; exact Fr.app N52 N53q
        change Stand _ _ _ _ _ _ _ _ _ _ _ _ 26 70 at X53
        obtain ⟨cq54, kq54, q54a, q54b, q54c⟩ := isOf hZ e53 R50_0
        obtain ⟨_, _, ⟨T54, L54, k54, n54⟩, -, X54, ⟨Lc54, hQ54, l54, y54, z54⟩, st54⟩ := X53.virtualBack hx (y := (⟨"com/example/outremer_engine/outremerengine/diplomacy/Order$SupportMove", "from", "()Lcom/example/outremer_engine/outremerengine/board/Place;"⟩ : MethodName)) (z := (⟨"com/example/outremer_engine/outremerengine/diplomacy/Order$SupportMove", "from", "()Lcom/example/outremer_engine/outremerengine/board/Place;"⟩ : MethodName)) hown (mvT hZ (hw _ (List.mem_of_getElem? (i := 95) rfl))) (mvT hZ (hw _ (List.mem_of_getElem? (i := 96) rfl))) (notFace_of_selects (args := #[]) (mvT hZ (hw _ (List.mem_of_getElem? (i := 98) rfl)))) (mvT hZ (hw _ (List.mem_of_getElem? (i := 98) rfl))) (mvT hZ (hw _ (List.mem_of_getElem? (i := 97) rfl))) (by decide) (backOf (W := 0) (rm15 l Z a0 hw [] bx_50 b4 T50.heap n0 Z50 R50_3) hZ (hw _ (List.mem_of_getElem? (i := 99) rfl)) (hw _ (List.mem_of_getElem? (i := 65) rfl)) (by decide) (by decide)) q54a q54c (g := (mkF m 217 #[.val (.int pp1), .val (.int pp2), .val (.int pp3), .val (.int pp4), .val (.int pp5), .val (.int (0 : Int32)), .val (.int (0 : Int32)), .val (.int (0 : Int32)), .val (.ref b4), .val (.ref b11), .val (.ref b18), .val (.ref b33), .val .null, .val (.ref b48), .val (.ref bx_50), .unset, .unset] [(.ref bx_50)])) rfl (by rw [hml]; rfl) (Steps.refl _) (argsL := []) (rest := []) (lenOf pd__28__29_Lcom_2f_example_2f_outremer_engine_2f_outremerengine_2f_board_2f_Place_3b_ rfl) rfl (by show 2 * 0 + _ ≤ _; exact Nat.le_of_eq rfl) (hb hby at_217) (fun _ _ => ⟨rfl, e53, (by decide : 26 + 0 ≤ _), (by decide : 70 + 0 ≤ _)⟩)
        dsimp only [Pt.U, Pt.locs, Pt.cells, Pt.slots] at X54 l54 y54 z54 st54 hQ54
        subst y54 z54
        obtain ⟨rfl, N54q, e54⟩ := hQ54
        have N54 : Fr n0 L54 := by rw [l54]; exact Fr.app N53 N54q
        change Stand _ _ _ _ _ _ _ _ _ _ _ _ 26 70 at X54
        obtain ⟨cq55, kq55, q55a, q55b, q55c⟩ := isOf hZ e54 R50_0
        obtain ⟨_, _, ⟨T55, L55, k55, n55⟩, -, X55, ⟨Lc55, hQ55, l55, y55, z55⟩, st55⟩ := X54.virtualBack hx (y := (⟨"com/example/outremer_engine/outremerengine/diplomacy/Order$SupportMove", "to", "()Lcom/example/outremer_engine/outremerengine/board/Place;"⟩ : MethodName)) (z := (⟨"com/example/outremer_engine/outremerengine/diplomacy/Order$SupportMove", "to", "()Lcom/example/outremer_engine/outremerengine/board/Place;"⟩ : MethodName)) hown (mvT hZ (hw _ (List.mem_of_getElem? (i := 100) rfl))) (mvT hZ (hw _ (List.mem_of_getElem? (i := 101) rfl))) (notFace_of_selects (args := #[]) (mvT hZ (hw _ (List.mem_of_getElem? (i := 103) rfl)))) (mvT hZ (hw _ (List.mem_of_getElem? (i := 103) rfl))) (mvT hZ (hw _ (List.mem_of_getElem? (i := 102) rfl))) (by decide) (backOf (W := 0) (rm16 l Z a0 hw [] bx_50 b11 T50.heap n0 Z50 R50_4) hZ (hw _ (List.mem_of_getElem? (i := 104) rfl)) (hw _ (List.mem_of_getElem? (i := 65) rfl)) (by decide) (by decide)) q55a q55c (g := (mkF m 227 #[.val (.int pp1), .val (.int pp2), .val (.int pp3), .val (.int pp4), .val (.int pp5), .val (.int (0 : Int32)), .val (.int (0 : Int32)), .val (.int (0 : Int32)), .val (.ref b4), .val (.ref b11), .val (.ref b18), .val (.ref b33), .val .null, .val (.ref b48), .val (.ref bx_50), .unset, .unset] [(.ref bx_50)])) rfl (by rw [hml]; rfl) (Steps.refl _) (argsL := []) (rest := []) (lenOf pd__28__29_Lcom_2f_example_2f_outremer_engine_2f_outremerengine_2f_board_2f_Place_3b_ rfl) rfl (by show 2 * 0 + _ ≤ _; exact Nat.le_of_eq rfl) (hb hby at_227) (fun _ _ => ⟨rfl, e54, (by decide : 26 + 0 ≤ _), (by decide : 70 + 0 ≤ _)⟩)
        dsimp only [Pt.U, Pt.locs, Pt.cells, Pt.slots] at X55 l55 y55 z55 st55 hQ55
        subst y55 z55
        obtain ⟨rfl, N55q, e55⟩ := hQ55
        have N55 : Fr n0 L55 := by rw [l55]; exact Fr.app N54 N55q
        change Stand _ _ _ _ _ _ _ _ _ _ _ _ 26 70 at X55
        have F_56 : Fld Z T50.heap b48 "com/example/outremer_engine/outremerengine/diplomacy/Order$SupportMove" "unit" "Lcom/example/outremer_engine/outremerengine/board/Unit;" (.ref b18) := (R49_0.keep K50c nin0)
        have E_58 : Exa Z T50.heap b48 "com/example/outremer_engine/outremerengine/diplomacy/Order$SupportMove" := (E_51.keep K50c)
        obtain ⟨cq57, kq57, q57a, q57b, q57c⟩ := isOf hZ e55 E_58
        obtain ⟨_, _, ⟨T57, L57, k57, n57⟩, -, X57, ⟨Lc57, hQ57, l57, y57, z57⟩, st57⟩ := X55.virtualBack hx (y := (⟨"com/example/outremer_engine/outremerengine/diplomacy/Order$SupportMove", "unit", "()Lcom/example/outremer_engine/outremerengine/board/Unit;"⟩ : MethodName)) (z := (⟨"com/example/outremer_engine/outremerengine/diplomacy/Order$SupportMove", "unit", "()Lcom/example/outremer_engine/outremerengine/board/Unit;"⟩ : MethodName)) hown (mvT hZ (hw _ (List.mem_of_getElem? (i := 85) rfl))) (mvT hZ (hw _ (List.mem_of_getElem? (i := 86) rfl))) (notFace_of_selects (args := #[]) (mvT hZ (hw _ (List.mem_of_getElem? (i := 88) rfl)))) (mvT hZ (hw _ (List.mem_of_getElem? (i := 88) rfl))) (mvT hZ (hw _ (List.mem_of_getElem? (i := 87) rfl))) (by decide) (backOf (W := 0) (rm13 l Z a0 hw [] b48 b18 T50.heap n0 Z50 F_56) hZ (hw _ (List.mem_of_getElem? (i := 89) rfl)) (hw _ (List.mem_of_getElem? (i := 65) rfl)) (by decide) (by decide)) q57a q57c (g := (mkF m 244 #[.val (.int pp1), .val (.int pp2), .val (.int pp3), .val (.int pp4), .val (.int pp5), .val (.int (0 : Int32)), .val (.int (0 : Int32)), .val (.int (0 : Int32)), .val (.ref b4), .val (.ref b11), .val (.ref b18), .val (.ref b33), .val .null, .val (.ref b48), .val (.ref bx_50), .val (.int (1 : Int32)), .unset] [(.ref b48)])) rfl (by rw [hml]; rfl) (Steps.refl _) (argsL := []) (rest := []) (lenOf pd__28__29_Lcom_2f_example_2f_outremer_engine_2f_outremerengine_2f_board_2f_Unit_3b_ rfl) rfl (by show 2 * 0 + _ ≤ _; exact Nat.le_of_eq rfl) (hb hby at_244) (fun _ _ => ⟨rfl, e55, (by decide : 26 + 0 ≤ _), (by decide : 70 + 0 ≤ _)⟩)
        dsimp only [Pt.U, Pt.locs, Pt.cells, Pt.slots] at X57 l57 y57 z57 st57 hQ57
        subst y57 z57
        obtain ⟨rfl, N57q, e57⟩ := hQ57
        have N57 : Fr n0 L57 := by rw [l57]; exact Fr.app N55 N57q
        change Stand _ _ _ _ _ _ _ _ _ _ _ _ 26 70 at X57
        have F_59 : Fld Z T50.heap b48 "com/example/outremer_engine/outremerengine/diplomacy/Order$SupportMove" "supportedType" "Ljava/util/Optional;" .null := (R49_1.keep K50c nin0)
        obtain ⟨cq60, kq60, q60a, q60b, q60c⟩ := isOf hZ e57 E_58
        obtain ⟨_, _, ⟨T60, L60, k60, n60⟩, -, X60, ⟨Lc60, hQ60, l60, y60, z60⟩, st60⟩ := X57.virtualBack hx (y := (⟨"com/example/outremer_engine/outremerengine/diplomacy/Order$SupportMove", "supportedType", "()Ljava/util/Optional;"⟩ : MethodName)) (z := (⟨"com/example/outremer_engine/outremerengine/diplomacy/Order$SupportMove", "supportedType", "()Ljava/util/Optional;"⟩ : MethodName)) hown (mvT hZ (hw _ (List.mem_of_getElem? (i := 90) rfl))) (mvT hZ (hw _ (List.mem_of_getElem? (i := 91) rfl))) (notFace_of_selects (args := #[]) (mvT hZ (hw _ (List.mem_of_getElem? (i := 93) rfl)))) (mvT hZ (hw _ (List.mem_of_getElem? (i := 93) rfl))) (mvT hZ (hw _ (List.mem_of_getElem? (i := 92) rfl))) (by decide) (backOf (W := 0) (rm14_n l Z a0 hw [] b48 T50.heap n0 Z50 F_59) hZ (hw _ (List.mem_of_getElem? (i := 94) rfl)) (hw _ (List.mem_of_getElem? (i := 65) rfl)) (by decide) (by decide)) q60a q60c (g := (mkF m 254 #[.val (.int pp1), .val (.int pp2), .val (.int pp3), .val (.int pp4), .val (.int pp5), .val (.int (0 : Int32)), .val (.int (0 : Int32)), .val (.int (0 : Int32)), .val (.ref b4), .val (.ref b11), .val (.ref b18), .val (.ref b33), .val .null, .val (.ref b48), .val (.ref bx_50), .val (.int (1 : Int32)), .unset] [(.ref b48)])) rfl (by rw [hml]; rfl) (Steps.refl _) (argsL := []) (rest := []) (lenOf pd__28__29_Ljava_2f_util_2f_Optional_3b_ rfl) rfl (by show 2 * 0 + _ ≤ _; exact Nat.le_of_eq rfl) (hb hby at_254) (fun _ _ => ⟨rfl, e57, (by decide : 26 + 0 ≤ _), (by decide : 70 + 0 ≤ _)⟩)
        dsimp only [Pt.U, Pt.locs, Pt.cells, Pt.slots] at X60 l60 y60 z60 st60 hQ60
        subst y60 z60
        obtain ⟨rfl, N60q, e60⟩ := hQ60
        have N60 : Fr n0 L60 := by rw [l60]; exact Fr.app N57 N60q
        change Stand _ _ _ _ _ _ _ _ _ _ _ _ 26 70 at X60
        have F_61 : Fld Z T50.heap b48 "com/example/outremer_engine/outremerengine/diplomacy/Order$SupportMove" "from" "Lcom/example/outremer_engine/outremerengine/board/Place;" (.ref b4) := (R49_2.keep K50c nin0)
        obtain ⟨cq62, kq62, q62a, q62b, q62c⟩ := isOf hZ e60 E_58
        obtain ⟨_, _, ⟨T62, L62, k62, n62⟩, -, X62, ⟨Lc62, hQ62, l62, y62, z62⟩, st62⟩ := X60.virtualBack hx (y := (⟨"com/example/outremer_engine/outremerengine/diplomacy/Order$SupportMove", "from", "()Lcom/example/outremer_engine/outremerengine/board/Place;"⟩ : MethodName)) (z := (⟨"com/example/outremer_engine/outremerengine/diplomacy/Order$SupportMove", "from", "()Lcom/example/outremer_engine/outremerengine/board/Place;"⟩ : MethodName)) hown (mvT hZ (hw _ (List.mem_of_getElem? (i := 95) rfl))) (mvT hZ (hw _ (List.mem_of_getElem? (i := 96) rfl))) (notFace_of_selects (args := #[]) (mvT hZ (hw _ (List.mem_of_getElem? (i := 98) rfl)))) (mvT hZ (hw _ (List.mem_of_getElem? (i := 98) rfl))) (mvT hZ (hw _ (List.mem_of_getElem? (i := 97) rfl))) (by decide) (backOf (W := 0) (rm15 l Z a0 hw [] b48 b4 T50.heap n0 Z50 F_61) hZ (hw _ (List.mem_of_getElem? (i := 99) rfl)) (hw _ (List.mem_of_getElem? (i := 65) rfl)) (by decide) (by decide)) q62a q62c (g := (mkF m 264 #[.val (.int pp1), .val (.int pp2), .val (.int pp3), .val (.int pp4), .val (.int pp5), .val (.int (0 : Int32)), .val (.int (0 : Int32)), .val (.int (0 : Int32)), .val (.ref b4), .val (.ref b11), .val (.ref b18), .val (.ref b33), .val .null, .val (.ref b48), .val (.ref bx_50), .val (.int (1 : Int32)), .unset] [(.ref b48)])) rfl (by rw [hml]; rfl) (Steps.refl _) (argsL := []) (rest := []) (lenOf pd__28__29_Lcom_2f_example_2f_outremer_engine_2f_outremerengine_2f_board_2f_Place_3b_ rfl) rfl (by show 2 * 0 + _ ≤ _; exact Nat.le_of_eq rfl) (hb hby at_264) (fun _ _ => ⟨rfl, e60, (by decide : 26 + 0 ≤ _), (by decide : 70 + 0 ≤ _)⟩)
        dsimp only [Pt.U, Pt.locs, Pt.cells, Pt.slots] at X62 l62 y62 z62 st62 hQ62
        subst y62 z62
        obtain ⟨rfl, N62q, e62⟩ := hQ62
        have N62 : Fr n0 L62 := by rw [l62]; exact Fr.app N60 N62q
        change Stand _ _ _ _ _ _ _ _ _ _ _ _ 26 70 at X62
        have F_63 : Fld Z T50.heap b48 "com/example/outremer_engine/outremerengine/diplomacy/Order$SupportMove" "to" "Lcom/example/outremer_engine/outremerengine/board/Place;" (.ref b11) := (R49_3.keep K50c nin0)
        obtain ⟨cq64, kq64, q64a, q64b, q64c⟩ := isOf hZ e62 E_58
        obtain ⟨_, _, ⟨T64, L64, k64, n64⟩, -, X64, ⟨Lc64, hQ64, l64, y64, z64⟩, st64⟩ := X62.virtualBack hx (y := (⟨"com/example/outremer_engine/outremerengine/diplomacy/Order$SupportMove", "to", "()Lcom/example/outremer_engine/outremerengine/board/Place;"⟩ : MethodName)) (z := (⟨"com/example/outremer_engine/outremerengine/diplomacy/Order$SupportMove", "to", "()Lcom/example/outremer_engine/outremerengine/board/Place;"⟩ : MethodName)) hown (mvT hZ (hw _ (List.mem_of_getElem? (i := 100) rfl))) (mvT hZ (hw _ (List.mem_of_getElem? (i := 101) rfl))) (notFace_of_selects (args := #[]) (mvT hZ (hw _ (List.mem_of_getElem? (i := 103) rfl)))) (mvT hZ (hw _ (List.mem_of_getElem? (i := 103) rfl))) (mvT hZ (hw _ (List.mem_of_getElem? (i := 102) rfl))) (by decide) (backOf (W := 0) (rm16 l Z a0 hw [] b48 b11 T50.heap n0 Z50 F_63) hZ (hw _ (List.mem_of_getElem? (i := 104) rfl)) (hw _ (List.mem_of_getElem? (i := 65) rfl)) (by decide) (by decide)) q64a q64c (g := (mkF m 274 #[.val (.int pp1), .val (.int pp2), .val (.int pp3), .val (.int pp4), .val (.int pp5), .val (.int (0 : Int32)), .val (.int (0 : Int32)), .val (.int (0 : Int32)), .val (.ref b4), .val (.ref b11), .val (.ref b18), .val (.ref b33), .val .null, .val (.ref b48), .val (.ref bx_50), .val (.int (1 : Int32)), .unset] [(.ref b48)])) rfl (by rw [hml]; rfl) (Steps.refl _) (argsL := []) (rest := []) (lenOf pd__28__29_Lcom_2f_example_2f_outremer_engine_2f_outremerengine_2f_board_2f_Place_3b_ rfl) rfl (by show 2 * 0 + _ ≤ _; exact Nat.le_of_eq rfl) (hb hby at_274) (fun _ _ => ⟨rfl, e62, (by decide : 26 + 0 ≤ _), (by decide : 70 + 0 ≤ _)⟩)
        dsimp only [Pt.U, Pt.locs, Pt.cells, Pt.slots] at X64 l64 y64 z64 st64 hQ64
        subst y64 z64
        obtain ⟨rfl, N64q, e64⟩ := hQ64
        have N64 : Fr n0 L64 := by rw [l64]; exact Fr.app N62 N64q
        change Stand _ _ _ _ _ _ _ _ _ _ _ _ 26 70 at X64
        have hc291 : ¬ ((1 : Int32) = (0 : Int32)) := by decide
        have hc296 : ¬ ((1 : Int32) = (0 : Int32)) := by decide
        obtain ⟨fs, hr, hrun, hended, hW, hsame⟩ := X64.leave (v := some (.int (1 : Int32))) (fun h => by rw [Bd.returns] at h; cases h)
        refine ⟨_, _, pre3 _ ?_, hrun, hended, _, _, rfl, ?_, ⟨_, rfl⟩, hW, hsame.mono (by decide) (by decide)⟩
        · show Steps p.tables e below (s₁.setTop (mkF m 32 #[.val (.int pp1), .val (.int pp2), .val (.int pp3), .val (.int pp4), .val (.int pp5), .val (.int (0 : Int32)), .val (.int (0 : Int32)), .unset, .unset, .unset, .unset, .unset, .unset, .unset, .unset, .unset, .unset] [(.int (pp5 &&& (4 : Int32)))])) _
          refine XS.ifYes X0.here hx rfl (pc0 := 32) (pc' := 39) rfl (hb hby at_32) rfl ((if0 _ _).trans (teq hc32).1) (by decide) (by decide) ?_
          refine XS.iconst X0.here hx rfl (hb hby at_39) ?_
          refine XS.istore X0.here hx rfl (hb hby at_40) rfl (l' := #[.val (.int pp1), .val (.int pp2), .val (.int pp3), .val (.int pp4), .val (.int pp5), .val (.int (0 : Int32)), .val (.int (0 : Int32)), .val (.int (0 : Int32)), .unset, .unset, .unset, .unset, .unset, .unset, .unset, .unset, .unset]) rfl ?_
          refine st4 _ ?_
          refine XS.dup X4.here hx rfl (hb hby at_45) rfl rfl ?_
          refine XS.aconstNull X4.here hx rfl (hb hby at_46) ?_
          refine XS.iloadN X4.here hx rfl (hb hby at_47) rfl ?_
          refine st6 _ ?_
          refine st10.trans ?_
          refine XS.astore X10.here hx rfl (hb hby at_54) rfl rfl (l' := #[.val (.int pp1), .val (.int pp2), .val (.int pp3), .val (.int pp4), .val (.int pp5), .val (.int (0 : Int32)), .val (.int (0 : Int32)), .val (.int (0 : Int32)), .val (.ref b4), .unset, .unset, .unset, .unset, .unset, .unset, .unset, .unset]) rfl ?_
          refine XS.iload X10.here hx rfl (hb hby at_56) rfl ?_
          refine XS.ifYes X10.here hx rfl (pc0 := 58) (pc' := 66) rfl (hb hby at_58) rfl ((if0 _ _).trans (teq hc58).1) (by decide) (by decide) ?_
          refine st11 _ ?_
          refine XS.dup X11.here hx rfl (hb hby at_69) rfl rfl ?_
          refine XS.aconstNull X11.here hx rfl (hb hby at_70) ?_
          refine XS.iloadN X11.here hx rfl (hb hby at_71) rfl ?_
          refine st13 _ ?_
          refine st17.trans ?_
          refine XS.astore X17.here hx rfl (hb hby at_78) rfl rfl (l' := #[.val (.int pp1), .val (.int pp2), .val (.int pp3), .val (.int pp4), .val (.int pp5), .val (.int (0 : Int32)), .val (.int (0 : Int32)), .val (.int (0 : Int32)), .val (.ref b4), .val (.ref b11), .unset, .unset, .unset, .unset, .unset, .unset, .unset]) rfl ?_
          refine st18 _ ?_
          refine XS.dup X18.here hx rfl (hb hby at_83) rfl rfl ?_
          refine XS.iloadN X18.here hx rfl (hb hby at_84) rfl ?_
          refine st20 _ ?_
          refine XS.aconstNull X20.here hx rfl (hb hby at_88) ?_
          refine st21 _ ?_
          refine XS.dup X21.here hx rfl (hb hby at_92) rfl rfl ?_
          refine XS.aconstNull X21.here hx rfl (hb hby at_93) ?_
          refine XS.iloadN X21.here hx rfl (hb hby at_94) rfl ?_
          refine XS.bipush X21.here hx rfl (hb hby at_95) ?_
          refine XS.iushr X21.here hx rfl (hb hby at_97) rfl ?_
          refine st23 _ ?_
          refine st27.trans ?_
          refine st32.trans ?_
          refine XS.astore X32.here hx rfl (hb hby at_107) rfl rfl (l' := #[.val (.int pp1), .val (.int pp2), .val (.int pp3), .val (.int pp4), .val (.int pp5), .val (.int (0 : Int32)), .val (.int (0 : Int32)), .val (.int (0 : Int32)), .val (.ref b4), .val (.ref b11), .val (.ref b18), .unset, .unset, .unset, .unset, .unset, .unset]) rfl ?_
          refine XS.iload X32.here hx rfl (hb hby at_109) rfl ?_
          refine XS.ifYes X32.here hx rfl (pc0 := 111) (pc' := 119) rfl (hb hby at_111) rfl ((if0 _ _).trans (teq hc111).1) (by decide) (by decide) ?_
          refine st33 _ ?_
          refine XS.dup X33.here hx rfl (hb hby at_122) rfl rfl ?_
          refine XS.iloadN X33.here hx rfl (hb hby at_123) rfl ?_
          refine st35 _ ?_
          refine XS.aconstNull X35.here hx rfl (hb hby at_127) ?_
          refine st36 _ ?_
          refine XS.dup X36.here hx rfl (hb hby at_131) rfl rfl ?_
          refine XS.aconstNull X36.here hx rfl (hb hby at_132) ?_
          refine XS.iloadN X36.here hx rfl (hb hby at_133) rfl ?_
          refine XS.bipush X36.here hx rfl (hb hby at_134) ?_
          refine XS.iushr X36.here hx rfl (hb hby at_136) rfl ?_
          refine st38 _ ?_
          refine st42.trans ?_
          refine st47.trans ?_
          refine XS.astore X47.here hx rfl (hb hby at_146) rfl rfl (l' := #[.val (.int pp1), .val (.int pp2), .val (.int pp3), .val (.int pp4), .val (.int pp5), .val (.int (0 : Int32)), .val (.int (0 : Int32)), .val (.int (0 : Int32)), .val (.ref b4), .val (.ref b11), .val (.ref b18), .val (.ref b33), .unset, .unset, .unset, .unset, .unset]) rfl ?_
          refine XS.iload X47.here hx rfl (hb hby at_148) rfl ?_
          refine XS.ifYes X47.here hx rfl (pc0 := 150) (pc' := 159) rfl (hb hby at_150) rfl ((if0 _ _).trans (teq hc150).1) (by decide) (by decide) ?_
          refine XS.aconstNull X47.here hx rfl (hb hby at_159) ?_
          refine XS.astore X47.here hx rfl (hb hby at_160) rfl rfl (l' := #[.val (.int pp1), .val (.int pp2), .val (.int pp3), .val (.int pp4), .val (.int pp5), .val (.int (0 : Int32)), .val (.int (0 : Int32)), .val (.int (0 : Int32)), .val (.ref b4), .val (.ref b11), .val (.ref b18), .val (.ref b33), .val .null, .unset, .unset, .unset, .unset]) rfl ?_
          refine st48 _ ?_
          refine XS.dup X48.here hx rfl (hb hby at_165) rfl rfl ?_
          refine XS.aload X48.here hx rfl (hb hby at_166) rfl rfl ?_
          refine XS.aload X48.here hx rfl (hb hby at_168) rfl rfl ?_
          refine XS.aload X48.here hx rfl (hb hby at_170) rfl rfl ?_
          refine XS.aload X48.here hx rfl (hb hby at_172) rfl rfl ?_
          refine st49.trans ?_
          refine XS.astore X49.here hx rfl (hb hby at_177) rfl rfl (l' := #[.val (.int pp1), .val (.int pp2), .val (.int pp3), .val (.int pp4), .val (.int pp5), .val (.int (0 : Int32)), .val (.int (0 : Int32)), .val (.int (0 : Int32)), .val (.ref b4), .val (.ref b11), .val (.ref b18), .val (.ref b33), .val .null, .val (.ref b48), .unset, .unset, .unset]) rfl ?_
          refine XS.aload X49.here hx rfl (hb hby at_179) rfl rfl ?_
          refine XS.aload X49.here hx rfl (hb hby at_181) rfl rfl ?_
          refine st50.trans ?_
          refine XS.astore X50.here hx rfl (hb hby at_186) rfl rfl (l' := #[.val (.int pp1), .val (.int pp2), .val (.int pp3), .val (.int pp4), .val (.int pp5), .val (.int (0 : Int32)), .val (.int (0 : Int32)), .val (.int (0 : Int32)), .val (.ref b4), .val (.ref b11), .val (.ref b18), .val (.ref b33), .val .null, .val (.ref b48), .val (.ref bx_50), .unset, .unset]) rfl ?_
          refine XS.aload X50.here hx rfl (hb hby at_188) rfl rfl ?_
          refine XS.ifnonnullYes X50.here hx rfl (pc0 := 190) (pc' := 195) rfl (hb hby at_190) rfl (by decide) (by decide) ?_
          refine XS.aload X50.here hx rfl (hb hby at_195) rfl rfl ?_
          refine st52.trans ?_
          refine XS.aload X52.here hx rfl (hb hby at_200) rfl rfl ?_
          refine Jvm.RoadKit.acmp (g := (mkF m 202 #[.val (.int pp1), .val (.int pp2), .val (.int pp3), .val (.int pp4), .val (.int pp5), .val (.int (0 : Int32)), .val (.int (0 : Int32)), .val (.int (0 : Int32)), .val (.ref b4), .val (.ref b11), .val (.ref b18), .val (.ref b33), .val .null, .val (.ref b48), .val (.ref bx_50), .unset, .unset] [(.ref b33), (.ref b33)])) X52 hx rfl rfl rfl (pc0 := 202) (pc' := 205) (same := true) rfl (hb hby at_202) rfl (decide_eq_true rfl) (by decide) (by decide) ?_
          refine XS.aload X52.here hx rfl (hb hby at_205) rfl rfl ?_
          refine st53.trans ?_
          refine XS.aload X53.here hx rfl (hb hby at_210) rfl rfl ?_
          refine Jvm.RoadKit.acmp (g := (mkF m 212 #[.val (.int pp1), .val (.int pp2), .val (.int pp3), .val (.int pp4), .val (.int pp5), .val (.int (0 : Int32)), .val (.int (0 : Int32)), .val (.int (0 : Int32)), .val (.ref b4), .val (.ref b11), .val (.ref b18), .val (.ref b33), .val .null, .val (.ref b48), .val (.ref bx_50), .unset, .unset] [.null, .null])) X53 hx rfl rfl rfl (pc0 := 212) (pc' := 215) (same := true) rfl (hb hby at_212) rfl (decide_eq_true rfl) (by decide) (by decide) ?_
          refine XS.aload X53.here hx rfl (hb hby at_215) rfl rfl ?_
          refine st54.trans ?_
          refine XS.aload X54.here hx rfl (hb hby at_220) rfl rfl ?_
          refine Jvm.RoadKit.acmp (g := (mkF m 222 #[.val (.int pp1), .val (.int pp2), .val (.int pp3), .val (.int pp4), .val (.int pp5), .val (.int (0 : Int32)), .val (.int (0 : Int32)), .val (.int (0 : Int32)), .val (.ref b4), .val (.ref b11), .val (.ref b18), .val (.ref b33), .val .null, .val (.ref b48), .val (.ref bx_50), .unset, .unset] [(.ref b4), (.ref b4)])) X54 hx rfl rfl rfl (pc0 := 222) (pc' := 225) (same := true) rfl (hb hby at_222) rfl (decide_eq_true rfl) (by decide) (by decide) ?_
          refine XS.aload X54.here hx rfl (hb hby at_225) rfl rfl ?_
          refine st55.trans ?_
          refine XS.aload X55.here hx rfl (hb hby at_230) rfl rfl ?_
          refine Jvm.RoadKit.acmp (g := (mkF m 232 #[.val (.int pp1), .val (.int pp2), .val (.int pp3), .val (.int pp4), .val (.int pp5), .val (.int (0 : Int32)), .val (.int (0 : Int32)), .val (.int (0 : Int32)), .val (.ref b4), .val (.ref b11), .val (.ref b18), .val (.ref b33), .val .null, .val (.ref b48), .val (.ref bx_50), .unset, .unset] [(.ref b11), (.ref b11)])) X55 hx rfl rfl rfl (pc0 := 232) (pc' := 235) (same := true) rfl (hb hby at_232) rfl (decide_eq_true rfl) (by decide) (by decide) ?_
          refine XS.iconst X55.here hx rfl (hb hby at_235) ?_
          refine XS.goto X55.here hx rfl (pc0 := 236) (pc' := 240) rfl (hb hby at_236) (by decide) (by decide) ?_
          refine XS.istore X55.here hx rfl (hb hby at_240) rfl (l' := #[.val (.int pp1), .val (.int pp2), .val (.int pp3), .val (.int pp4), .val (.int pp5), .val (.int (0 : Int32)), .val (.int (0 : Int32)), .val (.int (0 : Int32)), .val (.ref b4), .val (.ref b11), .val (.ref b18), .val (.ref b33), .val .null, .val (.ref b48), .val (.ref bx_50), .val (.int (1 : Int32)), .unset]) rfl ?_
          refine XS.aload X55.here hx rfl (hb hby at_242) rfl rfl ?_
          refine st57.trans ?_
          refine XS.aload X57.here hx rfl (hb hby at_247) rfl rfl ?_
          refine Jvm.RoadKit.acmp (g := (mkF m 249 #[.val (.int pp1), .val (.int pp2), .val (.int pp3), .val (.int pp4), .val (.int pp5), .val (.int (0 : Int32)), .val (.int (0 : Int32)), .val (.int (0 : Int32)), .val (.ref b4), .val (.ref b11), .val (.ref b18), .val (.ref b33), .val .null, .val (.ref b48), .val (.ref bx_50), .val (.int (1 : Int32)), .unset] [(.ref b18), (.ref b18)])) X57 hx rfl rfl rfl (pc0 := 249) (pc' := 252) (same := true) rfl (hb hby at_249) rfl (decide_eq_true rfl) (by decide) (by decide) ?_
          refine XS.aload X57.here hx rfl (hb hby at_252) rfl rfl ?_
          refine st60.trans ?_
          refine XS.aload X60.here hx rfl (hb hby at_257) rfl rfl ?_
          refine Jvm.RoadKit.acmp (g := (mkF m 259 #[.val (.int pp1), .val (.int pp2), .val (.int pp3), .val (.int pp4), .val (.int pp5), .val (.int (0 : Int32)), .val (.int (0 : Int32)), .val (.int (0 : Int32)), .val (.ref b4), .val (.ref b11), .val (.ref b18), .val (.ref b33), .val .null, .val (.ref b48), .val (.ref bx_50), .val (.int (1 : Int32)), .unset] [.null, .null])) X60 hx rfl rfl rfl (pc0 := 259) (pc' := 262) (same := true) rfl (hb hby at_259) rfl (decide_eq_true rfl) (by decide) (by decide) ?_
          refine XS.aload X60.here hx rfl (hb hby at_262) rfl rfl ?_
          refine st62.trans ?_
          refine XS.aload X62.here hx rfl (hb hby at_267) rfl rfl ?_
          refine Jvm.RoadKit.acmp (g := (mkF m 269 #[.val (.int pp1), .val (.int pp2), .val (.int pp3), .val (.int pp4), .val (.int pp5), .val (.int (0 : Int32)), .val (.int (0 : Int32)), .val (.int (0 : Int32)), .val (.ref b4), .val (.ref b11), .val (.ref b18), .val (.ref b33), .val .null, .val (.ref b48), .val (.ref bx_50), .val (.int (1 : Int32)), .unset] [(.ref b4), (.ref b4)])) X62 hx rfl rfl rfl (pc0 := 269) (pc' := 272) (same := true) rfl (hb hby at_269) rfl (decide_eq_true rfl) (by decide) (by decide) ?_
          refine XS.aload X62.here hx rfl (hb hby at_272) rfl rfl ?_
          refine st64.trans ?_
          refine XS.aload X64.here hx rfl (hb hby at_277) rfl rfl ?_
          refine Jvm.RoadKit.acmp (g := (mkF m 279 #[.val (.int pp1), .val (.int pp2), .val (.int pp3), .val (.int pp4), .val (.int pp5), .val (.int (0 : Int32)), .val (.int (0 : Int32)), .val (.int (0 : Int32)), .val (.ref b4), .val (.ref b11), .val (.ref b18), .val (.ref b33), .val .null, .val (.ref b48), .val (.ref bx_50), .val (.int (1 : Int32)), .unset] [(.ref b11), (.ref b11)])) X64 hx rfl rfl rfl (pc0 := 279) (pc' := 282) (same := true) rfl (hb hby at_279) rfl (decide_eq_true rfl) (by decide) (by decide) ?_
          refine XS.iconst X64.here hx rfl (hb hby at_282) ?_
          refine XS.goto X64.here hx rfl (pc0 := 283) (pc' := 287) rfl (hb hby at_283) (by decide) (by decide) ?_
          refine XS.istore X64.here hx rfl (hb hby at_287) rfl (l' := #[.val (.int pp1), .val (.int pp2), .val (.int pp3), .val (.int pp4), .val (.int pp5), .val (.int (0 : Int32)), .val (.int (0 : Int32)), .val (.int (0 : Int32)), .val (.ref b4), .val (.ref b11), .val (.ref b18), .val (.ref b33), .val .null, .val (.ref b48), .val (.ref bx_50), .val (.int (1 : Int32)), .val (.int (1 : Int32))]) rfl ?_
          refine XS.iload X64.here hx rfl (hb hby at_289) rfl ?_
          refine XS.ifNo X64.here hx rfl (hb hby at_291) rfl ((if0 _ _).trans (feq hc291).1) ?_
          refine XS.iload X64.here hx rfl (hb hby at_294) rfl ?_
          refine XS.ifNo X64.here hx rfl (hb hby at_296) rfl ((if0 _ _).trans (feq hc296).1) ?_
          refine XS.iconst X64.here hx rfl (hb hby at_299) ?_
          refine XS.goto X64.here hx rfl (pc0 := 300) (pc' := 304) rfl (hb hby at_300) (by decide) (by decide) ?_
          exact retN X64 hx (t := .boolean) Bd.returns (by simp) (hb hby at_304) hr
        · show Q0 Z pp1 pp2 pp3 pp4 pp5 cs op h0 n0 _ T64.heap _
          rw [e64]
          exact ⟨rfl, N64⟩
      · skip
        obtain ⟨T65, h65, X65, e65, E65, A65, D65, -, st65⟩ := newO X0 hx hZ hown (hw _ (List.mem_of_getElem? (i := 0) rfl)) (hw _ (List.mem_of_getElem? (i := 1) rfl)) (hw _ (List.mem_of_getElem? (i := 2) rfl)) e0 (g := (mkF m 42 #[.val (.int pp1), .val (.int pp2), .val (.int pp3), .val (.int pp4), .val (.int pp5), .val (.int (0 : Int32)), .val (.int (0 : Int32)), .val (.int (1 : Int32)), .unset, .unset, .unset, .unset, .unset, .unset, .unset, .unset, .unset] [])) rfl (hb hby at_42) (by decide) (by decide)
        obtain ⟨b65, g65⟩ : ∃ z, z = h0.size := ⟨_, rfl⟩
        rw [← g65] at A65 D65 st65
        have g_b65 : n0 ≤ b65 := Nat.le_trans Z0 (Nat.le_of_eq g65.symm)
        have Z65 : n0 ≤ h65.size := Nat.le_trans Z0 E65.1
        have F65_province : Fld Z h65 b65 "com/example/outremer_engine/outremerengine/board/Place" "province" "Lcom/example/outremer_engine/outremerengine/board/Province;" .null := D65 (Or.inr (hw _ (List.mem_of_getElem? (i := 47) rfl))) (ty := (.object "com/example/outremer_engine/outremerengine/board/Province")) (by decide)
        have F65_coast : Fld Z h65 b65 "com/example/outremer_engine/outremerengine/board/Place" "coast" "Ljava/lang/String;" .null := D65 (Or.inr (hw _ (List.mem_of_getElem? (i := 49) rfl))) (ty := (.object "java/lang/String")) (by decide)
        have O_66 : Old Z n0 h65 := (O0.ext E65)
        obtain ⟨_, _, ⟨T67, L67, k67, n67⟩, -, X67, ⟨Lc67, hQ67, l67, y67, z67⟩, st67⟩ := Jvm.LawKit.callS X65 hx (y := (⟨"com/example/outremer_engine/outremerengine/diplomacy/SupportMoveGivenToPinLaw", "drawn", "(I)Ljava/lang/String;"⟩ : MethodName)) hown (mvT hZ (hw _ (List.mem_of_getElem? (i := 3) rfl))) (mvT hZ (hw _ (List.mem_of_getElem? (i := 4) rfl))) (mvT hZ (hw _ (List.mem_of_getElem? (i := 5) rfl))) (mvT hZ (hw _ (List.mem_of_getElem? (i := 6) rfl))) (by decide) (backOf (W := 3) (rm1 l Z a0 hw [] pp3 cs h65 n0 Z65 O_66 S_COMPACT_STRINGS (show ¬ cs = (0 : Int32) from hcs)) hZ (hw _ (List.mem_of_getElem? (i := 6) rfl)) (hw _ (List.mem_of_getElem? (i := 5) rfl)) (by decide) (by decide)) (g := (mkF m 48 #[.val (.int pp1), .val (.int pp2), .val (.int pp3), .val (.int pp4), .val (.int pp5), .val (.int (0 : Int32)), .val (.int (0 : Int32)), .val (.int (1 : Int32)), .unset, .unset, .unset, .unset, .unset, .unset, .unset, .unset, .unset] [(.int pp3), .null, (.ref b65), (.ref b65)])) rfl (by rw [hml]; rfl) (argsL := [(.int pp3)]) (rest := [.null, (.ref b65), (.ref b65)]) (lenOf pd__28_I_29_Ljava_2f_lang_2f_String_3b_ rfl) rfl (by show 2 * 0 + _ ≤ _; exact Nat.le_of_eq rfl) (hb hby at_48) (fun _ _ => ⟨rfl, e65, (by decide : 1 + 3 ≤ _), (by decide : 2 + 8 ≤ _)⟩)
        dsimp only [Pt.U, Pt.locs, Pt.cells, Pt.slots] at X67 l67 y67 z67 st67 hQ67
        subst y67 z67
        obtain ⟨bx_67, rfl, N67q, K67c, g_bx_67, sb_bx_67⟩ := hQ67
        have N67 : Fr n0 L67 := by rw [l67]; exact Fr.app N0 N67q
        have Z67 : n0 ≤ T67.heap.size := Nat.le_trans Z65 K67c.1
        change Stand _ _ _ _ _ _ _ _ _ _ _ _ 4 10 at X67
        have E_68 : Exa Z T67.heap b65 "com/example/outremer_engine/outremerengine/board/Place" := (A65.keep K67c)
        have F_69 : Fld Z T67.heap b65 "com/example/outremer_engine/outremerengine/board/Place" "province" "Lcom/example/outremer_engine/outremerengine/board/Province;" .null := (F65_province.keep K67c nin0)
        have F_70 : Fld Z T67.heap b65 "com/example/outremer_engine/outremerengine/board/Place" "coast" "Ljava/lang/String;" .null := (F65_coast.keep K67c nin0)
        obtain ⟨_, _, ⟨T71, L71, k71, n71⟩, -, X71, ⟨Lc71, hQ71, l71, y71, z71⟩, st71⟩ := X67.specialBack hx (y := (⟨"com/example/outremer_engine/outremerengine/board/Place", "<init>", "(Lcom/example/outremer_engine/outremerengine/board/Province;Ljava/lang/String;)V"⟩ : MethodName)) rfl hown (mvT hZ (hw _ (List.mem_of_getElem? (i := 37) rfl))) (mvT hZ (hw _ (List.mem_of_getElem? (i := 38) rfl))) (mvT hZ (hw _ (List.mem_of_getElem? (i := 39) rfl))) (by decide) (backOf (W := 1) (rm8 l Z a0 hw [] b65 bx_67 .null .null T67.heap n0 Z67 E_68 g_b65 F_69 F_70) hZ (hw _ (List.mem_of_getElem? (i := 39) rfl)) (hw _ (List.mem_of_getElem? (i := 2) rfl)) (by decide) (by decide)) (g := (mkF m 51 #[.val (.int pp1), .val (.int pp2), .val (.int pp3), .val (.int pp4), .val (.int pp5), .val (.int (0 : Int32)), .val (.int (0 : Int32)), .val (.int (1 : Int32)), .unset, .unset, .unset, .unset, .unset, .unset, .unset, .unset, .unset] [(.ref bx_67), .null, (.ref b65), (.ref b65)])) rfl (by rw [hml]; rfl) (Steps.refl _) (a := b65) (argsL := [.null, (.ref bx_67)]) (rest := [(.ref b65)]) (lenOf pd__28_Lcom_2f_example_2f_outremer_engine_2f_outremerengine_2f_board_2f_Province_3b_Ljava_2f_lang_2f_String_3b__29_V rfl) rfl (by show 2 * 0 + _ ≤ _; exact Nat.le_of_eq rfl) (hb hby at_51) (fun _ _ => ⟨rfl, rfl, (by decide : 4 + 0 ≤ _), (by decide : 10 + 0 ≤ _)⟩)
        dsimp only [Pt.U, Pt.locs, Pt.cells, Pt.slots] at X71 l71 y71 z71 st71 hQ71
        subst y71 z71
        obtain ⟨rfl, N71q, K71c, R71_0, R71_1⟩ := hQ71
        have N71 : Fr n0 L71 := by rw [l71]; exact Fr.app N67 N71q
        have Z71 : n0 ≤ T71.heap.size := Nat.le_trans Z67 K71c.1
        change Stand _ _ _ _ _ _ _ _ _ _ _ _ 4 10 at X71
        have hc58_2 : (0 : Int32) = (0 : Int32) := by decide
        obtain ⟨T72, h72, X72, e72, E72, A72, D72, -, st72⟩ := newO X71 hx hZ hown (hw _ (List.mem_of_getElem? (i := 0) rfl)) (hw _ (List.mem_of_getElem? (i := 1) rfl)) (hw _ (List.mem_of_getElem? (i := 2) rfl)) rfl (g := (mkF m 66 #[.val (.int pp1), .val (.int pp2), .val (.int pp3), .val (.int pp4), .val (.int pp5), .val (.int (0 : Int32)), .val (.int (0 : Int32)), .val (.int (1 : Int32)), .val (.ref b65), .unset, .unset, .unset, .unset, .unset, .unset, .unset, .unset] [])) rfl (hb hby at_66) (by decide) (by decide)
        obtain ⟨b72, g72⟩ : ∃ z, z = T71.heap.size := ⟨_, rfl⟩
        rw [← g72] at A72 D72 st72
        have g_b72 : n0 ≤ b72 := Nat.le_trans Z71 (Nat.le_of_eq g72.symm)
        have Z72 : n0 ≤ h72.size := Nat.le_trans Z71 E72.1
        have F72_province : Fld Z h72 b72 "com/example/outremer_engine/outremerengine/board/Place" "province" "Lcom/example/outremer_engine/outremerengine/board/Province;" .null := D72 (Or.inr (hw _ (List.mem_of_getElem? (i := 47) rfl))) (ty := (.object "com/example/outremer_engine/outremerengine/board/Province")) (by decide)
        have F72_coast : Fld Z h72 b72 "com/example/outremer_engine/outremerengine/board/Place" "coast" "Ljava/lang/String;" .null := D72 (Or.inr (hw _ (List.mem_of_getElem? (i := 49) rfl))) (ty := (.object "java/lang/String")) (by decide)
        have O_73 : Old Z n0 h72 := (((O_66.keep K67c all0).keep K71c (allS g_b65 all0)).ext E72)
        obtain ⟨_, _, ⟨T74, L74, k74, n74⟩, -, X74, ⟨Lc74, hQ74, l74, y74, z74⟩, st74⟩ := Jvm.LawKit.callS X72 hx (y := (⟨"com/example/outremer_engine/outremerengine/diplomacy/SupportMoveGivenToPinLaw", "drawn", "(I)Ljava/lang/String;"⟩ : MethodName)) hown (mvT hZ (hw _ (List.mem_of_getElem? (i := 3) rfl))) (mvT hZ (hw _ (List.mem_of_getElem? (i := 4) rfl))) (mvT hZ (hw _ (List.mem_of_getElem? (i := 5) rfl))) (mvT hZ (hw _ (List.mem_of_getElem? (i := 6) rfl))) (by decide) (backOf (W := 3) (rm1 l Z a0 hw [] pp4 cs h72 n0 Z72 O_73 S_COMPACT_STRINGS (show ¬ cs = (0 : Int32) from hcs)) hZ (hw _ (List.mem_of_getElem? (i := 6) rfl)) (hw _ (List.mem_of_getElem? (i := 5) rfl)) (by decide) (by decide)) (g := (mkF m 72 #[.val (.int pp1), .val (.int pp2), .val (.int pp3), .val (.int pp4), .val (.int pp5), .val (.int (0 : Int32)), .val (.int (0 : Int32)), .val (.int (1 : Int32)), .val (.ref b65), .unset, .unset, .unset, .unset, .unset, .unset, .unset, .unset] [(.int pp4), .null, (.ref b72), (.ref b72)])) rfl (by rw [hml]; rfl) (argsL := [(.int pp4)]) (rest := [.null, (.ref b72), (.ref b72)]) (lenOf pd__28_I_29_Ljava_2f_lang_2f_String_3b_ rfl) rfl (by show 2 * 0 + _ ≤ _; exact Nat.le_of_eq rfl) (hb hby at_72) (fun _ _ => ⟨rfl, e72, (by decide : 5 + 3 ≤ _), (by decide : 12 + 8 ≤ _)⟩)
        dsimp only [Pt.U, Pt.locs, Pt.cells, Pt.slots] at X74 l74 y74 z74 st74 hQ74
        subst y74 z74
        obtain ⟨bx_74, rfl, N74q, K74c, g_bx_74, sb_bx_74⟩ := hQ74
        have N74 : Fr n0 L74 := by rw [l74]; exact Fr.app N71 N74q
        have Z74 : n0 ≤ T74.heap.size := Nat.le_trans Z72 K74c.1
        change Stand _ _ _ _ _ _ _ _ _ _ _ _ 8 20 at X74
        have E_75 : Exa Z T74.heap b72 "com/example/outremer_engine/outremerengine/board/Place" := (A72.keep K74c)
        have F_76 : Fld Z T74.heap b72 "com/example/outremer_engine/outremerengine/board/Place" "province" "Lcom/example/outremer_engine/outremerengine/board/Province;" .null := (F72_province.keep K74c nin0)
        have F_77 : Fld Z T74.heap b72 "com/example/outremer_engine/outremerengine/board/Place" "coast" "Ljava/lang/String;" .null := (F72_coast.keep K74c nin0)
        obtain ⟨_, _, ⟨T78, L78, k78, n78⟩, -, X78, ⟨Lc78, hQ78, l78, y78, z78⟩, st78⟩ := X74.specialBack hx (y := (⟨"com/example/outremer_engine/outremerengine/board/Place", "<init>", "(Lcom/example/outremer_engine/outremerengine/board/Province;Ljava/lang/String;)V"⟩ : MethodName)) rfl hown (mvT hZ (hw _ (List.mem_of_getElem? (i := 37) rfl))) (mvT hZ (hw _ (List.mem_of_getElem? (i := 38) rfl))) (mvT hZ (hw _ (List.mem_of_getElem? (i := 39) rfl))) (by decide) (backOf (W := 1) (rm8 l Z a0 hw [] b72 bx_74 .null .null T74.heap n0 Z74 E_75 g_b72 F_76 F_77) hZ (hw _ (List.mem_of_getElem? (i := 39) rfl)) (hw _ (List.mem_of_getElem? (i := 2) rfl)) (by decide) (by decide)) (g := (mkF m 75 #[.val (.int pp1), .val (.int pp2), .val (.int pp3), .val (.int pp4), .val (.int pp5), .val (.int (0 : Int32)), .val (.int (0 : Int32)), .val (.int (1 : Int32)), .val (.ref b65), .unset, .unset, .unset, .unset, .unset, .unset, .unset, .unset] [(.ref bx_74), .null, (.ref b72), (.ref b72)])) rfl (by rw [hml]; rfl) (Steps.refl _) (a := b72) (argsL := [.null, (.ref bx_74)]) (rest := [(.ref b72)]) (lenOf pd__28_Lcom_2f_example_2f_outremer_engine_2f_outremerengine_2f_board_2f_Province_3b_Ljava_2f_lang_2f_String_3b__29_V rfl) rfl (by show 2 * 0 + _ ≤ _; exact Nat.le_of_eq rfl) (hb hby at_75) (fun _ _ => ⟨rfl, rfl, (by decide : 8 + 0 ≤ _), (by decide : 20 + 0 ≤ _)⟩)
        dsimp only [Pt.U, Pt.locs, Pt.cells, Pt.slots] at X78 l78 y78 z78 st78 hQ78
        subst y78 z78
        obtain ⟨rfl, N78q, K78c, R78_0, R78_1⟩ := hQ78
        have N78 : Fr n0 L78 := by rw [l78]; exact Fr.app N74 N78q
        have Z78 : n0 ≤ T78.heap.size := Nat.le_trans Z74 K78c.1
        change Stand _ _ _ _ _ _ _ _ _ _ _ _ 8 20 at X78
        obtain ⟨T79, h79, X79, e79, E79, A79, D79, -, st79⟩ := newO X78 hx hZ hown (hw _ (List.mem_of_getElem? (i := 50) rfl)) (hw _ (List.mem_of_getElem? (i := 51) rfl)) (hw _ (List.mem_of_getElem? (i := 52) rfl)) rfl (g := (mkF m 80 #[.val (.int pp1), .val (.int pp2), .val (.int pp3), .val (.int pp4), .val (.int pp5), .val (.int (0 : Int32)), .val (.int (0 : Int32)), .val (.int (1 : Int32)), .val (.ref b65), .val (.ref b72), .unset, .unset, .unset, .unset, .unset, .unset, .unset] [])) rfl (hb hby at_80) (by decide) (by decide)
        obtain ⟨b79, g79⟩ : ∃ z, z = T78.heap.size := ⟨_, rfl⟩
        rw [← g79] at A79 D79 st79
        have g_b79 : n0 ≤ b79 := Nat.le_trans Z78 (Nat.le_of_eq g79.symm)
        have Z79 : n0 ≤ h79.size := Nat.le_trans Z78 E79.1
        have F79_nation : Fld Z h79 b79 "com/example/outremer_engine/outremerengine/board/Unit" "nation" "Ljava/lang/String;" .null := D79 (Or.inr (hw _ (List.mem_of_getElem? (i := 58) rfl))) (ty := (.object "java/lang/String")) (by decide)
        have F79_type : Fld Z h79 b79 "com/example/outremer_engine/outremerengine/board/Unit" "type" "Lcom/example/outremer_engine/outremerengine/board/UnitType;" .null := D79 (Or.inr (hw _ (List.mem_of_getElem? (i := 60) rfl))) (ty := (.object "com/example/outremer_engine/outremerengine/board/UnitType")) (by decide)
        have F79_place : Fld Z h79 b79 "com/example/outremer_engine/outremerengine/board/Unit" "place" "Lcom/example/outremer_engine/outremerengine/board/Place;" .null := D79 (Or.inr (hw _ (List.mem_of_getElem? (i := 62) rfl))) (ty := (.object "com/example/outremer_engine/outremerengine/board/Place")) (by decide)
        have O_80 : Old Z n0 h79 := (((O_73.keep K74c all0).keep K78c (allS g_b72 all0)).ext E79)
        obtain ⟨_, _, ⟨T81, L81, k81, n81⟩, -, X81, ⟨Lc81, hQ81, l81, y81, z81⟩, st81⟩ := Jvm.LawKit.callS X79 hx (y := (⟨"com/example/outremer_engine/outremerengine/diplomacy/SupportMoveGivenToPinLaw", "drawn", "(I)Ljava/lang/String;"⟩ : MethodName)) hown (mvT hZ (hw _ (List.mem_of_getElem? (i := 3) rfl))) (mvT hZ (hw _ (List.mem_of_getElem? (i := 4) rfl))) (mvT hZ (hw _ (List.mem_of_getElem? (i := 5) rfl))) (mvT hZ (hw _ (List.mem_of_getElem? (i := 6) rfl))) (by decide) (backOf (W := 2) (rm1 l Z a0 hw [] pp1 cs h79 n0 Z79 O_80 S_COMPACT_STRINGS (show ¬ cs = (0 : Int32) from hcs)) hZ (hw _ (List.mem_of_getElem? (i := 6) rfl)) (hw _ (List.mem_of_getElem? (i := 5) rfl)) (by decide) (by decide)) (g := (mkF m 85 #[.val (.int pp1), .val (.int pp2), .val (.int pp3), .val (.int pp4), .val (.int pp5), .val (.int (0 : Int32)), .val (.int (0 : Int32)), .val (.int (1 : Int32)), .val (.ref b65), .val (.ref b72), .unset, .unset, .unset, .unset, .unset, .unset, .unset] [(.int pp1), (.ref b79), (.ref b79)])) rfl (by rw [hml]; rfl) (argsL := [(.int pp1)]) (rest := [(.ref b79), (.ref b79)]) (lenOf pd__28_I_29_Ljava_2f_lang_2f_String_3b_ rfl) rfl (by show 2 * 0 + _ ≤ _; exact Nat.le_of_eq rfl) (hb hby at_85) (fun _ _ => ⟨rfl, e79, (by decide : 9 + 3 ≤ _), (by decide : 23 + 8 ≤ _)⟩)
        dsimp only [Pt.U, Pt.locs, Pt.cells, Pt.slots] at X81 l81 y81 z81 st81 hQ81
        subst y81 z81
        obtain ⟨bx_81, rfl, N81q, K81c, g_bx_81, sb_bx_81⟩ := hQ81
        have N81 : Fr n0 L81 := by rw [l81]; exact Fr.app N78 N81q
        have Z81 : n0 ≤ T81.heap.size := Nat.le_trans Z79 K81c.1
        change Stand _ _ _ _ _ _ _ _ _ _ _ _ 12 31 at X81
        obtain ⟨T82, h82, X82, e82, E82, A82, D82, -, st82⟩ := newO X81 hx hZ hown (hw _ (List.mem_of_getElem? (i := 0) rfl)) (hw _ (List.mem_of_getElem? (i := 1) rfl)) (hw _ (List.mem_of_getElem? (i := 2) rfl)) rfl (g := (mkF m 89 #[.val (.int pp1), .val (.int pp2), .val (.int pp3), .val (.int pp4), .val (.int pp5), .val (.int (0 : Int32)), .val (.int (0 : Int32)), .val (.int (1 : Int32)), .val (.ref b65), .val (.ref b72), .unset, .unset, .unset, .unset, .unset, .unset, .unset] [.null, (.ref bx_81), (.ref b79), (.ref b79)])) rfl (hb hby at_89) (by decide) (by decide)
        obtain ⟨b82, g82⟩ : ∃ z, z = T81.heap.size := ⟨_, rfl⟩
        rw [← g82] at A82 D82 st82
        have g_b82 : n0 ≤ b82 := Nat.le_trans Z81 (Nat.le_of_eq g82.symm)
        have Z82 : n0 ≤ h82.size := Nat.le_trans Z81 E82.1
        have F82_province : Fld Z h82 b82 "com/example/outremer_engine/outremerengine/board/Place" "province" "Lcom/example/outremer_engine/outremerengine/board/Province;" .null := D82 (Or.inr (hw _ (List.mem_of_getElem? (i := 47) rfl))) (ty := (.object "com/example/outremer_engine/outremerengine/board/Province")) (by decide)
        have F82_coast : Fld Z h82 b82 "com/example/outremer_engine/outremerengine/board/Place" "coast" "Ljava/lang/String;" .null := D82 (Or.inr (hw _ (List.mem_of_getElem? (i := 49) rfl))) (ty := (.object "java/lang/String")) (by decide)
        have O_83 : Old Z n0 h82 := ((O_80.keep K81c all0).ext E82)
        obtain ⟨_, _, ⟨T84, L84, k84, n84⟩, -, X84, ⟨Lc84, hQ84, l84, y84, z84⟩, st84⟩ := Jvm.LawKit.callS X82 hx (y := (⟨"com/example/outremer_engine/outremerengine/diplomacy/SupportMoveGivenToPinLaw", "drawn", "(I)Ljava/lang/String;"⟩ : MethodName)) hown (mvT hZ (hw _ (List.mem_of_getElem? (i := 3) rfl))) (mvT hZ (hw _ (List.mem_of_getElem? (i := 4) rfl))) (mvT hZ (hw _ (List.mem_of_getElem? (i := 5) rfl))) (mvT hZ (hw _ (List.mem_of_getElem? (i := 6) rfl))) (by decide) (backOf (W := 7) (rm1 l Z a0 hw [] ((pp4.toUInt32 >>> ((16 : Int32) &&& 31).toUInt32).toInt32) cs h82 n0 Z82 O_83 S_COMPACT_STRINGS (show ¬ cs = (0 : Int32) from hcs)) hZ (hw _ (List.mem_of_getElem? (i := 6) rfl)) (hw _ (List.mem_of_getElem? (i := 5) rfl)) (by decide) (by decide)) (g := (mkF m 98 #[.val (.int pp1), .val (.int pp2), .val (.int pp3), .val (.int pp4), .val (.int pp5), .val (.int (0 : Int32)), .val (.int (0 : Int32)), .val (.int (1 : Int32)), .val (.ref b65), .val (.ref b72), .unset, .unset, .unset, .unset, .unset, .unset, .unset] [(.int ((pp4.toUInt32 >>> ((16 : Int32) &&& 31).toUInt32).toInt32)), .null, (.ref b82), (.ref b82), .null, (.ref bx_81), (.ref b79), (.ref b79)])) rfl (by rw [hml]; rfl) (argsL := [(.int ((pp4.toUInt32 >>> ((16 : Int32) &&& 31).toUInt32).toInt32))]) (rest := [.null, (.ref b82), (.ref b82), .null, (.ref bx_81), (.ref b79), (.ref b79)]) (lenOf pd__28_I_29_Ljava_2f_lang_2f_String_3b_ rfl) rfl (by show 2 * 0 + _ ≤ _; exact Nat.le_of_eq rfl) (hb hby at_98) (fun _ _ => ⟨rfl, e82, (by decide : 13 + 3 ≤ _), (by decide : 33 + 8 ≤ _)⟩)
        dsimp only [Pt.U, Pt.locs, Pt.cells, Pt.slots] at X84 l84 y84 z84 st84 hQ84
        subst y84 z84
        obtain ⟨bx_84, rfl, N84q, K84c, g_bx_84, sb_bx_84⟩ := hQ84
        have N84 : Fr n0 L84 := by rw [l84]; exact Fr.app N81 N84q
        have Z84 : n0 ≤ T84.heap.size := Nat.le_trans Z82 K84c.1
        change Stand _ _ _ _ _ _ _ _ _ _ _ _ 16 41 at X84
        have E_85 : Exa Z T84.heap b82 "com/example/outremer_engine/outremerengine/board/Place" := (A82.keep K84c)
        have F_86 : Fld Z T84.heap b82 "com/example/outremer_engine/outremerengine/board/Place" "province" "Lcom/example/outremer_engine/outremerengine/board/Province;" .null := (F82_province.keep K84c nin0)
        have F_87 : Fld Z T84.heap b82 "com/example/outremer_engine/outremerengine/board/Place" "coast" "Ljava/lang/String;" .null := (F82_coast.keep K84c nin0)
        obtain ⟨_, _, ⟨T88, L88, k88, n88⟩, -, X88, ⟨Lc88, hQ88, l88, y88, z88⟩, st88⟩ := X84.specialBack hx (y := (⟨"com/example/outremer_engine/outremerengine/board/Place", "<init>", "(Lcom/example/outremer_engine/outremerengine/board/Province;Ljava/lang/String;)V"⟩ : MethodName)) rfl hown (mvT hZ (hw _ (List.mem_of_getElem? (i := 37) rfl))) (mvT hZ (hw _ (List.mem_of_getElem? (i := 38) rfl))) (mvT hZ (hw _ (List.mem_of_getElem? (i := 39) rfl))) (by decide) (backOf (W := 5) (rm8 l Z a0 hw [] b82 bx_84 .null .null T84.heap n0 Z84 E_85 g_b82 F_86 F_87) hZ (hw _ (List.mem_of_getElem? (i := 39) rfl)) (hw _ (List.mem_of_getElem? (i := 2) rfl)) (by decide) (by decide)) (g := (mkF m 101 #[.val (.int pp1), .val (.int pp2), .val (.int pp3), .val (.int pp4), .val (.int pp5), .val (.int (0 : Int32)), .val (.int (0 : Int32)), .val (.int (1 : Int32)), .val (.ref b65), .val (.ref b72), .unset, .unset, .unset, .unset, .unset, .unset, .unset] [(.ref bx_84), .null, (.ref b82), (.ref b82), .null, (.ref bx_81), (.ref b79), (.ref b79)])) rfl (by rw [hml]; rfl) (Steps.refl _) (a := b82) (argsL := [.null, (.ref bx_84)]) (rest := [(.ref b82), .null, (.ref bx_81), (.ref b79), (.ref b79)]) (lenOf pd__28_Lcom_2f_example_2f_outremer_engine_2f_outremerengine_2f_board_2f_Province_3b_Ljava_2f_lang_2f_String_3b__29_V rfl) rfl (by show 2 * 0 + _ ≤ _; exact Nat.le_of_eq rfl) (hb hby at_101) (fun _ _ => ⟨rfl, rfl, (by decide : 16 + 0 ≤ _), (by decide : 41 + 0 ≤ _)⟩)
        dsimp only [Pt.U, Pt.locs, Pt.cells, Pt.slots] at X88 l88 y88 z88 st88 hQ88
        subst y88 z88
        obtain ⟨rfl, N88q, K88c, R88_0, R88_1⟩ := hQ88
        have N88 : Fr n0 L88 := by rw [l88]; exact Fr.app N84 N88q
        have Z88 : n0 ≤ T88.heap.size := Nat.le_trans Z84 K88c.1
        change Stand _ _ _ _ _ _ _ _ _ _ _ _ 16 41 at X88
        have E_89 : Exa Z T88.heap b79 "com/example/outremer_engine/outremerengine/board/Unit" := ((((A79.keep K81c).ext E82).keep K84c).keep K88c)
        have F_90 : Fld Z T88.heap b79 "com/example/outremer_engine/outremerengine/board/Unit" "nation" "Ljava/lang/String;" .null := ((((F79_nation.keep K81c nin0).ext E82).keep K84c nin0).keep K88c (ninS (Nat.ne_of_lt (Nat.lt_of_lt_of_le (A79.keep K81c).lt (Nat.le_of_eq g82.symm))) nin0))
        have F_91 : Fld Z T88.heap b79 "com/example/outremer_engine/outremerengine/board/Unit" "type" "Lcom/example/outremer_engine/outremerengine/board/UnitType;" .null := ((((F79_type.keep K81c nin0).ext E82).keep K84c nin0).keep K88c (ninS (Nat.ne_of_lt (Nat.lt_of_lt_of_le (A79.keep K81c).lt (Nat.le_of_eq g82.symm))) nin0))
        have F_92 : Fld Z T88.heap b79 "com/example/outremer_engine/outremerengine/board/Unit" "place" "Lcom/example/outremer_engine/outremerengine/board/Place;" .null := ((((F79_place.keep K81c nin0).ext E82).keep K84c nin0).keep K88c (ninS (Nat.ne_of_lt (Nat.lt_of_lt_of_le (A79.keep K81c).lt (Nat.le_of_eq g82.symm))) nin0))
        obtain ⟨_, _, ⟨T93, L93, k93, n93⟩, -, X93, ⟨Lc93, hQ93, l93, y93, z93⟩, st93⟩ := X88.specialBack hx (y := (⟨"com/example/outremer_engine/outremerengine/board/Unit", "<init>", "(Ljava/lang/String;Lcom/example/outremer_engine/outremerengine/board/UnitType;Lcom/example/outremer_engine/outremerengine/board/Place;)V"⟩ : MethodName)) rfl hown (mvT hZ (hw _ (List.mem_of_getElem? (i := 53) rfl))) (mvT hZ (hw _ (List.mem_of_getElem? (i := 54) rfl))) (mvT hZ (hw _ (List.mem_of_getElem? (i := 55) rfl))) (by decide) (backOf (W := 1) (rm10 l Z a0 hw [] b79 bx_81 b82 .null .null .null T88.heap n0 Z88 E_89 g_b79 F_90 F_91 F_92) hZ (hw _ (List.mem_of_getElem? (i := 55) rfl)) (hw _ (List.mem_of_getElem? (i := 52) rfl)) (by decide) (by decide)) (g := (mkF m 104 #[.val (.int pp1), .val (.int pp2), .val (.int pp3), .val (.int pp4), .val (.int pp5), .val (.int (0 : Int32)), .val (.int (0 : Int32)), .val (.int (1 : Int32)), .val (.ref b65), .val (.ref b72), .unset, .unset, .unset, .unset, .unset, .unset, .unset] [(.ref b82), .null, (.ref bx_81), (.ref b79), (.ref b79)])) rfl (by rw [hml]; rfl) (Steps.refl _) (a := b79) (argsL := [(.ref bx_81), .null, (.ref b82)]) (rest := [(.ref b79)]) (lenOf pd__28_Ljava_2f_lang_2f_String_3b_Lcom_2f_example_2f_outremer_engine_2f_outremerengine_2f_board_2f_UnitType_3b_Lcom_2f_example_2f_outremer_engine_2f_outremerengine_2f_board_2f_Place_3b__29_V rfl) rfl (by show 2 * 0 + _ ≤ _; exact Nat.le_of_eq rfl) (hb hby at_104) (fun _ _ => ⟨rfl, rfl, (by decide : 16 + 0 ≤ _), (by decide : 41 + 0 ≤ _)⟩)
        dsimp only [Pt.U, Pt.locs, Pt.cells, Pt.slots] at X93 l93 y93 z93 st93 hQ93
        subst y93 z93
        obtain ⟨rfl, N93q, K93c, R93_0, R93_1, R93_2⟩ := hQ93
        have N93 : Fr n0 L93 := by rw [l93]; exact Fr.app N88 N93q
        have Z93 : n0 ≤ T93.heap.size := Nat.le_trans Z88 K93c.1
        change Stand _ _ _ _ _ _ _ _ _ _ _ _ 16 41 at X93
        have hc111_2 : (0 : Int32) = (0 : Int32) := by decide
        obtain ⟨T94, h94, X94, e94, E94, A94, D94, -, st94⟩ := newO X93 hx hZ hown (hw _ (List.mem_of_getElem? (i := 50) rfl)) (hw _ (List.mem_of_getElem? (i := 51) rfl)) (hw _ (List.mem_of_getElem? (i := 52) rfl)) rfl (g := (mkF m 119 #[.val (.int pp1), .val (.int pp2), .val (.int pp3), .val (.int pp4), .val (.int pp5), .val (.int (0 : Int32)), .val (.int (0 : Int32)), .val (.int (1 : Int32)), .val (.ref b65), .val (.ref b72), .val (.ref b79), .unset, .unset, .unset, .unset, .unset, .unset] [])) rfl (hb hby at_119) (by decide) (by decide)
        obtain ⟨b94, g94⟩ : ∃ z, z = T93.heap.size := ⟨_, rfl⟩
        rw [← g94] at A94 D94 st94
        have g_b94 : n0 ≤ b94 := Nat.le_trans Z93 (Nat.le_of_eq g94.symm)
        have Z94 : n0 ≤ h94.size := Nat.le_trans Z93 E94.1
        have F94_nation : Fld Z h94 b94 "com/example/outremer_engine/outremerengine/board/Unit" "nation" "Ljava/lang/String;" .null := D94 (Or.inr (hw _ (List.mem_of_getElem? (i := 58) rfl))) (ty := (.object "java/lang/String")) (by decide)
        have F94_type : Fld Z h94 b94 "com/example/outremer_engine/outremerengine/board/Unit" "type" "Lcom/example/outremer_engine/outremerengine/board/UnitType;" .null := D94 (Or.inr (hw _ (List.mem_of_getElem? (i := 60) rfl))) (ty := (.object "com/example/outremer_engine/outremerengine/board/UnitType")) (by decide)
        have F94_place : Fld Z h94 b94 "com/example/outremer_engine/outremerengine/board/Unit" "place" "Lcom/example/outremer_engine/outremerengine/board/Place;" .null := D94 (Or.inr (hw _ (List.mem_of_getElem? (i := 62) rfl))) (ty := (.object "com/example/outremer_engine/outremerengine/board/Place")) (by decide)
        have O_95 : Old Z n0 h94 := ((((O_83.keep K84c all0).keep K88c (allS g_b82 all0)).keep K93c (allS g_b79 all0)).ext E94)
        obtain ⟨_, _, ⟨T96, L96, k96, n96⟩, -, X96, ⟨Lc96, hQ96, l96, y96, z96⟩, st96⟩ := Jvm.LawKit.callS X94 hx (y := (⟨"com/example/outremer_engine/outremerengine/diplomacy/SupportMoveGivenToPinLaw", "drawn", "(I)Ljava/lang/String;"⟩ : MethodName)) hown (mvT hZ (hw _ (List.mem_of_getElem? (i := 3) rfl))) (mvT hZ (hw _ (List.mem_of_getElem? (i := 4) rfl))) (mvT hZ (hw _ (List.mem_of_getElem? (i := 5) rfl))) (mvT hZ (hw _ (List.mem_of_getElem? (i := 6) rfl))) (by decide) (backOf (W := 2) (rm1 l Z a0 hw [] pp2 cs h94 n0 Z94 O_95 S_COMPACT_STRINGS (show ¬ cs = (0 : Int32) from hcs)) hZ (hw _ (List.mem_of_getElem? (i := 6) rfl)) (hw _ (List.mem_of_getElem? (i := 5) rfl)) (by decide) (by decide)) (g := (mkF m 124 #[.val (.int pp1), .val (.int pp2), .val (.int pp3), .val (.int pp4), .val (.int pp5), .val (.int (0 : Int32)), .val (.int (0 : Int32)), .val (.int (1 : Int32)), .val (.ref b65), .val (.ref b72), .val (.ref b79), .unset, .unset, .unset, .unset, .unset, .unset] [(.int pp2), (.ref b94), (.ref b94)])) rfl (by rw [hml]; rfl) (argsL := [(.int pp2)]) (rest := [(.ref b94), (.ref b94)]) (lenOf pd__28_I_29_Ljava_2f_lang_2f_String_3b_ rfl) rfl (by show 2 * 0 + _ ≤ _; exact Nat.le_of_eq rfl) (hb hby at_124) (fun _ _ => ⟨rfl, e94, (by decide : 17 + 3 ≤ _), (by decide : 44 + 8 ≤ _)⟩)
        dsimp only [Pt.U, Pt.locs, Pt.cells, Pt.slots] at X96 l96 y96 z96 st96 hQ96
        subst y96 z96
        obtain ⟨bx_96, rfl, N96q, K96c, g_bx_96, sb_bx_96⟩ := hQ96
        have N96 : Fr n0 L96 := by rw [l96]; exact Fr.app N93 N96q
        have Z96 : n0 ≤ T96.heap.size := Nat.le_trans Z94 K96c.1
        change Stand _ _ _ _ _ _ _ _ _ _ _ _ 20 52 at X96
        obtain ⟨T97, h97, X97, e97, E97, A97, D97, -, st97⟩ := newO X96 hx hZ hown (hw _ (List.mem_of_getElem? (i := 0) rfl)) (hw _ (List.mem_of_getElem? (i := 1) rfl)) (hw _ (List.mem_of_getElem? (i := 2) rfl)) rfl (g := (mkF m 128 #[.val (.int pp1), .val (.int pp2), .val (.int pp3), .val (.int pp4), .val (.int pp5), .val (.int (0 : Int32)), .val (.int (0 : Int32)), .val (.int (1 : Int32)), .val (.ref b65), .val (.ref b72), .val (.ref b79), .unset, .unset, .unset, .unset, .unset, .unset] [.null, (.ref bx_96), (.ref b94), (.ref b94)])) rfl (hb hby at_128) (by decide) (by decide)
        obtain ⟨b97, g97⟩ : ∃ z, z = T96.heap.size := ⟨_, rfl⟩
        rw [← g97] at A97 D97 st97
        have g_b97 : n0 ≤ b97 := Nat.le_trans Z96 (Nat.le_of_eq g97.symm)
        have Z97 : n0 ≤ h97.size := Nat.le_trans Z96 E97.1
        have F97_province : Fld Z h97 b97 "com/example/outremer_engine/outremerengine/board/Place" "province" "Lcom/example/outremer_engine/outremerengine/board/Province;" .null := D97 (Or.inr (hw _ (List.mem_of_getElem? (i := 47) rfl))) (ty := (.object "com/example/outremer_engine/outremerengine/board/Province")) (by decide)
        have F97_coast : Fld Z h97 b97 "com/example/outremer_engine/outremerengine/board/Place" "coast" "Ljava/lang/String;" .null := D97 (Or.inr (hw _ (List.mem_of_getElem? (i := 49) rfl))) (ty := (.object "java/lang/String")) (by decide)
        have O_98 : Old Z n0 h97 := ((O_95.keep K96c all0).ext E97)
        obtain ⟨_, _, ⟨T99, L99, k99, n99⟩, -, X99, ⟨Lc99, hQ99, l99, y99, z99⟩, st99⟩ := Jvm.LawKit.callS X97 hx (y := (⟨"com/example/outremer_engine/outremerengine/diplomacy/SupportMoveGivenToPinLaw", "drawn", "(I)Ljava/lang/String;"⟩ : MethodName)) hown (mvT hZ (hw _ (List.mem_of_getElem? (i := 3) rfl))) (mvT hZ (hw _ (List.mem_of_getElem? (i := 4) rfl))) (mvT hZ (hw _ (List.mem_of_getElem? (i := 5) rfl))) (mvT hZ (hw _ (List.mem_of_getElem? (i := 6) rfl))) (by decide) (backOf (W := 7) (rm1 l Z a0 hw [] ((pp3.toUInt32 >>> ((16 : Int32) &&& 31).toUInt32).toInt32) cs h97 n0 Z97 O_98 S_COMPACT_STRINGS (show ¬ cs = (0 : Int32) from hcs)) hZ (hw _ (List.mem_of_getElem? (i := 6) rfl)) (hw _ (List.mem_of_getElem? (i := 5) rfl)) (by decide) (by decide)) (g := (mkF m 137 #[.val (.int pp1), .val (.int pp2), .val (.int pp3), .val (.int pp4), .val (.int pp5), .val (.int (0 : Int32)), .val (.int (0 : Int32)), .val (.int (1 : Int32)), .val (.ref b65), .val (.ref b72), .val (.ref b79), .unset, .unset, .unset, .unset, .unset, .unset] [(.int ((pp3.toUInt32 >>> ((16 : Int32) &&& 31).toUInt32).toInt32)), .null, (.ref b97), (.ref b97), .null, (.ref bx_96), (.ref b94), (.ref b94)])) rfl (by rw [hml]; rfl) (argsL := [(.int ((pp3.toUInt32 >>> ((16 : Int32) &&& 31).toUInt32).toInt32))]) (rest := [.null, (.ref b97), (.ref b97), .null, (.ref bx_96), (.ref b94), (.ref b94)]) (lenOf pd__28_I_29_Ljava_2f_lang_2f_String_3b_ rfl) rfl (by show 2 * 0 + _ ≤ _; exact Nat.le_of_eq rfl) (hb hby at_137) (fun _ _ => ⟨rfl, e97, (by decide : 21 + 3 ≤ _), (by decide : 54 + 8 ≤ _)⟩)
        dsimp only [Pt.U, Pt.locs, Pt.cells, Pt.slots] at X99 l99 y99 z99 st99 hQ99
        subst y99 z99
        obtain ⟨bx_99, rfl, N99q, K99c, g_bx_99, sb_bx_99⟩ := hQ99
        have N99 : Fr n0 L99 := by rw [l99]; exact Fr.app N96 N99q
        have Z99 : n0 ≤ T99.heap.size := Nat.le_trans Z97 K99c.1
        change Stand _ _ _ _ _ _ _ _ _ _ _ _ 24 62 at X99
        have E_100 : Exa Z T99.heap b97 "com/example/outremer_engine/outremerengine/board/Place" := (A97.keep K99c)
        have F_101 : Fld Z T99.heap b97 "com/example/outremer_engine/outremerengine/board/Place" "province" "Lcom/example/outremer_engine/outremerengine/board/Province;" .null := (F97_province.keep K99c nin0)
        have F_102 : Fld Z T99.heap b97 "com/example/outremer_engine/outremerengine/board/Place" "coast" "Ljava/lang/String;" .null := (F97_coast.keep K99c nin0)
        obtain ⟨_, _, ⟨T103, L103, k103, n103⟩, -, X103, ⟨Lc103, hQ103, l103, y103, z103⟩, st103⟩ := X99.specialBack hx (y := (⟨"com/example/outremer_engine/outremerengine/board/Place", "<init>", "(Lcom/example/outremer_engine/outremerengine/board/Province;Ljava/lang/String;)V"⟩ : MethodName)) rfl hown (mvT hZ (hw _ (List.mem_of_getElem? (i := 37) rfl))) (mvT hZ (hw _ (List.mem_of_getElem? (i := 38) rfl))) (mvT hZ (hw _ (List.mem_of_getElem? (i := 39) rfl))) (by decide) (backOf (W := 5) (rm8 l Z a0 hw [] b97 bx_99 .null .null T99.heap n0 Z99 E_100 g_b97 F_101 F_102) hZ (hw _ (List.mem_of_getElem? (i := 39) rfl)) (hw _ (List.mem_of_getElem? (i := 2) rfl)) (by decide) (by decide)) (g := (mkF m 140 #[.val (.int pp1), .val (.int pp2), .val (.int pp3), .val (.int pp4), .val (.int pp5), .val (.int (0 : Int32)), .val (.int (0 : Int32)), .val (.int (1 : Int32)), .val (.ref b65), .val (.ref b72), .val (.ref b79), .unset, .unset, .unset, .unset, .unset, .unset] [(.ref bx_99), .null, (.ref b97), (.ref b97), .null, (.ref bx_96), (.ref b94), (.ref b94)])) rfl (by rw [hml]; rfl) (Steps.refl _) (a := b97) (argsL := [.null, (.ref bx_99)]) (rest := [(.ref b97), .null, (.ref bx_96), (.ref b94), (.ref b94)]) (lenOf pd__28_Lcom_2f_example_2f_outremer_engine_2f_outremerengine_2f_board_2f_Province_3b_Ljava_2f_lang_2f_String_3b__29_V rfl) rfl (by show 2 * 0 + _ ≤ _; exact Nat.le_of_eq rfl) (hb hby at_140) (fun _ _ => ⟨rfl, rfl, (by decide : 24 + 0 ≤ _), (by decide : 62 + 0 ≤ _)⟩)
        dsimp only [Pt.U, Pt.locs, Pt.cells, Pt.slots] at X103 l103 y103 z103 st103 hQ103
        subst y103 z103
        obtain ⟨rfl, N103q, K103c, R103_0, R103_1⟩ := hQ103
        have N103 : Fr n0 L103 := by rw [l103]; exact Fr.app N99 N103q
        have Z103 : n0 ≤ T103.heap.size := Nat.le_trans Z99 K103c.1
        change Stand _ _ _ _ _ _ _ _ _ _ _ _ 24 62 at X103
        have E_104 : Exa Z T103.heap b94 "com/example/outremer_engine/outremerengine/board/Unit" := ((((A94.keep K96c).ext E97).keep K99c).keep K103c)
        have F_105 : Fld Z T103.heap b94 "com/example/outremer_engine/outremerengine/board/Unit" "nation" "Ljava/lang/String;" .null := ((((F94_nation.keep K96c nin0).ext E97).keep K99c nin0).keep K103c (ninS (Nat.ne_of_lt (Nat.lt_of_lt_of_le (A94.keep K96c).lt (Nat.le_of_eq g97.symm))) nin0))
        have F_106 : Fld Z T103.heap b94 "com/example/outremer_engine/outremerengine/board/Unit" "type" "Lcom/example/outremer_engine/outremerengine/board/UnitType;" .null := ((((F94_type.keep K96c nin0).ext E97).keep K99c nin0).keep K103c (ninS (Nat.ne_of_lt (Nat.lt_of_lt_of_le (A94.keep K96c).lt (Nat.le_of_eq g97.symm))) nin0))
        have F_107 : Fld Z T103.heap b94 "com/example/outremer_engine/outremerengine/board/Unit" "place" "Lcom/example/outremer_engine/outremerengine/board/Place;" .null := ((((F94_place.keep K96c nin0).ext E97).keep K99c nin0).keep K103c (ninS (Nat.ne_of_lt (Nat.lt_of_lt_of_le (A94.keep K96c).lt (Nat.le_of_eq g97.symm))) nin0))
        obtain ⟨_, _, ⟨T108, L108, k108, n108⟩, -, X108, ⟨Lc108, hQ108, l108, y108, z108⟩, st108⟩ := X103.specialBack hx (y := (⟨"com/example/outremer_engine/outremerengine/board/Unit", "<init>", "(Ljava/lang/String;Lcom/example/outremer_engine/outremerengine/board/UnitType;Lcom/example/outremer_engine/outremerengine/board/Place;)V"⟩ : MethodName)) rfl hown (mvT hZ (hw _ (List.mem_of_getElem? (i := 53) rfl))) (mvT hZ (hw _ (List.mem_of_getElem? (i := 54) rfl))) (mvT hZ (hw _ (List.mem_of_getElem? (i := 55) rfl))) (by decide) (backOf (W := 1) (rm10 l Z a0 hw [] b94 bx_96 b97 .null .null .null T103.heap n0 Z103 E_104 g_b94 F_105 F_106 F_107) hZ (hw _ (List.mem_of_getElem? (i := 55) rfl)) (hw _ (List.mem_of_getElem? (i := 52) rfl)) (by decide) (by decide)) (g := (mkF m 143 #[.val (.int pp1), .val (.int pp2), .val (.int pp3), .val (.int pp4), .val (.int pp5), .val (.int (0 : Int32)), .val (.int (0 : Int32)), .val (.int (1 : Int32)), .val (.ref b65), .val (.ref b72), .val (.ref b79), .unset, .unset, .unset, .unset, .unset, .unset] [(.ref b97), .null, (.ref bx_96), (.ref b94), (.ref b94)])) rfl (by rw [hml]; rfl) (Steps.refl _) (a := b94) (argsL := [(.ref bx_96), .null, (.ref b97)]) (rest := [(.ref b94)]) (lenOf pd__28_Ljava_2f_lang_2f_String_3b_Lcom_2f_example_2f_outremer_engine_2f_outremerengine_2f_board_2f_UnitType_3b_Lcom_2f_example_2f_outremer_engine_2f_outremerengine_2f_board_2f_Place_3b__29_V rfl) rfl (by show 2 * 0 + _ ≤ _; exact Nat.le_of_eq rfl) (hb hby at_143) (fun _ _ => ⟨rfl, rfl, (by decide : 24 + 0 ≤ _), (by decide : 62 + 0 ≤ _)⟩)
        dsimp only [Pt.U, Pt.locs, Pt.cells, Pt.slots] at X108 l108 y108 z108 st108 hQ108
        subst y108 z108
        obtain ⟨rfl, N108q, K108c, R108_0, R108_1, R108_2⟩ := hQ108
        have N108 : Fr n0 L108 := by rw [l108]; exact Fr.app N103 N108q
        have Z108 : n0 ≤ T108.heap.size := Nat.le_trans Z103 K108c.1
        change Stand _ _ _ _ _ _ _ _ _ _ _ _ 24 62 at X108
        have hc150_2 : ¬ ((1 : Int32) = (0 : Int32)) := by decide
        have O_109 : Old Z n0 T108.heap := (((O_98.keep K99c all0).keep K103c (allS g_b97 all0)).keep K108c (allS g_b94 all0))
        obtain ⟨_, _, ⟨T110, L110, k110, n110⟩, -, X110, ⟨Lc110, hQ110, l110, y110, z110⟩, st110⟩ := Jvm.LawKit.callS X108 hx (y := (⟨"java/util/Optional", "empty", "()Ljava/util/Optional;"⟩ : MethodName)) hown (mvT hZ (hw _ (List.mem_of_getElem? (i := 105) rfl))) (mvT hZ (hw _ (List.mem_of_getElem? (i := 106) rfl))) (mvT hZ (hw _ (List.mem_of_getElem? (i := 107) rfl))) (mvT hZ (hw _ (List.mem_of_getElem? (i := 108) rfl))) (by decide) (backOf (W := 0) (rm17 l Z a0 hw [] op T108.heap n0 Z108 O_109 S_EMPTY) hZ (hw _ (List.mem_of_getElem? (i := 108) rfl)) (hw _ (List.mem_of_getElem? (i := 107) rfl)) (by decide) (by decide)) (g := (mkF m 153 #[.val (.int pp1), .val (.int pp2), .val (.int pp3), .val (.int pp4), .val (.int pp5), .val (.int (0 : Int32)), .val (.int (0 : Int32)), .val (.int (1 : Int32)), .val (.ref b65), .val (.ref b72), .val (.ref b79), .val (.ref b94), .unset, .unset, .unset, .unset, .unset] [])) rfl (by rw [hml]; rfl) (argsL := []) (rest := []) (lenOf pd__28__29_Ljava_2f_util_2f_Optional_3b_ rfl) rfl (by show 2 * 0 + _ ≤ _; exact Nat.le_of_eq rfl) (hb hby at_153) (fun _ _ => ⟨rfl, rfl, (by decide : 24 + 0 ≤ _), (by decide : 62 + 0 ≤ _)⟩)
        dsimp only [Pt.U, Pt.locs, Pt.cells, Pt.slots] at X110 l110 y110 z110 st110 hQ110
        subst y110 z110
        obtain ⟨rfl, N110q, e110⟩ := hQ110
        have N110 : Fr n0 L110 := by rw [l110]; exact Fr.app N108 N110q
        change Stand _ _ _ _ _ _ _ _ _ _ _ _ 24 62 at X110
        obtain ⟨T111, h111, X111, e111, E111, A111, D111, -, st111⟩ := newO X110 hx hZ hown (hw _ (List.mem_of_getElem? (i := 63) rfl)) (hw _ (List.mem_of_getElem? (i := 64) rfl)) (hw _ (List.mem_of_getElem? (i := 65) rfl)) e110 (g := (mkF m 162 #[.val (.int pp1), .val (.int pp2), .val (.int pp3), .val (.int pp4), .val (.int pp5), .val (.int (0 : Int32)), .val (.int (0 : Int32)), .val (.int (1 : Int32)), .val (.ref b65), .val (.ref b72), .val (.ref b79), .val (.ref b94), .val (.ref op), .unset, .unset, .unset, .unset] [])) rfl (hb hby at_162) (by decide) (by decide)
        obtain ⟨b111, g111⟩ : ∃ z, z = T108.heap.size := ⟨_, rfl⟩
        rw [← g111] at A111 D111 st111
        have g_b111 : n0 ≤ b111 := Nat.le_trans Z108 (Nat.le_of_eq g111.symm)
        have Z111 : n0 ≤ h111.size := Nat.le_trans Z108 E111.1
        have F111_unit : Fld Z h111 b111 "com/example/outremer_engine/outremerengine/diplomacy/Order$SupportMove" "unit" "Lcom/example/outremer_engine/outremerengine/board/Unit;" .null := D111 (Or.inr (hw _ (List.mem_of_getElem? (i := 71) rfl))) (ty := (.object "com/example/outremer_engine/outremerengine/board/Unit")) (by decide)
        have F111_supportedType : Fld Z h111 b111 "com/example/outremer_engine/outremerengine/diplomacy/Order$SupportMove" "supportedType" "Ljava/util/Optional;" .null := D111 (Or.inr (hw _ (List.mem_of_getElem? (i := 73) rfl))) (ty := (.object "java/util/Optional")) (by decide)
        have F111_from : Fld Z h111 b111 "com/example/outremer_engine/outremerengine/diplomacy/Order$SupportMove" "from" "Lcom/example/outremer_engine/outremerengine/board/Place;" .null := D111 (Or.inr (hw _ (List.mem_of_getElem? (i := 75) rfl))) (ty := (.object "com/example/outremer_engine/outremerengine/board/Place")) (by decide)
        have F111_to : Fld Z h111 b111 "com/example/outremer_engine/outremerengine/diplomacy/Order$SupportMove" "to" "Lcom/example/outremer_engine/outremerengine/board/Place;" .null := D111 (Or.inr (hw _ (List.mem_of_getElem? (i := 77) rfl))) (ty := (.object "com/example/outremer_engine/outremerengine/board/Place")) (by decide)
        obtain ⟨_, _, ⟨T112, L112, k112, n112⟩, -, X112, ⟨Lc112, hQ112, l112, y112, z112⟩, st112⟩ := X111.specialBack hx (y := (⟨"com/example/outremer_engine/outremerengine/diplomacy/Order$SupportMove", "<init>", "(Lcom/example/outremer_engine/outremerengine/board/Unit;Ljava/util/Optional;Lcom/example/outremer_engine/outremerengine/board/Place;Lcom/example/outremer_engine/outremerengine/board/Place;)V"⟩ : MethodName)) rfl hown (mvT hZ (hw _ (List.mem_of_getElem? (i := 66) rfl))) (mvT hZ (hw _ (List.mem_of_getElem? (i := 67) rfl))) (mvT hZ (hw _ (List.mem_of_getElem? (i := 68) rfl))) (by decide) (backOf (W := 1) (rm11_o l Z a0 hw [] b111 b79 op b65 b72 .null .null .null .null h111 n0 Z111 A111 g_b111 F111_unit F111_supportedType F111_from F111_to) hZ (hw _ (List.mem_of_getElem? (i := 68) rfl)) (hw _ (List.mem_of_getElem? (i := 65) rfl)) (by decide) (by decide)) (g := (mkF m 174 #[.val (.int pp1), .val (.int pp2), .val (.int pp3), .val (.int pp4), .val (.int pp5), .val (.int (0 : Int32)), .val (.int (0 : Int32)), .val (.int (1 : Int32)), .val (.ref b65), .val (.ref b72), .val (.ref b79), .val (.ref b94), .val (.ref op), .unset, .unset, .unset, .unset] [(.ref b72), (.ref b65), (.ref op), (.ref b79), (.ref b111), (.ref b111)])) rfl (by rw [hml]; rfl) (Steps.refl _) (a := b111) (argsL := [(.ref b79), (.ref op), (.ref b65), (.ref b72)]) (rest := [(.ref b111)]) (lenOf pd__28_Lcom_2f_example_2f_outremer_engine_2f_outremerengine_2f_board_2f_Unit_3b_Ljava_2f_util_2f_Optional_3b_Lcom_2f_example_2f_outremer_engine_2f_outremerengine_2f_board_2f_Place_3b_Lcom_2f_example_2f_outremer_engine_2f_outremerengine_2f_board_2f_Place_3b__29_V rfl) rfl (by show 2 * 0 + _ ≤ _; exact Nat.le_of_eq rfl) (hb hby at_174) (fun _ _ => ⟨rfl, e111, (by decide : 25 + 0 ≤ _), (by decide : 66 + 0 ≤ _)⟩)
        dsimp only [Pt.U, Pt.locs, Pt.cells, Pt.slots] at X112 l112 y112 z112 st112 hQ112
        subst y112 z112
        obtain ⟨rfl, N112q, K112c, R112_0, R112_1, R112_2, R112_3⟩ := hQ112
        have N112 : Fr n0 L112 := by rw [l112]; exact Fr.app N110 N112q
        have Z112 : n0 ≤ T112.heap.size := Nat.le_trans Z111 K112c.1
        change Stand _ _ _ _ _ _ _ _ _ _ _ _ 25 66 at X112
        have E_114 : Exa Z T112.heap b111 "com/example/outremer_engine/outremerengine/diplomacy/Order$SupportMove" := (A111.keep K112c)
        obtain ⟨cq113, kq113, q113a, q113b, q113c⟩ := isOf hZ rfl E_114
        obtain ⟨_, _, ⟨T113, L113, k113, n113⟩, -, X113, ⟨Lc113, hQ113, l113, y113, z113⟩, st113⟩ := X112.virtualBack hx (y := (⟨"com/example/outremer_engine/outremerengine/diplomacy/Order$SupportMove", "givenTo", "(Lcom/example/outremer_engine/outremerengine/board/Unit;)Lcom/example/outremer_engine/outremerengine/diplomacy/Order$SupportMove;"⟩ : MethodName)) (z := (⟨"com/example/outremer_engine/outremerengine/diplomacy/Order$SupportMove", "givenTo", "(Lcom/example/outremer_engine/outremerengine/board/Unit;)Lcom/example/outremer_engine/outremerengine/diplomacy/Order$SupportMove;"⟩ : MethodName)) hown (mvT hZ (hw _ (List.mem_of_getElem? (i := 78) rfl))) (mvT hZ (hw _ (List.mem_of_getElem? (i := 79) rfl))) (notFace_of_selects (args := #[]) (mvT hZ (hw _ (List.mem_of_getElem? (i := 81) rfl)))) (mvT hZ (hw _ (List.mem_of_getElem? (i := 81) rfl))) (mvT hZ (hw _ (List.mem_of_getElem? (i := 80) rfl))) (by decide) (backOf (W := 0) (rm12_o l Z a0 hw [] b111 b94 op b65 b72 T112.heap n0 Z112 R112_1 R112_2 R112_3) hZ (hw _ (List.mem_of_getElem? (i := 82) rfl)) (hw _ (List.mem_of_getElem? (i := 65) rfl)) (by decide) (by decide)) q113a q113c (g := (mkF m 183 #[.val (.int pp1), .val (.int pp2), .val (.int pp3), .val (.int pp4), .val (.int pp5), .val (.int (0 : Int32)), .val (.int (0 : Int32)), .val (.int (1 : Int32)), .val (.ref b65), .val (.ref b72), .val (.ref b79), .val (.ref b94), .val (.ref op), .val (.ref b111), .unset, .unset, .unset] [(.ref b94), (.ref b111)])) rfl (by rw [hml]; rfl) (Steps.refl _) (argsL := [(.ref b94)]) (rest := []) (lenOf pd__28_Lcom_2f_example_2f_outremer_engine_2f_outremerengine_2f_board_2f_Unit_3b__29_Lcom_2f_example_2f_outremer_engine_2f_outremerengine_2f_diplomacy_2f_Order_24_SupportMove_3b_ rfl) rfl (by show 2 * 0 + _ ≤ _; exact Nat.le_of_eq rfl) (hb hby at_183) (fun _ _ => ⟨rfl, rfl, (by decide : 25 + 1 ≤ _), (by decide : 66 + 4 ≤ _)⟩)
        dsimp only [Pt.U, Pt.locs, Pt.cells, Pt.slots] at X113 l113 y113 z113 st113 hQ113
        subst y113 z113
        obtain ⟨bx_113, rfl, N113q, K113c, g_bx_113, sb_bx_113, R113_0, R113_1, R113_2, R113_3, R113_4⟩ := hQ113
        have N113 : Fr n0 L113 := by rw [l113]; exact Fr.app N112 N113q
        have Z113 : n0 ≤ T113.heap.size := Nat.le_trans Z112 K113c.1
        change Stand _ _ _ _ _ _ _ _ _ _ _ _ 26 70 at X113
        obtain ⟨cq115, kq115, q115a, q115b, q115c⟩ := isOf hZ rfl R113_0
        obtain ⟨_, _, ⟨T115, L115, k115, n115⟩, -, X115, ⟨Lc115, hQ115, l115, y115, z115⟩, st115⟩ := X113.virtualBack hx (y := (⟨"com/example/outremer_engine/outremerengine/diplomacy/Order$SupportMove", "unit", "()Lcom/example/outremer_engine/outremerengine/board/Unit;"⟩ : MethodName)) (z := (⟨"com/example/outremer_engine/outremerengine/diplomacy/Order$SupportMove", "unit", "()Lcom/example/outremer_engine/outremerengine/board/Unit;"⟩ : MethodName)) hown (mvT hZ (hw _ (List.mem_of_getElem? (i := 85) rfl))) (mvT hZ (hw _ (List.mem_of_getElem? (i := 86) rfl))) (notFace_of_selects (args := #[]) (mvT hZ (hw _ (List.mem_of_getElem? (i := 88) rfl)))) (mvT hZ (hw _ (List.mem_of_getElem? (i := 88) rfl))) (mvT hZ (hw _ (List.mem_of_getElem? (i := 87) rfl))) (by decide) (backOf (W := 0) (rm13 l Z a0 hw [] bx_113 b94 T113.heap n0 Z113 R113_1) hZ (hw _ (List.mem_of_getElem? (i := 89) rfl)) (hw _ (List.mem_of_getElem? (i := 65) rfl)) (by decide) (by decide)) q115a q115c (g := (mkF m 197 #[.val (.int pp1), .val (.int pp2), .val (.int pp3), .val (.int pp4), .val (.int pp5), .val (.int (0 : Int32)), .val (.int (0 : Int32)), .val (.int (1 : Int32)), .val (.ref b65), .val (.ref b72), .val (.ref b79), .val (.ref b94), .val (.ref op), .val (.ref b111), .val (.ref bx_113), .unset, .unset] [(.ref bx_113)])) rfl (by rw [hml]; rfl) (Steps.refl _) (argsL := []) (rest := []) (lenOf pd__28__29_Lcom_2f_example_2f_outremer_engine_2f_outremerengine_2f_board_2f_Unit_3b_ rfl) rfl (by show 2 * 0 + _ ≤ _; exact Nat.le_of_eq rfl) (hb hby at_197) (fun _ _ => ⟨rfl, rfl, (by decide : 26 + 0 ≤ _), (by decide : 70 + 0 ≤ _)⟩)
        dsimp only [Pt.U, Pt.locs, Pt.cells, Pt.slots] at X115 l115 y115 z115 st115 hQ115
        subst y115 z115
        obtain ⟨rfl, N115q, e115⟩ := hQ115
        have N115 : Fr n0 L115 := by rw [l115]; exact Fr.app N113 N115q
        change Stand _ _ _ _ _ _ _ _ _ _ _ _ 26 70 at X115
        obtain ⟨cq116, kq116, q116a, q116b, q116c⟩ := isOf hZ e115 R113_0
        obtain ⟨_, _, ⟨T116, L116, k116, n116⟩, -, X116, ⟨Lc116, hQ116, l116, y116, z116⟩, st116⟩ := X115.virtualBack hx (y := (⟨"com/example/outremer_engine/outremerengine/diplomacy/Order$SupportMove", "supportedType", "()Ljava/util/Optional;"⟩ : MethodName)) (z := (⟨"com/example/outremer_engine/outremerengine/diplomacy/Order$SupportMove", "supportedType", "()Ljava/util/Optional;"⟩ : MethodName)) hown (mvT hZ (hw _ (List.mem_of_getElem? (i := 90) rfl))) (mvT hZ (hw _ (List.mem_of_getElem? (i := 91) rfl))) (notFace_of_selects (args := #[]) (mvT hZ (hw _ (List.mem_of_getElem? (i := 93) rfl)))) (mvT hZ (hw _ (List.mem_of_getElem? (i := 93) rfl))) (mvT hZ (hw _ (List.mem_of_getElem? (i := 92) rfl))) (by decide) (backOf (W := 0) (rm14_o l Z a0 hw [] bx_113 op T113.heap n0 Z113 R113_2) hZ (hw _ (List.mem_of_getElem? (i := 94) rfl)) (hw _ (List.mem_of_getElem? (i := 65) rfl)) (by decide) (by decide)) q116a q116c (g := (mkF m 207 #[.val (.int pp1), .val (.int pp2), .val (.int pp3), .val (.int pp4), .val (.int pp5), .val (.int (0 : Int32)), .val (.int (0 : Int32)), .val (.int (1 : Int32)), .val (.ref b65), .val (.ref b72), .val (.ref b79), .val (.ref b94), .val (.ref op), .val (.ref b111), .val (.ref bx_113), .unset, .unset] [(.ref bx_113)])) rfl (by rw [hml]; rfl) (Steps.refl _) (argsL := []) (rest := []) (lenOf pd__28__29_Ljava_2f_util_2f_Optional_3b_ rfl) rfl (by show 2 * 0 + _ ≤ _; exact Nat.le_of_eq rfl) (hb hby at_207) (fun _ _ => ⟨rfl, e115, (by decide : 26 + 0 ≤ _), (by decide : 70 + 0 ≤ _)⟩)
        dsimp only [Pt.U, Pt.locs, Pt.cells, Pt.slots] at X116 l116 y116 z116 st116 hQ116
        subst y116 z116
        obtain ⟨rfl, N116q, e116⟩ := hQ116
        have N116 : Fr n0 L116 := by rw [l116]; exact Fr.app N115 N116q
        change Stand _ _ _ _ _ _ _ _ _ _ _ _ 26 70 at X116
        obtain ⟨cq117, kq117, q117a, q117b, q117c⟩ := isOf hZ e116 R113_0
        obtain ⟨_, _, ⟨T117, L117, k117, n117⟩, -, X117, ⟨Lc117, hQ117, l117, y117, z117⟩, st117⟩ := X116.virtualBack hx (y := (⟨"com/example/outremer_engine/outremerengine/diplomacy/Order$SupportMove", "from", "()Lcom/example/outremer_engine/outremerengine/board/Place;"⟩ : MethodName)) (z := (⟨"com/example/outremer_engine/outremerengine/diplomacy/Order$SupportMove", "from", "()Lcom/example/outremer_engine/outremerengine/board/Place;"⟩ : MethodName)) hown (mvT hZ (hw _ (List.mem_of_getElem? (i := 95) rfl))) (mvT hZ (hw _ (List.mem_of_getElem? (i := 96) rfl))) (notFace_of_selects (args := #[]) (mvT hZ (hw _ (List.mem_of_getElem? (i := 98) rfl)))) (mvT hZ (hw _ (List.mem_of_getElem? (i := 98) rfl))) (mvT hZ (hw _ (List.mem_of_getElem? (i := 97) rfl))) (by decide) (backOf (W := 0) (rm15 l Z a0 hw [] bx_113 b65 T113.heap n0 Z113 R113_3) hZ (hw _ (List.mem_of_getElem? (i := 99) rfl)) (hw _ (List.mem_of_getElem? (i := 65) rfl)) (by decide) (by decide)) q117a q117c (g := (mkF m 217 #[.val (.int pp1), .val (.int pp2), .val (.int pp3), .val (.int pp4), .val (.int pp5), .val (.int (0 : Int32)), .val (.int (0 : Int32)), .val (.int (1 : Int32)), .val (.ref b65), .val (.ref b72), .val (.ref b79), .val (.ref b94), .val (.ref op), .val (.ref b111), .val (.ref bx_113), .unset, .unset] [(.ref bx_113)])) rfl (by rw [hml]; rfl) (Steps.refl _) (argsL := []) (rest := []) (lenOf pd__28__29_Lcom_2f_example_2f_outremer_engine_2f_outremerengine_2f_board_2f_Place_3b_ rfl) rfl (by show 2 * 0 + _ ≤ _; exact Nat.le_of_eq rfl) (hb hby at_217) (fun _ _ => ⟨rfl, e116, (by decide : 26 + 0 ≤ _), (by decide : 70 + 0 ≤ _)⟩)
        dsimp only [Pt.U, Pt.locs, Pt.cells, Pt.slots] at X117 l117 y117 z117 st117 hQ117
        subst y117 z117
        obtain ⟨rfl, N117q, e117⟩ := hQ117
        have N117 : Fr n0 L117 := by rw [l117]; exact Fr.app N116 N117q
        change Stand _ _ _ _ _ _ _ _ _ _ _ _ 26 70 at X117
        obtain ⟨cq118, kq118, q118a, q118b, q118c⟩ := isOf hZ e117 R113_0
        obtain ⟨_, _, ⟨T118, L118, k118, n118⟩, -, X118, ⟨Lc118, hQ118, l118, y118, z118⟩, st118⟩ := X117.virtualBack hx (y := (⟨"com/example/outremer_engine/outremerengine/diplomacy/Order$SupportMove", "to", "()Lcom/example/outremer_engine/outremerengine/board/Place;"⟩ : MethodName)) (z := (⟨"com/example/outremer_engine/outremerengine/diplomacy/Order$SupportMove", "to", "()Lcom/example/outremer_engine/outremerengine/board/Place;"⟩ : MethodName)) hown (mvT hZ (hw _ (List.mem_of_getElem? (i := 100) rfl))) (mvT hZ (hw _ (List.mem_of_getElem? (i := 101) rfl))) (notFace_of_selects (args := #[]) (mvT hZ (hw _ (List.mem_of_getElem? (i := 103) rfl)))) (mvT hZ (hw _ (List.mem_of_getElem? (i := 103) rfl))) (mvT hZ (hw _ (List.mem_of_getElem? (i := 102) rfl))) (by decide) (backOf (W := 0) (rm16 l Z a0 hw [] bx_113 b72 T113.heap n0 Z113 R113_4) hZ (hw _ (List.mem_of_getElem? (i := 104) rfl)) (hw _ (List.mem_of_getElem? (i := 65) rfl)) (by decide) (by decide)) q118a q118c (g := (mkF m 227 #[.val (.int pp1), .val (.int pp2), .val (.int pp3), .val (.int pp4), .val (.int pp5), .val (.int (0 : Int32)), .val (.int (0 : Int32)), .val (.int (1 : Int32)), .val (.ref b65), .val (.ref b72), .val (.ref b79), .val (.ref b94), .val (.ref op), .val (.ref b111), .val (.ref bx_113), .unset, .unset] [(.ref bx_113)])) rfl (by rw [hml]; rfl) (Steps.refl _) (argsL := []) (rest := []) (lenOf pd__28__29_Lcom_2f_example_2f_outremer_engine_2f_outremerengine_2f_board_2f_Place_3b_ rfl) rfl (by show 2 * 0 + _ ≤ _; exact Nat.le_of_eq rfl) (hb hby at_227) (fun _ _ => ⟨rfl, e117, (by decide : 26 + 0 ≤ _), (by decide : 70 + 0 ≤ _)⟩)
        dsimp only [Pt.U, Pt.locs, Pt.cells, Pt.slots] at X118 l118 y118 z118 st118 hQ118
        subst y118 z118
        obtain ⟨rfl, N118q, e118⟩ := hQ118
        have N118 : Fr n0 L118 := by rw [l118]; exact Fr.app N117 N118q
        change Stand _ _ _ _ _ _ _ _ _ _ _ _ 26 70 at X118
        have F_119 : Fld Z T113.heap b111 "com/example/outremer_engine/outremerengine/diplomacy/Order$SupportMove" "unit" "Lcom/example/outremer_engine/outremerengine/board/Unit;" (.ref b79) := (R112_0.keep K113c nin0)
        have E_121 : Exa Z T113.heap b111 "com/example/outremer_engine/outremerengine/diplomacy/Order$SupportMove" := (E_114.keep K113c)
        obtain ⟨cq120, kq120, q120a, q120b, q120c⟩ := isOf hZ e118 E_121
        obtain ⟨_, _, ⟨T120, L120, k120, n120⟩, -, X120, ⟨Lc120, hQ120, l120, y120, z120⟩, st120⟩ := X118.virtualBack hx (y := (⟨"com/example/outremer_engine/outremerengine/diplomacy/Order$SupportMove", "unit", "()Lcom/example/outremer_engine/outremerengine/board/Unit;"⟩ : MethodName)) (z := (⟨"com/example/outremer_engine/outremerengine/diplomacy/Order$SupportMove", "unit", "()Lcom/example/outremer_engine/outremerengine/board/Unit;"⟩ : MethodName)) hown (mvT hZ (hw _ (List.mem_of_getElem? (i := 85) rfl))) (mvT hZ (hw _ (List.mem_of_getElem? (i := 86) rfl))) (notFace_of_selects (args := #[]) (mvT hZ (hw _ (List.mem_of_getElem? (i := 88) rfl)))) (mvT hZ (hw _ (List.mem_of_getElem? (i := 88) rfl))) (mvT hZ (hw _ (List.mem_of_getElem? (i := 87) rfl))) (by decide) (backOf (W := 0) (rm13 l Z a0 hw [] b111 b79 T113.heap n0 Z113 F_119) hZ (hw _ (List.mem_of_getElem? (i := 89) rfl)) (hw _ (List.mem_of_getElem? (i := 65) rfl)) (by decide) (by decide)) q120a q120c (g := (mkF m 244 #[.val (.int pp1), .val (.int pp2), .val (.int pp3), .val (.int pp4), .val (.int pp5), .val (.int (0 : Int32)), .val (.int (0 : Int32)), .val (.int (1 : Int32)), .val (.ref b65), .val (.ref b72), .val (.ref b79), .val (.ref b94), .val (.ref op), .val (.ref b111), .val (.ref bx_113), .val (.int (1 : Int32)), .unset] [(.ref b111)])) rfl (by rw [hml]; rfl) (Steps.refl _) (argsL := []) (rest := []) (lenOf pd__28__29_Lcom_2f_example_2f_outremer_engine_2f_outremerengine_2f_board_2f_Unit_3b_ rfl) rfl (by show 2 * 0 + _ ≤ _; exact Nat.le_of_eq rfl) (hb hby at_244) (fun _ _ => ⟨rfl, e118, (by decide : 26 + 0 ≤ _), (by decide : 70 + 0 ≤ _)⟩)
        dsimp only [Pt.U, Pt.locs, Pt.cells, Pt.slots] at X120 l120 y120 z120 st120 hQ120
        subst y120 z120
        obtain ⟨rfl, N120q, e120⟩ := hQ120
        have N120 : Fr n0 L120 := by rw [l120]; exact Fr.app N118 N120q
        change Stand _ _ _ _ _ _ _ _ _ _ _ _ 26 70 at X120
        have F_122 : Fld Z T113.heap b111 "com/example/outremer_engine/outremerengine/diplomacy/Order$SupportMove" "supportedType" "Ljava/util/Optional;" (.ref op) := (R112_1.keep K113c nin0)
        obtain ⟨cq123, kq123, q123a, q123b, q123c⟩ := isOf hZ e120 E_121
        obtain ⟨_, _, ⟨T123, L123, k123, n123⟩, -, X123, ⟨Lc123, hQ123, l123, y123, z123⟩, st123⟩ := X120.virtualBack hx (y := (⟨"com/example/outremer_engine/outremerengine/diplomacy/Order$SupportMove", "supportedType", "()Ljava/util/Optional;"⟩ : MethodName)) (z := (⟨"com/example/outremer_engine/outremerengine/diplomacy/Order$SupportMove", "supportedType", "()Ljava/util/Optional;"⟩ : MethodName)) hown (mvT hZ (hw _ (List.mem_of_getElem? (i := 90) rfl))) (mvT hZ (hw _ (List.mem_of_getElem? (i := 91) rfl))) (notFace_of_selects (args := #[]) (mvT hZ (hw _ (List.mem_of_getElem? (i := 93) rfl)))) (mvT hZ (hw _ (List.mem_of_getElem? (i := 93) rfl))) (mvT hZ (hw _ (List.mem_of_getElem? (i := 92) rfl))) (by decide) (backOf (W := 0) (rm14_o l Z a0 hw [] b111 op T113.heap n0 Z113 F_122) hZ (hw _ (List.mem_of_getElem? (i := 94) rfl)) (hw _ (List.mem_of_getElem? (i := 65) rfl)) (by decide) (by decide)) q123a q123c (g := (mkF m 254 #[.val (.int pp1), .val (.int pp2), .val (.int pp3), .val (.int pp4), .val (.int pp5), .val (.int (0 : Int32)), .val (.int (0 : Int32)), .val (.int (1 : Int32)), .val (.ref b65), .val (.ref b72), .val (.ref b79), .val (.ref b94), .val (.ref op), .val (.ref b111), .val (.ref bx_113), .val (.int (1 : Int32)), .unset] [(.ref b111)])) rfl (by rw [hml]; rfl) (Steps.refl _) (argsL := []) (rest := []) (lenOf pd__28__29_Ljava_2f_util_2f_Optional_3b_ rfl) rfl (by show 2 * 0 + _ ≤ _; exact Nat.le_of_eq rfl) (hb hby at_254) (fun _ _ => ⟨rfl, e120, (by decide : 26 + 0 ≤ _), (by decide : 70 + 0 ≤ _)⟩)
        dsimp only [Pt.U, Pt.locs, Pt.cells, Pt.slots] at X123 l123 y123 z123 st123 hQ123
        subst y123 z123
        obtain ⟨rfl, N123q, e123⟩ := hQ123
        have N123 : Fr n0 L123 := by rw [l123]; exact Fr.app N120 N123q
        change Stand _ _ _ _ _ _ _ _ _ _ _ _ 26 70 at X123
        have F_124 : Fld Z T113.heap b111 "com/example/outremer_engine/outremerengine/diplomacy/Order$SupportMove" "from" "Lcom/example/outremer_engine/outremerengine/board/Place;" (.ref b65) := (R112_2.keep K113c nin0)
        obtain ⟨cq125, kq125, q125a, q125b, q125c⟩ := isOf hZ e123 E_121
        obtain ⟨_, _, ⟨T125, L125, k125, n125⟩, -, X125, ⟨Lc125, hQ125, l125, y125, z125⟩, st125⟩ := X123.virtualBack hx (y := (⟨"com/example/outremer_engine/outremerengine/diplomacy/Order$SupportMove", "from", "()Lcom/example/outremer_engine/outremerengine/board/Place;"⟩ : MethodName)) (z := (⟨"com/example/outremer_engine/outremerengine/diplomacy/Order$SupportMove", "from", "()Lcom/example/outremer_engine/outremerengine/board/Place;"⟩ : MethodName)) hown (mvT hZ (hw _ (List.mem_of_getElem? (i := 95) rfl))) (mvT hZ (hw _ (List.mem_of_getElem? (i := 96) rfl))) (notFace_of_selects (args := #[]) (mvT hZ (hw _ (List.mem_of_getElem? (i := 98) rfl)))) (mvT hZ (hw _ (List.mem_of_getElem? (i := 98) rfl))) (mvT hZ (hw _ (List.mem_of_getElem? (i := 97) rfl))) (by decide) (backOf (W := 0) (rm15 l Z a0 hw [] b111 b65 T113.heap n0 Z113 F_124) hZ (hw _ (List.mem_of_getElem? (i := 99) rfl)) (hw _ (List.mem_of_getElem? (i := 65) rfl)) (by decide) (by decide)) q125a q125c (g := (mkF m 264 #[.val (.int pp1), .val (.int pp2), .val (.int pp3), .val (.int pp4), .val (.int pp5), .val (.int (0 : Int32)), .val (.int (0 : Int32)), .val (.int (1 : Int32)), .val (.ref b65), .val (.ref b72), .val (.ref b79), .val (.ref b94), .val (.ref op), .val (.ref b111), .val (.ref bx_113), .val (.int (1 : Int32)), .unset] [(.ref b111)])) rfl (by rw [hml]; rfl) (Steps.refl _) (argsL := []) (rest := []) (lenOf pd__28__29_Lcom_2f_example_2f_outremer_engine_2f_outremerengine_2f_board_2f_Place_3b_ rfl) rfl (by show 2 * 0 + _ ≤ _; exact Nat.le_of_eq rfl) (hb hby at_264) (fun _ _ => ⟨rfl, e123, (by decide : 26 + 0 ≤ _), (by decide : 70 + 0 ≤ _)⟩)
        dsimp only [Pt.U, Pt.locs, Pt.cells, Pt.slots] at X125 l125 y125 z125 st125 hQ125
        subst y125 z125
        obtain ⟨rfl, N125q, e125⟩ := hQ125
        have N125 : Fr n0 L125 := by rw [l125]; exact Fr.app N123 N125q
        change Stand _ _ _ _ _ _ _ _ _ _ _ _ 26 70 at X125
        have F_126 : Fld Z T113.heap b111 "com/example/outremer_engine/outremerengine/diplomacy/Order$SupportMove" "to" "Lcom/example/outremer_engine/outremerengine/board/Place;" (.ref b72) := (R112_3.keep K113c nin0)
        obtain ⟨cq127, kq127, q127a, q127b, q127c⟩ := isOf hZ e125 E_121
        obtain ⟨_, _, ⟨T127, L127, k127, n127⟩, -, X127, ⟨Lc127, hQ127, l127, y127, z127⟩, st127⟩ := X125.virtualBack hx (y := (⟨"com/example/outremer_engine/outremerengine/diplomacy/Order$SupportMove", "to", "()Lcom/example/outremer_engine/outremerengine/board/Place;"⟩ : MethodName)) (z := (⟨"com/example/outremer_engine/outremerengine/diplomacy/Order$SupportMove", "to", "()Lcom/example/outremer_engine/outremerengine/board/Place;"⟩ : MethodName)) hown (mvT hZ (hw _ (List.mem_of_getElem? (i := 100) rfl))) (mvT hZ (hw _ (List.mem_of_getElem? (i := 101) rfl))) (notFace_of_selects (args := #[]) (mvT hZ (hw _ (List.mem_of_getElem? (i := 103) rfl)))) (mvT hZ (hw _ (List.mem_of_getElem? (i := 103) rfl))) (mvT hZ (hw _ (List.mem_of_getElem? (i := 102) rfl))) (by decide) (backOf (W := 0) (rm16 l Z a0 hw [] b111 b72 T113.heap n0 Z113 F_126) hZ (hw _ (List.mem_of_getElem? (i := 104) rfl)) (hw _ (List.mem_of_getElem? (i := 65) rfl)) (by decide) (by decide)) q127a q127c (g := (mkF m 274 #[.val (.int pp1), .val (.int pp2), .val (.int pp3), .val (.int pp4), .val (.int pp5), .val (.int (0 : Int32)), .val (.int (0 : Int32)), .val (.int (1 : Int32)), .val (.ref b65), .val (.ref b72), .val (.ref b79), .val (.ref b94), .val (.ref op), .val (.ref b111), .val (.ref bx_113), .val (.int (1 : Int32)), .unset] [(.ref b111)])) rfl (by rw [hml]; rfl) (Steps.refl _) (argsL := []) (rest := []) (lenOf pd__28__29_Lcom_2f_example_2f_outremer_engine_2f_outremerengine_2f_board_2f_Place_3b_ rfl) rfl (by show 2 * 0 + _ ≤ _; exact Nat.le_of_eq rfl) (hb hby at_274) (fun _ _ => ⟨rfl, e125, (by decide : 26 + 0 ≤ _), (by decide : 70 + 0 ≤ _)⟩)
        dsimp only [Pt.U, Pt.locs, Pt.cells, Pt.slots] at X127 l127 y127 z127 st127 hQ127
        subst y127 z127
        obtain ⟨rfl, N127q, e127⟩ := hQ127
        have N127 : Fr n0 L127 := by rw [l127]; exact Fr.app N125 N127q
        change Stand _ _ _ _ _ _ _ _ _ _ _ _ 26 70 at X127
        have hc291_2 : ¬ ((1 : Int32) = (0 : Int32)) := by decide
        have hc296_2 : ¬ ((1 : Int32) = (0 : Int32)) := by decide
        obtain ⟨fs, hr, hrun, hended, hW, hsame⟩ := X127.leave (v := some (.int (1 : Int32))) (fun h => by rw [Bd.returns] at h; cases h)
        refine ⟨_, _, pre3 _ ?_, hrun, hended, _, _, rfl, ?_, ⟨_, rfl⟩, hW, hsame.mono (by decide) (by decide)⟩
        · show Steps p.tables e below (s₁.setTop (mkF m 32 #[.val (.int pp1), .val (.int pp2), .val (.int pp3), .val (.int pp4), .val (.int pp5), .val (.int (0 : Int32)), .val (.int (0 : Int32)), .unset, .unset, .unset, .unset, .unset, .unset, .unset, .unset, .unset, .unset] [(.int (pp5 &&& (4 : Int32)))])) _
          refine XS.ifNo X0.here hx rfl (hb hby at_32) rfl ((if0 _ _).trans (feq hc32).1) ?_
          refine XS.iconst X0.here hx rfl (hb hby at_35) ?_
          refine XS.goto X0.here hx rfl (pc0 := 36) (pc' := 40) rfl (hb hby at_36) (by decide) (by decide) ?_
          refine XS.istore X0.here hx rfl (hb hby at_40) rfl (l' := #[.val (.int pp1), .val (.int pp2), .val (.int pp3), .val (.int pp4), .val (.int pp5), .val (.int (0 : Int32)), .val (.int (0 : Int32)), .val (.int (1 : Int32)), .unset, .unset, .unset, .unset, .unset, .unset, .unset, .unset, .unset]) rfl ?_
          refine st65 _ ?_
          refine XS.dup X65.here hx rfl (hb hby at_45) rfl rfl ?_
          refine XS.aconstNull X65.here hx rfl (hb hby at_46) ?_
          refine XS.iloadN X65.here hx rfl (hb hby at_47) rfl ?_
          refine st67 _ ?_
          refine st71.trans ?_
          refine XS.astore X71.here hx rfl (hb hby at_54) rfl rfl (l' := #[.val (.int pp1), .val (.int pp2), .val (.int pp3), .val (.int pp4), .val (.int pp5), .val (.int (0 : Int32)), .val (.int (0 : Int32)), .val (.int (1 : Int32)), .val (.ref b65), .unset, .unset, .unset, .unset, .unset, .unset, .unset, .unset]) rfl ?_
          refine XS.iload X71.here hx rfl (hb hby at_56) rfl ?_
          refine XS.ifYes X71.here hx rfl (pc0 := 58) (pc' := 66) rfl (hb hby at_58) rfl ((if0 _ _).trans (teq hc58_2).1) (by decide) (by decide) ?_
          refine st72 _ ?_
          refine XS.dup X72.here hx rfl (hb hby at_69) rfl rfl ?_
          refine XS.aconstNull X72.here hx rfl (hb hby at_70) ?_
          refine XS.iloadN X72.here hx rfl (hb hby at_71) rfl ?_
          refine st74 _ ?_
          refine st78.trans ?_
          refine XS.astore X78.here hx rfl (hb hby at_78) rfl rfl (l' := #[.val (.int pp1), .val (.int pp2), .val (.int pp3), .val (.int pp4), .val (.int pp5), .val (.int (0 : Int32)), .val (.int (0 : Int32)), .val (.int (1 : Int32)), .val (.ref b65), .val (.ref b72), .unset, .unset, .unset, .unset, .unset, .unset, .unset]) rfl ?_
          refine st79 _ ?_
          refine XS.dup X79.here hx rfl (hb hby at_83) rfl rfl ?_
          refine XS.iloadN X79.here hx rfl (hb hby at_84) rfl ?_
          refine st81 _ ?_
          refine XS.aconstNull X81.here hx rfl (hb hby at_88) ?_
          refine st82 _ ?_
          refine XS.dup X82.here hx rfl (hb hby at_92) rfl rfl ?_
          refine XS.aconstNull X82.here hx rfl (hb hby at_93) ?_
          refine XS.iloadN X82.here hx rfl (hb hby at_94) rfl ?_
          refine XS.bipush X82.here hx rfl (hb hby at_95) ?_
          refine XS.iushr X82.here hx rfl (hb hby at_97) rfl ?_
          refine st84 _ ?_
          refine st88.trans ?_
          refine st93.trans ?_
          refine XS.astore X93.here hx rfl (hb hby at_107) rfl rfl (l' := #[.val (.int pp1), .val (.int pp2), .val (.int pp3), .val (.int pp4), .val (.int pp5), .val (.int (0 : Int32)), .val (.int (0 : Int32)), .val (.int (1 : Int32)), .val (.ref b65), .val (.ref b72), .val (.ref b79), .unset, .unset, .unset, .unset, .unset, .unset]) rfl ?_
          refine XS.iload X93.here hx rfl (hb hby at_109) rfl ?_
          refine XS.ifYes X93.here hx rfl (pc0 := 111) (pc' := 119) rfl (hb hby at_111) rfl ((if0 _ _).trans (teq hc111_2).1) (by decide) (by decide) ?_
          refine st94 _ ?_
          refine XS.dup X94.here hx rfl (hb hby at_122) rfl rfl ?_
          refine XS.iloadN X94.here hx rfl (hb hby at_123) rfl ?_
          refine st96 _ ?_
          refine XS.aconstNull X96.here hx rfl (hb hby at_127) ?_
          refine st97 _ ?_
          refine XS.dup X97.here hx rfl (hb hby at_131) rfl rfl ?_
          refine XS.aconstNull X97.here hx rfl (hb hby at_132) ?_
          refine XS.iloadN X97.here hx rfl (hb hby at_133) rfl ?_
          refine XS.bipush X97.here hx rfl (hb hby at_134) ?_
          refine XS.iushr X97.here hx rfl (hb hby at_136) rfl ?_
          refine st99 _ ?_
          refine st103.trans ?_
          refine st108.trans ?_
          refine XS.astore X108.here hx rfl (hb hby at_146) rfl rfl (l' := #[.val (.int pp1), .val (.int pp2), .val (.int pp3), .val (.int pp4), .val (.int pp5), .val (.int (0 : Int32)), .val (.int (0 : Int32)), .val (.int (1 : Int32)), .val (.ref b65), .val (.ref b72), .val (.ref b79), .val (.ref b94), .unset, .unset, .unset, .unset, .unset]) rfl ?_
          refine XS.iload X108.here hx rfl (hb hby at_148) rfl ?_
          refine XS.ifNo X108.here hx rfl (hb hby at_150) rfl ((if0 _ _).trans (feq hc150_2).1) ?_
          refine st110 _ ?_
          refine XS.goto X110.here hx rfl (pc0 := 156) (pc' := 160) rfl (hb hby at_156) (by decide) (by decide) ?_
          refine XS.astore X110.here hx rfl (hb hby at_160) rfl rfl (l' := #[.val (.int pp1), .val (.int pp2), .val (.int pp3), .val (.int pp4), .val (.int pp5), .val (.int (0 : Int32)), .val (.int (0 : Int32)), .val (.int (1 : Int32)), .val (.ref b65), .val (.ref b72), .val (.ref b79), .val (.ref b94), .val (.ref op), .unset, .unset, .unset, .unset]) rfl ?_
          refine st111 _ ?_
          refine XS.dup X111.here hx rfl (hb hby at_165) rfl rfl ?_
          refine XS.aload X111.here hx rfl (hb hby at_166) rfl rfl ?_
          refine XS.aload X111.here hx rfl (hb hby at_168) rfl rfl ?_
          refine XS.aload X111.here hx rfl (hb hby at_170) rfl rfl ?_
          refine XS.aload X111.here hx rfl (hb hby at_172) rfl rfl ?_
          refine st112.trans ?_
          refine XS.astore X112.here hx rfl (hb hby at_177) rfl rfl (l' := #[.val (.int pp1), .val (.int pp2), .val (.int pp3), .val (.int pp4), .val (.int pp5), .val (.int (0 : Int32)), .val (.int (0 : Int32)), .val (.int (1 : Int32)), .val (.ref b65), .val (.ref b72), .val (.ref b79), .val (.ref b94), .val (.ref op), .val (.ref b111), .unset, .unset, .unset]) rfl ?_
          refine XS.aload X112.here hx rfl (hb hby at_179) rfl rfl ?_
          refine XS.aload X112.here hx rfl (hb hby at_181) rfl rfl ?_
          refine st113.trans ?_
          refine XS.astore X113.here hx rfl (hb hby at_186) rfl rfl (l' := #[.val (.int pp1), .val (.int pp2), .val (.int pp3), .val (.int pp4), .val (.int pp5), .val (.int (0 : Int32)), .val (.int (0 : Int32)), .val (.int (1 : Int32)), .val (.ref b65), .val (.ref b72), .val (.ref b79), .val (.ref b94), .val (.ref op), .val (.ref b111), .val (.ref bx_113), .unset, .unset]) rfl ?_
          refine XS.aload X113.here hx rfl (hb hby at_188) rfl rfl ?_
          refine XS.ifnonnullYes X113.here hx rfl (pc0 := 190) (pc' := 195) rfl (hb hby at_190) rfl (by decide) (by decide) ?_
          refine XS.aload X113.here hx rfl (hb hby at_195) rfl rfl ?_
          refine st115.trans ?_
          refine XS.aload X115.here hx rfl (hb hby at_200) rfl rfl ?_
          refine Jvm.RoadKit.acmp (g := (mkF m 202 #[.val (.int pp1), .val (.int pp2), .val (.int pp3), .val (.int pp4), .val (.int pp5), .val (.int (0 : Int32)), .val (.int (0 : Int32)), .val (.int (1 : Int32)), .val (.ref b65), .val (.ref b72), .val (.ref b79), .val (.ref b94), .val (.ref op), .val (.ref b111), .val (.ref bx_113), .unset, .unset] [(.ref b94), (.ref b94)])) X115 hx rfl rfl rfl (pc0 := 202) (pc' := 205) (same := true) rfl (hb hby at_202) rfl (decide_eq_true rfl) (by decide) (by decide) ?_
          refine XS.aload X115.here hx rfl (hb hby at_205) rfl rfl ?_
          refine st116.trans ?_
          refine XS.aload X116.here hx rfl (hb hby at_210) rfl rfl ?_
          refine Jvm.RoadKit.acmp (g := (mkF m 212 #[.val (.int pp1), .val (.int pp2), .val (.int pp3), .val (.int pp4), .val (.int pp5), .val (.int (0 : Int32)), .val (.int (0 : Int32)), .val (.int (1 : Int32)), .val (.ref b65), .val (.ref b72), .val (.ref b79), .val (.ref b94), .val (.ref op), .val (.ref b111), .val (.ref bx_113), .unset, .unset] [(.ref op), (.ref op)])) X116 hx rfl rfl rfl (pc0 := 212) (pc' := 215) (same := true) rfl (hb hby at_212) rfl (decide_eq_true rfl) (by decide) (by decide) ?_
          refine XS.aload X116.here hx rfl (hb hby at_215) rfl rfl ?_
          refine st117.trans ?_
          refine XS.aload X117.here hx rfl (hb hby at_220) rfl rfl ?_
          refine Jvm.RoadKit.acmp (g := (mkF m 222 #[.val (.int pp1), .val (.int pp2), .val (.int pp3), .val (.int pp4), .val (.int pp5), .val (.int (0 : Int32)), .val (.int (0 : Int32)), .val (.int (1 : Int32)), .val (.ref b65), .val (.ref b72), .val (.ref b79), .val (.ref b94), .val (.ref op), .val (.ref b111), .val (.ref bx_113), .unset, .unset] [(.ref b65), (.ref b65)])) X117 hx rfl rfl rfl (pc0 := 222) (pc' := 225) (same := true) rfl (hb hby at_222) rfl (decide_eq_true rfl) (by decide) (by decide) ?_
          refine XS.aload X117.here hx rfl (hb hby at_225) rfl rfl ?_
          refine st118.trans ?_
          refine XS.aload X118.here hx rfl (hb hby at_230) rfl rfl ?_
          refine Jvm.RoadKit.acmp (g := (mkF m 232 #[.val (.int pp1), .val (.int pp2), .val (.int pp3), .val (.int pp4), .val (.int pp5), .val (.int (0 : Int32)), .val (.int (0 : Int32)), .val (.int (1 : Int32)), .val (.ref b65), .val (.ref b72), .val (.ref b79), .val (.ref b94), .val (.ref op), .val (.ref b111), .val (.ref bx_113), .unset, .unset] [(.ref b72), (.ref b72)])) X118 hx rfl rfl rfl (pc0 := 232) (pc' := 235) (same := true) rfl (hb hby at_232) rfl (decide_eq_true rfl) (by decide) (by decide) ?_
          refine XS.iconst X118.here hx rfl (hb hby at_235) ?_
          refine XS.goto X118.here hx rfl (pc0 := 236) (pc' := 240) rfl (hb hby at_236) (by decide) (by decide) ?_
          refine XS.istore X118.here hx rfl (hb hby at_240) rfl (l' := #[.val (.int pp1), .val (.int pp2), .val (.int pp3), .val (.int pp4), .val (.int pp5), .val (.int (0 : Int32)), .val (.int (0 : Int32)), .val (.int (1 : Int32)), .val (.ref b65), .val (.ref b72), .val (.ref b79), .val (.ref b94), .val (.ref op), .val (.ref b111), .val (.ref bx_113), .val (.int (1 : Int32)), .unset]) rfl ?_
          refine XS.aload X118.here hx rfl (hb hby at_242) rfl rfl ?_
          refine st120.trans ?_
          refine XS.aload X120.here hx rfl (hb hby at_247) rfl rfl ?_
          refine Jvm.RoadKit.acmp (g := (mkF m 249 #[.val (.int pp1), .val (.int pp2), .val (.int pp3), .val (.int pp4), .val (.int pp5), .val (.int (0 : Int32)), .val (.int (0 : Int32)), .val (.int (1 : Int32)), .val (.ref b65), .val (.ref b72), .val (.ref b79), .val (.ref b94), .val (.ref op), .val (.ref b111), .val (.ref bx_113), .val (.int (1 : Int32)), .unset] [(.ref b79), (.ref b79)])) X120 hx rfl rfl rfl (pc0 := 249) (pc' := 252) (same := true) rfl (hb hby at_249) rfl (decide_eq_true rfl) (by decide) (by decide) ?_
          refine XS.aload X120.here hx rfl (hb hby at_252) rfl rfl ?_
          refine st123.trans ?_
          refine XS.aload X123.here hx rfl (hb hby at_257) rfl rfl ?_
          refine Jvm.RoadKit.acmp (g := (mkF m 259 #[.val (.int pp1), .val (.int pp2), .val (.int pp3), .val (.int pp4), .val (.int pp5), .val (.int (0 : Int32)), .val (.int (0 : Int32)), .val (.int (1 : Int32)), .val (.ref b65), .val (.ref b72), .val (.ref b79), .val (.ref b94), .val (.ref op), .val (.ref b111), .val (.ref bx_113), .val (.int (1 : Int32)), .unset] [(.ref op), (.ref op)])) X123 hx rfl rfl rfl (pc0 := 259) (pc' := 262) (same := true) rfl (hb hby at_259) rfl (decide_eq_true rfl) (by decide) (by decide) ?_
          refine XS.aload X123.here hx rfl (hb hby at_262) rfl rfl ?_
          refine st125.trans ?_
          refine XS.aload X125.here hx rfl (hb hby at_267) rfl rfl ?_
          refine Jvm.RoadKit.acmp (g := (mkF m 269 #[.val (.int pp1), .val (.int pp2), .val (.int pp3), .val (.int pp4), .val (.int pp5), .val (.int (0 : Int32)), .val (.int (0 : Int32)), .val (.int (1 : Int32)), .val (.ref b65), .val (.ref b72), .val (.ref b79), .val (.ref b94), .val (.ref op), .val (.ref b111), .val (.ref bx_113), .val (.int (1 : Int32)), .unset] [(.ref b65), (.ref b65)])) X125 hx rfl rfl rfl (pc0 := 269) (pc' := 272) (same := true) rfl (hb hby at_269) rfl (decide_eq_true rfl) (by decide) (by decide) ?_
          refine XS.aload X125.here hx rfl (hb hby at_272) rfl rfl ?_
          refine st127.trans ?_
          refine XS.aload X127.here hx rfl (hb hby at_277) rfl rfl ?_
          refine Jvm.RoadKit.acmp (g := (mkF m 279 #[.val (.int pp1), .val (.int pp2), .val (.int pp3), .val (.int pp4), .val (.int pp5), .val (.int (0 : Int32)), .val (.int (0 : Int32)), .val (.int (1 : Int32)), .val (.ref b65), .val (.ref b72), .val (.ref b79), .val (.ref b94), .val (.ref op), .val (.ref b111), .val (.ref bx_113), .val (.int (1 : Int32)), .unset] [(.ref b72), (.ref b72)])) X127 hx rfl rfl rfl (pc0 := 279) (pc' := 282) (same := true) rfl (hb hby at_279) rfl (decide_eq_true rfl) (by decide) (by decide) ?_
          refine XS.iconst X127.here hx rfl (hb hby at_282) ?_
          refine XS.goto X127.here hx rfl (pc0 := 283) (pc' := 287) rfl (hb hby at_283) (by decide) (by decide) ?_
          refine XS.istore X127.here hx rfl (hb hby at_287) rfl (l' := #[.val (.int pp1), .val (.int pp2), .val (.int pp3), .val (.int pp4), .val (.int pp5), .val (.int (0 : Int32)), .val (.int (0 : Int32)), .val (.int (1 : Int32)), .val (.ref b65), .val (.ref b72), .val (.ref b79), .val (.ref b94), .val (.ref op), .val (.ref b111), .val (.ref bx_113), .val (.int (1 : Int32)), .val (.int (1 : Int32))]) rfl ?_
          refine XS.iload X127.here hx rfl (hb hby at_289) rfl ?_
          refine XS.ifNo X127.here hx rfl (hb hby at_291) rfl ((if0 _ _).trans (feq hc291_2).1) ?_
          refine XS.iload X127.here hx rfl (hb hby at_294) rfl ?_
          refine XS.ifNo X127.here hx rfl (hb hby at_296) rfl ((if0 _ _).trans (feq hc296_2).1) ?_
          refine XS.iconst X127.here hx rfl (hb hby at_299) ?_
          refine XS.goto X127.here hx rfl (pc0 := 300) (pc' := 304) rfl (hb hby at_300) (by decide) (by decide) ?_
          exact retN X127 hx (t := .boolean) Bd.returns (by simp) (hb hby at_304) hr
        · show Q0 Z pp1 pp2 pp3 pp4 pp5 cs op h0 n0 _ T127.heap _
          rw [e127]
          exact ⟨rfl, N127⟩
    · skip
      have pre128 : ∀ t, Steps p.tables e below (s₁.setTop (mkF m 32 #[.val (.int pp1), .val (.int pp2), .val (.int pp3), .val (.int pp4), .val (.int pp5), .val (.int (0 : Int32)), .val (.int (1 : Int32)), .unset, .unset, .unset, .unset, .unset, .unset, .unset, .unset, .unset, .unset] [(.int (pp5 &&& (4 : Int32)))])) t → Steps p.tables e below (s₁.setTop (entryFrame m #[(.int pp1), (.int pp2), (.int pp3), (.int pp4), (.int pp5)] maxLocals)) t := fun t kt => pre2 t (by
        refine XS.ifNo X0.here hx rfl (hb hby at_18) rfl ((if0 _ _).trans (feq hc18).1) ?_
        refine XS.iconst X0.here hx rfl (hb hby at_21) ?_
        refine XS.goto X0.here hx rfl (pc0 := 22) (pc' := 26) rfl (hb hby at_22) (by decide) (by decide) ?_
        refine XS.istore X0.here hx rfl (hb hby at_26) rfl (l' := #[.val (.int pp1), .val (.int pp2), .val (.int pp3), .val (.int pp4), .val (.int pp5), .val (.int (0 : Int32)), .val (.int (1 : Int32)), .unset, .unset, .unset, .unset, .unset, .unset, .unset, .unset, .unset, .unset]) rfl ?_
        refine XS.iload X0.here hx rfl (hb hby at_28) rfl ?_
        refine XS.iconst X0.here hx rfl (hb hby at_30) ?_
        refine XS.iand X0.here hx rfl (hb hby at_31) rfl ?_
        exact kt)
      by_cases hc32_2 : (pp5 &&& (4 : Int32)) = (0 : Int32)
      · skip
        obtain ⟨T129, h129, X129, e129, E129, A129, D129, -, st129⟩ := newO X0 hx hZ hown (hw _ (List.mem_of_getElem? (i := 0) rfl)) (hw _ (List.mem_of_getElem? (i := 1) rfl)) (hw _ (List.mem_of_getElem? (i := 2) rfl)) e0 (g := (mkF m 42 #[.val (.int pp1), .val (.int pp2), .val (.int pp3), .val (.int pp4), .val (.int pp5), .val (.int (0 : Int32)), .val (.int (1 : Int32)), .val (.int (0 : Int32)), .unset, .unset, .unset, .unset, .unset, .unset, .unset, .unset, .unset] [])) rfl (hb hby at_42) (by decide) (by decide)
        obtain ⟨b129, g129⟩ : ∃ z, z = h0.size := ⟨_, rfl⟩
        rw [← g129] at A129 D129 st129
        have g_b129 : n0 ≤ b129 := Nat.le_trans Z0 (Nat.le_of_eq g129.symm)
        have Z129 : n0 ≤ h129.size := Nat.le_trans Z0 E129.1
        have F129_province : Fld Z h129 b129 "com/example/outremer_engine/outremerengine/board/Place" "province" "Lcom/example/outremer_engine/outremerengine/board/Province;" .null := D129 (Or.inr (hw _ (List.mem_of_getElem? (i := 47) rfl))) (ty := (.object "com/example/outremer_engine/outremerengine/board/Province")) (by decide)
        have F129_coast : Fld Z h129 b129 "com/example/outremer_engine/outremerengine/board/Place" "coast" "Ljava/lang/String;" .null := D129 (Or.inr (hw _ (List.mem_of_getElem? (i := 49) rfl))) (ty := (.object "java/lang/String")) (by decide)
        have O_130 : Old Z n0 h129 := (O0.ext E129)
        obtain ⟨_, _, ⟨T131, L131, k131, n131⟩, -, X131, ⟨Lc131, hQ131, l131, y131, z131⟩, st131⟩ := Jvm.LawKit.callS X129 hx (y := (⟨"com/example/outremer_engine/outremerengine/diplomacy/SupportMoveGivenToPinLaw", "drawn", "(I)Ljava/lang/String;"⟩ : MethodName)) hown (mvT hZ (hw _ (List.mem_of_getElem? (i := 3) rfl))) (mvT hZ (hw _ (List.mem_of_getElem? (i := 4) rfl))) (mvT hZ (hw _ (List.mem_of_getElem? (i := 5) rfl))) (mvT hZ (hw _ (List.mem_of_getElem? (i := 6) rfl))) (by decide) (backOf (W := 3) (rm1 l Z a0 hw [] pp3 cs h129 n0 Z129 O_130 S_COMPACT_STRINGS (show ¬ cs = (0 : Int32) from hcs)) hZ (hw _ (List.mem_of_getElem? (i := 6) rfl)) (hw _ (List.mem_of_getElem? (i := 5) rfl)) (by decide) (by decide)) (g := (mkF m 48 #[.val (.int pp1), .val (.int pp2), .val (.int pp3), .val (.int pp4), .val (.int pp5), .val (.int (0 : Int32)), .val (.int (1 : Int32)), .val (.int (0 : Int32)), .unset, .unset, .unset, .unset, .unset, .unset, .unset, .unset, .unset] [(.int pp3), .null, (.ref b129), (.ref b129)])) rfl (by rw [hml]; rfl) (argsL := [(.int pp3)]) (rest := [.null, (.ref b129), (.ref b129)]) (lenOf pd__28_I_29_Ljava_2f_lang_2f_String_3b_ rfl) rfl (by show 2 * 0 + _ ≤ _; exact Nat.le_of_eq rfl) (hb hby at_48) (fun _ _ => ⟨rfl, e129, (by decide : 1 + 3 ≤ _), (by decide : 2 + 8 ≤ _)⟩)
        dsimp only [Pt.U, Pt.locs, Pt.cells, Pt.slots] at X131 l131 y131 z131 st131 hQ131
        subst y131 z131
        obtain ⟨bx_131, rfl, N131q, K131c, g_bx_131, sb_bx_131⟩ := hQ131
        have N131 : Fr n0 L131 := by rw [l131]; exact Fr.app N0 N131q
        have Z131 : n0 ≤ T131.heap.size := Nat.le_trans Z129 K131c.1
        change Stand _ _ _ _ _ _ _ _ _ _ _ _ 4 10 at X131
        have E_132 : Exa Z T131.heap b129 "com/example/outremer_engine/outremerengine/board/Place" := (A129.keep K131c)
        have F_133 : Fld Z T131.heap b129 "com/example/outremer_engine/outremerengine/board/Place" "province" "Lcom/example/outremer_engine/outremerengine/board/Province;" .null := (F129_province.keep K131c nin0)
        have F_134 : Fld Z T131.heap b129 "com/example/outremer_engine/outremerengine/board/Place" "coast" "Ljava/lang/String;" .null := (F129_coast.keep K131c nin0)
        obtain ⟨_, _, ⟨T135, L135, k135, n135⟩, -, X135, ⟨Lc135, hQ135, l135, y135, z135⟩, st135⟩ := X131.specialBack hx (y := (⟨"com/example/outremer_engine/outremerengine/board/Place", "<init>", "(Lcom/example/outremer_engine/outremerengine/board/Province;Ljava/lang/String;)V"⟩ : MethodName)) rfl hown (mvT hZ (hw _ (List.mem_of_getElem? (i := 37) rfl))) (mvT hZ (hw _ (List.mem_of_getElem? (i := 38) rfl))) (mvT hZ (hw _ (List.mem_of_getElem? (i := 39) rfl))) (by decide) (backOf (W := 1) (rm8 l Z a0 hw [] b129 bx_131 .null .null T131.heap n0 Z131 E_132 g_b129 F_133 F_134) hZ (hw _ (List.mem_of_getElem? (i := 39) rfl)) (hw _ (List.mem_of_getElem? (i := 2) rfl)) (by decide) (by decide)) (g := (mkF m 51 #[.val (.int pp1), .val (.int pp2), .val (.int pp3), .val (.int pp4), .val (.int pp5), .val (.int (0 : Int32)), .val (.int (1 : Int32)), .val (.int (0 : Int32)), .unset, .unset, .unset, .unset, .unset, .unset, .unset, .unset, .unset] [(.ref bx_131), .null, (.ref b129), (.ref b129)])) rfl (by rw [hml]; rfl) (Steps.refl _) (a := b129) (argsL := [.null, (.ref bx_131)]) (rest := [(.ref b129)]) (lenOf pd__28_Lcom_2f_example_2f_outremer_engine_2f_outremerengine_2f_board_2f_Province_3b_Ljava_2f_lang_2f_String_3b__29_V rfl) rfl (by show 2 * 0 + _ ≤ _; exact Nat.le_of_eq rfl) (hb hby at_51) (fun _ _ => ⟨rfl, rfl, (by decide : 4 + 0 ≤ _), (by decide : 10 + 0 ≤ _)⟩)
        dsimp only [Pt.U, Pt.locs, Pt.cells, Pt.slots] at X135 l135 y135 z135 st135 hQ135
        subst y135 z135
        obtain ⟨rfl, N135q, K135c, R135_0, R135_1⟩ := hQ135
        have N135 : Fr n0 L135 := by rw [l135]; exact Fr.app N131 N135q
        have Z135 : n0 ≤ T135.heap.size := Nat.le_trans Z131 K135c.1
        change Stand _ _ _ _ _ _ _ _ _ _ _ _ 4 10 at X135
        have hc58_3 : ¬ ((1 : Int32) = (0 : Int32)) := by decide
        obtain ⟨T136, h136, X136, e136, E136, A136, D136, -, st136⟩ := newO X135 hx hZ hown (hw _ (List.mem_of_getElem? (i := 50) rfl)) (hw _ (List.mem_of_getElem? (i := 51) rfl)) (hw _ (List.mem_of_getElem? (i := 52) rfl)) rfl (g := (mkF m 80 #[.val (.int pp1), .val (.int pp2), .val (.int pp3), .val (.int pp4), .val (.int pp5), .val (.int (0 : Int32)), .val (.int (1 : Int32)), .val (.int (0 : Int32)), .val (.ref b129), .val (.ref b129), .unset, .unset, .unset, .unset, .unset, .unset, .unset] [])) rfl (hb hby at_80) (by decide) (by decide)
        obtain ⟨b136, g136⟩ : ∃ z, z = T135.heap.size := ⟨_, rfl⟩
        rw [← g136] at A136 D136 st136
        have g_b136 : n0 ≤ b136 := Nat.le_trans Z135 (Nat.le_of_eq g136.symm)
        have Z136 : n0 ≤ h136.size := Nat.le_trans Z135 E136.1
        have F136_nation : Fld Z h136 b136 "com/example/outremer_engine/outremerengine/board/Unit" "nation" "Ljava/lang/String;" .null := D136 (Or.inr (hw _ (List.mem_of_getElem? (i := 58) rfl))) (ty := (.object "java/lang/String")) (by decide)
        have F136_type : Fld Z h136 b136 "com/example/outremer_engine/outremerengine/board/Unit" "type" "Lcom/example/outremer_engine/outremerengine/board/UnitType;" .null := D136 (Or.inr (hw _ (List.mem_of_getElem? (i := 60) rfl))) (ty := (.object "com/example/outremer_engine/outremerengine/board/UnitType")) (by decide)
        have F136_place : Fld Z h136 b136 "com/example/outremer_engine/outremerengine/board/Unit" "place" "Lcom/example/outremer_engine/outremerengine/board/Place;" .null := D136 (Or.inr (hw _ (List.mem_of_getElem? (i := 62) rfl))) (ty := (.object "com/example/outremer_engine/outremerengine/board/Place")) (by decide)
        have O_137 : Old Z n0 h136 := (((O_130.keep K131c all0).keep K135c (allS g_b129 all0)).ext E136)
        obtain ⟨_, _, ⟨T138, L138, k138, n138⟩, -, X138, ⟨Lc138, hQ138, l138, y138, z138⟩, st138⟩ := Jvm.LawKit.callS X136 hx (y := (⟨"com/example/outremer_engine/outremerengine/diplomacy/SupportMoveGivenToPinLaw", "drawn", "(I)Ljava/lang/String;"⟩ : MethodName)) hown (mvT hZ (hw _ (List.mem_of_getElem? (i := 3) rfl))) (mvT hZ (hw _ (List.mem_of_getElem? (i := 4) rfl))) (mvT hZ (hw _ (List.mem_of_getElem? (i := 5) rfl))) (mvT hZ (hw _ (List.mem_of_getElem? (i := 6) rfl))) (by decide) (backOf (W := 2) (rm1 l Z a0 hw [] pp1 cs h136 n0 Z136 O_137 S_COMPACT_STRINGS (show ¬ cs = (0 : Int32) from hcs)) hZ (hw _ (List.mem_of_getElem? (i := 6) rfl)) (hw _ (List.mem_of_getElem? (i := 5) rfl)) (by decide) (by decide)) (g := (mkF m 85 #[.val (.int pp1), .val (.int pp2), .val (.int pp3), .val (.int pp4), .val (.int pp5), .val (.int (0 : Int32)), .val (.int (1 : Int32)), .val (.int (0 : Int32)), .val (.ref b129), .val (.ref b129), .unset, .unset, .unset, .unset, .unset, .unset, .unset] [(.int pp1), (.ref b136), (.ref b136)])) rfl (by rw [hml]; rfl) (argsL := [(.int pp1)]) (rest := [(.ref b136), (.ref b136)]) (lenOf pd__28_I_29_Ljava_2f_lang_2f_String_3b_ rfl) rfl (by show 2 * 0 + _ ≤ _; exact Nat.le_of_eq rfl) (hb hby at_85) (fun _ _ => ⟨rfl, e136, (by decide : 5 + 3 ≤ _), (by decide : 13 + 8 ≤ _)⟩)
        dsimp only [Pt.U, Pt.locs, Pt.cells, Pt.slots] at X138 l138 y138 z138 st138 hQ138
        subst y138 z138
        obtain ⟨bx_138, rfl, N138q, K138c, g_bx_138, sb_bx_138⟩ := hQ138
        have N138 : Fr n0 L138 := by rw [l138]; exact Fr.app N135 N138q
        have Z138 : n0 ≤ T138.heap.size := Nat.le_trans Z136 K138c.1
        change Stand _ _ _ _ _ _ _ _ _ _ _ _ 8 21 at X138
        obtain ⟨T139, h139, X139, e139, E139, A139, D139, -, st139⟩ := newO X138 hx hZ hown (hw _ (List.mem_of_getElem? (i := 0) rfl)) (hw _ (List.mem_of_getElem? (i := 1) rfl)) (hw _ (List.mem_of_getElem? (i := 2) rfl)) rfl (g := (mkF m 89 #[.val (.int pp1), .val (.int pp2), .val (.int pp3), .val (.int pp4), .val (.int pp5), .val (.int (0 : Int32)), .val (.int (1 : Int32)), .val (.int (0 : Int32)), .val (.ref b129), .val (.ref b129), .unset, .unset, .unset, .unset, .unset, .unset, .unset] [.null, (.ref bx_138), (.ref b136), (.ref b136)])) rfl (hb hby at_89) (by decide) (by decide)
        obtain ⟨b139, g139⟩ : ∃ z, z = T138.heap.size := ⟨_, rfl⟩
        rw [← g139] at A139 D139 st139
        have g_b139 : n0 ≤ b139 := Nat.le_trans Z138 (Nat.le_of_eq g139.symm)
        have Z139 : n0 ≤ h139.size := Nat.le_trans Z138 E139.1
        have F139_province : Fld Z h139 b139 "com/example/outremer_engine/outremerengine/board/Place" "province" "Lcom/example/outremer_engine/outremerengine/board/Province;" .null := D139 (Or.inr (hw _ (List.mem_of_getElem? (i := 47) rfl))) (ty := (.object "com/example/outremer_engine/outremerengine/board/Province")) (by decide)
        have F139_coast : Fld Z h139 b139 "com/example/outremer_engine/outremerengine/board/Place" "coast" "Ljava/lang/String;" .null := D139 (Or.inr (hw _ (List.mem_of_getElem? (i := 49) rfl))) (ty := (.object "java/lang/String")) (by decide)
        have O_140 : Old Z n0 h139 := ((O_137.keep K138c all0).ext E139)
        obtain ⟨_, _, ⟨T141, L141, k141, n141⟩, -, X141, ⟨Lc141, hQ141, l141, y141, z141⟩, st141⟩ := Jvm.LawKit.callS X139 hx (y := (⟨"com/example/outremer_engine/outremerengine/diplomacy/SupportMoveGivenToPinLaw", "drawn", "(I)Ljava/lang/String;"⟩ : MethodName)) hown (mvT hZ (hw _ (List.mem_of_getElem? (i := 3) rfl))) (mvT hZ (hw _ (List.mem_of_getElem? (i := 4) rfl))) (mvT hZ (hw _ (List.mem_of_getElem? (i := 5) rfl))) (mvT hZ (hw _ (List.mem_of_getElem? (i := 6) rfl))) (by decide) (backOf (W := 7) (rm1 l Z a0 hw [] ((pp4.toUInt32 >>> ((16 : Int32) &&& 31).toUInt32).toInt32) cs h139 n0 Z139 O_140 S_COMPACT_STRINGS (show ¬ cs = (0 : Int32) from hcs)) hZ (hw _ (List.mem_of_getElem? (i := 6) rfl)) (hw _ (List.mem_of_getElem? (i := 5) rfl)) (by decide) (by decide)) (g := (mkF m 98 #[.val (.int pp1), .val (.int pp2), .val (.int pp3), .val (.int pp4), .val (.int pp5), .val (.int (0 : Int32)), .val (.int (1 : Int32)), .val (.int (0 : Int32)), .val (.ref b129), .val (.ref b129), .unset, .unset, .unset, .unset, .unset, .unset, .unset] [(.int ((pp4.toUInt32 >>> ((16 : Int32) &&& 31).toUInt32).toInt32)), .null, (.ref b139), (.ref b139), .null, (.ref bx_138), (.ref b136), (.ref b136)])) rfl (by rw [hml]; rfl) (argsL := [(.int ((pp4.toUInt32 >>> ((16 : Int32) &&& 31).toUInt32).toInt32))]) (rest := [.null, (.ref b139), (.ref b139), .null, (.ref bx_138), (.ref b136), (.ref b136)]) (lenOf pd__28_I_29_Ljava_2f_lang_2f_String_3b_ rfl) rfl (by show 2 * 0 + _ ≤ _; exact Nat.le_of_eq rfl) (hb hby at_98) (fun _ _ => ⟨rfl, e139, (by decide : 9 + 3 ≤ _), (by decide : 23 + 8 ≤ _)⟩)
        dsimp only [Pt.U, Pt.locs, Pt.cells, Pt.slots] at X141 l141 y141 z141 st141 hQ141
        subst y141 z141
        obtain ⟨bx_141, rfl, N141q, K141c, g_bx_141, sb_bx_141⟩ := hQ141
        have N141 : Fr n0 L141 := by rw [l141]; exact Fr.app N138 N141q
        have Z141 : n0 ≤ T141.heap.size := Nat.le_trans Z139 K141c.1
        change Stand _ _ _ _ _ _ _ _ _ _ _ _ 12 31 at X141
        have E_142 : Exa Z T141.heap b139 "com/example/outremer_engine/outremerengine/board/Place" := (A139.keep K141c)
        have F_143 : Fld Z T141.heap b139 "com/example/outremer_engine/outremerengine/board/Place" "province" "Lcom/example/outremer_engine/outremerengine/board/Province;" .null := (F139_province.keep K141c nin0)
        have F_144 : Fld Z T141.heap b139 "com/example/outremer_engine/outremerengine/board/Place" "coast" "Ljava/lang/String;" .null := (F139_coast.keep K141c nin0)
        obtain ⟨_, _, ⟨T145, L145, k145, n145⟩, -, X145, ⟨Lc145, hQ145, l145, y145, z145⟩, st145⟩ := X141.specialBack hx (y := (⟨"com/example/outremer_engine/outremerengine/board/Place", "<init>", "(Lcom/example/outremer_engine/outremerengine/board/Province;Ljava/lang/String;)V"⟩ : MethodName)) rfl hown (mvT hZ (hw _ (List.mem_of_getElem? (i := 37) rfl))) (mvT hZ (hw _ (List.mem_of_getElem? (i := 38) rfl))) (mvT hZ (hw _ (List.mem_of_getElem? (i := 39) rfl))) (by decide) (backOf (W := 5) (rm8 l Z a0 hw [] b139 bx_141 .null .null T141.heap n0 Z141 E_142 g_b139 F_143 F_144) hZ (hw _ (List.mem_of_getElem? (i := 39) rfl)) (hw _ (List.mem_of_getElem? (i := 2) rfl)) (by decide) (by decide)) (g := (mkF m 101 #[.val (.int pp1), .val (.int pp2), .val (.int pp3), .val (.int pp4), .val (.int pp5), .val (.int (0 : Int32)), .val (.int (1 : Int32)), .val (.int (0 : Int32)), .val (.ref b129), .val (.ref b129), .unset, .unset, .unset, .unset, .unset, .unset, .unset] [(.ref bx_141), .null, (.ref b139), (.ref b139), .null, (.ref bx_138), (.ref b136), (.ref b136)])) rfl (by rw [hml]; rfl) (Steps.refl _) (a := b139) (argsL := [.null, (.ref bx_141)]) (rest := [(.ref b139), .null, (.ref bx_138), (.ref b136), (.ref b136)]) (lenOf pd__28_Lcom_2f_example_2f_outremer_engine_2f_outremerengine_2f_board_2f_Province_3b_Ljava_2f_lang_2f_String_3b__29_V rfl) rfl (by show 2 * 0 + _ ≤ _; exact Nat.le_of_eq rfl) (hb hby at_101) (fun _ _ => ⟨rfl, rfl, (by decide : 12 + 0 ≤ _), (by decide : 31 + 0 ≤ _)⟩)
        dsimp only [Pt.U, Pt.locs, Pt.cells, Pt.slots] at X145 l145 y145 z145 st145 hQ145
        subst y145 z145
        obtain ⟨rfl, N145q, K145c, R145_0, R145_1⟩ := hQ145
        have N145 : Fr n0 L145 := by rw [l145]; exact Fr.app N141 N145q
        have Z145 : n0 ≤ T145.heap.size := Nat.le_trans Z141 K145c.1
        change Stand _ _ _ _ _ _ _ _ _ _ _ _ 12 31 at X145
        have E_146 : Exa Z T145.heap b136 "com/example/outremer_engine/outremerengine/board/Unit" := ((((A136.keep K138c).ext E139).keep K141c).keep K145c)
        have F_147 : Fld Z T145.heap b136 "com/example/outremer_engine/outremerengine/board/Unit" "nation" "Ljava/lang/String;" .null := ((((F136_nation.keep K138c nin0).ext E139).keep K141c nin0).keep K145c (ninS (Nat.ne_of_lt (Nat.lt_of_lt_of_le (A136.keep K138c).lt (Nat.le_of_eq g139.symm))) nin0))
        have F_148 : Fld Z T145.heap b136 "com/example/outremer_engine/outremerengine/board/Unit" "type" "Lcom/example/outremer_engine/outremerengine/board/UnitType;" .null := ((((F136_type.keep K138c nin0).ext E139).keep K141c nin0).keep K145c (ninS (Nat.ne_of_lt (Nat.lt_of_lt_of_le (A136.keep K138c).lt (Nat.le_of_eq g139.symm))) nin0))
        have F_149 : Fld Z T145.heap b136 "com/example/outremer_engine/outremerengine/board/Unit" "place" "Lcom/example/outremer_engine/outremerengine/board/Place;" .null := ((((F136_place.keep K138c nin0).ext E139).keep K141c nin0).keep K145c (ninS (Nat.ne_of_lt (Nat.lt_of_lt_of_le (A136.keep K138c).lt (Nat.le_of_eq g139.symm))) nin0))
        obtain ⟨_, _, ⟨T150, L150, k150, n150⟩, -, X150, ⟨Lc150, hQ150, l150, y150, z150⟩, st150⟩ := X145.specialBack hx (y := (⟨"com/example/outremer_engine/outremerengine/board/Unit", "<init>", "(Ljava/lang/String;Lcom/example/outremer_engine/outremerengine/board/UnitType;Lcom/example/outremer_engine/outremerengine/board/Place;)V"⟩ : MethodName)) rfl hown (mvT hZ (hw _ (List.mem_of_getElem? (i := 53) rfl))) (mvT hZ (hw _ (List.mem_of_getElem? (i := 54) rfl))) (mvT hZ (hw _ (List.mem_of_getElem? (i := 55) rfl))) (by decide) (backOf (W := 1) (rm10 l Z a0 hw [] b136 bx_138 b139 .null .null .null T145.heap n0 Z145 E_146 g_b136 F_147 F_148 F_149) hZ (hw _ (List.mem_of_getElem? (i := 55) rfl)) (hw _ (List.mem_of_getElem? (i := 52) rfl)) (by decide) (by decide)) (g := (mkF m 104 #[.val (.int pp1), .val (.int pp2), .val (.int pp3), .val (.int pp4), .val (.int pp5), .val (.int (0 : Int32)), .val (.int (1 : Int32)), .val (.int (0 : Int32)), .val (.ref b129), .val (.ref b129), .unset, .unset, .unset, .unset, .unset, .unset, .unset] [(.ref b139), .null, (.ref bx_138), (.ref b136), (.ref b136)])) rfl (by rw [hml]; rfl) (Steps.refl _) (a := b136) (argsL := [(.ref bx_138), .null, (.ref b139)]) (rest := [(.ref b136)]) (lenOf pd__28_Ljava_2f_lang_2f_String_3b_Lcom_2f_example_2f_outremer_engine_2f_outremerengine_2f_board_2f_UnitType_3b_Lcom_2f_example_2f_outremer_engine_2f_outremerengine_2f_board_2f_Place_3b__29_V rfl) rfl (by show 2 * 0 + _ ≤ _; exact Nat.le_of_eq rfl) (hb hby at_104) (fun _ _ => ⟨rfl, rfl, (by decide : 12 + 0 ≤ _), (by decide : 31 + 0 ≤ _)⟩)
        dsimp only [Pt.U, Pt.locs, Pt.cells, Pt.slots] at X150 l150 y150 z150 st150 hQ150
        subst y150 z150
        obtain ⟨rfl, N150q, K150c, R150_0, R150_1, R150_2⟩ := hQ150
        have N150 : Fr n0 L150 := by rw [l150]; exact Fr.app N145 N150q
        have Z150 : n0 ≤ T150.heap.size := Nat.le_trans Z145 K150c.1
        change Stand _ _ _ _ _ _ _ _ _ _ _ _ 12 31 at X150
        have hc111_3 : (0 : Int32) = (0 : Int32) := by decide
        obtain ⟨T151, h151, X151, e151, E151, A151, D151, -, st151⟩ := newO X150 hx hZ hown (hw _ (List.mem_of_getElem? (i := 50) rfl)) (hw _ (List.mem_of_getElem? (i := 51) rfl)) (hw _ (List.mem_of_getElem? (i := 52) rfl)) rfl (g := (mkF m 119 #[.val (.int pp1), .val (.int pp2), .val (.int pp3), .val (.int pp4), .val (.int pp5), .val (.int (0 : Int32)), .val (.int (1 : Int32)), .val (.int (0 : Int32)), .val (.ref b129), .val (.ref b129), .val (.ref b136), .unset, .unset, .unset, .unset, .unset, .unset] [])) rfl (hb hby at_119) (by decide) (by decide)
        obtain ⟨b151, g151⟩ : ∃ z, z = T150.heap.size := ⟨_, rfl⟩
        rw [← g151] at A151 D151 st151
        have g_b151 : n0 ≤ b151 := Nat.le_trans Z150 (Nat.le_of_eq g151.symm)
        have Z151 : n0 ≤ h151.size := Nat.le_trans Z150 E151.1
        have F151_nation : Fld Z h151 b151 "com/example/outremer_engine/outremerengine/board/Unit" "nation" "Ljava/lang/String;" .null := D151 (Or.inr (hw _ (List.mem_of_getElem? (i := 58) rfl))) (ty := (.object "java/lang/String")) (by decide)
        have F151_type : Fld Z h151 b151 "com/example/outremer_engine/outremerengine/board/Unit" "type" "Lcom/example/outremer_engine/outremerengine/board/UnitType;" .null := D151 (Or.inr (hw _ (List.mem_of_getElem? (i := 60) rfl))) (ty := (.object "com/example/outremer_engine/outremerengine/board/UnitType")) (by decide)
        have F151_place : Fld Z h151 b151 "com/example/outremer_engine/outremerengine/board/Unit" "place" "Lcom/example/outremer_engine/outremerengine/board/Place;" .null := D151 (Or.inr (hw _ (List.mem_of_getElem? (i := 62) rfl))) (ty := (.object "com/example/outremer_engine/outremerengine/board/Place")) (by decide)
        have O_152 : Old Z n0 h151 := ((((O_140.keep K141c all0).keep K145c (allS g_b139 all0)).keep K150c (allS g_b136 all0)).ext E151)
        obtain ⟨_, _, ⟨T153, L153, k153, n153⟩, -, X153, ⟨Lc153, hQ153, l153, y153, z153⟩, st153⟩ := Jvm.LawKit.callS X151 hx (y := (⟨"com/example/outremer_engine/outremerengine/diplomacy/SupportMoveGivenToPinLaw", "drawn", "(I)Ljava/lang/String;"⟩ : MethodName)) hown (mvT hZ (hw _ (List.mem_of_getElem? (i := 3) rfl))) (mvT hZ (hw _ (List.mem_of_getElem? (i := 4) rfl))) (mvT hZ (hw _ (List.mem_of_getElem? (i := 5) rfl))) (mvT hZ (hw _ (List.mem_of_getElem? (i := 6) rfl))) (by decide) (backOf (W := 2) (rm1 l Z a0 hw [] pp2 cs h151 n0 Z151 O_152 S_COMPACT_STRINGS (show ¬ cs = (0 : Int32) from hcs)) hZ (hw _ (List.mem_of_getElem? (i := 6) rfl)) (hw _ (List.mem_of_getElem? (i := 5) rfl)) (by decide) (by decide)) (g := (mkF m 124 #[.val (.int pp1), .val (.int pp2), .val (.int pp3), .val (.int pp4), .val (.int pp5), .val (.int (0 : Int32)), .val (.int (1 : Int32)), .val (.int (0 : Int32)), .val (.ref b129), .val (.ref b129), .val (.ref b136), .unset, .unset, .unset, .unset, .unset, .unset] [(.int pp2), (.ref b151), (.ref b151)])) rfl (by rw [hml]; rfl) (argsL := [(.int pp2)]) (rest := [(.ref b151), (.ref b151)]) (lenOf pd__28_I_29_Ljava_2f_lang_2f_String_3b_ rfl) rfl (by show 2 * 0 + _ ≤ _; exact Nat.le_of_eq rfl) (hb hby at_124) (fun _ _ => ⟨rfl, e151, (by decide : 13 + 3 ≤ _), (by decide : 34 + 8 ≤ _)⟩)
        dsimp only [Pt.U, Pt.locs, Pt.cells, Pt.slots] at X153 l153 y153 z153 st153 hQ153
        subst y153 z153
        obtain ⟨bx_153, rfl, N153q, K153c, g_bx_153, sb_bx_153⟩ := hQ153
        have N153 : Fr n0 L153 := by rw [l153]; exact Fr.app N150 N153q
        have Z153 : n0 ≤ T153.heap.size := Nat.le_trans Z151 K153c.1
        change Stand _ _ _ _ _ _ _ _ _ _ _ _ 16 42 at X153
        obtain ⟨T154, h154, X154, e154, E154, A154, D154, -, st154⟩ := newO X153 hx hZ hown (hw _ (List.mem_of_getElem? (i := 0) rfl)) (hw _ (List.mem_of_getElem? (i := 1) rfl)) (hw _ (List.mem_of_getElem? (i := 2) rfl)) rfl (g := (mkF m 128 #[.val (.int pp1), .val (.int pp2), .val (.int pp3), .val (.int pp4), .val (.int pp5), .val (.int (0 : Int32)), .val (.int (1 : Int32)), .val (.int (0 : Int32)), .val (.ref b129), .val (.ref b129), .val (.ref b136), .unset, .unset, .unset, .unset, .unset, .unset] [.null, (.ref bx_153), (.ref b151), (.ref b151)])) rfl (hb hby at_128) (by decide) (by decide)
        obtain ⟨b154, g154⟩ : ∃ z, z = T153.heap.size := ⟨_, rfl⟩
        rw [← g154] at A154 D154 st154
        have g_b154 : n0 ≤ b154 := Nat.le_trans Z153 (Nat.le_of_eq g154.symm)
        have Z154 : n0 ≤ h154.size := Nat.le_trans Z153 E154.1
        have F154_province : Fld Z h154 b154 "com/example/outremer_engine/outremerengine/board/Place" "province" "Lcom/example/outremer_engine/outremerengine/board/Province;" .null := D154 (Or.inr (hw _ (List.mem_of_getElem? (i := 47) rfl))) (ty := (.object "com/example/outremer_engine/outremerengine/board/Province")) (by decide)
        have F154_coast : Fld Z h154 b154 "com/example/outremer_engine/outremerengine/board/Place" "coast" "Ljava/lang/String;" .null := D154 (Or.inr (hw _ (List.mem_of_getElem? (i := 49) rfl))) (ty := (.object "java/lang/String")) (by decide)
        have O_155 : Old Z n0 h154 := ((O_152.keep K153c all0).ext E154)
        obtain ⟨_, _, ⟨T156, L156, k156, n156⟩, -, X156, ⟨Lc156, hQ156, l156, y156, z156⟩, st156⟩ := Jvm.LawKit.callS X154 hx (y := (⟨"com/example/outremer_engine/outremerengine/diplomacy/SupportMoveGivenToPinLaw", "drawn", "(I)Ljava/lang/String;"⟩ : MethodName)) hown (mvT hZ (hw _ (List.mem_of_getElem? (i := 3) rfl))) (mvT hZ (hw _ (List.mem_of_getElem? (i := 4) rfl))) (mvT hZ (hw _ (List.mem_of_getElem? (i := 5) rfl))) (mvT hZ (hw _ (List.mem_of_getElem? (i := 6) rfl))) (by decide) (backOf (W := 7) (rm1 l Z a0 hw [] ((pp3.toUInt32 >>> ((16 : Int32) &&& 31).toUInt32).toInt32) cs h154 n0 Z154 O_155 S_COMPACT_STRINGS (show ¬ cs = (0 : Int32) from hcs)) hZ (hw _ (List.mem_of_getElem? (i := 6) rfl)) (hw _ (List.mem_of_getElem? (i := 5) rfl)) (by decide) (by decide)) (g := (mkF m 137 #[.val (.int pp1), .val (.int pp2), .val (.int pp3), .val (.int pp4), .val (.int pp5), .val (.int (0 : Int32)), .val (.int (1 : Int32)), .val (.int (0 : Int32)), .val (.ref b129), .val (.ref b129), .val (.ref b136), .unset, .unset, .unset, .unset, .unset, .unset] [(.int ((pp3.toUInt32 >>> ((16 : Int32) &&& 31).toUInt32).toInt32)), .null, (.ref b154), (.ref b154), .null, (.ref bx_153), (.ref b151), (.ref b151)])) rfl (by rw [hml]; rfl) (argsL := [(.int ((pp3.toUInt32 >>> ((16 : Int32) &&& 31).toUInt32).toInt32))]) (rest := [.null, (.ref b154), (.ref b154), .null, (.ref bx_153), (.ref b151), (.ref b151)]) (lenOf pd__28_I_29_Ljava_2f_lang_2f_String_3b_ rfl) rfl (by show 2 * 0 + _ ≤ _; exact Nat.le_of_eq rfl) (hb hby at_137) (fun _ _ => ⟨rfl, e154, (by decide : 17 + 3 ≤ _), (by decide : 44 + 8 ≤ _)⟩)
        dsimp only [Pt.U, Pt.locs, Pt.cells, Pt.slots] at X156 l156 y156 z156 st156 hQ156
        subst y156 z156
        obtain ⟨bx_156, rfl, N156q, K156c, g_bx_156, sb_bx_156⟩ := hQ156
        have N156 : Fr n0 L156 := by rw [l156]; exact Fr.app N153 N156q
        have Z156 : n0 ≤ T156.heap.size := Nat.le_trans Z154 K156c.1
        change Stand _ _ _ _ _ _ _ _ _ _ _ _ 20 52 at X156
        have E_157 : Exa Z T156.heap b154 "com/example/outremer_engine/outremerengine/board/Place" := (A154.keep K156c)
        have F_158 : Fld Z T156.heap b154 "com/example/outremer_engine/outremerengine/board/Place" "province" "Lcom/example/outremer_engine/outremerengine/board/Province;" .null := (F154_province.keep K156c nin0)
        have F_159 : Fld Z T156.heap b154 "com/example/outremer_engine/outremerengine/board/Place" "coast" "Ljava/lang/String;" .null := (F154_coast.keep K156c nin0)
        obtain ⟨_, _, ⟨T160, L160, k160, n160⟩, -, X160, ⟨Lc160, hQ160, l160, y160, z160⟩, st160⟩ := X156.specialBack hx (y := (⟨"com/example/outremer_engine/outremerengine/board/Place", "<init>", "(Lcom/example/outremer_engine/outremerengine/board/Province;Ljava/lang/String;)V"⟩ : MethodName)) rfl hown (mvT hZ (hw _ (List.mem_of_getElem? (i := 37) rfl))) (mvT hZ (hw _ (List.mem_of_getElem? (i := 38) rfl))) (mvT hZ (hw _ (List.mem_of_getElem? (i := 39) rfl))) (by decide) (backOf (W := 5) (rm8 l Z a0 hw [] b154 bx_156 .null .null T156.heap n0 Z156 E_157 g_b154 F_158 F_159) hZ (hw _ (List.mem_of_getElem? (i := 39) rfl)) (hw _ (List.mem_of_getElem? (i := 2) rfl)) (by decide) (by decide)) (g := (mkF m 140 #[.val (.int pp1), .val (.int pp2), .val (.int pp3), .val (.int pp4), .val (.int pp5), .val (.int (0 : Int32)), .val (.int (1 : Int32)), .val (.int (0 : Int32)), .val (.ref b129), .val (.ref b129), .val (.ref b136), .unset, .unset, .unset, .unset, .unset, .unset] [(.ref bx_156), .null, (.ref b154), (.ref b154), .null, (.ref bx_153), (.ref b151), (.ref b151)])) rfl (by rw [hml]; rfl) (Steps.refl _) (a := b154) (argsL := [.null, (.ref bx_156)]) (rest := [(.ref b154), .null, (.ref bx_153), (.ref b151), (.ref b151)]) (lenOf pd__28_Lcom_2f_example_2f_outremer_engine_2f_outremerengine_2f_board_2f_Province_3b_Ljava_2f_lang_2f_String_3b__29_V rfl) rfl (by show 2 * 0 + _ ≤ _; exact Nat.le_of_eq rfl) (hb hby at_140) (fun _ _ => ⟨rfl, rfl, (by decide : 20 + 0 ≤ _), (by decide : 52 + 0 ≤ _)⟩)
        dsimp only [Pt.U, Pt.locs, Pt.cells, Pt.slots] at X160 l160 y160 z160 st160 hQ160
        subst y160 z160
        obtain ⟨rfl, N160q, K160c, R160_0, R160_1⟩ := hQ160
        have N160 : Fr n0 L160 := by rw [l160]; exact Fr.app N156 N160q
        have Z160 : n0 ≤ T160.heap.size := Nat.le_trans Z156 K160c.1
        change Stand _ _ _ _ _ _ _ _ _ _ _ _ 20 52 at X160
        have E_161 : Exa Z T160.heap b151 "com/example/outremer_engine/outremerengine/board/Unit" := ((((A151.keep K153c).ext E154).keep K156c).keep K160c)
        have F_162 : Fld Z T160.heap b151 "com/example/outremer_engine/outremerengine/board/Unit" "nation" "Ljava/lang/String;" .null := ((((F151_nation.keep K153c nin0).ext E154).keep K156c nin0).keep K160c (ninS (Nat.ne_of_lt (Nat.lt_of_lt_of_le (A151.keep K153c).lt (Nat.le_of_eq g154.symm))) nin0))
        have F_163 : Fld Z T160.heap b151 "com/example/outremer_engine/outremerengine/board/Unit" "type" "Lcom/example/outremer_engine/outremerengine/board/UnitType;" .null := ((((F151_type.keep K153c nin0).ext E154).keep K156c nin0).keep K160c (ninS (Nat.ne_of_lt (Nat.lt_of_lt_of_le (A151.keep K153c).lt (Nat.le_of_eq g154.symm))) nin0))
        have F_164 : Fld Z T160.heap b151 "com/example/outremer_engine/outremerengine/board/Unit" "place" "Lcom/example/outremer_engine/outremerengine/board/Place;" .null := ((((F151_place.keep K153c nin0).ext E154).keep K156c nin0).keep K160c (ninS (Nat.ne_of_lt (Nat.lt_of_lt_of_le (A151.keep K153c).lt (Nat.le_of_eq g154.symm))) nin0))
        obtain ⟨_, _, ⟨T165, L165, k165, n165⟩, -, X165, ⟨Lc165, hQ165, l165, y165, z165⟩, st165⟩ := X160.specialBack hx (y := (⟨"com/example/outremer_engine/outremerengine/board/Unit", "<init>", "(Ljava/lang/String;Lcom/example/outremer_engine/outremerengine/board/UnitType;Lcom/example/outremer_engine/outremerengine/board/Place;)V"⟩ : MethodName)) rfl hown (mvT hZ (hw _ (List.mem_of_getElem? (i := 53) rfl))) (mvT hZ (hw _ (List.mem_of_getElem? (i := 54) rfl))) (mvT hZ (hw _ (List.mem_of_getElem? (i := 55) rfl))) (by decide) (backOf (W := 1) (rm10 l Z a0 hw [] b151 bx_153 b154 .null .null .null T160.heap n0 Z160 E_161 g_b151 F_162 F_163 F_164) hZ (hw _ (List.mem_of_getElem? (i := 55) rfl)) (hw _ (List.mem_of_getElem? (i := 52) rfl)) (by decide) (by decide)) (g := (mkF m 143 #[.val (.int pp1), .val (.int pp2), .val (.int pp3), .val (.int pp4), .val (.int pp5), .val (.int (0 : Int32)), .val (.int (1 : Int32)), .val (.int (0 : Int32)), .val (.ref b129), .val (.ref b129), .val (.ref b136), .unset, .unset, .unset, .unset, .unset, .unset] [(.ref b154), .null, (.ref bx_153), (.ref b151), (.ref b151)])) rfl (by rw [hml]; rfl) (Steps.refl _) (a := b151) (argsL := [(.ref bx_153), .null, (.ref b154)]) (rest := [(.ref b151)]) (lenOf pd__28_Ljava_2f_lang_2f_String_3b_Lcom_2f_example_2f_outremer_engine_2f_outremerengine_2f_board_2f_UnitType_3b_Lcom_2f_example_2f_outremer_engine_2f_outremerengine_2f_board_2f_Place_3b__29_V rfl) rfl (by show 2 * 0 + _ ≤ _; exact Nat.le_of_eq rfl) (hb hby at_143) (fun _ _ => ⟨rfl, rfl, (by decide : 20 + 0 ≤ _), (by decide : 52 + 0 ≤ _)⟩)
        dsimp only [Pt.U, Pt.locs, Pt.cells, Pt.slots] at X165 l165 y165 z165 st165 hQ165
        subst y165 z165
        obtain ⟨rfl, N165q, K165c, R165_0, R165_1, R165_2⟩ := hQ165
        have N165 : Fr n0 L165 := by rw [l165]; exact Fr.app N160 N165q
        have Z165 : n0 ≤ T165.heap.size := Nat.le_trans Z160 K165c.1
        change Stand _ _ _ _ _ _ _ _ _ _ _ _ 20 52 at X165
        have hc150_3 : (0 : Int32) = (0 : Int32) := by decide
        obtain ⟨T166, h166, X166, e166, E166, A166, D166, -, st166⟩ := newO X165 hx hZ hown (hw _ (List.mem_of_getElem? (i := 63) rfl)) (hw _ (List.mem_of_getElem? (i := 64) rfl)) (hw _ (List.mem_of_getElem? (i := 65) rfl)) rfl (g := (mkF m 162 #[.val (.int pp1), .val (.int pp2), .val (.int pp3), .val (.int pp4), .val (.int pp5), .val (.int (0 : Int32)), .val (.int (1 : Int32)), .val (.int (0 : Int32)), .val (.ref b129), .val (.ref b129), .val (.ref b136), .val (.ref b151), .val .null, .unset, .unset, .unset, .unset] [])) rfl (hb hby at_162) (by decide) (by decide)
        obtain ⟨b166, g166⟩ : ∃ z, z = T165.heap.size := ⟨_, rfl⟩
        rw [← g166] at A166 D166 st166
        have g_b166 : n0 ≤ b166 := Nat.le_trans Z165 (Nat.le_of_eq g166.symm)
        have Z166 : n0 ≤ h166.size := Nat.le_trans Z165 E166.1
        have F166_unit : Fld Z h166 b166 "com/example/outremer_engine/outremerengine/diplomacy/Order$SupportMove" "unit" "Lcom/example/outremer_engine/outremerengine/board/Unit;" .null := D166 (Or.inr (hw _ (List.mem_of_getElem? (i := 71) rfl))) (ty := (.object "com/example/outremer_engine/outremerengine/board/Unit")) (by decide)
        have F166_supportedType : Fld Z h166 b166 "com/example/outremer_engine/outremerengine/diplomacy/Order$SupportMove" "supportedType" "Ljava/util/Optional;" .null := D166 (Or.inr (hw _ (List.mem_of_getElem? (i := 73) rfl))) (ty := (.object "java/util/Optional")) (by decide)
        have F166_from : Fld Z h166 b166 "com/example/outremer_engine/outremerengine/diplomacy/Order$SupportMove" "from" "Lcom/example/outremer_engine/outremerengine/board/Place;" .null := D166 (Or.inr (hw _ (List.mem_of_getElem? (i := 75) rfl))) (ty := (.object "com/example/outremer_engine/outremerengine/board/Place")) (by decide)
        have F166_to : Fld Z h166 b166 "com/example/outremer_engine/outremerengine/diplomacy/Order$SupportMove" "to" "Lcom/example/outremer_engine/outremerengine/board/Place;" .null := D166 (Or.inr (hw _ (List.mem_of_getElem? (i := 77) rfl))) (ty := (.object "com/example/outremer_engine/outremerengine/board/Place")) (by decide)
        obtain ⟨_, _, ⟨T167, L167, k167, n167⟩, -, X167, ⟨Lc167, hQ167, l167, y167, z167⟩, st167⟩ := X166.specialBack hx (y := (⟨"com/example/outremer_engine/outremerengine/diplomacy/Order$SupportMove", "<init>", "(Lcom/example/outremer_engine/outremerengine/board/Unit;Ljava/util/Optional;Lcom/example/outremer_engine/outremerengine/board/Place;Lcom/example/outremer_engine/outremerengine/board/Place;)V"⟩ : MethodName)) rfl hown (mvT hZ (hw _ (List.mem_of_getElem? (i := 66) rfl))) (mvT hZ (hw _ (List.mem_of_getElem? (i := 67) rfl))) (mvT hZ (hw _ (List.mem_of_getElem? (i := 68) rfl))) (by decide) (backOf (W := 1) (rm11_n l Z a0 hw [] b166 b136 b129 b129 .null .null .null .null h166 n0 Z166 A166 g_b166 F166_unit F166_supportedType F166_from F166_to) hZ (hw _ (List.mem_of_getElem? (i := 68) rfl)) (hw _ (List.mem_of_getElem? (i := 65) rfl)) (by decide) (by decide)) (g := (mkF m 174 #[.val (.int pp1), .val (.int pp2), .val (.int pp3), .val (.int pp4), .val (.int pp5), .val (.int (0 : Int32)), .val (.int (1 : Int32)), .val (.int (0 : Int32)), .val (.ref b129), .val (.ref b129), .val (.ref b136), .val (.ref b151), .val .null, .unset, .unset, .unset, .unset] [(.ref b129), (.ref b129), .null, (.ref b136), (.ref b166), (.ref b166)])) rfl (by rw [hml]; rfl) (Steps.refl _) (a := b166) (argsL := [(.ref b136), .null, (.ref b129), (.ref b129)]) (rest := [(.ref b166)]) (lenOf pd__28_Lcom_2f_example_2f_outremer_engine_2f_outremerengine_2f_board_2f_Unit_3b_Ljava_2f_util_2f_Optional_3b_Lcom_2f_example_2f_outremer_engine_2f_outremerengine_2f_board_2f_Place_3b_Lcom_2f_example_2f_outremer_engine_2f_outremerengine_2f_board_2f_Place_3b__29_V rfl) rfl (by show 2 * 0 + _ ≤ _; exact Nat.le_of_eq rfl) (hb hby at_174) (fun _ _ => ⟨rfl, e166, (by decide : 21 + 0 ≤ _), (by decide : 56 + 0 ≤ _)⟩)
        dsimp only [Pt.U, Pt.locs, Pt.cells, Pt.slots] at X167 l167 y167 z167 st167 hQ167
        subst y167 z167
        obtain ⟨rfl, N167q, K167c, R167_0, R167_1, R167_2, R167_3⟩ := hQ167
        have N167 : Fr n0 L167 := by rw [l167]; exact Fr.app N165 N167q
        have Z167 : n0 ≤ T167.heap.size := Nat.le_trans Z166 K167c.1
        change Stand _ _ _ _ _ _ _ _ _ _ _ _ 21 56 at X167
        have E_169 : Exa Z T167.heap b166 "com/example/outremer_engine/outremerengine/diplomacy/Order$SupportMove" := (A166.keep K167c)
        obtain ⟨cq168, kq168, q168a, q168b, q168c⟩ := isOf hZ rfl E_169
        obtain ⟨_, _, ⟨T168, L168, k168, n168⟩, -, X168, ⟨Lc168, hQ168, l168, y168, z168⟩, st168⟩ := X167.virtualBack hx (y := (⟨"com/example/outremer_engine/outremerengine/diplomacy/Order$SupportMove", "givenTo", "(Lcom/example/outremer_engine/outremerengine/board/Unit;)Lcom/example/outremer_engine/outremerengine/diplomacy/Order$SupportMove;"⟩ : MethodName)) (z := (⟨"com/example/outremer_engine/outremerengine/diplomacy/Order$SupportMove", "givenTo", "(Lcom/example/outremer_engine/outremerengine/board/Unit;)Lcom/example/outremer_engine/outremerengine/diplomacy/Order$SupportMove;"⟩ : MethodName)) hown (mvT hZ (hw _ (List.mem_of_getElem? (i := 78) rfl))) (mvT hZ (hw _ (List.mem_of_getElem? (i := 79) rfl))) (notFace_of_selects (args := #[]) (mvT hZ (hw _ (List.mem_of_getElem? (i := 81) rfl)))) (mvT hZ (hw _ (List.mem_of_getElem? (i := 81) rfl))) (mvT hZ (hw _ (List.mem_of_getElem? (i := 80) rfl))) (by decide) (backOf (W := 0) (rm12_n l Z a0 hw [] b166 b151 b129 b129 T167.heap n0 Z167 R167_1 R167_2 R167_3) hZ (hw _ (List.mem_of_getElem? (i := 82) rfl)) (hw _ (List.mem_of_getElem? (i := 65) rfl)) (by decide) (by decide)) q168a q168c (g := (mkF m 183 #[.val (.int pp1), .val (.int pp2), .val (.int pp3), .val (.int pp4), .val (.int pp5), .val (.int (0 : Int32)), .val (.int (1 : Int32)), .val (.int (0 : Int32)), .val (.ref b129), .val (.ref b129), .val (.ref b136), .val (.ref b151), .val .null, .val (.ref b166), .unset, .unset, .unset] [(.ref b151), (.ref b166)])) rfl (by rw [hml]; rfl) (Steps.refl _) (argsL := [(.ref b151)]) (rest := []) (lenOf pd__28_Lcom_2f_example_2f_outremer_engine_2f_outremerengine_2f_board_2f_Unit_3b__29_Lcom_2f_example_2f_outremer_engine_2f_outremerengine_2f_diplomacy_2f_Order_24_SupportMove_3b_ rfl) rfl (by show 2 * 0 + _ ≤ _; exact Nat.le_of_eq rfl) (hb hby at_183) (fun _ _ => ⟨rfl, rfl, (by decide : 21 + 1 ≤ _), (by decide : 56 + 4 ≤ _)⟩)
        dsimp only [Pt.U, Pt.locs, Pt.cells, Pt.slots] at X168 l168 y168 z168 st168 hQ168
        subst y168 z168
        obtain ⟨bx_168, rfl, N168q, K168c, g_bx_168, sb_bx_168, R168_0, R168_1, R168_2, R168_3, R168_4⟩ := hQ168
        have N168 : Fr n0 L168 := by rw [l168]; exact Fr.app N167 N168q
        have Z168 : n0 ≤ T168.heap.size := Nat.le_trans Z167 K168c.1
        change Stand _ _ _ _ _ _ _ _ _ _ _ _ 22 60 at X168
        obtain ⟨cq170, kq170, q170a, q170b, q170c⟩ := isOf hZ rfl R168_0
        obtain ⟨_, _, ⟨T170, L170, k170, n170⟩, -, X170, ⟨Lc170, hQ170, l170, y170, z170⟩, st170⟩ := X168.virtualBack hx (y := (⟨"com/example/outremer_engine/outremerengine/diplomacy/Order$SupportMove", "unit", "()Lcom/example/outremer_engine/outremerengine/board/Unit;"⟩ : MethodName)) (z := (⟨"com/example/outremer_engine/outremerengine/diplomacy/Order$SupportMove", "unit", "()Lcom/example/outremer_engine/outremerengine/board/Unit;"⟩ : MethodName)) hown (mvT hZ (hw _ (List.mem_of_getElem? (i := 85) rfl))) (mvT hZ (hw _ (List.mem_of_getElem? (i := 86) rfl))) (notFace_of_selects (args := #[]) (mvT hZ (hw _ (List.mem_of_getElem? (i := 88) rfl)))) (mvT hZ (hw _ (List.mem_of_getElem? (i := 88) rfl))) (mvT hZ (hw _ (List.mem_of_getElem? (i := 87) rfl))) (by decide) (backOf (W := 0) (rm13 l Z a0 hw [] bx_168 b151 T168.heap n0 Z168 R168_1) hZ (hw _ (List.mem_of_getElem? (i := 89) rfl)) (hw _ (List.mem_of_getElem? (i := 65) rfl)) (by decide) (by decide)) q170a q170c (g := (mkF m 197 #[.val (.int pp1), .val (.int pp2), .val (.int pp3), .val (.int pp4), .val (.int pp5), .val (.int (0 : Int32)), .val (.int (1 : Int32)), .val (.int (0 : Int32)), .val (.ref b129), .val (.ref b129), .val (.ref b136), .val (.ref b151), .val .null, .val (.ref b166), .val (.ref bx_168), .unset, .unset] [(.ref bx_168)])) rfl (by rw [hml]; rfl) (Steps.refl _) (argsL := []) (rest := []) (lenOf pd__28__29_Lcom_2f_example_2f_outremer_engine_2f_outremerengine_2f_board_2f_Unit_3b_ rfl) rfl (by show 2 * 0 + _ ≤ _; exact Nat.le_of_eq rfl) (hb hby at_197) (fun _ _ => ⟨rfl, rfl, (by decide : 22 + 0 ≤ _), (by decide : 60 + 0 ≤ _)⟩)
        dsimp only [Pt.U, Pt.locs, Pt.cells, Pt.slots] at X170 l170 y170 z170 st170 hQ170
        subst y170 z170
        obtain ⟨rfl, N170q, e170⟩ := hQ170
        have N170 : Fr n0 L170 := by rw [l170]; exact Fr.app N168 N170q
        change Stand _ _ _ _ _ _ _ _ _ _ _ _ 22 60 at X170
        obtain ⟨cq171, kq171, q171a, q171b, q171c⟩ := isOf hZ e170 R168_0
        obtain ⟨_, _, ⟨T171, L171, k171, n171⟩, -, X171, ⟨Lc171, hQ171, l171, y171, z171⟩, st171⟩ := X170.virtualBack hx (y := (⟨"com/example/outremer_engine/outremerengine/diplomacy/Order$SupportMove", "supportedType", "()Ljava/util/Optional;"⟩ : MethodName)) (z := (⟨"com/example/outremer_engine/outremerengine/diplomacy/Order$SupportMove", "supportedType", "()Ljava/util/Optional;"⟩ : MethodName)) hown (mvT hZ (hw _ (List.mem_of_getElem? (i := 90) rfl))) (mvT hZ (hw _ (List.mem_of_getElem? (i := 91) rfl))) (notFace_of_selects (args := #[]) (mvT hZ (hw _ (List.mem_of_getElem? (i := 93) rfl)))) (mvT hZ (hw _ (List.mem_of_getElem? (i := 93) rfl))) (mvT hZ (hw _ (List.mem_of_getElem? (i := 92) rfl))) (by decide) (backOf (W := 0) (rm14_n l Z a0 hw [] bx_168 T168.heap n0 Z168 R168_2) hZ (hw _ (List.mem_of_getElem? (i := 94) rfl)) (hw _ (List.mem_of_getElem? (i := 65) rfl)) (by decide) (by decide)) q171a q171c (g := (mkF m 207 #[.val (.int pp1), .val (.int pp2), .val (.int pp3), .val (.int pp4), .val (.int pp5), .val (.int (0 : Int32)), .val (.int (1 : Int32)), .val (.int (0 : Int32)), .val (.ref b129), .val (.ref b129), .val (.ref b136), .val (.ref b151), .val .null, .val (.ref b166), .val (.ref bx_168), .unset, .unset] [(.ref bx_168)])) rfl (by rw [hml]; rfl) (Steps.refl _) (argsL := []) (rest := []) (lenOf pd__28__29_Ljava_2f_util_2f_Optional_3b_ rfl) rfl (by show 2 * 0 + _ ≤ _; exact Nat.le_of_eq rfl) (hb hby at_207) (fun _ _ => ⟨rfl, e170, (by decide : 22 + 0 ≤ _), (by decide : 60 + 0 ≤ _)⟩)
        dsimp only [Pt.U, Pt.locs, Pt.cells, Pt.slots] at X171 l171 y171 z171 st171 hQ171
        subst y171 z171
        obtain ⟨rfl, N171q, e171⟩ := hQ171
        have N171 : Fr n0 L171 := by rw [l171]; exact Fr.app N170 N171q
        change Stand _ _ _ _ _ _ _ _ _ _ _ _ 22 60 at X171
        obtain ⟨cq172, kq172, q172a, q172b, q172c⟩ := isOf hZ e171 R168_0
        obtain ⟨_, _, ⟨T172, L172, k172, n172⟩, -, X172, ⟨Lc172, hQ172, l172, y172, z172⟩, st172⟩ := X171.virtualBack hx (y := (⟨"com/example/outremer_engine/outremerengine/diplomacy/Order$SupportMove", "from", "()Lcom/example/outremer_engine/outremerengine/board/Place;"⟩ : MethodName)) (z := (⟨"com/example/outremer_engine/outremerengine/diplomacy/Order$SupportMove", "from", "()Lcom/example/outremer_engine/outremerengine/board/Place;"⟩ : MethodName)) hown (mvT hZ (hw _ (List.mem_of_getElem? (i := 95) rfl))) (mvT hZ (hw _ (List.mem_of_getElem? (i := 96) rfl))) (notFace_of_selects (args := #[]) (mvT hZ (hw _ (List.mem_of_getElem? (i := 98) rfl)))) (mvT hZ (hw _ (List.mem_of_getElem? (i := 98) rfl))) (mvT hZ (hw _ (List.mem_of_getElem? (i := 97) rfl))) (by decide) (backOf (W := 0) (rm15 l Z a0 hw [] bx_168 b129 T168.heap n0 Z168 R168_3) hZ (hw _ (List.mem_of_getElem? (i := 99) rfl)) (hw _ (List.mem_of_getElem? (i := 65) rfl)) (by decide) (by decide)) q172a q172c (g := (mkF m 217 #[.val (.int pp1), .val (.int pp2), .val (.int pp3), .val (.int pp4), .val (.int pp5), .val (.int (0 : Int32)), .val (.int (1 : Int32)), .val (.int (0 : Int32)), .val (.ref b129), .val (.ref b129), .val (.ref b136), .val (.ref b151), .val .null, .val (.ref b166), .val (.ref bx_168), .unset, .unset] [(.ref bx_168)])) rfl (by rw [hml]; rfl) (Steps.refl _) (argsL := []) (rest := []) (lenOf pd__28__29_Lcom_2f_example_2f_outremer_engine_2f_outremerengine_2f_board_2f_Place_3b_ rfl) rfl (by show 2 * 0 + _ ≤ _; exact Nat.le_of_eq rfl) (hb hby at_217) (fun _ _ => ⟨rfl, e171, (by decide : 22 + 0 ≤ _), (by decide : 60 + 0 ≤ _)⟩)
        dsimp only [Pt.U, Pt.locs, Pt.cells, Pt.slots] at X172 l172 y172 z172 st172 hQ172
        subst y172 z172
        obtain ⟨rfl, N172q, e172⟩ := hQ172
        have N172 : Fr n0 L172 := by rw [l172]; exact Fr.app N171 N172q
        change Stand _ _ _ _ _ _ _ _ _ _ _ _ 22 60 at X172
        obtain ⟨cq173, kq173, q173a, q173b, q173c⟩ := isOf hZ e172 R168_0
        obtain ⟨_, _, ⟨T173, L173, k173, n173⟩, -, X173, ⟨Lc173, hQ173, l173, y173, z173⟩, st173⟩ := X172.virtualBack hx (y := (⟨"com/example/outremer_engine/outremerengine/diplomacy/Order$SupportMove", "to", "()Lcom/example/outremer_engine/outremerengine/board/Place;"⟩ : MethodName)) (z := (⟨"com/example/outremer_engine/outremerengine/diplomacy/Order$SupportMove", "to", "()Lcom/example/outremer_engine/outremerengine/board/Place;"⟩ : MethodName)) hown (mvT hZ (hw _ (List.mem_of_getElem? (i := 100) rfl))) (mvT hZ (hw _ (List.mem_of_getElem? (i := 101) rfl))) (notFace_of_selects (args := #[]) (mvT hZ (hw _ (List.mem_of_getElem? (i := 103) rfl)))) (mvT hZ (hw _ (List.mem_of_getElem? (i := 103) rfl))) (mvT hZ (hw _ (List.mem_of_getElem? (i := 102) rfl))) (by decide) (backOf (W := 0) (rm16 l Z a0 hw [] bx_168 b129 T168.heap n0 Z168 R168_4) hZ (hw _ (List.mem_of_getElem? (i := 104) rfl)) (hw _ (List.mem_of_getElem? (i := 65) rfl)) (by decide) (by decide)) q173a q173c (g := (mkF m 227 #[.val (.int pp1), .val (.int pp2), .val (.int pp3), .val (.int pp4), .val (.int pp5), .val (.int (0 : Int32)), .val (.int (1 : Int32)), .val (.int (0 : Int32)), .val (.ref b129), .val (.ref b129), .val (.ref b136), .val (.ref b151), .val .null, .val (.ref b166), .val (.ref bx_168), .unset, .unset] [(.ref bx_168)])) rfl (by rw [hml]; rfl) (Steps.refl _) (argsL := []) (rest := []) (lenOf pd__28__29_Lcom_2f_example_2f_outremer_engine_2f_outremerengine_2f_board_2f_Place_3b_ rfl) rfl (by show 2 * 0 + _ ≤ _; exact Nat.le_of_eq rfl) (hb hby at_227) (fun _ _ => ⟨rfl, e172, (by decide : 22 + 0 ≤ _), (by decide : 60 + 0 ≤ _)⟩)
        dsimp only [Pt.U, Pt.locs, Pt.cells, Pt.slots] at X173 l173 y173 z173 st173 hQ173
        subst y173 z173
        obtain ⟨rfl, N173q, e173⟩ := hQ173
        have N173 : Fr n0 L173 := by rw [l173]; exact Fr.app N172 N173q
        change Stand _ _ _ _ _ _ _ _ _ _ _ _ 22 60 at X173
        have F_174 : Fld Z T168.heap b166 "com/example/outremer_engine/outremerengine/diplomacy/Order$SupportMove" "unit" "Lcom/example/outremer_engine/outremerengine/board/Unit;" (.ref b136) := (R167_0.keep K168c nin0)
        have E_176 : Exa Z T168.heap b166 "com/example/outremer_engine/outremerengine/diplomacy/Order$SupportMove" := (E_169.keep K168c)
        obtain ⟨cq175, kq175, q175a, q175b, q175c⟩ := isOf hZ e173 E_176
        obtain ⟨_, _, ⟨T175, L175, k175, n175⟩, -, X175, ⟨Lc175, hQ175, l175, y175, z175⟩, st175⟩ := X173.virtualBack hx (y := (⟨"com/example/outremer_engine/outremerengine/diplomacy/Order$SupportMove", "unit", "()Lcom/example/outremer_engine/outremerengine/board/Unit;"⟩ : MethodName)) (z := (⟨"com/example/outremer_engine/outremerengine/diplomacy/Order$SupportMove", "unit", "()Lcom/example/outremer_engine/outremerengine/board/Unit;"⟩ : MethodName)) hown (mvT hZ (hw _ (List.mem_of_getElem? (i := 85) rfl))) (mvT hZ (hw _ (List.mem_of_getElem? (i := 86) rfl))) (notFace_of_selects (args := #[]) (mvT hZ (hw _ (List.mem_of_getElem? (i := 88) rfl)))) (mvT hZ (hw _ (List.mem_of_getElem? (i := 88) rfl))) (mvT hZ (hw _ (List.mem_of_getElem? (i := 87) rfl))) (by decide) (backOf (W := 0) (rm13 l Z a0 hw [] b166 b136 T168.heap n0 Z168 F_174) hZ (hw _ (List.mem_of_getElem? (i := 89) rfl)) (hw _ (List.mem_of_getElem? (i := 65) rfl)) (by decide) (by decide)) q175a q175c (g := (mkF m 244 #[.val (.int pp1), .val (.int pp2), .val (.int pp3), .val (.int pp4), .val (.int pp5), .val (.int (0 : Int32)), .val (.int (1 : Int32)), .val (.int (0 : Int32)), .val (.ref b129), .val (.ref b129), .val (.ref b136), .val (.ref b151), .val .null, .val (.ref b166), .val (.ref bx_168), .val (.int (1 : Int32)), .unset] [(.ref b166)])) rfl (by rw [hml]; rfl) (Steps.refl _) (argsL := []) (rest := []) (lenOf pd__28__29_Lcom_2f_example_2f_outremer_engine_2f_outremerengine_2f_board_2f_Unit_3b_ rfl) rfl (by show 2 * 0 + _ ≤ _; exact Nat.le_of_eq rfl) (hb hby at_244) (fun _ _ => ⟨rfl, e173, (by decide : 22 + 0 ≤ _), (by decide : 60 + 0 ≤ _)⟩)
        dsimp only [Pt.U, Pt.locs, Pt.cells, Pt.slots] at X175 l175 y175 z175 st175 hQ175
        subst y175 z175
        obtain ⟨rfl, N175q, e175⟩ := hQ175
        have N175 : Fr n0 L175 := by rw [l175]; exact Fr.app N173 N175q
        change Stand _ _ _ _ _ _ _ _ _ _ _ _ 22 60 at X175
        have F_177 : Fld Z T168.heap b166 "com/example/outremer_engine/outremerengine/diplomacy/Order$SupportMove" "supportedType" "Ljava/util/Optional;" .null := (R167_1.keep K168c nin0)
        obtain ⟨cq178, kq178, q178a, q178b, q178c⟩ := isOf hZ e175 E_176
        obtain ⟨_, _, ⟨T178, L178, k178, n178⟩, -, X178, ⟨Lc178, hQ178, l178, y178, z178⟩, st178⟩ := X175.virtualBack hx (y := (⟨"com/example/outremer_engine/outremerengine/diplomacy/Order$SupportMove", "supportedType", "()Ljava/util/Optional;"⟩ : MethodName)) (z := (⟨"com/example/outremer_engine/outremerengine/diplomacy/Order$SupportMove", "supportedType", "()Ljava/util/Optional;"⟩ : MethodName)) hown (mvT hZ (hw _ (List.mem_of_getElem? (i := 90) rfl))) (mvT hZ (hw _ (List.mem_of_getElem? (i := 91) rfl))) (notFace_of_selects (args := #[]) (mvT hZ (hw _ (List.mem_of_getElem? (i := 93) rfl)))) (mvT hZ (hw _ (List.mem_of_getElem? (i := 93) rfl))) (mvT hZ (hw _ (List.mem_of_getElem? (i := 92) rfl))) (by decide) (backOf (W := 0) (rm14_n l Z a0 hw [] b166 T168.heap n0 Z168 F_177) hZ (hw _ (List.mem_of_getElem? (i := 94) rfl)) (hw _ (List.mem_of_getElem? (i := 65) rfl)) (by decide) (by decide)) q178a q178c (g := (mkF m 254 #[.val (.int pp1), .val (.int pp2), .val (.int pp3), .val (.int pp4), .val (.int pp5), .val (.int (0 : Int32)), .val (.int (1 : Int32)), .val (.int (0 : Int32)), .val (.ref b129), .val (.ref b129), .val (.ref b136), .val (.ref b151), .val .null, .val (.ref b166), .val (.ref bx_168), .val (.int (1 : Int32)), .unset] [(.ref b166)])) rfl (by rw [hml]; rfl) (Steps.refl _) (argsL := []) (rest := []) (lenOf pd__28__29_Ljava_2f_util_2f_Optional_3b_ rfl) rfl (by show 2 * 0 + _ ≤ _; exact Nat.le_of_eq rfl) (hb hby at_254) (fun _ _ => ⟨rfl, e175, (by decide : 22 + 0 ≤ _), (by decide : 60 + 0 ≤ _)⟩)
        dsimp only [Pt.U, Pt.locs, Pt.cells, Pt.slots] at X178 l178 y178 z178 st178 hQ178
        subst y178 z178
        obtain ⟨rfl, N178q, e178⟩ := hQ178
        have N178 : Fr n0 L178 := by rw [l178]; exact Fr.app N175 N178q
        change Stand _ _ _ _ _ _ _ _ _ _ _ _ 22 60 at X178
        have F_179 : Fld Z T168.heap b166 "com/example/outremer_engine/outremerengine/diplomacy/Order$SupportMove" "from" "Lcom/example/outremer_engine/outremerengine/board/Place;" (.ref b129) := (R167_2.keep K168c nin0)
        obtain ⟨cq180, kq180, q180a, q180b, q180c⟩ := isOf hZ e178 E_176
        obtain ⟨_, _, ⟨T180, L180, k180, n180⟩, -, X180, ⟨Lc180, hQ180, l180, y180, z180⟩, st180⟩ := X178.virtualBack hx (y := (⟨"com/example/outremer_engine/outremerengine/diplomacy/Order$SupportMove", "from", "()Lcom/example/outremer_engine/outremerengine/board/Place;"⟩ : MethodName)) (z := (⟨"com/example/outremer_engine/outremerengine/diplomacy/Order$SupportMove", "from", "()Lcom/example/outremer_engine/outremerengine/board/Place;"⟩ : MethodName)) hown (mvT hZ (hw _ (List.mem_of_getElem? (i := 95) rfl))) (mvT hZ (hw _ (List.mem_of_getElem? (i := 96) rfl))) (notFace_of_selects (args := #[]) (mvT hZ (hw _ (List.mem_of_getElem? (i := 98) rfl)))) (mvT hZ (hw _ (List.mem_of_getElem? (i := 98) rfl))) (mvT hZ (hw _ (List.mem_of_getElem? (i := 97) rfl))) (by decide) (backOf (W := 0) (rm15 l Z a0 hw [] b166 b129 T168.heap n0 Z168 F_179) hZ (hw _ (List.mem_of_getElem? (i := 99) rfl)) (hw _ (List.mem_of_getElem? (i := 65) rfl)) (by decide) (by decide)) q180a q180c (g := (mkF m 264 #[.val (.int pp1), .val (.int pp2), .val (.int pp3), .val (.int pp4), .val (.int pp5), .val (.int (0 : Int32)), .val (.int (1 : Int32)), .val (.int (0 : Int32)), .val (.ref b129), .val (.ref b129), .val (.ref b136), .val (.ref b151), .val .null, .val (.ref b166), .val (.ref bx_168), .val (.int (1 : Int32)), .unset] [(.ref b166)])) rfl (by rw [hml]; rfl) (Steps.refl _) (argsL := []) (rest := []) (lenOf pd__28__29_Lcom_2f_example_2f_outremer_engine_2f_outremerengine_2f_board_2f_Place_3b_ rfl) rfl (by show 2 * 0 + _ ≤ _; exact Nat.le_of_eq rfl) (hb hby at_264) (fun _ _ => ⟨rfl, e178, (by decide : 22 + 0 ≤ _), (by decide : 60 + 0 ≤ _)⟩)
        dsimp only [Pt.U, Pt.locs, Pt.cells, Pt.slots] at X180 l180 y180 z180 st180 hQ180
        subst y180 z180
        obtain ⟨rfl, N180q, e180⟩ := hQ180
        have N180 : Fr n0 L180 := by rw [l180]; exact Fr.app N178 N180q
        change Stand _ _ _ _ _ _ _ _ _ _ _ _ 22 60 at X180
        have F_181 : Fld Z T168.heap b166 "com/example/outremer_engine/outremerengine/diplomacy/Order$SupportMove" "to" "Lcom/example/outremer_engine/outremerengine/board/Place;" (.ref b129) := (R167_3.keep K168c nin0)
        obtain ⟨cq182, kq182, q182a, q182b, q182c⟩ := isOf hZ e180 E_176
        obtain ⟨_, _, ⟨T182, L182, k182, n182⟩, -, X182, ⟨Lc182, hQ182, l182, y182, z182⟩, st182⟩ := X180.virtualBack hx (y := (⟨"com/example/outremer_engine/outremerengine/diplomacy/Order$SupportMove", "to", "()Lcom/example/outremer_engine/outremerengine/board/Place;"⟩ : MethodName)) (z := (⟨"com/example/outremer_engine/outremerengine/diplomacy/Order$SupportMove", "to", "()Lcom/example/outremer_engine/outremerengine/board/Place;"⟩ : MethodName)) hown (mvT hZ (hw _ (List.mem_of_getElem? (i := 100) rfl))) (mvT hZ (hw _ (List.mem_of_getElem? (i := 101) rfl))) (notFace_of_selects (args := #[]) (mvT hZ (hw _ (List.mem_of_getElem? (i := 103) rfl)))) (mvT hZ (hw _ (List.mem_of_getElem? (i := 103) rfl))) (mvT hZ (hw _ (List.mem_of_getElem? (i := 102) rfl))) (by decide) (backOf (W := 0) (rm16 l Z a0 hw [] b166 b129 T168.heap n0 Z168 F_181) hZ (hw _ (List.mem_of_getElem? (i := 104) rfl)) (hw _ (List.mem_of_getElem? (i := 65) rfl)) (by decide) (by decide)) q182a q182c (g := (mkF m 274 #[.val (.int pp1), .val (.int pp2), .val (.int pp3), .val (.int pp4), .val (.int pp5), .val (.int (0 : Int32)), .val (.int (1 : Int32)), .val (.int (0 : Int32)), .val (.ref b129), .val (.ref b129), .val (.ref b136), .val (.ref b151), .val .null, .val (.ref b166), .val (.ref bx_168), .val (.int (1 : Int32)), .unset] [(.ref b166)])) rfl (by rw [hml]; rfl) (Steps.refl _) (argsL := []) (rest := []) (lenOf pd__28__29_Lcom_2f_example_2f_outremer_engine_2f_outremerengine_2f_board_2f_Place_3b_ rfl) rfl (by show 2 * 0 + _ ≤ _; exact Nat.le_of_eq rfl) (hb hby at_274) (fun _ _ => ⟨rfl, e180, (by decide : 22 + 0 ≤ _), (by decide : 60 + 0 ≤ _)⟩)
        dsimp only [Pt.U, Pt.locs, Pt.cells, Pt.slots] at X182 l182 y182 z182 st182 hQ182
        subst y182 z182
        obtain ⟨rfl, N182q, e182⟩ := hQ182
        have N182 : Fr n0 L182 := by rw [l182]; exact Fr.app N180 N182q
        change Stand _ _ _ _ _ _ _ _ _ _ _ _ 22 60 at X182
        have hc291_3 : ¬ ((1 : Int32) = (0 : Int32)) := by decide
        have hc296_3 : ¬ ((1 : Int32) = (0 : Int32)) := by decide
        obtain ⟨fs, hr, hrun, hended, hW, hsame⟩ := X182.leave (v := some (.int (1 : Int32))) (fun h => by rw [Bd.returns] at h; cases h)
        refine ⟨_, _, pre128 _ ?_, hrun, hended, _, _, rfl, ?_, ⟨_, rfl⟩, hW, hsame.mono (by decide) (by decide)⟩
        · show Steps p.tables e below (s₁.setTop (mkF m 32 #[.val (.int pp1), .val (.int pp2), .val (.int pp3), .val (.int pp4), .val (.int pp5), .val (.int (0 : Int32)), .val (.int (1 : Int32)), .unset, .unset, .unset, .unset, .unset, .unset, .unset, .unset, .unset, .unset] [(.int (pp5 &&& (4 : Int32)))])) _
          refine XS.ifYes X0.here hx rfl (pc0 := 32) (pc' := 39) rfl (hb hby at_32) rfl ((if0 _ _).trans (teq hc32_2).1) (by decide) (by decide) ?_
          refine XS.iconst X0.here hx rfl (hb hby at_39) ?_
          refine XS.istore X0.here hx rfl (hb hby at_40) rfl (l' := #[.val (.int pp1), .val (.int pp2), .val (.int pp3), .val (.int pp4), .val (.int pp5), .val (.int (0 : Int32)), .val (.int (1 : Int32)), .val (.int (0 : Int32)), .unset, .unset, .unset, .unset, .unset, .unset, .unset, .unset, .unset]) rfl ?_
          refine st129 _ ?_
          refine XS.dup X129.here hx rfl (hb hby at_45) rfl rfl ?_
          refine XS.aconstNull X129.here hx rfl (hb hby at_46) ?_
          refine XS.iloadN X129.here hx rfl (hb hby at_47) rfl ?_
          refine st131 _ ?_
          refine st135.trans ?_
          refine XS.astore X135.here hx rfl (hb hby at_54) rfl rfl (l' := #[.val (.int pp1), .val (.int pp2), .val (.int pp3), .val (.int pp4), .val (.int pp5), .val (.int (0 : Int32)), .val (.int (1 : Int32)), .val (.int (0 : Int32)), .val (.ref b129), .unset, .unset, .unset, .unset, .unset, .unset, .unset, .unset]) rfl ?_
          refine XS.iload X135.here hx rfl (hb hby at_56) rfl ?_
          refine XS.ifNo X135.here hx rfl (hb hby at_58) rfl ((if0 _ _).trans (feq hc58_3).1) ?_
          refine XS.aload X135.here hx rfl (hb hby at_61) rfl rfl ?_
          refine XS.goto X135.here hx rfl (pc0 := 63) (pc' := 78) rfl (hb hby at_63) (by decide) (by decide) ?_
          refine XS.astore X135.here hx rfl (hb hby at_78) rfl rfl (l' := #[.val (.int pp1), .val (.int pp2), .val (.int pp3), .val (.int pp4), .val (.int pp5), .val (.int (0 : Int32)), .val (.int (1 : Int32)), .val (.int (0 : Int32)), .val (.ref b129), .val (.ref b129), .unset, .unset, .unset, .unset, .unset, .unset, .unset]) rfl ?_
          refine st136 _ ?_
          refine XS.dup X136.here hx rfl (hb hby at_83) rfl rfl ?_
          refine XS.iloadN X136.here hx rfl (hb hby at_84) rfl ?_
          refine st138 _ ?_
          refine XS.aconstNull X138.here hx rfl (hb hby at_88) ?_
          refine st139 _ ?_
          refine XS.dup X139.here hx rfl (hb hby at_92) rfl rfl ?_
          refine XS.aconstNull X139.here hx rfl (hb hby at_93) ?_
          refine XS.iloadN X139.here hx rfl (hb hby at_94) rfl ?_
          refine XS.bipush X139.here hx rfl (hb hby at_95) ?_
          refine XS.iushr X139.here hx rfl (hb hby at_97) rfl ?_
          refine st141 _ ?_
          refine st145.trans ?_
          refine st150.trans ?_
          refine XS.astore X150.here hx rfl (hb hby at_107) rfl rfl (l' := #[.val (.int pp1), .val (.int pp2), .val (.int pp3), .val (.int pp4), .val (.int pp5), .val (.int (0 : Int32)), .val (.int (1 : Int32)), .val (.int (0 : Int32)), .val (.ref b129), .val (.ref b129), .val (.ref b136), .unset, .unset, .unset, .unset, .unset, .unset]) rfl ?_
          refine XS.iload X150.here hx rfl (hb hby at_109) rfl ?_
          refine XS.ifYes X150.here hx rfl (pc0 := 111) (pc' := 119) rfl (hb hby at_111) rfl ((if0 _ _).trans (teq hc111_3).1) (by decide) (by decide) ?_
          refine st151 _ ?_
          refine XS.dup X151.here hx rfl (hb hby at_122) rfl rfl ?_
          refine XS.iloadN X151.here hx rfl (hb hby at_123) rfl ?_
          refine st153 _ ?_
          refine XS.aconstNull X153.here hx rfl (hb hby at_127) ?_
          refine st154 _ ?_
          refine XS.dup X154.here hx rfl (hb hby at_131) rfl rfl ?_
          refine XS.aconstNull X154.here hx rfl (hb hby at_132) ?_
          refine XS.iloadN X154.here hx rfl (hb hby at_133) rfl ?_
          refine XS.bipush X154.here hx rfl (hb hby at_134) ?_
          refine XS.iushr X154.here hx rfl (hb hby at_136) rfl ?_
          refine st156 _ ?_
          refine st160.trans ?_
          refine st165.trans ?_
          refine XS.astore X165.here hx rfl (hb hby at_146) rfl rfl (l' := #[.val (.int pp1), .val (.int pp2), .val (.int pp3), .val (.int pp4), .val (.int pp5), .val (.int (0 : Int32)), .val (.int (1 : Int32)), .val (.int (0 : Int32)), .val (.ref b129), .val (.ref b129), .val (.ref b136), .val (.ref b151), .unset, .unset, .unset, .unset, .unset]) rfl ?_
          refine XS.iload X165.here hx rfl (hb hby at_148) rfl ?_
          refine XS.ifYes X165.here hx rfl (pc0 := 150) (pc' := 159) rfl (hb hby at_150) rfl ((if0 _ _).trans (teq hc150_3).1) (by decide) (by decide) ?_
          refine XS.aconstNull X165.here hx rfl (hb hby at_159) ?_
          refine XS.astore X165.here hx rfl (hb hby at_160) rfl rfl (l' := #[.val (.int pp1), .val (.int pp2), .val (.int pp3), .val (.int pp4), .val (.int pp5), .val (.int (0 : Int32)), .val (.int (1 : Int32)), .val (.int (0 : Int32)), .val (.ref b129), .val (.ref b129), .val (.ref b136), .val (.ref b151), .val .null, .unset, .unset, .unset, .unset]) rfl ?_
          refine st166 _ ?_
          refine XS.dup X166.here hx rfl (hb hby at_165) rfl rfl ?_
          refine XS.aload X166.here hx rfl (hb hby at_166) rfl rfl ?_
          refine XS.aload X166.here hx rfl (hb hby at_168) rfl rfl ?_
          refine XS.aload X166.here hx rfl (hb hby at_170) rfl rfl ?_
          refine XS.aload X166.here hx rfl (hb hby at_172) rfl rfl ?_
          refine st167.trans ?_
          refine XS.astore X167.here hx rfl (hb hby at_177) rfl rfl (l' := #[.val (.int pp1), .val (.int pp2), .val (.int pp3), .val (.int pp4), .val (.int pp5), .val (.int (0 : Int32)), .val (.int (1 : Int32)), .val (.int (0 : Int32)), .val (.ref b129), .val (.ref b129), .val (.ref b136), .val (.ref b151), .val .null, .val (.ref b166), .unset, .unset, .unset]) rfl ?_
          refine XS.aload X167.here hx rfl (hb hby at_179) rfl rfl ?_
          refine XS.aload X167.here hx rfl (hb hby at_181) rfl rfl ?_
          refine st168.trans ?_
          refine XS.astore X168.here hx rfl (hb hby at_186) rfl rfl (l' := #[.val (.int pp1), .val (.int pp2), .val (.int pp3), .val (.int pp4), .val (.int pp5), .val (.int (0 : Int32)), .val (.int (1 : Int32)), .val (.int (0 : Int32)), .val (.ref b129), .val (.ref b129), .val (.ref b136), .val (.ref b151), .val .null, .val (.ref b166), .val (.ref bx_168), .unset, .unset]) rfl ?_
          refine XS.aload X168.here hx rfl (hb hby at_188) rfl rfl ?_
          refine XS.ifnonnullYes X168.here hx rfl (pc0 := 190) (pc' := 195) rfl (hb hby at_190) rfl (by decide) (by decide) ?_
          refine XS.aload X168.here hx rfl (hb hby at_195) rfl rfl ?_
          refine st170.trans ?_
          refine XS.aload X170.here hx rfl (hb hby at_200) rfl rfl ?_
          refine Jvm.RoadKit.acmp (g := (mkF m 202 #[.val (.int pp1), .val (.int pp2), .val (.int pp3), .val (.int pp4), .val (.int pp5), .val (.int (0 : Int32)), .val (.int (1 : Int32)), .val (.int (0 : Int32)), .val (.ref b129), .val (.ref b129), .val (.ref b136), .val (.ref b151), .val .null, .val (.ref b166), .val (.ref bx_168), .unset, .unset] [(.ref b151), (.ref b151)])) X170 hx rfl rfl rfl (pc0 := 202) (pc' := 205) (same := true) rfl (hb hby at_202) rfl (decide_eq_true rfl) (by decide) (by decide) ?_
          refine XS.aload X170.here hx rfl (hb hby at_205) rfl rfl ?_
          refine st171.trans ?_
          refine XS.aload X171.here hx rfl (hb hby at_210) rfl rfl ?_
          refine Jvm.RoadKit.acmp (g := (mkF m 212 #[.val (.int pp1), .val (.int pp2), .val (.int pp3), .val (.int pp4), .val (.int pp5), .val (.int (0 : Int32)), .val (.int (1 : Int32)), .val (.int (0 : Int32)), .val (.ref b129), .val (.ref b129), .val (.ref b136), .val (.ref b151), .val .null, .val (.ref b166), .val (.ref bx_168), .unset, .unset] [.null, .null])) X171 hx rfl rfl rfl (pc0 := 212) (pc' := 215) (same := true) rfl (hb hby at_212) rfl (decide_eq_true rfl) (by decide) (by decide) ?_
          refine XS.aload X171.here hx rfl (hb hby at_215) rfl rfl ?_
          refine st172.trans ?_
          refine XS.aload X172.here hx rfl (hb hby at_220) rfl rfl ?_
          refine Jvm.RoadKit.acmp (g := (mkF m 222 #[.val (.int pp1), .val (.int pp2), .val (.int pp3), .val (.int pp4), .val (.int pp5), .val (.int (0 : Int32)), .val (.int (1 : Int32)), .val (.int (0 : Int32)), .val (.ref b129), .val (.ref b129), .val (.ref b136), .val (.ref b151), .val .null, .val (.ref b166), .val (.ref bx_168), .unset, .unset] [(.ref b129), (.ref b129)])) X172 hx rfl rfl rfl (pc0 := 222) (pc' := 225) (same := true) rfl (hb hby at_222) rfl (decide_eq_true rfl) (by decide) (by decide) ?_
          refine XS.aload X172.here hx rfl (hb hby at_225) rfl rfl ?_
          refine st173.trans ?_
          refine XS.aload X173.here hx rfl (hb hby at_230) rfl rfl ?_
          refine Jvm.RoadKit.acmp (g := (mkF m 232 #[.val (.int pp1), .val (.int pp2), .val (.int pp3), .val (.int pp4), .val (.int pp5), .val (.int (0 : Int32)), .val (.int (1 : Int32)), .val (.int (0 : Int32)), .val (.ref b129), .val (.ref b129), .val (.ref b136), .val (.ref b151), .val .null, .val (.ref b166), .val (.ref bx_168), .unset, .unset] [(.ref b129), (.ref b129)])) X173 hx rfl rfl rfl (pc0 := 232) (pc' := 235) (same := true) rfl (hb hby at_232) rfl (decide_eq_true rfl) (by decide) (by decide) ?_
          refine XS.iconst X173.here hx rfl (hb hby at_235) ?_
          refine XS.goto X173.here hx rfl (pc0 := 236) (pc' := 240) rfl (hb hby at_236) (by decide) (by decide) ?_
          refine XS.istore X173.here hx rfl (hb hby at_240) rfl (l' := #[.val (.int pp1), .val (.int pp2), .val (.int pp3), .val (.int pp4), .val (.int pp5), .val (.int (0 : Int32)), .val (.int (1 : Int32)), .val (.int (0 : Int32)), .val (.ref b129), .val (.ref b129), .val (.ref b136), .val (.ref b151), .val .null, .val (.ref b166), .val (.ref bx_168), .val (.int (1 : Int32)), .unset]) rfl ?_
          refine XS.aload X173.here hx rfl (hb hby at_242) rfl rfl ?_
          refine st175.trans ?_
          refine XS.aload X175.here hx rfl (hb hby at_247) rfl rfl ?_
          refine Jvm.RoadKit.acmp (g := (mkF m 249 #[.val (.int pp1), .val (.int pp2), .val (.int pp3), .val (.int pp4), .val (.int pp5), .val (.int (0 : Int32)), .val (.int (1 : Int32)), .val (.int (0 : Int32)), .val (.ref b129), .val (.ref b129), .val (.ref b136), .val (.ref b151), .val .null, .val (.ref b166), .val (.ref bx_168), .val (.int (1 : Int32)), .unset] [(.ref b136), (.ref b136)])) X175 hx rfl rfl rfl (pc0 := 249) (pc' := 252) (same := true) rfl (hb hby at_249) rfl (decide_eq_true rfl) (by decide) (by decide) ?_
          refine XS.aload X175.here hx rfl (hb hby at_252) rfl rfl ?_
          refine st178.trans ?_
          refine XS.aload X178.here hx rfl (hb hby at_257) rfl rfl ?_
          refine Jvm.RoadKit.acmp (g := (mkF m 259 #[.val (.int pp1), .val (.int pp2), .val (.int pp3), .val (.int pp4), .val (.int pp5), .val (.int (0 : Int32)), .val (.int (1 : Int32)), .val (.int (0 : Int32)), .val (.ref b129), .val (.ref b129), .val (.ref b136), .val (.ref b151), .val .null, .val (.ref b166), .val (.ref bx_168), .val (.int (1 : Int32)), .unset] [.null, .null])) X178 hx rfl rfl rfl (pc0 := 259) (pc' := 262) (same := true) rfl (hb hby at_259) rfl (decide_eq_true rfl) (by decide) (by decide) ?_
          refine XS.aload X178.here hx rfl (hb hby at_262) rfl rfl ?_
          refine st180.trans ?_
          refine XS.aload X180.here hx rfl (hb hby at_267) rfl rfl ?_
          refine Jvm.RoadKit.acmp (g := (mkF m 269 #[.val (.int pp1), .val (.int pp2), .val (.int pp3), .val (.int pp4), .val (.int pp5), .val (.int (0 : Int32)), .val (.int (1 : Int32)), .val (.int (0 : Int32)), .val (.ref b129), .val (.ref b129), .val (.ref b136), .val (.ref b151), .val .null, .val (.ref b166), .val (.ref bx_168), .val (.int (1 : Int32)), .unset] [(.ref b129), (.ref b129)])) X180 hx rfl rfl rfl (pc0 := 269) (pc' := 272) (same := true) rfl (hb hby at_269) rfl (decide_eq_true rfl) (by decide) (by decide) ?_
          refine XS.aload X180.here hx rfl (hb hby at_272) rfl rfl ?_
          refine st182.trans ?_
          refine XS.aload X182.here hx rfl (hb hby at_277) rfl rfl ?_
          refine Jvm.RoadKit.acmp (g := (mkF m 279 #[.val (.int pp1), .val (.int pp2), .val (.int pp3), .val (.int pp4), .val (.int pp5), .val (.int (0 : Int32)), .val (.int (1 : Int32)), .val (.int (0 : Int32)), .val (.ref b129), .val (.ref b129), .val (.ref b136), .val (.ref b151), .val .null, .val (.ref b166), .val (.ref bx_168), .val (.int (1 : Int32)), .unset] [(.ref b129), (.ref b129)])) X182 hx rfl rfl rfl (pc0 := 279) (pc' := 282) (same := true) rfl (hb hby at_279) rfl (decide_eq_true rfl) (by decide) (by decide) ?_
          refine XS.iconst X182.here hx rfl (hb hby at_282) ?_
          refine XS.goto X182.here hx rfl (pc0 := 283) (pc' := 287) rfl (hb hby at_283) (by decide) (by decide) ?_
          refine XS.istore X182.here hx rfl (hb hby at_287) rfl (l' := #[.val (.int pp1), .val (.int pp2), .val (.int pp3), .val (.int pp4), .val (.int pp5), .val (.int (0 : Int32)), .val (.int (1 : Int32)), .val (.int (0 : Int32)), .val (.ref b129), .val (.ref b129), .val (.ref b136), .val (.ref b151), .val .null, .val (.ref b166), .val (.ref bx_168), .val (.int (1 : Int32)), .val (.int (1 : Int32))]) rfl ?_
          refine XS.iload X182.here hx rfl (hb hby at_289) rfl ?_
          refine XS.ifNo X182.here hx rfl (hb hby at_291) rfl ((if0 _ _).trans (feq hc291_3).1) ?_
          refine XS.iload X182.here hx rfl (hb hby at_294) rfl ?_
          refine XS.ifNo X182.here hx rfl (hb hby at_296) rfl ((if0 _ _).trans (feq hc296_3).1) ?_
          refine XS.iconst X182.here hx rfl (hb hby at_299) ?_
          refine XS.goto X182.here hx rfl (pc0 := 300) (pc' := 304) rfl (hb hby at_300) (by decide) (by decide) ?_
          exact retN X182 hx (t := .boolean) Bd.returns (by simp) (hb hby at_304) hr
        · show Q0 Z pp1 pp2 pp3 pp4 pp5 cs op h0 n0 _ T182.heap _
          rw [e182]
          exact ⟨rfl, N182⟩
      · skip
        obtain ⟨T183, h183, X183, e183, E183, A183, D183, -, st183⟩ := newO X0 hx hZ hown (hw _ (List.mem_of_getElem? (i := 0) rfl)) (hw _ (List.mem_of_getElem? (i := 1) rfl)) (hw _ (List.mem_of_getElem? (i := 2) rfl)) e0 (g := (mkF m 42 #[.val (.int pp1), .val (.int pp2), .val (.int pp3), .val (.int pp4), .val (.int pp5), .val (.int (0 : Int32)), .val (.int (1 : Int32)), .val (.int (1 : Int32)), .unset, .unset, .unset, .unset, .unset, .unset, .unset, .unset, .unset] [])) rfl (hb hby at_42) (by decide) (by decide)
        obtain ⟨b183, g183⟩ : ∃ z, z = h0.size := ⟨_, rfl⟩
        rw [← g183] at A183 D183 st183
        have g_b183 : n0 ≤ b183 := Nat.le_trans Z0 (Nat.le_of_eq g183.symm)
        have Z183 : n0 ≤ h183.size := Nat.le_trans Z0 E183.1
        have F183_province : Fld Z h183 b183 "com/example/outremer_engine/outremerengine/board/Place" "province" "Lcom/example/outremer_engine/outremerengine/board/Province;" .null := D183 (Or.inr (hw _ (List.mem_of_getElem? (i := 47) rfl))) (ty := (.object "com/example/outremer_engine/outremerengine/board/Province")) (by decide)
        have F183_coast : Fld Z h183 b183 "com/example/outremer_engine/outremerengine/board/Place" "coast" "Ljava/lang/String;" .null := D183 (Or.inr (hw _ (List.mem_of_getElem? (i := 49) rfl))) (ty := (.object "java/lang/String")) (by decide)
        have O_184 : Old Z n0 h183 := (O0.ext E183)
        obtain ⟨_, _, ⟨T185, L185, k185, n185⟩, -, X185, ⟨Lc185, hQ185, l185, y185, z185⟩, st185⟩ := Jvm.LawKit.callS X183 hx (y := (⟨"com/example/outremer_engine/outremerengine/diplomacy/SupportMoveGivenToPinLaw", "drawn", "(I)Ljava/lang/String;"⟩ : MethodName)) hown (mvT hZ (hw _ (List.mem_of_getElem? (i := 3) rfl))) (mvT hZ (hw _ (List.mem_of_getElem? (i := 4) rfl))) (mvT hZ (hw _ (List.mem_of_getElem? (i := 5) rfl))) (mvT hZ (hw _ (List.mem_of_getElem? (i := 6) rfl))) (by decide) (backOf (W := 3) (rm1 l Z a0 hw [] pp3 cs h183 n0 Z183 O_184 S_COMPACT_STRINGS (show ¬ cs = (0 : Int32) from hcs)) hZ (hw _ (List.mem_of_getElem? (i := 6) rfl)) (hw _ (List.mem_of_getElem? (i := 5) rfl)) (by decide) (by decide)) (g := (mkF m 48 #[.val (.int pp1), .val (.int pp2), .val (.int pp3), .val (.int pp4), .val (.int pp5), .val (.int (0 : Int32)), .val (.int (1 : Int32)), .val (.int (1 : Int32)), .unset, .unset, .unset, .unset, .unset, .unset, .unset, .unset, .unset] [(.int pp3), .null, (.ref b183), (.ref b183)])) rfl (by rw [hml]; rfl) (argsL := [(.int pp3)]) (rest := [.null, (.ref b183), (.ref b183)]) (lenOf pd__28_I_29_Ljava_2f_lang_2f_String_3b_ rfl) rfl (by show 2 * 0 + _ ≤ _; exact Nat.le_of_eq rfl) (hb hby at_48) (fun _ _ => ⟨rfl, e183, (by decide : 1 + 3 ≤ _), (by decide : 2 + 8 ≤ _)⟩)
        dsimp only [Pt.U, Pt.locs, Pt.cells, Pt.slots] at X185 l185 y185 z185 st185 hQ185
        subst y185 z185
        obtain ⟨bx_185, rfl, N185q, K185c, g_bx_185, sb_bx_185⟩ := hQ185
        have N185 : Fr n0 L185 := by rw [l185]; exact Fr.app N0 N185q
        have Z185 : n0 ≤ T185.heap.size := Nat.le_trans Z183 K185c.1
        change Stand _ _ _ _ _ _ _ _ _ _ _ _ 4 10 at X185
        have E_186 : Exa Z T185.heap b183 "com/example/outremer_engine/outremerengine/board/Place" := (A183.keep K185c)
        have F_187 : Fld Z T185.heap b183 "com/example/outremer_engine/outremerengine/board/Place" "province" "Lcom/example/outremer_engine/outremerengine/board/Province;" .null := (F183_province.keep K185c nin0)
        have F_188 : Fld Z T185.heap b183 "com/example/outremer_engine/outremerengine/board/Place" "coast" "Ljava/lang/String;" .null := (F183_coast.keep K185c nin0)
        obtain ⟨_, _, ⟨T189, L189, k189, n189⟩, -, X189, ⟨Lc189, hQ189, l189, y189, z189⟩, st189⟩ := X185.specialBack hx (y := (⟨"com/example/outremer_engine/outremerengine/board/Place", "<init>", "(Lcom/example/outremer_engine/outremerengine/board/Province;Ljava/lang/String;)V"⟩ : MethodName)) rfl hown (mvT hZ (hw _ (List.mem_of_getElem? (i := 37) rfl))) (mvT hZ (hw _ (List.mem_of_getElem? (i := 38) rfl))) (mvT hZ (hw _ (List.mem_of_getElem? (i := 39) rfl))) (by decide) (backOf (W := 1) (rm8 l Z a0 hw [] b183 bx_185 .null .null T185.heap n0 Z185 E_186 g_b183 F_187 F_188) hZ (hw _ (List.mem_of_getElem? (i := 39) rfl)) (hw _ (List.mem_of_getElem? (i := 2) rfl)) (by decide) (by decide)) (g := (mkF m 51 #[.val (.int pp1), .val (.int pp2), .val (.int pp3), .val (.int pp4), .val (.int pp5), .val (.int (0 : Int32)), .val (.int (1 : Int32)), .val (.int (1 : Int32)), .unset, .unset, .unset, .unset, .unset, .unset, .unset, .unset, .unset] [(.ref bx_185), .null, (.ref b183), (.ref b183)])) rfl (by rw [hml]; rfl) (Steps.refl _) (a := b183) (argsL := [.null, (.ref bx_185)]) (rest := [(.ref b183)]) (lenOf pd__28_Lcom_2f_example_2f_outremer_engine_2f_outremerengine_2f_board_2f_Province_3b_Ljava_2f_lang_2f_String_3b__29_V rfl) rfl (by show 2 * 0 + _ ≤ _; exact Nat.le_of_eq rfl) (hb hby at_51) (fun _ _ => ⟨rfl, rfl, (by decide : 4 + 0 ≤ _), (by decide : 10 + 0 ≤ _)⟩)
        dsimp only [Pt.U, Pt.locs, Pt.cells, Pt.slots] at X189 l189 y189 z189 st189 hQ189
        subst y189 z189
        obtain ⟨rfl, N189q, K189c, R189_0, R189_1⟩ := hQ189
        have N189 : Fr n0 L189 := by rw [l189]; exact Fr.app N185 N189q
        have Z189 : n0 ≤ T189.heap.size := Nat.le_trans Z185 K189c.1
        change Stand _ _ _ _ _ _ _ _ _ _ _ _ 4 10 at X189
        have hc58_4 : ¬ ((1 : Int32) = (0 : Int32)) := by decide
        obtain ⟨T190, h190, X190, e190, E190, A190, D190, -, st190⟩ := newO X189 hx hZ hown (hw _ (List.mem_of_getElem? (i := 50) rfl)) (hw _ (List.mem_of_getElem? (i := 51) rfl)) (hw _ (List.mem_of_getElem? (i := 52) rfl)) rfl (g := (mkF m 80 #[.val (.int pp1), .val (.int pp2), .val (.int pp3), .val (.int pp4), .val (.int pp5), .val (.int (0 : Int32)), .val (.int (1 : Int32)), .val (.int (1 : Int32)), .val (.ref b183), .val (.ref b183), .unset, .unset, .unset, .unset, .unset, .unset, .unset] [])) rfl (hb hby at_80) (by decide) (by decide)
        obtain ⟨b190, g190⟩ : ∃ z, z = T189.heap.size := ⟨_, rfl⟩
        rw [← g190] at A190 D190 st190
        have g_b190 : n0 ≤ b190 := Nat.le_trans Z189 (Nat.le_of_eq g190.symm)
        have Z190 : n0 ≤ h190.size := Nat.le_trans Z189 E190.1
        have F190_nation : Fld Z h190 b190 "com/example/outremer_engine/outremerengine/board/Unit" "nation" "Ljava/lang/String;" .null := D190 (Or.inr (hw _ (List.mem_of_getElem? (i := 58) rfl))) (ty := (.object "java/lang/String")) (by decide)
        have F190_type : Fld Z h190 b190 "com/example/outremer_engine/outremerengine/board/Unit" "type" "Lcom/example/outremer_engine/outremerengine/board/UnitType;" .null := D190 (Or.inr (hw _ (List.mem_of_getElem? (i := 60) rfl))) (ty := (.object "com/example/outremer_engine/outremerengine/board/UnitType")) (by decide)
        have F190_place : Fld Z h190 b190 "com/example/outremer_engine/outremerengine/board/Unit" "place" "Lcom/example/outremer_engine/outremerengine/board/Place;" .null := D190 (Or.inr (hw _ (List.mem_of_getElem? (i := 62) rfl))) (ty := (.object "com/example/outremer_engine/outremerengine/board/Place")) (by decide)
        have O_191 : Old Z n0 h190 := (((O_184.keep K185c all0).keep K189c (allS g_b183 all0)).ext E190)
        obtain ⟨_, _, ⟨T192, L192, k192, n192⟩, -, X192, ⟨Lc192, hQ192, l192, y192, z192⟩, st192⟩ := Jvm.LawKit.callS X190 hx (y := (⟨"com/example/outremer_engine/outremerengine/diplomacy/SupportMoveGivenToPinLaw", "drawn", "(I)Ljava/lang/String;"⟩ : MethodName)) hown (mvT hZ (hw _ (List.mem_of_getElem? (i := 3) rfl))) (mvT hZ (hw _ (List.mem_of_getElem? (i := 4) rfl))) (mvT hZ (hw _ (List.mem_of_getElem? (i := 5) rfl))) (mvT hZ (hw _ (List.mem_of_getElem? (i := 6) rfl))) (by decide) (backOf (W := 2) (rm1 l Z a0 hw [] pp1 cs h190 n0 Z190 O_191 S_COMPACT_STRINGS (show ¬ cs = (0 : Int32) from hcs)) hZ (hw _ (List.mem_of_getElem? (i := 6) rfl)) (hw _ (List.mem_of_getElem? (i := 5) rfl)) (by decide) (by decide)) (g := (mkF m 85 #[.val (.int pp1), .val (.int pp2), .val (.int pp3), .val (.int pp4), .val (.int pp5), .val (.int (0 : Int32)), .val (.int (1 : Int32)), .val (.int (1 : Int32)), .val (.ref b183), .val (.ref b183), .unset, .unset, .unset, .unset, .unset, .unset, .unset] [(.int pp1), (.ref b190), (.ref b190)])) rfl (by rw [hml]; rfl) (argsL := [(.int pp1)]) (rest := [(.ref b190), (.ref b190)]) (lenOf pd__28_I_29_Ljava_2f_lang_2f_String_3b_ rfl) rfl (by show 2 * 0 + _ ≤ _; exact Nat.le_of_eq rfl) (hb hby at_85) (fun _ _ => ⟨rfl, e190, (by decide : 5 + 3 ≤ _), (by decide : 13 + 8 ≤ _)⟩)
        dsimp only [Pt.U, Pt.locs, Pt.cells, Pt.slots] at X192 l192 y192 z192 st192 hQ192
        subst y192 z192
        obtain ⟨bx_192, rfl, N192q, K192c, g_bx_192, sb_bx_192⟩ := hQ192
        have N192 : Fr n0 L192 := by rw [l192]; exact Fr.app N189 N192q
        have Z192 : n0 ≤ T192.heap.size := Nat.le_trans Z190 K192c.1
        change Stand _ _ _ _ _ _ _ _ _ _ _ _ 8 21 at X192
        obtain ⟨T193, h193, X193, e193, E193, A193, D193, -, st193⟩ := newO X192 hx hZ hown (hw _ (List.mem_of_getElem? (i := 0) rfl)) (hw _ (List.mem_of_getElem? (i := 1) rfl)) (hw _ (List.mem_of_getElem? (i := 2) rfl)) rfl (g := (mkF m 89 #[.val (.int pp1), .val (.int pp2), .val (.int pp3), .val (.int pp4), .val (.int pp5), .val (.int (0 : Int32)), .val (.int (1 : Int32)), .val (.int (1 : Int32)), .val (.ref b183), .val (.ref b183), .unset, .unset, .unset, .unset, .unset, .unset, .unset] [.null, (.ref bx_192), (.ref b190), (.ref b190)])) rfl (hb hby at_89) (by decide) (by decide)
        obtain ⟨b193, g193⟩ : ∃ z, z = T192.heap.size := ⟨_, rfl⟩
        rw [← g193] at A193 D193 st193
        have g_b193 : n0 ≤ b193 := Nat.le_trans Z192 (Nat.le_of_eq g193.symm)
        have Z193 : n0 ≤ h193.size := Nat.le_trans Z192 E193.1
        have F193_province : Fld Z h193 b193 "com/example/outremer_engine/outremerengine/board/Place" "province" "Lcom/example/outremer_engine/outremerengine/board/Province;" .null := D193 (Or.inr (hw _ (List.mem_of_getElem? (i := 47) rfl))) (ty := (.object "com/example/outremer_engine/outremerengine/board/Province")) (by decide)
        have F193_coast : Fld Z h193 b193 "com/example/outremer_engine/outremerengine/board/Place" "coast" "Ljava/lang/String;" .null := D193 (Or.inr (hw _ (List.mem_of_getElem? (i := 49) rfl))) (ty := (.object "java/lang/String")) (by decide)
        have O_194 : Old Z n0 h193 := ((O_191.keep K192c all0).ext E193)
        obtain ⟨_, _, ⟨T195, L195, k195, n195⟩, -, X195, ⟨Lc195, hQ195, l195, y195, z195⟩, st195⟩ := Jvm.LawKit.callS X193 hx (y := (⟨"com/example/outremer_engine/outremerengine/diplomacy/SupportMoveGivenToPinLaw", "drawn", "(I)Ljava/lang/String;"⟩ : MethodName)) hown (mvT hZ (hw _ (List.mem_of_getElem? (i := 3) rfl))) (mvT hZ (hw _ (List.mem_of_getElem? (i := 4) rfl))) (mvT hZ (hw _ (List.mem_of_getElem? (i := 5) rfl))) (mvT hZ (hw _ (List.mem_of_getElem? (i := 6) rfl))) (by decide) (backOf (W := 7) (rm1 l Z a0 hw [] ((pp4.toUInt32 >>> ((16 : Int32) &&& 31).toUInt32).toInt32) cs h193 n0 Z193 O_194 S_COMPACT_STRINGS (show ¬ cs = (0 : Int32) from hcs)) hZ (hw _ (List.mem_of_getElem? (i := 6) rfl)) (hw _ (List.mem_of_getElem? (i := 5) rfl)) (by decide) (by decide)) (g := (mkF m 98 #[.val (.int pp1), .val (.int pp2), .val (.int pp3), .val (.int pp4), .val (.int pp5), .val (.int (0 : Int32)), .val (.int (1 : Int32)), .val (.int (1 : Int32)), .val (.ref b183), .val (.ref b183), .unset, .unset, .unset, .unset, .unset, .unset, .unset] [(.int ((pp4.toUInt32 >>> ((16 : Int32) &&& 31).toUInt32).toInt32)), .null, (.ref b193), (.ref b193), .null, (.ref bx_192), (.ref b190), (.ref b190)])) rfl (by rw [hml]; rfl) (argsL := [(.int ((pp4.toUInt32 >>> ((16 : Int32) &&& 31).toUInt32).toInt32))]) (rest := [.null, (.ref b193), (.ref b193), .null, (.ref bx_192), (.ref b190), (.ref b190)]) (lenOf pd__28_I_29_Ljava_2f_lang_2f_String_3b_ rfl) rfl (by show 2 * 0 + _ ≤ _; exact Nat.le_of_eq rfl) (hb hby at_98) (fun _ _ => ⟨rfl, e193, (by decide : 9 + 3 ≤ _), (by decide : 23 + 8 ≤ _)⟩)
        dsimp only [Pt.U, Pt.locs, Pt.cells, Pt.slots] at X195 l195 y195 z195 st195 hQ195
        subst y195 z195
        obtain ⟨bx_195, rfl, N195q, K195c, g_bx_195, sb_bx_195⟩ := hQ195
        have N195 : Fr n0 L195 := by rw [l195]; exact Fr.app N192 N195q
        have Z195 : n0 ≤ T195.heap.size := Nat.le_trans Z193 K195c.1
        change Stand _ _ _ _ _ _ _ _ _ _ _ _ 12 31 at X195
        have E_196 : Exa Z T195.heap b193 "com/example/outremer_engine/outremerengine/board/Place" := (A193.keep K195c)
        have F_197 : Fld Z T195.heap b193 "com/example/outremer_engine/outremerengine/board/Place" "province" "Lcom/example/outremer_engine/outremerengine/board/Province;" .null := (F193_province.keep K195c nin0)
        have F_198 : Fld Z T195.heap b193 "com/example/outremer_engine/outremerengine/board/Place" "coast" "Ljava/lang/String;" .null := (F193_coast.keep K195c nin0)
        obtain ⟨_, _, ⟨T199, L199, k199, n199⟩, -, X199, ⟨Lc199, hQ199, l199, y199, z199⟩, st199⟩ := X195.specialBack hx (y := (⟨"com/example/outremer_engine/outremerengine/board/Place", "<init>", "(Lcom/example/outremer_engine/outremerengine/board/Province;Ljava/lang/String;)V"⟩ : MethodName)) rfl hown (mvT hZ (hw _ (List.mem_of_getElem? (i := 37) rfl))) (mvT hZ (hw _ (List.mem_of_getElem? (i := 38) rfl))) (mvT hZ (hw _ (List.mem_of_getElem? (i := 39) rfl))) (by decide) (backOf (W := 5) (rm8 l Z a0 hw [] b193 bx_195 .null .null T195.heap n0 Z195 E_196 g_b193 F_197 F_198) hZ (hw _ (List.mem_of_getElem? (i := 39) rfl)) (hw _ (List.mem_of_getElem? (i := 2) rfl)) (by decide) (by decide)) (g := (mkF m 101 #[.val (.int pp1), .val (.int pp2), .val (.int pp3), .val (.int pp4), .val (.int pp5), .val (.int (0 : Int32)), .val (.int (1 : Int32)), .val (.int (1 : Int32)), .val (.ref b183), .val (.ref b183), .unset, .unset, .unset, .unset, .unset, .unset, .unset] [(.ref bx_195), .null, (.ref b193), (.ref b193), .null, (.ref bx_192), (.ref b190), (.ref b190)])) rfl (by rw [hml]; rfl) (Steps.refl _) (a := b193) (argsL := [.null, (.ref bx_195)]) (rest := [(.ref b193), .null, (.ref bx_192), (.ref b190), (.ref b190)]) (lenOf pd__28_Lcom_2f_example_2f_outremer_engine_2f_outremerengine_2f_board_2f_Province_3b_Ljava_2f_lang_2f_String_3b__29_V rfl) rfl (by show 2 * 0 + _ ≤ _; exact Nat.le_of_eq rfl) (hb hby at_101) (fun _ _ => ⟨rfl, rfl, (by decide : 12 + 0 ≤ _), (by decide : 31 + 0 ≤ _)⟩)
        dsimp only [Pt.U, Pt.locs, Pt.cells, Pt.slots] at X199 l199 y199 z199 st199 hQ199
        subst y199 z199
        obtain ⟨rfl, N199q, K199c, R199_0, R199_1⟩ := hQ199
        have N199 : Fr n0 L199 := by rw [l199]; exact Fr.app N195 N199q
        have Z199 : n0 ≤ T199.heap.size := Nat.le_trans Z195 K199c.1
        change Stand _ _ _ _ _ _ _ _ _ _ _ _ 12 31 at X199
        have E_200 : Exa Z T199.heap b190 "com/example/outremer_engine/outremerengine/board/Unit" := ((((A190.keep K192c).ext E193).keep K195c).keep K199c)
        have F_201 : Fld Z T199.heap b190 "com/example/outremer_engine/outremerengine/board/Unit" "nation" "Ljava/lang/String;" .null := ((((F190_nation.keep K192c nin0).ext E193).keep K195c nin0).keep K199c (ninS (Nat.ne_of_lt (Nat.lt_of_lt_of_le (A190.keep K192c).lt (Nat.le_of_eq g193.symm))) nin0))
        have F_202 : Fld Z T199.heap b190 "com/example/outremer_engine/outremerengine/board/Unit" "type" "Lcom/example/outremer_engine/outremerengine/board/UnitType;" .null := ((((F190_type.keep K192c nin0).ext E193).keep K195c nin0).keep K199c (ninS (Nat.ne_of_lt (Nat.lt_of_lt_of_le (A190.keep K192c).lt (Nat.le_of_eq g193.symm))) nin0))
        have F_203 : Fld Z T199.heap b190 "com/example/outremer_engine/outremerengine/board/Unit" "place" "Lcom/example/outremer_engine/outremerengine/board/Place;" .null := ((((F190_place.keep K192c nin0).ext E193).keep K195c nin0).keep K199c (ninS (Nat.ne_of_lt (Nat.lt_of_lt_of_le (A190.keep K192c).lt (Nat.le_of_eq g193.symm))) nin0))
        obtain ⟨_, _, ⟨T204, L204, k204, n204⟩, -, X204, ⟨Lc204, hQ204, l204, y204, z204⟩, st204⟩ := X199.specialBack hx (y := (⟨"com/example/outremer_engine/outremerengine/board/Unit", "<init>", "(Ljava/lang/String;Lcom/example/outremer_engine/outremerengine/board/UnitType;Lcom/example/outremer_engine/outremerengine/board/Place;)V"⟩ : MethodName)) rfl hown (mvT hZ (hw _ (List.mem_of_getElem? (i := 53) rfl))) (mvT hZ (hw _ (List.mem_of_getElem? (i := 54) rfl))) (mvT hZ (hw _ (List.mem_of_getElem? (i := 55) rfl))) (by decide) (backOf (W := 1) (rm10 l Z a0 hw [] b190 bx_192 b193 .null .null .null T199.heap n0 Z199 E_200 g_b190 F_201 F_202 F_203) hZ (hw _ (List.mem_of_getElem? (i := 55) rfl)) (hw _ (List.mem_of_getElem? (i := 52) rfl)) (by decide) (by decide)) (g := (mkF m 104 #[.val (.int pp1), .val (.int pp2), .val (.int pp3), .val (.int pp4), .val (.int pp5), .val (.int (0 : Int32)), .val (.int (1 : Int32)), .val (.int (1 : Int32)), .val (.ref b183), .val (.ref b183), .unset, .unset, .unset, .unset, .unset, .unset, .unset] [(.ref b193), .null, (.ref bx_192), (.ref b190), (.ref b190)])) rfl (by rw [hml]; rfl) (Steps.refl _) (a := b190) (argsL := [(.ref bx_192), .null, (.ref b193)]) (rest := [(.ref b190)]) (lenOf pd__28_Ljava_2f_lang_2f_String_3b_Lcom_2f_example_2f_outremer_engine_2f_outremerengine_2f_board_2f_UnitType_3b_Lcom_2f_example_2f_outremer_engine_2f_outremerengine_2f_board_2f_Place_3b__29_V rfl) rfl (by show 2 * 0 + _ ≤ _; exact Nat.le_of_eq rfl) (hb hby at_104) (fun _ _ => ⟨rfl, rfl, (by decide : 12 + 0 ≤ _), (by decide : 31 + 0 ≤ _)⟩)
        dsimp only [Pt.U, Pt.locs, Pt.cells, Pt.slots] at X204 l204 y204 z204 st204 hQ204
        subst y204 z204
        obtain ⟨rfl, N204q, K204c, R204_0, R204_1, R204_2⟩ := hQ204
        have N204 : Fr n0 L204 := by rw [l204]; exact Fr.app N199 N204q
        have Z204 : n0 ≤ T204.heap.size := Nat.le_trans Z199 K204c.1
        change Stand _ _ _ _ _ _ _ _ _ _ _ _ 12 31 at X204
        have hc111_4 : (0 : Int32) = (0 : Int32) := by decide
        obtain ⟨T205, h205, X205, e205, E205, A205, D205, -, st205⟩ := newO X204 hx hZ hown (hw _ (List.mem_of_getElem? (i := 50) rfl)) (hw _ (List.mem_of_getElem? (i := 51) rfl)) (hw _ (List.mem_of_getElem? (i := 52) rfl)) rfl (g := (mkF m 119 #[.val (.int pp1), .val (.int pp2), .val (.int pp3), .val (.int pp4), .val (.int pp5), .val (.int (0 : Int32)), .val (.int (1 : Int32)), .val (.int (1 : Int32)), .val (.ref b183), .val (.ref b183), .val (.ref b190), .unset, .unset, .unset, .unset, .unset, .unset] [])) rfl (hb hby at_119) (by decide) (by decide)
        obtain ⟨b205, g205⟩ : ∃ z, z = T204.heap.size := ⟨_, rfl⟩
        rw [← g205] at A205 D205 st205
        have g_b205 : n0 ≤ b205 := Nat.le_trans Z204 (Nat.le_of_eq g205.symm)
        have Z205 : n0 ≤ h205.size := Nat.le_trans Z204 E205.1
        have F205_nation : Fld Z h205 b205 "com/example/outremer_engine/outremerengine/board/Unit" "nation" "Ljava/lang/String;" .null := D205 (Or.inr (hw _ (List.mem_of_getElem? (i := 58) rfl))) (ty := (.object "java/lang/String")) (by decide)
        have F205_type : Fld Z h205 b205 "com/example/outremer_engine/outremerengine/board/Unit" "type" "Lcom/example/outremer_engine/outremerengine/board/UnitType;" .null := D205 (Or.inr (hw _ (List.mem_of_getElem? (i := 60) rfl))) (ty := (.object "com/example/outremer_engine/outremerengine/board/UnitType")) (by decide)
        have F205_place : Fld Z h205 b205 "com/example/outremer_engine/outremerengine/board/Unit" "place" "Lcom/example/outremer_engine/outremerengine/board/Place;" .null := D205 (Or.inr (hw _ (List.mem_of_getElem? (i := 62) rfl))) (ty := (.object "com/example/outremer_engine/outremerengine/board/Place")) (by decide)
        have O_206 : Old Z n0 h205 := ((((O_194.keep K195c all0).keep K199c (allS g_b193 all0)).keep K204c (allS g_b190 all0)).ext E205)
        obtain ⟨_, _, ⟨T207, L207, k207, n207⟩, -, X207, ⟨Lc207, hQ207, l207, y207, z207⟩, st207⟩ := Jvm.LawKit.callS X205 hx (y := (⟨"com/example/outremer_engine/outremerengine/diplomacy/SupportMoveGivenToPinLaw", "drawn", "(I)Ljava/lang/String;"⟩ : MethodName)) hown (mvT hZ (hw _ (List.mem_of_getElem? (i := 3) rfl))) (mvT hZ (hw _ (List.mem_of_getElem? (i := 4) rfl))) (mvT hZ (hw _ (List.mem_of_getElem? (i := 5) rfl))) (mvT hZ (hw _ (List.mem_of_getElem? (i := 6) rfl))) (by decide) (backOf (W := 2) (rm1 l Z a0 hw [] pp2 cs h205 n0 Z205 O_206 S_COMPACT_STRINGS (show ¬ cs = (0 : Int32) from hcs)) hZ (hw _ (List.mem_of_getElem? (i := 6) rfl)) (hw _ (List.mem_of_getElem? (i := 5) rfl)) (by decide) (by decide)) (g := (mkF m 124 #[.val (.int pp1), .val (.int pp2), .val (.int pp3), .val (.int pp4), .val (.int pp5), .val (.int (0 : Int32)), .val (.int (1 : Int32)), .val (.int (1 : Int32)), .val (.ref b183), .val (.ref b183), .val (.ref b190), .unset, .unset, .unset, .unset, .unset, .unset] [(.int pp2), (.ref b205), (.ref b205)])) rfl (by rw [hml]; rfl) (argsL := [(.int pp2)]) (rest := [(.ref b205), (.ref b205)]) (lenOf pd__28_I_29_Ljava_2f_lang_2f_String_3b_ rfl) rfl (by show 2 * 0 + _ ≤ _; exact Nat.le_of_eq rfl) (hb hby at_124) (fun _ _ => ⟨rfl, e205, (by decide : 13 + 3 ≤ _), (by decide : 34 + 8 ≤ _)⟩)
        dsimp only [Pt.U, Pt.locs, Pt.cells, Pt.slots] at X207 l207 y207 z207 st207 hQ207
        subst y207 z207
        obtain ⟨bx_207, rfl, N207q, K207c, g_bx_207, sb_bx_207⟩ := hQ207
        have N207 : Fr n0 L207 := by rw [l207]; exact Fr.app N204 N207q
        have Z207 : n0 ≤ T207.heap.size := Nat.le_trans Z205 K207c.1
        change Stand _ _ _ _ _ _ _ _ _ _ _ _ 16 42 at X207
        obtain ⟨T208, h208, X208, e208, E208, A208, D208, -, st208⟩ := newO X207 hx hZ hown (hw _ (List.mem_of_getElem? (i := 0) rfl)) (hw _ (List.mem_of_getElem? (i := 1) rfl)) (hw _ (List.mem_of_getElem? (i := 2) rfl)) rfl (g := (mkF m 128 #[.val (.int pp1), .val (.int pp2), .val (.int pp3), .val (.int pp4), .val (.int pp5), .val (.int (0 : Int32)), .val (.int (1 : Int32)), .val (.int (1 : Int32)), .val (.ref b183), .val (.ref b183), .val (.ref b190), .unset, .unset, .unset, .unset, .unset, .unset] [.null, (.ref bx_207), (.ref b205), (.ref b205)])) rfl (hb hby at_128) (by decide) (by decide)
        obtain ⟨b208, g208⟩ : ∃ z, z = T207.heap.size := ⟨_, rfl⟩
        rw [← g208] at A208 D208 st208
        have g_b208 : n0 ≤ b208 := Nat.le_trans Z207 (Nat.le_of_eq g208.symm)
        have Z208 : n0 ≤ h208.size := Nat.le_trans Z207 E208.1
        have F208_province : Fld Z h208 b208 "com/example/outremer_engine/outremerengine/board/Place" "province" "Lcom/example/outremer_engine/outremerengine/board/Province;" .null := D208 (Or.inr (hw _ (List.mem_of_getElem? (i := 47) rfl))) (ty := (.object "com/example/outremer_engine/outremerengine/board/Province")) (by decide)
        have F208_coast : Fld Z h208 b208 "com/example/outremer_engine/outremerengine/board/Place" "coast" "Ljava/lang/String;" .null := D208 (Or.inr (hw _ (List.mem_of_getElem? (i := 49) rfl))) (ty := (.object "java/lang/String")) (by decide)
        have O_209 : Old Z n0 h208 := ((O_206.keep K207c all0).ext E208)
        obtain ⟨_, _, ⟨T210, L210, k210, n210⟩, -, X210, ⟨Lc210, hQ210, l210, y210, z210⟩, st210⟩ := Jvm.LawKit.callS X208 hx (y := (⟨"com/example/outremer_engine/outremerengine/diplomacy/SupportMoveGivenToPinLaw", "drawn", "(I)Ljava/lang/String;"⟩ : MethodName)) hown (mvT hZ (hw _ (List.mem_of_getElem? (i := 3) rfl))) (mvT hZ (hw _ (List.mem_of_getElem? (i := 4) rfl))) (mvT hZ (hw _ (List.mem_of_getElem? (i := 5) rfl))) (mvT hZ (hw _ (List.mem_of_getElem? (i := 6) rfl))) (by decide) (backOf (W := 7) (rm1 l Z a0 hw [] ((pp3.toUInt32 >>> ((16 : Int32) &&& 31).toUInt32).toInt32) cs h208 n0 Z208 O_209 S_COMPACT_STRINGS (show ¬ cs = (0 : Int32) from hcs)) hZ (hw _ (List.mem_of_getElem? (i := 6) rfl)) (hw _ (List.mem_of_getElem? (i := 5) rfl)) (by decide) (by decide)) (g := (mkF m 137 #[.val (.int pp1), .val (.int pp2), .val (.int pp3), .val (.int pp4), .val (.int pp5), .val (.int (0 : Int32)), .val (.int (1 : Int32)), .val (.int (1 : Int32)), .val (.ref b183), .val (.ref b183), .val (.ref b190), .unset, .unset, .unset, .unset, .unset, .unset] [(.int ((pp3.toUInt32 >>> ((16 : Int32) &&& 31).toUInt32).toInt32)), .null, (.ref b208), (.ref b208), .null, (.ref bx_207), (.ref b205), (.ref b205)])) rfl (by rw [hml]; rfl) (argsL := [(.int ((pp3.toUInt32 >>> ((16 : Int32) &&& 31).toUInt32).toInt32))]) (rest := [.null, (.ref b208), (.ref b208), .null, (.ref bx_207), (.ref b205), (.ref b205)]) (lenOf pd__28_I_29_Ljava_2f_lang_2f_String_3b_ rfl) rfl (by show 2 * 0 + _ ≤ _; exact Nat.le_of_eq rfl) (hb hby at_137) (fun _ _ => ⟨rfl, e208, (by decide : 17 + 3 ≤ _), (by decide : 44 + 8 ≤ _)⟩)
        dsimp only [Pt.U, Pt.locs, Pt.cells, Pt.slots] at X210 l210 y210 z210 st210 hQ210
        subst y210 z210
        obtain ⟨bx_210, rfl, N210q, K210c, g_bx_210, sb_bx_210⟩ := hQ210
        have N210 : Fr n0 L210 := by rw [l210]; exact Fr.app N207 N210q
        have Z210 : n0 ≤ T210.heap.size := Nat.le_trans Z208 K210c.1
        change Stand _ _ _ _ _ _ _ _ _ _ _ _ 20 52 at X210
        have E_211 : Exa Z T210.heap b208 "com/example/outremer_engine/outremerengine/board/Place" := (A208.keep K210c)
        have F_212 : Fld Z T210.heap b208 "com/example/outremer_engine/outremerengine/board/Place" "province" "Lcom/example/outremer_engine/outremerengine/board/Province;" .null := (F208_province.keep K210c nin0)
        have F_213 : Fld Z T210.heap b208 "com/example/outremer_engine/outremerengine/board/Place" "coast" "Ljava/lang/String;" .null := (F208_coast.keep K210c nin0)
        obtain ⟨_, _, ⟨T214, L214, k214, n214⟩, -, X214, ⟨Lc214, hQ214, l214, y214, z214⟩, st214⟩ := X210.specialBack hx (y := (⟨"com/example/outremer_engine/outremerengine/board/Place", "<init>", "(Lcom/example/outremer_engine/outremerengine/board/Province;Ljava/lang/String;)V"⟩ : MethodName)) rfl hown (mvT hZ (hw _ (List.mem_of_getElem? (i := 37) rfl))) (mvT hZ (hw _ (List.mem_of_getElem? (i := 38) rfl))) (mvT hZ (hw _ (List.mem_of_getElem? (i := 39) rfl))) (by decide) (backOf (W := 5) (rm8 l Z a0 hw [] b208 bx_210 .null .null T210.heap n0 Z210 E_211 g_b208 F_212 F_213) hZ (hw _ (List.mem_of_getElem? (i := 39) rfl)) (hw _ (List.mem_of_getElem? (i := 2) rfl)) (by decide) (by decide)) (g := (mkF m 140 #[.val (.int pp1), .val (.int pp2), .val (.int pp3), .val (.int pp4), .val (.int pp5), .val (.int (0 : Int32)), .val (.int (1 : Int32)), .val (.int (1 : Int32)), .val (.ref b183), .val (.ref b183), .val (.ref b190), .unset, .unset, .unset, .unset, .unset, .unset] [(.ref bx_210), .null, (.ref b208), (.ref b208), .null, (.ref bx_207), (.ref b205), (.ref b205)])) rfl (by rw [hml]; rfl) (Steps.refl _) (a := b208) (argsL := [.null, (.ref bx_210)]) (rest := [(.ref b208), .null, (.ref bx_207), (.ref b205), (.ref b205)]) (lenOf pd__28_Lcom_2f_example_2f_outremer_engine_2f_outremerengine_2f_board_2f_Province_3b_Ljava_2f_lang_2f_String_3b__29_V rfl) rfl (by show 2 * 0 + _ ≤ _; exact Nat.le_of_eq rfl) (hb hby at_140) (fun _ _ => ⟨rfl, rfl, (by decide : 20 + 0 ≤ _), (by decide : 52 + 0 ≤ _)⟩)
        dsimp only [Pt.U, Pt.locs, Pt.cells, Pt.slots] at X214 l214 y214 z214 st214 hQ214
        subst y214 z214
        obtain ⟨rfl, N214q, K214c, R214_0, R214_1⟩ := hQ214
        have N214 : Fr n0 L214 := by rw [l214]; exact Fr.app N210 N214q
        have Z214 : n0 ≤ T214.heap.size := Nat.le_trans Z210 K214c.1
        change Stand _ _ _ _ _ _ _ _ _ _ _ _ 20 52 at X214
        have E_215 : Exa Z T214.heap b205 "com/example/outremer_engine/outremerengine/board/Unit" := ((((A205.keep K207c).ext E208).keep K210c).keep K214c)
        have F_216 : Fld Z T214.heap b205 "com/example/outremer_engine/outremerengine/board/Unit" "nation" "Ljava/lang/String;" .null := ((((F205_nation.keep K207c nin0).ext E208).keep K210c nin0).keep K214c (ninS (Nat.ne_of_lt (Nat.lt_of_lt_of_le (A205.keep K207c).lt (Nat.le_of_eq g208.symm))) nin0))
        have F_217 : Fld Z T214.heap b205 "com/example/outremer_engine/outremerengine/board/Unit" "type" "Lcom/example/outremer_engine/outremerengine/board/UnitType;" .null := ((((F205_type.keep K207c nin0).ext E208).keep K210c nin0).keep K214c (ninS (Nat.ne_of_lt (Nat.lt_of_lt_of_le (A205.keep K207c).lt (Nat.le_of_eq g208.symm))) nin0))
        have F_218 : Fld Z T214.heap b205 "com/example/outremer_engine/outremerengine/board/Unit" "place" "Lcom/example/outremer_engine/outremerengine/board/Place;" .null := ((((F205_place.keep K207c nin0).ext E208).keep K210c nin0).keep K214c (ninS (Nat.ne_of_lt (Nat.lt_of_lt_of_le (A205.keep K207c).lt (Nat.le_of_eq g208.symm))) nin0))
        obtain ⟨_, _, ⟨T219, L219, k219, n219⟩, -, X219, ⟨Lc219, hQ219, l219, y219, z219⟩, st219⟩ := X214.specialBack hx (y := (⟨"com/example/outremer_engine/outremerengine/board/Unit", "<init>", "(Ljava/lang/String;Lcom/example/outremer_engine/outremerengine/board/UnitType;Lcom/example/outremer_engine/outremerengine/board/Place;)V"⟩ : MethodName)) rfl hown (mvT hZ (hw _ (List.mem_of_getElem? (i := 53) rfl))) (mvT hZ (hw _ (List.mem_of_getElem? (i := 54) rfl))) (mvT hZ (hw _ (List.mem_of_getElem? (i := 55) rfl))) (by decide) (backOf (W := 1) (rm10 l Z a0 hw [] b205 bx_207 b208 .null .null .null T214.heap n0 Z214 E_215 g_b205 F_216 F_217 F_218) hZ (hw _ (List.mem_of_getElem? (i := 55) rfl)) (hw _ (List.mem_of_getElem? (i := 52) rfl)) (by decide) (by decide)) (g := (mkF m 143 #[.val (.int pp1), .val (.int pp2), .val (.int pp3), .val (.int pp4), .val (.int pp5), .val (.int (0 : Int32)), .val (.int (1 : Int32)), .val (.int (1 : Int32)), .val (.ref b183), .val (.ref b183), .val (.ref b190), .unset, .unset, .unset, .unset, .unset, .unset] [(.ref b208), .null, (.ref bx_207), (.ref b205), (.ref b205)])) rfl (by rw [hml]; rfl) (Steps.refl _) (a := b205) (argsL := [(.ref bx_207), .null, (.ref b208)]) (rest := [(.ref b205)]) (lenOf pd__28_Ljava_2f_lang_2f_String_3b_Lcom_2f_example_2f_outremer_engine_2f_outremerengine_2f_board_2f_UnitType_3b_Lcom_2f_example_2f_outremer_engine_2f_outremerengine_2f_board_2f_Place_3b__29_V rfl) rfl (by show 2 * 0 + _ ≤ _; exact Nat.le_of_eq rfl) (hb hby at_143) (fun _ _ => ⟨rfl, rfl, (by decide : 20 + 0 ≤ _), (by decide : 52 + 0 ≤ _)⟩)
        dsimp only [Pt.U, Pt.locs, Pt.cells, Pt.slots] at X219 l219 y219 z219 st219 hQ219
        subst y219 z219
        obtain ⟨rfl, N219q, K219c, R219_0, R219_1, R219_2⟩ := hQ219
        have N219 : Fr n0 L219 := by rw [l219]; exact Fr.app N214 N219q
        have Z219 : n0 ≤ T219.heap.size := Nat.le_trans Z214 K219c.1
        change Stand _ _ _ _ _ _ _ _ _ _ _ _ 20 52 at X219
        have hc150_4 : ¬ ((1 : Int32) = (0 : Int32)) := by decide
        have O_220 : Old Z n0 T219.heap := (((O_209.keep K210c all0).keep K214c (allS g_b208 all0)).keep K219c (allS g_b205 all0))
        obtain ⟨_, _, ⟨T221, L221, k221, n221⟩, -, X221, ⟨Lc221, hQ221, l221, y221, z221⟩, st221⟩ := Jvm.LawKit.callS X219 hx (y := (⟨"java/util/Optional", "empty", "()Ljava/util/Optional;"⟩ : MethodName)) hown (mvT hZ (hw _ (List.mem_of_getElem? (i := 105) rfl))) (mvT hZ (hw _ (List.mem_of_getElem? (i := 106) rfl))) (mvT hZ (hw _ (List.mem_of_getElem? (i := 107) rfl))) (mvT hZ (hw _ (List.mem_of_getElem? (i := 108) rfl))) (by decide) (backOf (W := 0) (rm17 l Z a0 hw [] op T219.heap n0 Z219 O_220 S_EMPTY) hZ (hw _ (List.mem_of_getElem? (i := 108) rfl)) (hw _ (List.mem_of_getElem? (i := 107) rfl)) (by decide) (by decide)) (g := (mkF m 153 #[.val (.int pp1), .val (.int pp2), .val (.int pp3), .val (.int pp4), .val (.int pp5), .val (.int (0 : Int32)), .val (.int (1 : Int32)), .val (.int (1 : Int32)), .val (.ref b183), .val (.ref b183), .val (.ref b190), .val (.ref b205), .unset, .unset, .unset, .unset, .unset] [])) rfl (by rw [hml]; rfl) (argsL := []) (rest := []) (lenOf pd__28__29_Ljava_2f_util_2f_Optional_3b_ rfl) rfl (by show 2 * 0 + _ ≤ _; exact Nat.le_of_eq rfl) (hb hby at_153) (fun _ _ => ⟨rfl, rfl, (by decide : 20 + 0 ≤ _), (by decide : 52 + 0 ≤ _)⟩)
        dsimp only [Pt.U, Pt.locs, Pt.cells, Pt.slots] at X221 l221 y221 z221 st221 hQ221
        subst y221 z221
        obtain ⟨rfl, N221q, e221⟩ := hQ221
        have N221 : Fr n0 L221 := by rw [l221]; exact Fr.app N219 N221q
        change Stand _ _ _ _ _ _ _ _ _ _ _ _ 20 52 at X221
        obtain ⟨T222, h222, X222, e222, E222, A222, D222, -, st222⟩ := newO X221 hx hZ hown (hw _ (List.mem_of_getElem? (i := 63) rfl)) (hw _ (List.mem_of_getElem? (i := 64) rfl)) (hw _ (List.mem_of_getElem? (i := 65) rfl)) e221 (g := (mkF m 162 #[.val (.int pp1), .val (.int pp2), .val (.int pp3), .val (.int pp4), .val (.int pp5), .val (.int (0 : Int32)), .val (.int (1 : Int32)), .val (.int (1 : Int32)), .val (.ref b183), .val (.ref b183), .val (.ref b190), .val (.ref b205), .val (.ref op), .unset, .unset, .unset, .unset] [])) rfl (hb hby at_162) (by decide) (by decide)
        obtain ⟨b222, g222⟩ : ∃ z, z = T219.heap.size := ⟨_, rfl⟩
        rw [← g222] at A222 D222 st222
        have g_b222 : n0 ≤ b222 := Nat.le_trans Z219 (Nat.le_of_eq g222.symm)
        have Z222 : n0 ≤ h222.size := Nat.le_trans Z219 E222.1
        have F222_unit : Fld Z h222 b222 "com/example/outremer_engine/outremerengine/diplomacy/Order$SupportMove" "unit" "Lcom/example/outremer_engine/outremerengine/board/Unit;" .null := D222 (Or.inr (hw _ (List.mem_of_getElem? (i := 71) rfl))) (ty := (.object "com/example/outremer_engine/outremerengine/board/Unit")) (by decide)
        have F222_supportedType : Fld Z h222 b222 "com/example/outremer_engine/outremerengine/diplomacy/Order$SupportMove" "supportedType" "Ljava/util/Optional;" .null := D222 (Or.inr (hw _ (List.mem_of_getElem? (i := 73) rfl))) (ty := (.object "java/util/Optional")) (by decide)
        have F222_from : Fld Z h222 b222 "com/example/outremer_engine/outremerengine/diplomacy/Order$SupportMove" "from" "Lcom/example/outremer_engine/outremerengine/board/Place;" .null := D222 (Or.inr (hw _ (List.mem_of_getElem? (i := 75) rfl))) (ty := (.object "com/example/outremer_engine/outremerengine/board/Place")) (by decide)
        have F222_to : Fld Z h222 b222 "com/example/outremer_engine/outremerengine/diplomacy/Order$SupportMove" "to" "Lcom/example/outremer_engine/outremerengine/board/Place;" .null := D222 (Or.inr (hw _ (List.mem_of_getElem? (i := 77) rfl))) (ty := (.object "com/example/outremer_engine/outremerengine/board/Place")) (by decide)
        obtain ⟨_, _, ⟨T223, L223, k223, n223⟩, -, X223, ⟨Lc223, hQ223, l223, y223, z223⟩, st223⟩ := X222.specialBack hx (y := (⟨"com/example/outremer_engine/outremerengine/diplomacy/Order$SupportMove", "<init>", "(Lcom/example/outremer_engine/outremerengine/board/Unit;Ljava/util/Optional;Lcom/example/outremer_engine/outremerengine/board/Place;Lcom/example/outremer_engine/outremerengine/board/Place;)V"⟩ : MethodName)) rfl hown (mvT hZ (hw _ (List.mem_of_getElem? (i := 66) rfl))) (mvT hZ (hw _ (List.mem_of_getElem? (i := 67) rfl))) (mvT hZ (hw _ (List.mem_of_getElem? (i := 68) rfl))) (by decide) (backOf (W := 1) (rm11_o l Z a0 hw [] b222 b190 op b183 b183 .null .null .null .null h222 n0 Z222 A222 g_b222 F222_unit F222_supportedType F222_from F222_to) hZ (hw _ (List.mem_of_getElem? (i := 68) rfl)) (hw _ (List.mem_of_getElem? (i := 65) rfl)) (by decide) (by decide)) (g := (mkF m 174 #[.val (.int pp1), .val (.int pp2), .val (.int pp3), .val (.int pp4), .val (.int pp5), .val (.int (0 : Int32)), .val (.int (1 : Int32)), .val (.int (1 : Int32)), .val (.ref b183), .val (.ref b183), .val (.ref b190), .val (.ref b205), .val (.ref op), .unset, .unset, .unset, .unset] [(.ref b183), (.ref b183), (.ref op), (.ref b190), (.ref b222), (.ref b222)])) rfl (by rw [hml]; rfl) (Steps.refl _) (a := b222) (argsL := [(.ref b190), (.ref op), (.ref b183), (.ref b183)]) (rest := [(.ref b222)]) (lenOf pd__28_Lcom_2f_example_2f_outremer_engine_2f_outremerengine_2f_board_2f_Unit_3b_Ljava_2f_util_2f_Optional_3b_Lcom_2f_example_2f_outremer_engine_2f_outremerengine_2f_board_2f_Place_3b_Lcom_2f_example_2f_outremer_engine_2f_outremerengine_2f_board_2f_Place_3b__29_V rfl) rfl (by show 2 * 0 + _ ≤ _; exact Nat.le_of_eq rfl) (hb hby at_174) (fun _ _ => ⟨rfl, e222, (by decide : 21 + 0 ≤ _), (by decide : 56 + 0 ≤ _)⟩)
        dsimp only [Pt.U, Pt.locs, Pt.cells, Pt.slots] at X223 l223 y223 z223 st223 hQ223
        subst y223 z223
        obtain ⟨rfl, N223q, K223c, R223_0, R223_1, R223_2, R223_3⟩ := hQ223
        have N223 : Fr n0 L223 := by rw [l223]; exact Fr.app N221 N223q
        have Z223 : n0 ≤ T223.heap.size := Nat.le_trans Z222 K223c.1
        change Stand _ _ _ _ _ _ _ _ _ _ _ _ 21 56 at X223
        have E_225 : Exa Z T223.heap b222 "com/example/outremer_engine/outremerengine/diplomacy/Order$SupportMove" := (A222.keep K223c)
        obtain ⟨cq224, kq224, q224a, q224b, q224c⟩ := isOf hZ rfl E_225
        obtain ⟨_, _, ⟨T224, L224, k224, n224⟩, -, X224, ⟨Lc224, hQ224, l224, y224, z224⟩, st224⟩ := X223.virtualBack hx (y := (⟨"com/example/outremer_engine/outremerengine/diplomacy/Order$SupportMove", "givenTo", "(Lcom/example/outremer_engine/outremerengine/board/Unit;)Lcom/example/outremer_engine/outremerengine/diplomacy/Order$SupportMove;"⟩ : MethodName)) (z := (⟨"com/example/outremer_engine/outremerengine/diplomacy/Order$SupportMove", "givenTo", "(Lcom/example/outremer_engine/outremerengine/board/Unit;)Lcom/example/outremer_engine/outremerengine/diplomacy/Order$SupportMove;"⟩ : MethodName)) hown (mvT hZ (hw _ (List.mem_of_getElem? (i := 78) rfl))) (mvT hZ (hw _ (List.mem_of_getElem? (i := 79) rfl))) (notFace_of_selects (args := #[]) (mvT hZ (hw _ (List.mem_of_getElem? (i := 81) rfl)))) (mvT hZ (hw _ (List.mem_of_getElem? (i := 81) rfl))) (mvT hZ (hw _ (List.mem_of_getElem? (i := 80) rfl))) (by decide) (backOf (W := 0) (rm12_o l Z a0 hw [] b222 b205 op b183 b183 T223.heap n0 Z223 R223_1 R223_2 R223_3) hZ (hw _ (List.mem_of_getElem? (i := 82) rfl)) (hw _ (List.mem_of_getElem? (i := 65) rfl)) (by decide) (by decide)) q224a q224c (g := (mkF m 183 #[.val (.int pp1), .val (.int pp2), .val (.int pp3), .val (.int pp4), .val (.int pp5), .val (.int (0 : Int32)), .val (.int (1 : Int32)), .val (.int (1 : Int32)), .val (.ref b183), .val (.ref b183), .val (.ref b190), .val (.ref b205), .val (.ref op), .val (.ref b222), .unset, .unset, .unset] [(.ref b205), (.ref b222)])) rfl (by rw [hml]; rfl) (Steps.refl _) (argsL := [(.ref b205)]) (rest := []) (lenOf pd__28_Lcom_2f_example_2f_outremer_engine_2f_outremerengine_2f_board_2f_Unit_3b__29_Lcom_2f_example_2f_outremer_engine_2f_outremerengine_2f_diplomacy_2f_Order_24_SupportMove_3b_ rfl) rfl (by show 2 * 0 + _ ≤ _; exact Nat.le_of_eq rfl) (hb hby at_183) (fun _ _ => ⟨rfl, rfl, (by decide : 21 + 1 ≤ _), (by decide : 56 + 4 ≤ _)⟩)
        dsimp only [Pt.U, Pt.locs, Pt.cells, Pt.slots] at X224 l224 y224 z224 st224 hQ224
        subst y224 z224
        obtain ⟨bx_224, rfl, N224q, K224c, g_bx_224, sb_bx_224, R224_0, R224_1, R224_2, R224_3, R224_4⟩ := hQ224
        have N224 : Fr n0 L224 := by rw [l224]; exact Fr.app N223 N224q
        have Z224 : n0 ≤ T224.heap.size := Nat.le_trans Z223 K224c.1
        change Stand _ _ _ _ _ _ _ _ _ _ _ _ 22 60 at X224
        obtain ⟨cq226, kq226, q226a, q226b, q226c⟩ := isOf hZ rfl R224_0
        obtain ⟨_, _, ⟨T226, L226, k226, n226⟩, -, X226, ⟨Lc226, hQ226, l226, y226, z226⟩, st226⟩ := X224.virtualBack hx (y := (⟨"com/example/outremer_engine/outremerengine/diplomacy/Order$SupportMove", "unit", "()Lcom/example/outremer_engine/outremerengine/board/Unit;"⟩ : MethodName)) (z := (⟨"com/example/outremer_engine/outremerengine/diplomacy/Order$SupportMove", "unit", "()Lcom/example/outremer_engine/outremerengine/board/Unit;"⟩ : MethodName)) hown (mvT hZ (hw _ (List.mem_of_getElem? (i := 85) rfl))) (mvT hZ (hw _ (List.mem_of_getElem? (i := 86) rfl))) (notFace_of_selects (args := #[]) (mvT hZ (hw _ (List.mem_of_getElem? (i := 88) rfl)))) (mvT hZ (hw _ (List.mem_of_getElem? (i := 88) rfl))) (mvT hZ (hw _ (List.mem_of_getElem? (i := 87) rfl))) (by decide) (backOf (W := 0) (rm13 l Z a0 hw [] bx_224 b205 T224.heap n0 Z224 R224_1) hZ (hw _ (List.mem_of_getElem? (i := 89) rfl)) (hw _ (List.mem_of_getElem? (i := 65) rfl)) (by decide) (by decide)) q226a q226c (g := (mkF m 197 #[.val (.int pp1), .val (.int pp2), .val (.int pp3), .val (.int pp4), .val (.int pp5), .val (.int (0 : Int32)), .val (.int (1 : Int32)), .val (.int (1 : Int32)), .val (.ref b183), .val (.ref b183), .val (.ref b190), .val (.ref b205), .val (.ref op), .val (.ref b222), .val (.ref bx_224), .unset, .unset] [(.ref bx_224)])) rfl (by rw [hml]; rfl) (Steps.refl _) (argsL := []) (rest := []) (lenOf pd__28__29_Lcom_2f_example_2f_outremer_engine_2f_outremerengine_2f_board_2f_Unit_3b_ rfl) rfl (by show 2 * 0 + _ ≤ _; exact Nat.le_of_eq rfl) (hb hby at_197) (fun _ _ => ⟨rfl, rfl, (by decide : 22 + 0 ≤ _), (by decide : 60 + 0 ≤ _)⟩)
        dsimp only [Pt.U, Pt.locs, Pt.cells, Pt.slots] at X226 l226 y226 z226 st226 hQ226
        subst y226 z226
        obtain ⟨rfl, N226q, e226⟩ := hQ226
        have N226 : Fr n0 L226 := by rw [l226]; exact Fr.app N224 N226q
        change Stand _ _ _ _ _ _ _ _ _ _ _ _ 22 60 at X226
        obtain ⟨cq227, kq227, q227a, q227b, q227c⟩ := isOf hZ e226 R224_0
        obtain ⟨_, _, ⟨T227, L227, k227, n227⟩, -, X227, ⟨Lc227, hQ227, l227, y227, z227⟩, st227⟩ := X226.virtualBack hx (y := (⟨"com/example/outremer_engine/outremerengine/diplomacy/Order$SupportMove", "supportedType", "()Ljava/util/Optional;"⟩ : MethodName)) (z := (⟨"com/example/outremer_engine/outremerengine/diplomacy/Order$SupportMove", "supportedType", "()Ljava/util/Optional;"⟩ : MethodName)) hown (mvT hZ (hw _ (List.mem_of_getElem? (i := 90) rfl))) (mvT hZ (hw _ (List.mem_of_getElem? (i := 91) rfl))) (notFace_of_selects (args := #[]) (mvT hZ (hw _ (List.mem_of_getElem? (i := 93) rfl)))) (mvT hZ (hw _ (List.mem_of_getElem? (i := 93) rfl))) (mvT hZ (hw _ (List.mem_of_getElem? (i := 92) rfl))) (by decide) (backOf (W := 0) (rm14_o l Z a0 hw [] bx_224 op T224.heap n0 Z224 R224_2) hZ (hw _ (List.mem_of_getElem? (i := 94) rfl)) (hw _ (List.mem_of_getElem? (i := 65) rfl)) (by decide) (by decide)) q227a q227c (g := (mkF m 207 #[.val (.int pp1), .val (.int pp2), .val (.int pp3), .val (.int pp4), .val (.int pp5), .val (.int (0 : Int32)), .val (.int (1 : Int32)), .val (.int (1 : Int32)), .val (.ref b183), .val (.ref b183), .val (.ref b190), .val (.ref b205), .val (.ref op), .val (.ref b222), .val (.ref bx_224), .unset, .unset] [(.ref bx_224)])) rfl (by rw [hml]; rfl) (Steps.refl _) (argsL := []) (rest := []) (lenOf pd__28__29_Ljava_2f_util_2f_Optional_3b_ rfl) rfl (by show 2 * 0 + _ ≤ _; exact Nat.le_of_eq rfl) (hb hby at_207) (fun _ _ => ⟨rfl, e226, (by decide : 22 + 0 ≤ _), (by decide : 60 + 0 ≤ _)⟩)
        dsimp only [Pt.U, Pt.locs, Pt.cells, Pt.slots] at X227 l227 y227 z227 st227 hQ227
        subst y227 z227
        obtain ⟨rfl, N227q, e227⟩ := hQ227
        have N227 : Fr n0 L227 := by rw [l227]; exact Fr.app N226 N227q
        change Stand _ _ _ _ _ _ _ _ _ _ _ _ 22 60 at X227
        obtain ⟨cq228, kq228, q228a, q228b, q228c⟩ := isOf hZ e227 R224_0
        obtain ⟨_, _, ⟨T228, L228, k228, n228⟩, -, X228, ⟨Lc228, hQ228, l228, y228, z228⟩, st228⟩ := X227.virtualBack hx (y := (⟨"com/example/outremer_engine/outremerengine/diplomacy/Order$SupportMove", "from", "()Lcom/example/outremer_engine/outremerengine/board/Place;"⟩ : MethodName)) (z := (⟨"com/example/outremer_engine/outremerengine/diplomacy/Order$SupportMove", "from", "()Lcom/example/outremer_engine/outremerengine/board/Place;"⟩ : MethodName)) hown (mvT hZ (hw _ (List.mem_of_getElem? (i := 95) rfl))) (mvT hZ (hw _ (List.mem_of_getElem? (i := 96) rfl))) (notFace_of_selects (args := #[]) (mvT hZ (hw _ (List.mem_of_getElem? (i := 98) rfl)))) (mvT hZ (hw _ (List.mem_of_getElem? (i := 98) rfl))) (mvT hZ (hw _ (List.mem_of_getElem? (i := 97) rfl))) (by decide) (backOf (W := 0) (rm15 l Z a0 hw [] bx_224 b183 T224.heap n0 Z224 R224_3) hZ (hw _ (List.mem_of_getElem? (i := 99) rfl)) (hw _ (List.mem_of_getElem? (i := 65) rfl)) (by decide) (by decide)) q228a q228c (g := (mkF m 217 #[.val (.int pp1), .val (.int pp2), .val (.int pp3), .val (.int pp4), .val (.int pp5), .val (.int (0 : Int32)), .val (.int (1 : Int32)), .val (.int (1 : Int32)), .val (.ref b183), .val (.ref b183), .val (.ref b190), .val (.ref b205), .val (.ref op), .val (.ref b222), .val (.ref bx_224), .unset, .unset] [(.ref bx_224)])) rfl (by rw [hml]; rfl) (Steps.refl _) (argsL := []) (rest := []) (lenOf pd__28__29_Lcom_2f_example_2f_outremer_engine_2f_outremerengine_2f_board_2f_Place_3b_ rfl) rfl (by show 2 * 0 + _ ≤ _; exact Nat.le_of_eq rfl) (hb hby at_217) (fun _ _ => ⟨rfl, e227, (by decide : 22 + 0 ≤ _), (by decide : 60 + 0 ≤ _)⟩)
        dsimp only [Pt.U, Pt.locs, Pt.cells, Pt.slots] at X228 l228 y228 z228 st228 hQ228
        subst y228 z228
        obtain ⟨rfl, N228q, e228⟩ := hQ228
        have N228 : Fr n0 L228 := by rw [l228]; exact Fr.app N227 N228q
        change Stand _ _ _ _ _ _ _ _ _ _ _ _ 22 60 at X228
        obtain ⟨cq229, kq229, q229a, q229b, q229c⟩ := isOf hZ e228 R224_0
        obtain ⟨_, _, ⟨T229, L229, k229, n229⟩, -, X229, ⟨Lc229, hQ229, l229, y229, z229⟩, st229⟩ := X228.virtualBack hx (y := (⟨"com/example/outremer_engine/outremerengine/diplomacy/Order$SupportMove", "to", "()Lcom/example/outremer_engine/outremerengine/board/Place;"⟩ : MethodName)) (z := (⟨"com/example/outremer_engine/outremerengine/diplomacy/Order$SupportMove", "to", "()Lcom/example/outremer_engine/outremerengine/board/Place;"⟩ : MethodName)) hown (mvT hZ (hw _ (List.mem_of_getElem? (i := 100) rfl))) (mvT hZ (hw _ (List.mem_of_getElem? (i := 101) rfl))) (notFace_of_selects (args := #[]) (mvT hZ (hw _ (List.mem_of_getElem? (i := 103) rfl)))) (mvT hZ (hw _ (List.mem_of_getElem? (i := 103) rfl))) (mvT hZ (hw _ (List.mem_of_getElem? (i := 102) rfl))) (by decide) (backOf (W := 0) (rm16 l Z a0 hw [] bx_224 b183 T224.heap n0 Z224 R224_4) hZ (hw _ (List.mem_of_getElem? (i := 104) rfl)) (hw _ (List.mem_of_getElem? (i := 65) rfl)) (by decide) (by decide)) q229a q229c (g := (mkF m 227 #[.val (.int pp1), .val (.int pp2), .val (.int pp3), .val (.int pp4), .val (.int pp5), .val (.int (0 : Int32)), .val (.int (1 : Int32)), .val (.int (1 : Int32)), .val (.ref b183), .val (.ref b183), .val (.ref b190), .val (.ref b205), .val (.ref op), .val (.ref b222), .val (.ref bx_224), .unset, .unset] [(.ref bx_224)])) rfl (by rw [hml]; rfl) (Steps.refl _) (argsL := []) (rest := []) (lenOf pd__28__29_Lcom_2f_example_2f_outremer_engine_2f_outremerengine_2f_board_2f_Place_3b_ rfl) rfl (by show 2 * 0 + _ ≤ _; exact Nat.le_of_eq rfl) (hb hby at_227) (fun _ _ => ⟨rfl, e228, (by decide : 22 + 0 ≤ _), (by decide : 60 + 0 ≤ _)⟩)
        dsimp only [Pt.U, Pt.locs, Pt.cells, Pt.slots] at X229 l229 y229 z229 st229 hQ229
        subst y229 z229
        obtain ⟨rfl, N229q, e229⟩ := hQ229
        have N229 : Fr n0 L229 := by rw [l229]; exact Fr.app N228 N229q
        change Stand _ _ _ _ _ _ _ _ _ _ _ _ 22 60 at X229
        have F_230 : Fld Z T224.heap b222 "com/example/outremer_engine/outremerengine/diplomacy/Order$SupportMove" "unit" "Lcom/example/outremer_engine/outremerengine/board/Unit;" (.ref b190) := (R223_0.keep K224c nin0)
        have E_232 : Exa Z T224.heap b222 "com/example/outremer_engine/outremerengine/diplomacy/Order$SupportMove" := (E_225.keep K224c)
        obtain ⟨cq231, kq231, q231a, q231b, q231c⟩ := isOf hZ e229 E_232
        obtain ⟨_, _, ⟨T231, L231, k231, n231⟩, -, X231, ⟨Lc231, hQ231, l231, y231, z231⟩, st231⟩ := X229.virtualBack hx (y := (⟨"com/example/outremer_engine/outremerengine/diplomacy/Order$SupportMove", "unit", "()Lcom/example/outremer_engine/outremerengine/board/Unit;"⟩ : MethodName)) (z := (⟨"com/example/outremer_engine/outremerengine/diplomacy/Order$SupportMove", "unit", "()Lcom/example/outremer_engine/outremerengine/board/Unit;"⟩ : MethodName)) hown (mvT hZ (hw _ (List.mem_of_getElem? (i := 85) rfl))) (mvT hZ (hw _ (List.mem_of_getElem? (i := 86) rfl))) (notFace_of_selects (args := #[]) (mvT hZ (hw _ (List.mem_of_getElem? (i := 88) rfl)))) (mvT hZ (hw _ (List.mem_of_getElem? (i := 88) rfl))) (mvT hZ (hw _ (List.mem_of_getElem? (i := 87) rfl))) (by decide) (backOf (W := 0) (rm13 l Z a0 hw [] b222 b190 T224.heap n0 Z224 F_230) hZ (hw _ (List.mem_of_getElem? (i := 89) rfl)) (hw _ (List.mem_of_getElem? (i := 65) rfl)) (by decide) (by decide)) q231a q231c (g := (mkF m 244 #[.val (.int pp1), .val (.int pp2), .val (.int pp3), .val (.int pp4), .val (.int pp5), .val (.int (0 : Int32)), .val (.int (1 : Int32)), .val (.int (1 : Int32)), .val (.ref b183), .val (.ref b183), .val (.ref b190), .val (.ref b205), .val (.ref op), .val (.ref b222), .val (.ref bx_224), .val (.int (1 : Int32)), .unset] [(.ref b222)])) rfl (by rw [hml]; rfl) (Steps.refl _) (argsL := []) (rest := []) (lenOf pd__28__29_Lcom_2f_example_2f_outremer_engine_2f_outremerengine_2f_board_2f_Unit_3b_ rfl) rfl (by show 2 * 0 + _ ≤ _; exact Nat.le_of_eq rfl) (hb hby at_244) (fun _ _ => ⟨rfl, e229, (by decide : 22 + 0 ≤ _), (by decide : 60 + 0 ≤ _)⟩)
        dsimp only [Pt.U, Pt.locs, Pt.cells, Pt.slots] at X231 l231 y231 z231 st231 hQ231
        subst y231 z231
        obtain ⟨rfl, N231q, e231⟩ := hQ231
        have N231 : Fr n0 L231 := by rw [l231]; exact Fr.app N229 N231q
        change Stand _ _ _ _ _ _ _ _ _ _ _ _ 22 60 at X231
        have F_233 : Fld Z T224.heap b222 "com/example/outremer_engine/outremerengine/diplomacy/Order$SupportMove" "supportedType" "Ljava/util/Optional;" (.ref op) := (R223_1.keep K224c nin0)
        obtain ⟨cq234, kq234, q234a, q234b, q234c⟩ := isOf hZ e231 E_232
        obtain ⟨_, _, ⟨T234, L234, k234, n234⟩, -, X234, ⟨Lc234, hQ234, l234, y234, z234⟩, st234⟩ := X231.virtualBack hx (y := (⟨"com/example/outremer_engine/outremerengine/diplomacy/Order$SupportMove", "supportedType", "()Ljava/util/Optional;"⟩ : MethodName)) (z := (⟨"com/example/outremer_engine/outremerengine/diplomacy/Order$SupportMove", "supportedType", "()Ljava/util/Optional;"⟩ : MethodName)) hown (mvT hZ (hw _ (List.mem_of_getElem? (i := 90) rfl))) (mvT hZ (hw _ (List.mem_of_getElem? (i := 91) rfl))) (notFace_of_selects (args := #[]) (mvT hZ (hw _ (List.mem_of_getElem? (i := 93) rfl)))) (mvT hZ (hw _ (List.mem_of_getElem? (i := 93) rfl))) (mvT hZ (hw _ (List.mem_of_getElem? (i := 92) rfl))) (by decide) (backOf (W := 0) (rm14_o l Z a0 hw [] b222 op T224.heap n0 Z224 F_233) hZ (hw _ (List.mem_of_getElem? (i := 94) rfl)) (hw _ (List.mem_of_getElem? (i := 65) rfl)) (by decide) (by decide)) q234a q234c (g := (mkF m 254 #[.val (.int pp1), .val (.int pp2), .val (.int pp3), .val (.int pp4), .val (.int pp5), .val (.int (0 : Int32)), .val (.int (1 : Int32)), .val (.int (1 : Int32)), .val (.ref b183), .val (.ref b183), .val (.ref b190), .val (.ref b205), .val (.ref op), .val (.ref b222), .val (.ref bx_224), .val (.int (1 : Int32)), .unset] [(.ref b222)])) rfl (by rw [hml]; rfl) (Steps.refl _) (argsL := []) (rest := []) (lenOf pd__28__29_Ljava_2f_util_2f_Optional_3b_ rfl) rfl (by show 2 * 0 + _ ≤ _; exact Nat.le_of_eq rfl) (hb hby at_254) (fun _ _ => ⟨rfl, e231, (by decide : 22 + 0 ≤ _), (by decide : 60 + 0 ≤ _)⟩)
        dsimp only [Pt.U, Pt.locs, Pt.cells, Pt.slots] at X234 l234 y234 z234 st234 hQ234
        subst y234 z234
        obtain ⟨rfl, N234q, e234⟩ := hQ234
        have N234 : Fr n0 L234 := by rw [l234]; exact Fr.app N231 N234q
        change Stand _ _ _ _ _ _ _ _ _ _ _ _ 22 60 at X234
        have F_235 : Fld Z T224.heap b222 "com/example/outremer_engine/outremerengine/diplomacy/Order$SupportMove" "from" "Lcom/example/outremer_engine/outremerengine/board/Place;" (.ref b183) := (R223_2.keep K224c nin0)
        obtain ⟨cq236, kq236, q236a, q236b, q236c⟩ := isOf hZ e234 E_232
        obtain ⟨_, _, ⟨T236, L236, k236, n236⟩, -, X236, ⟨Lc236, hQ236, l236, y236, z236⟩, st236⟩ := X234.virtualBack hx (y := (⟨"com/example/outremer_engine/outremerengine/diplomacy/Order$SupportMove", "from", "()Lcom/example/outremer_engine/outremerengine/board/Place;"⟩ : MethodName)) (z := (⟨"com/example/outremer_engine/outremerengine/diplomacy/Order$SupportMove", "from", "()Lcom/example/outremer_engine/outremerengine/board/Place;"⟩ : MethodName)) hown (mvT hZ (hw _ (List.mem_of_getElem? (i := 95) rfl))) (mvT hZ (hw _ (List.mem_of_getElem? (i := 96) rfl))) (notFace_of_selects (args := #[]) (mvT hZ (hw _ (List.mem_of_getElem? (i := 98) rfl)))) (mvT hZ (hw _ (List.mem_of_getElem? (i := 98) rfl))) (mvT hZ (hw _ (List.mem_of_getElem? (i := 97) rfl))) (by decide) (backOf (W := 0) (rm15 l Z a0 hw [] b222 b183 T224.heap n0 Z224 F_235) hZ (hw _ (List.mem_of_getElem? (i := 99) rfl)) (hw _ (List.mem_of_getElem? (i := 65) rfl)) (by decide) (by decide)) q236a q236c (g := (mkF m 264 #[.val (.int pp1), .val (.int pp2), .val (.int pp3), .val (.int pp4), .val (.int pp5), .val (.int (0 : Int32)), .val (.int (1 : Int32)), .val (.int (1 : Int32)), .val (.ref b183), .val (.ref b183), .val (.ref b190), .val (.ref b205), .val (.ref op), .val (.ref b222), .val (.ref bx_224), .val (.int (1 : Int32)), .unset] [(.ref b222)])) rfl (by rw [hml]; rfl) (Steps.refl _) (argsL := []) (rest := []) (lenOf pd__28__29_Lcom_2f_example_2f_outremer_engine_2f_outremerengine_2f_board_2f_Place_3b_ rfl) rfl (by show 2 * 0 + _ ≤ _; exact Nat.le_of_eq rfl) (hb hby at_264) (fun _ _ => ⟨rfl, e234, (by decide : 22 + 0 ≤ _), (by decide : 60 + 0 ≤ _)⟩)
        dsimp only [Pt.U, Pt.locs, Pt.cells, Pt.slots] at X236 l236 y236 z236 st236 hQ236
        subst y236 z236
        obtain ⟨rfl, N236q, e236⟩ := hQ236
        have N236 : Fr n0 L236 := by rw [l236]; exact Fr.app N234 N236q
        change Stand _ _ _ _ _ _ _ _ _ _ _ _ 22 60 at X236
        have F_237 : Fld Z T224.heap b222 "com/example/outremer_engine/outremerengine/diplomacy/Order$SupportMove" "to" "Lcom/example/outremer_engine/outremerengine/board/Place;" (.ref b183) := (R223_3.keep K224c nin0)
        obtain ⟨cq238, kq238, q238a, q238b, q238c⟩ := isOf hZ e236 E_232
        obtain ⟨_, _, ⟨T238, L238, k238, n238⟩, -, X238, ⟨Lc238, hQ238, l238, y238, z238⟩, st238⟩ := X236.virtualBack hx (y := (⟨"com/example/outremer_engine/outremerengine/diplomacy/Order$SupportMove", "to", "()Lcom/example/outremer_engine/outremerengine/board/Place;"⟩ : MethodName)) (z := (⟨"com/example/outremer_engine/outremerengine/diplomacy/Order$SupportMove", "to", "()Lcom/example/outremer_engine/outremerengine/board/Place;"⟩ : MethodName)) hown (mvT hZ (hw _ (List.mem_of_getElem? (i := 100) rfl))) (mvT hZ (hw _ (List.mem_of_getElem? (i := 101) rfl))) (notFace_of_selects (args := #[]) (mvT hZ (hw _ (List.mem_of_getElem? (i := 103) rfl)))) (mvT hZ (hw _ (List.mem_of_getElem? (i := 103) rfl))) (mvT hZ (hw _ (List.mem_of_getElem? (i := 102) rfl))) (by decide) (backOf (W := 0) (rm16 l Z a0 hw [] b222 b183 T224.heap n0 Z224 F_237) hZ (hw _ (List.mem_of_getElem? (i := 104) rfl)) (hw _ (List.mem_of_getElem? (i := 65) rfl)) (by decide) (by decide)) q238a q238c (g := (mkF m 274 #[.val (.int pp1), .val (.int pp2), .val (.int pp3), .val (.int pp4), .val (.int pp5), .val (.int (0 : Int32)), .val (.int (1 : Int32)), .val (.int (1 : Int32)), .val (.ref b183), .val (.ref b183), .val (.ref b190), .val (.ref b205), .val (.ref op), .val (.ref b222), .val (.ref bx_224), .val (.int (1 : Int32)), .unset] [(.ref b222)])) rfl (by rw [hml]; rfl) (Steps.refl _) (argsL := []) (rest := []) (lenOf pd__28__29_Lcom_2f_example_2f_outremer_engine_2f_outremerengine_2f_board_2f_Place_3b_ rfl) rfl (by show 2 * 0 + _ ≤ _; exact Nat.le_of_eq rfl) (hb hby at_274) (fun _ _ => ⟨rfl, e236, (by decide : 22 + 0 ≤ _), (by decide : 60 + 0 ≤ _)⟩)
        dsimp only [Pt.U, Pt.locs, Pt.cells, Pt.slots] at X238 l238 y238 z238 st238 hQ238
        subst y238 z238
        obtain ⟨rfl, N238q, e238⟩ := hQ238
        have N238 : Fr n0 L238 := by rw [l238]; exact Fr.app N236 N238q
        change Stand _ _ _ _ _ _ _ _ _ _ _ _ 22 60 at X238
        have hc291_4 : ¬ ((1 : Int32) = (0 : Int32)) := by decide
        have hc296_4 : ¬ ((1 : Int32) = (0 : Int32)) := by decide
        obtain ⟨fs, hr, hrun, hended, hW, hsame⟩ := X238.leave (v := some (.int (1 : Int32))) (fun h => by rw [Bd.returns] at h; cases h)
        refine ⟨_, _, pre128 _ ?_, hrun, hended, _, _, rfl, ?_, ⟨_, rfl⟩, hW, hsame.mono (by decide) (by decide)⟩
        · show Steps p.tables e below (s₁.setTop (mkF m 32 #[.val (.int pp1), .val (.int pp2), .val (.int pp3), .val (.int pp4), .val (.int pp5), .val (.int (0 : Int32)), .val (.int (1 : Int32)), .unset, .unset, .unset, .unset, .unset, .unset, .unset, .unset, .unset, .unset] [(.int (pp5 &&& (4 : Int32)))])) _
          refine XS.ifNo X0.here hx rfl (hb hby at_32) rfl ((if0 _ _).trans (feq hc32_2).1) ?_
          refine XS.iconst X0.here hx rfl (hb hby at_35) ?_
          refine XS.goto X0.here hx rfl (pc0 := 36) (pc' := 40) rfl (hb hby at_36) (by decide) (by decide) ?_
          refine XS.istore X0.here hx rfl (hb hby at_40) rfl (l' := #[.val (.int pp1), .val (.int pp2), .val (.int pp3), .val (.int pp4), .val (.int pp5), .val (.int (0 : Int32)), .val (.int (1 : Int32)), .val (.int (1 : Int32)), .unset, .unset, .unset, .unset, .unset, .unset, .unset, .unset, .unset]) rfl ?_
          refine st183 _ ?_
          refine XS.dup X183.here hx rfl (hb hby at_45) rfl rfl ?_
          refine XS.aconstNull X183.here hx rfl (hb hby at_46) ?_
          refine XS.iloadN X183.here hx rfl (hb hby at_47) rfl ?_
          refine st185 _ ?_
          refine st189.trans ?_
          refine XS.astore X189.here hx rfl (hb hby at_54) rfl rfl (l' := #[.val (.int pp1), .val (.int pp2), .val (.int pp3), .val (.int pp4), .val (.int pp5), .val (.int (0 : Int32)), .val (.int (1 : Int32)), .val (.int (1 : Int32)), .val (.ref b183), .unset, .unset, .unset, .unset, .unset, .unset, .unset, .unset]) rfl ?_
          refine XS.iload X189.here hx rfl (hb hby at_56) rfl ?_
          refine XS.ifNo X189.here hx rfl (hb hby at_58) rfl ((if0 _ _).trans (feq hc58_4).1) ?_
          refine XS.aload X189.here hx rfl (hb hby at_61) rfl rfl ?_
          refine XS.goto X189.here hx rfl (pc0 := 63) (pc' := 78) rfl (hb hby at_63) (by decide) (by decide) ?_
          refine XS.astore X189.here hx rfl (hb hby at_78) rfl rfl (l' := #[.val (.int pp1), .val (.int pp2), .val (.int pp3), .val (.int pp4), .val (.int pp5), .val (.int (0 : Int32)), .val (.int (1 : Int32)), .val (.int (1 : Int32)), .val (.ref b183), .val (.ref b183), .unset, .unset, .unset, .unset, .unset, .unset, .unset]) rfl ?_
          refine st190 _ ?_
          refine XS.dup X190.here hx rfl (hb hby at_83) rfl rfl ?_
          refine XS.iloadN X190.here hx rfl (hb hby at_84) rfl ?_
          refine st192 _ ?_
          refine XS.aconstNull X192.here hx rfl (hb hby at_88) ?_
          refine st193 _ ?_
          refine XS.dup X193.here hx rfl (hb hby at_92) rfl rfl ?_
          refine XS.aconstNull X193.here hx rfl (hb hby at_93) ?_
          refine XS.iloadN X193.here hx rfl (hb hby at_94) rfl ?_
          refine XS.bipush X193.here hx rfl (hb hby at_95) ?_
          refine XS.iushr X193.here hx rfl (hb hby at_97) rfl ?_
          refine st195 _ ?_
          refine st199.trans ?_
          refine st204.trans ?_
          refine XS.astore X204.here hx rfl (hb hby at_107) rfl rfl (l' := #[.val (.int pp1), .val (.int pp2), .val (.int pp3), .val (.int pp4), .val (.int pp5), .val (.int (0 : Int32)), .val (.int (1 : Int32)), .val (.int (1 : Int32)), .val (.ref b183), .val (.ref b183), .val (.ref b190), .unset, .unset, .unset, .unset, .unset, .unset]) rfl ?_
          refine XS.iload X204.here hx rfl (hb hby at_109) rfl ?_
          refine XS.ifYes X204.here hx rfl (pc0 := 111) (pc' := 119) rfl (hb hby at_111) rfl ((if0 _ _).trans (teq hc111_4).1) (by decide) (by decide) ?_
          refine st205 _ ?_
          refine XS.dup X205.here hx rfl (hb hby at_122) rfl rfl ?_
          refine XS.iloadN X205.here hx rfl (hb hby at_123) rfl ?_
          refine st207 _ ?_
          refine XS.aconstNull X207.here hx rfl (hb hby at_127) ?_
          refine st208 _ ?_
          refine XS.dup X208.here hx rfl (hb hby at_131) rfl rfl ?_
          refine XS.aconstNull X208.here hx rfl (hb hby at_132) ?_
          refine XS.iloadN X208.here hx rfl (hb hby at_133) rfl ?_
          refine XS.bipush X208.here hx rfl (hb hby at_134) ?_
          refine XS.iushr X208.here hx rfl (hb hby at_136) rfl ?_
          refine st210 _ ?_
          refine st214.trans ?_
          refine st219.trans ?_
          refine XS.astore X219.here hx rfl (hb hby at_146) rfl rfl (l' := #[.val (.int pp1), .val (.int pp2), .val (.int pp3), .val (.int pp4), .val (.int pp5), .val (.int (0 : Int32)), .val (.int (1 : Int32)), .val (.int (1 : Int32)), .val (.ref b183), .val (.ref b183), .val (.ref b190), .val (.ref b205), .unset, .unset, .unset, .unset, .unset]) rfl ?_
          refine XS.iload X219.here hx rfl (hb hby at_148) rfl ?_
          refine XS.ifNo X219.here hx rfl (hb hby at_150) rfl ((if0 _ _).trans (feq hc150_4).1) ?_
          refine st221 _ ?_
          refine XS.goto X221.here hx rfl (pc0 := 156) (pc' := 160) rfl (hb hby at_156) (by decide) (by decide) ?_
          refine XS.astore X221.here hx rfl (hb hby at_160) rfl rfl (l' := #[.val (.int pp1), .val (.int pp2), .val (.int pp3), .val (.int pp4), .val (.int pp5), .val (.int (0 : Int32)), .val (.int (1 : Int32)), .val (.int (1 : Int32)), .val (.ref b183), .val (.ref b183), .val (.ref b190), .val (.ref b205), .val (.ref op), .unset, .unset, .unset, .unset]) rfl ?_
          refine st222 _ ?_
          refine XS.dup X222.here hx rfl (hb hby at_165) rfl rfl ?_
          refine XS.aload X222.here hx rfl (hb hby at_166) rfl rfl ?_
          refine XS.aload X222.here hx rfl (hb hby at_168) rfl rfl ?_
          refine XS.aload X222.here hx rfl (hb hby at_170) rfl rfl ?_
          refine XS.aload X222.here hx rfl (hb hby at_172) rfl rfl ?_
          refine st223.trans ?_
          refine XS.astore X223.here hx rfl (hb hby at_177) rfl rfl (l' := #[.val (.int pp1), .val (.int pp2), .val (.int pp3), .val (.int pp4), .val (.int pp5), .val (.int (0 : Int32)), .val (.int (1 : Int32)), .val (.int (1 : Int32)), .val (.ref b183), .val (.ref b183), .val (.ref b190), .val (.ref b205), .val (.ref op), .val (.ref b222), .unset, .unset, .unset]) rfl ?_
          refine XS.aload X223.here hx rfl (hb hby at_179) rfl rfl ?_
          refine XS.aload X223.here hx rfl (hb hby at_181) rfl rfl ?_
          refine st224.trans ?_
          refine XS.astore X224.here hx rfl (hb hby at_186) rfl rfl (l' := #[.val (.int pp1), .val (.int pp2), .val (.int pp3), .val (.int pp4), .val (.int pp5), .val (.int (0 : Int32)), .val (.int (1 : Int32)), .val (.int (1 : Int32)), .val (.ref b183), .val (.ref b183), .val (.ref b190), .val (.ref b205), .val (.ref op), .val (.ref b222), .val (.ref bx_224), .unset, .unset]) rfl ?_
          refine XS.aload X224.here hx rfl (hb hby at_188) rfl rfl ?_
          refine XS.ifnonnullYes X224.here hx rfl (pc0 := 190) (pc' := 195) rfl (hb hby at_190) rfl (by decide) (by decide) ?_
          refine XS.aload X224.here hx rfl (hb hby at_195) rfl rfl ?_
          refine st226.trans ?_
          refine XS.aload X226.here hx rfl (hb hby at_200) rfl rfl ?_
          refine Jvm.RoadKit.acmp (g := (mkF m 202 #[.val (.int pp1), .val (.int pp2), .val (.int pp3), .val (.int pp4), .val (.int pp5), .val (.int (0 : Int32)), .val (.int (1 : Int32)), .val (.int (1 : Int32)), .val (.ref b183), .val (.ref b183), .val (.ref b190), .val (.ref b205), .val (.ref op), .val (.ref b222), .val (.ref bx_224), .unset, .unset] [(.ref b205), (.ref b205)])) X226 hx rfl rfl rfl (pc0 := 202) (pc' := 205) (same := true) rfl (hb hby at_202) rfl (decide_eq_true rfl) (by decide) (by decide) ?_
          refine XS.aload X226.here hx rfl (hb hby at_205) rfl rfl ?_
          refine st227.trans ?_
          refine XS.aload X227.here hx rfl (hb hby at_210) rfl rfl ?_
          refine Jvm.RoadKit.acmp (g := (mkF m 212 #[.val (.int pp1), .val (.int pp2), .val (.int pp3), .val (.int pp4), .val (.int pp5), .val (.int (0 : Int32)), .val (.int (1 : Int32)), .val (.int (1 : Int32)), .val (.ref b183), .val (.ref b183), .val (.ref b190), .val (.ref b205), .val (.ref op), .val (.ref b222), .val (.ref bx_224), .unset, .unset] [(.ref op), (.ref op)])) X227 hx rfl rfl rfl (pc0 := 212) (pc' := 215) (same := true) rfl (hb hby at_212) rfl (decide_eq_true rfl) (by decide) (by decide) ?_
          refine XS.aload X227.here hx rfl (hb hby at_215) rfl rfl ?_
          refine st228.trans ?_
          refine XS.aload X228.here hx rfl (hb hby at_220) rfl rfl ?_
          refine Jvm.RoadKit.acmp (g := (mkF m 222 #[.val (.int pp1), .val (.int pp2), .val (.int pp3), .val (.int pp4), .val (.int pp5), .val (.int (0 : Int32)), .val (.int (1 : Int32)), .val (.int (1 : Int32)), .val (.ref b183), .val (.ref b183), .val (.ref b190), .val (.ref b205), .val (.ref op), .val (.ref b222), .val (.ref bx_224), .unset, .unset] [(.ref b183), (.ref b183)])) X228 hx rfl rfl rfl (pc0 := 222) (pc' := 225) (same := true) rfl (hb hby at_222) rfl (decide_eq_true rfl) (by decide) (by decide) ?_
          refine XS.aload X228.here hx rfl (hb hby at_225) rfl rfl ?_
          refine st229.trans ?_
          refine XS.aload X229.here hx rfl (hb hby at_230) rfl rfl ?_
          refine Jvm.RoadKit.acmp (g := (mkF m 232 #[.val (.int pp1), .val (.int pp2), .val (.int pp3), .val (.int pp4), .val (.int pp5), .val (.int (0 : Int32)), .val (.int (1 : Int32)), .val (.int (1 : Int32)), .val (.ref b183), .val (.ref b183), .val (.ref b190), .val (.ref b205), .val (.ref op), .val (.ref b222), .val (.ref bx_224), .unset, .unset] [(.ref b183), (.ref b183)])) X229 hx rfl rfl rfl (pc0 := 232) (pc' := 235) (same := true) rfl (hb hby at_232) rfl (decide_eq_true rfl) (by decide) (by decide) ?_
          refine XS.iconst X229.here hx rfl (hb hby at_235) ?_
          refine XS.goto X229.here hx rfl (pc0 := 236) (pc' := 240) rfl (hb hby at_236) (by decide) (by decide) ?_
          refine XS.istore X229.here hx rfl (hb hby at_240) rfl (l' := #[.val (.int pp1), .val (.int pp2), .val (.int pp3), .val (.int pp4), .val (.int pp5), .val (.int (0 : Int32)), .val (.int (1 : Int32)), .val (.int (1 : Int32)), .val (.ref b183), .val (.ref b183), .val (.ref b190), .val (.ref b205), .val (.ref op), .val (.ref b222), .val (.ref bx_224), .val (.int (1 : Int32)), .unset]) rfl ?_
          refine XS.aload X229.here hx rfl (hb hby at_242) rfl rfl ?_
          refine st231.trans ?_
          refine XS.aload X231.here hx rfl (hb hby at_247) rfl rfl ?_
          refine Jvm.RoadKit.acmp (g := (mkF m 249 #[.val (.int pp1), .val (.int pp2), .val (.int pp3), .val (.int pp4), .val (.int pp5), .val (.int (0 : Int32)), .val (.int (1 : Int32)), .val (.int (1 : Int32)), .val (.ref b183), .val (.ref b183), .val (.ref b190), .val (.ref b205), .val (.ref op), .val (.ref b222), .val (.ref bx_224), .val (.int (1 : Int32)), .unset] [(.ref b190), (.ref b190)])) X231 hx rfl rfl rfl (pc0 := 249) (pc' := 252) (same := true) rfl (hb hby at_249) rfl (decide_eq_true rfl) (by decide) (by decide) ?_
          refine XS.aload X231.here hx rfl (hb hby at_252) rfl rfl ?_
          refine st234.trans ?_
          refine XS.aload X234.here hx rfl (hb hby at_257) rfl rfl ?_
          refine Jvm.RoadKit.acmp (g := (mkF m 259 #[.val (.int pp1), .val (.int pp2), .val (.int pp3), .val (.int pp4), .val (.int pp5), .val (.int (0 : Int32)), .val (.int (1 : Int32)), .val (.int (1 : Int32)), .val (.ref b183), .val (.ref b183), .val (.ref b190), .val (.ref b205), .val (.ref op), .val (.ref b222), .val (.ref bx_224), .val (.int (1 : Int32)), .unset] [(.ref op), (.ref op)])) X234 hx rfl rfl rfl (pc0 := 259) (pc' := 262) (same := true) rfl (hb hby at_259) rfl (decide_eq_true rfl) (by decide) (by decide) ?_
          refine XS.aload X234.here hx rfl (hb hby at_262) rfl rfl ?_
          refine st236.trans ?_
          refine XS.aload X236.here hx rfl (hb hby at_267) rfl rfl ?_
          refine Jvm.RoadKit.acmp (g := (mkF m 269 #[.val (.int pp1), .val (.int pp2), .val (.int pp3), .val (.int pp4), .val (.int pp5), .val (.int (0 : Int32)), .val (.int (1 : Int32)), .val (.int (1 : Int32)), .val (.ref b183), .val (.ref b183), .val (.ref b190), .val (.ref b205), .val (.ref op), .val (.ref b222), .val (.ref bx_224), .val (.int (1 : Int32)), .unset] [(.ref b183), (.ref b183)])) X236 hx rfl rfl rfl (pc0 := 269) (pc' := 272) (same := true) rfl (hb hby at_269) rfl (decide_eq_true rfl) (by decide) (by decide) ?_
          refine XS.aload X236.here hx rfl (hb hby at_272) rfl rfl ?_
          refine st238.trans ?_
          refine XS.aload X238.here hx rfl (hb hby at_277) rfl rfl ?_
          refine Jvm.RoadKit.acmp (g := (mkF m 279 #[.val (.int pp1), .val (.int pp2), .val (.int pp3), .val (.int pp4), .val (.int pp5), .val (.int (0 : Int32)), .val (.int (1 : Int32)), .val (.int (1 : Int32)), .val (.ref b183), .val (.ref b183), .val (.ref b190), .val (.ref b205), .val (.ref op), .val (.ref b222), .val (.ref bx_224), .val (.int (1 : Int32)), .unset] [(.ref b183), (.ref b183)])) X238 hx rfl rfl rfl (pc0 := 279) (pc' := 282) (same := true) rfl (hb hby at_279) rfl (decide_eq_true rfl) (by decide) (by decide) ?_
          refine XS.iconst X238.here hx rfl (hb hby at_282) ?_
          refine XS.goto X238.here hx rfl (pc0 := 283) (pc' := 287) rfl (hb hby at_283) (by decide) (by decide) ?_
          refine XS.istore X238.here hx rfl (hb hby at_287) rfl (l' := #[.val (.int pp1), .val (.int pp2), .val (.int pp3), .val (.int pp4), .val (.int pp5), .val (.int (0 : Int32)), .val (.int (1 : Int32)), .val (.int (1 : Int32)), .val (.ref b183), .val (.ref b183), .val (.ref b190), .val (.ref b205), .val (.ref op), .val (.ref b222), .val (.ref bx_224), .val (.int (1 : Int32)), .val (.int (1 : Int32))]) rfl ?_
          refine XS.iload X238.here hx rfl (hb hby at_289) rfl ?_
          refine XS.ifNo X238.here hx rfl (hb hby at_291) rfl ((if0 _ _).trans (feq hc291_4).1) ?_
          refine XS.iload X238.here hx rfl (hb hby at_294) rfl ?_
          refine XS.ifNo X238.here hx rfl (hb hby at_296) rfl ((if0 _ _).trans (feq hc296_4).1) ?_
          refine XS.iconst X238.here hx rfl (hb hby at_299) ?_
          refine XS.goto X238.here hx rfl (pc0 := 300) (pc' := 304) rfl (hb hby at_300) (by decide) (by decide) ?_
          exact retN X238 hx (t := .boolean) Bd.returns (by simp) (hb hby at_304) hr
        · show Q0 Z pp1 pp2 pp3 pp4 pp5 cs op h0 n0 _ T238.heap _
          rw [e238]
          exact ⟨rfl, N238⟩
  · skip
    have pre239 : ∀ t, Steps p.tables e below (s₁.setTop (mkF m 18 #[.val (.int pp1), .val (.int pp2), .val (.int pp3), .val (.int pp4), .val (.int pp5), .val (.int (1 : Int32)), .unset, .unset, .unset, .unset, .unset, .unset, .unset, .unset, .unset, .unset, .unset] [(.int (pp5 &&& (2 : Int32)))])) t → Steps p.tables e below (s₁.setTop (entryFrame m #[(.int pp1), (.int pp2), (.int pp3), (.int pp4), (.int pp5)] maxLocals)) t := fun t kt => pre1 t (by
      refine XS.ifNo X0.here hx rfl (hb hby at_4) rfl ((if0 _ _).trans (feq hc4).1) ?_
      refine XS.iconst X0.here hx rfl (hb hby at_7) ?_
      refine XS.goto X0.here hx rfl (pc0 := 8) (pc' := 12) rfl (hb hby at_8) (by decide) (by decide) ?_
      refine XS.istore X0.here hx rfl (hb hby at_12) rfl (l' := #[.val (.int pp1), .val (.int pp2), .val (.int pp3), .val (.int pp4), .val (.int pp5), .val (.int (1 : Int32)), .unset, .unset, .unset, .unset, .unset, .unset, .unset, .unset, .unset, .unset, .unset]) rfl ?_
      refine XS.iload X0.here hx rfl (hb hby at_14) rfl ?_
      refine XS.iconst X0.here hx rfl (hb hby at_16) ?_
      refine XS.iand X0.here hx rfl (hb hby at_17) rfl ?_
      exact kt)
    by_cases hc18_2 : (pp5 &&& (2 : Int32)) = (0 : Int32)
    · skip
      have pre240 : ∀ t, Steps p.tables e below (s₁.setTop (mkF m 32 #[.val (.int pp1), .val (.int pp2), .val (.int pp3), .val (.int pp4), .val (.int pp5), .val (.int (1 : Int32)), .val (.int (0 : Int32)), .unset, .unset, .unset, .unset, .unset, .unset, .unset, .unset, .unset, .unset] [(.int (pp5 &&& (4 : Int32)))])) t → Steps p.tables e below (s₁.setTop (entryFrame m #[(.int pp1), (.int pp2), (.int pp3), (.int pp4), (.int pp5)] maxLocals)) t := fun t kt => pre239 t (by
        refine XS.ifYes X0.here hx rfl (pc0 := 18) (pc' := 25) rfl (hb hby at_18) rfl ((if0 _ _).trans (teq hc18_2).1) (by decide) (by decide) ?_
        refine XS.iconst X0.here hx rfl (hb hby at_25) ?_
        refine XS.istore X0.here hx rfl (hb hby at_26) rfl (l' := #[.val (.int pp1), .val (.int pp2), .val (.int pp3), .val (.int pp4), .val (.int pp5), .val (.int (1 : Int32)), .val (.int (0 : Int32)), .unset, .unset, .unset, .unset, .unset, .unset, .unset, .unset, .unset, .unset]) rfl ?_
        refine XS.iload X0.here hx rfl (hb hby at_28) rfl ?_
        refine XS.iconst X0.here hx rfl (hb hby at_30) ?_
        refine XS.iand X0.here hx rfl (hb hby at_31) rfl ?_
        exact kt)
      by_cases hc32_3 : (pp5 &&& (4 : Int32)) = (0 : Int32)
      · skip
        obtain ⟨T241, h241, X241, e241, E241, A241, D241, -, st241⟩ := newO X0 hx hZ hown (hw _ (List.mem_of_getElem? (i := 0) rfl)) (hw _ (List.mem_of_getElem? (i := 1) rfl)) (hw _ (List.mem_of_getElem? (i := 2) rfl)) e0 (g := (mkF m 42 #[.val (.int pp1), .val (.int pp2), .val (.int pp3), .val (.int pp4), .val (.int pp5), .val (.int (1 : Int32)), .val (.int (0 : Int32)), .val (.int (0 : Int32)), .unset, .unset, .unset, .unset, .unset, .unset, .unset, .unset, .unset] [])) rfl (hb hby at_42) (by decide) (by decide)
        obtain ⟨b241, g241⟩ : ∃ z, z = h0.size := ⟨_, rfl⟩
        rw [← g241] at A241 D241 st241
        have g_b241 : n0 ≤ b241 := Nat.le_trans Z0 (Nat.le_of_eq g241.symm)
        have Z241 : n0 ≤ h241.size := Nat.le_trans Z0 E241.1
        have F241_province : Fld Z h241 b241 "com/example/outremer_engine/outremerengine/board/Place" "province" "Lcom/example/outremer_engine/outremerengine/board/Province;" .null := D241 (Or.inr (hw _ (List.mem_of_getElem? (i := 47) rfl))) (ty := (.object "com/example/outremer_engine/outremerengine/board/Province")) (by decide)
        have F241_coast : Fld Z h241 b241 "com/example/outremer_engine/outremerengine/board/Place" "coast" "Ljava/lang/String;" .null := D241 (Or.inr (hw _ (List.mem_of_getElem? (i := 49) rfl))) (ty := (.object "java/lang/String")) (by decide)
        have O_242 : Old Z n0 h241 := (O0.ext E241)
        obtain ⟨_, _, ⟨T243, L243, k243, n243⟩, -, X243, ⟨Lc243, hQ243, l243, y243, z243⟩, st243⟩ := Jvm.LawKit.callS X241 hx (y := (⟨"com/example/outremer_engine/outremerengine/diplomacy/SupportMoveGivenToPinLaw", "drawn", "(I)Ljava/lang/String;"⟩ : MethodName)) hown (mvT hZ (hw _ (List.mem_of_getElem? (i := 3) rfl))) (mvT hZ (hw _ (List.mem_of_getElem? (i := 4) rfl))) (mvT hZ (hw _ (List.mem_of_getElem? (i := 5) rfl))) (mvT hZ (hw _ (List.mem_of_getElem? (i := 6) rfl))) (by decide) (backOf (W := 3) (rm1 l Z a0 hw [] pp3 cs h241 n0 Z241 O_242 S_COMPACT_STRINGS (show ¬ cs = (0 : Int32) from hcs)) hZ (hw _ (List.mem_of_getElem? (i := 6) rfl)) (hw _ (List.mem_of_getElem? (i := 5) rfl)) (by decide) (by decide)) (g := (mkF m 48 #[.val (.int pp1), .val (.int pp2), .val (.int pp3), .val (.int pp4), .val (.int pp5), .val (.int (1 : Int32)), .val (.int (0 : Int32)), .val (.int (0 : Int32)), .unset, .unset, .unset, .unset, .unset, .unset, .unset, .unset, .unset] [(.int pp3), .null, (.ref b241), (.ref b241)])) rfl (by rw [hml]; rfl) (argsL := [(.int pp3)]) (rest := [.null, (.ref b241), (.ref b241)]) (lenOf pd__28_I_29_Ljava_2f_lang_2f_String_3b_ rfl) rfl (by show 2 * 0 + _ ≤ _; exact Nat.le_of_eq rfl) (hb hby at_48) (fun _ _ => ⟨rfl, e241, (by decide : 1 + 3 ≤ _), (by decide : 2 + 8 ≤ _)⟩)
        dsimp only [Pt.U, Pt.locs, Pt.cells, Pt.slots] at X243 l243 y243 z243 st243 hQ243
        subst y243 z243
        obtain ⟨bx_243, rfl, N243q, K243c, g_bx_243, sb_bx_243⟩ := hQ243
        have N243 : Fr n0 L243 := by rw [l243]; exact Fr.app N0 N243q
        have Z243 : n0 ≤ T243.heap.size := Nat.le_trans Z241 K243c.1
        change Stand _ _ _ _ _ _ _ _ _ _ _ _ 4 10 at X243
        have E_244 : Exa Z T243.heap b241 "com/example/outremer_engine/outremerengine/board/Place" := (A241.keep K243c)
        have F_245 : Fld Z T243.heap b241 "com/example/outremer_engine/outremerengine/board/Place" "province" "Lcom/example/outremer_engine/outremerengine/board/Province;" .null := (F241_province.keep K243c nin0)
        have F_246 : Fld Z T243.heap b241 "com/example/outremer_engine/outremerengine/board/Place" "coast" "Ljava/lang/String;" .null := (F241_coast.keep K243c nin0)
        obtain ⟨_, _, ⟨T247, L247, k247, n247⟩, -, X247, ⟨Lc247, hQ247, l247, y247, z247⟩, st247⟩ := X243.specialBack hx (y := (⟨"com/example/outremer_engine/outremerengine/board/Place", "<init>", "(Lcom/example/outremer_engine/outremerengine/board/Province;Ljava/lang/String;)V"⟩ : MethodName)) rfl hown (mvT hZ (hw _ (List.mem_of_getElem? (i := 37) rfl))) (mvT hZ (hw _ (List.mem_of_getElem? (i := 38) rfl))) (mvT hZ (hw _ (List.mem_of_getElem? (i := 39) rfl))) (by decide) (backOf (W := 1) (rm8 l Z a0 hw [] b241 bx_243 .null .null T243.heap n0 Z243 E_244 g_b241 F_245 F_246) hZ (hw _ (List.mem_of_getElem? (i := 39) rfl)) (hw _ (List.mem_of_getElem? (i := 2) rfl)) (by decide) (by decide)) (g := (mkF m 51 #[.val (.int pp1), .val (.int pp2), .val (.int pp3), .val (.int pp4), .val (.int pp5), .val (.int (1 : Int32)), .val (.int (0 : Int32)), .val (.int (0 : Int32)), .unset, .unset, .unset, .unset, .unset, .unset, .unset, .unset, .unset] [(.ref bx_243), .null, (.ref b241), (.ref b241)])) rfl (by rw [hml]; rfl) (Steps.refl _) (a := b241) (argsL := [.null, (.ref bx_243)]) (rest := [(.ref b241)]) (lenOf pd__28_Lcom_2f_example_2f_outremer_engine_2f_outremerengine_2f_board_2f_Province_3b_Ljava_2f_lang_2f_String_3b__29_V rfl) rfl (by show 2 * 0 + _ ≤ _; exact Nat.le_of_eq rfl) (hb hby at_51) (fun _ _ => ⟨rfl, rfl, (by decide : 4 + 0 ≤ _), (by decide : 10 + 0 ≤ _)⟩)
        dsimp only [Pt.U, Pt.locs, Pt.cells, Pt.slots] at X247 l247 y247 z247 st247 hQ247
        subst y247 z247
        obtain ⟨rfl, N247q, K247c, R247_0, R247_1⟩ := hQ247
        have N247 : Fr n0 L247 := by rw [l247]; exact Fr.app N243 N247q
        have Z247 : n0 ≤ T247.heap.size := Nat.le_trans Z243 K247c.1
        change Stand _ _ _ _ _ _ _ _ _ _ _ _ 4 10 at X247
        have hc58_5 : (0 : Int32) = (0 : Int32) := by decide
        obtain ⟨T248, h248, X248, e248, E248, A248, D248, -, st248⟩ := newO X247 hx hZ hown (hw _ (List.mem_of_getElem? (i := 0) rfl)) (hw _ (List.mem_of_getElem? (i := 1) rfl)) (hw _ (List.mem_of_getElem? (i := 2) rfl)) rfl (g := (mkF m 66 #[.val (.int pp1), .val (.int pp2), .val (.int pp3), .val (.int pp4), .val (.int pp5), .val (.int (1 : Int32)), .val (.int (0 : Int32)), .val (.int (0 : Int32)), .val (.ref b241), .unset, .unset, .unset, .unset, .unset, .unset, .unset, .unset] [])) rfl (hb hby at_66) (by decide) (by decide)
        obtain ⟨b248, g248⟩ : ∃ z, z = T247.heap.size := ⟨_, rfl⟩
        rw [← g248] at A248 D248 st248
        have g_b248 : n0 ≤ b248 := Nat.le_trans Z247 (Nat.le_of_eq g248.symm)
        have Z248 : n0 ≤ h248.size := Nat.le_trans Z247 E248.1
        have F248_province : Fld Z h248 b248 "com/example/outremer_engine/outremerengine/board/Place" "province" "Lcom/example/outremer_engine/outremerengine/board/Province;" .null := D248 (Or.inr (hw _ (List.mem_of_getElem? (i := 47) rfl))) (ty := (.object "com/example/outremer_engine/outremerengine/board/Province")) (by decide)
        have F248_coast : Fld Z h248 b248 "com/example/outremer_engine/outremerengine/board/Place" "coast" "Ljava/lang/String;" .null := D248 (Or.inr (hw _ (List.mem_of_getElem? (i := 49) rfl))) (ty := (.object "java/lang/String")) (by decide)
        have O_249 : Old Z n0 h248 := (((O_242.keep K243c all0).keep K247c (allS g_b241 all0)).ext E248)
        obtain ⟨_, _, ⟨T250, L250, k250, n250⟩, -, X250, ⟨Lc250, hQ250, l250, y250, z250⟩, st250⟩ := Jvm.LawKit.callS X248 hx (y := (⟨"com/example/outremer_engine/outremerengine/diplomacy/SupportMoveGivenToPinLaw", "drawn", "(I)Ljava/lang/String;"⟩ : MethodName)) hown (mvT hZ (hw _ (List.mem_of_getElem? (i := 3) rfl))) (mvT hZ (hw _ (List.mem_of_getElem? (i := 4) rfl))) (mvT hZ (hw _ (List.mem_of_getElem? (i := 5) rfl))) (mvT hZ (hw _ (List.mem_of_getElem? (i := 6) rfl))) (by decide) (backOf (W := 3) (rm1 l Z a0 hw [] pp4 cs h248 n0 Z248 O_249 S_COMPACT_STRINGS (show ¬ cs = (0 : Int32) from hcs)) hZ (hw _ (List.mem_of_getElem? (i := 6) rfl)) (hw _ (List.mem_of_getElem? (i := 5) rfl)) (by decide) (by decide)) (g := (mkF m 72 #[.val (.int pp1), .val (.int pp2), .val (.int pp3), .val (.int pp4), .val (.int pp5), .val (.int (1 : Int32)), .val (.int (0 : Int32)), .val (.int (0 : Int32)), .val (.ref b241), .unset, .unset, .unset, .unset, .unset, .unset, .unset, .unset] [(.int pp4), .null, (.ref b248), (.ref b248)])) rfl (by rw [hml]; rfl) (argsL := [(.int pp4)]) (rest := [.null, (.ref b248), (.ref b248)]) (lenOf pd__28_I_29_Ljava_2f_lang_2f_String_3b_ rfl) rfl (by show 2 * 0 + _ ≤ _; exact Nat.le_of_eq rfl) (hb hby at_72) (fun _ _ => ⟨rfl, e248, (by decide : 5 + 3 ≤ _), (by decide : 12 + 8 ≤ _)⟩)
        dsimp only [Pt.U, Pt.locs, Pt.cells, Pt.slots] at X250 l250 y250 z250 st250 hQ250
        subst y250 z250
        obtain ⟨bx_250, rfl, N250q, K250c, g_bx_250, sb_bx_250⟩ := hQ250
        have N250 : Fr n0 L250 := by rw [l250]; exact Fr.app N247 N250q
        have Z250 : n0 ≤ T250.heap.size := Nat.le_trans Z248 K250c.1
        change Stand _ _ _ _ _ _ _ _ _ _ _ _ 8 20 at X250
        have E_251 : Exa Z T250.heap b248 "com/example/outremer_engine/outremerengine/board/Place" := (A248.keep K250c)
        have F_252 : Fld Z T250.heap b248 "com/example/outremer_engine/outremerengine/board/Place" "province" "Lcom/example/outremer_engine/outremerengine/board/Province;" .null := (F248_province.keep K250c nin0)
        have F_253 : Fld Z T250.heap b248 "com/example/outremer_engine/outremerengine/board/Place" "coast" "Ljava/lang/String;" .null := (F248_coast.keep K250c nin0)
        obtain ⟨_, _, ⟨T254, L254, k254, n254⟩, -, X254, ⟨Lc254, hQ254, l254, y254, z254⟩, st254⟩ := X250.specialBack hx (y := (⟨"com/example/outremer_engine/outremerengine/board/Place", "<init>", "(Lcom/example/outremer_engine/outremerengine/board/Province;Ljava/lang/String;)V"⟩ : MethodName)) rfl hown (mvT hZ (hw _ (List.mem_of_getElem? (i := 37) rfl))) (mvT hZ (hw _ (List.mem_of_getElem? (i := 38) rfl))) (mvT hZ (hw _ (List.mem_of_getElem? (i := 39) rfl))) (by decide) (backOf (W := 1) (rm8 l Z a0 hw [] b248 bx_250 .null .null T250.heap n0 Z250 E_251 g_b248 F_252 F_253) hZ (hw _ (List.mem_of_getElem? (i := 39) rfl)) (hw _ (List.mem_of_getElem? (i := 2) rfl)) (by decide) (by decide)) (g := (mkF m 75 #[.val (.int pp1), .val (.int pp2), .val (.int pp3), .val (.int pp4), .val (.int pp5), .val (.int (1 : Int32)), .val (.int (0 : Int32)), .val (.int (0 : Int32)), .val (.ref b241), .unset, .unset, .unset, .unset, .unset, .unset, .unset, .unset] [(.ref bx_250), .null, (.ref b248), (.ref b248)])) rfl (by rw [hml]; rfl) (Steps.refl _) (a := b248) (argsL := [.null, (.ref bx_250)]) (rest := [(.ref b248)]) (lenOf pd__28_Lcom_2f_example_2f_outremer_engine_2f_outremerengine_2f_board_2f_Province_3b_Ljava_2f_lang_2f_String_3b__29_V rfl) rfl (by show 2 * 0 + _ ≤ _; exact Nat.le_of_eq rfl) (hb hby at_75) (fun _ _ => ⟨rfl, rfl, (by decide : 8 + 0 ≤ _), (by decide : 20 + 0 ≤ _)⟩)
        dsimp only [Pt.U, Pt.locs, Pt.cells, Pt.slots] at X254 l254 y254 z254 st254 hQ254
        subst y254 z254
        obtain ⟨rfl, N254q, K254c, R254_0, R254_1⟩ := hQ254
        have N254 : Fr n0 L254 := by rw [l254]; exact Fr.app N250 N254q
        have Z254 : n0 ≤ T254.heap.size := Nat.le_trans Z250 K254c.1
        change Stand _ _ _ _ _ _ _ _ _ _ _ _ 8 20 at X254
        obtain ⟨T255, h255, X255, e255, E255, A255, D255, -, st255⟩ := newO X254 hx hZ hown (hw _ (List.mem_of_getElem? (i := 50) rfl)) (hw _ (List.mem_of_getElem? (i := 51) rfl)) (hw _ (List.mem_of_getElem? (i := 52) rfl)) rfl (g := (mkF m 80 #[.val (.int pp1), .val (.int pp2), .val (.int pp3), .val (.int pp4), .val (.int pp5), .val (.int (1 : Int32)), .val (.int (0 : Int32)), .val (.int (0 : Int32)), .val (.ref b241), .val (.ref b248), .unset, .unset, .unset, .unset, .unset, .unset, .unset] [])) rfl (hb hby at_80) (by decide) (by decide)
        obtain ⟨b255, g255⟩ : ∃ z, z = T254.heap.size := ⟨_, rfl⟩
        rw [← g255] at A255 D255 st255
        have g_b255 : n0 ≤ b255 := Nat.le_trans Z254 (Nat.le_of_eq g255.symm)
        have Z255 : n0 ≤ h255.size := Nat.le_trans Z254 E255.1
        have F255_nation : Fld Z h255 b255 "com/example/outremer_engine/outremerengine/board/Unit" "nation" "Ljava/lang/String;" .null := D255 (Or.inr (hw _ (List.mem_of_getElem? (i := 58) rfl))) (ty := (.object "java/lang/String")) (by decide)
        have F255_type : Fld Z h255 b255 "com/example/outremer_engine/outremerengine/board/Unit" "type" "Lcom/example/outremer_engine/outremerengine/board/UnitType;" .null := D255 (Or.inr (hw _ (List.mem_of_getElem? (i := 60) rfl))) (ty := (.object "com/example/outremer_engine/outremerengine/board/UnitType")) (by decide)
        have F255_place : Fld Z h255 b255 "com/example/outremer_engine/outremerengine/board/Unit" "place" "Lcom/example/outremer_engine/outremerengine/board/Place;" .null := D255 (Or.inr (hw _ (List.mem_of_getElem? (i := 62) rfl))) (ty := (.object "com/example/outremer_engine/outremerengine/board/Place")) (by decide)
        have O_256 : Old Z n0 h255 := (((O_249.keep K250c all0).keep K254c (allS g_b248 all0)).ext E255)
        obtain ⟨_, _, ⟨T257, L257, k257, n257⟩, -, X257, ⟨Lc257, hQ257, l257, y257, z257⟩, st257⟩ := Jvm.LawKit.callS X255 hx (y := (⟨"com/example/outremer_engine/outremerengine/diplomacy/SupportMoveGivenToPinLaw", "drawn", "(I)Ljava/lang/String;"⟩ : MethodName)) hown (mvT hZ (hw _ (List.mem_of_getElem? (i := 3) rfl))) (mvT hZ (hw _ (List.mem_of_getElem? (i := 4) rfl))) (mvT hZ (hw _ (List.mem_of_getElem? (i := 5) rfl))) (mvT hZ (hw _ (List.mem_of_getElem? (i := 6) rfl))) (by decide) (backOf (W := 2) (rm1 l Z a0 hw [] pp1 cs h255 n0 Z255 O_256 S_COMPACT_STRINGS (show ¬ cs = (0 : Int32) from hcs)) hZ (hw _ (List.mem_of_getElem? (i := 6) rfl)) (hw _ (List.mem_of_getElem? (i := 5) rfl)) (by decide) (by decide)) (g := (mkF m 85 #[.val (.int pp1), .val (.int pp2), .val (.int pp3), .val (.int pp4), .val (.int pp5), .val (.int (1 : Int32)), .val (.int (0 : Int32)), .val (.int (0 : Int32)), .val (.ref b241), .val (.ref b248), .unset, .unset, .unset, .unset, .unset, .unset, .unset] [(.int pp1), (.ref b255), (.ref b255)])) rfl (by rw [hml]; rfl) (argsL := [(.int pp1)]) (rest := [(.ref b255), (.ref b255)]) (lenOf pd__28_I_29_Ljava_2f_lang_2f_String_3b_ rfl) rfl (by show 2 * 0 + _ ≤ _; exact Nat.le_of_eq rfl) (hb hby at_85) (fun _ _ => ⟨rfl, e255, (by decide : 9 + 3 ≤ _), (by decide : 23 + 8 ≤ _)⟩)
        dsimp only [Pt.U, Pt.locs, Pt.cells, Pt.slots] at X257 l257 y257 z257 st257 hQ257
        subst y257 z257
        obtain ⟨bx_257, rfl, N257q, K257c, g_bx_257, sb_bx_257⟩ := hQ257
        have N257 : Fr n0 L257 := by rw [l257]; exact Fr.app N254 N257q
        have Z257 : n0 ≤ T257.heap.size := Nat.le_trans Z255 K257c.1
        change Stand _ _ _ _ _ _ _ _ _ _ _ _ 12 31 at X257
        obtain ⟨T258, h258, X258, e258, E258, A258, D258, -, st258⟩ := newO X257 hx hZ hown (hw _ (List.mem_of_getElem? (i := 0) rfl)) (hw _ (List.mem_of_getElem? (i := 1) rfl)) (hw _ (List.mem_of_getElem? (i := 2) rfl)) rfl (g := (mkF m 89 #[.val (.int pp1), .val (.int pp2), .val (.int pp3), .val (.int pp4), .val (.int pp5), .val (.int (1 : Int32)), .val (.int (0 : Int32)), .val (.int (0 : Int32)), .val (.ref b241), .val (.ref b248), .unset, .unset, .unset, .unset, .unset, .unset, .unset] [.null, (.ref bx_257), (.ref b255), (.ref b255)])) rfl (hb hby at_89) (by decide) (by decide)
        obtain ⟨b258, g258⟩ : ∃ z, z = T257.heap.size := ⟨_, rfl⟩
        rw [← g258] at A258 D258 st258
        have g_b258 : n0 ≤ b258 := Nat.le_trans Z257 (Nat.le_of_eq g258.symm)
        have Z258 : n0 ≤ h258.size := Nat.le_trans Z257 E258.1
        have F258_province : Fld Z h258 b258 "com/example/outremer_engine/outremerengine/board/Place" "province" "Lcom/example/outremer_engine/outremerengine/board/Province;" .null := D258 (Or.inr (hw _ (List.mem_of_getElem? (i := 47) rfl))) (ty := (.object "com/example/outremer_engine/outremerengine/board/Province")) (by decide)
        have F258_coast : Fld Z h258 b258 "com/example/outremer_engine/outremerengine/board/Place" "coast" "Ljava/lang/String;" .null := D258 (Or.inr (hw _ (List.mem_of_getElem? (i := 49) rfl))) (ty := (.object "java/lang/String")) (by decide)
        have O_259 : Old Z n0 h258 := ((O_256.keep K257c all0).ext E258)
        obtain ⟨_, _, ⟨T260, L260, k260, n260⟩, -, X260, ⟨Lc260, hQ260, l260, y260, z260⟩, st260⟩ := Jvm.LawKit.callS X258 hx (y := (⟨"com/example/outremer_engine/outremerengine/diplomacy/SupportMoveGivenToPinLaw", "drawn", "(I)Ljava/lang/String;"⟩ : MethodName)) hown (mvT hZ (hw _ (List.mem_of_getElem? (i := 3) rfl))) (mvT hZ (hw _ (List.mem_of_getElem? (i := 4) rfl))) (mvT hZ (hw _ (List.mem_of_getElem? (i := 5) rfl))) (mvT hZ (hw _ (List.mem_of_getElem? (i := 6) rfl))) (by decide) (backOf (W := 7) (rm1 l Z a0 hw [] ((pp4.toUInt32 >>> ((16 : Int32) &&& 31).toUInt32).toInt32) cs h258 n0 Z258 O_259 S_COMPACT_STRINGS (show ¬ cs = (0 : Int32) from hcs)) hZ (hw _ (List.mem_of_getElem? (i := 6) rfl)) (hw _ (List.mem_of_getElem? (i := 5) rfl)) (by decide) (by decide)) (g := (mkF m 98 #[.val (.int pp1), .val (.int pp2), .val (.int pp3), .val (.int pp4), .val (.int pp5), .val (.int (1 : Int32)), .val (.int (0 : Int32)), .val (.int (0 : Int32)), .val (.ref b241), .val (.ref b248), .unset, .unset, .unset, .unset, .unset, .unset, .unset] [(.int ((pp4.toUInt32 >>> ((16 : Int32) &&& 31).toUInt32).toInt32)), .null, (.ref b258), (.ref b258), .null, (.ref bx_257), (.ref b255), (.ref b255)])) rfl (by rw [hml]; rfl) (argsL := [(.int ((pp4.toUInt32 >>> ((16 : Int32) &&& 31).toUInt32).toInt32))]) (rest := [.null, (.ref b258), (.ref b258), .null, (.ref bx_257), (.ref b255), (.ref b255)]) (lenOf pd__28_I_29_Ljava_2f_lang_2f_String_3b_ rfl) rfl (by show 2 * 0 + _ ≤ _; exact Nat.le_of_eq rfl) (hb hby at_98) (fun _ _ => ⟨rfl, e258, (by decide : 13 + 3 ≤ _), (by decide : 33 + 8 ≤ _)⟩)
        dsimp only [Pt.U, Pt.locs, Pt.cells, Pt.slots] at X260 l260 y260 z260 st260 hQ260
        subst y260 z260
        obtain ⟨bx_260, rfl, N260q, K260c, g_bx_260, sb_bx_260⟩ := hQ260
        have N260 : Fr n0 L260 := by rw [l260]; exact Fr.app N257 N260q
        have Z260 : n0 ≤ T260.heap.size := Nat.le_trans Z258 K260c.1
        change Stand _ _ _ _ _ _ _ _ _ _ _ _ 16 41 at X260
        have E_261 : Exa Z T260.heap b258 "com/example/outremer_engine/outremerengine/board/Place" := (A258.keep K260c)
        have F_262 : Fld Z T260.heap b258 "com/example/outremer_engine/outremerengine/board/Place" "province" "Lcom/example/outremer_engine/outremerengine/board/Province;" .null := (F258_province.keep K260c nin0)
        have F_263 : Fld Z T260.heap b258 "com/example/outremer_engine/outremerengine/board/Place" "coast" "Ljava/lang/String;" .null := (F258_coast.keep K260c nin0)
        obtain ⟨_, _, ⟨T264, L264, k264, n264⟩, -, X264, ⟨Lc264, hQ264, l264, y264, z264⟩, st264⟩ := X260.specialBack hx (y := (⟨"com/example/outremer_engine/outremerengine/board/Place", "<init>", "(Lcom/example/outremer_engine/outremerengine/board/Province;Ljava/lang/String;)V"⟩ : MethodName)) rfl hown (mvT hZ (hw _ (List.mem_of_getElem? (i := 37) rfl))) (mvT hZ (hw _ (List.mem_of_getElem? (i := 38) rfl))) (mvT hZ (hw _ (List.mem_of_getElem? (i := 39) rfl))) (by decide) (backOf (W := 5) (rm8 l Z a0 hw [] b258 bx_260 .null .null T260.heap n0 Z260 E_261 g_b258 F_262 F_263) hZ (hw _ (List.mem_of_getElem? (i := 39) rfl)) (hw _ (List.mem_of_getElem? (i := 2) rfl)) (by decide) (by decide)) (g := (mkF m 101 #[.val (.int pp1), .val (.int pp2), .val (.int pp3), .val (.int pp4), .val (.int pp5), .val (.int (1 : Int32)), .val (.int (0 : Int32)), .val (.int (0 : Int32)), .val (.ref b241), .val (.ref b248), .unset, .unset, .unset, .unset, .unset, .unset, .unset] [(.ref bx_260), .null, (.ref b258), (.ref b258), .null, (.ref bx_257), (.ref b255), (.ref b255)])) rfl (by rw [hml]; rfl) (Steps.refl _) (a := b258) (argsL := [.null, (.ref bx_260)]) (rest := [(.ref b258), .null, (.ref bx_257), (.ref b255), (.ref b255)]) (lenOf pd__28_Lcom_2f_example_2f_outremer_engine_2f_outremerengine_2f_board_2f_Province_3b_Ljava_2f_lang_2f_String_3b__29_V rfl) rfl (by show 2 * 0 + _ ≤ _; exact Nat.le_of_eq rfl) (hb hby at_101) (fun _ _ => ⟨rfl, rfl, (by decide : 16 + 0 ≤ _), (by decide : 41 + 0 ≤ _)⟩)
        dsimp only [Pt.U, Pt.locs, Pt.cells, Pt.slots] at X264 l264 y264 z264 st264 hQ264
        subst y264 z264
        obtain ⟨rfl, N264q, K264c, R264_0, R264_1⟩ := hQ264
        have N264 : Fr n0 L264 := by rw [l264]; exact Fr.app N260 N264q
        have Z264 : n0 ≤ T264.heap.size := Nat.le_trans Z260 K264c.1
        change Stand _ _ _ _ _ _ _ _ _ _ _ _ 16 41 at X264
        have E_265 : Exa Z T264.heap b255 "com/example/outremer_engine/outremerengine/board/Unit" := ((((A255.keep K257c).ext E258).keep K260c).keep K264c)
        have F_266 : Fld Z T264.heap b255 "com/example/outremer_engine/outremerengine/board/Unit" "nation" "Ljava/lang/String;" .null := ((((F255_nation.keep K257c nin0).ext E258).keep K260c nin0).keep K264c (ninS (Nat.ne_of_lt (Nat.lt_of_lt_of_le (A255.keep K257c).lt (Nat.le_of_eq g258.symm))) nin0))
        have F_267 : Fld Z T264.heap b255 "com/example/outremer_engine/outremerengine/board/Unit" "type" "Lcom/example/outremer_engine/outremerengine/board/UnitType;" .null := ((((F255_type.keep K257c nin0).ext E258).keep K260c nin0).keep K264c (ninS (Nat.ne_of_lt (Nat.lt_of_lt_of_le (A255.keep K257c).lt (Nat.le_of_eq g258.symm))) nin0))
        have F_268 : Fld Z T264.heap b255 "com/example/outremer_engine/outremerengine/board/Unit" "place" "Lcom/example/outremer_engine/outremerengine/board/Place;" .null := ((((F255_place.keep K257c nin0).ext E258).keep K260c nin0).keep K264c (ninS (Nat.ne_of_lt (Nat.lt_of_lt_of_le (A255.keep K257c).lt (Nat.le_of_eq g258.symm))) nin0))
        obtain ⟨_, _, ⟨T269, L269, k269, n269⟩, -, X269, ⟨Lc269, hQ269, l269, y269, z269⟩, st269⟩ := X264.specialBack hx (y := (⟨"com/example/outremer_engine/outremerengine/board/Unit", "<init>", "(Ljava/lang/String;Lcom/example/outremer_engine/outremerengine/board/UnitType;Lcom/example/outremer_engine/outremerengine/board/Place;)V"⟩ : MethodName)) rfl hown (mvT hZ (hw _ (List.mem_of_getElem? (i := 53) rfl))) (mvT hZ (hw _ (List.mem_of_getElem? (i := 54) rfl))) (mvT hZ (hw _ (List.mem_of_getElem? (i := 55) rfl))) (by decide) (backOf (W := 1) (rm10 l Z a0 hw [] b255 bx_257 b258 .null .null .null T264.heap n0 Z264 E_265 g_b255 F_266 F_267 F_268) hZ (hw _ (List.mem_of_getElem? (i := 55) rfl)) (hw _ (List.mem_of_getElem? (i := 52) rfl)) (by decide) (by decide)) (g := (mkF m 104 #[.val (.int pp1), .val (.int pp2), .val (.int pp3), .val (.int pp4), .val (.int pp5), .val (.int (1 : Int32)), .val (.int (0 : Int32)), .val (.int (0 : Int32)), .val (.ref b241), .val (.ref b248), .unset, .unset, .unset, .unset, .unset, .unset, .unset] [(.ref b258), .null, (.ref bx_257), (.ref b255), (.ref b255)])) rfl (by rw [hml]; rfl) (Steps.refl _) (a := b255) (argsL := [(.ref bx_257), .null, (.ref b258)]) (rest := [(.ref b255)]) (lenOf pd__28_Ljava_2f_lang_2f_String_3b_Lcom_2f_example_2f_outremer_engine_2f_outremerengine_2f_board_2f_UnitType_3b_Lcom_2f_example_2f_outremer_engine_2f_outremerengine_2f_board_2f_Place_3b__29_V rfl) rfl (by show 2 * 0 + _ ≤ _; exact Nat.le_of_eq rfl) (hb hby at_104) (fun _ _ => ⟨rfl, rfl, (by decide : 16 + 0 ≤ _), (by decide : 41 + 0 ≤ _)⟩)
        dsimp only [Pt.U, Pt.locs, Pt.cells, Pt.slots] at X269 l269 y269 z269 st269 hQ269
        subst y269 z269
        obtain ⟨rfl, N269q, K269c, R269_0, R269_1, R269_2⟩ := hQ269
        have N269 : Fr n0 L269 := by rw [l269]; exact Fr.app N264 N269q
        have Z269 : n0 ≤ T269.heap.size := Nat.le_trans Z264 K269c.1
        change Stand _ _ _ _ _ _ _ _ _ _ _ _ 16 41 at X269
        have hc111_5 : ¬ ((1 : Int32) = (0 : Int32)) := by decide
        have hc150_5 : (0 : Int32) = (0 : Int32) := by decide
        obtain ⟨T270, h270, X270, e270, E270, A270, D270, -, st270⟩ := newO X269 hx hZ hown (hw _ (List.mem_of_getElem? (i := 63) rfl)) (hw _ (List.mem_of_getElem? (i := 64) rfl)) (hw _ (List.mem_of_getElem? (i := 65) rfl)) rfl (g := (mkF m 162 #[.val (.int pp1), .val (.int pp2), .val (.int pp3), .val (.int pp4), .val (.int pp5), .val (.int (1 : Int32)), .val (.int (0 : Int32)), .val (.int (0 : Int32)), .val (.ref b241), .val (.ref b248), .val (.ref b255), .val (.ref b255), .val .null, .unset, .unset, .unset, .unset] [])) rfl (hb hby at_162) (by decide) (by decide)
        obtain ⟨b270, g270⟩ : ∃ z, z = T269.heap.size := ⟨_, rfl⟩
        rw [← g270] at A270 D270 st270
        have g_b270 : n0 ≤ b270 := Nat.le_trans Z269 (Nat.le_of_eq g270.symm)
        have Z270 : n0 ≤ h270.size := Nat.le_trans Z269 E270.1
        have F270_unit : Fld Z h270 b270 "com/example/outremer_engine/outremerengine/diplomacy/Order$SupportMove" "unit" "Lcom/example/outremer_engine/outremerengine/board/Unit;" .null := D270 (Or.inr (hw _ (List.mem_of_getElem? (i := 71) rfl))) (ty := (.object "com/example/outremer_engine/outremerengine/board/Unit")) (by decide)
        have F270_supportedType : Fld Z h270 b270 "com/example/outremer_engine/outremerengine/diplomacy/Order$SupportMove" "supportedType" "Ljava/util/Optional;" .null := D270 (Or.inr (hw _ (List.mem_of_getElem? (i := 73) rfl))) (ty := (.object "java/util/Optional")) (by decide)
        have F270_from : Fld Z h270 b270 "com/example/outremer_engine/outremerengine/diplomacy/Order$SupportMove" "from" "Lcom/example/outremer_engine/outremerengine/board/Place;" .null := D270 (Or.inr (hw _ (List.mem_of_getElem? (i := 75) rfl))) (ty := (.object "com/example/outremer_engine/outremerengine/board/Place")) (by decide)
        have F270_to : Fld Z h270 b270 "com/example/outremer_engine/outremerengine/diplomacy/Order$SupportMove" "to" "Lcom/example/outremer_engine/outremerengine/board/Place;" .null := D270 (Or.inr (hw _ (List.mem_of_getElem? (i := 77) rfl))) (ty := (.object "com/example/outremer_engine/outremerengine/board/Place")) (by decide)
        obtain ⟨_, _, ⟨T271, L271, k271, n271⟩, -, X271, ⟨Lc271, hQ271, l271, y271, z271⟩, st271⟩ := X270.specialBack hx (y := (⟨"com/example/outremer_engine/outremerengine/diplomacy/Order$SupportMove", "<init>", "(Lcom/example/outremer_engine/outremerengine/board/Unit;Ljava/util/Optional;Lcom/example/outremer_engine/outremerengine/board/Place;Lcom/example/outremer_engine/outremerengine/board/Place;)V"⟩ : MethodName)) rfl hown (mvT hZ (hw _ (List.mem_of_getElem? (i := 66) rfl))) (mvT hZ (hw _ (List.mem_of_getElem? (i := 67) rfl))) (mvT hZ (hw _ (List.mem_of_getElem? (i := 68) rfl))) (by decide) (backOf (W := 1) (rm11_n l Z a0 hw [] b270 b255 b241 b248 .null .null .null .null h270 n0 Z270 A270 g_b270 F270_unit F270_supportedType F270_from F270_to) hZ (hw _ (List.mem_of_getElem? (i := 68) rfl)) (hw _ (List.mem_of_getElem? (i := 65) rfl)) (by decide) (by decide)) (g := (mkF m 174 #[.val (.int pp1), .val (.int pp2), .val (.int pp3), .val (.int pp4), .val (.int pp5), .val (.int (1 : Int32)), .val (.int (0 : Int32)), .val (.int (0 : Int32)), .val (.ref b241), .val (.ref b248), .val (.ref b255), .val (.ref b255), .val .null, .unset, .unset, .unset, .unset] [(.ref b248), (.ref b241), .null, (.ref b255), (.ref b270), (.ref b270)])) rfl (by rw [hml]; rfl) (Steps.refl _) (a := b270) (argsL := [(.ref b255), .null, (.ref b241), (.ref b248)]) (rest := [(.ref b270)]) (lenOf pd__28_Lcom_2f_example_2f_outremer_engine_2f_outremerengine_2f_board_2f_Unit_3b_Ljava_2f_util_2f_Optional_3b_Lcom_2f_example_2f_outremer_engine_2f_outremerengine_2f_board_2f_Place_3b_Lcom_2f_example_2f_outremer_engine_2f_outremerengine_2f_board_2f_Place_3b__29_V rfl) rfl (by show 2 * 0 + _ ≤ _; exact Nat.le_of_eq rfl) (hb hby at_174) (fun _ _ => ⟨rfl, e270, (by decide : 17 + 0 ≤ _), (by decide : 45 + 0 ≤ _)⟩)
        dsimp only [Pt.U, Pt.locs, Pt.cells, Pt.slots] at X271 l271 y271 z271 st271 hQ271
        subst y271 z271
        obtain ⟨rfl, N271q, K271c, R271_0, R271_1, R271_2, R271_3⟩ := hQ271
        have N271 : Fr n0 L271 := by rw [l271]; exact Fr.app N269 N271q
        have Z271 : n0 ≤ T271.heap.size := Nat.le_trans Z270 K271c.1
        change Stand _ _ _ _ _ _ _ _ _ _ _ _ 17 45 at X271
        have E_273 : Exa Z T271.heap b270 "com/example/outremer_engine/outremerengine/diplomacy/Order$SupportMove" := (A270.keep K271c)
        obtain ⟨cq272, kq272, q272a, q272b, q272c⟩ := isOf hZ rfl E_273
        obtain ⟨_, _, ⟨T272, L272, k272, n272⟩, -, X272, ⟨Lc272, hQ272, l272, y272, z272⟩, st272⟩ := X271.virtualBack hx (y := (⟨"com/example/outremer_engine/outremerengine/diplomacy/Order$SupportMove", "givenTo", "(Lcom/example/outremer_engine/outremerengine/board/Unit;)Lcom/example/outremer_engine/outremerengine/diplomacy/Order$SupportMove;"⟩ : MethodName)) (z := (⟨"com/example/outremer_engine/outremerengine/diplomacy/Order$SupportMove", "givenTo", "(Lcom/example/outremer_engine/outremerengine/board/Unit;)Lcom/example/outremer_engine/outremerengine/diplomacy/Order$SupportMove;"⟩ : MethodName)) hown (mvT hZ (hw _ (List.mem_of_getElem? (i := 78) rfl))) (mvT hZ (hw _ (List.mem_of_getElem? (i := 79) rfl))) (notFace_of_selects (args := #[]) (mvT hZ (hw _ (List.mem_of_getElem? (i := 81) rfl)))) (mvT hZ (hw _ (List.mem_of_getElem? (i := 81) rfl))) (mvT hZ (hw _ (List.mem_of_getElem? (i := 80) rfl))) (by decide) (backOf (W := 0) (rm12_n l Z a0 hw [] b270 b255 b241 b248 T271.heap n0 Z271 R271_1 R271_2 R271_3) hZ (hw _ (List.mem_of_getElem? (i := 82) rfl)) (hw _ (List.mem_of_getElem? (i := 65) rfl)) (by decide) (by decide)) q272a q272c (g := (mkF m 183 #[.val (.int pp1), .val (.int pp2), .val (.int pp3), .val (.int pp4), .val (.int pp5), .val (.int (1 : Int32)), .val (.int (0 : Int32)), .val (.int (0 : Int32)), .val (.ref b241), .val (.ref b248), .val (.ref b255), .val (.ref b255), .val .null, .val (.ref b270), .unset, .unset, .unset] [(.ref b255), (.ref b270)])) rfl (by rw [hml]; rfl) (Steps.refl _) (argsL := [(.ref b255)]) (rest := []) (lenOf pd__28_Lcom_2f_example_2f_outremer_engine_2f_outremerengine_2f_board_2f_Unit_3b__29_Lcom_2f_example_2f_outremer_engine_2f_outremerengine_2f_diplomacy_2f_Order_24_SupportMove_3b_ rfl) rfl (by show 2 * 0 + _ ≤ _; exact Nat.le_of_eq rfl) (hb hby at_183) (fun _ _ => ⟨rfl, rfl, (by decide : 17 + 1 ≤ _), (by decide : 45 + 4 ≤ _)⟩)
        dsimp only [Pt.U, Pt.locs, Pt.cells, Pt.slots] at X272 l272 y272 z272 st272 hQ272
        subst y272 z272
        obtain ⟨bx_272, rfl, N272q, K272c, g_bx_272, sb_bx_272, R272_0, R272_1, R272_2, R272_3, R272_4⟩ := hQ272
        have N272 : Fr n0 L272 := by rw [l272]; exact Fr.app N271 N272q
        have Z272 : n0 ≤ T272.heap.size := Nat.le_trans Z271 K272c.1
        change Stand _ _ _ _ _ _ _ _ _ _ _ _ 18 49 at X272
        obtain ⟨cq274, kq274, q274a, q274b, q274c⟩ := isOf hZ rfl R272_0
        obtain ⟨_, _, ⟨T274, L274, k274, n274⟩, -, X274, ⟨Lc274, hQ274, l274, y274, z274⟩, st274⟩ := X272.virtualBack hx (y := (⟨"com/example/outremer_engine/outremerengine/diplomacy/Order$SupportMove", "unit", "()Lcom/example/outremer_engine/outremerengine/board/Unit;"⟩ : MethodName)) (z := (⟨"com/example/outremer_engine/outremerengine/diplomacy/Order$SupportMove", "unit", "()Lcom/example/outremer_engine/outremerengine/board/Unit;"⟩ : MethodName)) hown (mvT hZ (hw _ (List.mem_of_getElem? (i := 85) rfl))) (mvT hZ (hw _ (List.mem_of_getElem? (i := 86) rfl))) (notFace_of_selects (args := #[]) (mvT hZ (hw _ (List.mem_of_getElem? (i := 88) rfl)))) (mvT hZ (hw _ (List.mem_of_getElem? (i := 88) rfl))) (mvT hZ (hw _ (List.mem_of_getElem? (i := 87) rfl))) (by decide) (backOf (W := 0) (rm13 l Z a0 hw [] bx_272 b255 T272.heap n0 Z272 R272_1) hZ (hw _ (List.mem_of_getElem? (i := 89) rfl)) (hw _ (List.mem_of_getElem? (i := 65) rfl)) (by decide) (by decide)) q274a q274c (g := (mkF m 197 #[.val (.int pp1), .val (.int pp2), .val (.int pp3), .val (.int pp4), .val (.int pp5), .val (.int (1 : Int32)), .val (.int (0 : Int32)), .val (.int (0 : Int32)), .val (.ref b241), .val (.ref b248), .val (.ref b255), .val (.ref b255), .val .null, .val (.ref b270), .val (.ref bx_272), .unset, .unset] [(.ref bx_272)])) rfl (by rw [hml]; rfl) (Steps.refl _) (argsL := []) (rest := []) (lenOf pd__28__29_Lcom_2f_example_2f_outremer_engine_2f_outremerengine_2f_board_2f_Unit_3b_ rfl) rfl (by show 2 * 0 + _ ≤ _; exact Nat.le_of_eq rfl) (hb hby at_197) (fun _ _ => ⟨rfl, rfl, (by decide : 18 + 0 ≤ _), (by decide : 49 + 0 ≤ _)⟩)
        dsimp only [Pt.U, Pt.locs, Pt.cells, Pt.slots] at X274 l274 y274 z274 st274 hQ274
        subst y274 z274
        obtain ⟨rfl, N274q, e274⟩ := hQ274
        have N274 : Fr n0 L274 := by rw [l274]; exact Fr.app N272 N274q
        change Stand _ _ _ _ _ _ _ _ _ _ _ _ 18 49 at X274
        obtain ⟨cq275, kq275, q275a, q275b, q275c⟩ := isOf hZ e274 R272_0
        obtain ⟨_, _, ⟨T275, L275, k275, n275⟩, -, X275, ⟨Lc275, hQ275, l275, y275, z275⟩, st275⟩ := X274.virtualBack hx (y := (⟨"com/example/outremer_engine/outremerengine/diplomacy/Order$SupportMove", "supportedType", "()Ljava/util/Optional;"⟩ : MethodName)) (z := (⟨"com/example/outremer_engine/outremerengine/diplomacy/Order$SupportMove", "supportedType", "()Ljava/util/Optional;"⟩ : MethodName)) hown (mvT hZ (hw _ (List.mem_of_getElem? (i := 90) rfl))) (mvT hZ (hw _ (List.mem_of_getElem? (i := 91) rfl))) (notFace_of_selects (args := #[]) (mvT hZ (hw _ (List.mem_of_getElem? (i := 93) rfl)))) (mvT hZ (hw _ (List.mem_of_getElem? (i := 93) rfl))) (mvT hZ (hw _ (List.mem_of_getElem? (i := 92) rfl))) (by decide) (backOf (W := 0) (rm14_n l Z a0 hw [] bx_272 T272.heap n0 Z272 R272_2) hZ (hw _ (List.mem_of_getElem? (i := 94) rfl)) (hw _ (List.mem_of_getElem? (i := 65) rfl)) (by decide) (by decide)) q275a q275c (g := (mkF m 207 #[.val (.int pp1), .val (.int pp2), .val (.int pp3), .val (.int pp4), .val (.int pp5), .val (.int (1 : Int32)), .val (.int (0 : Int32)), .val (.int (0 : Int32)), .val (.ref b241), .val (.ref b248), .val (.ref b255), .val (.ref b255), .val .null, .val (.ref b270), .val (.ref bx_272), .unset, .unset] [(.ref bx_272)])) rfl (by rw [hml]; rfl) (Steps.refl _) (argsL := []) (rest := []) (lenOf pd__28__29_Ljava_2f_util_2f_Optional_3b_ rfl) rfl (by show 2 * 0 + _ ≤ _; exact Nat.le_of_eq rfl) (hb hby at_207) (fun _ _ => ⟨rfl, e274, (by decide : 18 + 0 ≤ _), (by decide : 49 + 0 ≤ _)⟩)
        dsimp only [Pt.U, Pt.locs, Pt.cells, Pt.slots] at X275 l275 y275 z275 st275 hQ275
        subst y275 z275
        obtain ⟨rfl, N275q, e275⟩ := hQ275
        have N275 : Fr n0 L275 := by rw [l275]; exact Fr.app N274 N275q
        change Stand _ _ _ _ _ _ _ _ _ _ _ _ 18 49 at X275
        obtain ⟨cq276, kq276, q276a, q276b, q276c⟩ := isOf hZ e275 R272_0
        obtain ⟨_, _, ⟨T276, L276, k276, n276⟩, -, X276, ⟨Lc276, hQ276, l276, y276, z276⟩, st276⟩ := X275.virtualBack hx (y := (⟨"com/example/outremer_engine/outremerengine/diplomacy/Order$SupportMove", "from", "()Lcom/example/outremer_engine/outremerengine/board/Place;"⟩ : MethodName)) (z := (⟨"com/example/outremer_engine/outremerengine/diplomacy/Order$SupportMove", "from", "()Lcom/example/outremer_engine/outremerengine/board/Place;"⟩ : MethodName)) hown (mvT hZ (hw _ (List.mem_of_getElem? (i := 95) rfl))) (mvT hZ (hw _ (List.mem_of_getElem? (i := 96) rfl))) (notFace_of_selects (args := #[]) (mvT hZ (hw _ (List.mem_of_getElem? (i := 98) rfl)))) (mvT hZ (hw _ (List.mem_of_getElem? (i := 98) rfl))) (mvT hZ (hw _ (List.mem_of_getElem? (i := 97) rfl))) (by decide) (backOf (W := 0) (rm15 l Z a0 hw [] bx_272 b241 T272.heap n0 Z272 R272_3) hZ (hw _ (List.mem_of_getElem? (i := 99) rfl)) (hw _ (List.mem_of_getElem? (i := 65) rfl)) (by decide) (by decide)) q276a q276c (g := (mkF m 217 #[.val (.int pp1), .val (.int pp2), .val (.int pp3), .val (.int pp4), .val (.int pp5), .val (.int (1 : Int32)), .val (.int (0 : Int32)), .val (.int (0 : Int32)), .val (.ref b241), .val (.ref b248), .val (.ref b255), .val (.ref b255), .val .null, .val (.ref b270), .val (.ref bx_272), .unset, .unset] [(.ref bx_272)])) rfl (by rw [hml]; rfl) (Steps.refl _) (argsL := []) (rest := []) (lenOf pd__28__29_Lcom_2f_example_2f_outremer_engine_2f_outremerengine_2f_board_2f_Place_3b_ rfl) rfl (by show 2 * 0 + _ ≤ _; exact Nat.le_of_eq rfl) (hb hby at_217) (fun _ _ => ⟨rfl, e275, (by decide : 18 + 0 ≤ _), (by decide : 49 + 0 ≤ _)⟩)
        dsimp only [Pt.U, Pt.locs, Pt.cells, Pt.slots] at X276 l276 y276 z276 st276 hQ276
        subst y276 z276
        obtain ⟨rfl, N276q, e276⟩ := hQ276
        have N276 : Fr n0 L276 := by rw [l276]; exact Fr.app N275 N276q
        change Stand _ _ _ _ _ _ _ _ _ _ _ _ 18 49 at X276
        obtain ⟨cq277, kq277, q277a, q277b, q277c⟩ := isOf hZ e276 R272_0
        obtain ⟨_, _, ⟨T277, L277, k277, n277⟩, -, X277, ⟨Lc277, hQ277, l277, y277, z277⟩, st277⟩ := X276.virtualBack hx (y := (⟨"com/example/outremer_engine/outremerengine/diplomacy/Order$SupportMove", "to", "()Lcom/example/outremer_engine/outremerengine/board/Place;"⟩ : MethodName)) (z := (⟨"com/example/outremer_engine/outremerengine/diplomacy/Order$SupportMove", "to", "()Lcom/example/outremer_engine/outremerengine/board/Place;"⟩ : MethodName)) hown (mvT hZ (hw _ (List.mem_of_getElem? (i := 100) rfl))) (mvT hZ (hw _ (List.mem_of_getElem? (i := 101) rfl))) (notFace_of_selects (args := #[]) (mvT hZ (hw _ (List.mem_of_getElem? (i := 103) rfl)))) (mvT hZ (hw _ (List.mem_of_getElem? (i := 103) rfl))) (mvT hZ (hw _ (List.mem_of_getElem? (i := 102) rfl))) (by decide) (backOf (W := 0) (rm16 l Z a0 hw [] bx_272 b248 T272.heap n0 Z272 R272_4) hZ (hw _ (List.mem_of_getElem? (i := 104) rfl)) (hw _ (List.mem_of_getElem? (i := 65) rfl)) (by decide) (by decide)) q277a q277c (g := (mkF m 227 #[.val (.int pp1), .val (.int pp2), .val (.int pp3), .val (.int pp4), .val (.int pp5), .val (.int (1 : Int32)), .val (.int (0 : Int32)), .val (.int (0 : Int32)), .val (.ref b241), .val (.ref b248), .val (.ref b255), .val (.ref b255), .val .null, .val (.ref b270), .val (.ref bx_272), .unset, .unset] [(.ref bx_272)])) rfl (by rw [hml]; rfl) (Steps.refl _) (argsL := []) (rest := []) (lenOf pd__28__29_Lcom_2f_example_2f_outremer_engine_2f_outremerengine_2f_board_2f_Place_3b_ rfl) rfl (by show 2 * 0 + _ ≤ _; exact Nat.le_of_eq rfl) (hb hby at_227) (fun _ _ => ⟨rfl, e276, (by decide : 18 + 0 ≤ _), (by decide : 49 + 0 ≤ _)⟩)
        dsimp only [Pt.U, Pt.locs, Pt.cells, Pt.slots] at X277 l277 y277 z277 st277 hQ277
        subst y277 z277
        obtain ⟨rfl, N277q, e277⟩ := hQ277
        have N277 : Fr n0 L277 := by rw [l277]; exact Fr.app N276 N277q
        change Stand _ _ _ _ _ _ _ _ _ _ _ _ 18 49 at X277
        have F_278 : Fld Z T272.heap b270 "com/example/outremer_engine/outremerengine/diplomacy/Order$SupportMove" "unit" "Lcom/example/outremer_engine/outremerengine/board/Unit;" (.ref b255) := (R271_0.keep K272c nin0)
        have E_280 : Exa Z T272.heap b270 "com/example/outremer_engine/outremerengine/diplomacy/Order$SupportMove" := (E_273.keep K272c)
        obtain ⟨cq279, kq279, q279a, q279b, q279c⟩ := isOf hZ e277 E_280
        obtain ⟨_, _, ⟨T279, L279, k279, n279⟩, -, X279, ⟨Lc279, hQ279, l279, y279, z279⟩, st279⟩ := X277.virtualBack hx (y := (⟨"com/example/outremer_engine/outremerengine/diplomacy/Order$SupportMove", "unit", "()Lcom/example/outremer_engine/outremerengine/board/Unit;"⟩ : MethodName)) (z := (⟨"com/example/outremer_engine/outremerengine/diplomacy/Order$SupportMove", "unit", "()Lcom/example/outremer_engine/outremerengine/board/Unit;"⟩ : MethodName)) hown (mvT hZ (hw _ (List.mem_of_getElem? (i := 85) rfl))) (mvT hZ (hw _ (List.mem_of_getElem? (i := 86) rfl))) (notFace_of_selects (args := #[]) (mvT hZ (hw _ (List.mem_of_getElem? (i := 88) rfl)))) (mvT hZ (hw _ (List.mem_of_getElem? (i := 88) rfl))) (mvT hZ (hw _ (List.mem_of_getElem? (i := 87) rfl))) (by decide) (backOf (W := 0) (rm13 l Z a0 hw [] b270 b255 T272.heap n0 Z272 F_278) hZ (hw _ (List.mem_of_getElem? (i := 89) rfl)) (hw _ (List.mem_of_getElem? (i := 65) rfl)) (by decide) (by decide)) q279a q279c (g := (mkF m 244 #[.val (.int pp1), .val (.int pp2), .val (.int pp3), .val (.int pp4), .val (.int pp5), .val (.int (1 : Int32)), .val (.int (0 : Int32)), .val (.int (0 : Int32)), .val (.ref b241), .val (.ref b248), .val (.ref b255), .val (.ref b255), .val .null, .val (.ref b270), .val (.ref bx_272), .val (.int (1 : Int32)), .unset] [(.ref b270)])) rfl (by rw [hml]; rfl) (Steps.refl _) (argsL := []) (rest := []) (lenOf pd__28__29_Lcom_2f_example_2f_outremer_engine_2f_outremerengine_2f_board_2f_Unit_3b_ rfl) rfl (by show 2 * 0 + _ ≤ _; exact Nat.le_of_eq rfl) (hb hby at_244) (fun _ _ => ⟨rfl, e277, (by decide : 18 + 0 ≤ _), (by decide : 49 + 0 ≤ _)⟩)
        dsimp only [Pt.U, Pt.locs, Pt.cells, Pt.slots] at X279 l279 y279 z279 st279 hQ279
        subst y279 z279
        obtain ⟨rfl, N279q, e279⟩ := hQ279
        have N279 : Fr n0 L279 := by rw [l279]; exact Fr.app N277 N279q
        change Stand _ _ _ _ _ _ _ _ _ _ _ _ 18 49 at X279
        have F_281 : Fld Z T272.heap b270 "com/example/outremer_engine/outremerengine/diplomacy/Order$SupportMove" "supportedType" "Ljava/util/Optional;" .null := (R271_1.keep K272c nin0)
        obtain ⟨cq282, kq282, q282a, q282b, q282c⟩ := isOf hZ e279 E_280
        obtain ⟨_, _, ⟨T282, L282, k282, n282⟩, -, X282, ⟨Lc282, hQ282, l282, y282, z282⟩, st282⟩ := X279.virtualBack hx (y := (⟨"com/example/outremer_engine/outremerengine/diplomacy/Order$SupportMove", "supportedType", "()Ljava/util/Optional;"⟩ : MethodName)) (z := (⟨"com/example/outremer_engine/outremerengine/diplomacy/Order$SupportMove", "supportedType", "()Ljava/util/Optional;"⟩ : MethodName)) hown (mvT hZ (hw _ (List.mem_of_getElem? (i := 90) rfl))) (mvT hZ (hw _ (List.mem_of_getElem? (i := 91) rfl))) (notFace_of_selects (args := #[]) (mvT hZ (hw _ (List.mem_of_getElem? (i := 93) rfl)))) (mvT hZ (hw _ (List.mem_of_getElem? (i := 93) rfl))) (mvT hZ (hw _ (List.mem_of_getElem? (i := 92) rfl))) (by decide) (backOf (W := 0) (rm14_n l Z a0 hw [] b270 T272.heap n0 Z272 F_281) hZ (hw _ (List.mem_of_getElem? (i := 94) rfl)) (hw _ (List.mem_of_getElem? (i := 65) rfl)) (by decide) (by decide)) q282a q282c (g := (mkF m 254 #[.val (.int pp1), .val (.int pp2), .val (.int pp3), .val (.int pp4), .val (.int pp5), .val (.int (1 : Int32)), .val (.int (0 : Int32)), .val (.int (0 : Int32)), .val (.ref b241), .val (.ref b248), .val (.ref b255), .val (.ref b255), .val .null, .val (.ref b270), .val (.ref bx_272), .val (.int (1 : Int32)), .unset] [(.ref b270)])) rfl (by rw [hml]; rfl) (Steps.refl _) (argsL := []) (rest := []) (lenOf pd__28__29_Ljava_2f_util_2f_Optional_3b_ rfl) rfl (by show 2 * 0 + _ ≤ _; exact Nat.le_of_eq rfl) (hb hby at_254) (fun _ _ => ⟨rfl, e279, (by decide : 18 + 0 ≤ _), (by decide : 49 + 0 ≤ _)⟩)
        dsimp only [Pt.U, Pt.locs, Pt.cells, Pt.slots] at X282 l282 y282 z282 st282 hQ282
        subst y282 z282
        obtain ⟨rfl, N282q, e282⟩ := hQ282
        have N282 : Fr n0 L282 := by rw [l282]; exact Fr.app N279 N282q
        change Stand _ _ _ _ _ _ _ _ _ _ _ _ 18 49 at X282
        have F_283 : Fld Z T272.heap b270 "com/example/outremer_engine/outremerengine/diplomacy/Order$SupportMove" "from" "Lcom/example/outremer_engine/outremerengine/board/Place;" (.ref b241) := (R271_2.keep K272c nin0)
        obtain ⟨cq284, kq284, q284a, q284b, q284c⟩ := isOf hZ e282 E_280
        obtain ⟨_, _, ⟨T284, L284, k284, n284⟩, -, X284, ⟨Lc284, hQ284, l284, y284, z284⟩, st284⟩ := X282.virtualBack hx (y := (⟨"com/example/outremer_engine/outremerengine/diplomacy/Order$SupportMove", "from", "()Lcom/example/outremer_engine/outremerengine/board/Place;"⟩ : MethodName)) (z := (⟨"com/example/outremer_engine/outremerengine/diplomacy/Order$SupportMove", "from", "()Lcom/example/outremer_engine/outremerengine/board/Place;"⟩ : MethodName)) hown (mvT hZ (hw _ (List.mem_of_getElem? (i := 95) rfl))) (mvT hZ (hw _ (List.mem_of_getElem? (i := 96) rfl))) (notFace_of_selects (args := #[]) (mvT hZ (hw _ (List.mem_of_getElem? (i := 98) rfl)))) (mvT hZ (hw _ (List.mem_of_getElem? (i := 98) rfl))) (mvT hZ (hw _ (List.mem_of_getElem? (i := 97) rfl))) (by decide) (backOf (W := 0) (rm15 l Z a0 hw [] b270 b241 T272.heap n0 Z272 F_283) hZ (hw _ (List.mem_of_getElem? (i := 99) rfl)) (hw _ (List.mem_of_getElem? (i := 65) rfl)) (by decide) (by decide)) q284a q284c (g := (mkF m 264 #[.val (.int pp1), .val (.int pp2), .val (.int pp3), .val (.int pp4), .val (.int pp5), .val (.int (1 : Int32)), .val (.int (0 : Int32)), .val (.int (0 : Int32)), .val (.ref b241), .val (.ref b248), .val (.ref b255), .val (.ref b255), .val .null, .val (.ref b270), .val (.ref bx_272), .val (.int (1 : Int32)), .unset] [(.ref b270)])) rfl (by rw [hml]; rfl) (Steps.refl _) (argsL := []) (rest := []) (lenOf pd__28__29_Lcom_2f_example_2f_outremer_engine_2f_outremerengine_2f_board_2f_Place_3b_ rfl) rfl (by show 2 * 0 + _ ≤ _; exact Nat.le_of_eq rfl) (hb hby at_264) (fun _ _ => ⟨rfl, e282, (by decide : 18 + 0 ≤ _), (by decide : 49 + 0 ≤ _)⟩)
        dsimp only [Pt.U, Pt.locs, Pt.cells, Pt.slots] at X284 l284 y284 z284 st284 hQ284
        subst y284 z284
        obtain ⟨rfl, N284q, e284⟩ := hQ284
        have N284 : Fr n0 L284 := by rw [l284]; exact Fr.app N282 N284q
        change Stand _ _ _ _ _ _ _ _ _ _ _ _ 18 49 at X284
        have F_285 : Fld Z T272.heap b270 "com/example/outremer_engine/outremerengine/diplomacy/Order$SupportMove" "to" "Lcom/example/outremer_engine/outremerengine/board/Place;" (.ref b248) := (R271_3.keep K272c nin0)
        obtain ⟨cq286, kq286, q286a, q286b, q286c⟩ := isOf hZ e284 E_280
        obtain ⟨_, _, ⟨T286, L286, k286, n286⟩, -, X286, ⟨Lc286, hQ286, l286, y286, z286⟩, st286⟩ := X284.virtualBack hx (y := (⟨"com/example/outremer_engine/outremerengine/diplomacy/Order$SupportMove", "to", "()Lcom/example/outremer_engine/outremerengine/board/Place;"⟩ : MethodName)) (z := (⟨"com/example/outremer_engine/outremerengine/diplomacy/Order$SupportMove", "to", "()Lcom/example/outremer_engine/outremerengine/board/Place;"⟩ : MethodName)) hown (mvT hZ (hw _ (List.mem_of_getElem? (i := 100) rfl))) (mvT hZ (hw _ (List.mem_of_getElem? (i := 101) rfl))) (notFace_of_selects (args := #[]) (mvT hZ (hw _ (List.mem_of_getElem? (i := 103) rfl)))) (mvT hZ (hw _ (List.mem_of_getElem? (i := 103) rfl))) (mvT hZ (hw _ (List.mem_of_getElem? (i := 102) rfl))) (by decide) (backOf (W := 0) (rm16 l Z a0 hw [] b270 b248 T272.heap n0 Z272 F_285) hZ (hw _ (List.mem_of_getElem? (i := 104) rfl)) (hw _ (List.mem_of_getElem? (i := 65) rfl)) (by decide) (by decide)) q286a q286c (g := (mkF m 274 #[.val (.int pp1), .val (.int pp2), .val (.int pp3), .val (.int pp4), .val (.int pp5), .val (.int (1 : Int32)), .val (.int (0 : Int32)), .val (.int (0 : Int32)), .val (.ref b241), .val (.ref b248), .val (.ref b255), .val (.ref b255), .val .null, .val (.ref b270), .val (.ref bx_272), .val (.int (1 : Int32)), .unset] [(.ref b270)])) rfl (by rw [hml]; rfl) (Steps.refl _) (argsL := []) (rest := []) (lenOf pd__28__29_Lcom_2f_example_2f_outremer_engine_2f_outremerengine_2f_board_2f_Place_3b_ rfl) rfl (by show 2 * 0 + _ ≤ _; exact Nat.le_of_eq rfl) (hb hby at_274) (fun _ _ => ⟨rfl, e284, (by decide : 18 + 0 ≤ _), (by decide : 49 + 0 ≤ _)⟩)
        dsimp only [Pt.U, Pt.locs, Pt.cells, Pt.slots] at X286 l286 y286 z286 st286 hQ286
        subst y286 z286
        obtain ⟨rfl, N286q, e286⟩ := hQ286
        have N286 : Fr n0 L286 := by rw [l286]; exact Fr.app N284 N286q
        change Stand _ _ _ _ _ _ _ _ _ _ _ _ 18 49 at X286
        have hc291_5 : ¬ ((1 : Int32) = (0 : Int32)) := by decide
        have hc296_5 : ¬ ((1 : Int32) = (0 : Int32)) := by decide
        obtain ⟨fs, hr, hrun, hended, hW, hsame⟩ := X286.leave (v := some (.int (1 : Int32))) (fun h => by rw [Bd.returns] at h; cases h)
        refine ⟨_, _, pre240 _ ?_, hrun, hended, _, _, rfl, ?_, ⟨_, rfl⟩, hW, hsame.mono (by decide) (by decide)⟩
        · show Steps p.tables e below (s₁.setTop (mkF m 32 #[.val (.int pp1), .val (.int pp2), .val (.int pp3), .val (.int pp4), .val (.int pp5), .val (.int (1 : Int32)), .val (.int (0 : Int32)), .unset, .unset, .unset, .unset, .unset, .unset, .unset, .unset, .unset, .unset] [(.int (pp5 &&& (4 : Int32)))])) _
          refine XS.ifYes X0.here hx rfl (pc0 := 32) (pc' := 39) rfl (hb hby at_32) rfl ((if0 _ _).trans (teq hc32_3).1) (by decide) (by decide) ?_
          refine XS.iconst X0.here hx rfl (hb hby at_39) ?_
          refine XS.istore X0.here hx rfl (hb hby at_40) rfl (l' := #[.val (.int pp1), .val (.int pp2), .val (.int pp3), .val (.int pp4), .val (.int pp5), .val (.int (1 : Int32)), .val (.int (0 : Int32)), .val (.int (0 : Int32)), .unset, .unset, .unset, .unset, .unset, .unset, .unset, .unset, .unset]) rfl ?_
          refine st241 _ ?_
          refine XS.dup X241.here hx rfl (hb hby at_45) rfl rfl ?_
          refine XS.aconstNull X241.here hx rfl (hb hby at_46) ?_
          refine XS.iloadN X241.here hx rfl (hb hby at_47) rfl ?_
          refine st243 _ ?_
          refine st247.trans ?_
          refine XS.astore X247.here hx rfl (hb hby at_54) rfl rfl (l' := #[.val (.int pp1), .val (.int pp2), .val (.int pp3), .val (.int pp4), .val (.int pp5), .val (.int (1 : Int32)), .val (.int (0 : Int32)), .val (.int (0 : Int32)), .val (.ref b241), .unset, .unset, .unset, .unset, .unset, .unset, .unset, .unset]) rfl ?_
          refine XS.iload X247.here hx rfl (hb hby at_56) rfl ?_
          refine XS.ifYes X247.here hx rfl (pc0 := 58) (pc' := 66) rfl (hb hby at_58) rfl ((if0 _ _).trans (teq hc58_5).1) (by decide) (by decide) ?_
          refine st248 _ ?_
          refine XS.dup X248.here hx rfl (hb hby at_69) rfl rfl ?_
          refine XS.aconstNull X248.here hx rfl (hb hby at_70) ?_
          refine XS.iloadN X248.here hx rfl (hb hby at_71) rfl ?_
          refine st250 _ ?_
          refine st254.trans ?_
          refine XS.astore X254.here hx rfl (hb hby at_78) rfl rfl (l' := #[.val (.int pp1), .val (.int pp2), .val (.int pp3), .val (.int pp4), .val (.int pp5), .val (.int (1 : Int32)), .val (.int (0 : Int32)), .val (.int (0 : Int32)), .val (.ref b241), .val (.ref b248), .unset, .unset, .unset, .unset, .unset, .unset, .unset]) rfl ?_
          refine st255 _ ?_
          refine XS.dup X255.here hx rfl (hb hby at_83) rfl rfl ?_
          refine XS.iloadN X255.here hx rfl (hb hby at_84) rfl ?_
          refine st257 _ ?_
          refine XS.aconstNull X257.here hx rfl (hb hby at_88) ?_
          refine st258 _ ?_
          refine XS.dup X258.here hx rfl (hb hby at_92) rfl rfl ?_
          refine XS.aconstNull X258.here hx rfl (hb hby at_93) ?_
          refine XS.iloadN X258.here hx rfl (hb hby at_94) rfl ?_
          refine XS.bipush X258.here hx rfl (hb hby at_95) ?_
          refine XS.iushr X258.here hx rfl (hb hby at_97) rfl ?_
          refine st260 _ ?_
          refine st264.trans ?_
          refine st269.trans ?_
          refine XS.astore X269.here hx rfl (hb hby at_107) rfl rfl (l' := #[.val (.int pp1), .val (.int pp2), .val (.int pp3), .val (.int pp4), .val (.int pp5), .val (.int (1 : Int32)), .val (.int (0 : Int32)), .val (.int (0 : Int32)), .val (.ref b241), .val (.ref b248), .val (.ref b255), .unset, .unset, .unset, .unset, .unset, .unset]) rfl ?_
          refine XS.iload X269.here hx rfl (hb hby at_109) rfl ?_
          refine XS.ifNo X269.here hx rfl (hb hby at_111) rfl ((if0 _ _).trans (feq hc111_5).1) ?_
          refine XS.aload X269.here hx rfl (hb hby at_114) rfl rfl ?_
          refine XS.goto X269.here hx rfl (pc0 := 116) (pc' := 146) rfl (hb hby at_116) (by decide) (by decide) ?_
          refine XS.astore X269.here hx rfl (hb hby at_146) rfl rfl (l' := #[.val (.int pp1), .val (.int pp2), .val (.int pp3), .val (.int pp4), .val (.int pp5), .val (.int (1 : Int32)), .val (.int (0 : Int32)), .val (.int (0 : Int32)), .val (.ref b241), .val (.ref b248), .val (.ref b255), .val (.ref b255), .unset, .unset, .unset, .unset, .unset]) rfl ?_
          refine XS.iload X269.here hx rfl (hb hby at_148) rfl ?_
          refine XS.ifYes X269.here hx rfl (pc0 := 150) (pc' := 159) rfl (hb hby at_150) rfl ((if0 _ _).trans (teq hc150_5).1) (by decide) (by decide) ?_
          refine XS.aconstNull X269.here hx rfl (hb hby at_159) ?_
          refine XS.astore X269.here hx rfl (hb hby at_160) rfl rfl (l' := #[.val (.int pp1), .val (.int pp2), .val (.int pp3), .val (.int pp4), .val (.int pp5), .val (.int (1 : Int32)), .val (.int (0 : Int32)), .val (.int (0 : Int32)), .val (.ref b241), .val (.ref b248), .val (.ref b255), .val (.ref b255), .val .null, .unset, .unset, .unset, .unset]) rfl ?_
          refine st270 _ ?_
          refine XS.dup X270.here hx rfl (hb hby at_165) rfl rfl ?_
          refine XS.aload X270.here hx rfl (hb hby at_166) rfl rfl ?_
          refine XS.aload X270.here hx rfl (hb hby at_168) rfl rfl ?_
          refine XS.aload X270.here hx rfl (hb hby at_170) rfl rfl ?_
          refine XS.aload X270.here hx rfl (hb hby at_172) rfl rfl ?_
          refine st271.trans ?_
          refine XS.astore X271.here hx rfl (hb hby at_177) rfl rfl (l' := #[.val (.int pp1), .val (.int pp2), .val (.int pp3), .val (.int pp4), .val (.int pp5), .val (.int (1 : Int32)), .val (.int (0 : Int32)), .val (.int (0 : Int32)), .val (.ref b241), .val (.ref b248), .val (.ref b255), .val (.ref b255), .val .null, .val (.ref b270), .unset, .unset, .unset]) rfl ?_
          refine XS.aload X271.here hx rfl (hb hby at_179) rfl rfl ?_
          refine XS.aload X271.here hx rfl (hb hby at_181) rfl rfl ?_
          refine st272.trans ?_
          refine XS.astore X272.here hx rfl (hb hby at_186) rfl rfl (l' := #[.val (.int pp1), .val (.int pp2), .val (.int pp3), .val (.int pp4), .val (.int pp5), .val (.int (1 : Int32)), .val (.int (0 : Int32)), .val (.int (0 : Int32)), .val (.ref b241), .val (.ref b248), .val (.ref b255), .val (.ref b255), .val .null, .val (.ref b270), .val (.ref bx_272), .unset, .unset]) rfl ?_
          refine XS.aload X272.here hx rfl (hb hby at_188) rfl rfl ?_
          refine XS.ifnonnullYes X272.here hx rfl (pc0 := 190) (pc' := 195) rfl (hb hby at_190) rfl (by decide) (by decide) ?_
          refine XS.aload X272.here hx rfl (hb hby at_195) rfl rfl ?_
          refine st274.trans ?_
          refine XS.aload X274.here hx rfl (hb hby at_200) rfl rfl ?_
          refine Jvm.RoadKit.acmp (g := (mkF m 202 #[.val (.int pp1), .val (.int pp2), .val (.int pp3), .val (.int pp4), .val (.int pp5), .val (.int (1 : Int32)), .val (.int (0 : Int32)), .val (.int (0 : Int32)), .val (.ref b241), .val (.ref b248), .val (.ref b255), .val (.ref b255), .val .null, .val (.ref b270), .val (.ref bx_272), .unset, .unset] [(.ref b255), (.ref b255)])) X274 hx rfl rfl rfl (pc0 := 202) (pc' := 205) (same := true) rfl (hb hby at_202) rfl (decide_eq_true rfl) (by decide) (by decide) ?_
          refine XS.aload X274.here hx rfl (hb hby at_205) rfl rfl ?_
          refine st275.trans ?_
          refine XS.aload X275.here hx rfl (hb hby at_210) rfl rfl ?_
          refine Jvm.RoadKit.acmp (g := (mkF m 212 #[.val (.int pp1), .val (.int pp2), .val (.int pp3), .val (.int pp4), .val (.int pp5), .val (.int (1 : Int32)), .val (.int (0 : Int32)), .val (.int (0 : Int32)), .val (.ref b241), .val (.ref b248), .val (.ref b255), .val (.ref b255), .val .null, .val (.ref b270), .val (.ref bx_272), .unset, .unset] [.null, .null])) X275 hx rfl rfl rfl (pc0 := 212) (pc' := 215) (same := true) rfl (hb hby at_212) rfl (decide_eq_true rfl) (by decide) (by decide) ?_
          refine XS.aload X275.here hx rfl (hb hby at_215) rfl rfl ?_
          refine st276.trans ?_
          refine XS.aload X276.here hx rfl (hb hby at_220) rfl rfl ?_
          refine Jvm.RoadKit.acmp (g := (mkF m 222 #[.val (.int pp1), .val (.int pp2), .val (.int pp3), .val (.int pp4), .val (.int pp5), .val (.int (1 : Int32)), .val (.int (0 : Int32)), .val (.int (0 : Int32)), .val (.ref b241), .val (.ref b248), .val (.ref b255), .val (.ref b255), .val .null, .val (.ref b270), .val (.ref bx_272), .unset, .unset] [(.ref b241), (.ref b241)])) X276 hx rfl rfl rfl (pc0 := 222) (pc' := 225) (same := true) rfl (hb hby at_222) rfl (decide_eq_true rfl) (by decide) (by decide) ?_
          refine XS.aload X276.here hx rfl (hb hby at_225) rfl rfl ?_
          refine st277.trans ?_
          refine XS.aload X277.here hx rfl (hb hby at_230) rfl rfl ?_
          refine Jvm.RoadKit.acmp (g := (mkF m 232 #[.val (.int pp1), .val (.int pp2), .val (.int pp3), .val (.int pp4), .val (.int pp5), .val (.int (1 : Int32)), .val (.int (0 : Int32)), .val (.int (0 : Int32)), .val (.ref b241), .val (.ref b248), .val (.ref b255), .val (.ref b255), .val .null, .val (.ref b270), .val (.ref bx_272), .unset, .unset] [(.ref b248), (.ref b248)])) X277 hx rfl rfl rfl (pc0 := 232) (pc' := 235) (same := true) rfl (hb hby at_232) rfl (decide_eq_true rfl) (by decide) (by decide) ?_
          refine XS.iconst X277.here hx rfl (hb hby at_235) ?_
          refine XS.goto X277.here hx rfl (pc0 := 236) (pc' := 240) rfl (hb hby at_236) (by decide) (by decide) ?_
          refine XS.istore X277.here hx rfl (hb hby at_240) rfl (l' := #[.val (.int pp1), .val (.int pp2), .val (.int pp3), .val (.int pp4), .val (.int pp5), .val (.int (1 : Int32)), .val (.int (0 : Int32)), .val (.int (0 : Int32)), .val (.ref b241), .val (.ref b248), .val (.ref b255), .val (.ref b255), .val .null, .val (.ref b270), .val (.ref bx_272), .val (.int (1 : Int32)), .unset]) rfl ?_
          refine XS.aload X277.here hx rfl (hb hby at_242) rfl rfl ?_
          refine st279.trans ?_
          refine XS.aload X279.here hx rfl (hb hby at_247) rfl rfl ?_
          refine Jvm.RoadKit.acmp (g := (mkF m 249 #[.val (.int pp1), .val (.int pp2), .val (.int pp3), .val (.int pp4), .val (.int pp5), .val (.int (1 : Int32)), .val (.int (0 : Int32)), .val (.int (0 : Int32)), .val (.ref b241), .val (.ref b248), .val (.ref b255), .val (.ref b255), .val .null, .val (.ref b270), .val (.ref bx_272), .val (.int (1 : Int32)), .unset] [(.ref b255), (.ref b255)])) X279 hx rfl rfl rfl (pc0 := 249) (pc' := 252) (same := true) rfl (hb hby at_249) rfl (decide_eq_true rfl) (by decide) (by decide) ?_
          refine XS.aload X279.here hx rfl (hb hby at_252) rfl rfl ?_
          refine st282.trans ?_
          refine XS.aload X282.here hx rfl (hb hby at_257) rfl rfl ?_
          refine Jvm.RoadKit.acmp (g := (mkF m 259 #[.val (.int pp1), .val (.int pp2), .val (.int pp3), .val (.int pp4), .val (.int pp5), .val (.int (1 : Int32)), .val (.int (0 : Int32)), .val (.int (0 : Int32)), .val (.ref b241), .val (.ref b248), .val (.ref b255), .val (.ref b255), .val .null, .val (.ref b270), .val (.ref bx_272), .val (.int (1 : Int32)), .unset] [.null, .null])) X282 hx rfl rfl rfl (pc0 := 259) (pc' := 262) (same := true) rfl (hb hby at_259) rfl (decide_eq_true rfl) (by decide) (by decide) ?_
          refine XS.aload X282.here hx rfl (hb hby at_262) rfl rfl ?_
          refine st284.trans ?_
          refine XS.aload X284.here hx rfl (hb hby at_267) rfl rfl ?_
          refine Jvm.RoadKit.acmp (g := (mkF m 269 #[.val (.int pp1), .val (.int pp2), .val (.int pp3), .val (.int pp4), .val (.int pp5), .val (.int (1 : Int32)), .val (.int (0 : Int32)), .val (.int (0 : Int32)), .val (.ref b241), .val (.ref b248), .val (.ref b255), .val (.ref b255), .val .null, .val (.ref b270), .val (.ref bx_272), .val (.int (1 : Int32)), .unset] [(.ref b241), (.ref b241)])) X284 hx rfl rfl rfl (pc0 := 269) (pc' := 272) (same := true) rfl (hb hby at_269) rfl (decide_eq_true rfl) (by decide) (by decide) ?_
          refine XS.aload X284.here hx rfl (hb hby at_272) rfl rfl ?_
          refine st286.trans ?_
          refine XS.aload X286.here hx rfl (hb hby at_277) rfl rfl ?_
          refine Jvm.RoadKit.acmp (g := (mkF m 279 #[.val (.int pp1), .val (.int pp2), .val (.int pp3), .val (.int pp4), .val (.int pp5), .val (.int (1 : Int32)), .val (.int (0 : Int32)), .val (.int (0 : Int32)), .val (.ref b241), .val (.ref b248), .val (.ref b255), .val (.ref b255), .val .null, .val (.ref b270), .val (.ref bx_272), .val (.int (1 : Int32)), .unset] [(.ref b248), (.ref b248)])) X286 hx rfl rfl rfl (pc0 := 279) (pc' := 282) (same := true) rfl (hb hby at_279) rfl (decide_eq_true rfl) (by decide) (by decide) ?_
          refine XS.iconst X286.here hx rfl (hb hby at_282) ?_
          refine XS.goto X286.here hx rfl (pc0 := 283) (pc' := 287) rfl (hb hby at_283) (by decide) (by decide) ?_
          refine XS.istore X286.here hx rfl (hb hby at_287) rfl (l' := #[.val (.int pp1), .val (.int pp2), .val (.int pp3), .val (.int pp4), .val (.int pp5), .val (.int (1 : Int32)), .val (.int (0 : Int32)), .val (.int (0 : Int32)), .val (.ref b241), .val (.ref b248), .val (.ref b255), .val (.ref b255), .val .null, .val (.ref b270), .val (.ref bx_272), .val (.int (1 : Int32)), .val (.int (1 : Int32))]) rfl ?_
          refine XS.iload X286.here hx rfl (hb hby at_289) rfl ?_
          refine XS.ifNo X286.here hx rfl (hb hby at_291) rfl ((if0 _ _).trans (feq hc291_5).1) ?_
          refine XS.iload X286.here hx rfl (hb hby at_294) rfl ?_
          refine XS.ifNo X286.here hx rfl (hb hby at_296) rfl ((if0 _ _).trans (feq hc296_5).1) ?_
          refine XS.iconst X286.here hx rfl (hb hby at_299) ?_
          refine XS.goto X286.here hx rfl (pc0 := 300) (pc' := 304) rfl (hb hby at_300) (by decide) (by decide) ?_
          exact retN X286 hx (t := .boolean) Bd.returns (by simp) (hb hby at_304) hr
        · show Q0 Z pp1 pp2 pp3 pp4 pp5 cs op h0 n0 _ T286.heap _
          rw [e286]
          exact ⟨rfl, N286⟩
      · skip
        obtain ⟨T287, h287, X287, e287, E287, A287, D287, -, st287⟩ := newO X0 hx hZ hown (hw _ (List.mem_of_getElem? (i := 0) rfl)) (hw _ (List.mem_of_getElem? (i := 1) rfl)) (hw _ (List.mem_of_getElem? (i := 2) rfl)) e0 (g := (mkF m 42 #[.val (.int pp1), .val (.int pp2), .val (.int pp3), .val (.int pp4), .val (.int pp5), .val (.int (1 : Int32)), .val (.int (0 : Int32)), .val (.int (1 : Int32)), .unset, .unset, .unset, .unset, .unset, .unset, .unset, .unset, .unset] [])) rfl (hb hby at_42) (by decide) (by decide)
        obtain ⟨b287, g287⟩ : ∃ z, z = h0.size := ⟨_, rfl⟩
        rw [← g287] at A287 D287 st287
        have g_b287 : n0 ≤ b287 := Nat.le_trans Z0 (Nat.le_of_eq g287.symm)
        have Z287 : n0 ≤ h287.size := Nat.le_trans Z0 E287.1
        have F287_province : Fld Z h287 b287 "com/example/outremer_engine/outremerengine/board/Place" "province" "Lcom/example/outremer_engine/outremerengine/board/Province;" .null := D287 (Or.inr (hw _ (List.mem_of_getElem? (i := 47) rfl))) (ty := (.object "com/example/outremer_engine/outremerengine/board/Province")) (by decide)
        have F287_coast : Fld Z h287 b287 "com/example/outremer_engine/outremerengine/board/Place" "coast" "Ljava/lang/String;" .null := D287 (Or.inr (hw _ (List.mem_of_getElem? (i := 49) rfl))) (ty := (.object "java/lang/String")) (by decide)
        have O_288 : Old Z n0 h287 := (O0.ext E287)
        obtain ⟨_, _, ⟨T289, L289, k289, n289⟩, -, X289, ⟨Lc289, hQ289, l289, y289, z289⟩, st289⟩ := Jvm.LawKit.callS X287 hx (y := (⟨"com/example/outremer_engine/outremerengine/diplomacy/SupportMoveGivenToPinLaw", "drawn", "(I)Ljava/lang/String;"⟩ : MethodName)) hown (mvT hZ (hw _ (List.mem_of_getElem? (i := 3) rfl))) (mvT hZ (hw _ (List.mem_of_getElem? (i := 4) rfl))) (mvT hZ (hw _ (List.mem_of_getElem? (i := 5) rfl))) (mvT hZ (hw _ (List.mem_of_getElem? (i := 6) rfl))) (by decide) (backOf (W := 3) (rm1 l Z a0 hw [] pp3 cs h287 n0 Z287 O_288 S_COMPACT_STRINGS (show ¬ cs = (0 : Int32) from hcs)) hZ (hw _ (List.mem_of_getElem? (i := 6) rfl)) (hw _ (List.mem_of_getElem? (i := 5) rfl)) (by decide) (by decide)) (g := (mkF m 48 #[.val (.int pp1), .val (.int pp2), .val (.int pp3), .val (.int pp4), .val (.int pp5), .val (.int (1 : Int32)), .val (.int (0 : Int32)), .val (.int (1 : Int32)), .unset, .unset, .unset, .unset, .unset, .unset, .unset, .unset, .unset] [(.int pp3), .null, (.ref b287), (.ref b287)])) rfl (by rw [hml]; rfl) (argsL := [(.int pp3)]) (rest := [.null, (.ref b287), (.ref b287)]) (lenOf pd__28_I_29_Ljava_2f_lang_2f_String_3b_ rfl) rfl (by show 2 * 0 + _ ≤ _; exact Nat.le_of_eq rfl) (hb hby at_48) (fun _ _ => ⟨rfl, e287, (by decide : 1 + 3 ≤ _), (by decide : 2 + 8 ≤ _)⟩)
        dsimp only [Pt.U, Pt.locs, Pt.cells, Pt.slots] at X289 l289 y289 z289 st289 hQ289
        subst y289 z289
        obtain ⟨bx_289, rfl, N289q, K289c, g_bx_289, sb_bx_289⟩ := hQ289
        have N289 : Fr n0 L289 := by rw [l289]; exact Fr.app N0 N289q
        have Z289 : n0 ≤ T289.heap.size := Nat.le_trans Z287 K289c.1
        change Stand _ _ _ _ _ _ _ _ _ _ _ _ 4 10 at X289
        have E_290 : Exa Z T289.heap b287 "com/example/outremer_engine/outremerengine/board/Place" := (A287.keep K289c)
        have F_291 : Fld Z T289.heap b287 "com/example/outremer_engine/outremerengine/board/Place" "province" "Lcom/example/outremer_engine/outremerengine/board/Province;" .null := (F287_province.keep K289c nin0)
        have F_292 : Fld Z T289.heap b287 "com/example/outremer_engine/outremerengine/board/Place" "coast" "Ljava/lang/String;" .null := (F287_coast.keep K289c nin0)
        obtain ⟨_, _, ⟨T293, L293, k293, n293⟩, -, X293, ⟨Lc293, hQ293, l293, y293, z293⟩, st293⟩ := X289.specialBack hx (y := (⟨"com/example/outremer_engine/outremerengine/board/Place", "<init>", "(Lcom/example/outremer_engine/outremerengine/board/Province;Ljava/lang/String;)V"⟩ : MethodName)) rfl hown (mvT hZ (hw _ (List.mem_of_getElem? (i := 37) rfl))) (mvT hZ (hw _ (List.mem_of_getElem? (i := 38) rfl))) (mvT hZ (hw _ (List.mem_of_getElem? (i := 39) rfl))) (by decide) (backOf (W := 1) (rm8 l Z a0 hw [] b287 bx_289 .null .null T289.heap n0 Z289 E_290 g_b287 F_291 F_292) hZ (hw _ (List.mem_of_getElem? (i := 39) rfl)) (hw _ (List.mem_of_getElem? (i := 2) rfl)) (by decide) (by decide)) (g := (mkF m 51 #[.val (.int pp1), .val (.int pp2), .val (.int pp3), .val (.int pp4), .val (.int pp5), .val (.int (1 : Int32)), .val (.int (0 : Int32)), .val (.int (1 : Int32)), .unset, .unset, .unset, .unset, .unset, .unset, .unset, .unset, .unset] [(.ref bx_289), .null, (.ref b287), (.ref b287)])) rfl (by rw [hml]; rfl) (Steps.refl _) (a := b287) (argsL := [.null, (.ref bx_289)]) (rest := [(.ref b287)]) (lenOf pd__28_Lcom_2f_example_2f_outremer_engine_2f_outremerengine_2f_board_2f_Province_3b_Ljava_2f_lang_2f_String_3b__29_V rfl) rfl (by show 2 * 0 + _ ≤ _; exact Nat.le_of_eq rfl) (hb hby at_51) (fun _ _ => ⟨rfl, rfl, (by decide : 4 + 0 ≤ _), (by decide : 10 + 0 ≤ _)⟩)
        dsimp only [Pt.U, Pt.locs, Pt.cells, Pt.slots] at X293 l293 y293 z293 st293 hQ293
        subst y293 z293
        obtain ⟨rfl, N293q, K293c, R293_0, R293_1⟩ := hQ293
        have N293 : Fr n0 L293 := by rw [l293]; exact Fr.app N289 N293q
        have Z293 : n0 ≤ T293.heap.size := Nat.le_trans Z289 K293c.1
        change Stand _ _ _ _ _ _ _ _ _ _ _ _ 4 10 at X293
        have hc58_6 : (0 : Int32) = (0 : Int32) := by decide
        obtain ⟨T294, h294, X294, e294, E294, A294, D294, -, st294⟩ := newO X293 hx hZ hown (hw _ (List.mem_of_getElem? (i := 0) rfl)) (hw _ (List.mem_of_getElem? (i := 1) rfl)) (hw _ (List.mem_of_getElem? (i := 2) rfl)) rfl (g := (mkF m 66 #[.val (.int pp1), .val (.int pp2), .val (.int pp3), .val (.int pp4), .val (.int pp5), .val (.int (1 : Int32)), .val (.int (0 : Int32)), .val (.int (1 : Int32)), .val (.ref b287), .unset, .unset, .unset, .unset, .unset, .unset, .unset, .unset] [])) rfl (hb hby at_66) (by decide) (by decide)
        obtain ⟨b294, g294⟩ : ∃ z, z = T293.heap.size := ⟨_, rfl⟩
        rw [← g294] at A294 D294 st294
        have g_b294 : n0 ≤ b294 := Nat.le_trans Z293 (Nat.le_of_eq g294.symm)
        have Z294 : n0 ≤ h294.size := Nat.le_trans Z293 E294.1
        have F294_province : Fld Z h294 b294 "com/example/outremer_engine/outremerengine/board/Place" "province" "Lcom/example/outremer_engine/outremerengine/board/Province;" .null := D294 (Or.inr (hw _ (List.mem_of_getElem? (i := 47) rfl))) (ty := (.object "com/example/outremer_engine/outremerengine/board/Province")) (by decide)
        have F294_coast : Fld Z h294 b294 "com/example/outremer_engine/outremerengine/board/Place" "coast" "Ljava/lang/String;" .null := D294 (Or.inr (hw _ (List.mem_of_getElem? (i := 49) rfl))) (ty := (.object "java/lang/String")) (by decide)
        have O_295 : Old Z n0 h294 := (((O_288.keep K289c all0).keep K293c (allS g_b287 all0)).ext E294)
        obtain ⟨_, _, ⟨T296, L296, k296, n296⟩, -, X296, ⟨Lc296, hQ296, l296, y296, z296⟩, st296⟩ := Jvm.LawKit.callS X294 hx (y := (⟨"com/example/outremer_engine/outremerengine/diplomacy/SupportMoveGivenToPinLaw", "drawn", "(I)Ljava/lang/String;"⟩ : MethodName)) hown (mvT hZ (hw _ (List.mem_of_getElem? (i := 3) rfl))) (mvT hZ (hw _ (List.mem_of_getElem? (i := 4) rfl))) (mvT hZ (hw _ (List.mem_of_getElem? (i := 5) rfl))) (mvT hZ (hw _ (List.mem_of_getElem? (i := 6) rfl))) (by decide) (backOf (W := 3) (rm1 l Z a0 hw [] pp4 cs h294 n0 Z294 O_295 S_COMPACT_STRINGS (show ¬ cs = (0 : Int32) from hcs)) hZ (hw _ (List.mem_of_getElem? (i := 6) rfl)) (hw _ (List.mem_of_getElem? (i := 5) rfl)) (by decide) (by decide)) (g := (mkF m 72 #[.val (.int pp1), .val (.int pp2), .val (.int pp3), .val (.int pp4), .val (.int pp5), .val (.int (1 : Int32)), .val (.int (0 : Int32)), .val (.int (1 : Int32)), .val (.ref b287), .unset, .unset, .unset, .unset, .unset, .unset, .unset, .unset] [(.int pp4), .null, (.ref b294), (.ref b294)])) rfl (by rw [hml]; rfl) (argsL := [(.int pp4)]) (rest := [.null, (.ref b294), (.ref b294)]) (lenOf pd__28_I_29_Ljava_2f_lang_2f_String_3b_ rfl) rfl (by show 2 * 0 + _ ≤ _; exact Nat.le_of_eq rfl) (hb hby at_72) (fun _ _ => ⟨rfl, e294, (by decide : 5 + 3 ≤ _), (by decide : 12 + 8 ≤ _)⟩)
        dsimp only [Pt.U, Pt.locs, Pt.cells, Pt.slots] at X296 l296 y296 z296 st296 hQ296
        subst y296 z296
        obtain ⟨bx_296, rfl, N296q, K296c, g_bx_296, sb_bx_296⟩ := hQ296
        have N296 : Fr n0 L296 := by rw [l296]; exact Fr.app N293 N296q
        have Z296 : n0 ≤ T296.heap.size := Nat.le_trans Z294 K296c.1
        change Stand _ _ _ _ _ _ _ _ _ _ _ _ 8 20 at X296
        have E_297 : Exa Z T296.heap b294 "com/example/outremer_engine/outremerengine/board/Place" := (A294.keep K296c)
        have F_298 : Fld Z T296.heap b294 "com/example/outremer_engine/outremerengine/board/Place" "province" "Lcom/example/outremer_engine/outremerengine/board/Province;" .null := (F294_province.keep K296c nin0)
        have F_299 : Fld Z T296.heap b294 "com/example/outremer_engine/outremerengine/board/Place" "coast" "Ljava/lang/String;" .null := (F294_coast.keep K296c nin0)
        obtain ⟨_, _, ⟨T300, L300, k300, n300⟩, -, X300, ⟨Lc300, hQ300, l300, y300, z300⟩, st300⟩ := X296.specialBack hx (y := (⟨"com/example/outremer_engine/outremerengine/board/Place", "<init>", "(Lcom/example/outremer_engine/outremerengine/board/Province;Ljava/lang/String;)V"⟩ : MethodName)) rfl hown (mvT hZ (hw _ (List.mem_of_getElem? (i := 37) rfl))) (mvT hZ (hw _ (List.mem_of_getElem? (i := 38) rfl))) (mvT hZ (hw _ (List.mem_of_getElem? (i := 39) rfl))) (by decide) (backOf (W := 1) (rm8 l Z a0 hw [] b294 bx_296 .null .null T296.heap n0 Z296 E_297 g_b294 F_298 F_299) hZ (hw _ (List.mem_of_getElem? (i := 39) rfl)) (hw _ (List.mem_of_getElem? (i := 2) rfl)) (by decide) (by decide)) (g := (mkF m 75 #[.val (.int pp1), .val (.int pp2), .val (.int pp3), .val (.int pp4), .val (.int pp5), .val (.int (1 : Int32)), .val (.int (0 : Int32)), .val (.int (1 : Int32)), .val (.ref b287), .unset, .unset, .unset, .unset, .unset, .unset, .unset, .unset] [(.ref bx_296), .null, (.ref b294), (.ref b294)])) rfl (by rw [hml]; rfl) (Steps.refl _) (a := b294) (argsL := [.null, (.ref bx_296)]) (rest := [(.ref b294)]) (lenOf pd__28_Lcom_2f_example_2f_outremer_engine_2f_outremerengine_2f_board_2f_Province_3b_Ljava_2f_lang_2f_String_3b__29_V rfl) rfl (by show 2 * 0 + _ ≤ _; exact Nat.le_of_eq rfl) (hb hby at_75) (fun _ _ => ⟨rfl, rfl, (by decide : 8 + 0 ≤ _), (by decide : 20 + 0 ≤ _)⟩)
        dsimp only [Pt.U, Pt.locs, Pt.cells, Pt.slots] at X300 l300 y300 z300 st300 hQ300
        subst y300 z300
        obtain ⟨rfl, N300q, K300c, R300_0, R300_1⟩ := hQ300
        have N300 : Fr n0 L300 := by rw [l300]; exact Fr.app N296 N300q
        have Z300 : n0 ≤ T300.heap.size := Nat.le_trans Z296 K300c.1
        change Stand _ _ _ _ _ _ _ _ _ _ _ _ 8 20 at X300
        obtain ⟨T301, h301, X301, e301, E301, A301, D301, -, st301⟩ := newO X300 hx hZ hown (hw _ (List.mem_of_getElem? (i := 50) rfl)) (hw _ (List.mem_of_getElem? (i := 51) rfl)) (hw _ (List.mem_of_getElem? (i := 52) rfl)) rfl (g := (mkF m 80 #[.val (.int pp1), .val (.int pp2), .val (.int pp3), .val (.int pp4), .val (.int pp5), .val (.int (1 : Int32)), .val (.int (0 : Int32)), .val (.int (1 : Int32)), .val (.ref b287), .val (.ref b294), .unset, .unset, .unset, .unset, .unset, .unset, .unset] [])) rfl (hb hby at_80) (by decide) (by decide)
        obtain ⟨b301, g301⟩ : ∃ z, z = T300.heap.size := ⟨_, rfl⟩
        rw [← g301] at A301 D301 st301
        have g_b301 : n0 ≤ b301 := Nat.le_trans Z300 (Nat.le_of_eq g301.symm)
        have Z301 : n0 ≤ h301.size := Nat.le_trans Z300 E301.1
        have F301_nation : Fld Z h301 b301 "com/example/outremer_engine/outremerengine/board/Unit" "nation" "Ljava/lang/String;" .null := D301 (Or.inr (hw _ (List.mem_of_getElem? (i := 58) rfl))) (ty := (.object "java/lang/String")) (by decide)
        have F301_type : Fld Z h301 b301 "com/example/outremer_engine/outremerengine/board/Unit" "type" "Lcom/example/outremer_engine/outremerengine/board/UnitType;" .null := D301 (Or.inr (hw _ (List.mem_of_getElem? (i := 60) rfl))) (ty := (.object "com/example/outremer_engine/outremerengine/board/UnitType")) (by decide)
        have F301_place : Fld Z h301 b301 "com/example/outremer_engine/outremerengine/board/Unit" "place" "Lcom/example/outremer_engine/outremerengine/board/Place;" .null := D301 (Or.inr (hw _ (List.mem_of_getElem? (i := 62) rfl))) (ty := (.object "com/example/outremer_engine/outremerengine/board/Place")) (by decide)
        have O_302 : Old Z n0 h301 := (((O_295.keep K296c all0).keep K300c (allS g_b294 all0)).ext E301)
        obtain ⟨_, _, ⟨T303, L303, k303, n303⟩, -, X303, ⟨Lc303, hQ303, l303, y303, z303⟩, st303⟩ := Jvm.LawKit.callS X301 hx (y := (⟨"com/example/outremer_engine/outremerengine/diplomacy/SupportMoveGivenToPinLaw", "drawn", "(I)Ljava/lang/String;"⟩ : MethodName)) hown (mvT hZ (hw _ (List.mem_of_getElem? (i := 3) rfl))) (mvT hZ (hw _ (List.mem_of_getElem? (i := 4) rfl))) (mvT hZ (hw _ (List.mem_of_getElem? (i := 5) rfl))) (mvT hZ (hw _ (List.mem_of_getElem? (i := 6) rfl))) (by decide) (backOf (W := 2) (rm1 l Z a0 hw [] pp1 cs h301 n0 Z301 O_302 S_COMPACT_STRINGS (show ¬ cs = (0 : Int32) from hcs)) hZ (hw _ (List.mem_of_getElem? (i := 6) rfl)) (hw _ (List.mem_of_getElem? (i := 5) rfl)) (by decide) (by decide)) (g := (mkF m 85 #[.val (.int pp1), .val (.int pp2), .val (.int pp3), .val (.int pp4), .val (.int pp5), .val (.int (1 : Int32)), .val (.int (0 : Int32)), .val (.int (1 : Int32)), .val (.ref b287), .val (.ref b294), .unset, .unset, .unset, .unset, .unset, .unset, .unset] [(.int pp1), (.ref b301), (.ref b301)])) rfl (by rw [hml]; rfl) (argsL := [(.int pp1)]) (rest := [(.ref b301), (.ref b301)]) (lenOf pd__28_I_29_Ljava_2f_lang_2f_String_3b_ rfl) rfl (by show 2 * 0 + _ ≤ _; exact Nat.le_of_eq rfl) (hb hby at_85) (fun _ _ => ⟨rfl, e301, (by decide : 9 + 3 ≤ _), (by decide : 23 + 8 ≤ _)⟩)
        dsimp only [Pt.U, Pt.locs, Pt.cells, Pt.slots] at X303 l303 y303 z303 st303 hQ303
        subst y303 z303
        obtain ⟨bx_303, rfl, N303q, K303c, g_bx_303, sb_bx_303⟩ := hQ303
        have N303 : Fr n0 L303 := by rw [l303]; exact Fr.app N300 N303q
        have Z303 : n0 ≤ T303.heap.size := Nat.le_trans Z301 K303c.1
        change Stand _ _ _ _ _ _ _ _ _ _ _ _ 12 31 at X303
        obtain ⟨T304, h304, X304, e304, E304, A304, D304, -, st304⟩ := newO X303 hx hZ hown (hw _ (List.mem_of_getElem? (i := 0) rfl)) (hw _ (List.mem_of_getElem? (i := 1) rfl)) (hw _ (List.mem_of_getElem? (i := 2) rfl)) rfl (g := (mkF m 89 #[.val (.int pp1), .val (.int pp2), .val (.int pp3), .val (.int pp4), .val (.int pp5), .val (.int (1 : Int32)), .val (.int (0 : Int32)), .val (.int (1 : Int32)), .val (.ref b287), .val (.ref b294), .unset, .unset, .unset, .unset, .unset, .unset, .unset] [.null, (.ref bx_303), (.ref b301), (.ref b301)])) rfl (hb hby at_89) (by decide) (by decide)
        obtain ⟨b304, g304⟩ : ∃ z, z = T303.heap.size := ⟨_, rfl⟩
        rw [← g304] at A304 D304 st304
        have g_b304 : n0 ≤ b304 := Nat.le_trans Z303 (Nat.le_of_eq g304.symm)
        have Z304 : n0 ≤ h304.size := Nat.le_trans Z303 E304.1
        have F304_province : Fld Z h304 b304 "com/example/outremer_engine/outremerengine/board/Place" "province" "Lcom/example/outremer_engine/outremerengine/board/Province;" .null := D304 (Or.inr (hw _ (List.mem_of_getElem? (i := 47) rfl))) (ty := (.object "com/example/outremer_engine/outremerengine/board/Province")) (by decide)
        have F304_coast : Fld Z h304 b304 "com/example/outremer_engine/outremerengine/board/Place" "coast" "Ljava/lang/String;" .null := D304 (Or.inr (hw _ (List.mem_of_getElem? (i := 49) rfl))) (ty := (.object "java/lang/String")) (by decide)
        have O_305 : Old Z n0 h304 := ((O_302.keep K303c all0).ext E304)
        obtain ⟨_, _, ⟨T306, L306, k306, n306⟩, -, X306, ⟨Lc306, hQ306, l306, y306, z306⟩, st306⟩ := Jvm.LawKit.callS X304 hx (y := (⟨"com/example/outremer_engine/outremerengine/diplomacy/SupportMoveGivenToPinLaw", "drawn", "(I)Ljava/lang/String;"⟩ : MethodName)) hown (mvT hZ (hw _ (List.mem_of_getElem? (i := 3) rfl))) (mvT hZ (hw _ (List.mem_of_getElem? (i := 4) rfl))) (mvT hZ (hw _ (List.mem_of_getElem? (i := 5) rfl))) (mvT hZ (hw _ (List.mem_of_getElem? (i := 6) rfl))) (by decide) (backOf (W := 7) (rm1 l Z a0 hw [] ((pp4.toUInt32 >>> ((16 : Int32) &&& 31).toUInt32).toInt32) cs h304 n0 Z304 O_305 S_COMPACT_STRINGS (show ¬ cs = (0 : Int32) from hcs)) hZ (hw _ (List.mem_of_getElem? (i := 6) rfl)) (hw _ (List.mem_of_getElem? (i := 5) rfl)) (by decide) (by decide)) (g := (mkF m 98 #[.val (.int pp1), .val (.int pp2), .val (.int pp3), .val (.int pp4), .val (.int pp5), .val (.int (1 : Int32)), .val (.int (0 : Int32)), .val (.int (1 : Int32)), .val (.ref b287), .val (.ref b294), .unset, .unset, .unset, .unset, .unset, .unset, .unset] [(.int ((pp4.toUInt32 >>> ((16 : Int32) &&& 31).toUInt32).toInt32)), .null, (.ref b304), (.ref b304), .null, (.ref bx_303), (.ref b301), (.ref b301)])) rfl (by rw [hml]; rfl) (argsL := [(.int ((pp4.toUInt32 >>> ((16 : Int32) &&& 31).toUInt32).toInt32))]) (rest := [.null, (.ref b304), (.ref b304), .null, (.ref bx_303), (.ref b301), (.ref b301)]) (lenOf pd__28_I_29_Ljava_2f_lang_2f_String_3b_ rfl) rfl (by show 2 * 0 + _ ≤ _; exact Nat.le_of_eq rfl) (hb hby at_98) (fun _ _ => ⟨rfl, e304, (by decide : 13 + 3 ≤ _), (by decide : 33 + 8 ≤ _)⟩)
        dsimp only [Pt.U, Pt.locs, Pt.cells, Pt.slots] at X306 l306 y306 z306 st306 hQ306
        subst y306 z306
        obtain ⟨bx_306, rfl, N306q, K306c, g_bx_306, sb_bx_306⟩ := hQ306
        have N306 : Fr n0 L306 := by rw [l306]; exact Fr.app N303 N306q
        have Z306 : n0 ≤ T306.heap.size := Nat.le_trans Z304 K306c.1
        change Stand _ _ _ _ _ _ _ _ _ _ _ _ 16 41 at X306
        have E_307 : Exa Z T306.heap b304 "com/example/outremer_engine/outremerengine/board/Place" := (A304.keep K306c)
        have F_308 : Fld Z T306.heap b304 "com/example/outremer_engine/outremerengine/board/Place" "province" "Lcom/example/outremer_engine/outremerengine/board/Province;" .null := (F304_province.keep K306c nin0)
        have F_309 : Fld Z T306.heap b304 "com/example/outremer_engine/outremerengine/board/Place" "coast" "Ljava/lang/String;" .null := (F304_coast.keep K306c nin0)
        obtain ⟨_, _, ⟨T310, L310, k310, n310⟩, -, X310, ⟨Lc310, hQ310, l310, y310, z310⟩, st310⟩ := X306.specialBack hx (y := (⟨"com/example/outremer_engine/outremerengine/board/Place", "<init>", "(Lcom/example/outremer_engine/outremerengine/board/Province;Ljava/lang/String;)V"⟩ : MethodName)) rfl hown (mvT hZ (hw _ (List.mem_of_getElem? (i := 37) rfl))) (mvT hZ (hw _ (List.mem_of_getElem? (i := 38) rfl))) (mvT hZ (hw _ (List.mem_of_getElem? (i := 39) rfl))) (by decide) (backOf (W := 5) (rm8 l Z a0 hw [] b304 bx_306 .null .null T306.heap n0 Z306 E_307 g_b304 F_308 F_309) hZ (hw _ (List.mem_of_getElem? (i := 39) rfl)) (hw _ (List.mem_of_getElem? (i := 2) rfl)) (by decide) (by decide)) (g := (mkF m 101 #[.val (.int pp1), .val (.int pp2), .val (.int pp3), .val (.int pp4), .val (.int pp5), .val (.int (1 : Int32)), .val (.int (0 : Int32)), .val (.int (1 : Int32)), .val (.ref b287), .val (.ref b294), .unset, .unset, .unset, .unset, .unset, .unset, .unset] [(.ref bx_306), .null, (.ref b304), (.ref b304), .null, (.ref bx_303), (.ref b301), (.ref b301)])) rfl (by rw [hml]; rfl) (Steps.refl _) (a := b304) (argsL := [.null, (.ref bx_306)]) (rest := [(.ref b304), .null, (.ref bx_303), (.ref b301), (.ref b301)]) (lenOf pd__28_Lcom_2f_example_2f_outremer_engine_2f_outremerengine_2f_board_2f_Province_3b_Ljava_2f_lang_2f_String_3b__29_V rfl) rfl (by show 2 * 0 + _ ≤ _; exact Nat.le_of_eq rfl) (hb hby at_101) (fun _ _ => ⟨rfl, rfl, (by decide : 16 + 0 ≤ _), (by decide : 41 + 0 ≤ _)⟩)
        dsimp only [Pt.U, Pt.locs, Pt.cells, Pt.slots] at X310 l310 y310 z310 st310 hQ310
        subst y310 z310
        obtain ⟨rfl, N310q, K310c, R310_0, R310_1⟩ := hQ310
        have N310 : Fr n0 L310 := by rw [l310]; exact Fr.app N306 N310q
        have Z310 : n0 ≤ T310.heap.size := Nat.le_trans Z306 K310c.1
        change Stand _ _ _ _ _ _ _ _ _ _ _ _ 16 41 at X310
        have E_311 : Exa Z T310.heap b301 "com/example/outremer_engine/outremerengine/board/Unit" := ((((A301.keep K303c).ext E304).keep K306c).keep K310c)
        have F_312 : Fld Z T310.heap b301 "com/example/outremer_engine/outremerengine/board/Unit" "nation" "Ljava/lang/String;" .null := ((((F301_nation.keep K303c nin0).ext E304).keep K306c nin0).keep K310c (ninS (Nat.ne_of_lt (Nat.lt_of_lt_of_le (A301.keep K303c).lt (Nat.le_of_eq g304.symm))) nin0))
        have F_313 : Fld Z T310.heap b301 "com/example/outremer_engine/outremerengine/board/Unit" "type" "Lcom/example/outremer_engine/outremerengine/board/UnitType;" .null := ((((F301_type.keep K303c nin0).ext E304).keep K306c nin0).keep K310c (ninS (Nat.ne_of_lt (Nat.lt_of_lt_of_le (A301.keep K303c).lt (Nat.le_of_eq g304.symm))) nin0))
        have F_314 : Fld Z T310.heap b301 "com/example/outremer_engine/outremerengine/board/Unit" "place" "Lcom/example/outremer_engine/outremerengine/board/Place;" .null := ((((F301_place.keep K303c nin0).ext E304).keep K306c nin0).keep K310c (ninS (Nat.ne_of_lt (Nat.lt_of_lt_of_le (A301.keep K303c).lt (Nat.le_of_eq g304.symm))) nin0))
        obtain ⟨_, _, ⟨T315, L315, k315, n315⟩, -, X315, ⟨Lc315, hQ315, l315, y315, z315⟩, st315⟩ := X310.specialBack hx (y := (⟨"com/example/outremer_engine/outremerengine/board/Unit", "<init>", "(Ljava/lang/String;Lcom/example/outremer_engine/outremerengine/board/UnitType;Lcom/example/outremer_engine/outremerengine/board/Place;)V"⟩ : MethodName)) rfl hown (mvT hZ (hw _ (List.mem_of_getElem? (i := 53) rfl))) (mvT hZ (hw _ (List.mem_of_getElem? (i := 54) rfl))) (mvT hZ (hw _ (List.mem_of_getElem? (i := 55) rfl))) (by decide) (backOf (W := 1) (rm10 l Z a0 hw [] b301 bx_303 b304 .null .null .null T310.heap n0 Z310 E_311 g_b301 F_312 F_313 F_314) hZ (hw _ (List.mem_of_getElem? (i := 55) rfl)) (hw _ (List.mem_of_getElem? (i := 52) rfl)) (by decide) (by decide)) (g := (mkF m 104 #[.val (.int pp1), .val (.int pp2), .val (.int pp3), .val (.int pp4), .val (.int pp5), .val (.int (1 : Int32)), .val (.int (0 : Int32)), .val (.int (1 : Int32)), .val (.ref b287), .val (.ref b294), .unset, .unset, .unset, .unset, .unset, .unset, .unset] [(.ref b304), .null, (.ref bx_303), (.ref b301), (.ref b301)])) rfl (by rw [hml]; rfl) (Steps.refl _) (a := b301) (argsL := [(.ref bx_303), .null, (.ref b304)]) (rest := [(.ref b301)]) (lenOf pd__28_Ljava_2f_lang_2f_String_3b_Lcom_2f_example_2f_outremer_engine_2f_outremerengine_2f_board_2f_UnitType_3b_Lcom_2f_example_2f_outremer_engine_2f_outremerengine_2f_board_2f_Place_3b__29_V rfl) rfl (by show 2 * 0 + _ ≤ _; exact Nat.le_of_eq rfl) (hb hby at_104) (fun _ _ => ⟨rfl, rfl, (by decide : 16 + 0 ≤ _), (by decide : 41 + 0 ≤ _)⟩)
        dsimp only [Pt.U, Pt.locs, Pt.cells, Pt.slots] at X315 l315 y315 z315 st315 hQ315
        subst y315 z315
        obtain ⟨rfl, N315q, K315c, R315_0, R315_1, R315_2⟩ := hQ315
        have N315 : Fr n0 L315 := by rw [l315]; exact Fr.app N310 N315q
        have Z315 : n0 ≤ T315.heap.size := Nat.le_trans Z310 K315c.1
        change Stand _ _ _ _ _ _ _ _ _ _ _ _ 16 41 at X315
        have hc111_6 : ¬ ((1 : Int32) = (0 : Int32)) := by decide
        have hc150_6 : ¬ ((1 : Int32) = (0 : Int32)) := by decide
        have O_316 : Old Z n0 T315.heap := (((O_305.keep K306c all0).keep K310c (allS g_b304 all0)).keep K315c (allS g_b301 all0))
        obtain ⟨_, _, ⟨T317, L317, k317, n317⟩, -, X317, ⟨Lc317, hQ317, l317, y317, z317⟩, st317⟩ := Jvm.LawKit.callS X315 hx (y := (⟨"java/util/Optional", "empty", "()Ljava/util/Optional;"⟩ : MethodName)) hown (mvT hZ (hw _ (List.mem_of_getElem? (i := 105) rfl))) (mvT hZ (hw _ (List.mem_of_getElem? (i := 106) rfl))) (mvT hZ (hw _ (List.mem_of_getElem? (i := 107) rfl))) (mvT hZ (hw _ (List.mem_of_getElem? (i := 108) rfl))) (by decide) (backOf (W := 0) (rm17 l Z a0 hw [] op T315.heap n0 Z315 O_316 S_EMPTY) hZ (hw _ (List.mem_of_getElem? (i := 108) rfl)) (hw _ (List.mem_of_getElem? (i := 107) rfl)) (by decide) (by decide)) (g := (mkF m 153 #[.val (.int pp1), .val (.int pp2), .val (.int pp3), .val (.int pp4), .val (.int pp5), .val (.int (1 : Int32)), .val (.int (0 : Int32)), .val (.int (1 : Int32)), .val (.ref b287), .val (.ref b294), .val (.ref b301), .val (.ref b301), .unset, .unset, .unset, .unset, .unset] [])) rfl (by rw [hml]; rfl) (argsL := []) (rest := []) (lenOf pd__28__29_Ljava_2f_util_2f_Optional_3b_ rfl) rfl (by show 2 * 0 + _ ≤ _; exact Nat.le_of_eq rfl) (hb hby at_153) (fun _ _ => ⟨rfl, rfl, (by decide : 16 + 0 ≤ _), (by decide : 41 + 0 ≤ _)⟩)
        dsimp only [Pt.U, Pt.locs, Pt.cells, Pt.slots] at X317 l317 y317 z317 st317 hQ317
        subst y317 z317
        obtain ⟨rfl, N317q, e317⟩ := hQ317
        have N317 : Fr n0 L317 := by rw [l317]; exact Fr.app N315 N317q
        change Stand _ _ _ _ _ _ _ _ _ _ _ _ 16 41 at X317
        obtain ⟨T318, h318, X318, e318, E318, A318, D318, -, st318⟩ := newO X317 hx hZ hown (hw _ (List.mem_of_getElem? (i := 63) rfl)) (hw _ (List.mem_of_getElem? (i := 64) rfl)) (hw _ (List.mem_of_getElem? (i := 65) rfl)) e317 (g := (mkF m 162 #[.val (.int pp1), .val (.int pp2), .val (.int pp3), .val (.int pp4), .val (.int pp5), .val (.int (1 : Int32)), .val (.int (0 : Int32)), .val (.int (1 : Int32)), .val (.ref b287), .val (.ref b294), .val (.ref b301), .val (.ref b301), .val (.ref op), .unset, .unset, .unset, .unset] [])) rfl (hb hby at_162) (by decide) (by decide)
        obtain ⟨b318, g318⟩ : ∃ z, z = T315.heap.size := ⟨_, rfl⟩
        rw [← g318] at A318 D318 st318
        have g_b318 : n0 ≤ b318 := Nat.le_trans Z315 (Nat.le_of_eq g318.symm)
        have Z318 : n0 ≤ h318.size := Nat.le_trans Z315 E318.1
        have F318_unit : Fld Z h318 b318 "com/example/outremer_engine/outremerengine/diplomacy/Order$SupportMove" "unit" "Lcom/example/outremer_engine/outremerengine/board/Unit;" .null := D318 (Or.inr (hw _ (List.mem_of_getElem? (i := 71) rfl))) (ty := (.object "com/example/outremer_engine/outremerengine/board/Unit")) (by decide)
        have F318_supportedType : Fld Z h318 b318 "com/example/outremer_engine/outremerengine/diplomacy/Order$SupportMove" "supportedType" "Ljava/util/Optional;" .null := D318 (Or.inr (hw _ (List.mem_of_getElem? (i := 73) rfl))) (ty := (.object "java/util/Optional")) (by decide)
        have F318_from : Fld Z h318 b318 "com/example/outremer_engine/outremerengine/diplomacy/Order$SupportMove" "from" "Lcom/example/outremer_engine/outremerengine/board/Place;" .null := D318 (Or.inr (hw _ (List.mem_of_getElem? (i := 75) rfl))) (ty := (.object "com/example/outremer_engine/outremerengine/board/Place")) (by decide)
        have F318_to : Fld Z h318 b318 "com/example/outremer_engine/outremerengine/diplomacy/Order$SupportMove" "to" "Lcom/example/outremer_engine/outremerengine/board/Place;" .null := D318 (Or.inr (hw _ (List.mem_of_getElem? (i := 77) rfl))) (ty := (.object "com/example/outremer_engine/outremerengine/board/Place")) (by decide)
        obtain ⟨_, _, ⟨T319, L319, k319, n319⟩, -, X319, ⟨Lc319, hQ319, l319, y319, z319⟩, st319⟩ := X318.specialBack hx (y := (⟨"com/example/outremer_engine/outremerengine/diplomacy/Order$SupportMove", "<init>", "(Lcom/example/outremer_engine/outremerengine/board/Unit;Ljava/util/Optional;Lcom/example/outremer_engine/outremerengine/board/Place;Lcom/example/outremer_engine/outremerengine/board/Place;)V"⟩ : MethodName)) rfl hown (mvT hZ (hw _ (List.mem_of_getElem? (i := 66) rfl))) (mvT hZ (hw _ (List.mem_of_getElem? (i := 67) rfl))) (mvT hZ (hw _ (List.mem_of_getElem? (i := 68) rfl))) (by decide) (backOf (W := 1) (rm11_o l Z a0 hw [] b318 b301 op b287 b294 .null .null .null .null h318 n0 Z318 A318 g_b318 F318_unit F318_supportedType F318_from F318_to) hZ (hw _ (List.mem_of_getElem? (i := 68) rfl)) (hw _ (List.mem_of_getElem? (i := 65) rfl)) (by decide) (by decide)) (g := (mkF m 174 #[.val (.int pp1), .val (.int pp2), .val (.int pp3), .val (.int pp4), .val (.int pp5), .val (.int (1 : Int32)), .val (.int (0 : Int32)), .val (.int (1 : Int32)), .val (.ref b287), .val (.ref b294), .val (.ref b301), .val (.ref b301), .val (.ref op), .unset, .unset, .unset, .unset] [(.ref b294), (.ref b287), (.ref op), (.ref b301), (.ref b318), (.ref b318)])) rfl (by rw [hml]; rfl) (Steps.refl _) (a := b318) (argsL := [(.ref b301), (.ref op), (.ref b287), (.ref b294)]) (rest := [(.ref b318)]) (lenOf pd__28_Lcom_2f_example_2f_outremer_engine_2f_outremerengine_2f_board_2f_Unit_3b_Ljava_2f_util_2f_Optional_3b_Lcom_2f_example_2f_outremer_engine_2f_outremerengine_2f_board_2f_Place_3b_Lcom_2f_example_2f_outremer_engine_2f_outremerengine_2f_board_2f_Place_3b__29_V rfl) rfl (by show 2 * 0 + _ ≤ _; exact Nat.le_of_eq rfl) (hb hby at_174) (fun _ _ => ⟨rfl, e318, (by decide : 17 + 0 ≤ _), (by decide : 45 + 0 ≤ _)⟩)
        dsimp only [Pt.U, Pt.locs, Pt.cells, Pt.slots] at X319 l319 y319 z319 st319 hQ319
        subst y319 z319
        obtain ⟨rfl, N319q, K319c, R319_0, R319_1, R319_2, R319_3⟩ := hQ319
        have N319 : Fr n0 L319 := by rw [l319]; exact Fr.app N317 N319q
        have Z319 : n0 ≤ T319.heap.size := Nat.le_trans Z318 K319c.1
        change Stand _ _ _ _ _ _ _ _ _ _ _ _ 17 45 at X319
        have E_321 : Exa Z T319.heap b318 "com/example/outremer_engine/outremerengine/diplomacy/Order$SupportMove" := (A318.keep K319c)
        obtain ⟨cq320, kq320, q320a, q320b, q320c⟩ := isOf hZ rfl E_321
        obtain ⟨_, _, ⟨T320, L320, k320, n320⟩, -, X320, ⟨Lc320, hQ320, l320, y320, z320⟩, st320⟩ := X319.virtualBack hx (y := (⟨"com/example/outremer_engine/outremerengine/diplomacy/Order$SupportMove", "givenTo", "(Lcom/example/outremer_engine/outremerengine/board/Unit;)Lcom/example/outremer_engine/outremerengine/diplomacy/Order$SupportMove;"⟩ : MethodName)) (z := (⟨"com/example/outremer_engine/outremerengine/diplomacy/Order$SupportMove", "givenTo", "(Lcom/example/outremer_engine/outremerengine/board/Unit;)Lcom/example/outremer_engine/outremerengine/diplomacy/Order$SupportMove;"⟩ : MethodName)) hown (mvT hZ (hw _ (List.mem_of_getElem? (i := 78) rfl))) (mvT hZ (hw _ (List.mem_of_getElem? (i := 79) rfl))) (notFace_of_selects (args := #[]) (mvT hZ (hw _ (List.mem_of_getElem? (i := 81) rfl)))) (mvT hZ (hw _ (List.mem_of_getElem? (i := 81) rfl))) (mvT hZ (hw _ (List.mem_of_getElem? (i := 80) rfl))) (by decide) (backOf (W := 0) (rm12_o l Z a0 hw [] b318 b301 op b287 b294 T319.heap n0 Z319 R319_1 R319_2 R319_3) hZ (hw _ (List.mem_of_getElem? (i := 82) rfl)) (hw _ (List.mem_of_getElem? (i := 65) rfl)) (by decide) (by decide)) q320a q320c (g := (mkF m 183 #[.val (.int pp1), .val (.int pp2), .val (.int pp3), .val (.int pp4), .val (.int pp5), .val (.int (1 : Int32)), .val (.int (0 : Int32)), .val (.int (1 : Int32)), .val (.ref b287), .val (.ref b294), .val (.ref b301), .val (.ref b301), .val (.ref op), .val (.ref b318), .unset, .unset, .unset] [(.ref b301), (.ref b318)])) rfl (by rw [hml]; rfl) (Steps.refl _) (argsL := [(.ref b301)]) (rest := []) (lenOf pd__28_Lcom_2f_example_2f_outremer_engine_2f_outremerengine_2f_board_2f_Unit_3b__29_Lcom_2f_example_2f_outremer_engine_2f_outremerengine_2f_diplomacy_2f_Order_24_SupportMove_3b_ rfl) rfl (by show 2 * 0 + _ ≤ _; exact Nat.le_of_eq rfl) (hb hby at_183) (fun _ _ => ⟨rfl, rfl, (by decide : 17 + 1 ≤ _), (by decide : 45 + 4 ≤ _)⟩)
        dsimp only [Pt.U, Pt.locs, Pt.cells, Pt.slots] at X320 l320 y320 z320 st320 hQ320
        subst y320 z320
        obtain ⟨bx_320, rfl, N320q, K320c, g_bx_320, sb_bx_320, R320_0, R320_1, R320_2, R320_3, R320_4⟩ := hQ320
        have N320 : Fr n0 L320 := by rw [l320]; exact Fr.app N319 N320q
        have Z320 : n0 ≤ T320.heap.size := Nat.le_trans Z319 K320c.1
        change Stand _ _ _ _ _ _ _ _ _ _ _ _ 18 49 at X320
        obtain ⟨cq322, kq322, q322a, q322b, q322c⟩ := isOf hZ rfl R320_0
        obtain ⟨_, _, ⟨T322, L322, k322, n322⟩, -, X322, ⟨Lc322, hQ322, l322, y322, z322⟩, st322⟩ := X320.virtualBack hx (y := (⟨"com/example/outremer_engine/outremerengine/diplomacy/Order$SupportMove", "unit", "()Lcom/example/outremer_engine/outremerengine/board/Unit;"⟩ : MethodName)) (z := (⟨"com/example/outremer_engine/outremerengine/diplomacy/Order$SupportMove", "unit", "()Lcom/example/outremer_engine/outremerengine/board/Unit;"⟩ : MethodName)) hown (mvT hZ (hw _ (List.mem_of_getElem? (i := 85) rfl))) (mvT hZ (hw _ (List.mem_of_getElem? (i := 86) rfl))) (notFace_of_selects (args := #[]) (mvT hZ (hw _ (List.mem_of_getElem? (i := 88) rfl)))) (mvT hZ (hw _ (List.mem_of_getElem? (i := 88) rfl))) (mvT hZ (hw _ (List.mem_of_getElem? (i := 87) rfl))) (by decide) (backOf (W := 0) (rm13 l Z a0 hw [] bx_320 b301 T320.heap n0 Z320 R320_1) hZ (hw _ (List.mem_of_getElem? (i := 89) rfl)) (hw _ (List.mem_of_getElem? (i := 65) rfl)) (by decide) (by decide)) q322a q322c (g := (mkF m 197 #[.val (.int pp1), .val (.int pp2), .val (.int pp3), .val (.int pp4), .val (.int pp5), .val (.int (1 : Int32)), .val (.int (0 : Int32)), .val (.int (1 : Int32)), .val (.ref b287), .val (.ref b294), .val (.ref b301), .val (.ref b301), .val (.ref op), .val (.ref b318), .val (.ref bx_320), .unset, .unset] [(.ref bx_320)])) rfl (by rw [hml]; rfl) (Steps.refl _) (argsL := []) (rest := []) (lenOf pd__28__29_Lcom_2f_example_2f_outremer_engine_2f_outremerengine_2f_board_2f_Unit_3b_ rfl) rfl (by show 2 * 0 + _ ≤ _; exact Nat.le_of_eq rfl) (hb hby at_197) (fun _ _ => ⟨rfl, rfl, (by decide : 18 + 0 ≤ _), (by decide : 49 + 0 ≤ _)⟩)
        dsimp only [Pt.U, Pt.locs, Pt.cells, Pt.slots] at X322 l322 y322 z322 st322 hQ322
        subst y322 z322
        obtain ⟨rfl, N322q, e322⟩ := hQ322
        have N322 : Fr n0 L322 := by rw [l322]; exact Fr.app N320 N322q
        change Stand _ _ _ _ _ _ _ _ _ _ _ _ 18 49 at X322
        obtain ⟨cq323, kq323, q323a, q323b, q323c⟩ := isOf hZ e322 R320_0
        obtain ⟨_, _, ⟨T323, L323, k323, n323⟩, -, X323, ⟨Lc323, hQ323, l323, y323, z323⟩, st323⟩ := X322.virtualBack hx (y := (⟨"com/example/outremer_engine/outremerengine/diplomacy/Order$SupportMove", "supportedType", "()Ljava/util/Optional;"⟩ : MethodName)) (z := (⟨"com/example/outremer_engine/outremerengine/diplomacy/Order$SupportMove", "supportedType", "()Ljava/util/Optional;"⟩ : MethodName)) hown (mvT hZ (hw _ (List.mem_of_getElem? (i := 90) rfl))) (mvT hZ (hw _ (List.mem_of_getElem? (i := 91) rfl))) (notFace_of_selects (args := #[]) (mvT hZ (hw _ (List.mem_of_getElem? (i := 93) rfl)))) (mvT hZ (hw _ (List.mem_of_getElem? (i := 93) rfl))) (mvT hZ (hw _ (List.mem_of_getElem? (i := 92) rfl))) (by decide) (backOf (W := 0) (rm14_o l Z a0 hw [] bx_320 op T320.heap n0 Z320 R320_2) hZ (hw _ (List.mem_of_getElem? (i := 94) rfl)) (hw _ (List.mem_of_getElem? (i := 65) rfl)) (by decide) (by decide)) q323a q323c (g := (mkF m 207 #[.val (.int pp1), .val (.int pp2), .val (.int pp3), .val (.int pp4), .val (.int pp5), .val (.int (1 : Int32)), .val (.int (0 : Int32)), .val (.int (1 : Int32)), .val (.ref b287), .val (.ref b294), .val (.ref b301), .val (.ref b301), .val (.ref op), .val (.ref b318), .val (.ref bx_320), .unset, .unset] [(.ref bx_320)])) rfl (by rw [hml]; rfl) (Steps.refl _) (argsL := []) (rest := []) (lenOf pd__28__29_Ljava_2f_util_2f_Optional_3b_ rfl) rfl (by show 2 * 0 + _ ≤ _; exact Nat.le_of_eq rfl) (hb hby at_207) (fun _ _ => ⟨rfl, e322, (by decide : 18 + 0 ≤ _), (by decide : 49 + 0 ≤ _)⟩)
        dsimp only [Pt.U, Pt.locs, Pt.cells, Pt.slots] at X323 l323 y323 z323 st323 hQ323
        subst y323 z323
        obtain ⟨rfl, N323q, e323⟩ := hQ323
        have N323 : Fr n0 L323 := by rw [l323]; exact Fr.app N322 N323q
        change Stand _ _ _ _ _ _ _ _ _ _ _ _ 18 49 at X323
        obtain ⟨cq324, kq324, q324a, q324b, q324c⟩ := isOf hZ e323 R320_0
        obtain ⟨_, _, ⟨T324, L324, k324, n324⟩, -, X324, ⟨Lc324, hQ324, l324, y324, z324⟩, st324⟩ := X323.virtualBack hx (y := (⟨"com/example/outremer_engine/outremerengine/diplomacy/Order$SupportMove", "from", "()Lcom/example/outremer_engine/outremerengine/board/Place;"⟩ : MethodName)) (z := (⟨"com/example/outremer_engine/outremerengine/diplomacy/Order$SupportMove", "from", "()Lcom/example/outremer_engine/outremerengine/board/Place;"⟩ : MethodName)) hown (mvT hZ (hw _ (List.mem_of_getElem? (i := 95) rfl))) (mvT hZ (hw _ (List.mem_of_getElem? (i := 96) rfl))) (notFace_of_selects (args := #[]) (mvT hZ (hw _ (List.mem_of_getElem? (i := 98) rfl)))) (mvT hZ (hw _ (List.mem_of_getElem? (i := 98) rfl))) (mvT hZ (hw _ (List.mem_of_getElem? (i := 97) rfl))) (by decide) (backOf (W := 0) (rm15 l Z a0 hw [] bx_320 b287 T320.heap n0 Z320 R320_3) hZ (hw _ (List.mem_of_getElem? (i := 99) rfl)) (hw _ (List.mem_of_getElem? (i := 65) rfl)) (by decide) (by decide)) q324a q324c (g := (mkF m 217 #[.val (.int pp1), .val (.int pp2), .val (.int pp3), .val (.int pp4), .val (.int pp5), .val (.int (1 : Int32)), .val (.int (0 : Int32)), .val (.int (1 : Int32)), .val (.ref b287), .val (.ref b294), .val (.ref b301), .val (.ref b301), .val (.ref op), .val (.ref b318), .val (.ref bx_320), .unset, .unset] [(.ref bx_320)])) rfl (by rw [hml]; rfl) (Steps.refl _) (argsL := []) (rest := []) (lenOf pd__28__29_Lcom_2f_example_2f_outremer_engine_2f_outremerengine_2f_board_2f_Place_3b_ rfl) rfl (by show 2 * 0 + _ ≤ _; exact Nat.le_of_eq rfl) (hb hby at_217) (fun _ _ => ⟨rfl, e323, (by decide : 18 + 0 ≤ _), (by decide : 49 + 0 ≤ _)⟩)
        dsimp only [Pt.U, Pt.locs, Pt.cells, Pt.slots] at X324 l324 y324 z324 st324 hQ324
        subst y324 z324
        obtain ⟨rfl, N324q, e324⟩ := hQ324
        have N324 : Fr n0 L324 := by rw [l324]; exact Fr.app N323 N324q
        change Stand _ _ _ _ _ _ _ _ _ _ _ _ 18 49 at X324
        obtain ⟨cq325, kq325, q325a, q325b, q325c⟩ := isOf hZ e324 R320_0
        obtain ⟨_, _, ⟨T325, L325, k325, n325⟩, -, X325, ⟨Lc325, hQ325, l325, y325, z325⟩, st325⟩ := X324.virtualBack hx (y := (⟨"com/example/outremer_engine/outremerengine/diplomacy/Order$SupportMove", "to", "()Lcom/example/outremer_engine/outremerengine/board/Place;"⟩ : MethodName)) (z := (⟨"com/example/outremer_engine/outremerengine/diplomacy/Order$SupportMove", "to", "()Lcom/example/outremer_engine/outremerengine/board/Place;"⟩ : MethodName)) hown (mvT hZ (hw _ (List.mem_of_getElem? (i := 100) rfl))) (mvT hZ (hw _ (List.mem_of_getElem? (i := 101) rfl))) (notFace_of_selects (args := #[]) (mvT hZ (hw _ (List.mem_of_getElem? (i := 103) rfl)))) (mvT hZ (hw _ (List.mem_of_getElem? (i := 103) rfl))) (mvT hZ (hw _ (List.mem_of_getElem? (i := 102) rfl))) (by decide) (backOf (W := 0) (rm16 l Z a0 hw [] bx_320 b294 T320.heap n0 Z320 R320_4) hZ (hw _ (List.mem_of_getElem? (i := 104) rfl)) (hw _ (List.mem_of_getElem? (i := 65) rfl)) (by decide) (by decide)) q325a q325c (g := (mkF m 227 #[.val (.int pp1), .val (.int pp2), .val (.int pp3), .val (.int pp4), .val (.int pp5), .val (.int (1 : Int32)), .val (.int (0 : Int32)), .val (.int (1 : Int32)), .val (.ref b287), .val (.ref b294), .val (.ref b301), .val (.ref b301), .val (.ref op), .val (.ref b318), .val (.ref bx_320), .unset, .unset] [(.ref bx_320)])) rfl (by rw [hml]; rfl) (Steps.refl _) (argsL := []) (rest := []) (lenOf pd__28__29_Lcom_2f_example_2f_outremer_engine_2f_outremerengine_2f_board_2f_Place_3b_ rfl) rfl (by show 2 * 0 + _ ≤ _; exact Nat.le_of_eq rfl) (hb hby at_227) (fun _ _ => ⟨rfl, e324, (by decide : 18 + 0 ≤ _), (by decide : 49 + 0 ≤ _)⟩)
        dsimp only [Pt.U, Pt.locs, Pt.cells, Pt.slots] at X325 l325 y325 z325 st325 hQ325
        subst y325 z325
        obtain ⟨rfl, N325q, e325⟩ := hQ325
        have N325 : Fr n0 L325 := by rw [l325]; exact Fr.app N324 N325q
        change Stand _ _ _ _ _ _ _ _ _ _ _ _ 18 49 at X325
        have F_326 : Fld Z T320.heap b318 "com/example/outremer_engine/outremerengine/diplomacy/Order$SupportMove" "unit" "Lcom/example/outremer_engine/outremerengine/board/Unit;" (.ref b301) := (R319_0.keep K320c nin0)
        have E_328 : Exa Z T320.heap b318 "com/example/outremer_engine/outremerengine/diplomacy/Order$SupportMove" := (E_321.keep K320c)
        obtain ⟨cq327, kq327, q327a, q327b, q327c⟩ := isOf hZ e325 E_328
        obtain ⟨_, _, ⟨T327, L327, k327, n327⟩, -, X327, ⟨Lc327, hQ327, l327, y327, z327⟩, st327⟩ := X325.virtualBack hx (y := (⟨"com/example/outremer_engine/outremerengine/diplomacy/Order$SupportMove", "unit", "()Lcom/example/outremer_engine/outremerengine/board/Unit;"⟩ : MethodName)) (z := (⟨"com/example/outremer_engine/outremerengine/diplomacy/Order$SupportMove", "unit", "()Lcom/example/outremer_engine/outremerengine/board/Unit;"⟩ : MethodName)) hown (mvT hZ (hw _ (List.mem_of_getElem? (i := 85) rfl))) (mvT hZ (hw _ (List.mem_of_getElem? (i := 86) rfl))) (notFace_of_selects (args := #[]) (mvT hZ (hw _ (List.mem_of_getElem? (i := 88) rfl)))) (mvT hZ (hw _ (List.mem_of_getElem? (i := 88) rfl))) (mvT hZ (hw _ (List.mem_of_getElem? (i := 87) rfl))) (by decide) (backOf (W := 0) (rm13 l Z a0 hw [] b318 b301 T320.heap n0 Z320 F_326) hZ (hw _ (List.mem_of_getElem? (i := 89) rfl)) (hw _ (List.mem_of_getElem? (i := 65) rfl)) (by decide) (by decide)) q327a q327c (g := (mkF m 244 #[.val (.int pp1), .val (.int pp2), .val (.int pp3), .val (.int pp4), .val (.int pp5), .val (.int (1 : Int32)), .val (.int (0 : Int32)), .val (.int (1 : Int32)), .val (.ref b287), .val (.ref b294), .val (.ref b301), .val (.ref b301), .val (.ref op), .val (.ref b318), .val (.ref bx_320), .val (.int (1 : Int32)), .unset] [(.ref b318)])) rfl (by rw [hml]; rfl) (Steps.refl _) (argsL := []) (rest := []) (lenOf pd__28__29_Lcom_2f_example_2f_outremer_engine_2f_outremerengine_2f_board_2f_Unit_3b_ rfl) rfl (by show 2 * 0 + _ ≤ _; exact Nat.le_of_eq rfl) (hb hby at_244) (fun _ _ => ⟨rfl, e325, (by decide : 18 + 0 ≤ _), (by decide : 49 + 0 ≤ _)⟩)
        dsimp only [Pt.U, Pt.locs, Pt.cells, Pt.slots] at X327 l327 y327 z327 st327 hQ327
        subst y327 z327
        obtain ⟨rfl, N327q, e327⟩ := hQ327
        have N327 : Fr n0 L327 := by rw [l327]; exact Fr.app N325 N327q
        change Stand _ _ _ _ _ _ _ _ _ _ _ _ 18 49 at X327
        have F_329 : Fld Z T320.heap b318 "com/example/outremer_engine/outremerengine/diplomacy/Order$SupportMove" "supportedType" "Ljava/util/Optional;" (.ref op) := (R319_1.keep K320c nin0)
        obtain ⟨cq330, kq330, q330a, q330b, q330c⟩ := isOf hZ e327 E_328
        obtain ⟨_, _, ⟨T330, L330, k330, n330⟩, -, X330, ⟨Lc330, hQ330, l330, y330, z330⟩, st330⟩ := X327.virtualBack hx (y := (⟨"com/example/outremer_engine/outremerengine/diplomacy/Order$SupportMove", "supportedType", "()Ljava/util/Optional;"⟩ : MethodName)) (z := (⟨"com/example/outremer_engine/outremerengine/diplomacy/Order$SupportMove", "supportedType", "()Ljava/util/Optional;"⟩ : MethodName)) hown (mvT hZ (hw _ (List.mem_of_getElem? (i := 90) rfl))) (mvT hZ (hw _ (List.mem_of_getElem? (i := 91) rfl))) (notFace_of_selects (args := #[]) (mvT hZ (hw _ (List.mem_of_getElem? (i := 93) rfl)))) (mvT hZ (hw _ (List.mem_of_getElem? (i := 93) rfl))) (mvT hZ (hw _ (List.mem_of_getElem? (i := 92) rfl))) (by decide) (backOf (W := 0) (rm14_o l Z a0 hw [] b318 op T320.heap n0 Z320 F_329) hZ (hw _ (List.mem_of_getElem? (i := 94) rfl)) (hw _ (List.mem_of_getElem? (i := 65) rfl)) (by decide) (by decide)) q330a q330c (g := (mkF m 254 #[.val (.int pp1), .val (.int pp2), .val (.int pp3), .val (.int pp4), .val (.int pp5), .val (.int (1 : Int32)), .val (.int (0 : Int32)), .val (.int (1 : Int32)), .val (.ref b287), .val (.ref b294), .val (.ref b301), .val (.ref b301), .val (.ref op), .val (.ref b318), .val (.ref bx_320), .val (.int (1 : Int32)), .unset] [(.ref b318)])) rfl (by rw [hml]; rfl) (Steps.refl _) (argsL := []) (rest := []) (lenOf pd__28__29_Ljava_2f_util_2f_Optional_3b_ rfl) rfl (by show 2 * 0 + _ ≤ _; exact Nat.le_of_eq rfl) (hb hby at_254) (fun _ _ => ⟨rfl, e327, (by decide : 18 + 0 ≤ _), (by decide : 49 + 0 ≤ _)⟩)
        dsimp only [Pt.U, Pt.locs, Pt.cells, Pt.slots] at X330 l330 y330 z330 st330 hQ330
        subst y330 z330
        obtain ⟨rfl, N330q, e330⟩ := hQ330
        have N330 : Fr n0 L330 := by rw [l330]; exact Fr.app N327 N330q
        change Stand _ _ _ _ _ _ _ _ _ _ _ _ 18 49 at X330
        have F_331 : Fld Z T320.heap b318 "com/example/outremer_engine/outremerengine/diplomacy/Order$SupportMove" "from" "Lcom/example/outremer_engine/outremerengine/board/Place;" (.ref b287) := (R319_2.keep K320c nin0)
        obtain ⟨cq332, kq332, q332a, q332b, q332c⟩ := isOf hZ e330 E_328
        obtain ⟨_, _, ⟨T332, L332, k332, n332⟩, -, X332, ⟨Lc332, hQ332, l332, y332, z332⟩, st332⟩ := X330.virtualBack hx (y := (⟨"com/example/outremer_engine/outremerengine/diplomacy/Order$SupportMove", "from", "()Lcom/example/outremer_engine/outremerengine/board/Place;"⟩ : MethodName)) (z := (⟨"com/example/outremer_engine/outremerengine/diplomacy/Order$SupportMove", "from", "()Lcom/example/outremer_engine/outremerengine/board/Place;"⟩ : MethodName)) hown (mvT hZ (hw _ (List.mem_of_getElem? (i := 95) rfl))) (mvT hZ (hw _ (List.mem_of_getElem? (i := 96) rfl))) (notFace_of_selects (args := #[]) (mvT hZ (hw _ (List.mem_of_getElem? (i := 98) rfl)))) (mvT hZ (hw _ (List.mem_of_getElem? (i := 98) rfl))) (mvT hZ (hw _ (List.mem_of_getElem? (i := 97) rfl))) (by decide) (backOf (W := 0) (rm15 l Z a0 hw [] b318 b287 T320.heap n0 Z320 F_331) hZ (hw _ (List.mem_of_getElem? (i := 99) rfl)) (hw _ (List.mem_of_getElem? (i := 65) rfl)) (by decide) (by decide)) q332a q332c (g := (mkF m 264 #[.val (.int pp1), .val (.int pp2), .val (.int pp3), .val (.int pp4), .val (.int pp5), .val (.int (1 : Int32)), .val (.int (0 : Int32)), .val (.int (1 : Int32)), .val (.ref b287), .val (.ref b294), .val (.ref b301), .val (.ref b301), .val (.ref op), .val (.ref b318), .val (.ref bx_320), .val (.int (1 : Int32)), .unset] [(.ref b318)])) rfl (by rw [hml]; rfl) (Steps.refl _) (argsL := []) (rest := []) (lenOf pd__28__29_Lcom_2f_example_2f_outremer_engine_2f_outremerengine_2f_board_2f_Place_3b_ rfl) rfl (by show 2 * 0 + _ ≤ _; exact Nat.le_of_eq rfl) (hb hby at_264) (fun _ _ => ⟨rfl, e330, (by decide : 18 + 0 ≤ _), (by decide : 49 + 0 ≤ _)⟩)
        dsimp only [Pt.U, Pt.locs, Pt.cells, Pt.slots] at X332 l332 y332 z332 st332 hQ332
        subst y332 z332
        obtain ⟨rfl, N332q, e332⟩ := hQ332
        have N332 : Fr n0 L332 := by rw [l332]; exact Fr.app N330 N332q
        change Stand _ _ _ _ _ _ _ _ _ _ _ _ 18 49 at X332
        have F_333 : Fld Z T320.heap b318 "com/example/outremer_engine/outremerengine/diplomacy/Order$SupportMove" "to" "Lcom/example/outremer_engine/outremerengine/board/Place;" (.ref b294) := (R319_3.keep K320c nin0)
        obtain ⟨cq334, kq334, q334a, q334b, q334c⟩ := isOf hZ e332 E_328
        obtain ⟨_, _, ⟨T334, L334, k334, n334⟩, -, X334, ⟨Lc334, hQ334, l334, y334, z334⟩, st334⟩ := X332.virtualBack hx (y := (⟨"com/example/outremer_engine/outremerengine/diplomacy/Order$SupportMove", "to", "()Lcom/example/outremer_engine/outremerengine/board/Place;"⟩ : MethodName)) (z := (⟨"com/example/outremer_engine/outremerengine/diplomacy/Order$SupportMove", "to", "()Lcom/example/outremer_engine/outremerengine/board/Place;"⟩ : MethodName)) hown (mvT hZ (hw _ (List.mem_of_getElem? (i := 100) rfl))) (mvT hZ (hw _ (List.mem_of_getElem? (i := 101) rfl))) (notFace_of_selects (args := #[]) (mvT hZ (hw _ (List.mem_of_getElem? (i := 103) rfl)))) (mvT hZ (hw _ (List.mem_of_getElem? (i := 103) rfl))) (mvT hZ (hw _ (List.mem_of_getElem? (i := 102) rfl))) (by decide) (backOf (W := 0) (rm16 l Z a0 hw [] b318 b294 T320.heap n0 Z320 F_333) hZ (hw _ (List.mem_of_getElem? (i := 104) rfl)) (hw _ (List.mem_of_getElem? (i := 65) rfl)) (by decide) (by decide)) q334a q334c (g := (mkF m 274 #[.val (.int pp1), .val (.int pp2), .val (.int pp3), .val (.int pp4), .val (.int pp5), .val (.int (1 : Int32)), .val (.int (0 : Int32)), .val (.int (1 : Int32)), .val (.ref b287), .val (.ref b294), .val (.ref b301), .val (.ref b301), .val (.ref op), .val (.ref b318), .val (.ref bx_320), .val (.int (1 : Int32)), .unset] [(.ref b318)])) rfl (by rw [hml]; rfl) (Steps.refl _) (argsL := []) (rest := []) (lenOf pd__28__29_Lcom_2f_example_2f_outremer_engine_2f_outremerengine_2f_board_2f_Place_3b_ rfl) rfl (by show 2 * 0 + _ ≤ _; exact Nat.le_of_eq rfl) (hb hby at_274) (fun _ _ => ⟨rfl, e332, (by decide : 18 + 0 ≤ _), (by decide : 49 + 0 ≤ _)⟩)
        dsimp only [Pt.U, Pt.locs, Pt.cells, Pt.slots] at X334 l334 y334 z334 st334 hQ334
        subst y334 z334
        obtain ⟨rfl, N334q, e334⟩ := hQ334
        have N334 : Fr n0 L334 := by rw [l334]; exact Fr.app N332 N334q
        change Stand _ _ _ _ _ _ _ _ _ _ _ _ 18 49 at X334
        have hc291_6 : ¬ ((1 : Int32) = (0 : Int32)) := by decide
        have hc296_6 : ¬ ((1 : Int32) = (0 : Int32)) := by decide
        obtain ⟨fs, hr, hrun, hended, hW, hsame⟩ := X334.leave (v := some (.int (1 : Int32))) (fun h => by rw [Bd.returns] at h; cases h)
        refine ⟨_, _, pre240 _ ?_, hrun, hended, _, _, rfl, ?_, ⟨_, rfl⟩, hW, hsame.mono (by decide) (by decide)⟩
        · show Steps p.tables e below (s₁.setTop (mkF m 32 #[.val (.int pp1), .val (.int pp2), .val (.int pp3), .val (.int pp4), .val (.int pp5), .val (.int (1 : Int32)), .val (.int (0 : Int32)), .unset, .unset, .unset, .unset, .unset, .unset, .unset, .unset, .unset, .unset] [(.int (pp5 &&& (4 : Int32)))])) _
          refine XS.ifNo X0.here hx rfl (hb hby at_32) rfl ((if0 _ _).trans (feq hc32_3).1) ?_
          refine XS.iconst X0.here hx rfl (hb hby at_35) ?_
          refine XS.goto X0.here hx rfl (pc0 := 36) (pc' := 40) rfl (hb hby at_36) (by decide) (by decide) ?_
          refine XS.istore X0.here hx rfl (hb hby at_40) rfl (l' := #[.val (.int pp1), .val (.int pp2), .val (.int pp3), .val (.int pp4), .val (.int pp5), .val (.int (1 : Int32)), .val (.int (0 : Int32)), .val (.int (1 : Int32)), .unset, .unset, .unset, .unset, .unset, .unset, .unset, .unset, .unset]) rfl ?_
          refine st287 _ ?_
          refine XS.dup X287.here hx rfl (hb hby at_45) rfl rfl ?_
          refine XS.aconstNull X287.here hx rfl (hb hby at_46) ?_
          refine XS.iloadN X287.here hx rfl (hb hby at_47) rfl ?_
          refine st289 _ ?_
          refine st293.trans ?_
          refine XS.astore X293.here hx rfl (hb hby at_54) rfl rfl (l' := #[.val (.int pp1), .val (.int pp2), .val (.int pp3), .val (.int pp4), .val (.int pp5), .val (.int (1 : Int32)), .val (.int (0 : Int32)), .val (.int (1 : Int32)), .val (.ref b287), .unset, .unset, .unset, .unset, .unset, .unset, .unset, .unset]) rfl ?_
          refine XS.iload X293.here hx rfl (hb hby at_56) rfl ?_
          refine XS.ifYes X293.here hx rfl (pc0 := 58) (pc' := 66) rfl (hb hby at_58) rfl ((if0 _ _).trans (teq hc58_6).1) (by decide) (by decide) ?_
          refine st294 _ ?_
          refine XS.dup X294.here hx rfl (hb hby at_69) rfl rfl ?_
          refine XS.aconstNull X294.here hx rfl (hb hby at_70) ?_
          refine XS.iloadN X294.here hx rfl (hb hby at_71) rfl ?_
          refine st296 _ ?_
          refine st300.trans ?_
          refine XS.astore X300.here hx rfl (hb hby at_78) rfl rfl (l' := #[.val (.int pp1), .val (.int pp2), .val (.int pp3), .val (.int pp4), .val (.int pp5), .val (.int (1 : Int32)), .val (.int (0 : Int32)), .val (.int (1 : Int32)), .val (.ref b287), .val (.ref b294), .unset, .unset, .unset, .unset, .unset, .unset, .unset]) rfl ?_
          refine st301 _ ?_
          refine XS.dup X301.here hx rfl (hb hby at_83) rfl rfl ?_
          refine XS.iloadN X301.here hx rfl (hb hby at_84) rfl ?_
          refine st303 _ ?_
          refine XS.aconstNull X303.here hx rfl (hb hby at_88) ?_
          refine st304 _ ?_
          refine XS.dup X304.here hx rfl (hb hby at_92) rfl rfl ?_
          refine XS.aconstNull X304.here hx rfl (hb hby at_93) ?_
          refine XS.iloadN X304.here hx rfl (hb hby at_94) rfl ?_
          refine XS.bipush X304.here hx rfl (hb hby at_95) ?_
          refine XS.iushr X304.here hx rfl (hb hby at_97) rfl ?_
          refine st306 _ ?_
          refine st310.trans ?_
          refine st315.trans ?_
          refine XS.astore X315.here hx rfl (hb hby at_107) rfl rfl (l' := #[.val (.int pp1), .val (.int pp2), .val (.int pp3), .val (.int pp4), .val (.int pp5), .val (.int (1 : Int32)), .val (.int (0 : Int32)), .val (.int (1 : Int32)), .val (.ref b287), .val (.ref b294), .val (.ref b301), .unset, .unset, .unset, .unset, .unset, .unset]) rfl ?_
          refine XS.iload X315.here hx rfl (hb hby at_109) rfl ?_
          refine XS.ifNo X315.here hx rfl (hb hby at_111) rfl ((if0 _ _).trans (feq hc111_6).1) ?_
          refine XS.aload X315.here hx rfl (hb hby at_114) rfl rfl ?_
          refine XS.goto X315.here hx rfl (pc0 := 116) (pc' := 146) rfl (hb hby at_116) (by decide) (by decide) ?_
          refine XS.astore X315.here hx rfl (hb hby at_146) rfl rfl (l' := #[.val (.int pp1), .val (.int pp2), .val (.int pp3), .val (.int pp4), .val (.int pp5), .val (.int (1 : Int32)), .val (.int (0 : Int32)), .val (.int (1 : Int32)), .val (.ref b287), .val (.ref b294), .val (.ref b301), .val (.ref b301), .unset, .unset, .unset, .unset, .unset]) rfl ?_
          refine XS.iload X315.here hx rfl (hb hby at_148) rfl ?_
          refine XS.ifNo X315.here hx rfl (hb hby at_150) rfl ((if0 _ _).trans (feq hc150_6).1) ?_
          refine st317 _ ?_
          refine XS.goto X317.here hx rfl (pc0 := 156) (pc' := 160) rfl (hb hby at_156) (by decide) (by decide) ?_
          refine XS.astore X317.here hx rfl (hb hby at_160) rfl rfl (l' := #[.val (.int pp1), .val (.int pp2), .val (.int pp3), .val (.int pp4), .val (.int pp5), .val (.int (1 : Int32)), .val (.int (0 : Int32)), .val (.int (1 : Int32)), .val (.ref b287), .val (.ref b294), .val (.ref b301), .val (.ref b301), .val (.ref op), .unset, .unset, .unset, .unset]) rfl ?_
          refine st318 _ ?_
          refine XS.dup X318.here hx rfl (hb hby at_165) rfl rfl ?_
          refine XS.aload X318.here hx rfl (hb hby at_166) rfl rfl ?_
          refine XS.aload X318.here hx rfl (hb hby at_168) rfl rfl ?_
          refine XS.aload X318.here hx rfl (hb hby at_170) rfl rfl ?_
          refine XS.aload X318.here hx rfl (hb hby at_172) rfl rfl ?_
          refine st319.trans ?_
          refine XS.astore X319.here hx rfl (hb hby at_177) rfl rfl (l' := #[.val (.int pp1), .val (.int pp2), .val (.int pp3), .val (.int pp4), .val (.int pp5), .val (.int (1 : Int32)), .val (.int (0 : Int32)), .val (.int (1 : Int32)), .val (.ref b287), .val (.ref b294), .val (.ref b301), .val (.ref b301), .val (.ref op), .val (.ref b318), .unset, .unset, .unset]) rfl ?_
          refine XS.aload X319.here hx rfl (hb hby at_179) rfl rfl ?_
          refine XS.aload X319.here hx rfl (hb hby at_181) rfl rfl ?_
          refine st320.trans ?_
          refine XS.astore X320.here hx rfl (hb hby at_186) rfl rfl (l' := #[.val (.int pp1), .val (.int pp2), .val (.int pp3), .val (.int pp4), .val (.int pp5), .val (.int (1 : Int32)), .val (.int (0 : Int32)), .val (.int (1 : Int32)), .val (.ref b287), .val (.ref b294), .val (.ref b301), .val (.ref b301), .val (.ref op), .val (.ref b318), .val (.ref bx_320), .unset, .unset]) rfl ?_
          refine XS.aload X320.here hx rfl (hb hby at_188) rfl rfl ?_
          refine XS.ifnonnullYes X320.here hx rfl (pc0 := 190) (pc' := 195) rfl (hb hby at_190) rfl (by decide) (by decide) ?_
          refine XS.aload X320.here hx rfl (hb hby at_195) rfl rfl ?_
          refine st322.trans ?_
          refine XS.aload X322.here hx rfl (hb hby at_200) rfl rfl ?_
          refine Jvm.RoadKit.acmp (g := (mkF m 202 #[.val (.int pp1), .val (.int pp2), .val (.int pp3), .val (.int pp4), .val (.int pp5), .val (.int (1 : Int32)), .val (.int (0 : Int32)), .val (.int (1 : Int32)), .val (.ref b287), .val (.ref b294), .val (.ref b301), .val (.ref b301), .val (.ref op), .val (.ref b318), .val (.ref bx_320), .unset, .unset] [(.ref b301), (.ref b301)])) X322 hx rfl rfl rfl (pc0 := 202) (pc' := 205) (same := true) rfl (hb hby at_202) rfl (decide_eq_true rfl) (by decide) (by decide) ?_
          refine XS.aload X322.here hx rfl (hb hby at_205) rfl rfl ?_
          refine st323.trans ?_
          refine XS.aload X323.here hx rfl (hb hby at_210) rfl rfl ?_
          refine Jvm.RoadKit.acmp (g := (mkF m 212 #[.val (.int pp1), .val (.int pp2), .val (.int pp3), .val (.int pp4), .val (.int pp5), .val (.int (1 : Int32)), .val (.int (0 : Int32)), .val (.int (1 : Int32)), .val (.ref b287), .val (.ref b294), .val (.ref b301), .val (.ref b301), .val (.ref op), .val (.ref b318), .val (.ref bx_320), .unset, .unset] [(.ref op), (.ref op)])) X323 hx rfl rfl rfl (pc0 := 212) (pc' := 215) (same := true) rfl (hb hby at_212) rfl (decide_eq_true rfl) (by decide) (by decide) ?_
          refine XS.aload X323.here hx rfl (hb hby at_215) rfl rfl ?_
          refine st324.trans ?_
          refine XS.aload X324.here hx rfl (hb hby at_220) rfl rfl ?_
          refine Jvm.RoadKit.acmp (g := (mkF m 222 #[.val (.int pp1), .val (.int pp2), .val (.int pp3), .val (.int pp4), .val (.int pp5), .val (.int (1 : Int32)), .val (.int (0 : Int32)), .val (.int (1 : Int32)), .val (.ref b287), .val (.ref b294), .val (.ref b301), .val (.ref b301), .val (.ref op), .val (.ref b318), .val (.ref bx_320), .unset, .unset] [(.ref b287), (.ref b287)])) X324 hx rfl rfl rfl (pc0 := 222) (pc' := 225) (same := true) rfl (hb hby at_222) rfl (decide_eq_true rfl) (by decide) (by decide) ?_
          refine XS.aload X324.here hx rfl (hb hby at_225) rfl rfl ?_
          refine st325.trans ?_
          refine XS.aload X325.here hx rfl (hb hby at_230) rfl rfl ?_
          refine Jvm.RoadKit.acmp (g := (mkF m 232 #[.val (.int pp1), .val (.int pp2), .val (.int pp3), .val (.int pp4), .val (.int pp5), .val (.int (1 : Int32)), .val (.int (0 : Int32)), .val (.int (1 : Int32)), .val (.ref b287), .val (.ref b294), .val (.ref b301), .val (.ref b301), .val (.ref op), .val (.ref b318), .val (.ref bx_320), .unset, .unset] [(.ref b294), (.ref b294)])) X325 hx rfl rfl rfl (pc0 := 232) (pc' := 235) (same := true) rfl (hb hby at_232) rfl (decide_eq_true rfl) (by decide) (by decide) ?_
          refine XS.iconst X325.here hx rfl (hb hby at_235) ?_
          refine XS.goto X325.here hx rfl (pc0 := 236) (pc' := 240) rfl (hb hby at_236) (by decide) (by decide) ?_
          refine XS.istore X325.here hx rfl (hb hby at_240) rfl (l' := #[.val (.int pp1), .val (.int pp2), .val (.int pp3), .val (.int pp4), .val (.int pp5), .val (.int (1 : Int32)), .val (.int (0 : Int32)), .val (.int (1 : Int32)), .val (.ref b287), .val (.ref b294), .val (.ref b301), .val (.ref b301), .val (.ref op), .val (.ref b318), .val (.ref bx_320), .val (.int (1 : Int32)), .unset]) rfl ?_
          refine XS.aload X325.here hx rfl (hb hby at_242) rfl rfl ?_
          refine st327.trans ?_
          refine XS.aload X327.here hx rfl (hb hby at_247) rfl rfl ?_
          refine Jvm.RoadKit.acmp (g := (mkF m 249 #[.val (.int pp1), .val (.int pp2), .val (.int pp3), .val (.int pp4), .val (.int pp5), .val (.int (1 : Int32)), .val (.int (0 : Int32)), .val (.int (1 : Int32)), .val (.ref b287), .val (.ref b294), .val (.ref b301), .val (.ref b301), .val (.ref op), .val (.ref b318), .val (.ref bx_320), .val (.int (1 : Int32)), .unset] [(.ref b301), (.ref b301)])) X327 hx rfl rfl rfl (pc0 := 249) (pc' := 252) (same := true) rfl (hb hby at_249) rfl (decide_eq_true rfl) (by decide) (by decide) ?_
          refine XS.aload X327.here hx rfl (hb hby at_252) rfl rfl ?_
          refine st330.trans ?_
          refine XS.aload X330.here hx rfl (hb hby at_257) rfl rfl ?_
          refine Jvm.RoadKit.acmp (g := (mkF m 259 #[.val (.int pp1), .val (.int pp2), .val (.int pp3), .val (.int pp4), .val (.int pp5), .val (.int (1 : Int32)), .val (.int (0 : Int32)), .val (.int (1 : Int32)), .val (.ref b287), .val (.ref b294), .val (.ref b301), .val (.ref b301), .val (.ref op), .val (.ref b318), .val (.ref bx_320), .val (.int (1 : Int32)), .unset] [(.ref op), (.ref op)])) X330 hx rfl rfl rfl (pc0 := 259) (pc' := 262) (same := true) rfl (hb hby at_259) rfl (decide_eq_true rfl) (by decide) (by decide) ?_
          refine XS.aload X330.here hx rfl (hb hby at_262) rfl rfl ?_
          refine st332.trans ?_
          refine XS.aload X332.here hx rfl (hb hby at_267) rfl rfl ?_
          refine Jvm.RoadKit.acmp (g := (mkF m 269 #[.val (.int pp1), .val (.int pp2), .val (.int pp3), .val (.int pp4), .val (.int pp5), .val (.int (1 : Int32)), .val (.int (0 : Int32)), .val (.int (1 : Int32)), .val (.ref b287), .val (.ref b294), .val (.ref b301), .val (.ref b301), .val (.ref op), .val (.ref b318), .val (.ref bx_320), .val (.int (1 : Int32)), .unset] [(.ref b287), (.ref b287)])) X332 hx rfl rfl rfl (pc0 := 269) (pc' := 272) (same := true) rfl (hb hby at_269) rfl (decide_eq_true rfl) (by decide) (by decide) ?_
          refine XS.aload X332.here hx rfl (hb hby at_272) rfl rfl ?_
          refine st334.trans ?_
          refine XS.aload X334.here hx rfl (hb hby at_277) rfl rfl ?_
          refine Jvm.RoadKit.acmp (g := (mkF m 279 #[.val (.int pp1), .val (.int pp2), .val (.int pp3), .val (.int pp4), .val (.int pp5), .val (.int (1 : Int32)), .val (.int (0 : Int32)), .val (.int (1 : Int32)), .val (.ref b287), .val (.ref b294), .val (.ref b301), .val (.ref b301), .val (.ref op), .val (.ref b318), .val (.ref bx_320), .val (.int (1 : Int32)), .unset] [(.ref b294), (.ref b294)])) X334 hx rfl rfl rfl (pc0 := 279) (pc' := 282) (same := true) rfl (hb hby at_279) rfl (decide_eq_true rfl) (by decide) (by decide) ?_
          refine XS.iconst X334.here hx rfl (hb hby at_282) ?_
          refine XS.goto X334.here hx rfl (pc0 := 283) (pc' := 287) rfl (hb hby at_283) (by decide) (by decide) ?_
          refine XS.istore X334.here hx rfl (hb hby at_287) rfl (l' := #[.val (.int pp1), .val (.int pp2), .val (.int pp3), .val (.int pp4), .val (.int pp5), .val (.int (1 : Int32)), .val (.int (0 : Int32)), .val (.int (1 : Int32)), .val (.ref b287), .val (.ref b294), .val (.ref b301), .val (.ref b301), .val (.ref op), .val (.ref b318), .val (.ref bx_320), .val (.int (1 : Int32)), .val (.int (1 : Int32))]) rfl ?_
          refine XS.iload X334.here hx rfl (hb hby at_289) rfl ?_
          refine XS.ifNo X334.here hx rfl (hb hby at_291) rfl ((if0 _ _).trans (feq hc291_6).1) ?_
          refine XS.iload X334.here hx rfl (hb hby at_294) rfl ?_
          refine XS.ifNo X334.here hx rfl (hb hby at_296) rfl ((if0 _ _).trans (feq hc296_6).1) ?_
          refine XS.iconst X334.here hx rfl (hb hby at_299) ?_
          refine XS.goto X334.here hx rfl (pc0 := 300) (pc' := 304) rfl (hb hby at_300) (by decide) (by decide) ?_
          exact retN X334 hx (t := .boolean) Bd.returns (by simp) (hb hby at_304) hr
        · show Q0 Z pp1 pp2 pp3 pp4 pp5 cs op h0 n0 _ T334.heap _
          rw [e334]
          exact ⟨rfl, N334⟩
    · skip
      have pre335 : ∀ t, Steps p.tables e below (s₁.setTop (mkF m 32 #[.val (.int pp1), .val (.int pp2), .val (.int pp3), .val (.int pp4), .val (.int pp5), .val (.int (1 : Int32)), .val (.int (1 : Int32)), .unset, .unset, .unset, .unset, .unset, .unset, .unset, .unset, .unset, .unset] [(.int (pp5 &&& (4 : Int32)))])) t → Steps p.tables e below (s₁.setTop (entryFrame m #[(.int pp1), (.int pp2), (.int pp3), (.int pp4), (.int pp5)] maxLocals)) t := fun t kt => pre239 t (by
        refine XS.ifNo X0.here hx rfl (hb hby at_18) rfl ((if0 _ _).trans (feq hc18_2).1) ?_
        refine XS.iconst X0.here hx rfl (hb hby at_21) ?_
        refine XS.goto X0.here hx rfl (pc0 := 22) (pc' := 26) rfl (hb hby at_22) (by decide) (by decide) ?_
        refine XS.istore X0.here hx rfl (hb hby at_26) rfl (l' := #[.val (.int pp1), .val (.int pp2), .val (.int pp3), .val (.int pp4), .val (.int pp5), .val (.int (1 : Int32)), .val (.int (1 : Int32)), .unset, .unset, .unset, .unset, .unset, .unset, .unset, .unset, .unset, .unset]) rfl ?_
        refine XS.iload X0.here hx rfl (hb hby at_28) rfl ?_
        refine XS.iconst X0.here hx rfl (hb hby at_30) ?_
        refine XS.iand X0.here hx rfl (hb hby at_31) rfl ?_
        exact kt)
      by_cases hc32_4 : (pp5 &&& (4 : Int32)) = (0 : Int32)
      · skip
        obtain ⟨T336, h336, X336, e336, E336, A336, D336, -, st336⟩ := newO X0 hx hZ hown (hw _ (List.mem_of_getElem? (i := 0) rfl)) (hw _ (List.mem_of_getElem? (i := 1) rfl)) (hw _ (List.mem_of_getElem? (i := 2) rfl)) e0 (g := (mkF m 42 #[.val (.int pp1), .val (.int pp2), .val (.int pp3), .val (.int pp4), .val (.int pp5), .val (.int (1 : Int32)), .val (.int (1 : Int32)), .val (.int (0 : Int32)), .unset, .unset, .unset, .unset, .unset, .unset, .unset, .unset, .unset] [])) rfl (hb hby at_42) (by decide) (by decide)
        obtain ⟨b336, g336⟩ : ∃ z, z = h0.size := ⟨_, rfl⟩
        rw [← g336] at A336 D336 st336
        have g_b336 : n0 ≤ b336 := Nat.le_trans Z0 (Nat.le_of_eq g336.symm)
        have Z336 : n0 ≤ h336.size := Nat.le_trans Z0 E336.1
        have F336_province : Fld Z h336 b336 "com/example/outremer_engine/outremerengine/board/Place" "province" "Lcom/example/outremer_engine/outremerengine/board/Province;" .null := D336 (Or.inr (hw _ (List.mem_of_getElem? (i := 47) rfl))) (ty := (.object "com/example/outremer_engine/outremerengine/board/Province")) (by decide)
        have F336_coast : Fld Z h336 b336 "com/example/outremer_engine/outremerengine/board/Place" "coast" "Ljava/lang/String;" .null := D336 (Or.inr (hw _ (List.mem_of_getElem? (i := 49) rfl))) (ty := (.object "java/lang/String")) (by decide)
        have O_337 : Old Z n0 h336 := (O0.ext E336)
        obtain ⟨_, _, ⟨T338, L338, k338, n338⟩, -, X338, ⟨Lc338, hQ338, l338, y338, z338⟩, st338⟩ := Jvm.LawKit.callS X336 hx (y := (⟨"com/example/outremer_engine/outremerengine/diplomacy/SupportMoveGivenToPinLaw", "drawn", "(I)Ljava/lang/String;"⟩ : MethodName)) hown (mvT hZ (hw _ (List.mem_of_getElem? (i := 3) rfl))) (mvT hZ (hw _ (List.mem_of_getElem? (i := 4) rfl))) (mvT hZ (hw _ (List.mem_of_getElem? (i := 5) rfl))) (mvT hZ (hw _ (List.mem_of_getElem? (i := 6) rfl))) (by decide) (backOf (W := 3) (rm1 l Z a0 hw [] pp3 cs h336 n0 Z336 O_337 S_COMPACT_STRINGS (show ¬ cs = (0 : Int32) from hcs)) hZ (hw _ (List.mem_of_getElem? (i := 6) rfl)) (hw _ (List.mem_of_getElem? (i := 5) rfl)) (by decide) (by decide)) (g := (mkF m 48 #[.val (.int pp1), .val (.int pp2), .val (.int pp3), .val (.int pp4), .val (.int pp5), .val (.int (1 : Int32)), .val (.int (1 : Int32)), .val (.int (0 : Int32)), .unset, .unset, .unset, .unset, .unset, .unset, .unset, .unset, .unset] [(.int pp3), .null, (.ref b336), (.ref b336)])) rfl (by rw [hml]; rfl) (argsL := [(.int pp3)]) (rest := [.null, (.ref b336), (.ref b336)]) (lenOf pd__28_I_29_Ljava_2f_lang_2f_String_3b_ rfl) rfl (by show 2 * 0 + _ ≤ _; exact Nat.le_of_eq rfl) (hb hby at_48) (fun _ _ => ⟨rfl, e336, (by decide : 1 + 3 ≤ _), (by decide : 2 + 8 ≤ _)⟩)
        dsimp only [Pt.U, Pt.locs, Pt.cells, Pt.slots] at X338 l338 y338 z338 st338 hQ338
        subst y338 z338
        obtain ⟨bx_338, rfl, N338q, K338c, g_bx_338, sb_bx_338⟩ := hQ338
        have N338 : Fr n0 L338 := by rw [l338]; exact Fr.app N0 N338q
        have Z338 : n0 ≤ T338.heap.size := Nat.le_trans Z336 K338c.1
        change Stand _ _ _ _ _ _ _ _ _ _ _ _ 4 10 at X338
        have E_339 : Exa Z T338.heap b336 "com/example/outremer_engine/outremerengine/board/Place" := (A336.keep K338c)
        have F_340 : Fld Z T338.heap b336 "com/example/outremer_engine/outremerengine/board/Place" "province" "Lcom/example/outremer_engine/outremerengine/board/Province;" .null := (F336_province.keep K338c nin0)
        have F_341 : Fld Z T338.heap b336 "com/example/outremer_engine/outremerengine/board/Place" "coast" "Ljava/lang/String;" .null := (F336_coast.keep K338c nin0)
        obtain ⟨_, _, ⟨T342, L342, k342, n342⟩, -, X342, ⟨Lc342, hQ342, l342, y342, z342⟩, st342⟩ := X338.specialBack hx (y := (⟨"com/example/outremer_engine/outremerengine/board/Place", "<init>", "(Lcom/example/outremer_engine/outremerengine/board/Province;Ljava/lang/String;)V"⟩ : MethodName)) rfl hown (mvT hZ (hw _ (List.mem_of_getElem? (i := 37) rfl))) (mvT hZ (hw _ (List.mem_of_getElem? (i := 38) rfl))) (mvT hZ (hw _ (List.mem_of_getElem? (i := 39) rfl))) (by decide) (backOf (W := 1) (rm8 l Z a0 hw [] b336 bx_338 .null .null T338.heap n0 Z338 E_339 g_b336 F_340 F_341) hZ (hw _ (List.mem_of_getElem? (i := 39) rfl)) (hw _ (List.mem_of_getElem? (i := 2) rfl)) (by decide) (by decide)) (g := (mkF m 51 #[.val (.int pp1), .val (.int pp2), .val (.int pp3), .val (.int pp4), .val (.int pp5), .val (.int (1 : Int32)), .val (.int (1 : Int32)), .val (.int (0 : Int32)), .unset, .unset, .unset, .unset, .unset, .unset, .unset, .unset, .unset] [(.ref bx_338), .null, (.ref b336), (.ref b336)])) rfl (by rw [hml]; rfl) (Steps.refl _) (a := b336) (argsL := [.null, (.ref bx_338)]) (rest := [(.ref b336)]) (lenOf pd__28_Lcom_2f_example_2f_outremer_engine_2f_outremerengine_2f_board_2f_Province_3b_Ljava_2f_lang_2f_String_3b__29_V rfl) rfl (by show 2 * 0 + _ ≤ _; exact Nat.le_of_eq rfl) (hb hby at_51) (fun _ _ => ⟨rfl, rfl, (by decide : 4 + 0 ≤ _), (by decide : 10 + 0 ≤ _)⟩)
        dsimp only [Pt.U, Pt.locs, Pt.cells, Pt.slots] at X342 l342 y342 z342 st342 hQ342
        subst y342 z342
        obtain ⟨rfl, N342q, K342c, R342_0, R342_1⟩ := hQ342
        have N342 : Fr n0 L342 := by rw [l342]; exact Fr.app N338 N342q
        have Z342 : n0 ≤ T342.heap.size := Nat.le_trans Z338 K342c.1
        change Stand _ _ _ _ _ _ _ _ _ _ _ _ 4 10 at X342
        have hc58_7 : ¬ ((1 : Int32) = (0 : Int32)) := by decide
        obtain ⟨T343, h343, X343, e343, E343, A343, D343, -, st343⟩ := newO X342 hx hZ hown (hw _ (List.mem_of_getElem? (i := 50) rfl)) (hw _ (List.mem_of_getElem? (i := 51) rfl)) (hw _ (List.mem_of_getElem? (i := 52) rfl)) rfl (g := (mkF m 80 #[.val (.int pp1), .val (.int pp2), .val (.int pp3), .val (.int pp4), .val (.int pp5), .val (.int (1 : Int32)), .val (.int (1 : Int32)), .val (.int (0 : Int32)), .val (.ref b336), .val (.ref b336), .unset, .unset, .unset, .unset, .unset, .unset, .unset] [])) rfl (hb hby at_80) (by decide) (by decide)
        obtain ⟨b343, g343⟩ : ∃ z, z = T342.heap.size := ⟨_, rfl⟩
        rw [← g343] at A343 D343 st343
        have g_b343 : n0 ≤ b343 := Nat.le_trans Z342 (Nat.le_of_eq g343.symm)
        have Z343 : n0 ≤ h343.size := Nat.le_trans Z342 E343.1
        have F343_nation : Fld Z h343 b343 "com/example/outremer_engine/outremerengine/board/Unit" "nation" "Ljava/lang/String;" .null := D343 (Or.inr (hw _ (List.mem_of_getElem? (i := 58) rfl))) (ty := (.object "java/lang/String")) (by decide)
        have F343_type : Fld Z h343 b343 "com/example/outremer_engine/outremerengine/board/Unit" "type" "Lcom/example/outremer_engine/outremerengine/board/UnitType;" .null := D343 (Or.inr (hw _ (List.mem_of_getElem? (i := 60) rfl))) (ty := (.object "com/example/outremer_engine/outremerengine/board/UnitType")) (by decide)
        have F343_place : Fld Z h343 b343 "com/example/outremer_engine/outremerengine/board/Unit" "place" "Lcom/example/outremer_engine/outremerengine/board/Place;" .null := D343 (Or.inr (hw _ (List.mem_of_getElem? (i := 62) rfl))) (ty := (.object "com/example/outremer_engine/outremerengine/board/Place")) (by decide)
        have O_344 : Old Z n0 h343 := (((O_337.keep K338c all0).keep K342c (allS g_b336 all0)).ext E343)
        obtain ⟨_, _, ⟨T345, L345, k345, n345⟩, -, X345, ⟨Lc345, hQ345, l345, y345, z345⟩, st345⟩ := Jvm.LawKit.callS X343 hx (y := (⟨"com/example/outremer_engine/outremerengine/diplomacy/SupportMoveGivenToPinLaw", "drawn", "(I)Ljava/lang/String;"⟩ : MethodName)) hown (mvT hZ (hw _ (List.mem_of_getElem? (i := 3) rfl))) (mvT hZ (hw _ (List.mem_of_getElem? (i := 4) rfl))) (mvT hZ (hw _ (List.mem_of_getElem? (i := 5) rfl))) (mvT hZ (hw _ (List.mem_of_getElem? (i := 6) rfl))) (by decide) (backOf (W := 2) (rm1 l Z a0 hw [] pp1 cs h343 n0 Z343 O_344 S_COMPACT_STRINGS (show ¬ cs = (0 : Int32) from hcs)) hZ (hw _ (List.mem_of_getElem? (i := 6) rfl)) (hw _ (List.mem_of_getElem? (i := 5) rfl)) (by decide) (by decide)) (g := (mkF m 85 #[.val (.int pp1), .val (.int pp2), .val (.int pp3), .val (.int pp4), .val (.int pp5), .val (.int (1 : Int32)), .val (.int (1 : Int32)), .val (.int (0 : Int32)), .val (.ref b336), .val (.ref b336), .unset, .unset, .unset, .unset, .unset, .unset, .unset] [(.int pp1), (.ref b343), (.ref b343)])) rfl (by rw [hml]; rfl) (argsL := [(.int pp1)]) (rest := [(.ref b343), (.ref b343)]) (lenOf pd__28_I_29_Ljava_2f_lang_2f_String_3b_ rfl) rfl (by show 2 * 0 + _ ≤ _; exact Nat.le_of_eq rfl) (hb hby at_85) (fun _ _ => ⟨rfl, e343, (by decide : 5 + 3 ≤ _), (by decide : 13 + 8 ≤ _)⟩)
        dsimp only [Pt.U, Pt.locs, Pt.cells, Pt.slots] at X345 l345 y345 z345 st345 hQ345
        subst y345 z345
        obtain ⟨bx_345, rfl, N345q, K345c, g_bx_345, sb_bx_345⟩ := hQ345
        have N345 : Fr n0 L345 := by rw [l345]; exact Fr.app N342 N345q
        have Z345 : n0 ≤ T345.heap.size := Nat.le_trans Z343 K345c.1
        change Stand _ _ _ _ _ _ _ _ _ _ _ _ 8 21 at X345
        obtain ⟨T346, h346, X346, e346, E346, A346, D346, -, st346⟩ := newO X345 hx hZ hown (hw _ (List.mem_of_getElem? (i := 0) rfl)) (hw _ (List.mem_of_getElem? (i := 1) rfl)) (hw _ (List.mem_of_getElem? (i := 2) rfl)) rfl (g := (mkF m 89 #[.val (.int pp1), .val (.int pp2), .val (.int pp3), .val (.int pp4), .val (.int pp5), .val (.int (1 : Int32)), .val (.int (1 : Int32)), .val (.int (0 : Int32)), .val (.ref b336), .val (.ref b336), .unset, .unset, .unset, .unset, .unset, .unset, .unset] [.null, (.ref bx_345), (.ref b343), (.ref b343)])) rfl (hb hby at_89) (by decide) (by decide)
        obtain ⟨b346, g346⟩ : ∃ z, z = T345.heap.size := ⟨_, rfl⟩
        rw [← g346] at A346 D346 st346
        have g_b346 : n0 ≤ b346 := Nat.le_trans Z345 (Nat.le_of_eq g346.symm)
        have Z346 : n0 ≤ h346.size := Nat.le_trans Z345 E346.1
        have F346_province : Fld Z h346 b346 "com/example/outremer_engine/outremerengine/board/Place" "province" "Lcom/example/outremer_engine/outremerengine/board/Province;" .null := D346 (Or.inr (hw _ (List.mem_of_getElem? (i := 47) rfl))) (ty := (.object "com/example/outremer_engine/outremerengine/board/Province")) (by decide)
        have F346_coast : Fld Z h346 b346 "com/example/outremer_engine/outremerengine/board/Place" "coast" "Ljava/lang/String;" .null := D346 (Or.inr (hw _ (List.mem_of_getElem? (i := 49) rfl))) (ty := (.object "java/lang/String")) (by decide)
        have O_347 : Old Z n0 h346 := ((O_344.keep K345c all0).ext E346)
        obtain ⟨_, _, ⟨T348, L348, k348, n348⟩, -, X348, ⟨Lc348, hQ348, l348, y348, z348⟩, st348⟩ := Jvm.LawKit.callS X346 hx (y := (⟨"com/example/outremer_engine/outremerengine/diplomacy/SupportMoveGivenToPinLaw", "drawn", "(I)Ljava/lang/String;"⟩ : MethodName)) hown (mvT hZ (hw _ (List.mem_of_getElem? (i := 3) rfl))) (mvT hZ (hw _ (List.mem_of_getElem? (i := 4) rfl))) (mvT hZ (hw _ (List.mem_of_getElem? (i := 5) rfl))) (mvT hZ (hw _ (List.mem_of_getElem? (i := 6) rfl))) (by decide) (backOf (W := 7) (rm1 l Z a0 hw [] ((pp4.toUInt32 >>> ((16 : Int32) &&& 31).toUInt32).toInt32) cs h346 n0 Z346 O_347 S_COMPACT_STRINGS (show ¬ cs = (0 : Int32) from hcs)) hZ (hw _ (List.mem_of_getElem? (i := 6) rfl)) (hw _ (List.mem_of_getElem? (i := 5) rfl)) (by decide) (by decide)) (g := (mkF m 98 #[.val (.int pp1), .val (.int pp2), .val (.int pp3), .val (.int pp4), .val (.int pp5), .val (.int (1 : Int32)), .val (.int (1 : Int32)), .val (.int (0 : Int32)), .val (.ref b336), .val (.ref b336), .unset, .unset, .unset, .unset, .unset, .unset, .unset] [(.int ((pp4.toUInt32 >>> ((16 : Int32) &&& 31).toUInt32).toInt32)), .null, (.ref b346), (.ref b346), .null, (.ref bx_345), (.ref b343), (.ref b343)])) rfl (by rw [hml]; rfl) (argsL := [(.int ((pp4.toUInt32 >>> ((16 : Int32) &&& 31).toUInt32).toInt32))]) (rest := [.null, (.ref b346), (.ref b346), .null, (.ref bx_345), (.ref b343), (.ref b343)]) (lenOf pd__28_I_29_Ljava_2f_lang_2f_String_3b_ rfl) rfl (by show 2 * 0 + _ ≤ _; exact Nat.le_of_eq rfl) (hb hby at_98) (fun _ _ => ⟨rfl, e346, (by decide : 9 + 3 ≤ _), (by decide : 23 + 8 ≤ _)⟩)
        dsimp only [Pt.U, Pt.locs, Pt.cells, Pt.slots] at X348 l348 y348 z348 st348 hQ348
        subst y348 z348
        obtain ⟨bx_348, rfl, N348q, K348c, g_bx_348, sb_bx_348⟩ := hQ348
        have N348 : Fr n0 L348 := by rw [l348]; exact Fr.app N345 N348q
        have Z348 : n0 ≤ T348.heap.size := Nat.le_trans Z346 K348c.1
        change Stand _ _ _ _ _ _ _ _ _ _ _ _ 12 31 at X348
        have E_349 : Exa Z T348.heap b346 "com/example/outremer_engine/outremerengine/board/Place" := (A346.keep K348c)
        have F_350 : Fld Z T348.heap b346 "com/example/outremer_engine/outremerengine/board/Place" "province" "Lcom/example/outremer_engine/outremerengine/board/Province;" .null := (F346_province.keep K348c nin0)
        have F_351 : Fld Z T348.heap b346 "com/example/outremer_engine/outremerengine/board/Place" "coast" "Ljava/lang/String;" .null := (F346_coast.keep K348c nin0)
        obtain ⟨_, _, ⟨T352, L352, k352, n352⟩, -, X352, ⟨Lc352, hQ352, l352, y352, z352⟩, st352⟩ := X348.specialBack hx (y := (⟨"com/example/outremer_engine/outremerengine/board/Place", "<init>", "(Lcom/example/outremer_engine/outremerengine/board/Province;Ljava/lang/String;)V"⟩ : MethodName)) rfl hown (mvT hZ (hw _ (List.mem_of_getElem? (i := 37) rfl))) (mvT hZ (hw _ (List.mem_of_getElem? (i := 38) rfl))) (mvT hZ (hw _ (List.mem_of_getElem? (i := 39) rfl))) (by decide) (backOf (W := 5) (rm8 l Z a0 hw [] b346 bx_348 .null .null T348.heap n0 Z348 E_349 g_b346 F_350 F_351) hZ (hw _ (List.mem_of_getElem? (i := 39) rfl)) (hw _ (List.mem_of_getElem? (i := 2) rfl)) (by decide) (by decide)) (g := (mkF m 101 #[.val (.int pp1), .val (.int pp2), .val (.int pp3), .val (.int pp4), .val (.int pp5), .val (.int (1 : Int32)), .val (.int (1 : Int32)), .val (.int (0 : Int32)), .val (.ref b336), .val (.ref b336), .unset, .unset, .unset, .unset, .unset, .unset, .unset] [(.ref bx_348), .null, (.ref b346), (.ref b346), .null, (.ref bx_345), (.ref b343), (.ref b343)])) rfl (by rw [hml]; rfl) (Steps.refl _) (a := b346) (argsL := [.null, (.ref bx_348)]) (rest := [(.ref b346), .null, (.ref bx_345), (.ref b343), (.ref b343)]) (lenOf pd__28_Lcom_2f_example_2f_outremer_engine_2f_outremerengine_2f_board_2f_Province_3b_Ljava_2f_lang_2f_String_3b__29_V rfl) rfl (by show 2 * 0 + _ ≤ _; exact Nat.le_of_eq rfl) (hb hby at_101) (fun _ _ => ⟨rfl, rfl, (by decide : 12 + 0 ≤ _), (by decide : 31 + 0 ≤ _)⟩)
        dsimp only [Pt.U, Pt.locs, Pt.cells, Pt.slots] at X352 l352 y352 z352 st352 hQ352
        subst y352 z352
        obtain ⟨rfl, N352q, K352c, R352_0, R352_1⟩ := hQ352
        have N352 : Fr n0 L352 := by rw [l352]; exact Fr.app N348 N352q
        have Z352 : n0 ≤ T352.heap.size := Nat.le_trans Z348 K352c.1
        change Stand _ _ _ _ _ _ _ _ _ _ _ _ 12 31 at X352
        have E_353 : Exa Z T352.heap b343 "com/example/outremer_engine/outremerengine/board/Unit" := ((((A343.keep K345c).ext E346).keep K348c).keep K352c)
        have F_354 : Fld Z T352.heap b343 "com/example/outremer_engine/outremerengine/board/Unit" "nation" "Ljava/lang/String;" .null := ((((F343_nation.keep K345c nin0).ext E346).keep K348c nin0).keep K352c (ninS (Nat.ne_of_lt (Nat.lt_of_lt_of_le (A343.keep K345c).lt (Nat.le_of_eq g346.symm))) nin0))
        have F_355 : Fld Z T352.heap b343 "com/example/outremer_engine/outremerengine/board/Unit" "type" "Lcom/example/outremer_engine/outremerengine/board/UnitType;" .null := ((((F343_type.keep K345c nin0).ext E346).keep K348c nin0).keep K352c (ninS (Nat.ne_of_lt (Nat.lt_of_lt_of_le (A343.keep K345c).lt (Nat.le_of_eq g346.symm))) nin0))
        have F_356 : Fld Z T352.heap b343 "com/example/outremer_engine/outremerengine/board/Unit" "place" "Lcom/example/outremer_engine/outremerengine/board/Place;" .null := ((((F343_place.keep K345c nin0).ext E346).keep K348c nin0).keep K352c (ninS (Nat.ne_of_lt (Nat.lt_of_lt_of_le (A343.keep K345c).lt (Nat.le_of_eq g346.symm))) nin0))
        obtain ⟨_, _, ⟨T357, L357, k357, n357⟩, -, X357, ⟨Lc357, hQ357, l357, y357, z357⟩, st357⟩ := X352.specialBack hx (y := (⟨"com/example/outremer_engine/outremerengine/board/Unit", "<init>", "(Ljava/lang/String;Lcom/example/outremer_engine/outremerengine/board/UnitType;Lcom/example/outremer_engine/outremerengine/board/Place;)V"⟩ : MethodName)) rfl hown (mvT hZ (hw _ (List.mem_of_getElem? (i := 53) rfl))) (mvT hZ (hw _ (List.mem_of_getElem? (i := 54) rfl))) (mvT hZ (hw _ (List.mem_of_getElem? (i := 55) rfl))) (by decide) (backOf (W := 1) (rm10 l Z a0 hw [] b343 bx_345 b346 .null .null .null T352.heap n0 Z352 E_353 g_b343 F_354 F_355 F_356) hZ (hw _ (List.mem_of_getElem? (i := 55) rfl)) (hw _ (List.mem_of_getElem? (i := 52) rfl)) (by decide) (by decide)) (g := (mkF m 104 #[.val (.int pp1), .val (.int pp2), .val (.int pp3), .val (.int pp4), .val (.int pp5), .val (.int (1 : Int32)), .val (.int (1 : Int32)), .val (.int (0 : Int32)), .val (.ref b336), .val (.ref b336), .unset, .unset, .unset, .unset, .unset, .unset, .unset] [(.ref b346), .null, (.ref bx_345), (.ref b343), (.ref b343)])) rfl (by rw [hml]; rfl) (Steps.refl _) (a := b343) (argsL := [(.ref bx_345), .null, (.ref b346)]) (rest := [(.ref b343)]) (lenOf pd__28_Ljava_2f_lang_2f_String_3b_Lcom_2f_example_2f_outremer_engine_2f_outremerengine_2f_board_2f_UnitType_3b_Lcom_2f_example_2f_outremer_engine_2f_outremerengine_2f_board_2f_Place_3b__29_V rfl) rfl (by show 2 * 0 + _ ≤ _; exact Nat.le_of_eq rfl) (hb hby at_104) (fun _ _ => ⟨rfl, rfl, (by decide : 12 + 0 ≤ _), (by decide : 31 + 0 ≤ _)⟩)
        dsimp only [Pt.U, Pt.locs, Pt.cells, Pt.slots] at X357 l357 y357 z357 st357 hQ357
        subst y357 z357
        obtain ⟨rfl, N357q, K357c, R357_0, R357_1, R357_2⟩ := hQ357
        have N357 : Fr n0 L357 := by rw [l357]; exact Fr.app N352 N357q
        have Z357 : n0 ≤ T357.heap.size := Nat.le_trans Z352 K357c.1
        change Stand _ _ _ _ _ _ _ _ _ _ _ _ 12 31 at X357
        have hc111_7 : ¬ ((1 : Int32) = (0 : Int32)) := by decide
        have hc150_7 : (0 : Int32) = (0 : Int32) := by decide
        obtain ⟨T358, h358, X358, e358, E358, A358, D358, -, st358⟩ := newO X357 hx hZ hown (hw _ (List.mem_of_getElem? (i := 63) rfl)) (hw _ (List.mem_of_getElem? (i := 64) rfl)) (hw _ (List.mem_of_getElem? (i := 65) rfl)) rfl (g := (mkF m 162 #[.val (.int pp1), .val (.int pp2), .val (.int pp3), .val (.int pp4), .val (.int pp5), .val (.int (1 : Int32)), .val (.int (1 : Int32)), .val (.int (0 : Int32)), .val (.ref b336), .val (.ref b336), .val (.ref b343), .val (.ref b343), .val .null, .unset, .unset, .unset, .unset] [])) rfl (hb hby at_162) (by decide) (by decide)
        obtain ⟨b358, g358⟩ : ∃ z, z = T357.heap.size := ⟨_, rfl⟩
        rw [← g358] at A358 D358 st358
        have g_b358 : n0 ≤ b358 := Nat.le_trans Z357 (Nat.le_of_eq g358.symm)
        have Z358 : n0 ≤ h358.size := Nat.le_trans Z357 E358.1
        have F358_unit : Fld Z h358 b358 "com/example/outremer_engine/outremerengine/diplomacy/Order$SupportMove" "unit" "Lcom/example/outremer_engine/outremerengine/board/Unit;" .null := D358 (Or.inr (hw _ (List.mem_of_getElem? (i := 71) rfl))) (ty := (.object "com/example/outremer_engine/outremerengine/board/Unit")) (by decide)
        have F358_supportedType : Fld Z h358 b358 "com/example/outremer_engine/outremerengine/diplomacy/Order$SupportMove" "supportedType" "Ljava/util/Optional;" .null := D358 (Or.inr (hw _ (List.mem_of_getElem? (i := 73) rfl))) (ty := (.object "java/util/Optional")) (by decide)
        have F358_from : Fld Z h358 b358 "com/example/outremer_engine/outremerengine/diplomacy/Order$SupportMove" "from" "Lcom/example/outremer_engine/outremerengine/board/Place;" .null := D358 (Or.inr (hw _ (List.mem_of_getElem? (i := 75) rfl))) (ty := (.object "com/example/outremer_engine/outremerengine/board/Place")) (by decide)
        have F358_to : Fld Z h358 b358 "com/example/outremer_engine/outremerengine/diplomacy/Order$SupportMove" "to" "Lcom/example/outremer_engine/outremerengine/board/Place;" .null := D358 (Or.inr (hw _ (List.mem_of_getElem? (i := 77) rfl))) (ty := (.object "com/example/outremer_engine/outremerengine/board/Place")) (by decide)
        obtain ⟨_, _, ⟨T359, L359, k359, n359⟩, -, X359, ⟨Lc359, hQ359, l359, y359, z359⟩, st359⟩ := X358.specialBack hx (y := (⟨"com/example/outremer_engine/outremerengine/diplomacy/Order$SupportMove", "<init>", "(Lcom/example/outremer_engine/outremerengine/board/Unit;Ljava/util/Optional;Lcom/example/outremer_engine/outremerengine/board/Place;Lcom/example/outremer_engine/outremerengine/board/Place;)V"⟩ : MethodName)) rfl hown (mvT hZ (hw _ (List.mem_of_getElem? (i := 66) rfl))) (mvT hZ (hw _ (List.mem_of_getElem? (i := 67) rfl))) (mvT hZ (hw _ (List.mem_of_getElem? (i := 68) rfl))) (by decide) (backOf (W := 1) (rm11_n l Z a0 hw [] b358 b343 b336 b336 .null .null .null .null h358 n0 Z358 A358 g_b358 F358_unit F358_supportedType F358_from F358_to) hZ (hw _ (List.mem_of_getElem? (i := 68) rfl)) (hw _ (List.mem_of_getElem? (i := 65) rfl)) (by decide) (by decide)) (g := (mkF m 174 #[.val (.int pp1), .val (.int pp2), .val (.int pp3), .val (.int pp4), .val (.int pp5), .val (.int (1 : Int32)), .val (.int (1 : Int32)), .val (.int (0 : Int32)), .val (.ref b336), .val (.ref b336), .val (.ref b343), .val (.ref b343), .val .null, .unset, .unset, .unset, .unset] [(.ref b336), (.ref b336), .null, (.ref b343), (.ref b358), (.ref b358)])) rfl (by rw [hml]; rfl) (Steps.refl _) (a := b358) (argsL := [(.ref b343), .null, (.ref b336), (.ref b336)]) (rest := [(.ref b358)]) (lenOf pd__28_Lcom_2f_example_2f_outremer_engine_2f_outremerengine_2f_board_2f_Unit_3b_Ljava_2f_util_2f_Optional_3b_Lcom_2f_example_2f_outremer_engine_2f_outremerengine_2f_board_2f_Place_3b_Lcom_2f_example_2f_outremer_engine_2f_outremerengine_2f_board_2f_Place_3b__29_V rfl) rfl (by show 2 * 0 + _ ≤ _; exact Nat.le_of_eq rfl) (hb hby at_174) (fun _ _ => ⟨rfl, e358, (by decide : 13 + 0 ≤ _), (by decide : 35 + 0 ≤ _)⟩)
        dsimp only [Pt.U, Pt.locs, Pt.cells, Pt.slots] at X359 l359 y359 z359 st359 hQ359
        subst y359 z359
        obtain ⟨rfl, N359q, K359c, R359_0, R359_1, R359_2, R359_3⟩ := hQ359
        have N359 : Fr n0 L359 := by rw [l359]; exact Fr.app N357 N359q
        have Z359 : n0 ≤ T359.heap.size := Nat.le_trans Z358 K359c.1
        change Stand _ _ _ _ _ _ _ _ _ _ _ _ 13 35 at X359
        have E_361 : Exa Z T359.heap b358 "com/example/outremer_engine/outremerengine/diplomacy/Order$SupportMove" := (A358.keep K359c)
        obtain ⟨cq360, kq360, q360a, q360b, q360c⟩ := isOf hZ rfl E_361
        obtain ⟨_, _, ⟨T360, L360, k360, n360⟩, -, X360, ⟨Lc360, hQ360, l360, y360, z360⟩, st360⟩ := X359.virtualBack hx (y := (⟨"com/example/outremer_engine/outremerengine/diplomacy/Order$SupportMove", "givenTo", "(Lcom/example/outremer_engine/outremerengine/board/Unit;)Lcom/example/outremer_engine/outremerengine/diplomacy/Order$SupportMove;"⟩ : MethodName)) (z := (⟨"com/example/outremer_engine/outremerengine/diplomacy/Order$SupportMove", "givenTo", "(Lcom/example/outremer_engine/outremerengine/board/Unit;)Lcom/example/outremer_engine/outremerengine/diplomacy/Order$SupportMove;"⟩ : MethodName)) hown (mvT hZ (hw _ (List.mem_of_getElem? (i := 78) rfl))) (mvT hZ (hw _ (List.mem_of_getElem? (i := 79) rfl))) (notFace_of_selects (args := #[]) (mvT hZ (hw _ (List.mem_of_getElem? (i := 81) rfl)))) (mvT hZ (hw _ (List.mem_of_getElem? (i := 81) rfl))) (mvT hZ (hw _ (List.mem_of_getElem? (i := 80) rfl))) (by decide) (backOf (W := 0) (rm12_n l Z a0 hw [] b358 b343 b336 b336 T359.heap n0 Z359 R359_1 R359_2 R359_3) hZ (hw _ (List.mem_of_getElem? (i := 82) rfl)) (hw _ (List.mem_of_getElem? (i := 65) rfl)) (by decide) (by decide)) q360a q360c (g := (mkF m 183 #[.val (.int pp1), .val (.int pp2), .val (.int pp3), .val (.int pp4), .val (.int pp5), .val (.int (1 : Int32)), .val (.int (1 : Int32)), .val (.int (0 : Int32)), .val (.ref b336), .val (.ref b336), .val (.ref b343), .val (.ref b343), .val .null, .val (.ref b358), .unset, .unset, .unset] [(.ref b343), (.ref b358)])) rfl (by rw [hml]; rfl) (Steps.refl _) (argsL := [(.ref b343)]) (rest := []) (lenOf pd__28_Lcom_2f_example_2f_outremer_engine_2f_outremerengine_2f_board_2f_Unit_3b__29_Lcom_2f_example_2f_outremer_engine_2f_outremerengine_2f_diplomacy_2f_Order_24_SupportMove_3b_ rfl) rfl (by show 2 * 0 + _ ≤ _; exact Nat.le_of_eq rfl) (hb hby at_183) (fun _ _ => ⟨rfl, rfl, (by decide : 13 + 1 ≤ _), (by decide : 35 + 4 ≤ _)⟩)
        dsimp only [Pt.U, Pt.locs, Pt.cells, Pt.slots] at X360 l360 y360 z360 st360 hQ360
        subst y360 z360
        obtain ⟨bx_360, rfl, N360q, K360c, g_bx_360, sb_bx_360, R360_0, R360_1, R360_2, R360_3, R360_4⟩ := hQ360
        have N360 : Fr n0 L360 := by rw [l360]; exact Fr.app N359 N360q
        have Z360 : n0 ≤ T360.heap.size := Nat.le_trans Z359 K360c.1
        change Stand _ _ _ _ _ _ _ _ _ _ _ _ 14 39 at X360
        obtain ⟨cq362, kq362, q362a, q362b, q362c⟩ := isOf hZ rfl R360_0
        obtain ⟨_, _, ⟨T362, L362, k362, n362⟩, -, X362, ⟨Lc362, hQ362, l362, y362, z362⟩, st362⟩ := X360.virtualBack hx (y := (⟨"com/example/outremer_engine/outremerengine/diplomacy/Order$SupportMove", "unit", "()Lcom/example/outremer_engine/outremerengine/board/Unit;"⟩ : MethodName)) (z := (⟨"com/example/outremer_engine/outremerengine/diplomacy/Order$SupportMove", "unit", "()Lcom/example/outremer_engine/outremerengine/board/Unit;"⟩ : MethodName)) hown (mvT hZ (hw _ (List.mem_of_getElem? (i := 85) rfl))) (mvT hZ (hw _ (List.mem_of_getElem? (i := 86) rfl))) (notFace_of_selects (args := #[]) (mvT hZ (hw _ (List.mem_of_getElem? (i := 88) rfl)))) (mvT hZ (hw _ (List.mem_of_getElem? (i := 88) rfl))) (mvT hZ (hw _ (List.mem_of_getElem? (i := 87) rfl))) (by decide) (backOf (W := 0) (rm13 l Z a0 hw [] bx_360 b343 T360.heap n0 Z360 R360_1) hZ (hw _ (List.mem_of_getElem? (i := 89) rfl)) (hw _ (List.mem_of_getElem? (i := 65) rfl)) (by decide) (by decide)) q362a q362c (g := (mkF m 197 #[.val (.int pp1), .val (.int pp2), .val (.int pp3), .val (.int pp4), .val (.int pp5), .val (.int (1 : Int32)), .val (.int (1 : Int32)), .val (.int (0 : Int32)), .val (.ref b336), .val (.ref b336), .val (.ref b343), .val (.ref b343), .val .null, .val (.ref b358), .val (.ref bx_360), .unset, .unset] [(.ref bx_360)])) rfl (by rw [hml]; rfl) (Steps.refl _) (argsL := []) (rest := []) (lenOf pd__28__29_Lcom_2f_example_2f_outremer_engine_2f_outremerengine_2f_board_2f_Unit_3b_ rfl) rfl (by show 2 * 0 + _ ≤ _; exact Nat.le_of_eq rfl) (hb hby at_197) (fun _ _ => ⟨rfl, rfl, (by decide : 14 + 0 ≤ _), (by decide : 39 + 0 ≤ _)⟩)
        dsimp only [Pt.U, Pt.locs, Pt.cells, Pt.slots] at X362 l362 y362 z362 st362 hQ362
        subst y362 z362
        obtain ⟨rfl, N362q, e362⟩ := hQ362
        have N362 : Fr n0 L362 := by rw [l362]; exact Fr.app N360 N362q
        change Stand _ _ _ _ _ _ _ _ _ _ _ _ 14 39 at X362
        obtain ⟨cq363, kq363, q363a, q363b, q363c⟩ := isOf hZ e362 R360_0
        obtain ⟨_, _, ⟨T363, L363, k363, n363⟩, -, X363, ⟨Lc363, hQ363, l363, y363, z363⟩, st363⟩ := X362.virtualBack hx (y := (⟨"com/example/outremer_engine/outremerengine/diplomacy/Order$SupportMove", "supportedType", "()Ljava/util/Optional;"⟩ : MethodName)) (z := (⟨"com/example/outremer_engine/outremerengine/diplomacy/Order$SupportMove", "supportedType", "()Ljava/util/Optional;"⟩ : MethodName)) hown (mvT hZ (hw _ (List.mem_of_getElem? (i := 90) rfl))) (mvT hZ (hw _ (List.mem_of_getElem? (i := 91) rfl))) (notFace_of_selects (args := #[]) (mvT hZ (hw _ (List.mem_of_getElem? (i := 93) rfl)))) (mvT hZ (hw _ (List.mem_of_getElem? (i := 93) rfl))) (mvT hZ (hw _ (List.mem_of_getElem? (i := 92) rfl))) (by decide) (backOf (W := 0) (rm14_n l Z a0 hw [] bx_360 T360.heap n0 Z360 R360_2) hZ (hw _ (List.mem_of_getElem? (i := 94) rfl)) (hw _ (List.mem_of_getElem? (i := 65) rfl)) (by decide) (by decide)) q363a q363c (g := (mkF m 207 #[.val (.int pp1), .val (.int pp2), .val (.int pp3), .val (.int pp4), .val (.int pp5), .val (.int (1 : Int32)), .val (.int (1 : Int32)), .val (.int (0 : Int32)), .val (.ref b336), .val (.ref b336), .val (.ref b343), .val (.ref b343), .val .null, .val (.ref b358), .val (.ref bx_360), .unset, .unset] [(.ref bx_360)])) rfl (by rw [hml]; rfl) (Steps.refl _) (argsL := []) (rest := []) (lenOf pd__28__29_Ljava_2f_util_2f_Optional_3b_ rfl) rfl (by show 2 * 0 + _ ≤ _; exact Nat.le_of_eq rfl) (hb hby at_207) (fun _ _ => ⟨rfl, e362, (by decide : 14 + 0 ≤ _), (by decide : 39 + 0 ≤ _)⟩)
        dsimp only [Pt.U, Pt.locs, Pt.cells, Pt.slots] at X363 l363 y363 z363 st363 hQ363
        subst y363 z363
        obtain ⟨rfl, N363q, e363⟩ := hQ363
        have N363 : Fr n0 L363 := by rw [l363]; exact Fr.app N362 N363q
        change Stand _ _ _ _ _ _ _ _ _ _ _ _ 14 39 at X363
        obtain ⟨cq364, kq364, q364a, q364b, q364c⟩ := isOf hZ e363 R360_0
        obtain ⟨_, _, ⟨T364, L364, k364, n364⟩, -, X364, ⟨Lc364, hQ364, l364, y364, z364⟩, st364⟩ := X363.virtualBack hx (y := (⟨"com/example/outremer_engine/outremerengine/diplomacy/Order$SupportMove", "from", "()Lcom/example/outremer_engine/outremerengine/board/Place;"⟩ : MethodName)) (z := (⟨"com/example/outremer_engine/outremerengine/diplomacy/Order$SupportMove", "from", "()Lcom/example/outremer_engine/outremerengine/board/Place;"⟩ : MethodName)) hown (mvT hZ (hw _ (List.mem_of_getElem? (i := 95) rfl))) (mvT hZ (hw _ (List.mem_of_getElem? (i := 96) rfl))) (notFace_of_selects (args := #[]) (mvT hZ (hw _ (List.mem_of_getElem? (i := 98) rfl)))) (mvT hZ (hw _ (List.mem_of_getElem? (i := 98) rfl))) (mvT hZ (hw _ (List.mem_of_getElem? (i := 97) rfl))) (by decide) (backOf (W := 0) (rm15 l Z a0 hw [] bx_360 b336 T360.heap n0 Z360 R360_3) hZ (hw _ (List.mem_of_getElem? (i := 99) rfl)) (hw _ (List.mem_of_getElem? (i := 65) rfl)) (by decide) (by decide)) q364a q364c (g := (mkF m 217 #[.val (.int pp1), .val (.int pp2), .val (.int pp3), .val (.int pp4), .val (.int pp5), .val (.int (1 : Int32)), .val (.int (1 : Int32)), .val (.int (0 : Int32)), .val (.ref b336), .val (.ref b336), .val (.ref b343), .val (.ref b343), .val .null, .val (.ref b358), .val (.ref bx_360), .unset, .unset] [(.ref bx_360)])) rfl (by rw [hml]; rfl) (Steps.refl _) (argsL := []) (rest := []) (lenOf pd__28__29_Lcom_2f_example_2f_outremer_engine_2f_outremerengine_2f_board_2f_Place_3b_ rfl) rfl (by show 2 * 0 + _ ≤ _; exact Nat.le_of_eq rfl) (hb hby at_217) (fun _ _ => ⟨rfl, e363, (by decide : 14 + 0 ≤ _), (by decide : 39 + 0 ≤ _)⟩)
        dsimp only [Pt.U, Pt.locs, Pt.cells, Pt.slots] at X364 l364 y364 z364 st364 hQ364
        subst y364 z364
        obtain ⟨rfl, N364q, e364⟩ := hQ364
        have N364 : Fr n0 L364 := by rw [l364]; exact Fr.app N363 N364q
        change Stand _ _ _ _ _ _ _ _ _ _ _ _ 14 39 at X364
        obtain ⟨cq365, kq365, q365a, q365b, q365c⟩ := isOf hZ e364 R360_0
        obtain ⟨_, _, ⟨T365, L365, k365, n365⟩, -, X365, ⟨Lc365, hQ365, l365, y365, z365⟩, st365⟩ := X364.virtualBack hx (y := (⟨"com/example/outremer_engine/outremerengine/diplomacy/Order$SupportMove", "to", "()Lcom/example/outremer_engine/outremerengine/board/Place;"⟩ : MethodName)) (z := (⟨"com/example/outremer_engine/outremerengine/diplomacy/Order$SupportMove", "to", "()Lcom/example/outremer_engine/outremerengine/board/Place;"⟩ : MethodName)) hown (mvT hZ (hw _ (List.mem_of_getElem? (i := 100) rfl))) (mvT hZ (hw _ (List.mem_of_getElem? (i := 101) rfl))) (notFace_of_selects (args := #[]) (mvT hZ (hw _ (List.mem_of_getElem? (i := 103) rfl)))) (mvT hZ (hw _ (List.mem_of_getElem? (i := 103) rfl))) (mvT hZ (hw _ (List.mem_of_getElem? (i := 102) rfl))) (by decide) (backOf (W := 0) (rm16 l Z a0 hw [] bx_360 b336 T360.heap n0 Z360 R360_4) hZ (hw _ (List.mem_of_getElem? (i := 104) rfl)) (hw _ (List.mem_of_getElem? (i := 65) rfl)) (by decide) (by decide)) q365a q365c (g := (mkF m 227 #[.val (.int pp1), .val (.int pp2), .val (.int pp3), .val (.int pp4), .val (.int pp5), .val (.int (1 : Int32)), .val (.int (1 : Int32)), .val (.int (0 : Int32)), .val (.ref b336), .val (.ref b336), .val (.ref b343), .val (.ref b343), .val .null, .val (.ref b358), .val (.ref bx_360), .unset, .unset] [(.ref bx_360)])) rfl (by rw [hml]; rfl) (Steps.refl _) (argsL := []) (rest := []) (lenOf pd__28__29_Lcom_2f_example_2f_outremer_engine_2f_outremerengine_2f_board_2f_Place_3b_ rfl) rfl (by show 2 * 0 + _ ≤ _; exact Nat.le_of_eq rfl) (hb hby at_227) (fun _ _ => ⟨rfl, e364, (by decide : 14 + 0 ≤ _), (by decide : 39 + 0 ≤ _)⟩)
        dsimp only [Pt.U, Pt.locs, Pt.cells, Pt.slots] at X365 l365 y365 z365 st365 hQ365
        subst y365 z365
        obtain ⟨rfl, N365q, e365⟩ := hQ365
        have N365 : Fr n0 L365 := by rw [l365]; exact Fr.app N364 N365q
        change Stand _ _ _ _ _ _ _ _ _ _ _ _ 14 39 at X365
        have F_366 : Fld Z T360.heap b358 "com/example/outremer_engine/outremerengine/diplomacy/Order$SupportMove" "unit" "Lcom/example/outremer_engine/outremerengine/board/Unit;" (.ref b343) := (R359_0.keep K360c nin0)
        have E_368 : Exa Z T360.heap b358 "com/example/outremer_engine/outremerengine/diplomacy/Order$SupportMove" := (E_361.keep K360c)
        obtain ⟨cq367, kq367, q367a, q367b, q367c⟩ := isOf hZ e365 E_368
        obtain ⟨_, _, ⟨T367, L367, k367, n367⟩, -, X367, ⟨Lc367, hQ367, l367, y367, z367⟩, st367⟩ := X365.virtualBack hx (y := (⟨"com/example/outremer_engine/outremerengine/diplomacy/Order$SupportMove", "unit", "()Lcom/example/outremer_engine/outremerengine/board/Unit;"⟩ : MethodName)) (z := (⟨"com/example/outremer_engine/outremerengine/diplomacy/Order$SupportMove", "unit", "()Lcom/example/outremer_engine/outremerengine/board/Unit;"⟩ : MethodName)) hown (mvT hZ (hw _ (List.mem_of_getElem? (i := 85) rfl))) (mvT hZ (hw _ (List.mem_of_getElem? (i := 86) rfl))) (notFace_of_selects (args := #[]) (mvT hZ (hw _ (List.mem_of_getElem? (i := 88) rfl)))) (mvT hZ (hw _ (List.mem_of_getElem? (i := 88) rfl))) (mvT hZ (hw _ (List.mem_of_getElem? (i := 87) rfl))) (by decide) (backOf (W := 0) (rm13 l Z a0 hw [] b358 b343 T360.heap n0 Z360 F_366) hZ (hw _ (List.mem_of_getElem? (i := 89) rfl)) (hw _ (List.mem_of_getElem? (i := 65) rfl)) (by decide) (by decide)) q367a q367c (g := (mkF m 244 #[.val (.int pp1), .val (.int pp2), .val (.int pp3), .val (.int pp4), .val (.int pp5), .val (.int (1 : Int32)), .val (.int (1 : Int32)), .val (.int (0 : Int32)), .val (.ref b336), .val (.ref b336), .val (.ref b343), .val (.ref b343), .val .null, .val (.ref b358), .val (.ref bx_360), .val (.int (1 : Int32)), .unset] [(.ref b358)])) rfl (by rw [hml]; rfl) (Steps.refl _) (argsL := []) (rest := []) (lenOf pd__28__29_Lcom_2f_example_2f_outremer_engine_2f_outremerengine_2f_board_2f_Unit_3b_ rfl) rfl (by show 2 * 0 + _ ≤ _; exact Nat.le_of_eq rfl) (hb hby at_244) (fun _ _ => ⟨rfl, e365, (by decide : 14 + 0 ≤ _), (by decide : 39 + 0 ≤ _)⟩)
        dsimp only [Pt.U, Pt.locs, Pt.cells, Pt.slots] at X367 l367 y367 z367 st367 hQ367
        subst y367 z367
        obtain ⟨rfl, N367q, e367⟩ := hQ367
        have N367 : Fr n0 L367 := by rw [l367]; exact Fr.app N365 N367q
        change Stand _ _ _ _ _ _ _ _ _ _ _ _ 14 39 at X367
        have F_369 : Fld Z T360.heap b358 "com/example/outremer_engine/outremerengine/diplomacy/Order$SupportMove" "supportedType" "Ljava/util/Optional;" .null := (R359_1.keep K360c nin0)
        obtain ⟨cq370, kq370, q370a, q370b, q370c⟩ := isOf hZ e367 E_368
        obtain ⟨_, _, ⟨T370, L370, k370, n370⟩, -, X370, ⟨Lc370, hQ370, l370, y370, z370⟩, st370⟩ := X367.virtualBack hx (y := (⟨"com/example/outremer_engine/outremerengine/diplomacy/Order$SupportMove", "supportedType", "()Ljava/util/Optional;"⟩ : MethodName)) (z := (⟨"com/example/outremer_engine/outremerengine/diplomacy/Order$SupportMove", "supportedType", "()Ljava/util/Optional;"⟩ : MethodName)) hown (mvT hZ (hw _ (List.mem_of_getElem? (i := 90) rfl))) (mvT hZ (hw _ (List.mem_of_getElem? (i := 91) rfl))) (notFace_of_selects (args := #[]) (mvT hZ (hw _ (List.mem_of_getElem? (i := 93) rfl)))) (mvT hZ (hw _ (List.mem_of_getElem? (i := 93) rfl))) (mvT hZ (hw _ (List.mem_of_getElem? (i := 92) rfl))) (by decide) (backOf (W := 0) (rm14_n l Z a0 hw [] b358 T360.heap n0 Z360 F_369) hZ (hw _ (List.mem_of_getElem? (i := 94) rfl)) (hw _ (List.mem_of_getElem? (i := 65) rfl)) (by decide) (by decide)) q370a q370c (g := (mkF m 254 #[.val (.int pp1), .val (.int pp2), .val (.int pp3), .val (.int pp4), .val (.int pp5), .val (.int (1 : Int32)), .val (.int (1 : Int32)), .val (.int (0 : Int32)), .val (.ref b336), .val (.ref b336), .val (.ref b343), .val (.ref b343), .val .null, .val (.ref b358), .val (.ref bx_360), .val (.int (1 : Int32)), .unset] [(.ref b358)])) rfl (by rw [hml]; rfl) (Steps.refl _) (argsL := []) (rest := []) (lenOf pd__28__29_Ljava_2f_util_2f_Optional_3b_ rfl) rfl (by show 2 * 0 + _ ≤ _; exact Nat.le_of_eq rfl) (hb hby at_254) (fun _ _ => ⟨rfl, e367, (by decide : 14 + 0 ≤ _), (by decide : 39 + 0 ≤ _)⟩)
        dsimp only [Pt.U, Pt.locs, Pt.cells, Pt.slots] at X370 l370 y370 z370 st370 hQ370
        subst y370 z370
        obtain ⟨rfl, N370q, e370⟩ := hQ370
        have N370 : Fr n0 L370 := by rw [l370]; exact Fr.app N367 N370q
        change Stand _ _ _ _ _ _ _ _ _ _ _ _ 14 39 at X370
        have F_371 : Fld Z T360.heap b358 "com/example/outremer_engine/outremerengine/diplomacy/Order$SupportMove" "from" "Lcom/example/outremer_engine/outremerengine/board/Place;" (.ref b336) := (R359_2.keep K360c nin0)
        obtain ⟨cq372, kq372, q372a, q372b, q372c⟩ := isOf hZ e370 E_368
        obtain ⟨_, _, ⟨T372, L372, k372, n372⟩, -, X372, ⟨Lc372, hQ372, l372, y372, z372⟩, st372⟩ := X370.virtualBack hx (y := (⟨"com/example/outremer_engine/outremerengine/diplomacy/Order$SupportMove", "from", "()Lcom/example/outremer_engine/outremerengine/board/Place;"⟩ : MethodName)) (z := (⟨"com/example/outremer_engine/outremerengine/diplomacy/Order$SupportMove", "from", "()Lcom/example/outremer_engine/outremerengine/board/Place;"⟩ : MethodName)) hown (mvT hZ (hw _ (List.mem_of_getElem? (i := 95) rfl))) (mvT hZ (hw _ (List.mem_of_getElem? (i := 96) rfl))) (notFace_of_selects (args := #[]) (mvT hZ (hw _ (List.mem_of_getElem? (i := 98) rfl)))) (mvT hZ (hw _ (List.mem_of_getElem? (i := 98) rfl))) (mvT hZ (hw _ (List.mem_of_getElem? (i := 97) rfl))) (by decide) (backOf (W := 0) (rm15 l Z a0 hw [] b358 b336 T360.heap n0 Z360 F_371) hZ (hw _ (List.mem_of_getElem? (i := 99) rfl)) (hw _ (List.mem_of_getElem? (i := 65) rfl)) (by decide) (by decide)) q372a q372c (g := (mkF m 264 #[.val (.int pp1), .val (.int pp2), .val (.int pp3), .val (.int pp4), .val (.int pp5), .val (.int (1 : Int32)), .val (.int (1 : Int32)), .val (.int (0 : Int32)), .val (.ref b336), .val (.ref b336), .val (.ref b343), .val (.ref b343), .val .null, .val (.ref b358), .val (.ref bx_360), .val (.int (1 : Int32)), .unset] [(.ref b358)])) rfl (by rw [hml]; rfl) (Steps.refl _) (argsL := []) (rest := []) (lenOf pd__28__29_Lcom_2f_example_2f_outremer_engine_2f_outremerengine_2f_board_2f_Place_3b_ rfl) rfl (by show 2 * 0 + _ ≤ _; exact Nat.le_of_eq rfl) (hb hby at_264) (fun _ _ => ⟨rfl, e370, (by decide : 14 + 0 ≤ _), (by decide : 39 + 0 ≤ _)⟩)
        dsimp only [Pt.U, Pt.locs, Pt.cells, Pt.slots] at X372 l372 y372 z372 st372 hQ372
        subst y372 z372
        obtain ⟨rfl, N372q, e372⟩ := hQ372
        have N372 : Fr n0 L372 := by rw [l372]; exact Fr.app N370 N372q
        change Stand _ _ _ _ _ _ _ _ _ _ _ _ 14 39 at X372
        have F_373 : Fld Z T360.heap b358 "com/example/outremer_engine/outremerengine/diplomacy/Order$SupportMove" "to" "Lcom/example/outremer_engine/outremerengine/board/Place;" (.ref b336) := (R359_3.keep K360c nin0)
        obtain ⟨cq374, kq374, q374a, q374b, q374c⟩ := isOf hZ e372 E_368
        obtain ⟨_, _, ⟨T374, L374, k374, n374⟩, -, X374, ⟨Lc374, hQ374, l374, y374, z374⟩, st374⟩ := X372.virtualBack hx (y := (⟨"com/example/outremer_engine/outremerengine/diplomacy/Order$SupportMove", "to", "()Lcom/example/outremer_engine/outremerengine/board/Place;"⟩ : MethodName)) (z := (⟨"com/example/outremer_engine/outremerengine/diplomacy/Order$SupportMove", "to", "()Lcom/example/outremer_engine/outremerengine/board/Place;"⟩ : MethodName)) hown (mvT hZ (hw _ (List.mem_of_getElem? (i := 100) rfl))) (mvT hZ (hw _ (List.mem_of_getElem? (i := 101) rfl))) (notFace_of_selects (args := #[]) (mvT hZ (hw _ (List.mem_of_getElem? (i := 103) rfl)))) (mvT hZ (hw _ (List.mem_of_getElem? (i := 103) rfl))) (mvT hZ (hw _ (List.mem_of_getElem? (i := 102) rfl))) (by decide) (backOf (W := 0) (rm16 l Z a0 hw [] b358 b336 T360.heap n0 Z360 F_373) hZ (hw _ (List.mem_of_getElem? (i := 104) rfl)) (hw _ (List.mem_of_getElem? (i := 65) rfl)) (by decide) (by decide)) q374a q374c (g := (mkF m 274 #[.val (.int pp1), .val (.int pp2), .val (.int pp3), .val (.int pp4), .val (.int pp5), .val (.int (1 : Int32)), .val (.int (1 : Int32)), .val (.int (0 : Int32)), .val (.ref b336), .val (.ref b336), .val (.ref b343), .val (.ref b343), .val .null, .val (.ref b358), .val (.ref bx_360), .val (.int (1 : Int32)), .unset] [(.ref b358)])) rfl (by rw [hml]; rfl) (Steps.refl _) (argsL := []) (rest := []) (lenOf pd__28__29_Lcom_2f_example_2f_outremer_engine_2f_outremerengine_2f_board_2f_Place_3b_ rfl) rfl (by show 2 * 0 + _ ≤ _; exact Nat.le_of_eq rfl) (hb hby at_274) (fun _ _ => ⟨rfl, e372, (by decide : 14 + 0 ≤ _), (by decide : 39 + 0 ≤ _)⟩)
        dsimp only [Pt.U, Pt.locs, Pt.cells, Pt.slots] at X374 l374 y374 z374 st374 hQ374
        subst y374 z374
        obtain ⟨rfl, N374q, e374⟩ := hQ374
        have N374 : Fr n0 L374 := by rw [l374]; exact Fr.app N372 N374q
        change Stand _ _ _ _ _ _ _ _ _ _ _ _ 14 39 at X374
        have hc291_7 : ¬ ((1 : Int32) = (0 : Int32)) := by decide
        have hc296_7 : ¬ ((1 : Int32) = (0 : Int32)) := by decide
        obtain ⟨fs, hr, hrun, hended, hW, hsame⟩ := X374.leave (v := some (.int (1 : Int32))) (fun h => by rw [Bd.returns] at h; cases h)
        refine ⟨_, _, pre335 _ ?_, hrun, hended, _, _, rfl, ?_, ⟨_, rfl⟩, hW, hsame.mono (by decide) (by decide)⟩
        · show Steps p.tables e below (s₁.setTop (mkF m 32 #[.val (.int pp1), .val (.int pp2), .val (.int pp3), .val (.int pp4), .val (.int pp5), .val (.int (1 : Int32)), .val (.int (1 : Int32)), .unset, .unset, .unset, .unset, .unset, .unset, .unset, .unset, .unset, .unset] [(.int (pp5 &&& (4 : Int32)))])) _
          refine XS.ifYes X0.here hx rfl (pc0 := 32) (pc' := 39) rfl (hb hby at_32) rfl ((if0 _ _).trans (teq hc32_4).1) (by decide) (by decide) ?_
          refine XS.iconst X0.here hx rfl (hb hby at_39) ?_
          refine XS.istore X0.here hx rfl (hb hby at_40) rfl (l' := #[.val (.int pp1), .val (.int pp2), .val (.int pp3), .val (.int pp4), .val (.int pp5), .val (.int (1 : Int32)), .val (.int (1 : Int32)), .val (.int (0 : Int32)), .unset, .unset, .unset, .unset, .unset, .unset, .unset, .unset, .unset]) rfl ?_
          refine st336 _ ?_
          refine XS.dup X336.here hx rfl (hb hby at_45) rfl rfl ?_
          refine XS.aconstNull X336.here hx rfl (hb hby at_46) ?_
          refine XS.iloadN X336.here hx rfl (hb hby at_47) rfl ?_
          refine st338 _ ?_
          refine st342.trans ?_
          refine XS.astore X342.here hx rfl (hb hby at_54) rfl rfl (l' := #[.val (.int pp1), .val (.int pp2), .val (.int pp3), .val (.int pp4), .val (.int pp5), .val (.int (1 : Int32)), .val (.int (1 : Int32)), .val (.int (0 : Int32)), .val (.ref b336), .unset, .unset, .unset, .unset, .unset, .unset, .unset, .unset]) rfl ?_
          refine XS.iload X342.here hx rfl (hb hby at_56) rfl ?_
          refine XS.ifNo X342.here hx rfl (hb hby at_58) rfl ((if0 _ _).trans (feq hc58_7).1) ?_
          refine XS.aload X342.here hx rfl (hb hby at_61) rfl rfl ?_
          refine XS.goto X342.here hx rfl (pc0 := 63) (pc' := 78) rfl (hb hby at_63) (by decide) (by decide) ?_
          refine XS.astore X342.here hx rfl (hb hby at_78) rfl rfl (l' := #[.val (.int pp1), .val (.int pp2), .val (.int pp3), .val (.int pp4), .val (.int pp5), .val (.int (1 : Int32)), .val (.int (1 : Int32)), .val (.int (0 : Int32)), .val (.ref b336), .val (.ref b336), .unset, .unset, .unset, .unset, .unset, .unset, .unset]) rfl ?_
          refine st343 _ ?_
          refine XS.dup X343.here hx rfl (hb hby at_83) rfl rfl ?_
          refine XS.iloadN X343.here hx rfl (hb hby at_84) rfl ?_
          refine st345 _ ?_
          refine XS.aconstNull X345.here hx rfl (hb hby at_88) ?_
          refine st346 _ ?_
          refine XS.dup X346.here hx rfl (hb hby at_92) rfl rfl ?_
          refine XS.aconstNull X346.here hx rfl (hb hby at_93) ?_
          refine XS.iloadN X346.here hx rfl (hb hby at_94) rfl ?_
          refine XS.bipush X346.here hx rfl (hb hby at_95) ?_
          refine XS.iushr X346.here hx rfl (hb hby at_97) rfl ?_
          refine st348 _ ?_
          refine st352.trans ?_
          refine st357.trans ?_
          refine XS.astore X357.here hx rfl (hb hby at_107) rfl rfl (l' := #[.val (.int pp1), .val (.int pp2), .val (.int pp3), .val (.int pp4), .val (.int pp5), .val (.int (1 : Int32)), .val (.int (1 : Int32)), .val (.int (0 : Int32)), .val (.ref b336), .val (.ref b336), .val (.ref b343), .unset, .unset, .unset, .unset, .unset, .unset]) rfl ?_
          refine XS.iload X357.here hx rfl (hb hby at_109) rfl ?_
          refine XS.ifNo X357.here hx rfl (hb hby at_111) rfl ((if0 _ _).trans (feq hc111_7).1) ?_
          refine XS.aload X357.here hx rfl (hb hby at_114) rfl rfl ?_
          refine XS.goto X357.here hx rfl (pc0 := 116) (pc' := 146) rfl (hb hby at_116) (by decide) (by decide) ?_
          refine XS.astore X357.here hx rfl (hb hby at_146) rfl rfl (l' := #[.val (.int pp1), .val (.int pp2), .val (.int pp3), .val (.int pp4), .val (.int pp5), .val (.int (1 : Int32)), .val (.int (1 : Int32)), .val (.int (0 : Int32)), .val (.ref b336), .val (.ref b336), .val (.ref b343), .val (.ref b343), .unset, .unset, .unset, .unset, .unset]) rfl ?_
          refine XS.iload X357.here hx rfl (hb hby at_148) rfl ?_
          refine XS.ifYes X357.here hx rfl (pc0 := 150) (pc' := 159) rfl (hb hby at_150) rfl ((if0 _ _).trans (teq hc150_7).1) (by decide) (by decide) ?_
          refine XS.aconstNull X357.here hx rfl (hb hby at_159) ?_
          refine XS.astore X357.here hx rfl (hb hby at_160) rfl rfl (l' := #[.val (.int pp1), .val (.int pp2), .val (.int pp3), .val (.int pp4), .val (.int pp5), .val (.int (1 : Int32)), .val (.int (1 : Int32)), .val (.int (0 : Int32)), .val (.ref b336), .val (.ref b336), .val (.ref b343), .val (.ref b343), .val .null, .unset, .unset, .unset, .unset]) rfl ?_
          refine st358 _ ?_
          refine XS.dup X358.here hx rfl (hb hby at_165) rfl rfl ?_
          refine XS.aload X358.here hx rfl (hb hby at_166) rfl rfl ?_
          refine XS.aload X358.here hx rfl (hb hby at_168) rfl rfl ?_
          refine XS.aload X358.here hx rfl (hb hby at_170) rfl rfl ?_
          refine XS.aload X358.here hx rfl (hb hby at_172) rfl rfl ?_
          refine st359.trans ?_
          refine XS.astore X359.here hx rfl (hb hby at_177) rfl rfl (l' := #[.val (.int pp1), .val (.int pp2), .val (.int pp3), .val (.int pp4), .val (.int pp5), .val (.int (1 : Int32)), .val (.int (1 : Int32)), .val (.int (0 : Int32)), .val (.ref b336), .val (.ref b336), .val (.ref b343), .val (.ref b343), .val .null, .val (.ref b358), .unset, .unset, .unset]) rfl ?_
          refine XS.aload X359.here hx rfl (hb hby at_179) rfl rfl ?_
          refine XS.aload X359.here hx rfl (hb hby at_181) rfl rfl ?_
          refine st360.trans ?_
          refine XS.astore X360.here hx rfl (hb hby at_186) rfl rfl (l' := #[.val (.int pp1), .val (.int pp2), .val (.int pp3), .val (.int pp4), .val (.int pp5), .val (.int (1 : Int32)), .val (.int (1 : Int32)), .val (.int (0 : Int32)), .val (.ref b336), .val (.ref b336), .val (.ref b343), .val (.ref b343), .val .null, .val (.ref b358), .val (.ref bx_360), .unset, .unset]) rfl ?_
          refine XS.aload X360.here hx rfl (hb hby at_188) rfl rfl ?_
          refine XS.ifnonnullYes X360.here hx rfl (pc0 := 190) (pc' := 195) rfl (hb hby at_190) rfl (by decide) (by decide) ?_
          refine XS.aload X360.here hx rfl (hb hby at_195) rfl rfl ?_
          refine st362.trans ?_
          refine XS.aload X362.here hx rfl (hb hby at_200) rfl rfl ?_
          refine Jvm.RoadKit.acmp (g := (mkF m 202 #[.val (.int pp1), .val (.int pp2), .val (.int pp3), .val (.int pp4), .val (.int pp5), .val (.int (1 : Int32)), .val (.int (1 : Int32)), .val (.int (0 : Int32)), .val (.ref b336), .val (.ref b336), .val (.ref b343), .val (.ref b343), .val .null, .val (.ref b358), .val (.ref bx_360), .unset, .unset] [(.ref b343), (.ref b343)])) X362 hx rfl rfl rfl (pc0 := 202) (pc' := 205) (same := true) rfl (hb hby at_202) rfl (decide_eq_true rfl) (by decide) (by decide) ?_
          refine XS.aload X362.here hx rfl (hb hby at_205) rfl rfl ?_
          refine st363.trans ?_
          refine XS.aload X363.here hx rfl (hb hby at_210) rfl rfl ?_
          refine Jvm.RoadKit.acmp (g := (mkF m 212 #[.val (.int pp1), .val (.int pp2), .val (.int pp3), .val (.int pp4), .val (.int pp5), .val (.int (1 : Int32)), .val (.int (1 : Int32)), .val (.int (0 : Int32)), .val (.ref b336), .val (.ref b336), .val (.ref b343), .val (.ref b343), .val .null, .val (.ref b358), .val (.ref bx_360), .unset, .unset] [.null, .null])) X363 hx rfl rfl rfl (pc0 := 212) (pc' := 215) (same := true) rfl (hb hby at_212) rfl (decide_eq_true rfl) (by decide) (by decide) ?_
          refine XS.aload X363.here hx rfl (hb hby at_215) rfl rfl ?_
          refine st364.trans ?_
          refine XS.aload X364.here hx rfl (hb hby at_220) rfl rfl ?_
          refine Jvm.RoadKit.acmp (g := (mkF m 222 #[.val (.int pp1), .val (.int pp2), .val (.int pp3), .val (.int pp4), .val (.int pp5), .val (.int (1 : Int32)), .val (.int (1 : Int32)), .val (.int (0 : Int32)), .val (.ref b336), .val (.ref b336), .val (.ref b343), .val (.ref b343), .val .null, .val (.ref b358), .val (.ref bx_360), .unset, .unset] [(.ref b336), (.ref b336)])) X364 hx rfl rfl rfl (pc0 := 222) (pc' := 225) (same := true) rfl (hb hby at_222) rfl (decide_eq_true rfl) (by decide) (by decide) ?_
          refine XS.aload X364.here hx rfl (hb hby at_225) rfl rfl ?_
          refine st365.trans ?_
          refine XS.aload X365.here hx rfl (hb hby at_230) rfl rfl ?_
          refine Jvm.RoadKit.acmp (g := (mkF m 232 #[.val (.int pp1), .val (.int pp2), .val (.int pp3), .val (.int pp4), .val (.int pp5), .val (.int (1 : Int32)), .val (.int (1 : Int32)), .val (.int (0 : Int32)), .val (.ref b336), .val (.ref b336), .val (.ref b343), .val (.ref b343), .val .null, .val (.ref b358), .val (.ref bx_360), .unset, .unset] [(.ref b336), (.ref b336)])) X365 hx rfl rfl rfl (pc0 := 232) (pc' := 235) (same := true) rfl (hb hby at_232) rfl (decide_eq_true rfl) (by decide) (by decide) ?_
          refine XS.iconst X365.here hx rfl (hb hby at_235) ?_
          refine XS.goto X365.here hx rfl (pc0 := 236) (pc' := 240) rfl (hb hby at_236) (by decide) (by decide) ?_
          refine XS.istore X365.here hx rfl (hb hby at_240) rfl (l' := #[.val (.int pp1), .val (.int pp2), .val (.int pp3), .val (.int pp4), .val (.int pp5), .val (.int (1 : Int32)), .val (.int (1 : Int32)), .val (.int (0 : Int32)), .val (.ref b336), .val (.ref b336), .val (.ref b343), .val (.ref b343), .val .null, .val (.ref b358), .val (.ref bx_360), .val (.int (1 : Int32)), .unset]) rfl ?_
          refine XS.aload X365.here hx rfl (hb hby at_242) rfl rfl ?_
          refine st367.trans ?_
          refine XS.aload X367.here hx rfl (hb hby at_247) rfl rfl ?_
          refine Jvm.RoadKit.acmp (g := (mkF m 249 #[.val (.int pp1), .val (.int pp2), .val (.int pp3), .val (.int pp4), .val (.int pp5), .val (.int (1 : Int32)), .val (.int (1 : Int32)), .val (.int (0 : Int32)), .val (.ref b336), .val (.ref b336), .val (.ref b343), .val (.ref b343), .val .null, .val (.ref b358), .val (.ref bx_360), .val (.int (1 : Int32)), .unset] [(.ref b343), (.ref b343)])) X367 hx rfl rfl rfl (pc0 := 249) (pc' := 252) (same := true) rfl (hb hby at_249) rfl (decide_eq_true rfl) (by decide) (by decide) ?_
          refine XS.aload X367.here hx rfl (hb hby at_252) rfl rfl ?_
          refine st370.trans ?_
          refine XS.aload X370.here hx rfl (hb hby at_257) rfl rfl ?_
          refine Jvm.RoadKit.acmp (g := (mkF m 259 #[.val (.int pp1), .val (.int pp2), .val (.int pp3), .val (.int pp4), .val (.int pp5), .val (.int (1 : Int32)), .val (.int (1 : Int32)), .val (.int (0 : Int32)), .val (.ref b336), .val (.ref b336), .val (.ref b343), .val (.ref b343), .val .null, .val (.ref b358), .val (.ref bx_360), .val (.int (1 : Int32)), .unset] [.null, .null])) X370 hx rfl rfl rfl (pc0 := 259) (pc' := 262) (same := true) rfl (hb hby at_259) rfl (decide_eq_true rfl) (by decide) (by decide) ?_
          refine XS.aload X370.here hx rfl (hb hby at_262) rfl rfl ?_
          refine st372.trans ?_
          refine XS.aload X372.here hx rfl (hb hby at_267) rfl rfl ?_
          refine Jvm.RoadKit.acmp (g := (mkF m 269 #[.val (.int pp1), .val (.int pp2), .val (.int pp3), .val (.int pp4), .val (.int pp5), .val (.int (1 : Int32)), .val (.int (1 : Int32)), .val (.int (0 : Int32)), .val (.ref b336), .val (.ref b336), .val (.ref b343), .val (.ref b343), .val .null, .val (.ref b358), .val (.ref bx_360), .val (.int (1 : Int32)), .unset] [(.ref b336), (.ref b336)])) X372 hx rfl rfl rfl (pc0 := 269) (pc' := 272) (same := true) rfl (hb hby at_269) rfl (decide_eq_true rfl) (by decide) (by decide) ?_
          refine XS.aload X372.here hx rfl (hb hby at_272) rfl rfl ?_
          refine st374.trans ?_
          refine XS.aload X374.here hx rfl (hb hby at_277) rfl rfl ?_
          refine Jvm.RoadKit.acmp (g := (mkF m 279 #[.val (.int pp1), .val (.int pp2), .val (.int pp3), .val (.int pp4), .val (.int pp5), .val (.int (1 : Int32)), .val (.int (1 : Int32)), .val (.int (0 : Int32)), .val (.ref b336), .val (.ref b336), .val (.ref b343), .val (.ref b343), .val .null, .val (.ref b358), .val (.ref bx_360), .val (.int (1 : Int32)), .unset] [(.ref b336), (.ref b336)])) X374 hx rfl rfl rfl (pc0 := 279) (pc' := 282) (same := true) rfl (hb hby at_279) rfl (decide_eq_true rfl) (by decide) (by decide) ?_
          refine XS.iconst X374.here hx rfl (hb hby at_282) ?_
          refine XS.goto X374.here hx rfl (pc0 := 283) (pc' := 287) rfl (hb hby at_283) (by decide) (by decide) ?_
          refine XS.istore X374.here hx rfl (hb hby at_287) rfl (l' := #[.val (.int pp1), .val (.int pp2), .val (.int pp3), .val (.int pp4), .val (.int pp5), .val (.int (1 : Int32)), .val (.int (1 : Int32)), .val (.int (0 : Int32)), .val (.ref b336), .val (.ref b336), .val (.ref b343), .val (.ref b343), .val .null, .val (.ref b358), .val (.ref bx_360), .val (.int (1 : Int32)), .val (.int (1 : Int32))]) rfl ?_
          refine XS.iload X374.here hx rfl (hb hby at_289) rfl ?_
          refine XS.ifNo X374.here hx rfl (hb hby at_291) rfl ((if0 _ _).trans (feq hc291_7).1) ?_
          refine XS.iload X374.here hx rfl (hb hby at_294) rfl ?_
          refine XS.ifNo X374.here hx rfl (hb hby at_296) rfl ((if0 _ _).trans (feq hc296_7).1) ?_
          refine XS.iconst X374.here hx rfl (hb hby at_299) ?_
          refine XS.goto X374.here hx rfl (pc0 := 300) (pc' := 304) rfl (hb hby at_300) (by decide) (by decide) ?_
          exact retN X374 hx (t := .boolean) Bd.returns (by simp) (hb hby at_304) hr
        · show Q0 Z pp1 pp2 pp3 pp4 pp5 cs op h0 n0 _ T374.heap _
          rw [e374]
          exact ⟨rfl, N374⟩
      · skip
        obtain ⟨T375, h375, X375, e375, E375, A375, D375, -, st375⟩ := newO X0 hx hZ hown (hw _ (List.mem_of_getElem? (i := 0) rfl)) (hw _ (List.mem_of_getElem? (i := 1) rfl)) (hw _ (List.mem_of_getElem? (i := 2) rfl)) e0 (g := (mkF m 42 #[.val (.int pp1), .val (.int pp2), .val (.int pp3), .val (.int pp4), .val (.int pp5), .val (.int (1 : Int32)), .val (.int (1 : Int32)), .val (.int (1 : Int32)), .unset, .unset, .unset, .unset, .unset, .unset, .unset, .unset, .unset] [])) rfl (hb hby at_42) (by decide) (by decide)
        obtain ⟨b375, g375⟩ : ∃ z, z = h0.size := ⟨_, rfl⟩
        rw [← g375] at A375 D375 st375
        have g_b375 : n0 ≤ b375 := Nat.le_trans Z0 (Nat.le_of_eq g375.symm)
        have Z375 : n0 ≤ h375.size := Nat.le_trans Z0 E375.1
        have F375_province : Fld Z h375 b375 "com/example/outremer_engine/outremerengine/board/Place" "province" "Lcom/example/outremer_engine/outremerengine/board/Province;" .null := D375 (Or.inr (hw _ (List.mem_of_getElem? (i := 47) rfl))) (ty := (.object "com/example/outremer_engine/outremerengine/board/Province")) (by decide)
        have F375_coast : Fld Z h375 b375 "com/example/outremer_engine/outremerengine/board/Place" "coast" "Ljava/lang/String;" .null := D375 (Or.inr (hw _ (List.mem_of_getElem? (i := 49) rfl))) (ty := (.object "java/lang/String")) (by decide)
        have O_376 : Old Z n0 h375 := (O0.ext E375)
        obtain ⟨_, _, ⟨T377, L377, k377, n377⟩, -, X377, ⟨Lc377, hQ377, l377, y377, z377⟩, st377⟩ := Jvm.LawKit.callS X375 hx (y := (⟨"com/example/outremer_engine/outremerengine/diplomacy/SupportMoveGivenToPinLaw", "drawn", "(I)Ljava/lang/String;"⟩ : MethodName)) hown (mvT hZ (hw _ (List.mem_of_getElem? (i := 3) rfl))) (mvT hZ (hw _ (List.mem_of_getElem? (i := 4) rfl))) (mvT hZ (hw _ (List.mem_of_getElem? (i := 5) rfl))) (mvT hZ (hw _ (List.mem_of_getElem? (i := 6) rfl))) (by decide) (backOf (W := 3) (rm1 l Z a0 hw [] pp3 cs h375 n0 Z375 O_376 S_COMPACT_STRINGS (show ¬ cs = (0 : Int32) from hcs)) hZ (hw _ (List.mem_of_getElem? (i := 6) rfl)) (hw _ (List.mem_of_getElem? (i := 5) rfl)) (by decide) (by decide)) (g := (mkF m 48 #[.val (.int pp1), .val (.int pp2), .val (.int pp3), .val (.int pp4), .val (.int pp5), .val (.int (1 : Int32)), .val (.int (1 : Int32)), .val (.int (1 : Int32)), .unset, .unset, .unset, .unset, .unset, .unset, .unset, .unset, .unset] [(.int pp3), .null, (.ref b375), (.ref b375)])) rfl (by rw [hml]; rfl) (argsL := [(.int pp3)]) (rest := [.null, (.ref b375), (.ref b375)]) (lenOf pd__28_I_29_Ljava_2f_lang_2f_String_3b_ rfl) rfl (by show 2 * 0 + _ ≤ _; exact Nat.le_of_eq rfl) (hb hby at_48) (fun _ _ => ⟨rfl, e375, (by decide : 1 + 3 ≤ _), (by decide : 2 + 8 ≤ _)⟩)
        dsimp only [Pt.U, Pt.locs, Pt.cells, Pt.slots] at X377 l377 y377 z377 st377 hQ377
        subst y377 z377
        obtain ⟨bx_377, rfl, N377q, K377c, g_bx_377, sb_bx_377⟩ := hQ377
        have N377 : Fr n0 L377 := by rw [l377]; exact Fr.app N0 N377q
        have Z377 : n0 ≤ T377.heap.size := Nat.le_trans Z375 K377c.1
        change Stand _ _ _ _ _ _ _ _ _ _ _ _ 4 10 at X377
        have E_378 : Exa Z T377.heap b375 "com/example/outremer_engine/outremerengine/board/Place" := (A375.keep K377c)
        have F_379 : Fld Z T377.heap b375 "com/example/outremer_engine/outremerengine/board/Place" "province" "Lcom/example/outremer_engine/outremerengine/board/Province;" .null := (F375_province.keep K377c nin0)
        have F_380 : Fld Z T377.heap b375 "com/example/outremer_engine/outremerengine/board/Place" "coast" "Ljava/lang/String;" .null := (F375_coast.keep K377c nin0)
        obtain ⟨_, _, ⟨T381, L381, k381, n381⟩, -, X381, ⟨Lc381, hQ381, l381, y381, z381⟩, st381⟩ := X377.specialBack hx (y := (⟨"com/example/outremer_engine/outremerengine/board/Place", "<init>", "(Lcom/example/outremer_engine/outremerengine/board/Province;Ljava/lang/String;)V"⟩ : MethodName)) rfl hown (mvT hZ (hw _ (List.mem_of_getElem? (i := 37) rfl))) (mvT hZ (hw _ (List.mem_of_getElem? (i := 38) rfl))) (mvT hZ (hw _ (List.mem_of_getElem? (i := 39) rfl))) (by decide) (backOf (W := 1) (rm8 l Z a0 hw [] b375 bx_377 .null .null T377.heap n0 Z377 E_378 g_b375 F_379 F_380) hZ (hw _ (List.mem_of_getElem? (i := 39) rfl)) (hw _ (List.mem_of_getElem? (i := 2) rfl)) (by decide) (by decide)) (g := (mkF m 51 #[.val (.int pp1), .val (.int pp2), .val (.int pp3), .val (.int pp4), .val (.int pp5), .val (.int (1 : Int32)), .val (.int (1 : Int32)), .val (.int (1 : Int32)), .unset, .unset, .unset, .unset, .unset, .unset, .unset, .unset, .unset] [(.ref bx_377), .null, (.ref b375), (.ref b375)])) rfl (by rw [hml]; rfl) (Steps.refl _) (a := b375) (argsL := [.null, (.ref bx_377)]) (rest := [(.ref b375)]) (lenOf pd__28_Lcom_2f_example_2f_outremer_engine_2f_outremerengine_2f_board_2f_Province_3b_Ljava_2f_lang_2f_String_3b__29_V rfl) rfl (by show 2 * 0 + _ ≤ _; exact Nat.le_of_eq rfl) (hb hby at_51) (fun _ _ => ⟨rfl, rfl, (by decide : 4 + 0 ≤ _), (by decide : 10 + 0 ≤ _)⟩)
        dsimp only [Pt.U, Pt.locs, Pt.cells, Pt.slots] at X381 l381 y381 z381 st381 hQ381
        subst y381 z381
        obtain ⟨rfl, N381q, K381c, R381_0, R381_1⟩ := hQ381
        have N381 : Fr n0 L381 := by rw [l381]; exact Fr.app N377 N381q
        have Z381 : n0 ≤ T381.heap.size := Nat.le_trans Z377 K381c.1
        change Stand _ _ _ _ _ _ _ _ _ _ _ _ 4 10 at X381
        have hc58_8 : ¬ ((1 : Int32) = (0 : Int32)) := by decide
        obtain ⟨T382, h382, X382, e382, E382, A382, D382, -, st382⟩ := newO X381 hx hZ hown (hw _ (List.mem_of_getElem? (i := 50) rfl)) (hw _ (List.mem_of_getElem? (i := 51) rfl)) (hw _ (List.mem_of_getElem? (i := 52) rfl)) rfl (g := (mkF m 80 #[.val (.int pp1), .val (.int pp2), .val (.int pp3), .val (.int pp4), .val (.int pp5), .val (.int (1 : Int32)), .val (.int (1 : Int32)), .val (.int (1 : Int32)), .val (.ref b375), .val (.ref b375), .unset, .unset, .unset, .unset, .unset, .unset, .unset] [])) rfl (hb hby at_80) (by decide) (by decide)
        obtain ⟨b382, g382⟩ : ∃ z, z = T381.heap.size := ⟨_, rfl⟩
        rw [← g382] at A382 D382 st382
        have g_b382 : n0 ≤ b382 := Nat.le_trans Z381 (Nat.le_of_eq g382.symm)
        have Z382 : n0 ≤ h382.size := Nat.le_trans Z381 E382.1
        have F382_nation : Fld Z h382 b382 "com/example/outremer_engine/outremerengine/board/Unit" "nation" "Ljava/lang/String;" .null := D382 (Or.inr (hw _ (List.mem_of_getElem? (i := 58) rfl))) (ty := (.object "java/lang/String")) (by decide)
        have F382_type : Fld Z h382 b382 "com/example/outremer_engine/outremerengine/board/Unit" "type" "Lcom/example/outremer_engine/outremerengine/board/UnitType;" .null := D382 (Or.inr (hw _ (List.mem_of_getElem? (i := 60) rfl))) (ty := (.object "com/example/outremer_engine/outremerengine/board/UnitType")) (by decide)
        have F382_place : Fld Z h382 b382 "com/example/outremer_engine/outremerengine/board/Unit" "place" "Lcom/example/outremer_engine/outremerengine/board/Place;" .null := D382 (Or.inr (hw _ (List.mem_of_getElem? (i := 62) rfl))) (ty := (.object "com/example/outremer_engine/outremerengine/board/Place")) (by decide)
        have O_383 : Old Z n0 h382 := (((O_376.keep K377c all0).keep K381c (allS g_b375 all0)).ext E382)
        obtain ⟨_, _, ⟨T384, L384, k384, n384⟩, -, X384, ⟨Lc384, hQ384, l384, y384, z384⟩, st384⟩ := Jvm.LawKit.callS X382 hx (y := (⟨"com/example/outremer_engine/outremerengine/diplomacy/SupportMoveGivenToPinLaw", "drawn", "(I)Ljava/lang/String;"⟩ : MethodName)) hown (mvT hZ (hw _ (List.mem_of_getElem? (i := 3) rfl))) (mvT hZ (hw _ (List.mem_of_getElem? (i := 4) rfl))) (mvT hZ (hw _ (List.mem_of_getElem? (i := 5) rfl))) (mvT hZ (hw _ (List.mem_of_getElem? (i := 6) rfl))) (by decide) (backOf (W := 2) (rm1 l Z a0 hw [] pp1 cs h382 n0 Z382 O_383 S_COMPACT_STRINGS (show ¬ cs = (0 : Int32) from hcs)) hZ (hw _ (List.mem_of_getElem? (i := 6) rfl)) (hw _ (List.mem_of_getElem? (i := 5) rfl)) (by decide) (by decide)) (g := (mkF m 85 #[.val (.int pp1), .val (.int pp2), .val (.int pp3), .val (.int pp4), .val (.int pp5), .val (.int (1 : Int32)), .val (.int (1 : Int32)), .val (.int (1 : Int32)), .val (.ref b375), .val (.ref b375), .unset, .unset, .unset, .unset, .unset, .unset, .unset] [(.int pp1), (.ref b382), (.ref b382)])) rfl (by rw [hml]; rfl) (argsL := [(.int pp1)]) (rest := [(.ref b382), (.ref b382)]) (lenOf pd__28_I_29_Ljava_2f_lang_2f_String_3b_ rfl) rfl (by show 2 * 0 + _ ≤ _; exact Nat.le_of_eq rfl) (hb hby at_85) (fun _ _ => ⟨rfl, e382, (by decide : 5 + 3 ≤ _), (by decide : 13 + 8 ≤ _)⟩)
        dsimp only [Pt.U, Pt.locs, Pt.cells, Pt.slots] at X384 l384 y384 z384 st384 hQ384
        subst y384 z384
        obtain ⟨bx_384, rfl, N384q, K384c, g_bx_384, sb_bx_384⟩ := hQ384
        have N384 : Fr n0 L384 := by rw [l384]; exact Fr.app N381 N384q
        have Z384 : n0 ≤ T384.heap.size := Nat.le_trans Z382 K384c.1
        change Stand _ _ _ _ _ _ _ _ _ _ _ _ 8 21 at X384
        obtain ⟨T385, h385, X385, e385, E385, A385, D385, -, st385⟩ := newO X384 hx hZ hown (hw _ (List.mem_of_getElem? (i := 0) rfl)) (hw _ (List.mem_of_getElem? (i := 1) rfl)) (hw _ (List.mem_of_getElem? (i := 2) rfl)) rfl (g := (mkF m 89 #[.val (.int pp1), .val (.int pp2), .val (.int pp3), .val (.int pp4), .val (.int pp5), .val (.int (1 : Int32)), .val (.int (1 : Int32)), .val (.int (1 : Int32)), .val (.ref b375), .val (.ref b375), .unset, .unset, .unset, .unset, .unset, .unset, .unset] [.null, (.ref bx_384), (.ref b382), (.ref b382)])) rfl (hb hby at_89) (by decide) (by decide)
        obtain ⟨b385, g385⟩ : ∃ z, z = T384.heap.size := ⟨_, rfl⟩
        rw [← g385] at A385 D385 st385
        have g_b385 : n0 ≤ b385 := Nat.le_trans Z384 (Nat.le_of_eq g385.symm)
        have Z385 : n0 ≤ h385.size := Nat.le_trans Z384 E385.1
        have F385_province : Fld Z h385 b385 "com/example/outremer_engine/outremerengine/board/Place" "province" "Lcom/example/outremer_engine/outremerengine/board/Province;" .null := D385 (Or.inr (hw _ (List.mem_of_getElem? (i := 47) rfl))) (ty := (.object "com/example/outremer_engine/outremerengine/board/Province")) (by decide)
        have F385_coast : Fld Z h385 b385 "com/example/outremer_engine/outremerengine/board/Place" "coast" "Ljava/lang/String;" .null := D385 (Or.inr (hw _ (List.mem_of_getElem? (i := 49) rfl))) (ty := (.object "java/lang/String")) (by decide)
        have O_386 : Old Z n0 h385 := ((O_383.keep K384c all0).ext E385)
        obtain ⟨_, _, ⟨T387, L387, k387, n387⟩, -, X387, ⟨Lc387, hQ387, l387, y387, z387⟩, st387⟩ := Jvm.LawKit.callS X385 hx (y := (⟨"com/example/outremer_engine/outremerengine/diplomacy/SupportMoveGivenToPinLaw", "drawn", "(I)Ljava/lang/String;"⟩ : MethodName)) hown (mvT hZ (hw _ (List.mem_of_getElem? (i := 3) rfl))) (mvT hZ (hw _ (List.mem_of_getElem? (i := 4) rfl))) (mvT hZ (hw _ (List.mem_of_getElem? (i := 5) rfl))) (mvT hZ (hw _ (List.mem_of_getElem? (i := 6) rfl))) (by decide) (backOf (W := 7) (rm1 l Z a0 hw [] ((pp4.toUInt32 >>> ((16 : Int32) &&& 31).toUInt32).toInt32) cs h385 n0 Z385 O_386 S_COMPACT_STRINGS (show ¬ cs = (0 : Int32) from hcs)) hZ (hw _ (List.mem_of_getElem? (i := 6) rfl)) (hw _ (List.mem_of_getElem? (i := 5) rfl)) (by decide) (by decide)) (g := (mkF m 98 #[.val (.int pp1), .val (.int pp2), .val (.int pp3), .val (.int pp4), .val (.int pp5), .val (.int (1 : Int32)), .val (.int (1 : Int32)), .val (.int (1 : Int32)), .val (.ref b375), .val (.ref b375), .unset, .unset, .unset, .unset, .unset, .unset, .unset] [(.int ((pp4.toUInt32 >>> ((16 : Int32) &&& 31).toUInt32).toInt32)), .null, (.ref b385), (.ref b385), .null, (.ref bx_384), (.ref b382), (.ref b382)])) rfl (by rw [hml]; rfl) (argsL := [(.int ((pp4.toUInt32 >>> ((16 : Int32) &&& 31).toUInt32).toInt32))]) (rest := [.null, (.ref b385), (.ref b385), .null, (.ref bx_384), (.ref b382), (.ref b382)]) (lenOf pd__28_I_29_Ljava_2f_lang_2f_String_3b_ rfl) rfl (by show 2 * 0 + _ ≤ _; exact Nat.le_of_eq rfl) (hb hby at_98) (fun _ _ => ⟨rfl, e385, (by decide : 9 + 3 ≤ _), (by decide : 23 + 8 ≤ _)⟩)
        dsimp only [Pt.U, Pt.locs, Pt.cells, Pt.slots] at X387 l387 y387 z387 st387 hQ387
        subst y387 z387
        obtain ⟨bx_387, rfl, N387q, K387c, g_bx_387, sb_bx_387⟩ := hQ387
        have N387 : Fr n0 L387 := by rw [l387]; exact Fr.app N384 N387q
        have Z387 : n0 ≤ T387.heap.size := Nat.le_trans Z385 K387c.1
        change Stand _ _ _ _ _ _ _ _ _ _ _ _ 12 31 at X387
        have E_388 : Exa Z T387.heap b385 "com/example/outremer_engine/outremerengine/board/Place" := (A385.keep K387c)
        have F_389 : Fld Z T387.heap b385 "com/example/outremer_engine/outremerengine/board/Place" "province" "Lcom/example/outremer_engine/outremerengine/board/Province;" .null := (F385_province.keep K387c nin0)
        have F_390 : Fld Z T387.heap b385 "com/example/outremer_engine/outremerengine/board/Place" "coast" "Ljava/lang/String;" .null := (F385_coast.keep K387c nin0)
        obtain ⟨_, _, ⟨T391, L391, k391, n391⟩, -, X391, ⟨Lc391, hQ391, l391, y391, z391⟩, st391⟩ := X387.specialBack hx (y := (⟨"com/example/outremer_engine/outremerengine/board/Place", "<init>", "(Lcom/example/outremer_engine/outremerengine/board/Province;Ljava/lang/String;)V"⟩ : MethodName)) rfl hown (mvT hZ (hw _ (List.mem_of_getElem? (i := 37) rfl))) (mvT hZ (hw _ (List.mem_of_getElem? (i := 38) rfl))) (mvT hZ (hw _ (List.mem_of_getElem? (i := 39) rfl))) (by decide) (backOf (W := 5) (rm8 l Z a0 hw [] b385 bx_387 .null .null T387.heap n0 Z387 E_388 g_b385 F_389 F_390) hZ (hw _ (List.mem_of_getElem? (i := 39) rfl)) (hw _ (List.mem_of_getElem? (i := 2) rfl)) (by decide) (by decide)) (g := (mkF m 101 #[.val (.int pp1), .val (.int pp2), .val (.int pp3), .val (.int pp4), .val (.int pp5), .val (.int (1 : Int32)), .val (.int (1 : Int32)), .val (.int (1 : Int32)), .val (.ref b375), .val (.ref b375), .unset, .unset, .unset, .unset, .unset, .unset, .unset] [(.ref bx_387), .null, (.ref b385), (.ref b385), .null, (.ref bx_384), (.ref b382), (.ref b382)])) rfl (by rw [hml]; rfl) (Steps.refl _) (a := b385) (argsL := [.null, (.ref bx_387)]) (rest := [(.ref b385), .null, (.ref bx_384), (.ref b382), (.ref b382)]) (lenOf pd__28_Lcom_2f_example_2f_outremer_engine_2f_outremerengine_2f_board_2f_Province_3b_Ljava_2f_lang_2f_String_3b__29_V rfl) rfl (by show 2 * 0 + _ ≤ _; exact Nat.le_of_eq rfl) (hb hby at_101) (fun _ _ => ⟨rfl, rfl, (by decide : 12 + 0 ≤ _), (by decide : 31 + 0 ≤ _)⟩)
        dsimp only [Pt.U, Pt.locs, Pt.cells, Pt.slots] at X391 l391 y391 z391 st391 hQ391
        subst y391 z391
        obtain ⟨rfl, N391q, K391c, R391_0, R391_1⟩ := hQ391
        have N391 : Fr n0 L391 := by rw [l391]; exact Fr.app N387 N391q
        have Z391 : n0 ≤ T391.heap.size := Nat.le_trans Z387 K391c.1
        change Stand _ _ _ _ _ _ _ _ _ _ _ _ 12 31 at X391
        have E_392 : Exa Z T391.heap b382 "com/example/outremer_engine/outremerengine/board/Unit" := ((((A382.keep K384c).ext E385).keep K387c).keep K391c)
        have F_393 : Fld Z T391.heap b382 "com/example/outremer_engine/outremerengine/board/Unit" "nation" "Ljava/lang/String;" .null := ((((F382_nation.keep K384c nin0).ext E385).keep K387c nin0).keep K391c (ninS (Nat.ne_of_lt (Nat.lt_of_lt_of_le (A382.keep K384c).lt (Nat.le_of_eq g385.symm))) nin0))
        have F_394 : Fld Z T391.heap b382 "com/example/outremer_engine/outremerengine/board/Unit" "type" "Lcom/example/outremer_engine/outremerengine/board/UnitType;" .null := ((((F382_type.keep K384c nin0).ext E385).keep K387c nin0).keep K391c (ninS (Nat.ne_of_lt (Nat.lt_of_lt_of_le (A382.keep K384c).lt (Nat.le_of_eq g385.symm))) nin0))
        have F_395 : Fld Z T391.heap b382 "com/example/outremer_engine/outremerengine/board/Unit" "place" "Lcom/example/outremer_engine/outremerengine/board/Place;" .null := ((((F382_place.keep K384c nin0).ext E385).keep K387c nin0).keep K391c (ninS (Nat.ne_of_lt (Nat.lt_of_lt_of_le (A382.keep K384c).lt (Nat.le_of_eq g385.symm))) nin0))
        obtain ⟨_, _, ⟨T396, L396, k396, n396⟩, -, X396, ⟨Lc396, hQ396, l396, y396, z396⟩, st396⟩ := X391.specialBack hx (y := (⟨"com/example/outremer_engine/outremerengine/board/Unit", "<init>", "(Ljava/lang/String;Lcom/example/outremer_engine/outremerengine/board/UnitType;Lcom/example/outremer_engine/outremerengine/board/Place;)V"⟩ : MethodName)) rfl hown (mvT hZ (hw _ (List.mem_of_getElem? (i := 53) rfl))) (mvT hZ (hw _ (List.mem_of_getElem? (i := 54) rfl))) (mvT hZ (hw _ (List.mem_of_getElem? (i := 55) rfl))) (by decide) (backOf (W := 1) (rm10 l Z a0 hw [] b382 bx_384 b385 .null .null .null T391.heap n0 Z391 E_392 g_b382 F_393 F_394 F_395) hZ (hw _ (List.mem_of_getElem? (i := 55) rfl)) (hw _ (List.mem_of_getElem? (i := 52) rfl)) (by decide) (by decide)) (g := (mkF m 104 #[.val (.int pp1), .val (.int pp2), .val (.int pp3), .val (.int pp4), .val (.int pp5), .val (.int (1 : Int32)), .val (.int (1 : Int32)), .val (.int (1 : Int32)), .val (.ref b375), .val (.ref b375), .unset, .unset, .unset, .unset, .unset, .unset, .unset] [(.ref b385), .null, (.ref bx_384), (.ref b382), (.ref b382)])) rfl (by rw [hml]; rfl) (Steps.refl _) (a := b382) (argsL := [(.ref bx_384), .null, (.ref b385)]) (rest := [(.ref b382)]) (lenOf pd__28_Ljava_2f_lang_2f_String_3b_Lcom_2f_example_2f_outremer_engine_2f_outremerengine_2f_board_2f_UnitType_3b_Lcom_2f_example_2f_outremer_engine_2f_outremerengine_2f_board_2f_Place_3b__29_V rfl) rfl (by show 2 * 0 + _ ≤ _; exact Nat.le_of_eq rfl) (hb hby at_104) (fun _ _ => ⟨rfl, rfl, (by decide : 12 + 0 ≤ _), (by decide : 31 + 0 ≤ _)⟩)
        dsimp only [Pt.U, Pt.locs, Pt.cells, Pt.slots] at X396 l396 y396 z396 st396 hQ396
        subst y396 z396
        obtain ⟨rfl, N396q, K396c, R396_0, R396_1, R396_2⟩ := hQ396
        have N396 : Fr n0 L396 := by rw [l396]; exact Fr.app N391 N396q
        have Z396 : n0 ≤ T396.heap.size := Nat.le_trans Z391 K396c.1
        change Stand _ _ _ _ _ _ _ _ _ _ _ _ 12 31 at X396
        have hc111_8 : ¬ ((1 : Int32) = (0 : Int32)) := by decide
        have hc150_8 : ¬ ((1 : Int32) = (0 : Int32)) := by decide
        have O_397 : Old Z n0 T396.heap := (((O_386.keep K387c all0).keep K391c (allS g_b385 all0)).keep K396c (allS g_b382 all0))
        obtain ⟨_, _, ⟨T398, L398, k398, n398⟩, -, X398, ⟨Lc398, hQ398, l398, y398, z398⟩, st398⟩ := Jvm.LawKit.callS X396 hx (y := (⟨"java/util/Optional", "empty", "()Ljava/util/Optional;"⟩ : MethodName)) hown (mvT hZ (hw _ (List.mem_of_getElem? (i := 105) rfl))) (mvT hZ (hw _ (List.mem_of_getElem? (i := 106) rfl))) (mvT hZ (hw _ (List.mem_of_getElem? (i := 107) rfl))) (mvT hZ (hw _ (List.mem_of_getElem? (i := 108) rfl))) (by decide) (backOf (W := 0) (rm17 l Z a0 hw [] op T396.heap n0 Z396 O_397 S_EMPTY) hZ (hw _ (List.mem_of_getElem? (i := 108) rfl)) (hw _ (List.mem_of_getElem? (i := 107) rfl)) (by decide) (by decide)) (g := (mkF m 153 #[.val (.int pp1), .val (.int pp2), .val (.int pp3), .val (.int pp4), .val (.int pp5), .val (.int (1 : Int32)), .val (.int (1 : Int32)), .val (.int (1 : Int32)), .val (.ref b375), .val (.ref b375), .val (.ref b382), .val (.ref b382), .unset, .unset, .unset, .unset, .unset] [])) rfl (by rw [hml]; rfl) (argsL := []) (rest := []) (lenOf pd__28__29_Ljava_2f_util_2f_Optional_3b_ rfl) rfl (by show 2 * 0 + _ ≤ _; exact Nat.le_of_eq rfl) (hb hby at_153) (fun _ _ => ⟨rfl, rfl, (by decide : 12 + 0 ≤ _), (by decide : 31 + 0 ≤ _)⟩)
        dsimp only [Pt.U, Pt.locs, Pt.cells, Pt.slots] at X398 l398 y398 z398 st398 hQ398
        subst y398 z398
        obtain ⟨rfl, N398q, e398⟩ := hQ398
        have N398 : Fr n0 L398 := by rw [l398]; exact Fr.app N396 N398q
        change Stand _ _ _ _ _ _ _ _ _ _ _ _ 12 31 at X398
        obtain ⟨T399, h399, X399, e399, E399, A399, D399, -, st399⟩ := newO X398 hx hZ hown (hw _ (List.mem_of_getElem? (i := 63) rfl)) (hw _ (List.mem_of_getElem? (i := 64) rfl)) (hw _ (List.mem_of_getElem? (i := 65) rfl)) e398 (g := (mkF m 162 #[.val (.int pp1), .val (.int pp2), .val (.int pp3), .val (.int pp4), .val (.int pp5), .val (.int (1 : Int32)), .val (.int (1 : Int32)), .val (.int (1 : Int32)), .val (.ref b375), .val (.ref b375), .val (.ref b382), .val (.ref b382), .val (.ref op), .unset, .unset, .unset, .unset] [])) rfl (hb hby at_162) (by decide) (by decide)
        obtain ⟨b399, g399⟩ : ∃ z, z = T396.heap.size := ⟨_, rfl⟩
        rw [← g399] at A399 D399 st399
        have g_b399 : n0 ≤ b399 := Nat.le_trans Z396 (Nat.le_of_eq g399.symm)
        have Z399 : n0 ≤ h399.size := Nat.le_trans Z396 E399.1
        have F399_unit : Fld Z h399 b399 "com/example/outremer_engine/outremerengine/diplomacy/Order$SupportMove" "unit" "Lcom/example/outremer_engine/outremerengine/board/Unit;" .null := D399 (Or.inr (hw _ (List.mem_of_getElem? (i := 71) rfl))) (ty := (.object "com/example/outremer_engine/outremerengine/board/Unit")) (by decide)
        have F399_supportedType : Fld Z h399 b399 "com/example/outremer_engine/outremerengine/diplomacy/Order$SupportMove" "supportedType" "Ljava/util/Optional;" .null := D399 (Or.inr (hw _ (List.mem_of_getElem? (i := 73) rfl))) (ty := (.object "java/util/Optional")) (by decide)
        have F399_from : Fld Z h399 b399 "com/example/outremer_engine/outremerengine/diplomacy/Order$SupportMove" "from" "Lcom/example/outremer_engine/outremerengine/board/Place;" .null := D399 (Or.inr (hw _ (List.mem_of_getElem? (i := 75) rfl))) (ty := (.object "com/example/outremer_engine/outremerengine/board/Place")) (by decide)
        have F399_to : Fld Z h399 b399 "com/example/outremer_engine/outremerengine/diplomacy/Order$SupportMove" "to" "Lcom/example/outremer_engine/outremerengine/board/Place;" .null := D399 (Or.inr (hw _ (List.mem_of_getElem? (i := 77) rfl))) (ty := (.object "com/example/outremer_engine/outremerengine/board/Place")) (by decide)
        obtain ⟨_, _, ⟨T400, L400, k400, n400⟩, -, X400, ⟨Lc400, hQ400, l400, y400, z400⟩, st400⟩ := X399.specialBack hx (y := (⟨"com/example/outremer_engine/outremerengine/diplomacy/Order$SupportMove", "<init>", "(Lcom/example/outremer_engine/outremerengine/board/Unit;Ljava/util/Optional;Lcom/example/outremer_engine/outremerengine/board/Place;Lcom/example/outremer_engine/outremerengine/board/Place;)V"⟩ : MethodName)) rfl hown (mvT hZ (hw _ (List.mem_of_getElem? (i := 66) rfl))) (mvT hZ (hw _ (List.mem_of_getElem? (i := 67) rfl))) (mvT hZ (hw _ (List.mem_of_getElem? (i := 68) rfl))) (by decide) (backOf (W := 1) (rm11_o l Z a0 hw [] b399 b382 op b375 b375 .null .null .null .null h399 n0 Z399 A399 g_b399 F399_unit F399_supportedType F399_from F399_to) hZ (hw _ (List.mem_of_getElem? (i := 68) rfl)) (hw _ (List.mem_of_getElem? (i := 65) rfl)) (by decide) (by decide)) (g := (mkF m 174 #[.val (.int pp1), .val (.int pp2), .val (.int pp3), .val (.int pp4), .val (.int pp5), .val (.int (1 : Int32)), .val (.int (1 : Int32)), .val (.int (1 : Int32)), .val (.ref b375), .val (.ref b375), .val (.ref b382), .val (.ref b382), .val (.ref op), .unset, .unset, .unset, .unset] [(.ref b375), (.ref b375), (.ref op), (.ref b382), (.ref b399), (.ref b399)])) rfl (by rw [hml]; rfl) (Steps.refl _) (a := b399) (argsL := [(.ref b382), (.ref op), (.ref b375), (.ref b375)]) (rest := [(.ref b399)]) (lenOf pd__28_Lcom_2f_example_2f_outremer_engine_2f_outremerengine_2f_board_2f_Unit_3b_Ljava_2f_util_2f_Optional_3b_Lcom_2f_example_2f_outremer_engine_2f_outremerengine_2f_board_2f_Place_3b_Lcom_2f_example_2f_outremer_engine_2f_outremerengine_2f_board_2f_Place_3b__29_V rfl) rfl (by show 2 * 0 + _ ≤ _; exact Nat.le_of_eq rfl) (hb hby at_174) (fun _ _ => ⟨rfl, e399, (by decide : 13 + 0 ≤ _), (by decide : 35 + 0 ≤ _)⟩)
        dsimp only [Pt.U, Pt.locs, Pt.cells, Pt.slots] at X400 l400 y400 z400 st400 hQ400
        subst y400 z400
        obtain ⟨rfl, N400q, K400c, R400_0, R400_1, R400_2, R400_3⟩ := hQ400
        have N400 : Fr n0 L400 := by rw [l400]; exact Fr.app N398 N400q
        have Z400 : n0 ≤ T400.heap.size := Nat.le_trans Z399 K400c.1
        change Stand _ _ _ _ _ _ _ _ _ _ _ _ 13 35 at X400
        have E_402 : Exa Z T400.heap b399 "com/example/outremer_engine/outremerengine/diplomacy/Order$SupportMove" := (A399.keep K400c)
        obtain ⟨cq401, kq401, q401a, q401b, q401c⟩ := isOf hZ rfl E_402
        obtain ⟨_, _, ⟨T401, L401, k401, n401⟩, -, X401, ⟨Lc401, hQ401, l401, y401, z401⟩, st401⟩ := X400.virtualBack hx (y := (⟨"com/example/outremer_engine/outremerengine/diplomacy/Order$SupportMove", "givenTo", "(Lcom/example/outremer_engine/outremerengine/board/Unit;)Lcom/example/outremer_engine/outremerengine/diplomacy/Order$SupportMove;"⟩ : MethodName)) (z := (⟨"com/example/outremer_engine/outremerengine/diplomacy/Order$SupportMove", "givenTo", "(Lcom/example/outremer_engine/outremerengine/board/Unit;)Lcom/example/outremer_engine/outremerengine/diplomacy/Order$SupportMove;"⟩ : MethodName)) hown (mvT hZ (hw _ (List.mem_of_getElem? (i := 78) rfl))) (mvT hZ (hw _ (List.mem_of_getElem? (i := 79) rfl))) (notFace_of_selects (args := #[]) (mvT hZ (hw _ (List.mem_of_getElem? (i := 81) rfl)))) (mvT hZ (hw _ (List.mem_of_getElem? (i := 81) rfl))) (mvT hZ (hw _ (List.mem_of_getElem? (i := 80) rfl))) (by decide) (backOf (W := 0) (rm12_o l Z a0 hw [] b399 b382 op b375 b375 T400.heap n0 Z400 R400_1 R400_2 R400_3) hZ (hw _ (List.mem_of_getElem? (i := 82) rfl)) (hw _ (List.mem_of_getElem? (i := 65) rfl)) (by decide) (by decide)) q401a q401c (g := (mkF m 183 #[.val (.int pp1), .val (.int pp2), .val (.int pp3), .val (.int pp4), .val (.int pp5), .val (.int (1 : Int32)), .val (.int (1 : Int32)), .val (.int (1 : Int32)), .val (.ref b375), .val (.ref b375), .val (.ref b382), .val (.ref b382), .val (.ref op), .val (.ref b399), .unset, .unset, .unset] [(.ref b382), (.ref b399)])) rfl (by rw [hml]; rfl) (Steps.refl _) (argsL := [(.ref b382)]) (rest := []) (lenOf pd__28_Lcom_2f_example_2f_outremer_engine_2f_outremerengine_2f_board_2f_Unit_3b__29_Lcom_2f_example_2f_outremer_engine_2f_outremerengine_2f_diplomacy_2f_Order_24_SupportMove_3b_ rfl) rfl (by show 2 * 0 + _ ≤ _; exact Nat.le_of_eq rfl) (hb hby at_183) (fun _ _ => ⟨rfl, rfl, (by decide : 13 + 1 ≤ _), (by decide : 35 + 4 ≤ _)⟩)
        dsimp only [Pt.U, Pt.locs, Pt.cells, Pt.slots] at X401 l401 y401 z401 st401 hQ401
        subst y401 z401
        obtain ⟨bx_401, rfl, N401q, K401c, g_bx_401, sb_bx_401, R401_0, R401_1, R401_2, R401_3, R401_4⟩ := hQ401
        have N401 : Fr n0 L401 := by rw [l401]; exact Fr.app N400 N401q
        have Z401 : n0 ≤ T401.heap.size := Nat.le_trans Z400 K401c.1
        change Stand _ _ _ _ _ _ _ _ _ _ _ _ 14 39 at X401
        obtain ⟨cq403, kq403, q403a, q403b, q403c⟩ := isOf hZ rfl R401_0
        obtain ⟨_, _, ⟨T403, L403, k403, n403⟩, -, X403, ⟨Lc403, hQ403, l403, y403, z403⟩, st403⟩ := X401.virtualBack hx (y := (⟨"com/example/outremer_engine/outremerengine/diplomacy/Order$SupportMove", "unit", "()Lcom/example/outremer_engine/outremerengine/board/Unit;"⟩ : MethodName)) (z := (⟨"com/example/outremer_engine/outremerengine/diplomacy/Order$SupportMove", "unit", "()Lcom/example/outremer_engine/outremerengine/board/Unit;"⟩ : MethodName)) hown (mvT hZ (hw _ (List.mem_of_getElem? (i := 85) rfl))) (mvT hZ (hw _ (List.mem_of_getElem? (i := 86) rfl))) (notFace_of_selects (args := #[]) (mvT hZ (hw _ (List.mem_of_getElem? (i := 88) rfl)))) (mvT hZ (hw _ (List.mem_of_getElem? (i := 88) rfl))) (mvT hZ (hw _ (List.mem_of_getElem? (i := 87) rfl))) (by decide) (backOf (W := 0) (rm13 l Z a0 hw [] bx_401 b382 T401.heap n0 Z401 R401_1) hZ (hw _ (List.mem_of_getElem? (i := 89) rfl)) (hw _ (List.mem_of_getElem? (i := 65) rfl)) (by decide) (by decide)) q403a q403c (g := (mkF m 197 #[.val (.int pp1), .val (.int pp2), .val (.int pp3), .val (.int pp4), .val (.int pp5), .val (.int (1 : Int32)), .val (.int (1 : Int32)), .val (.int (1 : Int32)), .val (.ref b375), .val (.ref b375), .val (.ref b382), .val (.ref b382), .val (.ref op), .val (.ref b399), .val (.ref bx_401), .unset, .unset] [(.ref bx_401)])) rfl (by rw [hml]; rfl) (Steps.refl _) (argsL := []) (rest := []) (lenOf pd__28__29_Lcom_2f_example_2f_outremer_engine_2f_outremerengine_2f_board_2f_Unit_3b_ rfl) rfl (by show 2 * 0 + _ ≤ _; exact Nat.le_of_eq rfl) (hb hby at_197) (fun _ _ => ⟨rfl, rfl, (by decide : 14 + 0 ≤ _), (by decide : 39 + 0 ≤ _)⟩)
        dsimp only [Pt.U, Pt.locs, Pt.cells, Pt.slots] at X403 l403 y403 z403 st403 hQ403
        subst y403 z403
        obtain ⟨rfl, N403q, e403⟩ := hQ403
        have N403 : Fr n0 L403 := by rw [l403]; exact Fr.app N401 N403q
        change Stand _ _ _ _ _ _ _ _ _ _ _ _ 14 39 at X403
        obtain ⟨cq404, kq404, q404a, q404b, q404c⟩ := isOf hZ e403 R401_0
        obtain ⟨_, _, ⟨T404, L404, k404, n404⟩, -, X404, ⟨Lc404, hQ404, l404, y404, z404⟩, st404⟩ := X403.virtualBack hx (y := (⟨"com/example/outremer_engine/outremerengine/diplomacy/Order$SupportMove", "supportedType", "()Ljava/util/Optional;"⟩ : MethodName)) (z := (⟨"com/example/outremer_engine/outremerengine/diplomacy/Order$SupportMove", "supportedType", "()Ljava/util/Optional;"⟩ : MethodName)) hown (mvT hZ (hw _ (List.mem_of_getElem? (i := 90) rfl))) (mvT hZ (hw _ (List.mem_of_getElem? (i := 91) rfl))) (notFace_of_selects (args := #[]) (mvT hZ (hw _ (List.mem_of_getElem? (i := 93) rfl)))) (mvT hZ (hw _ (List.mem_of_getElem? (i := 93) rfl))) (mvT hZ (hw _ (List.mem_of_getElem? (i := 92) rfl))) (by decide) (backOf (W := 0) (rm14_o l Z a0 hw [] bx_401 op T401.heap n0 Z401 R401_2) hZ (hw _ (List.mem_of_getElem? (i := 94) rfl)) (hw _ (List.mem_of_getElem? (i := 65) rfl)) (by decide) (by decide)) q404a q404c (g := (mkF m 207 #[.val (.int pp1), .val (.int pp2), .val (.int pp3), .val (.int pp4), .val (.int pp5), .val (.int (1 : Int32)), .val (.int (1 : Int32)), .val (.int (1 : Int32)), .val (.ref b375), .val (.ref b375), .val (.ref b382), .val (.ref b382), .val (.ref op), .val (.ref b399), .val (.ref bx_401), .unset, .unset] [(.ref bx_401)])) rfl (by rw [hml]; rfl) (Steps.refl _) (argsL := []) (rest := []) (lenOf pd__28__29_Ljava_2f_util_2f_Optional_3b_ rfl) rfl (by show 2 * 0 + _ ≤ _; exact Nat.le_of_eq rfl) (hb hby at_207) (fun _ _ => ⟨rfl, e403, (by decide : 14 + 0 ≤ _), (by decide : 39 + 0 ≤ _)⟩)
        dsimp only [Pt.U, Pt.locs, Pt.cells, Pt.slots] at X404 l404 y404 z404 st404 hQ404
        subst y404 z404
        obtain ⟨rfl, N404q, e404⟩ := hQ404
        have N404 : Fr n0 L404 := by rw [l404]; exact Fr.app N403 N404q
        change Stand _ _ _ _ _ _ _ _ _ _ _ _ 14 39 at X404
        obtain ⟨cq405, kq405, q405a, q405b, q405c⟩ := isOf hZ e404 R401_0
        obtain ⟨_, _, ⟨T405, L405, k405, n405⟩, -, X405, ⟨Lc405, hQ405, l405, y405, z405⟩, st405⟩ := X404.virtualBack hx (y := (⟨"com/example/outremer_engine/outremerengine/diplomacy/Order$SupportMove", "from", "()Lcom/example/outremer_engine/outremerengine/board/Place;"⟩ : MethodName)) (z := (⟨"com/example/outremer_engine/outremerengine/diplomacy/Order$SupportMove", "from", "()Lcom/example/outremer_engine/outremerengine/board/Place;"⟩ : MethodName)) hown (mvT hZ (hw _ (List.mem_of_getElem? (i := 95) rfl))) (mvT hZ (hw _ (List.mem_of_getElem? (i := 96) rfl))) (notFace_of_selects (args := #[]) (mvT hZ (hw _ (List.mem_of_getElem? (i := 98) rfl)))) (mvT hZ (hw _ (List.mem_of_getElem? (i := 98) rfl))) (mvT hZ (hw _ (List.mem_of_getElem? (i := 97) rfl))) (by decide) (backOf (W := 0) (rm15 l Z a0 hw [] bx_401 b375 T401.heap n0 Z401 R401_3) hZ (hw _ (List.mem_of_getElem? (i := 99) rfl)) (hw _ (List.mem_of_getElem? (i := 65) rfl)) (by decide) (by decide)) q405a q405c (g := (mkF m 217 #[.val (.int pp1), .val (.int pp2), .val (.int pp3), .val (.int pp4), .val (.int pp5), .val (.int (1 : Int32)), .val (.int (1 : Int32)), .val (.int (1 : Int32)), .val (.ref b375), .val (.ref b375), .val (.ref b382), .val (.ref b382), .val (.ref op), .val (.ref b399), .val (.ref bx_401), .unset, .unset] [(.ref bx_401)])) rfl (by rw [hml]; rfl) (Steps.refl _) (argsL := []) (rest := []) (lenOf pd__28__29_Lcom_2f_example_2f_outremer_engine_2f_outremerengine_2f_board_2f_Place_3b_ rfl) rfl (by show 2 * 0 + _ ≤ _; exact Nat.le_of_eq rfl) (hb hby at_217) (fun _ _ => ⟨rfl, e404, (by decide : 14 + 0 ≤ _), (by decide : 39 + 0 ≤ _)⟩)
        dsimp only [Pt.U, Pt.locs, Pt.cells, Pt.slots] at X405 l405 y405 z405 st405 hQ405
        subst y405 z405
        obtain ⟨rfl, N405q, e405⟩ := hQ405
        have N405 : Fr n0 L405 := by rw [l405]; exact Fr.app N404 N405q
        change Stand _ _ _ _ _ _ _ _ _ _ _ _ 14 39 at X405
        obtain ⟨cq406, kq406, q406a, q406b, q406c⟩ := isOf hZ e405 R401_0
        obtain ⟨_, _, ⟨T406, L406, k406, n406⟩, -, X406, ⟨Lc406, hQ406, l406, y406, z406⟩, st406⟩ := X405.virtualBack hx (y := (⟨"com/example/outremer_engine/outremerengine/diplomacy/Order$SupportMove", "to", "()Lcom/example/outremer_engine/outremerengine/board/Place;"⟩ : MethodName)) (z := (⟨"com/example/outremer_engine/outremerengine/diplomacy/Order$SupportMove", "to", "()Lcom/example/outremer_engine/outremerengine/board/Place;"⟩ : MethodName)) hown (mvT hZ (hw _ (List.mem_of_getElem? (i := 100) rfl))) (mvT hZ (hw _ (List.mem_of_getElem? (i := 101) rfl))) (notFace_of_selects (args := #[]) (mvT hZ (hw _ (List.mem_of_getElem? (i := 103) rfl)))) (mvT hZ (hw _ (List.mem_of_getElem? (i := 103) rfl))) (mvT hZ (hw _ (List.mem_of_getElem? (i := 102) rfl))) (by decide) (backOf (W := 0) (rm16 l Z a0 hw [] bx_401 b375 T401.heap n0 Z401 R401_4) hZ (hw _ (List.mem_of_getElem? (i := 104) rfl)) (hw _ (List.mem_of_getElem? (i := 65) rfl)) (by decide) (by decide)) q406a q406c (g := (mkF m 227 #[.val (.int pp1), .val (.int pp2), .val (.int pp3), .val (.int pp4), .val (.int pp5), .val (.int (1 : Int32)), .val (.int (1 : Int32)), .val (.int (1 : Int32)), .val (.ref b375), .val (.ref b375), .val (.ref b382), .val (.ref b382), .val (.ref op), .val (.ref b399), .val (.ref bx_401), .unset, .unset] [(.ref bx_401)])) rfl (by rw [hml]; rfl) (Steps.refl _) (argsL := []) (rest := []) (lenOf pd__28__29_Lcom_2f_example_2f_outremer_engine_2f_outremerengine_2f_board_2f_Place_3b_ rfl) rfl (by show 2 * 0 + _ ≤ _; exact Nat.le_of_eq rfl) (hb hby at_227) (fun _ _ => ⟨rfl, e405, (by decide : 14 + 0 ≤ _), (by decide : 39 + 0 ≤ _)⟩)
        dsimp only [Pt.U, Pt.locs, Pt.cells, Pt.slots] at X406 l406 y406 z406 st406 hQ406
        subst y406 z406
        obtain ⟨rfl, N406q, e406⟩ := hQ406
        have N406 : Fr n0 L406 := by rw [l406]; exact Fr.app N405 N406q
        change Stand _ _ _ _ _ _ _ _ _ _ _ _ 14 39 at X406
        have F_407 : Fld Z T401.heap b399 "com/example/outremer_engine/outremerengine/diplomacy/Order$SupportMove" "unit" "Lcom/example/outremer_engine/outremerengine/board/Unit;" (.ref b382) := (R400_0.keep K401c nin0)
        have E_409 : Exa Z T401.heap b399 "com/example/outremer_engine/outremerengine/diplomacy/Order$SupportMove" := (E_402.keep K401c)
        obtain ⟨cq408, kq408, q408a, q408b, q408c⟩ := isOf hZ e406 E_409
        obtain ⟨_, _, ⟨T408, L408, k408, n408⟩, -, X408, ⟨Lc408, hQ408, l408, y408, z408⟩, st408⟩ := X406.virtualBack hx (y := (⟨"com/example/outremer_engine/outremerengine/diplomacy/Order$SupportMove", "unit", "()Lcom/example/outremer_engine/outremerengine/board/Unit;"⟩ : MethodName)) (z := (⟨"com/example/outremer_engine/outremerengine/diplomacy/Order$SupportMove", "unit", "()Lcom/example/outremer_engine/outremerengine/board/Unit;"⟩ : MethodName)) hown (mvT hZ (hw _ (List.mem_of_getElem? (i := 85) rfl))) (mvT hZ (hw _ (List.mem_of_getElem? (i := 86) rfl))) (notFace_of_selects (args := #[]) (mvT hZ (hw _ (List.mem_of_getElem? (i := 88) rfl)))) (mvT hZ (hw _ (List.mem_of_getElem? (i := 88) rfl))) (mvT hZ (hw _ (List.mem_of_getElem? (i := 87) rfl))) (by decide) (backOf (W := 0) (rm13 l Z a0 hw [] b399 b382 T401.heap n0 Z401 F_407) hZ (hw _ (List.mem_of_getElem? (i := 89) rfl)) (hw _ (List.mem_of_getElem? (i := 65) rfl)) (by decide) (by decide)) q408a q408c (g := (mkF m 244 #[.val (.int pp1), .val (.int pp2), .val (.int pp3), .val (.int pp4), .val (.int pp5), .val (.int (1 : Int32)), .val (.int (1 : Int32)), .val (.int (1 : Int32)), .val (.ref b375), .val (.ref b375), .val (.ref b382), .val (.ref b382), .val (.ref op), .val (.ref b399), .val (.ref bx_401), .val (.int (1 : Int32)), .unset] [(.ref b399)])) rfl (by rw [hml]; rfl) (Steps.refl _) (argsL := []) (rest := []) (lenOf pd__28__29_Lcom_2f_example_2f_outremer_engine_2f_outremerengine_2f_board_2f_Unit_3b_ rfl) rfl (by show 2 * 0 + _ ≤ _; exact Nat.le_of_eq rfl) (hb hby at_244) (fun _ _ => ⟨rfl, e406, (by decide : 14 + 0 ≤ _), (by decide : 39 + 0 ≤ _)⟩)
        dsimp only [Pt.U, Pt.locs, Pt.cells, Pt.slots] at X408 l408 y408 z408 st408 hQ408
        subst y408 z408
        obtain ⟨rfl, N408q, e408⟩ := hQ408
        have N408 : Fr n0 L408 := by rw [l408]; exact Fr.app N406 N408q
        change Stand _ _ _ _ _ _ _ _ _ _ _ _ 14 39 at X408
        have F_410 : Fld Z T401.heap b399 "com/example/outremer_engine/outremerengine/diplomacy/Order$SupportMove" "supportedType" "Ljava/util/Optional;" (.ref op) := (R400_1.keep K401c nin0)
        obtain ⟨cq411, kq411, q411a, q411b, q411c⟩ := isOf hZ e408 E_409
        obtain ⟨_, _, ⟨T411, L411, k411, n411⟩, -, X411, ⟨Lc411, hQ411, l411, y411, z411⟩, st411⟩ := X408.virtualBack hx (y := (⟨"com/example/outremer_engine/outremerengine/diplomacy/Order$SupportMove", "supportedType", "()Ljava/util/Optional;"⟩ : MethodName)) (z := (⟨"com/example/outremer_engine/outremerengine/diplomacy/Order$SupportMove", "supportedType", "()Ljava/util/Optional;"⟩ : MethodName)) hown (mvT hZ (hw _ (List.mem_of_getElem? (i := 90) rfl))) (mvT hZ (hw _ (List.mem_of_getElem? (i := 91) rfl))) (notFace_of_selects (args := #[]) (mvT hZ (hw _ (List.mem_of_getElem? (i := 93) rfl)))) (mvT hZ (hw _ (List.mem_of_getElem? (i := 93) rfl))) (mvT hZ (hw _ (List.mem_of_getElem? (i := 92) rfl))) (by decide) (backOf (W := 0) (rm14_o l Z a0 hw [] b399 op T401.heap n0 Z401 F_410) hZ (hw _ (List.mem_of_getElem? (i := 94) rfl)) (hw _ (List.mem_of_getElem? (i := 65) rfl)) (by decide) (by decide)) q411a q411c (g := (mkF m 254 #[.val (.int pp1), .val (.int pp2), .val (.int pp3), .val (.int pp4), .val (.int pp5), .val (.int (1 : Int32)), .val (.int (1 : Int32)), .val (.int (1 : Int32)), .val (.ref b375), .val (.ref b375), .val (.ref b382), .val (.ref b382), .val (.ref op), .val (.ref b399), .val (.ref bx_401), .val (.int (1 : Int32)), .unset] [(.ref b399)])) rfl (by rw [hml]; rfl) (Steps.refl _) (argsL := []) (rest := []) (lenOf pd__28__29_Ljava_2f_util_2f_Optional_3b_ rfl) rfl (by show 2 * 0 + _ ≤ _; exact Nat.le_of_eq rfl) (hb hby at_254) (fun _ _ => ⟨rfl, e408, (by decide : 14 + 0 ≤ _), (by decide : 39 + 0 ≤ _)⟩)
        dsimp only [Pt.U, Pt.locs, Pt.cells, Pt.slots] at X411 l411 y411 z411 st411 hQ411
        subst y411 z411
        obtain ⟨rfl, N411q, e411⟩ := hQ411
        have N411 : Fr n0 L411 := by rw [l411]; exact Fr.app N408 N411q
        change Stand _ _ _ _ _ _ _ _ _ _ _ _ 14 39 at X411
        have F_412 : Fld Z T401.heap b399 "com/example/outremer_engine/outremerengine/diplomacy/Order$SupportMove" "from" "Lcom/example/outremer_engine/outremerengine/board/Place;" (.ref b375) := (R400_2.keep K401c nin0)
        obtain ⟨cq413, kq413, q413a, q413b, q413c⟩ := isOf hZ e411 E_409
        obtain ⟨_, _, ⟨T413, L413, k413, n413⟩, -, X413, ⟨Lc413, hQ413, l413, y413, z413⟩, st413⟩ := X411.virtualBack hx (y := (⟨"com/example/outremer_engine/outremerengine/diplomacy/Order$SupportMove", "from", "()Lcom/example/outremer_engine/outremerengine/board/Place;"⟩ : MethodName)) (z := (⟨"com/example/outremer_engine/outremerengine/diplomacy/Order$SupportMove", "from", "()Lcom/example/outremer_engine/outremerengine/board/Place;"⟩ : MethodName)) hown (mvT hZ (hw _ (List.mem_of_getElem? (i := 95) rfl))) (mvT hZ (hw _ (List.mem_of_getElem? (i := 96) rfl))) (notFace_of_selects (args := #[]) (mvT hZ (hw _ (List.mem_of_getElem? (i := 98) rfl)))) (mvT hZ (hw _ (List.mem_of_getElem? (i := 98) rfl))) (mvT hZ (hw _ (List.mem_of_getElem? (i := 97) rfl))) (by decide) (backOf (W := 0) (rm15 l Z a0 hw [] b399 b375 T401.heap n0 Z401 F_412) hZ (hw _ (List.mem_of_getElem? (i := 99) rfl)) (hw _ (List.mem_of_getElem? (i := 65) rfl)) (by decide) (by decide)) q413a q413c (g := (mkF m 264 #[.val (.int pp1), .val (.int pp2), .val (.int pp3), .val (.int pp4), .val (.int pp5), .val (.int (1 : Int32)), .val (.int (1 : Int32)), .val (.int (1 : Int32)), .val (.ref b375), .val (.ref b375), .val (.ref b382), .val (.ref b382), .val (.ref op), .val (.ref b399), .val (.ref bx_401), .val (.int (1 : Int32)), .unset] [(.ref b399)])) rfl (by rw [hml]; rfl) (Steps.refl _) (argsL := []) (rest := []) (lenOf pd__28__29_Lcom_2f_example_2f_outremer_engine_2f_outremerengine_2f_board_2f_Place_3b_ rfl) rfl (by show 2 * 0 + _ ≤ _; exact Nat.le_of_eq rfl) (hb hby at_264) (fun _ _ => ⟨rfl, e411, (by decide : 14 + 0 ≤ _), (by decide : 39 + 0 ≤ _)⟩)
        dsimp only [Pt.U, Pt.locs, Pt.cells, Pt.slots] at X413 l413 y413 z413 st413 hQ413
        subst y413 z413
        obtain ⟨rfl, N413q, e413⟩ := hQ413
        have N413 : Fr n0 L413 := by rw [l413]; exact Fr.app N411 N413q
        change Stand _ _ _ _ _ _ _ _ _ _ _ _ 14 39 at X413
        have F_414 : Fld Z T401.heap b399 "com/example/outremer_engine/outremerengine/diplomacy/Order$SupportMove" "to" "Lcom/example/outremer_engine/outremerengine/board/Place;" (.ref b375) := (R400_3.keep K401c nin0)
        obtain ⟨cq415, kq415, q415a, q415b, q415c⟩ := isOf hZ e413 E_409
        obtain ⟨_, _, ⟨T415, L415, k415, n415⟩, -, X415, ⟨Lc415, hQ415, l415, y415, z415⟩, st415⟩ := X413.virtualBack hx (y := (⟨"com/example/outremer_engine/outremerengine/diplomacy/Order$SupportMove", "to", "()Lcom/example/outremer_engine/outremerengine/board/Place;"⟩ : MethodName)) (z := (⟨"com/example/outremer_engine/outremerengine/diplomacy/Order$SupportMove", "to", "()Lcom/example/outremer_engine/outremerengine/board/Place;"⟩ : MethodName)) hown (mvT hZ (hw _ (List.mem_of_getElem? (i := 100) rfl))) (mvT hZ (hw _ (List.mem_of_getElem? (i := 101) rfl))) (notFace_of_selects (args := #[]) (mvT hZ (hw _ (List.mem_of_getElem? (i := 103) rfl)))) (mvT hZ (hw _ (List.mem_of_getElem? (i := 103) rfl))) (mvT hZ (hw _ (List.mem_of_getElem? (i := 102) rfl))) (by decide) (backOf (W := 0) (rm16 l Z a0 hw [] b399 b375 T401.heap n0 Z401 F_414) hZ (hw _ (List.mem_of_getElem? (i := 104) rfl)) (hw _ (List.mem_of_getElem? (i := 65) rfl)) (by decide) (by decide)) q415a q415c (g := (mkF m 274 #[.val (.int pp1), .val (.int pp2), .val (.int pp3), .val (.int pp4), .val (.int pp5), .val (.int (1 : Int32)), .val (.int (1 : Int32)), .val (.int (1 : Int32)), .val (.ref b375), .val (.ref b375), .val (.ref b382), .val (.ref b382), .val (.ref op), .val (.ref b399), .val (.ref bx_401), .val (.int (1 : Int32)), .unset] [(.ref b399)])) rfl (by rw [hml]; rfl) (Steps.refl _) (argsL := []) (rest := []) (lenOf pd__28__29_Lcom_2f_example_2f_outremer_engine_2f_outremerengine_2f_board_2f_Place_3b_ rfl) rfl (by show 2 * 0 + _ ≤ _; exact Nat.le_of_eq rfl) (hb hby at_274) (fun _ _ => ⟨rfl, e413, (by decide : 14 + 0 ≤ _), (by decide : 39 + 0 ≤ _)⟩)
        dsimp only [Pt.U, Pt.locs, Pt.cells, Pt.slots] at X415 l415 y415 z415 st415 hQ415
        subst y415 z415
        obtain ⟨rfl, N415q, e415⟩ := hQ415
        have N415 : Fr n0 L415 := by rw [l415]; exact Fr.app N413 N415q
        change Stand _ _ _ _ _ _ _ _ _ _ _ _ 14 39 at X415
        have hc291_8 : ¬ ((1 : Int32) = (0 : Int32)) := by decide
        have hc296_8 : ¬ ((1 : Int32) = (0 : Int32)) := by decide
        obtain ⟨fs, hr, hrun, hended, hW, hsame⟩ := X415.leave (v := some (.int (1 : Int32))) (fun h => by rw [Bd.returns] at h; cases h)
        refine ⟨_, _, pre335 _ ?_, hrun, hended, _, _, rfl, ?_, ⟨_, rfl⟩, hW, hsame.mono (by decide) (by decide)⟩
        · show Steps p.tables e below (s₁.setTop (mkF m 32 #[.val (.int pp1), .val (.int pp2), .val (.int pp3), .val (.int pp4), .val (.int pp5), .val (.int (1 : Int32)), .val (.int (1 : Int32)), .unset, .unset, .unset, .unset, .unset, .unset, .unset, .unset, .unset, .unset] [(.int (pp5 &&& (4 : Int32)))])) _
          refine XS.ifNo X0.here hx rfl (hb hby at_32) rfl ((if0 _ _).trans (feq hc32_4).1) ?_
          refine XS.iconst X0.here hx rfl (hb hby at_35) ?_
          refine XS.goto X0.here hx rfl (pc0 := 36) (pc' := 40) rfl (hb hby at_36) (by decide) (by decide) ?_
          refine XS.istore X0.here hx rfl (hb hby at_40) rfl (l' := #[.val (.int pp1), .val (.int pp2), .val (.int pp3), .val (.int pp4), .val (.int pp5), .val (.int (1 : Int32)), .val (.int (1 : Int32)), .val (.int (1 : Int32)), .unset, .unset, .unset, .unset, .unset, .unset, .unset, .unset, .unset]) rfl ?_
          refine st375 _ ?_
          refine XS.dup X375.here hx rfl (hb hby at_45) rfl rfl ?_
          refine XS.aconstNull X375.here hx rfl (hb hby at_46) ?_
          refine XS.iloadN X375.here hx rfl (hb hby at_47) rfl ?_
          refine st377 _ ?_
          refine st381.trans ?_
          refine XS.astore X381.here hx rfl (hb hby at_54) rfl rfl (l' := #[.val (.int pp1), .val (.int pp2), .val (.int pp3), .val (.int pp4), .val (.int pp5), .val (.int (1 : Int32)), .val (.int (1 : Int32)), .val (.int (1 : Int32)), .val (.ref b375), .unset, .unset, .unset, .unset, .unset, .unset, .unset, .unset]) rfl ?_
          refine XS.iload X381.here hx rfl (hb hby at_56) rfl ?_
          refine XS.ifNo X381.here hx rfl (hb hby at_58) rfl ((if0 _ _).trans (feq hc58_8).1) ?_
          refine XS.aload X381.here hx rfl (hb hby at_61) rfl rfl ?_
          refine XS.goto X381.here hx rfl (pc0 := 63) (pc' := 78) rfl (hb hby at_63) (by decide) (by decide) ?_
          refine XS.astore X381.here hx rfl (hb hby at_78) rfl rfl (l' := #[.val (.int pp1), .val (.int pp2), .val (.int pp3), .val (.int pp4), .val (.int pp5), .val (.int (1 : Int32)), .val (.int (1 : Int32)), .val (.int (1 : Int32)), .val (.ref b375), .val (.ref b375), .unset, .unset, .unset, .unset, .unset, .unset, .unset]) rfl ?_
          refine st382 _ ?_
          refine XS.dup X382.here hx rfl (hb hby at_83) rfl rfl ?_
          refine XS.iloadN X382.here hx rfl (hb hby at_84) rfl ?_
          refine st384 _ ?_
          refine XS.aconstNull X384.here hx rfl (hb hby at_88) ?_
          refine st385 _ ?_
          refine XS.dup X385.here hx rfl (hb hby at_92) rfl rfl ?_
          refine XS.aconstNull X385.here hx rfl (hb hby at_93) ?_
          refine XS.iloadN X385.here hx rfl (hb hby at_94) rfl ?_
          refine XS.bipush X385.here hx rfl (hb hby at_95) ?_
          refine XS.iushr X385.here hx rfl (hb hby at_97) rfl ?_
          refine st387 _ ?_
          refine st391.trans ?_
          refine st396.trans ?_
          refine XS.astore X396.here hx rfl (hb hby at_107) rfl rfl (l' := #[.val (.int pp1), .val (.int pp2), .val (.int pp3), .val (.int pp4), .val (.int pp5), .val (.int (1 : Int32)), .val (.int (1 : Int32)), .val (.int (1 : Int32)), .val (.ref b375), .val (.ref b375), .val (.ref b382), .unset, .unset, .unset, .unset, .unset, .unset]) rfl ?_
          refine XS.iload X396.here hx rfl (hb hby at_109) rfl ?_
          refine XS.ifNo X396.here hx rfl (hb hby at_111) rfl ((if0 _ _).trans (feq hc111_8).1) ?_
          refine XS.aload X396.here hx rfl (hb hby at_114) rfl rfl ?_
          refine XS.goto X396.here hx rfl (pc0 := 116) (pc' := 146) rfl (hb hby at_116) (by decide) (by decide) ?_
          refine XS.astore X396.here hx rfl (hb hby at_146) rfl rfl (l' := #[.val (.int pp1), .val (.int pp2), .val (.int pp3), .val (.int pp4), .val (.int pp5), .val (.int (1 : Int32)), .val (.int (1 : Int32)), .val (.int (1 : Int32)), .val (.ref b375), .val (.ref b375), .val (.ref b382), .val (.ref b382), .unset, .unset, .unset, .unset, .unset]) rfl ?_
          refine XS.iload X396.here hx rfl (hb hby at_148) rfl ?_
          refine XS.ifNo X396.here hx rfl (hb hby at_150) rfl ((if0 _ _).trans (feq hc150_8).1) ?_
          refine st398 _ ?_
          refine XS.goto X398.here hx rfl (pc0 := 156) (pc' := 160) rfl (hb hby at_156) (by decide) (by decide) ?_
          refine XS.astore X398.here hx rfl (hb hby at_160) rfl rfl (l' := #[.val (.int pp1), .val (.int pp2), .val (.int pp3), .val (.int pp4), .val (.int pp5), .val (.int (1 : Int32)), .val (.int (1 : Int32)), .val (.int (1 : Int32)), .val (.ref b375), .val (.ref b375), .val (.ref b382), .val (.ref b382), .val (.ref op), .unset, .unset, .unset, .unset]) rfl ?_
          refine st399 _ ?_
          refine XS.dup X399.here hx rfl (hb hby at_165) rfl rfl ?_
          refine XS.aload X399.here hx rfl (hb hby at_166) rfl rfl ?_
          refine XS.aload X399.here hx rfl (hb hby at_168) rfl rfl ?_
          refine XS.aload X399.here hx rfl (hb hby at_170) rfl rfl ?_
          refine XS.aload X399.here hx rfl (hb hby at_172) rfl rfl ?_
          refine st400.trans ?_
          refine XS.astore X400.here hx rfl (hb hby at_177) rfl rfl (l' := #[.val (.int pp1), .val (.int pp2), .val (.int pp3), .val (.int pp4), .val (.int pp5), .val (.int (1 : Int32)), .val (.int (1 : Int32)), .val (.int (1 : Int32)), .val (.ref b375), .val (.ref b375), .val (.ref b382), .val (.ref b382), .val (.ref op), .val (.ref b399), .unset, .unset, .unset]) rfl ?_
          refine XS.aload X400.here hx rfl (hb hby at_179) rfl rfl ?_
          refine XS.aload X400.here hx rfl (hb hby at_181) rfl rfl ?_
          refine st401.trans ?_
          refine XS.astore X401.here hx rfl (hb hby at_186) rfl rfl (l' := #[.val (.int pp1), .val (.int pp2), .val (.int pp3), .val (.int pp4), .val (.int pp5), .val (.int (1 : Int32)), .val (.int (1 : Int32)), .val (.int (1 : Int32)), .val (.ref b375), .val (.ref b375), .val (.ref b382), .val (.ref b382), .val (.ref op), .val (.ref b399), .val (.ref bx_401), .unset, .unset]) rfl ?_
          refine XS.aload X401.here hx rfl (hb hby at_188) rfl rfl ?_
          refine XS.ifnonnullYes X401.here hx rfl (pc0 := 190) (pc' := 195) rfl (hb hby at_190) rfl (by decide) (by decide) ?_
          refine XS.aload X401.here hx rfl (hb hby at_195) rfl rfl ?_
          refine st403.trans ?_
          refine XS.aload X403.here hx rfl (hb hby at_200) rfl rfl ?_
          refine Jvm.RoadKit.acmp (g := (mkF m 202 #[.val (.int pp1), .val (.int pp2), .val (.int pp3), .val (.int pp4), .val (.int pp5), .val (.int (1 : Int32)), .val (.int (1 : Int32)), .val (.int (1 : Int32)), .val (.ref b375), .val (.ref b375), .val (.ref b382), .val (.ref b382), .val (.ref op), .val (.ref b399), .val (.ref bx_401), .unset, .unset] [(.ref b382), (.ref b382)])) X403 hx rfl rfl rfl (pc0 := 202) (pc' := 205) (same := true) rfl (hb hby at_202) rfl (decide_eq_true rfl) (by decide) (by decide) ?_
          refine XS.aload X403.here hx rfl (hb hby at_205) rfl rfl ?_
          refine st404.trans ?_
          refine XS.aload X404.here hx rfl (hb hby at_210) rfl rfl ?_
          refine Jvm.RoadKit.acmp (g := (mkF m 212 #[.val (.int pp1), .val (.int pp2), .val (.int pp3), .val (.int pp4), .val (.int pp5), .val (.int (1 : Int32)), .val (.int (1 : Int32)), .val (.int (1 : Int32)), .val (.ref b375), .val (.ref b375), .val (.ref b382), .val (.ref b382), .val (.ref op), .val (.ref b399), .val (.ref bx_401), .unset, .unset] [(.ref op), (.ref op)])) X404 hx rfl rfl rfl (pc0 := 212) (pc' := 215) (same := true) rfl (hb hby at_212) rfl (decide_eq_true rfl) (by decide) (by decide) ?_
          refine XS.aload X404.here hx rfl (hb hby at_215) rfl rfl ?_
          refine st405.trans ?_
          refine XS.aload X405.here hx rfl (hb hby at_220) rfl rfl ?_
          refine Jvm.RoadKit.acmp (g := (mkF m 222 #[.val (.int pp1), .val (.int pp2), .val (.int pp3), .val (.int pp4), .val (.int pp5), .val (.int (1 : Int32)), .val (.int (1 : Int32)), .val (.int (1 : Int32)), .val (.ref b375), .val (.ref b375), .val (.ref b382), .val (.ref b382), .val (.ref op), .val (.ref b399), .val (.ref bx_401), .unset, .unset] [(.ref b375), (.ref b375)])) X405 hx rfl rfl rfl (pc0 := 222) (pc' := 225) (same := true) rfl (hb hby at_222) rfl (decide_eq_true rfl) (by decide) (by decide) ?_
          refine XS.aload X405.here hx rfl (hb hby at_225) rfl rfl ?_
          refine st406.trans ?_
          refine XS.aload X406.here hx rfl (hb hby at_230) rfl rfl ?_
          refine Jvm.RoadKit.acmp (g := (mkF m 232 #[.val (.int pp1), .val (.int pp2), .val (.int pp3), .val (.int pp4), .val (.int pp5), .val (.int (1 : Int32)), .val (.int (1 : Int32)), .val (.int (1 : Int32)), .val (.ref b375), .val (.ref b375), .val (.ref b382), .val (.ref b382), .val (.ref op), .val (.ref b399), .val (.ref bx_401), .unset, .unset] [(.ref b375), (.ref b375)])) X406 hx rfl rfl rfl (pc0 := 232) (pc' := 235) (same := true) rfl (hb hby at_232) rfl (decide_eq_true rfl) (by decide) (by decide) ?_
          refine XS.iconst X406.here hx rfl (hb hby at_235) ?_
          refine XS.goto X406.here hx rfl (pc0 := 236) (pc' := 240) rfl (hb hby at_236) (by decide) (by decide) ?_
          refine XS.istore X406.here hx rfl (hb hby at_240) rfl (l' := #[.val (.int pp1), .val (.int pp2), .val (.int pp3), .val (.int pp4), .val (.int pp5), .val (.int (1 : Int32)), .val (.int (1 : Int32)), .val (.int (1 : Int32)), .val (.ref b375), .val (.ref b375), .val (.ref b382), .val (.ref b382), .val (.ref op), .val (.ref b399), .val (.ref bx_401), .val (.int (1 : Int32)), .unset]) rfl ?_
          refine XS.aload X406.here hx rfl (hb hby at_242) rfl rfl ?_
          refine st408.trans ?_
          refine XS.aload X408.here hx rfl (hb hby at_247) rfl rfl ?_
          refine Jvm.RoadKit.acmp (g := (mkF m 249 #[.val (.int pp1), .val (.int pp2), .val (.int pp3), .val (.int pp4), .val (.int pp5), .val (.int (1 : Int32)), .val (.int (1 : Int32)), .val (.int (1 : Int32)), .val (.ref b375), .val (.ref b375), .val (.ref b382), .val (.ref b382), .val (.ref op), .val (.ref b399), .val (.ref bx_401), .val (.int (1 : Int32)), .unset] [(.ref b382), (.ref b382)])) X408 hx rfl rfl rfl (pc0 := 249) (pc' := 252) (same := true) rfl (hb hby at_249) rfl (decide_eq_true rfl) (by decide) (by decide) ?_
          refine XS.aload X408.here hx rfl (hb hby at_252) rfl rfl ?_
          refine st411.trans ?_
          refine XS.aload X411.here hx rfl (hb hby at_257) rfl rfl ?_
          refine Jvm.RoadKit.acmp (g := (mkF m 259 #[.val (.int pp1), .val (.int pp2), .val (.int pp3), .val (.int pp4), .val (.int pp5), .val (.int (1 : Int32)), .val (.int (1 : Int32)), .val (.int (1 : Int32)), .val (.ref b375), .val (.ref b375), .val (.ref b382), .val (.ref b382), .val (.ref op), .val (.ref b399), .val (.ref bx_401), .val (.int (1 : Int32)), .unset] [(.ref op), (.ref op)])) X411 hx rfl rfl rfl (pc0 := 259) (pc' := 262) (same := true) rfl (hb hby at_259) rfl (decide_eq_true rfl) (by decide) (by decide) ?_
          refine XS.aload X411.here hx rfl (hb hby at_262) rfl rfl ?_
          refine st413.trans ?_
          refine XS.aload X413.here hx rfl (hb hby at_267) rfl rfl ?_
          refine Jvm.RoadKit.acmp (g := (mkF m 269 #[.val (.int pp1), .val (.int pp2), .val (.int pp3), .val (.int pp4), .val (.int pp5), .val (.int (1 : Int32)), .val (.int (1 : Int32)), .val (.int (1 : Int32)), .val (.ref b375), .val (.ref b375), .val (.ref b382), .val (.ref b382), .val (.ref op), .val (.ref b399), .val (.ref bx_401), .val (.int (1 : Int32)), .unset] [(.ref b375), (.ref b375)])) X413 hx rfl rfl rfl (pc0 := 269) (pc' := 272) (same := true) rfl (hb hby at_269) rfl (decide_eq_true rfl) (by decide) (by decide) ?_
          refine XS.aload X413.here hx rfl (hb hby at_272) rfl rfl ?_
          refine st415.trans ?_
          refine XS.aload X415.here hx rfl (hb hby at_277) rfl rfl ?_
          refine Jvm.RoadKit.acmp (g := (mkF m 279 #[.val (.int pp1), .val (.int pp2), .val (.int pp3), .val (.int pp4), .val (.int pp5), .val (.int (1 : Int32)), .val (.int (1 : Int32)), .val (.int (1 : Int32)), .val (.ref b375), .val (.ref b375), .val (.ref b382), .val (.ref b382), .val (.ref op), .val (.ref b399), .val (.ref bx_401), .val (.int (1 : Int32)), .unset] [(.ref b375), (.ref b375)])) X415 hx rfl rfl rfl (pc0 := 279) (pc' := 282) (same := true) rfl (hb hby at_279) rfl (decide_eq_true rfl) (by decide) (by decide) ?_
          refine XS.iconst X415.here hx rfl (hb hby at_282) ?_
          refine XS.goto X415.here hx rfl (pc0 := 283) (pc' := 287) rfl (hb hby at_283) (by decide) (by decide) ?_
          refine XS.istore X415.here hx rfl (hb hby at_287) rfl (l' := #[.val (.int pp1), .val (.int pp2), .val (.int pp3), .val (.int pp4), .val (.int pp5), .val (.int (1 : Int32)), .val (.int (1 : Int32)), .val (.int (1 : Int32)), .val (.ref b375), .val (.ref b375), .val (.ref b382), .val (.ref b382), .val (.ref op), .val (.ref b399), .val (.ref bx_401), .val (.int (1 : Int32)), .val (.int (1 : Int32))]) rfl ?_
          refine XS.iload X415.here hx rfl (hb hby at_289) rfl ?_
          refine XS.ifNo X415.here hx rfl (hb hby at_291) rfl ((if0 _ _).trans (feq hc291_8).1) ?_
          refine XS.iload X415.here hx rfl (hb hby at_294) rfl ?_
          refine XS.ifNo X415.here hx rfl (hb hby at_296) rfl ((if0 _ _).trans (feq hc296_8).1) ?_
          refine XS.iconst X415.here hx rfl (hb hby at_299) ?_
          refine XS.goto X415.here hx rfl (pc0 := 300) (pc' := 304) rfl (hb hby at_300) (by decide) (by decide) ?_
          exact retN X415 hx (t := .boolean) Bd.returns (by simp) (hb hby at_304) hr
        · show Q0 Z pp1 pp2 pp3 pp4 pp5 cs op h0 n0 _ T415.heap _
          rw [e415]
          exact ⟨rfl, N415⟩
set_option maxRecDepth 65536 in
set_option maxHeartbeats 40000000 in
theorem comes_1 {Post : Tables → Env → Array Value → State → Outcome → State → Prop} (hpost : ∀ tb e args s v u, (limb_1_1.after args s (.returned v) u = true ∧ limb_1_2.after args s (.returned v) u = true ∧ True) → FrameEnd s (.returned v) u (Jvm.fieldLocs frame_1_writes args s ++ Jvm.arrayLocs frame_1_arrays args s ++ Jvm.staticLocs frame_1_statics s) 64 256 → Post tb e args s (.returned v) u) :
    ArmFor flags0 classFile x code maxLocals ret World_1 tables_1 room_1 Calls_1 rest_1 Pre_1 Post := by
  intro l hfl _ _ p e ha hc hk s m args below hf hA hF happ hP
  obtain ⟨hcalls, hrest, hpre⟩ := hP
  obtain ⟨-, -, -, hnamed, -, -, -, hat⟩ := (Spec.applies_iff hf).mp happ
  obtain ⟨hg, hn⟩ := and_e (Cond.before_iff.mp (show (Jvm.Cond.and given_1 narrow_1).before args s = true from hpre))
  obtain ⟨g1, g2⟩ := and_e hg
  obtain ⟨g3, g4⟩ := and_e g2
  obtain ⟨g5, g6⟩ := and_e g4
  obtain ⟨g7, g8⟩ := and_e g6
  obtain ⟨g9, g10⟩ := and_e g8
  obtain ⟨w0, w1, w2, w3, w4, rfl⟩ : ∃ w0 w1 w2 w3 w4 : Value, args = #[w0, w1, w2, w3, w4] := by
    have hs : args.size = 5 := by simpa [Cond.value, given_1] using g1
    obtain ⟨L⟩ := args
    match L, hs with
    | [w0, w1, w2, w3, w4], _ => exact ⟨w0, w1, w2, w3, w4, rfl⟩
  have hw := fun d (hd : d ∈ tables_1) => atoms_spec (ws := Jvm.Cond.code x code maxLocals ret :: tables_1) hat d (List.mem_cons_of_mem _ hd)
  have hfit : Fit s := fun {y c} hc i hi => by
    obtain ⟨ha, rfl⟩ := Array.getElem?_eq_some_iff.mp hc
    have q := List.all_eq_true.mp ((Array.all_eq_true_iff_forall_mem.mp hF) _ (Array.getElem_mem ha)) i (List.mem_range.mpr hi)
    simpa [Array.getElem?_eq_getElem hi] using q
  obtain ⟨hsets, hown0⟩ := atoms_of _ (rest_1_c_eq ▸ (show rest_1_c.before _ s = true from hrest))
  have hr0 := Cond.before_iff.mp hown0
  obtain ⟨i0, ei0⟩ := is_v g3
  obtain rfl : w0 = (.int i0) := Option.some.inj ei0
  obtain ⟨i1, ei1⟩ := is_v g5
  obtain rfl : w1 = (.int i1) := Option.some.inj ei1
  obtain ⟨i2, ei2⟩ := is_v g7
  obtain rfl : w2 = (.int i2) := Option.some.inj ei2
  obtain ⟨i3, ei3⟩ := is_v g9
  obtain rfl : w3 = (.int i3) := Option.some.inj ei3
  obtain ⟨i4, ei4⟩ := is_v g10
  obtain rfl : w4 = (.int i4) := Option.some.inj ei4
  obtain ⟨cs, evc⟩ := is_v (Cond.before_iff.mp (hsets _ (List.mem_of_getElem? (i := 1) rfl)))
  have staC := Sta.start evc (Or.inl (hsets _ (List.mem_of_getElem? (i := 0) rfl)))
  have hcs : ¬ cs = (0 : Int32) := own_neq evc (Cond.before_iff.mp (hsets _ (List.mem_of_getElem? (i := 2) rfl)))
  have hE := Cond.before_iff.mp (hsets _ (List.mem_of_getElem? (i := 11) rfl))
  obtain ⟨xo, evo⟩ := exa_v hE
  have staO := Sta.start evo (Or.inl (hsets _ (List.mem_of_getElem? (i := 10) rfl)))
  obtain ⟨n, o, h1, h2, h3, _, L, rfl, ⟨rfl, N⟩, hq⟩ := rm0 l s _ hw tables_1 i0 i1 i2 i3 i4 cs xo s.heap s.heap.size (Nat.le_refl _) (Old.start s) staC hcs staO p e ha hc hk s m _ below hf ((Spec.applies_iff_loose hf).mp happ).1 ⟨rfl, State.Warmed39.refl s, rfl⟩ trivial
  refine ⟨n, _, h1, h2, h3, hpost _ _ _ _ _ _ ⟨Cond.after_iff.mpr rfl, Cond.after_iff.mpr (eq_i res_at (Term.int_eval (1)) rfl), trivial⟩ ⟨hq.1, hq.2.1, (hq.2.2.sift fun y hy => Or.inr (N y hy)).mono (by decide) (by decide)⟩⟩
theorem main_1_1 : Claimed_1_1 := comes_1 fun _ _ _ _ _ _ h hF => ⟨h.1, hF⟩
theorem main_1_2 : Claimed_1_2 := comes_1 fun _ _ _ _ _ _ h hF => ⟨h.2.1, hF⟩
end Jvm.Pilot.@@N@@
namespace Jvm.Pilot.@@N@@
open Jvm Jvm.ClassFile Sem Op Lib Jvm.Free Jvm.Stand Jvm.Pilot.@@N@@.Jvm.D
/-! MADE BY PROGRAM (witnessworld.py) out of the Statement's table words and the real class files: 26 classes; the members and pool entries that the words name. The judged class is class 1, her method 2. -/
namespace start1
open Jvm.ClassFile
def u (s : String) : CpInfo := .utf8 (stringToUtf16 s)
/-- a pool by its gaps: so many unusable entries, then the entry; so many at the end -/
def gap : Nat → List CpInfo → List CpInfo
  | 0, r => r
  | n + 1, r => .unusable :: gap n r
def poolList (es : List (Nat × CpInfo)) (last : Nat) : List CpInfo := es.foldr (fun e r => gap e.1 (e.2 :: r)) (gap last [])
def pool (es : List (Nat × CpInfo)) (last : Nat) : Array CpInfo := ⟨poolList es last⟩
def fileOf (pool : Array CpInfo) (this : Nat) (attrs : Array Attribute := #[]) (ms : Array MethodInfo := #[]) (fl : Nat := 33) (sup : Nat := 0) (ifs : Array Nat := #[]) (fds : Array FieldInfo := #[]) : ClassFile where
  minorVersion := 0
  majorVersion := 65
  constantPool := pool
  accessFlags := fl
  thisClass := this
  superClass := sup
  interfaces := ifs
  fields := fds
  methods := ms
  attributes := attrs
def plain (name : String) (sup : Option ClassId) : Class where
  name := name
  kind := .ordinary
  loader := none
  accessFlags := 33
  super := sup
  interfaces := #[]
  cf := none
  fields := #[]
  methods := #[]
  instanceTypes := #[]
  staticTypes := #[]
  resolved := #[]
  callSites := []
  init := .initialized
  statics := none
  mirror := none

def pool0 : Array CpInfo := pool [(5, u "<init>"), (0, u "()V"), (1, .class_ 10), (1, u "java/lang/Object")] 113

def k0c0 : Code := { maxStack := 0, maxLocals := 1, code := object_method_1_code, exceptionTable := #[], attributes := #[] }
def k0m0 : Method := { name := "<init>", desc := "()V", sig := { parameters := [], returnType := none }, accessFlags := 1, code := some k0c0 }
/-- java/lang/Object -/
def k0 : Class := { plain "java/lang/Object" none with
  accessFlags := 33
  interfaces := #[]
  cf := some (fileOf pool0 8 #[] #[{ accessFlags := 1, nameIndex := 5, descriptorIndex := 6, attributes := #[] }] 33 0 #[] #[])
  fields := #[]
  methods := #[k0m0]
  instanceTypes := #[]
  staticTypes := #[]
  resolved := Array.replicate 124 none
  statics := none }

def pool1 : Array CpInfo := pool [(2, .class_ 4), (1, u "java/lang/Object"), (0, u "<init>"), (0, u "()V"), (0, .class_ 8), (0, u "java/lang/String"), (0, .methodref 7 10), (0, .nameAndType 5 11), (0, u "([C)V"), (0, .class_ 13), (0, u "com/example/outremer_engine/outremerengine/board/Place"), (0, .methodref 15 16), (0, .class_ 17), (0, .nameAndType 18 19), (0, u "com/example/outremer_engine/outremerengine/diplomacy/SupportMoveGivenToPinLaw"), (0, u "drawn"), (0, u "(I)Ljava/lang/String;"), (0, .methodref 12 21), (0, .nameAndType 5 22), (0, u "(Lcom/example/outremer_engine/outremerengine/board/Province;Ljava/lang/String;)V"), (0, .class_ 24), (0, u "com/example/outremer_engine/outremerengine/board/Unit"), (0, .methodref 23 26), (0, .nameAndType 5 27), (0, u "(Ljava/lang/String;Lcom/example/outremer_engine/outremerengine/board/UnitType;Lcom/example/outremer_engine/outremerengine/board/Place;)V"), (0, .methodref 29 30), (0, .class_ 31), (0, .nameAndType 32 33), (0, u "java/util/Optional"), (0, u "empty"), (0, u "()Ljava/util/Optional;"), (0, .class_ 35), (0, u "com/example/outremer_engine/outremerengine/diplomacy/Order$SupportMove"), (0, .methodref 34 37), (0, .nameAndType 5 38), (0, u "(Lcom/example/outremer_engine/outremerengine/board/Unit;Ljava/util/Optional;Lcom/example/outremer_engine/outremerengine/board/Place;Lcom/example/outremer_engine/outremerengine/board/Place;)V"), (0, .methodref 34 40), (0, .nameAndType 41 42), (0, u "givenTo"), (0, u "(Lcom/example/outremer_engine/outremerengine/board/Unit;)Lcom/example/outremer_engine/outremerengine/diplomacy/Order$SupportMove;"), (0, .methodref 34 44), (0, .nameAndType 45 46), (0, u "unit"), (0, u "()Lcom/example/outremer_engine/outremerengine/board/Unit;"), (0, .methodref 34 48), (0, .nameAndType 49 33), (0, u "supportedType"), (0, .methodref 34 51), (0, .nameAndType 52 53), (0, u "from"), (0, u "()Lcom/example/outremer_engine/outremerengine/board/Place;"), (0, .methodref 34 55), (0, .nameAndType 56 53), (0, u "to"), (2, u "law"), (0, u "(IIIII)Z")] 7

def k1m0 : Method := { name := "<init>", desc := "()V", sig := { parameters := [], returnType := none }, accessFlags := 1, code := none }
def k1c1 : Code := { maxStack := 4, maxLocals := 2, code := method_2_code, exceptionTable := #[], attributes := #[] }
def k1m1 : Method := { name := "drawn", desc := "(I)Ljava/lang/String;", sig := { parameters := [.int], returnType := some (.object "java/lang/String") }, accessFlags := 10, code := some k1c1 }
def k1c2 : Code := { maxStack := 9, maxLocals := 17, code := code, exceptionTable := #[], attributes := #[] }
def k1m2 : Method := { name := "law", desc := "(IIIII)Z", sig := { parameters := [.int, .int, .int, .int, .int], returnType := some .boolean }, accessFlags := 9, code := some k1c2 }
/-- com/example/outremer_engine/outremerengine/diplomacy/SupportMoveGivenToPinLaw -/
def k1 : Class := { plain "com/example/outremer_engine/outremerengine/diplomacy/SupportMoveGivenToPinLaw" (some 0) with
  accessFlags := 49
  interfaces := #[]
  cf := some (fileOf pool1 15 #[] #[{ accessFlags := 1, nameIndex := 5, descriptorIndex := 6, attributes := #[] }, { accessFlags := 10, nameIndex := 18, descriptorIndex := 19, attributes := #[] }, { accessFlags := 9, nameIndex := 59, descriptorIndex := 60, attributes := #[] }] 49 2 #[] #[])
  fields := #[]
  methods := #[k1m0, k1m1, k1m2]
  instanceTypes := #[]
  staticTypes := #[]
  resolved := Array.replicate 68 none
  statics := none }

def pool2 : Array CpInfo := pool [(1, .methodref 2 3), (0, .class_ 4), (0, .nameAndType 5 6), (0, u "java/lang/Object"), (0, u "<init>"), (0, u "()V"), (0, .class_ 8), (0, u "java/lang/Record")] 13

def k2c0 : Code := { maxStack := 1, maxLocals := 1, code := jdk_30_method_1_code, exceptionTable := #[], attributes := #[] }
def k2m0 : Method := { name := "<init>", desc := "()V", sig := { parameters := [], returnType := none }, accessFlags := 4, code := some k2c0 }
/-- java/lang/Record -/
def k2 : Class := { plain "java/lang/Record" (some 0) with
  accessFlags := 1057
  interfaces := #[]
  cf := some (fileOf pool2 7 #[] #[{ accessFlags := 4, nameIndex := 5, descriptorIndex := 6, attributes := #[] }] 1057 2 #[] #[])
  fields := #[]
  methods := #[k2m0]
  instanceTypes := #[]
  staticTypes := #[]
  resolved := Array.replicate 22 none
  statics := none }

def pool3 : Array CpInfo := pool [(1, .methodref 2 3), (0, .class_ 4), (0, .nameAndType 5 6), (0, u "java/lang/Record"), (0, u "<init>"), (0, u "()V"), (0, .fieldref 8 9), (0, .class_ 10), (0, .nameAndType 11 12), (0, u "com/example/outremer_engine/outremerengine/board/Place"), (0, u "province"), (0, u "Lcom/example/outremer_engine/outremerengine/board/Province;"), (0, .fieldref 8 14), (0, .nameAndType 15 16), (0, u "coast"), (0, u "Ljava/lang/String;"), (4, u "(Lcom/example/outremer_engine/outremerengine/board/Province;Ljava/lang/String;)V")] 66

def k3c0 : Code := { maxStack := 2, maxLocals := 3, code := prog_5_method_2_code, exceptionTable := #[], attributes := #[] }
def k3m0 : Method := { name := "<init>", desc := "(Lcom/example/outremer_engine/outremerengine/board/Province;Ljava/lang/String;)V", sig := { parameters := [(.object "com/example/outremer_engine/outremerengine/board/Province"), (.object "java/lang/String")], returnType := none }, accessFlags := 1, code := some k3c0 }
/-- com/example/outremer_engine/outremerengine/board/Place -/
def k3 : Class := { plain "com/example/outremer_engine/outremerengine/board/Place" (some 2) with
  accessFlags := 49
  interfaces := #[]
  cf := some (fileOf pool3 8 #[] #[{ accessFlags := 1, nameIndex := 5, descriptorIndex := 21, attributes := #[] }] 49 2 #[] #[{ accessFlags := 18, nameIndex := 11, descriptorIndex := 12, attributes := #[] }, { accessFlags := 18, nameIndex := 15, descriptorIndex := 16, attributes := #[] }])
  fields := #[{ name := "province", type := (.object "com/example/outremer_engine/outremerengine/board/Province"), accessFlags := 18, slot := 0, constantValue := 0 }, { name := "coast", type := (.object "java/lang/String"), accessFlags := 18, slot := 1, constantValue := 0 }]
  methods := #[k3m0]
  instanceTypes := #[(.object "com/example/outremer_engine/outremerengine/board/Province"), (.object "java/lang/String")]
  staticTypes := #[]
  resolved := Array.replicate 88 none
  statics := none }

def pool4 : Array CpInfo := pool [(1, .class_ 2), (0, u "java/io/Serializable"), (0, .class_ 4), (0, u "java/lang/Object")] 2

/-- java/io/Serializable -/
def k4 : Class := { plain "java/io/Serializable" (some 0) with
  accessFlags := 1537
  interfaces := #[]
  cf := some (fileOf pool4 1 #[] #[] 1537 3 #[] #[])
  fields := #[]
  methods := #[]
  instanceTypes := #[]
  staticTypes := #[]
  resolved := Array.replicate 7 none
  statics := none }

def pool5 : Array CpInfo := pool [(1, .class_ 2), (0, u "java/lang/Comparable"), (0, .class_ 4), (0, u "java/lang/Object")] 7

/-- java/lang/Comparable -/
def k5 : Class := { plain "java/lang/Comparable" (some 0) with
  accessFlags := 1537
  interfaces := #[]
  cf := some (fileOf pool5 1 #[] #[] 1537 3 #[] #[])
  fields := #[]
  methods := #[]
  instanceTypes := #[]
  staticTypes := #[]
  resolved := Array.replicate 12 none
  statics := none }

def pool6 : Array CpInfo := pool [(2, .class_ 4), (1, u "java/lang/CharSequence"), (42, .class_ 48), (0, u "java/lang/CharSequence$1CodePointIterator"), (10, .class_ 60), (0, u "java/lang/CharSequence$1CharIterator"), (5, .class_ 67), (0, u "java/lang/Object")] 63

/-- java/lang/CharSequence -/
def k6 : Class := { plain "java/lang/CharSequence" (some 0) with
  accessFlags := 1537
  interfaces := #[]
  cf := some (fileOf pool6 2 #[.nestMembers #[47, 59]] #[] 1537 66 #[] #[])
  fields := #[]
  methods := #[]
  instanceTypes := #[]
  staticTypes := #[]
  resolved := Array.replicate 131 none
  statics := none }

def pool7 : Array CpInfo := pool [(1, .class_ 2), (0, u "java/lang/constant/Constable"), (0, .class_ 4), (0, u "java/lang/Object")] 6

/-- java/lang/constant/Constable -/
def k7 : Class := { plain "java/lang/constant/Constable" (some 0) with
  accessFlags := 1537
  interfaces := #[]
  cf := some (fileOf pool7 1 #[] #[] 1537 3 #[] #[])
  fields := #[]
  methods := #[]
  instanceTypes := #[]
  staticTypes := #[]
  resolved := Array.replicate 11 none
  statics := none }

def pool8 : Array CpInfo := pool [(1, .class_ 2), (0, u "java/lang/constant/ConstantDesc"), (0, .class_ 4), (0, u "java/lang/Object")] 32

/-- java/lang/constant/ConstantDesc -/
def k8 : Class := { plain "java/lang/constant/ConstantDesc" (some 0) with
  accessFlags := 1537
  interfaces := #[]
  cf := some (fileOf pool8 1 #[] #[] 1537 3 #[] #[])
  fields := #[]
  methods := #[]
  instanceTypes := #[]
  staticTypes := #[]
  resolved := Array.replicate 37 none
  statics := none }

def pool9 : Array CpInfo := pool [(1, .methodref 2 3), (0, .class_ 4), (0, .nameAndType 5 6), (0, u "java/lang/Object"), (0, u "<init>"), (0, u "()V"), (2, .fieldref 10 11), (0, .class_ 12), (0, .nameAndType 13 14), (0, u "java/lang/String"), (0, u "value"), (0, u "[B"), (0, .fieldref 10 16), (0, .nameAndType 17 18), (0, u "coder"), (0, u "B"), (2, u "hash"), (0, u "I"), (2, u "hashIsZero"), (0, u "Z"), (0, .methodref 10 28), (0, .nameAndType 5 29), (0, u "([CIILjava/lang/Void;)V"), (8, .fieldref 10 39), (0, .nameAndType 40 26), (0, u "COMPACT_STRINGS"), (1, .class_ 44), (1, u "java/lang/StringUTF16"), (0, u "compress"), (1, .methodref 42 48), (0, .nameAndType 49 50), (0, u "coderFromArrayLen"), (0, u "([BI)B"), (126, .methodref 42 178), (0, .nameAndType 45 179), (0, u "([CII)[B"), (395, .class_ 576), (0, u "java/lang/CharSequence"), (22, u "CASE_INSENSITIVE_ORDER"), (0, u "Ljava/util/Comparator;"), (409, u "([C)V"), (90, u "serialPersistentFields"), (0, u "[Ljava/io/ObjectStreamField;"), (0, .class_ 1104), (0, u "java/lang/String$CaseInsensitiveComparator"), (1, .class_ 1107), (0, u "java/io/Serializable"), (0, .class_ 1109), (0, u "java/lang/Comparable"), (0, .class_ 1111), (0, u "java/lang/constant/Constable"), (0, .class_ 1113), (0, u "java/lang/constant/ConstantDesc"), (2, u "serialVersionUID"), (0, u "J"), (3, u "REPL"), (0, u "C"), (2, u "LATIN1"), (1, u "UTF16")] 323

def k9m0 : Method := { name := "<init>", desc := "()V", sig := { parameters := [], returnType := none }, accessFlags := 1, code := none }
def k9c1 : Code := { maxStack := 5, maxLocals := 2, code := jdk_42_method_3_code, exceptionTable := #[], attributes := #[] }
def k9m1 : Method := { name := "<init>", desc := "([C)V", sig := { parameters := [(.array .char)], returnType := none }, accessFlags := 1, code := some k9c1 }
def k9c2 : Code := { maxStack := 4, maxLocals := 6, code := jdk_42_method_149_code, exceptionTable := #[], attributes := #[] }
def k9m2 : Method := { name := "<init>", desc := "([CIILjava/lang/Void;)V", sig := { parameters := [(.array .char), .int, .int, (.object "java/lang/Void")], returnType := none }, accessFlags := 2, code := some k9c2 }
/-- java/lang/String -/
def k9 : Class := { plain "java/lang/String" (some 0) with
  accessFlags := 49
  interfaces := #[4, 5, 6, 7, 8]
  cf := some (fileOf pool9 10 #[.nestMembers #[1103]] #[{ accessFlags := 1, nameIndex := 5, descriptorIndex := 6, attributes := #[] }, { accessFlags := 1, nameIndex := 5, descriptorIndex := 1010, attributes := #[] }, { accessFlags := 2, nameIndex := 5, descriptorIndex := 29, attributes := #[] }] 49 2 #[1106, 1108, 575, 1110, 1112] #[{ accessFlags := 18, nameIndex := 13, descriptorIndex := 14, attributes := #[] }, { accessFlags := 18, nameIndex := 17, descriptorIndex := 18, attributes := #[] }, { accessFlags := 2, nameIndex := 21, descriptorIndex := 22, attributes := #[] }, { accessFlags := 2, nameIndex := 25, descriptorIndex := 26, attributes := #[] }, { accessFlags := 26, nameIndex := 1116, descriptorIndex := 1117, attributes := #[] }, { accessFlags := 24, nameIndex := 40, descriptorIndex := 26, attributes := #[] }, { accessFlags := 26, nameIndex := 1101, descriptorIndex := 1102, attributes := #[] }, { accessFlags := 26, nameIndex := 1121, descriptorIndex := 1122, attributes := #[] }, { accessFlags := 25, nameIndex := 599, descriptorIndex := 600, attributes := #[] }, { accessFlags := 24, nameIndex := 1125, descriptorIndex := 18, attributes := #[] }, { accessFlags := 24, nameIndex := 1127, descriptorIndex := 18, attributes := #[] }])
  fields := #[{ name := "value", type := (.array .byte), accessFlags := 18, slot := 0, constantValue := 0 }, { name := "coder", type := .byte, accessFlags := 18, slot := 1, constantValue := 0 }, { name := "hash", type := .int, accessFlags := 2, slot := 2, constantValue := 0 }, { name := "hashIsZero", type := .boolean, accessFlags := 2, slot := 3, constantValue := 0 }, { name := "serialVersionUID", type := .long, accessFlags := 26, slot := 0, constantValue := 0 }, { name := "COMPACT_STRINGS", type := .boolean, accessFlags := 24, slot := 1, constantValue := 0 }, { name := "serialPersistentFields", type := (.array (.object "java/io/ObjectStreamField")), accessFlags := 26, slot := 2, constantValue := 0 }, { name := "REPL", type := .char, accessFlags := 26, slot := 3, constantValue := 0 }, { name := "CASE_INSENSITIVE_ORDER", type := (.object "java/util/Comparator"), accessFlags := 25, slot := 4, constantValue := 0 }, { name := "LATIN1", type := .byte, accessFlags := 24, slot := 5, constantValue := 0 }, { name := "UTF16", type := .byte, accessFlags := 24, slot := 6, constantValue := 0 }]
  methods := #[k9m0, k9m1, k9m2]
  instanceTypes := #[(.array .byte), .byte, .int, .boolean]
  staticTypes := #[.long, .boolean, (.array (.object "java/io/ObjectStreamField")), .char, (.object "java/util/Comparator"), .byte, .byte]
  resolved := Array.replicate 1451 none
  statics := some 0 }

def pool10 : Array CpInfo := pool [(6, .class_ 8), (1, u "java/lang/Object"), (0, u "<init>"), (0, u "()V"), (1, .class_ 14), (1, u "java/lang/StringUTF16"), (31, u "$assertionsDisabled"), (0, u "Z"), (13, u "HI_BYTE_SHIFT"), (0, u "I"), (2, u "LO_BYTE_SHIFT"), (49, .methodref 12 116), (0, .nameAndType 117 118), (0, u "compress"), (0, u "([CI[BII)I"), (3, u "([CII)[B"), (138, u "coderFromArrayLen"), (0, u "([BI)B"), (106, .class_ 371), (1, u "java/lang/StringUTF16$LinesSpliterator"), (58, u "MAX_LENGTH"), (196, .class_ 628), (0, u "java/lang/StringUTF16$CodePointsSpliterator"), (0, .class_ 630), (0, u "java/lang/StringUTF16$CharsSpliterator")] 4

def k10m0 : Method := { name := "<init>", desc := "()V", sig := { parameters := [], returnType := none }, accessFlags := 0, code := none }
def k10c1 : Code := { maxStack := 2, maxLocals := 2, code := jdk_52_method_15_code, exceptionTable := #[], attributes := #[] }
def k10m1 : Method := { name := "coderFromArrayLen", desc := "([BI)B", sig := { parameters := [(.array .byte), .int], returnType := some .byte }, accessFlags := 8, code := some k10c1 }
def k10c2 : Code := { maxStack := 5, maxLocals := 6, code := jdk_52_method_16_code, exceptionTable := #[], attributes := #[] }
def k10m2 : Method := { name := "compress", desc := "([CII)[B", sig := { parameters := [(.array .char), .int, .int], returnType := some (.array .byte) }, accessFlags := 9, code := some k10c2 }
def k10c3 : Code := { maxStack := 3, maxLocals := 7, code := jdk_52_method_21_code, exceptionTable := #[], attributes := #[] }
def k10m3 : Method := { name := "compress", desc := "([CI[BII)I", sig := { parameters := [(.array .char), .int, (.array .byte), .int, .int], returnType := some .int }, accessFlags := 9, code := some k10c3 }
/-- java/lang/StringUTF16 -/
def k10 : Class := { plain "java/lang/StringUTF16" (some 0) with
  accessFlags := 48
  interfaces := #[]
  cf := some (fileOf pool10 12 #[.nestMembers #[627, 629, 369]] #[{ accessFlags := 0, nameIndex := 9, descriptorIndex := 10, attributes := #[] }, { accessFlags := 8, nameIndex := 261, descriptorIndex := 262, attributes := #[] }, { accessFlags := 9, nameIndex := 117, descriptorIndex := 122, attributes := #[] }, { accessFlags := 9, nameIndex := 117, descriptorIndex := 118, attributes := #[] }] 48 6 #[] #[{ accessFlags := 26, nameIndex := 61, descriptorIndex := 62, attributes := #[] }, { accessFlags := 26, nameIndex := 65, descriptorIndex := 62, attributes := #[] }, { accessFlags := 24, nameIndex := 430, descriptorIndex := 62, attributes := #[] }, { accessFlags := 4120, nameIndex := 46, descriptorIndex := 47, attributes := #[] }])
  fields := #[{ name := "HI_BYTE_SHIFT", type := .int, accessFlags := 26, slot := 0, constantValue := 0 }, { name := "LO_BYTE_SHIFT", type := .int, accessFlags := 26, slot := 1, constantValue := 0 }, { name := "MAX_LENGTH", type := .int, accessFlags := 24, slot := 2, constantValue := 0 }, { name := "$assertionsDisabled", type := .boolean, accessFlags := 4120, slot := 3, constantValue := 0 }]
  methods := #[k10m0, k10m1, k10m2, k10m3]
  instanceTypes := #[]
  staticTypes := #[.int, .int, .int, .boolean]
  resolved := Array.replicate 635 none
  statics := none }

def pool11 : Array CpInfo := pool [(1, .methodref 2 3), (0, .class_ 4), (0, .nameAndType 5 6), (0, u "java/lang/Record"), (0, u "<init>"), (0, u "()V"), (0, .fieldref 8 9), (0, .class_ 10), (0, .nameAndType 11 12), (0, u "com/example/outremer_engine/outremerengine/board/Unit"), (0, u "nation"), (0, u "Ljava/lang/String;"), (0, .fieldref 8 14), (0, .nameAndType 15 16), (0, u "type"), (0, u "Lcom/example/outremer_engine/outremerengine/board/UnitType;"), (0, .fieldref 8 18), (0, .nameAndType 19 20), (0, u "place"), (0, u "Lcom/example/outremer_engine/outremerengine/board/Place;"), (8, u "(Ljava/lang/String;Lcom/example/outremer_engine/outremerengine/board/UnitType;Lcom/example/outremer_engine/outremerengine/board/Place;)V"), (28, .class_ 59), (0, u "com/example/outremer_engine/outremerengine/board/Unit$ListingOrder"), (3, u "LISTING_ORDER"), (0, u "Ljava/util/Comparator;")] 32

def k11c0 : Code := { maxStack := 2, maxLocals := 4, code := prog_8_method_1_code, exceptionTable := #[], attributes := #[] }
def k11m0 : Method := { name := "<init>", desc := "(Ljava/lang/String;Lcom/example/outremer_engine/outremerengine/board/UnitType;Lcom/example/outremer_engine/outremerengine/board/Place;)V", sig := { parameters := [(.object "java/lang/String"), (.object "com/example/outremer_engine/outremerengine/board/UnitType"), (.object "com/example/outremer_engine/outremerengine/board/Place")], returnType := none }, accessFlags := 1, code := some k11c0 }
/-- com/example/outremer_engine/outremerengine/board/Unit -/
def k11 : Class := { plain "com/example/outremer_engine/outremerengine/board/Unit" (some 2) with
  accessFlags := 49
  interfaces := #[]
  cf := some (fileOf pool11 8 #[.nestMembers #[58]] #[{ accessFlags := 1, nameIndex := 5, descriptorIndex := 29, attributes := #[] }] 49 2 #[] #[{ accessFlags := 18, nameIndex := 11, descriptorIndex := 12, attributes := #[] }, { accessFlags := 18, nameIndex := 15, descriptorIndex := 16, attributes := #[] }, { accessFlags := 18, nameIndex := 19, descriptorIndex := 20, attributes := #[] }, { accessFlags := 25, nameIndex := 63, descriptorIndex := 64, attributes := #[] }])
  fields := #[{ name := "nation", type := (.object "java/lang/String"), accessFlags := 18, slot := 0, constantValue := 0 }, { name := "type", type := (.object "com/example/outremer_engine/outremerengine/board/UnitType"), accessFlags := 18, slot := 1, constantValue := 0 }, { name := "place", type := (.object "com/example/outremer_engine/outremerengine/board/Place"), accessFlags := 18, slot := 2, constantValue := 0 }, { name := "LISTING_ORDER", type := (.object "java/util/Comparator"), accessFlags := 25, slot := 0, constantValue := 0 }]
  methods := #[k11m0]
  instanceTypes := #[(.object "java/lang/String"), (.object "com/example/outremer_engine/outremerengine/board/UnitType"), (.object "com/example/outremer_engine/outremerengine/board/Place")]
  staticTypes := #[(.object "java/util/Comparator")]
  resolved := Array.replicate 97 none
  statics := none }

def pool12 : Array CpInfo := pool [(36, .class_ 37), (0, u "com/example/outremer_engine/outremerengine/diplomacy/Order"), (0, .class_ 39), (0, u "java/lang/Object"), (12, .class_ 53), (0, u "com/example/outremer_engine/outremerengine/diplomacy/Order$Remove"), (0, .class_ 55), (0, u "com/example/outremer_engine/outremerengine/diplomacy/Order$Build"), (0, .class_ 57), (0, u "com/example/outremer_engine/outremerengine/diplomacy/Order$Disband"), (0, .class_ 59), (0, u "com/example/outremer_engine/outremerengine/diplomacy/Order$Convoy"), (0, .class_ 61), (0, u "com/example/outremer_engine/outremerengine/diplomacy/Order$SupportMove"), (0, .class_ 63), (0, u "com/example/outremer_engine/outremerengine/diplomacy/Order$SupportHold"), (0, .class_ 65), (0, u "com/example/outremer_engine/outremerengine/diplomacy/Order$Move"), (0, .class_ 67), (0, u "com/example/outremer_engine/outremerengine/diplomacy/Order$Hold"), (0, .class_ 69), (0, u "com/example/outremer_engine/outremerengine/diplomacy/Order$UnitOrder")] 39

/-- com/example/outremer_engine/outremerengine/diplomacy/Order -/
def k12 : Class := { plain "com/example/outremer_engine/outremerengine/diplomacy/Order" (some 0) with
  accessFlags := 1537
  interfaces := #[]
  cf := some (fileOf pool12 36 #[.nestMembers #[52, 54, 56, 58, 60, 62, 64, 66, 68]] #[] 1537 38 #[] #[])
  fields := #[]
  methods := #[]
  instanceTypes := #[]
  staticTypes := #[]
  resolved := Array.replicate 109 none
  statics := none }

def pool13 : Array CpInfo := pool [(2, .class_ 4), (1, u "com/example/outremer_engine/outremerengine/diplomacy/Order$UnitOrder"), (26, .class_ 32), (0, u "java/lang/Object"), (0, .class_ 34), (0, u "com/example/outremer_engine/outremerengine/diplomacy/Order")] 31

/-- com/example/outremer_engine/outremerengine/diplomacy/Order$UnitOrder -/
def k13 : Class := { plain "com/example/outremer_engine/outremerengine/diplomacy/Order$UnitOrder" (some 0) with
  accessFlags := 1537
  interfaces := #[12]
  cf := some (fileOf pool13 2 #[.nestHost 33] #[] 1537 31 #[33] #[])
  fields := #[]
  methods := #[]
  instanceTypes := #[]
  staticTypes := #[]
  resolved := Array.replicate 66 none
  statics := none }

def pool14 : Array CpInfo := pool [(1, .methodref 2 3), (0, .class_ 4), (0, .nameAndType 5 6), (0, u "java/lang/Record"), (0, u "<init>"), (0, u "()V"), (0, .fieldref 8 9), (0, .class_ 10), (0, .nameAndType 11 12), (0, u "com/example/outremer_engine/outremerengine/diplomacy/Order$SupportMove"), (0, u "unit"), (0, u "Lcom/example/outremer_engine/outremerengine/board/Unit;"), (0, .fieldref 8 14), (0, .nameAndType 15 16), (0, u "supportedType"), (0, u "Ljava/util/Optional;"), (0, .fieldref 8 18), (0, .nameAndType 19 20), (0, u "from"), (0, u "Lcom/example/outremer_engine/outremerengine/board/Place;"), (0, .fieldref 8 22), (0, .nameAndType 23 20), (0, u "to"), (0, .methodref 8 25), (0, .nameAndType 5 26), (0, u "(Lcom/example/outremer_engine/outremerengine/board/Unit;Ljava/util/Optional;Lcom/example/outremer_engine/outremerengine/board/Place;Lcom/example/outremer_engine/outremerengine/board/Place;)V"), (7, .class_ 36), (1, u "com/example/outremer_engine/outremerengine/diplomacy/Order"), (8, u "givenTo"), (0, u "(Lcom/example/outremer_engine/outremerengine/board/Unit;)Lcom/example/outremer_engine/outremerengine/diplomacy/Order$SupportMove;"), (8, .class_ 56), (0, u "com/example/outremer_engine/outremerengine/diplomacy/Order$UnitOrder"), (10, u "()Lcom/example/outremer_engine/outremerengine/board/Unit;"), (0, u "()Ljava/util/Optional;"), (1, u "()Lcom/example/outremer_engine/outremerengine/board/Place;")] 35

def k14c0 : Code := { maxStack := 2, maxLocals := 5, code := prog_81_method_1_code, exceptionTable := #[], attributes := #[] }
def k14m0 : Method := { name := "<init>", desc := "(Lcom/example/outremer_engine/outremerengine/board/Unit;Ljava/util/Optional;Lcom/example/outremer_engine/outremerengine/board/Place;Lcom/example/outremer_engine/outremerengine/board/Place;)V", sig := { parameters := [(.object "com/example/outremer_engine/outremerengine/board/Unit"), (.object "java/util/Optional"), (.object "com/example/outremer_engine/outremerengine/board/Place"), (.object "com/example/outremer_engine/outremerengine/board/Place")], returnType := none }, accessFlags := 1, code := some k14c0 }
def k14c1 : Code := { maxStack := 6, maxLocals := 2, code := prog_81_method_2_code, exceptionTable := #[], attributes := #[] }
def k14m1 : Method := { name := "givenTo", desc := "(Lcom/example/outremer_engine/outremerengine/board/Unit;)Lcom/example/outremer_engine/outremerengine/diplomacy/Order$SupportMove;", sig := { parameters := [(.object "com/example/outremer_engine/outremerengine/board/Unit")], returnType := some (.object "com/example/outremer_engine/outremerengine/diplomacy/Order$SupportMove") }, accessFlags := 1, code := some k14c1 }
def k14c2 : Code := { maxStack := 1, maxLocals := 1, code := prog_81_method_6_code, exceptionTable := #[], attributes := #[] }
def k14m2 : Method := { name := "unit", desc := "()Lcom/example/outremer_engine/outremerengine/board/Unit;", sig := { parameters := [], returnType := some (.object "com/example/outremer_engine/outremerengine/board/Unit") }, accessFlags := 1, code := some k14c2 }
def k14c3 : Code := { maxStack := 1, maxLocals := 1, code := prog_81_method_7_code, exceptionTable := #[], attributes := #[] }
def k14m3 : Method := { name := "supportedType", desc := "()Ljava/util/Optional;", sig := { parameters := [], returnType := some (.object "java/util/Optional") }, accessFlags := 1, code := some k14c3 }
def k14c4 : Code := { maxStack := 1, maxLocals := 1, code := prog_81_method_8_code, exceptionTable := #[], attributes := #[] }
def k14m4 : Method := { name := "from", desc := "()Lcom/example/outremer_engine/outremerengine/board/Place;", sig := { parameters := [], returnType := some (.object "com/example/outremer_engine/outremerengine/board/Place") }, accessFlags := 1, code := some k14c4 }
def k14c5 : Code := { maxStack := 1, maxLocals := 1, code := prog_81_method_9_code, exceptionTable := #[], attributes := #[] }
def k14m5 : Method := { name := "to", desc := "()Lcom/example/outremer_engine/outremerengine/board/Place;", sig := { parameters := [], returnType := some (.object "com/example/outremer_engine/outremerengine/board/Place") }, accessFlags := 1, code := some k14c5 }
/-- com/example/outremer_engine/outremerengine/diplomacy/Order$SupportMove -/
def k14 : Class := { plain "com/example/outremer_engine/outremerengine/diplomacy/Order$SupportMove" (some 2) with
  accessFlags := 49
  interfaces := #[13]
  cf := some (fileOf pool14 8 #[.nestHost 34] #[{ accessFlags := 1, nameIndex := 5, descriptorIndex := 26, attributes := #[] }, { accessFlags := 1, nameIndex := 45, descriptorIndex := 46, attributes := #[] }, { accessFlags := 1, nameIndex := 11, descriptorIndex := 67, attributes := #[] }, { accessFlags := 1, nameIndex := 15, descriptorIndex := 68, attributes := #[] }, { accessFlags := 1, nameIndex := 19, descriptorIndex := 70, attributes := #[] }, { accessFlags := 1, nameIndex := 23, descriptorIndex := 70, attributes := #[] }] 49 2 #[55] #[{ accessFlags := 18, nameIndex := 11, descriptorIndex := 12, attributes := #[] }, { accessFlags := 18, nameIndex := 15, descriptorIndex := 16, attributes := #[] }, { accessFlags := 18, nameIndex := 19, descriptorIndex := 20, attributes := #[] }, { accessFlags := 18, nameIndex := 23, descriptorIndex := 20, attributes := #[] }])
  fields := #[{ name := "unit", type := (.object "com/example/outremer_engine/outremerengine/board/Unit"), accessFlags := 18, slot := 0, constantValue := 0 }, { name := "supportedType", type := (.object "java/util/Optional"), accessFlags := 18, slot := 1, constantValue := 0 }, { name := "from", type := (.object "com/example/outremer_engine/outremerengine/board/Place"), accessFlags := 18, slot := 2, constantValue := 0 }, { name := "to", type := (.object "com/example/outremer_engine/outremerengine/board/Place"), accessFlags := 18, slot := 3, constantValue := 0 }]
  methods := #[k14m0, k14m1, k14m2, k14m3, k14m4, k14m5]
  instanceTypes := #[(.object "com/example/outremer_engine/outremerengine/board/Unit"), (.object "java/util/Optional"), (.object "com/example/outremer_engine/outremerengine/board/Place"), (.object "com/example/outremer_engine/outremerengine/board/Place")]
  staticTypes := #[]
  resolved := Array.replicate 106 none
  statics := none }

def pool15 : Array CpInfo := pool [(1, .fieldref 2 3), (0, .class_ 4), (0, .nameAndType 5 6), (0, u "java/util/Optional"), (0, u "EMPTY"), (0, u "Ljava/util/Optional;"), (1, .class_ 10), (1, u "java/lang/Object"), (4, u "value"), (0, u "Ljava/lang/Object;"), (38, u "empty"), (0, u "()Ljava/util/Optional;")] 130

def k15c0 : Code := { maxStack := 1, maxLocals := 1, code := jdk_32_method_1_code, exceptionTable := #[], attributes := #[] }
def k15m0 : Method := { name := "empty", desc := "()Ljava/util/Optional;", sig := { parameters := [], returnType := some (.object "java/util/Optional") }, accessFlags := 9, code := some k15c0 }
/-- java/util/Optional -/
def k15 : Class := { plain "java/util/Optional" (some 0) with
  accessFlags := 49
  interfaces := #[]
  cf := some (fileOf pool15 2 #[] #[{ accessFlags := 9, nameIndex := 55, descriptorIndex := 56, attributes := #[] }] 49 8 #[] #[{ accessFlags := 26, nameIndex := 5, descriptorIndex := 6, attributes := #[] }, { accessFlags := 18, nameIndex := 15, descriptorIndex := 16, attributes := #[] }])
  fields := #[{ name := "EMPTY", type := (.object "java/util/Optional"), accessFlags := 26, slot := 0, constantValue := 0 }, { name := "value", type := (.object "java/lang/Object"), accessFlags := 18, slot := 0, constantValue := 0 }]
  methods := #[k15m0]
  instanceTypes := #[(.object "java/lang/Object")]
  staticTypes := #[(.object "java/util/Optional")]
  resolved := Array.replicate 187 none
  statics := some 1 }

def pool16 : Array CpInfo := pool [(4, .class_ 6), (1, u "java/lang/Object"), (0, u "<init>"), (0, u "()V"), (5, .class_ 16), (1, u "java/lang/StringLatin1"), (104, u "$assertionsDisabled"), (0, u "Z"), (98, .class_ 223), (1, u "java/lang/StringLatin1$LinesSpliterator"), (166, .class_ 391), (0, u "java/lang/StringLatin1$CharsSpliterator")] 3

def k16m0 : Method := { name := "<init>", desc := "()V", sig := { parameters := [], returnType := none }, accessFlags := 0, code := none }
/-- java/lang/StringLatin1 -/
def k16 : Class := { plain "java/lang/StringLatin1" (some 0) with
  accessFlags := 48
  interfaces := #[]
  cf := some (fileOf pool16 14 #[.nestMembers #[390, 221]] #[{ accessFlags := 0, nameIndex := 7, descriptorIndex := 8, attributes := #[] }] 48 4 #[] #[{ accessFlags := 4120, nameIndex := 121, descriptorIndex := 122, attributes := #[] }])
  fields := #[{ name := "$assertionsDisabled", type := .boolean, accessFlags := 4120, slot := 0, constantValue := 0 }]
  methods := #[k16m0]
  instanceTypes := #[]
  staticTypes := #[.boolean]
  resolved := Array.replicate 395 none
  statics := none }

def pool17 : Array CpInfo := pool [(2, .class_ 4), (1, u "java/lang/Object"), (0, u "<init>"), (0, u "()V"), (17, .class_ 26), (1, u "jdk/internal/util/Preconditions"), (28, .class_ 56), (0, u "jdk/internal/util/Preconditions$4"), (57, .class_ 115), (0, u "jdk/internal/util/Preconditions$1"), (7, u "SIOOBE_FORMATTER"), (0, u "Ljava/util/function/BiFunction;"), (0, .class_ 126), (0, u "jdk/internal/util/Preconditions$2"), (3, u "AIOOBE_FORMATTER"), (0, .class_ 132), (0, u "jdk/internal/util/Preconditions$3"), (3, u "IOOBE_FORMATTER")] 57

def k17m0 : Method := { name := "<init>", desc := "()V", sig := { parameters := [], returnType := none }, accessFlags := 1, code := none }
/-- jdk/internal/util/Preconditions -/
def k17 : Class := { plain "jdk/internal/util/Preconditions" (some 0) with
  accessFlags := 33
  interfaces := #[]
  cf := some (fileOf pool17 24 #[.nestMembers #[55, 131, 125, 114]] #[{ accessFlags := 1, nameIndex := 5, descriptorIndex := 6, attributes := #[] }] 33 2 #[] #[{ accessFlags := 25, nameIndex := 123, descriptorIndex := 124, attributes := #[] }, { accessFlags := 25, nameIndex := 130, descriptorIndex := 124, attributes := #[] }, { accessFlags := 25, nameIndex := 136, descriptorIndex := 124, attributes := #[] }])
  fields := #[{ name := "SIOOBE_FORMATTER", type := (.object "java/util/function/BiFunction"), accessFlags := 25, slot := 0, constantValue := 0 }, { name := "AIOOBE_FORMATTER", type := (.object "java/util/function/BiFunction"), accessFlags := 25, slot := 1, constantValue := 0 }, { name := "IOOBE_FORMATTER", type := (.object "java/util/function/BiFunction"), accessFlags := 25, slot := 2, constantValue := 0 }]
  methods := #[k17m0]
  instanceTypes := #[]
  staticTypes := #[(.object "java/util/function/BiFunction"), (.object "java/util/function/BiFunction"), (.object "java/util/function/BiFunction")]
  resolved := Array.replicate 194 none
  statics := some 2 }

def pool18 : Array CpInfo := pool [(9, u "<init>"), (6, .class_ 18), (1, u "java/lang/Object"), (0, u "()V"), (1, .class_ 23), (1, u "jdk/internal/util/ArraysSupport"), (0, u "LOG2_ARRAY_LONG_INDEX_SCALE"), (0, u "I"), (2, u "U"), (0, u "Ljdk/internal/misc/Unsafe;"), (8, u "BIG_ENDIAN"), (0, u "Z"), (8, u "LOG2_BYTE_BIT_SIZE"), (4, u "LOG2_ARRAY_INT_INDEX_SCALE"), (54, u "JLA"), (0, u "Ljdk/internal/access/JavaLangAccess;"), (11, u "LOG2_ARRAY_BOOLEAN_INDEX_SCALE"), (9, u "LOG2_ARRAY_BYTE_INDEX_SCALE"), (5, u "LOG2_ARRAY_CHAR_INDEX_SCALE"), (5, u "LOG2_ARRAY_SHORT_INDEX_SCALE"), (18, u "LOG2_ARRAY_FLOAT_INDEX_SCALE"), (24, u "LOG2_ARRAY_DOUBLE_INDEX_SCALE"), (89, u "T_BOOLEAN"), (2, u "T_CHAR"), (1, u "T_FLOAT"), (1, u "T_DOUBLE"), (1, u "T_BYTE"), (1, u "T_SHORT"), (1, u "T_INT"), (1, u "T_LONG"), (1, u "SOFT_MAX_ARRAY_LENGTH")] 83

def k18m0 : Method := { name := "<init>", desc := "()V", sig := { parameters := [], returnType := none }, accessFlags := 2, code := none }
/-- jdk/internal/util/ArraysSupport -/
def k18 : Class := { plain "jdk/internal/util/ArraysSupport" (some 0) with
  accessFlags := 33
  interfaces := #[]
  cf := some (fileOf pool18 21 #[] #[{ accessFlags := 2, nameIndex := 9, descriptorIndex := 19, attributes := #[] }] 33 16 #[] #[{ accessFlags := 24, nameIndex := 28, descriptorIndex := 29, attributes := #[] }, { accessFlags := 26, nameIndex := 38, descriptorIndex := 39, attributes := #[] }, { accessFlags := 25, nameIndex := 121, descriptorIndex := 25, attributes := #[] }, { accessFlags := 25, nameIndex := 131, descriptorIndex := 25, attributes := #[] }, { accessFlags := 25, nameIndex := 137, descriptorIndex := 25, attributes := #[] }, { accessFlags := 25, nameIndex := 143, descriptorIndex := 25, attributes := #[] }, { accessFlags := 25, nameIndex := 53, descriptorIndex := 25, attributes := #[] }, { accessFlags := 25, nameIndex := 24, descriptorIndex := 25, attributes := #[] }, { accessFlags := 25, nameIndex := 162, descriptorIndex := 25, attributes := #[] }, { accessFlags := 25, nameIndex := 187, descriptorIndex := 25, attributes := #[] }, { accessFlags := 26, nameIndex := 48, descriptorIndex := 25, attributes := #[] }, { accessFlags := 25, nameIndex := 277, descriptorIndex := 25, attributes := #[] }, { accessFlags := 25, nameIndex := 280, descriptorIndex := 25, attributes := #[] }, { accessFlags := 25, nameIndex := 282, descriptorIndex := 25, attributes := #[] }, { accessFlags := 25, nameIndex := 284, descriptorIndex := 25, attributes := #[] }, { accessFlags := 25, nameIndex := 286, descriptorIndex := 25, attributes := #[] }, { accessFlags := 25, nameIndex := 288, descriptorIndex := 25, attributes := #[] }, { accessFlags := 25, nameIndex := 290, descriptorIndex := 25, attributes := #[] }, { accessFlags := 25, nameIndex := 292, descriptorIndex := 25, attributes := #[] }, { accessFlags := 26, nameIndex := 108, descriptorIndex := 109, attributes := #[] }, { accessFlags := 25, nameIndex := 294, descriptorIndex := 25, attributes := #[] }])
  fields := #[{ name := "U", type := (.object "jdk/internal/misc/Unsafe"), accessFlags := 24, slot := 0, constantValue := 0 }, { name := "BIG_ENDIAN", type := .boolean, accessFlags := 26, slot := 1, constantValue := 0 }, { name := "LOG2_ARRAY_BOOLEAN_INDEX_SCALE", type := .int, accessFlags := 25, slot := 2, constantValue := 0 }, { name := "LOG2_ARRAY_BYTE_INDEX_SCALE", type := .int, accessFlags := 25, slot := 3, constantValue := 0 }, { name := "LOG2_ARRAY_CHAR_INDEX_SCALE", type := .int, accessFlags := 25, slot := 4, constantValue := 0 }, { name := "LOG2_ARRAY_SHORT_INDEX_SCALE", type := .int, accessFlags := 25, slot := 5, constantValue := 0 }, { name := "LOG2_ARRAY_INT_INDEX_SCALE", type := .int, accessFlags := 25, slot := 6, constantValue := 0 }, { name := "LOG2_ARRAY_LONG_INDEX_SCALE", type := .int, accessFlags := 25, slot := 7, constantValue := 0 }, { name := "LOG2_ARRAY_FLOAT_INDEX_SCALE", type := .int, accessFlags := 25, slot := 8, constantValue := 0 }, { name := "LOG2_ARRAY_DOUBLE_INDEX_SCALE", type := .int, accessFlags := 25, slot := 9, constantValue := 0 }, { name := "LOG2_BYTE_BIT_SIZE", type := .int, accessFlags := 26, slot := 10, constantValue := 0 }, { name := "T_BOOLEAN", type := .int, accessFlags := 25, slot := 11, constantValue := 0 }, { name := "T_CHAR", type := .int, accessFlags := 25, slot := 12, constantValue := 0 }, { name := "T_FLOAT", type := .int, accessFlags := 25, slot := 13, constantValue := 0 }, { name := "T_DOUBLE", type := .int, accessFlags := 25, slot := 14, constantValue := 0 }, { name := "T_BYTE", type := .int, accessFlags := 25, slot := 15, constantValue := 0 }, { name := "T_SHORT", type := .int, accessFlags := 25, slot := 16, constantValue := 0 }, { name := "T_INT", type := .int, accessFlags := 25, slot := 17, constantValue := 0 }, { name := "T_LONG", type := .int, accessFlags := 25, slot := 18, constantValue := 0 }, { name := "JLA", type := (.object "jdk/internal/access/JavaLangAccess"), accessFlags := 26, slot := 19, constantValue := 0 }, { name := "SOFT_MAX_ARRAY_LENGTH", type := .int, accessFlags := 25, slot := 20, constantValue := 0 }]
  methods := #[k18m0]
  instanceTypes := #[]
  staticTypes := #[(.object "jdk/internal/misc/Unsafe"), .boolean, .int, .int, .int, .int, .int, .int, .int, .int, .int, .int, .int, .int, .int, .int, .int, .int, .int, (.object "jdk/internal/access/JavaLangAccess"), .int]
  resolved := Array.replicate 378 none
  statics := none }

def pool19 : Array CpInfo := pool [(1, u "java/lang/Cloneable"), (0, .class_ 1), (0, u "java/lang/Object"), (0, .class_ 3)] 3

/-- java/lang/Cloneable -/
def k19 : Class := { plain "java/lang/Cloneable" (some 0) with
  accessFlags := 1537
  interfaces := #[]
  cf := some (fileOf pool19 2 #[] #[] 1537 4 #[] #[])
  fields := #[]
  methods := #[]
  instanceTypes := #[]
  staticTypes := #[]
  resolved := Array.replicate 8 none
  statics := none }

/-- the primitive byte -/
def k20 : Class := { plain "byte" none with kind := .primitive 'B', accessFlags := 0x411 }
/-- [B -/
def k21 : Class := { plain "[B" (some 0) with kind := .array 20 .byte, interfaces := #[19, 4], accessFlags := 1041 }

/-- the primitive char -/
def k22 : Class := { plain "char" none with kind := .primitive 'C', accessFlags := 0x411 }
/-- [C -/
def k23 : Class := { plain "[C" (some 0) with kind := .array 22 .char, interfaces := #[19, 4], accessFlags := 1041 }

/-- the primitive int -/
def k24 : Class := { plain "int" none with kind := .primitive 'I', accessFlags := 0x411 }
/-- [I -/
def k25 : Class := { plain "[I" (some 0) with kind := .array 24 .int, interfaces := #[19, 4], accessFlags := 1041 }

def heap : Heap := #[{ cls := 9, slots := #[.long 0, .int 1, .null, .int 0, .null, .int 0, .int 0], vm := .statics 9 },
  { cls := 15, slots := #[.ref 3], vm := .statics 15 },
  { cls := 17, slots := #[.null, .null, .null], vm := .statics 17 },
  { cls := 15, slots := #[.null], vm := .none }]
def classes : Array Class := #[k0, k1, k2, k3, k4, k5, k6, k7, k8, k9, k10, k11, k12, k13, k14, k15, k16, k17, k18, k19, k20, k21, k22, k23, k24, k25]
def interned : List (Array UInt16 × Addr) := []
def slotsUsed : Nat := 12
def theMethod : MethodId := ⟨1, 2⟩
def args0 : Array Value := #[.int 200, .int 1, .int 2, .int 3, .int 4]
def aboutOver (below : List Frame) : State where
  vm := { classes := classes, interned := interned.toArray }
  heap := heap
  slotsUsed := slotsUsed
  threads := #[{ frames := .invoking theMethod args0 :: below }]
def below0 : List Frame := [.native { method := ⟨0, 0⟩, args := #[] }]
def about1 : State := aboutOver below0
def p0 : Program := .bare "" "" ""
def e0 : Env := launch0.env 0 0 0
theorem w_frames : about1.frames = Frame.invoking theMethod args0 :: below0 := rfl
set_option maxRecDepth 65536 in
theorem w_args : argsFit about1.vm theMethod args0 = true := by decide +kernel
set_option maxRecDepth 65536 in
theorem w_heap : heapFits about1 = true := by decide +kernel
set_option maxRecDepth 65536 in
theorem w_runnable : about1.curStatus? = some .runnable := by decide +kernel
set_option maxRecDepth 65536 in
theorem w_alone : about1.alone = true := by decide +kernel
set_option maxRecDepth 65536 in
theorem w_named : about1.methodNamed? x = some theMethod := by decide +kernel
set_option maxRecDepth 65536 in
theorem w_hears : about1.hears theMethod below0 = true := by decide +kernel
set_option maxRecDepth 65536 in
theorem w_ripe : about1.ripe theMethod args0 below0 = true := by decide +kernel
theorem w_running : about1.status = .running := rfl
set_option maxRecDepth 65536 in
theorem w_room : about1.hasRoom e0.platform room_1 = true :=
  launch0.hasRoom_least _ room_1 (by decide +kernel) (by decide +kernel) (by decide +kernel) (by decide +kernel) (by decide +kernel) (by decide +kernel)
theorem allAtoms_all (ts : List Jvm.Cond) (a : Array Jvm.Value) (st : Jvm.State) : (allAtoms ts).before a st = ts.all (fun c => c.before a st) := by
  induction ts with
  | nil => rfl
  | cons c t ih =>
    show (Jvm.Cond.and c (allAtoms t)).before a st = _
    rw [Jvm.Cond.before_and, ih, List.all_cons]
def words1 : List Jvm.Cond := Jvm.Cond.code x code maxLocals ret :: tables_1
/-- a 'code' word, met by the world's own term for the bytes: nothing is compared byte by byte -/
theorem code_word {y : MethodName} {bytes : ByteArray} {mx : Nat} {rt : Option FieldType} {a : Array Value} {s : State} {m : MethodId} {meth : Method} {c : Code} (h1 : s.methodNamed? y = some m) (h2 : s.vm.method? m = some meth) (h3 : meth.code = some c) (h4 : c.code = bytes)
    (h5 : (c.maxLocals == mx && c.exceptionTable.isEmpty && decide (c.maxStack ≤ mostOperands) && decide (meth.sig.returnType = rt) && !meth.locks && decide (parseMethodDescriptor y.desc = some meth.sig)) = true) : (Jvm.Cond.code y bytes mx rt).before a s = true := by
  simp only [Bool.and_eq_true, beq_iff_eq, Bool.not_eq_true', decide_eq_true_eq] at h5
  obtain ⟨⟨⟨⟨⟨g1, g2⟩, g3⟩, g4⟩, g5⟩, g6⟩ := h5
  simp [Cond.before, Cond.holds, Cond.value, h1, h2, h3, h4, g1, g2, g3, g4, g5, g6]
def isCode : Jvm.Cond → Bool
  | .code _ _ _ _ => true
  | _ => false
theorem all_split {L : List Jvm.Cond} {P : Jvm.Cond → Bool} (h1 : L.all (fun c => isCode c || P c) = true) (h2 : ∀ c ∈ L.filter isCode, P c = true) : L.all P = true := by
  refine List.all_eq_true.mpr fun c hc => ?_
  have h := List.all_eq_true.mp h1 c hc
  rcases Bool.eq_false_or_eq_true (isCode c) with hi | hi
  · exact h2 c (List.mem_filter.mpr ⟨hc, hi⟩)
  · simpa [hi] using h
set_option maxRecDepth 65536 in
theorem w_c0 : (Jvm.Cond.code x code maxLocals ret).before args0 about1 = true := code_word (m := ⟨1, 2⟩) (meth := k1m2) (c := k1c2) (by decide +kernel) rfl rfl rfl (by decide +kernel)
set_option maxRecDepth 65536 in
theorem w_c1 : (Jvm.Cond.code ({ cls := "com/example/outremer_engine/outremerengine/diplomacy/SupportMoveGivenToPinLaw", name := "drawn", desc := "(I)Ljava/lang/String;" } : Jvm.MethodName) method_2_code (2 : Nat) (Option.some (Jvm.ClassFile.FieldType.object "java/lang/String"))).before args0 about1 = true := code_word (m := ⟨1, 1⟩) (meth := k1m1) (c := k1c1) (by decide +kernel) rfl rfl rfl (by decide +kernel)
set_option maxRecDepth 65536 in
theorem w_c2 : (Jvm.Cond.code ({ cls := "java/lang/String", name := "<init>", desc := "([C)V" } : Jvm.MethodName) jdk_42_method_3_code (2 : Nat) (Option.none : Option Jvm.ClassFile.FieldType)).before args0 about1 = true := code_word (m := ⟨9, 1⟩) (meth := k9m1) (c := k9c1) (by decide +kernel) rfl rfl rfl (by decide +kernel)
set_option maxRecDepth 65536 in
theorem w_c3 : (Jvm.Cond.code ({ cls := "java/lang/String", name := "<init>", desc := "([CIILjava/lang/Void;)V" } : Jvm.MethodName) jdk_42_method_149_code (6 : Nat) (Option.none : Option Jvm.ClassFile.FieldType)).before args0 about1 = true := code_word (m := ⟨9, 2⟩) (meth := k9m2) (c := k9c2) (by decide +kernel) rfl rfl rfl (by decide +kernel)
set_option maxRecDepth 65536 in
theorem w_c4 : (Jvm.Cond.code ({ cls := "java/lang/Object", name := "<init>", desc := "()V" } : Jvm.MethodName) object_method_1_code (1 : Nat) (Option.none : Option Jvm.ClassFile.FieldType)).before args0 about1 = true := code_word (m := ⟨0, 0⟩) (meth := k0m0) (c := k0c0) (by decide +kernel) rfl rfl rfl (by decide +kernel)
set_option maxRecDepth 65536 in
theorem w_c5 : (Jvm.Cond.code ({ cls := "java/lang/StringUTF16", name := "compress", desc := "([CII)[B" } : Jvm.MethodName) jdk_52_method_16_code (6 : Nat) (Option.some (Jvm.ClassFile.FieldType.array Jvm.ClassFile.FieldType.byte))).before args0 about1 = true := code_word (m := ⟨10, 2⟩) (meth := k10m2) (c := k10c2) (by decide +kernel) rfl rfl rfl (by decide +kernel)
set_option maxRecDepth 65536 in
theorem w_c6 : (Jvm.Cond.code ({ cls := "java/lang/StringUTF16", name := "compress", desc := "([CI[BII)I" } : Jvm.MethodName) jdk_52_method_21_code (7 : Nat) (Option.some Jvm.ClassFile.FieldType.int)).before args0 about1 = true := code_word (m := ⟨10, 3⟩) (meth := k10m3) (c := k10c3) (by decide +kernel) rfl rfl rfl (by decide +kernel)
set_option maxRecDepth 65536 in
theorem w_c7 : (Jvm.Cond.code ({ cls := "java/lang/StringUTF16", name := "coderFromArrayLen", desc := "([BI)B" } : Jvm.MethodName) jdk_52_method_15_code (2 : Nat) (Option.some Jvm.ClassFile.FieldType.byte)).before args0 about1 = true := code_word (m := ⟨10, 1⟩) (meth := k10m1) (c := k10c1) (by decide +kernel) rfl rfl rfl (by decide +kernel)
set_option maxRecDepth 65536 in
theorem w_c8 : (Jvm.Cond.code ({ cls := "com/example/outremer_engine/outremerengine/board/Place", name := "<init>", desc := "(Lcom/example/outremer_engine/outremerengine/board/Province;Ljava/lang/String;)V" } : Jvm.MethodName) prog_5_method_2_code (3 : Nat) (Option.none : Option Jvm.ClassFile.FieldType)).before args0 about1 = true := code_word (m := ⟨3, 0⟩) (meth := k3m0) (c := k3c0) (by decide +kernel) rfl rfl rfl (by decide +kernel)
set_option maxRecDepth 65536 in
theorem w_c9 : (Jvm.Cond.code ({ cls := "java/lang/Record", name := "<init>", desc := "()V" } : Jvm.MethodName) jdk_30_method_1_code (1 : Nat) (Option.none : Option Jvm.ClassFile.FieldType)).before args0 about1 = true := code_word (m := ⟨2, 0⟩) (meth := k2m0) (c := k2c0) (by decide +kernel) rfl rfl rfl (by decide +kernel)
set_option maxRecDepth 65536 in
theorem w_c10 : (Jvm.Cond.code ({ cls := "com/example/outremer_engine/outremerengine/board/Unit", name := "<init>", desc := "(Ljava/lang/String;Lcom/example/outremer_engine/outremerengine/board/UnitType;Lcom/example/outremer_engine/outremerengine/board/Place;)V" } : Jvm.MethodName) prog_8_method_1_code (4 : Nat) (Option.none : Option Jvm.ClassFile.FieldType)).before args0 about1 = true := code_word (m := ⟨11, 0⟩) (meth := k11m0) (c := k11c0) (by decide +kernel) rfl rfl rfl (by decide +kernel)
set_option maxRecDepth 65536 in
theorem w_c11 : (Jvm.Cond.code ({ cls := "com/example/outremer_engine/outremerengine/diplomacy/Order$SupportMove", name := "<init>", desc := "(Lcom/example/outremer_engine/outremerengine/board/Unit;Ljava/util/Optional;Lcom/example/outremer_engine/outremerengine/board/Place;Lcom/example/outremer_engine/outremerengine/board/Place;)V" } : Jvm.MethodName) prog_81_method_1_code (5 : Nat) (Option.none : Option Jvm.ClassFile.FieldType)).before args0 about1 = true := code_word (m := ⟨14, 0⟩) (meth := k14m0) (c := k14c0) (by decide +kernel) rfl rfl rfl (by decide +kernel)
set_option maxRecDepth 65536 in
theorem w_c12 : (Jvm.Cond.code ({ cls := "com/example/outremer_engine/outremerengine/diplomacy/Order$SupportMove", name := "givenTo", desc := "(Lcom/example/outremer_engine/outremerengine/board/Unit;)Lcom/example/outremer_engine/outremerengine/diplomacy/Order$SupportMove;" } : Jvm.MethodName) prog_81_method_2_code (2 : Nat) (Option.some (Jvm.ClassFile.FieldType.object "com/example/outremer_engine/outremerengine/diplomacy/Order$SupportMove"))).before args0 about1 = true := code_word (m := ⟨14, 1⟩) (meth := k14m1) (c := k14c1) (by decide +kernel) rfl rfl rfl (by decide +kernel)
set_option maxRecDepth 65536 in
theorem w_c13 : (Jvm.Cond.code ({ cls := "com/example/outremer_engine/outremerengine/diplomacy/Order$SupportMove", name := "unit", desc := "()Lcom/example/outremer_engine/outremerengine/board/Unit;" } : Jvm.MethodName) prog_81_method_6_code (1 : Nat) (Option.some (Jvm.ClassFile.FieldType.object "com/example/outremer_engine/outremerengine/board/Unit"))).before args0 about1 = true := code_word (m := ⟨14, 2⟩) (meth := k14m2) (c := k14c2) (by decide +kernel) rfl rfl rfl (by decide +kernel)
set_option maxRecDepth 65536 in
theorem w_c14 : (Jvm.Cond.code ({ cls := "com/example/outremer_engine/outremerengine/diplomacy/Order$SupportMove", name := "supportedType", desc := "()Ljava/util/Optional;" } : Jvm.MethodName) prog_81_method_7_code (1 : Nat) (Option.some (Jvm.ClassFile.FieldType.object "java/util/Optional"))).before args0 about1 = true := code_word (m := ⟨14, 3⟩) (meth := k14m3) (c := k14c3) (by decide +kernel) rfl rfl rfl (by decide +kernel)
set_option maxRecDepth 65536 in
theorem w_c15 : (Jvm.Cond.code ({ cls := "com/example/outremer_engine/outremerengine/diplomacy/Order$SupportMove", name := "from", desc := "()Lcom/example/outremer_engine/outremerengine/board/Place;" } : Jvm.MethodName) prog_81_method_8_code (1 : Nat) (Option.some (Jvm.ClassFile.FieldType.object "com/example/outremer_engine/outremerengine/board/Place"))).before args0 about1 = true := code_word (m := ⟨14, 4⟩) (meth := k14m4) (c := k14c4) (by decide +kernel) rfl rfl rfl (by decide +kernel)
set_option maxRecDepth 65536 in
theorem w_c16 : (Jvm.Cond.code ({ cls := "com/example/outremer_engine/outremerengine/diplomacy/Order$SupportMove", name := "to", desc := "()Lcom/example/outremer_engine/outremerengine/board/Place;" } : Jvm.MethodName) prog_81_method_9_code (1 : Nat) (Option.some (Jvm.ClassFile.FieldType.object "com/example/outremer_engine/outremerengine/board/Place"))).before args0 about1 = true := code_word (m := ⟨14, 5⟩) (meth := k14m5) (c := k14c5) (by decide +kernel) rfl rfl rfl (by decide +kernel)
set_option maxRecDepth 65536 in
theorem w_c17 : (Jvm.Cond.code ({ cls := "java/util/Optional", name := "empty", desc := "()Ljava/util/Optional;" } : Jvm.MethodName) jdk_32_method_1_code (1 : Nat) (Option.some (Jvm.ClassFile.FieldType.object "java/util/Optional"))).before args0 about1 = true := code_word (m := ⟨15, 0⟩) (meth := k15m0) (c := k15c0) (by decide +kernel) rfl rfl rfl (by decide +kernel)
def codes1 : List Jvm.Cond := [Jvm.Cond.code x code maxLocals ret, Jvm.Cond.code ({ cls := "com/example/outremer_engine/outremerengine/diplomacy/SupportMoveGivenToPinLaw", name := "drawn", desc := "(I)Ljava/lang/String;" } : Jvm.MethodName) method_2_code (2 : Nat) (Option.some (Jvm.ClassFile.FieldType.object "java/lang/String")), Jvm.Cond.code ({ cls := "java/lang/String", name := "<init>", desc := "([C)V" } : Jvm.MethodName) jdk_42_method_3_code (2 : Nat) (Option.none : Option Jvm.ClassFile.FieldType), Jvm.Cond.code ({ cls := "java/lang/String", name := "<init>", desc := "([CIILjava/lang/Void;)V" } : Jvm.MethodName) jdk_42_method_149_code (6 : Nat) (Option.none : Option Jvm.ClassFile.FieldType), Jvm.Cond.code ({ cls := "java/lang/Object", name := "<init>", desc := "()V" } : Jvm.MethodName) object_method_1_code (1 : Nat) (Option.none : Option Jvm.ClassFile.FieldType), Jvm.Cond.code ({ cls := "java/lang/StringUTF16", name := "compress", desc := "([CII)[B" } : Jvm.MethodName) jdk_52_method_16_code (6 : Nat) (Option.some (Jvm.ClassFile.FieldType.array Jvm.ClassFile.FieldType.byte)), Jvm.Cond.code ({ cls := "java/lang/StringUTF16", name := "compress", desc := "([CI[BII)I" } : Jvm.MethodName) jdk_52_method_21_code (7 : Nat) (Option.some Jvm.ClassFile.FieldType.int), Jvm.Cond.code ({ cls := "java/lang/StringUTF16", name := "coderFromArrayLen", desc := "([BI)B" } : Jvm.MethodName) jdk_52_method_15_code (2 : Nat) (Option.some Jvm.ClassFile.FieldType.byte), Jvm.Cond.code ({ cls := "com/example/outremer_engine/outremerengine/board/Place", name := "<init>", desc := "(Lcom/example/outremer_engine/outremerengine/board/Province;Ljava/lang/String;)V" } : Jvm.MethodName) prog_5_method_2_code (3 : Nat) (Option.none : Option Jvm.ClassFile.FieldType), Jvm.Cond.code ({ cls := "java/lang/Record", name := "<init>", desc := "()V" } : Jvm.MethodName) jdk_30_method_1_code (1 : Nat) (Option.none : Option Jvm.ClassFile.FieldType), Jvm.Cond.code ({ cls := "com/example/outremer_engine/outremerengine/board/Unit", name := "<init>", desc := "(Ljava/lang/String;Lcom/example/outremer_engine/outremerengine/board/UnitType;Lcom/example/outremer_engine/outremerengine/board/Place;)V" } : Jvm.MethodName) prog_8_method_1_code (4 : Nat) (Option.none : Option Jvm.ClassFile.FieldType), Jvm.Cond.code ({ cls := "com/example/outremer_engine/outremerengine/diplomacy/Order$SupportMove", name := "<init>", desc := "(Lcom/example/outremer_engine/outremerengine/board/Unit;Ljava/util/Optional;Lcom/example/outremer_engine/outremerengine/board/Place;Lcom/example/outremer_engine/outremerengine/board/Place;)V" } : Jvm.MethodName) prog_81_method_1_code (5 : Nat) (Option.none : Option Jvm.ClassFile.FieldType), Jvm.Cond.code ({ cls := "com/example/outremer_engine/outremerengine/diplomacy/Order$SupportMove", name := "givenTo", desc := "(Lcom/example/outremer_engine/outremerengine/board/Unit;)Lcom/example/outremer_engine/outremerengine/diplomacy/Order$SupportMove;" } : Jvm.MethodName) prog_81_method_2_code (2 : Nat) (Option.some (Jvm.ClassFile.FieldType.object "com/example/outremer_engine/outremerengine/diplomacy/Order$SupportMove")), Jvm.Cond.code ({ cls := "com/example/outremer_engine/outremerengine/diplomacy/Order$SupportMove", name := "unit", desc := "()Lcom/example/outremer_engine/outremerengine/board/Unit;" } : Jvm.MethodName) prog_81_method_6_code (1 : Nat) (Option.some (Jvm.ClassFile.FieldType.object "com/example/outremer_engine/outremerengine/board/Unit")), Jvm.Cond.code ({ cls := "com/example/outremer_engine/outremerengine/diplomacy/Order$SupportMove", name := "supportedType", desc := "()Ljava/util/Optional;" } : Jvm.MethodName) prog_81_method_7_code (1 : Nat) (Option.some (Jvm.ClassFile.FieldType.object "java/util/Optional")), Jvm.Cond.code ({ cls := "com/example/outremer_engine/outremerengine/diplomacy/Order$SupportMove", name := "from", desc := "()Lcom/example/outremer_engine/outremerengine/board/Place;" } : Jvm.MethodName) prog_81_method_8_code (1 : Nat) (Option.some (Jvm.ClassFile.FieldType.object "com/example/outremer_engine/outremerengine/board/Place")), Jvm.Cond.code ({ cls := "com/example/outremer_engine/outremerengine/diplomacy/Order$SupportMove", name := "to", desc := "()Lcom/example/outremer_engine/outremerengine/board/Place;" } : Jvm.MethodName) prog_81_method_9_code (1 : Nat) (Option.some (Jvm.ClassFile.FieldType.object "com/example/outremer_engine/outremerengine/board/Place")), Jvm.Cond.code ({ cls := "java/util/Optional", name := "empty", desc := "()Ljava/util/Optional;" } : Jvm.MethodName) jdk_32_method_1_code (1 : Nat) (Option.some (Jvm.ClassFile.FieldType.object "java/util/Optional"))]
set_option maxRecDepth 65536 in
theorem codes_eq : words1.filter isCode = codes1 := rfl
theorem w_codes : ∀ c ∈ words1.filter isCode, c.before args0 about1 = true := by
  rw [codes_eq]
  intro c hc
  simp only [codes1, List.mem_cons, List.not_mem_nil, or_false] at hc
  rcases hc with rfl | rfl | rfl | rfl | rfl | rfl | rfl | rfl | rfl | rfl | rfl | rfl | rfl | rfl | rfl | rfl | rfl | rfl
  · exact w_c0
  · exact w_c1
  · exact w_c2
  · exact w_c3
  · exact w_c4
  · exact w_c5
  · exact w_c6
  · exact w_c7
  · exact w_c8
  · exact w_c9
  · exact w_c10
  · exact w_c11
  · exact w_c12
  · exact w_c13
  · exact w_c14
  · exact w_c15
  · exact w_c16
  · exact w_c17
set_option maxRecDepth 65536 in
theorem w_t1 : (words1.take 24).all (fun c => isCode c || c.before args0 about1) = true := by decide +kernel
set_option maxRecDepth 65536 in
theorem w_t2 : ((words1.drop 24).take 24).all (fun c => isCode c || c.before args0 about1) = true := by decide +kernel
set_option maxRecDepth 65536 in
theorem w_t3 : (((words1.drop 24).drop 24).take 24).all (fun c => isCode c || c.before args0 about1) = true := by decide +kernel
set_option maxRecDepth 65536 in
theorem w_t4 : ((((words1.drop 24).drop 24).drop 24).take 24).all (fun c => isCode c || c.before args0 about1) = true := by decide +kernel
set_option maxRecDepth 65536 in
theorem w_t5 : ((((words1.drop 24).drop 24).drop 24).drop 24).all (fun c => isCode c || c.before args0 about1) = true := by decide +kernel
theorem w_tables : (allAtoms (Jvm.Cond.code x code maxLocals ret :: tables_1)).before args0 about1 = true := by
  rw [allAtoms_all]
  show words1.all (fun c => c.before args0 about1) = true
  refine all_split ?_ w_codes
  rw [← List.take_append_drop 24 words1, List.all_append, w_t1, ← List.take_append_drop 24 (words1.drop 24), List.all_append, w_t2, ← List.take_append_drop 24 ((words1.drop 24).drop 24), List.all_append, w_t3, ← List.take_append_drop 24 (((words1.drop 24).drop 24).drop 24), List.all_append, w_t4, w_t5]
  rfl
set_option maxRecDepth 65536 in
theorem w_rest : rest_1_c.before args0 about1 = true := by decide +kernel
set_option maxRecDepth 65536 in
theorem w_case : (Jvm.Cond.and given_1 narrow_1).before args0 about1 = true := by decide +kernel
theorem w_applies : (headSpec (Jvm.Cond.code x code maxLocals ret :: tables_1) room_1).applies x e0.platform about1 = true :=
  (Spec.applies_iff w_frames).mpr ⟨w_running, w_runnable, w_alone, w_named, w_hears, w_ripe, w_room, w_tables⟩
theorem atStart : AtStart classFile x code maxLocals ret World_1 tables_1 room_1 Calls_1 rest_1 Pre_1 launch0 p0 e0 about1 theMethod args0 below0 :=
  ⟨lists_1, trivial, launch0.admits_env _ _ _, launch0.least_env, fairChoices_fair.cas, fairChoices_fair.clock, w_frames, w_args, w_heap, w_applies, trivial, w_rest, w_case⟩
end start1
theorem witness_1 : WitnessClaimed_1 := ⟨start1.p0, start1.e0, start1.about1, start1.theMethod, start1.args0, start1.below0, start1.atStart⟩
end Jvm.Pilot.@@N@@
