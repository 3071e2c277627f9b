import JvmDerived
import JvmDerived.Pilot.@@N@@Statement
import JvmDerived.Pilot.@@N@@Code
set_option linter.unusedVariables false
set_option linter.unusedSimpArgs false
@@BLOCK:TracedD.lean.txt@@
/- laws to paste: Road.backV, Road.lenW, Road.eqW, Road.codOf, pair_says, Road.wide_lo, Road.wide_hi, shr1, shr0, lo8_mask (cut by pick.py; bodies as the Statement names them) -/
namespace Jvm.Pilot.@@N@@
namespace StrChars
open Jvm Sem ClassFile Op Lib Jvm.Stand Jvm.Free.XT Jvm.Free.ALB Jvm.Free.JM Jvm.Free
open Jvm.Lib.Cold (StaticIs)
/-- a char array whose places are chars -/
def Ch (a : Addr) (A : Cell) (U : State) : Prop := Arr .char a A U ∧ Typed .char A
theorem Ch.mv {a : Addr} {A : Cell} {U U' : State} (h : Ch a A U) (hal : U.vm.Alike U'.vm) (hh : U'.heap = U.heap) : Ch a A U' := ⟨h.1.mv hal hh, h.2⟩
theorem Ch.keep {a : Addr} {A : Cell} {U U' : State} (h : Ch a A U) (hal : U.vm.Alike U'.vm) (hk : U'.heap[a]? = some A) : Ch a A U' := ⟨h.1.keep hal hk, h.2⟩
/-- what place i of a char[]'s cell holds -/
def cv (A : Cell) (i : Nat) : Int32 := match A.slots[i]? with | some (.int x) => x | _ => 0
theorem Ch.get {a : Addr} {A : Cell} {U : State} (h : Ch a A U) {i : Nat} (hi : i < A.slots.size) : A.slots[i]? = some (.int (cv A i)) := by
  have e := Array.getElem?_eq_getElem hi
  have f := h.2 i _ e
  unfold cv; rw [e]
  generalize A.slots[i] = v at f
  cases v <;> simp [fits] at f ⊢
/-- the byte that i2b leaves of a char -/
def lo8 (x : Int32) : Int32 := x.toInt8.toInt32
theorem fits_lo8 (y : Int32) : fits .byte (.int (lo8 y)) = true := by
  have h1 := y.toInt8.le_toInt
  have h2 := y.toInt8.toInt_lt
  simp only [lo8, fits, Bool.and_eq_true, decide_eq_true_eq, Int32.le_iff_toInt_le, Int8.toInt_toInt32, show (-128 : Int32).toInt = -128 from by decide, show (127 : Int32).toInt = 127 from by decide]
  omega
/-- A' is A but that each place j of lo .. hi - 1 holds f j -/
def Laid (A A' : Cell) (lo hi : Nat) (f : Nat → Value) : Prop := A'.cls = A.cls ∧ A'.vm = A.vm ∧ A'.slots.size = A.slots.size ∧ ∀ i, A'.slots[i]? = if lo ≤ i ∧ i < hi then some (f i) else A.slots[i]?
theorem Laid.zero (A : Cell) (lo : Nat) (f : Nat → Value) : Laid A A lo (lo + 0) f := ⟨rfl, rfl, rfl, fun i => by rw [if_neg (by omega)]⟩
theorem Laid.step {A Ak : Cell} {lo k : Nat} {f : Nat → Value} {v : Value} (h : Laid A Ak lo k f) (hlo : lo ≤ k) (hk : k < Ak.slots.size) (hv : v = f k) : Laid A (Ak.setSlot k v) lo (k + 1) f := by
  refine ⟨h.1, h.2.1, by simpa [Cell.setSlot] using h.2.2.1, fun i => ?_⟩
  by_cases e : k = i
  · subst e; rw [Cell.slots_setSlot_self v hk, if_pos (by omega), hv]
  · rw [Cell.slots_setSlot_ne v e, h.2.2.2 i]
    by_cases q : lo ≤ i ∧ i < k
    · rw [if_pos q, if_pos (by omega)]
    · rw [if_neg q, if_neg (by omega)]
def U16 : String := "java/lang/StringUTF16"
namespace Cmp5
def yN : MethodName := ⟨"java/lang/StringUTF16", "compress", "([CI[BII)I"⟩
abbrev yB : ByteArray := jdk_52_method_21_code
theorem d0 : decode yB 0 = .ok (.iconst 0, 1) := by decide +kernel
theorem d1 : decode yB 1 = .ok (.istore 5, 2) := by decide +kernel
theorem d3 : decode yB 3 = .ok (.iload 5, 2) := by decide +kernel
theorem d5 : decode yB 5 = .ok (.iload 4, 2) := by decide +kernel
theorem d7 : decode yB 7 = .ok (.if_icmp (.ge) 37, 3) := by decide +kernel
theorem d10 : decode yB 10 = .ok (.aload_n 0, 1) := by decide +kernel
theorem d11 : decode yB 11 = .ok (.iload_n 1, 1) := by decide +kernel
theorem d12 : decode yB 12 = .ok (.caload, 1) := by decide +kernel
theorem d13 : decode yB 13 = .ok (.istore 6, 2) := by decide +kernel
theorem d15 : decode yB 15 = .ok (.iload 6, 2) := by decide +kernel
theorem d17 : decode yB 17 = .ok (.sipush 255, 3) := by decide +kernel
theorem d20 : decode yB 20 = .ok (.if_icmp (.le) 6, 3) := by decide +kernel
theorem d26 : decode yB 26 = .ok (.aload_n 2, 1) := by decide +kernel
theorem d27 : decode yB 27 = .ok (.iload_n 3, 1) := by decide +kernel
theorem d28 : decode yB 28 = .ok (.iload 6, 2) := by decide +kernel
theorem d30 : decode yB 30 = .ok (.i2b, 1) := by decide +kernel
theorem d31 : decode yB 31 = .ok (.bastore, 1) := by decide +kernel
theorem d32 : decode yB 32 = .ok (.iinc 1 1, 3) := by decide +kernel
theorem d35 : decode yB 35 = .ok (.iinc 3 1, 3) := by decide +kernel
theorem d38 : decode yB 38 = .ok (.iinc 5 1, 3) := by decide +kernel
theorem d41 : decode yB 41 = .ok (.goto (-38), 3) := by decide +kernel
theorem d44 : decode yB 44 = .ok (.iload 4, 2) := by decide +kernel
theorem d46 : decode yB 46 = .ok (.ireturn, 1) := by decide +kernel
def site : List Cond := []
def tab : Cond := tabOf yN yB 7 (some .int) site
def P (b : Addr) (A : Cell) (d : Addr) (B : Cell) (o q len : Nat) (args : Array Value) (s : State) : Prop := args = #[.ref b, .int (Int32.ofNat o), .ref d, .int (Int32.ofNat q), .int (Int32.ofNat len)] ∧ Ch b A s ∧ Arr .byte d B s ∧ b ≠ d ∧ o + len ≤ A.slots.size ∧ q + len ≤ B.slots.size ∧ ∀ i, i < len → ¬ 255 < cv A (o + i)
def E (b : Addr) (A : Cell) (d : Addr) (B : Cell) (o q len : Nat) (r : Option Value) (s u : State) : Prop := r = some (.int (Int32.ofNat len)) ∧ ∃ B', Put d B' s u ∧ Laid B B' q (q + len) (fun j => Value.int (lo8 (cv A (o + (j - q)))))
/-- no char of the range above 255: len; the places written hold each char's low byte -/
theorem law (l : Launch) (b : Addr) (A : Cell) (d : Addr) (B : Cell) (o q len : Nat) : Law l yN 5 5 0 0 yB 7 (some .int) site (P b A d B o q len) (E b A d B o q len) (copyLocs d q len) 0 0 := by
  refine Law.of_walk (plainFor_of_name (by decide +kernel)) (by decide +kernel) (by decide +kernel) (by decide) (fun _ _ h => by rw [h.1]; rfl) (fun _ U U' hal hh h => ⟨h.1, h.2.1.mv hal hh, h.2.2.1.mv hal hh, h.2.2.2⟩) (fun r U U' V V' h1 hal h2 h => ⟨h.1, h.2.elim fun B' q => ⟨B', q.1.mv h1 h2, q.2⟩⟩) ?_
  intro p e s m args below meth c s₁ X0 hexec hbytes hml hret hlk hnm hown hh0 W hP
  obtain ⟨rfl, hA, hB, hne, l1, l2, hp⟩ := hP
  have c1 : Steps p.tables e below (s₁.setTop (entryFrame m #[.ref b, .int (Int32.ofNat o), .ref d, .int (Int32.ofNat q), .int (Int32.ofNat len)] 7)) (s₁.setTop (mkF m 0 #[.val (.ref b), .val (.int (Int32.ofNat o)), .val (.ref d), .val (.int (Int32.ofNat q)), .val (.int (Int32.ofNat len)), .unset, .unset] [])) := entry rfl
  have hA0 := hA.1.mv X0.warmed.alike hh0
  have hB0 := hB.mv X0.warmed.alike hh0
  have a31 := hA.1.2.2.2
  have c2 : Steps p.tables e below (s₁.setTop (entryFrame m #[.ref b, .int (Int32.ofNat o), .ref d, .int (Int32.ofNat q), .int (Int32.ofNat len)] 7)) (s₁.setTop (mkF m 3 #[.val (.ref b), .val (.int (Int32.ofNat o)), .val (.ref d), .val (.int (Int32.ofNat q)), .val (.int (Int32.ofNat len)), .val (.int 0), .unset] [])) := c1.trans (by
    refine iconstV X0.here hexec rfl 0 (hb hbytes d0) (by decide) ?_
    refine XS.istore X0.here hexec rfl (hb hbytes d1) rfl rfl ?_
    exact Steps.refl _)
  have loop : ∀ (r i : Nat), i + r = len → ∀ (z : Slot), (z = .unset ∨ ∃ w, z = .val w ∧ w.category = 1) → ∀ (Tl : State) (Bk : Cell), Stand p l e { frames := 0, locals := 0, cells := 0, slots := 0 } s m #[.ref b, .int (Int32.ofNat o), .ref d, .int (Int32.ofNat q), .int (Int32.ofNat len)] below meth c Tl ([] ++ copyLocs d q i) 0 0 → Put d Bk s₁ Tl → Laid B Bk q (q + i) (fun j => Value.int (lo8 (cv A (o + (j - q))))) →
      Steps p.tables e below (s₁.setTop (entryFrame m #[.ref b, .int (Int32.ofNat o), .ref d, .int (Int32.ofNat q), .int (Int32.ofNat len)] 7)) (Tl.setTop (mkF m 3 #[.val (.ref b), .val (.int (Int32.ofNat (o + i))), .val (.ref d), .val (.int (Int32.ofNat (q + i))), .val (.int (Int32.ofNat len)), .val (.int (Int32.ofNat i)), z] [])) → ∃ (T' : State) (B' : Cell) (z' : Slot), Stand p l e { frames := 0, locals := 0, cells := 0, slots := 0 } s m #[.ref b, .int (Int32.ofNat o), .ref d, .int (Int32.ofNat q), .int (Int32.ofNat len)] below meth c T' ([] ++ copyLocs d q len) 0 0 ∧ Put d B' s₁ T' ∧ Laid B B' q (q + len) (fun j => Value.int (lo8 (cv A (o + (j - q))))) ∧
      Steps p.tables e below (s₁.setTop (entryFrame m #[.ref b, .int (Int32.ofNat o), .ref d, .int (Int32.ofNat q), .int (Int32.ofNat len)] 7)) (T'.setTop (mkF m 3 #[.val (.ref b), .val (.int (Int32.ofNat (o + len))), .val (.ref d), .val (.int (Int32.ofNat (q + len))), .val (.int (Int32.ofNat len)), .val (.int (Int32.ofNat len)), z'] [])) := by
    intro r
    induction r with
    | zero =>
      intro i hi z hz Tl Bk Xl pl fl cl
      have hil : i = len := by omega
      rw [hil] at Xl fl cl
      exact ⟨Tl, Bk, z, Xl, pl, fl, cl⟩
    | succ r ih =>
      intro i hi z hz Tl Bk Xl pl fl cl
      have all := X0.warmed.alike.symm.trans Xl.warmed.alike
      have hAl := hA0.keep all (pl.other hne hA0.1)
      have hBk := hB0.like all pl.1 fl.1 fl.2.1 fl.2.2.1
      have hlt : q + i < Bk.slots.size := by rw [fl.2.2.1]; omega
      have c3 : Steps p.tables e below (s₁.setTop (entryFrame m #[.ref b, .int (Int32.ofNat o), .ref d, .int (Int32.ofNat q), .int (Int32.ofNat len)] 7)) (Tl.setTop (mkF m 12 #[.val (.ref b), .val (.int (Int32.ofNat (o + i))), .val (.ref d), .val (.int (Int32.ofNat (q + i))), .val (.int (Int32.ofNat len)), .val (.int (Int32.ofNat i)), z] [.int (Int32.ofNat (o + i)), .ref b])) := cl.trans (by
        refine XS.iload Xl.here hexec rfl (hb hbytes d3) rfl ?_
        refine XS.iload Xl.here hexec rfl (hb hbytes d5) rfl ?_
        refine XS.icmpNo Xl.here hexec rfl (hb hbytes d7) rfl (ii_ge_f (lt32 (by omega) (by omega))) ?_
        refine XS.aloadN Xl.here hexec rfl (hb hbytes d10) rfl rfl ?_
        refine XS.iloadN Xl.here hexec rfl (hb hbytes d11) rfl ?_
        exact Steps.refl _)
      have c4 : Steps p.tables e below (s₁.setTop (entryFrame m #[.ref b, .int (Int32.ofNat o), .ref d, .int (Int32.ofNat q), .int (Int32.ofNat len)] 7)) (Tl.setTop (mkF m 13 #[.val (.ref b), .val (.int (Int32.ofNat (o + i))), .val (.ref d), .val (.int (Int32.ofNat (q + i))), .val (.int (Int32.ofNat len)), .val (.int (Int32.ofNat i)), z] [.int (cv A (o + i))])) := c3.trans (by
        refine Xl.aget hexec hAl rfl (hA.get (i := o + i) (by omega)) rfl rfl (hb hbytes d12) ?_
        exact Steps.refl _)
      have c5 : Steps p.tables e below (s₁.setTop (entryFrame m #[.ref b, .int (Int32.ofNat o), .ref d, .int (Int32.ofNat q), .int (Int32.ofNat len)] 7)) (Tl.setTop (mkF m 15 #[.val (.ref b), .val (.int (Int32.ofNat (o + i))), .val (.ref d), .val (.int (Int32.ofNat (q + i))), .val (.int (Int32.ofNat len)), .val (.int (Int32.ofNat i)), .val (.int (cv A (o + i)))] [])) := c4.trans (by
        refine XS.istoreS Xl.here hexec rfl (hb hbytes d13) rfl rfl hz ?_
        exact Steps.refl _)
      have c6 : Steps p.tables e below (s₁.setTop (entryFrame m #[.ref b, .int (Int32.ofNat o), .ref d, .int (Int32.ofNat q), .int (Int32.ofNat len)] 7)) (Tl.setTop (mkF m 31 #[.val (.ref b), .val (.int (Int32.ofNat (o + i))), .val (.ref d), .val (.int (Int32.ofNat (q + i))), .val (.int (Int32.ofNat len)), .val (.int (Int32.ofNat i)), .val (.int (cv A (o + i)))] [.int (lo8 (cv A (o + i))), .int (Int32.ofNat (q + i)), .ref d])) := c5.trans (by
        refine XS.iload Xl.here hexec rfl (hb hbytes d15) rfl ?_
        refine sipushV Xl.here hexec rfl 255 (hb hbytes d17) (by decide) ?_
        refine XS.icmpYes Xl.here hexec rfl (pc0 := 20) rfl (hb hbytes d20) rfl (ii_le_t (hp i (by omega))) (by decide) rfl ?_
        refine XS.aloadN Xl.here hexec rfl (hb hbytes d26) rfl rfl ?_
        refine XS.iloadN Xl.here hexec rfl (hb hbytes d27) rfl ?_
        refine XS.iload Xl.here hexec rfl (hb hbytes d28) rfl ?_
        refine i2b Xl.here hexec rfl (hb hbytes d30) rfl ?_
        exact Steps.refl _)
      obtain ⟨T7, X7, p7, st7⟩ := Xl.aput hexec hBk rfl hlt rfl (fits_lo8 (cv A (o + i))) (g := (mkF m 31 #[.val (.ref b), .val (.int (Int32.ofNat (o + i))), .val (.ref d), .val (.int (Int32.ofNat (q + i))), .val (.int (Int32.ofNat len)), .val (.int (Int32.ofNat i)), .val (.int (cv A (o + i)))] [.int (lo8 (cv A (o + i))), .int (Int32.ofNat (q + i)), .ref d])) rfl (rest := []) rfl (hb hbytes d31)
      have c8 : Steps p.tables e below (s₁.setTop (entryFrame m #[.ref b, .int (Int32.ofNat o), .ref d, .int (Int32.ofNat q), .int (Int32.ofNat len)] 7)) (T7.setTop (mkF m 32 #[.val (.ref b), .val (.int (Int32.ofNat (o + i))), .val (.ref d), .val (.int (Int32.ofNat (q + i))), .val (.int (Int32.ofNat len)), .val (.int (Int32.ofNat i)), .val (.int (cv A (o + i)))] [])) := c6.trans (st7 _ (Steps.refl _))
      have c9 : Steps p.tables e below (s₁.setTop (entryFrame m #[.ref b, .int (Int32.ofNat o), .ref d, .int (Int32.ofNat q), .int (Int32.ofNat len)] 7)) (T7.setTop (mkF m 3 #[.val (.ref b), .val (.int (Int32.ofNat (o + i) + 1)), .val (.ref d), .val (.int (Int32.ofNat (q + i) + 1)), .val (.int (Int32.ofNat len)), .val (.int (Int32.ofNat i + 1)), .val (.int (cv A (o + i)))] [])) := c8.trans (by
        refine iincV X7.here hexec rfl 1 (hb hbytes d32) (by decide) rfl rfl ?_
        refine iincV X7.here hexec rfl 1 (hb hbytes d35) (by decide) rfl rfl ?_
        refine iincV X7.here hexec rfl 1 (hb hbytes d38) (by decide) rfl rfl ?_
        refine XS.goto X7.here hexec rfl (pc0 := 41) rfl (hb hbytes d41) (by decide) rfl ?_
        exact Steps.refl _)
      have c10 : Steps p.tables e below (s₁.setTop (entryFrame m #[.ref b, .int (Int32.ofNat o), .ref d, .int (Int32.ofNat q), .int (Int32.ofNat len)] 7)) (T7.setTop (mkF m 3 #[.val (.ref b), .val (.int (Int32.ofNat (o + (i + 1)))), .val (.ref d), .val (.int (Int32.ofNat (q + (i + 1)))), .val (.int (Int32.ofNat len)), .val (.int (Int32.ofNat (i + 1))), .val (.int (cv A (o + i)))] [])) := by
        have := c9
        rw [succ32, succ32, succ32] at this
        exact this
      exact ih (i + 1) (by omega) _ (Or.inr ⟨_, rfl, rfl⟩) T7 _ (by rw [copyLocs_step, ← List.append_assoc]; exact X7) (pl.trans p7) (fl.step (by omega) hlt (by simp)) c10
  obtain ⟨T9, B9, z9, X9, p9, f9, g9⟩ := loop len 0 (by omega) .unset (Or.inl rfl) s₁ B (by simpa [copyLocs] using X0) ⟨hB0.1, fun _ _ => rfl, rfl⟩ (Laid.zero _ _ _) c2
  have c11 : Steps p.tables e below (s₁.setTop (entryFrame m #[.ref b, .int (Int32.ofNat o), .ref d, .int (Int32.ofNat q), .int (Int32.ofNat len)] 7)) (T9.setTop (mkF m 46 #[.val (.ref b), .val (.int (Int32.ofNat (o + len))), .val (.ref d), .val (.int (Int32.ofNat (q + len))), .val (.int (Int32.ofNat len)), .val (.int (Int32.ofNat len)), z9] [.int (Int32.ofNat len)])) := g9.trans (by
    refine XS.iload X9.here hexec rfl (hb hbytes d3) rfl ?_
    refine XS.iload X9.here hexec rfl (hb hbytes d5) rfl ?_
    refine XS.icmpYes X9.here hexec rfl (pc0 := 7) rfl (hb hbytes d7) rfl (ii_ge_t (nlt32 (by omega) (Nat.le_refl _))) (by decide) rfl ?_
    refine XS.iload X9.here hexec rfl (hb hbytes d44) rfl ?_
    exact Steps.refl _)
  exact ⟨T9, some (.int (Int32.ofNat len)), _, _, _, X9, by simp, rfl, rfl, (fun h => by cases h), ⟨rfl, B9, p9.from hh0, f9⟩, fun fs hl => c11.trans (X9.ireturnOut hexec hret rfl (Or.inl rfl) (hb hbytes d46) hl)⟩
end Cmp5
namespace Cmp3
def yN : MethodName := ⟨"java/lang/StringUTF16", "compress", "([CII)[B"⟩
abbrev yB : ByteArray := jdk_52_method_16_code
theorem d0 : decode yB 0 = .ok (.iload_n 2, 1) := by decide +kernel
theorem d1 : decode yB 1 = .ok (.newarray .byte, 2) := by decide +kernel
theorem d3 : decode yB 3 = .ok (.astore_n 3, 1) := by decide +kernel
theorem d4 : decode yB 4 = .ok (.aload_n 0, 1) := by decide +kernel
theorem d5 : decode yB 5 = .ok (.iload_n 1, 1) := by decide +kernel
theorem d6 : decode yB 6 = .ok (.aload_n 3, 1) := by decide +kernel
theorem d7 : decode yB 7 = .ok (.iconst 0, 1) := by decide +kernel
theorem d8 : decode yB 8 = .ok (.iload_n 2, 1) := by decide +kernel
theorem d9 : decode yB 9 = .ok (.invokestatic 115, 3) := by decide +kernel
theorem d12 : decode yB 12 = .ok (.istore 4, 2) := by decide +kernel
theorem d14 : decode yB 14 = .ok (.iload 4, 2) := by decide +kernel
theorem d16 : decode yB 16 = .ok (.iload_n 2, 1) := by decide +kernel
theorem d17 : decode yB 17 = .ok (.if_icmp (.eq) 40, 3) := by decide +kernel
theorem d57 : decode yB 57 = .ok (.aload_n 3, 1) := by decide +kernel
theorem d58 : decode yB 58 = .ok (.areturn, 1) := by decide +kernel
def site : List Cond := [.arrayClass .byte, Cmp5.tab] ++ staticW U16 115 Cmp5.yN
def tab : Cond := tabOf yN yB 6 (some (.array .byte)) site
def P (b : Addr) (A : Cell) (o len : Nat) (args : Array Value) (s : State) : Prop := args = #[.ref b, .int (Int32.ofNat o), .int (Int32.ofNat len)] ∧ Ch b A s ∧ o + len ≤ A.slots.size ∧ len ≤ 536870912 ∧ ∀ i, i < len → ¬ 255 < cv A (o + i)
def E (b : Addr) (A : Cell) (o len : Nat) (r : Option Value) (s u : State) : Prop := NewArr .byte "[B" len (fun j => .int (lo8 (cv A (o + j)))) r s u ∧ u.heap.size = s.heap.size + 1
/-- no char of the range above 255: a new byte[] of their low bytes -/
theorem law (l : Launch) (b : Addr) (A : Cell) (o len : Nat) : Law l yN 3 3 1 18 yB 6 (some (.array .byte)) site (P b A o len) (E b A o len) [] 1 len := by
  refine Law.of_walk (plainFor_of_name (by decide +kernel)) (by decide +kernel) (by decide +kernel) (by decide) (fun _ _ h => by rw [h.1]; rfl) (fun _ U U' hal hh h => ⟨h.1, h.2.1.mv hal hh, h.2.2⟩) (fun r U U' V V' h1 hal h2 h => ⟨NewArr.mv r U U' V V' h1 hal h2 h.1, by rw [h1, h2]; exact h.2⟩) ?_
  intro p e s m args below meth c s₁ X0 hexec hbytes hml hret hlk hnm hown hh0 W hP
  obtain ⟨rfl, hA, l1, l2, hp⟩ := hP
  have a31 := hA.1.2.2.2
  have c1 : Steps p.tables e below (s₁.setTop (entryFrame m #[.ref b, .int (Int32.ofNat o), .int (Int32.ofNat len)] 6)) (s₁.setTop (mkF m 0 #[.val (.ref b), .val (.int (Int32.ofNat o)), .val (.int (Int32.ofNat len)), .unset, .unset, .unset] [])) := entry rfl
  have c2 : Steps p.tables e below (s₁.setTop (entryFrame m #[.ref b, .int (Int32.ofNat o), .int (Int32.ofNat len)] 6)) (s₁.setTop (mkF m 1 #[.val (.ref b), .val (.int (Int32.ofNat o)), .val (.int (Int32.ofNat len)), .unset, .unset, .unset] [.int (Int32.ofNat len)])) := c1.trans (by
    refine XS.iloadN X0.here hexec rfl (hb hbytes d0) rfl ?_
    exact Steps.refl _)
  obtain ⟨T3, B3, X3, ba3, bs3, bv3, bh3, bf3, st3⟩ := X0.anew hexec (atype := .byte) (wk W (.arrayClass .byte)) rfl (by show len * 1 ≤ _; omega) (by omega) (g := (mkF m 1 #[.val (.ref b), .val (.int (Int32.ofNat o)), .val (.int (Int32.ofNat len)), .unset, .unset, .unset] [.int (Int32.ofNat len)])) rfl (hb hbytes d1) (rest := []) rfl (Nat.le_refl _) (by show 0 + len ≤ len; omega)
  rw [hh0] at ba3 st3
  have kp3 : XT.Kept s T3 := (XT.Kept.of_eq hh0).push bh3
  have hA3 := hA.keep X3.warmed.alike (kp3 _ _ hA.1.1)
  have hne : b ≠ s.heap.size := hA.1.ne
  have c4 : Steps p.tables e below (s₁.setTop (entryFrame m #[.ref b, .int (Int32.ofNat o), .int (Int32.ofNat len)] 6)) (T3.setTop (mkF m 3 #[.val (.ref b), .val (.int (Int32.ofNat o)), .val (.int (Int32.ofNat len)), .unset, .unset, .unset] [.ref s.heap.size])) := c2.trans (st3 _ (Steps.refl _))
  have c5 : Steps p.tables e below (s₁.setTop (entryFrame m #[.ref b, .int (Int32.ofNat o), .int (Int32.ofNat len)] 6)) (T3.setTop (mkF m 9 #[.val (.ref b), .val (.int (Int32.ofNat o)), .val (.int (Int32.ofNat len)), .val (.ref s.heap.size), .unset, .unset] [.int (Int32.ofNat len), .int 0, .ref s.heap.size, .int (Int32.ofNat o), .ref b])) := c4.trans (by
    refine XS.astoreN X3.here hexec rfl (hb hbytes d3) rfl rfl rfl ?_
    refine XS.aloadN X3.here hexec rfl (hb hbytes d4) rfl rfl ?_
    refine XS.iloadN X3.here hexec rfl (hb hbytes d5) rfl ?_
    refine XS.aloadN X3.here hexec rfl (hb hbytes d6) rfl rfl ?_
    refine iconstV X3.here hexec rfl 0 (hb hbytes d7) (by decide) ?_
    refine XS.iloadN X3.here hexec rfl (hb hbytes d8) rfl ?_
    exact Steps.refl _)
  obtain ⟨v6, T6, X6, E6, g6⟩ := X3.callS hexec (Cmp5.law l b A s.heap.size B3 o 0 len) hown (wks W (staticW U16 115 Cmp5.yN)) (wk W Cmp5.tab) (W := 0) (Nat.le_of_ble_eq_true rfl) (Nat.le_of_ble_eq_true rfl) (Nat.le_refl _) (by show 0 + len + 0 ≤ len; omega) (g := (mkF m 9 #[.val (.ref b), .val (.int (Int32.ofNat o)), .val (.int (Int32.ofNat len)), .val (.ref s.heap.size), .unset, .unset] [.int (Int32.ofNat len), .int (Int32.ofNat 0), .ref s.heap.size, .int (Int32.ofNat o), .ref b])) rfl (by rw [hml]; rfl) c5 (argsL := [.ref b, .int (Int32.ofNat o), .ref s.heap.size, .int (Int32.ofNat 0), .int (Int32.ofNat len)]) (rest := []) rfl rfl (by show 2 * 0 + 0 ≤ _; decide) (hb hbytes d9) (⟨rfl, hA3, ba3, hne, l1, by rw [bs3]; simp, hp⟩)
  obtain ⟨rfl, B6, p6, f6⟩ := E6
  have c7 : Steps p.tables e below (s₁.setTop (entryFrame m #[.ref b, .int (Int32.ofNat o), .int (Int32.ofNat len)] 6)) (T6.setTop (mkF m 12 #[.val (.ref b), .val (.int (Int32.ofNat o)), .val (.int (Int32.ofNat len)), .val (.ref s.heap.size), .unset, .unset] [.int (Int32.ofNat len)])) := g6
  have c8 : Steps p.tables e below (s₁.setTop (entryFrame m #[.ref b, .int (Int32.ofNat o), .int (Int32.ofNat len)] 6)) (T6.setTop (mkF m 58 #[.val (.ref b), .val (.int (Int32.ofNat o)), .val (.int (Int32.ofNat len)), .val (.ref s.heap.size), .val (.int (Int32.ofNat len)), .unset] [.ref s.heap.size])) := c7.trans (by
    refine XS.istore X6.here hexec rfl (hb hbytes d12) rfl rfl ?_
    refine XS.iload X6.here hexec rfl (hb hbytes d14) rfl ?_
    refine XS.iloadN X6.here hexec rfl (hb hbytes d16) rfl ?_
    refine XS.icmpYes X6.here hexec rfl (pc0 := 17) rfl (hb hbytes d17) rfl (ii_eq_t rfl) (by decide) rfl ?_
    refine XS.aloadN X6.here hexec rfl (hb hbytes d57) rfl rfl ?_
    exact Steps.refl _)
  have X8 := X6.wide (L' := []) (cells' := 1) (slots' := len) (fun x hx hlt => by
    simp only [List.nil_append, copyLocs, List.mem_map, List.mem_range] at hx
    obtain ⟨i, -, rfl⟩ := hx
    exact absurd hlt (Nat.lt_irrefl _)) (Nat.le_refl _) (by omega)
  exact ⟨T6, some (.ref s.heap.size), _, _, _, X8, rfl, rfl, rfl, (fun h => by cases h), ⟨⟨rfl, B6, ba3.like (X3.warmed.alike.symm.trans X6.warmed.alike) p6.1 f6.1 f6.2.1 f6.2.2.1, f6.2.1.trans bv3, by rw [X6.warmed.alike.findClass, f6.1]; exact bf3, by rw [f6.2.2.1, bs3]; simp, fun j hj => by rw [f6.2.2.2 j, if_pos (by omega)]; rfl, kp3.put p6 (Nat.le_refl _)⟩, by rw [p6.2.2, bh3, hh0]; simp⟩, fun fs hl => c8.trans (X8.areturnOut hexec rfl hret rfl (hb hbytes d58) hl)⟩
end Cmp3
namespace CodL
def yN : MethodName := ⟨"java/lang/StringUTF16", "coderFromArrayLen", "([BI)B"⟩
abbrev yB : ByteArray := jdk_52_method_15_code
theorem d0 : decode yB 0 = .ok (.iload_n 1, 1) := by decide +kernel
theorem d1 : decode yB 1 = .ok (.aload_n 0, 1) := by decide +kernel
theorem d2 : decode yB 2 = .ok (.arraylength, 1) := by decide +kernel
theorem d3 : decode yB 3 = .ok (.isub, 1) := by decide +kernel
theorem d4 : decode yB 4 = .ok (.bipush 31, 2) := by decide +kernel
theorem d6 : decode yB 6 = .ok (.iushr, 1) := by decide +kernel
theorem d7 : decode yB 7 = .ok (.i2b, 1) := by decide +kernel
theorem d8 : decode yB 8 = .ok (.ireturn, 1) := by decide +kernel
def site : List Cond := []
def tab : Cond := tabOf yN yB 2 (some .byte) site
def P (d : Addr) (B : Cell) (args : Array Value) (s : State) : Prop := args = #[.ref d, .int (Int32.ofNat B.slots.size)] ∧ Arr .byte d B s
def E (r : Option Value) (s u : State) : Prop := XT.PureE (some (.int 0)) r s u
/-- an array as long as the number of chars: LATIN1 -/
theorem law (l : Launch) (d : Addr) (B : Cell) : Law l yN 2 2 0 0 yB 2 (some .byte) site (P d B) E [] 0 0 := by
  refine Law.of_walk (plainFor_of_name (by decide +kernel)) (by decide +kernel) (by decide +kernel) (by decide) (fun _ _ h => by rw [h.1]; rfl) (fun _ U U' hal hh h => ⟨h.1, h.2.mv hal hh⟩) (fun r U U' V V' h1 hal h2 h => XT.PureE.mv r U U' V V' h1 hal h2 h) ?_
  intro p e s m args below meth c s₁ X0 hexec hbytes hml hret hlk hnm hown hh0 W hP
  obtain ⟨rfl, hB⟩ := hP
  have hB0 := hB.mv X0.warmed.alike hh0
  have c1 : Steps p.tables e below (s₁.setTop (entryFrame m #[.ref d, .int (Int32.ofNat B.slots.size)] 2)) (s₁.setTop (mkF m 0 #[.val (.ref d), .val (.int (Int32.ofNat B.slots.size))] [])) := entry rfl
  have c2 : Steps p.tables e below (s₁.setTop (entryFrame m #[.ref d, .int (Int32.ofNat B.slots.size)] 2)) (s₁.setTop (mkF m 2 #[.val (.ref d), .val (.int (Int32.ofNat B.slots.size))] [.ref d, .int (Int32.ofNat B.slots.size)])) := c1.trans (by
    refine XS.iloadN X0.here hexec rfl (hb hbytes d0) rfl ?_
    refine XS.aloadN X0.here hexec rfl (hb hbytes d1) rfl rfl ?_
    exact Steps.refl _)
  have c3 : Steps p.tables e below (s₁.setTop (entryFrame m #[.ref d, .int (Int32.ofNat B.slots.size)] 2)) (s₁.setTop (mkF m 8 #[.val (.ref d), .val (.int (Int32.ofNat B.slots.size))] [.int (lo8 (ushr (Int32.ofNat B.slots.size - Int32.ofNat B.slots.size) 31))])) := c2.trans (by
    refine X0.alen hexec hB0 rfl rfl (hb hbytes d2) ?_
    refine XS.isub X0.here hexec rfl (hb hbytes d3) rfl ?_
    refine bipushV X0.here hexec rfl 31 (hb hbytes d4) (by decide) ?_
    refine iushr X0.here hexec rfl (hb hbytes d6) rfl ?_
    refine i2b X0.here hexec rfl (hb hbytes d7) rfl ?_
    exact Steps.refl _)
  have e0 : lo8 (ushr (Int32.ofNat B.slots.size - Int32.ofNat B.slots.size) 31) = 0 := by rw [Int32.sub_self]; decide
  rw [e0] at c3
  exact ⟨s₁, some (.int 0), _, _, _, X0, rfl, rfl, rfl, (fun h => by cases h), ⟨rfl, hh0⟩, fun fs hl => c3.trans (X0.ireturnOut hexec hret rfl (Or.inr (Or.inr (Or.inl rfl))) (hb hbytes d8) hl)⟩
end CodL
/-- the String at a is Latin-1 over a new byte[] (the heap's one new cell): the low bytes of the len chars of A from o on; every cell but a is kept -/
def Got (a : Addr) (D : Cell) (fV fC : Field) (A : Cell) (o len : Nat) (r : Option Value) (s u : State) : Prop := r = none ∧ ∃ D' V : Cell, Blank "java/lang/String" a D' u ∧ Same D D' [fV.slot, fC.slot] ∧ D'.slots[fV.slot]? = some (.ref s.heap.size) ∧ D'.slots[fC.slot]? = some (.int 0) ∧ Arr .byte s.heap.size V u ∧ V.vm = .none ∧ u.vm.findClass "[B" = some V.cls ∧ V.slots.size = len ∧ (∀ j, j < len → V.slots[j]? = some (.int (lo8 (cv A (o + j))))) ∧ (∀ (y : Addr) (c : Cell), y ≠ a → s.heap[y]? = some c → u.heap[y]? = some c) ∧ u.heap.size = s.heap.size + 1
theorem Got.mv {a : Addr} {D A : Cell} {fV fC : Field} {o len : Nat} : ∀ r (U U' V V' : State), U'.heap = U.heap → V.vm.Alike V'.vm → V'.heap = V.heap → Got a D fV fC A o len r U V → Got a D fV fC A o len r U' V' :=
  fun r U U' V V' h1 hal h2 ⟨e0, D', X, a1, a2, a3, a4, a5, a6, a7, a8, a9, a10, a11⟩ => ⟨e0, D', X, a1.mv hal h2, a2, by rw [h1]; exact a3, a4, by rw [h1]; exact a5.mv hal h2, a6, by rw [hal.findClass]; exact a7, a8, a9, by rw [h1, h2]; exact a10, by rw [h1, h2]; exact a11⟩
namespace New4
def yN : MethodName := ⟨"java/lang/String", "<init>", "([CIILjava/lang/Void;)V"⟩
abbrev yB : ByteArray := jdk_42_method_149_code
theorem d0 : decode yB 0 = .ok (.aload_n 0, 1) := by decide +kernel
theorem d1 : decode yB 1 = .ok (.invokespecial 1, 3) := by decide +kernel
theorem d4 : decode yB 4 = .ok (.iload_n 3, 1) := by decide +kernel
theorem d5 : decode yB 5 = .ok (.ifCond (.ne) 22, 3) := by decide +kernel
theorem d27 : decode yB 27 = .ok (.getstatic 38, 3) := by decide +kernel
theorem d30 : decode yB 30 = .ok (.ifCond (.eq) 28, 3) := by decide +kernel
theorem d33 : decode yB 33 = .ok (.aload_n 1, 1) := by decide +kernel
theorem d34 : decode yB 34 = .ok (.iload_n 2, 1) := by decide +kernel
theorem d35 : decode yB 35 = .ok (.iload_n 3, 1) := by decide +kernel
theorem d36 : decode yB 36 = .ok (.invokestatic 177, 3) := by decide +kernel
theorem d39 : decode yB 39 = .ok (.astore 5, 2) := by decide +kernel
theorem d41 : decode yB 41 = .ok (.aload_n 0, 1) := by decide +kernel
theorem d42 : decode yB 42 = .ok (.aload 5, 2) := by decide +kernel
theorem d44 : decode yB 44 = .ok (.iload_n 3, 1) := by decide +kernel
theorem d45 : decode yB 45 = .ok (.invokestatic 47, 3) := by decide +kernel
theorem d48 : decode yB 48 = .ok (.putfield 15, 3) := by decide +kernel
theorem d51 : decode yB 51 = .ok (.aload_n 0, 1) := by decide +kernel
theorem d52 : decode yB 52 = .ok (.aload 5, 2) := by decide +kernel
theorem d54 : decode yB 54 = .ok (.putfield 9, 3) := by decide +kernel
theorem d57 : decode yB 57 = .ok (.return_, 1) := by decide +kernel
def site : List Cond := [.fieldLink "java/lang/String" 38 "java/lang/String" "COMPACT_STRINGS" "Z", Cmp3.tab, CodL.tab, .laysFinal "java/lang/String" "java/lang/String" "value" "[B", .fieldLink "java/lang/String" 9 "java/lang/String" "value" "[B", .laysFinal "java/lang/String" "java/lang/String" "coder" "B", .fieldLink "java/lang/String" 15 "java/lang/String" "coder" "B"] ++ objW "java/lang/String" 1 ++ staticW "java/lang/String" 177 Cmp3.yN ++ staticW "java/lang/String" 47 CodL.yN
def tab : Cond := tabOf yN yB 6 none site
def P (a : Addr) (D : Cell) (fV fC : Field) (b : Addr) (A : Cell) (z : Int32) (o len : Nat) (args : Array Value) (s : State) : Prop := args = #[.ref a, .ref b, .int (Int32.ofNat o), .int (Int32.ofNat len), .null] ∧ Blank "java/lang/String" a D s ∧ Found "java/lang/String" "value" "[B" fV s ∧ Found "java/lang/String" "coder" "B" fC s ∧ Ch b A s ∧ StaticIs s "java/lang/String" "COMPACT_STRINGS" "Z" (.int z) ∧ ¬ z = 0 ∧ 0 < len ∧ o + len ≤ A.slots.size ∧ len ≤ 536870912 ∧ ∀ i, i < len → ¬ 255 < cv A (o + i)
def E (a : Addr) (D : Cell) (fV fC : Field) (A : Cell) (o len : Nat) (r : Option Value) (s u : State) : Prop := Got a D fV fC A o len r s u
/-- len > 0, no char of the range above 255: a Latin-1 String of their low bytes -/
theorem law (l : Launch) (a : Addr) (D : Cell) (fV fC : Field) (b : Addr) (A : Cell) (z : Int32) (o len : Nat) : Law l yN 5 4 2 35 yB 6 none site (P a D fV fC b A z o len) (E a D fV fC A o len) [⟨a, fC.slot⟩, ⟨a, fV.slot⟩] 1 len := by
  refine Law.of_walk (plainFor_of_name (by decide +kernel)) (by decide +kernel) (by decide +kernel) (by decide) (fun _ _ h => by rw [h.1]; rfl) (fun _ U U' hal hh h => ⟨h.1, h.2.1.mv hal hh, h.2.2.1.al hal, h.2.2.2.1.al hal, h.2.2.2.2.1.mv hal hh, h.2.2.2.2.2.1.there hal hh, h.2.2.2.2.2.2⟩) (fun r U U' V V' h1 hal h2 h => Got.mv r U U' V V' h1 hal h2 h) ?_
  intro p e s m args below meth c s₁ X0 hexec hbytes hml hret hlk hnm hown hh0 W hP
  obtain ⟨rfl, hB, f1, f2, hA, s1, hz, l0, l1, l2, hp⟩ := hP
  have a31 := hA.1.2.2.2
  have c1 : Steps p.tables e below (s₁.setTop (entryFrame m #[.ref a, .ref b, .int (Int32.ofNat o), .int (Int32.ofNat len), .null] 6)) (s₁.setTop (mkF m 0 #[.val (.ref a), .val (.ref b), .val (.int (Int32.ofNat o)), .val (.int (Int32.ofNat len)), .val .null, .unset] [])) := entry rfl
  have c2 : Steps p.tables e below (s₁.setTop (entryFrame m #[.ref a, .ref b, .int (Int32.ofNat o), .int (Int32.ofNat len), .null] 6)) (s₁.setTop (mkF m 1 #[.val (.ref a), .val (.ref b), .val (.int (Int32.ofNat o)), .val (.int (Int32.ofNat len)), .val .null, .unset] [.ref a])) := c1.trans (by
    refine XS.aloadN X0.here hexec rfl (hb hbytes d0) rfl rfl ?_
    exact Steps.refl _)
  obtain ⟨T3, X3, q3, st3⟩ := X0.oinit hexec hown (wks W (objW "java/lang/String" 1)) (g := (mkF m 1 #[.val (.ref a), .val (.ref b), .val (.int (Int32.ofNat o)), .val (.int (Int32.ofNat len)), .val .null, .unset] [.ref a])) rfl (by rw [hml]; rfl) (rest := []) rfl (hb hbytes d1) (W := 0) (by show 2 * 0 + 0 ≤ _; decide) (Nat.le_of_ble_eq_true rfl) (Nat.le_of_ble_eq_true rfl)
  have hh3 := q3.trans hh0
  have c4 : Steps p.tables e below (s₁.setTop (entryFrame m #[.ref a, .ref b, .int (Int32.ofNat o), .int (Int32.ofNat len), .null] 6)) (T3.setTop (mkF m 27 #[.val (.ref a), .val (.ref b), .val (.int (Int32.ofNat o)), .val (.int (Int32.ofNat len)), .val .null, .unset] [])) := (c2.trans (st3 _ (Steps.refl _))).trans (by
    refine XS.iloadN X3.here hexec rfl (hb hbytes d4) rfl ?_
    refine XS.ifYes X3.here hexec rfl (pc0 := 5) rfl (hb hbytes d5) rfl (i0_ne_t (nz32 (by omega) l0)) (by decide) rfl ?_
    exact Steps.refl _)
  obtain ⟨T5, X5, q5, st5⟩ := X3.sget hexec hown (wk W (.fieldLink "java/lang/String" 38 "java/lang/String" "COMPACT_STRINGS" "Z")) s1 (fun _ _ h => by rw [hh3]; exact h) (g := (mkF m 27 #[.val (.ref a), .val (.ref b), .val (.int (Int32.ofNat o)), .val (.int (Int32.ofNat len)), .val .null, .unset] [])) rfl (hb hbytes d27)
  have hh5 := q5.trans hh3
  have c6 : Steps p.tables e below (s₁.setTop (entryFrame m #[.ref a, .ref b, .int (Int32.ofNat o), .int (Int32.ofNat len), .null] 6)) (T5.setTop (mkF m 30 #[.val (.ref a), .val (.ref b), .val (.int (Int32.ofNat o)), .val (.int (Int32.ofNat len)), .val .null, .unset] [.int z])) := c4.trans (st5 _ (Steps.refl _))
  have c7 : Steps p.tables e below (s₁.setTop (entryFrame m #[.ref a, .ref b, .int (Int32.ofNat o), .int (Int32.ofNat len), .null] 6)) (T5.setTop (mkF m 36 #[.val (.ref a), .val (.ref b), .val (.int (Int32.ofNat o)), .val (.int (Int32.ofNat len)), .val .null, .unset] [.int (Int32.ofNat len), .int (Int32.ofNat o), .ref b])) := c6.trans (by
    refine XS.ifNo X5.here hexec rfl (hb hbytes d30) rfl (i0_eq_f hz) ?_
    refine XS.aloadN X5.here hexec rfl (hb hbytes d33) rfl rfl ?_
    refine XS.iloadN X5.here hexec rfl (hb hbytes d34) rfl ?_
    refine XS.iloadN X5.here hexec rfl (hb hbytes d35) rfl ?_
    exact Steps.refl _)
  obtain ⟨v8, T8, X8, E8, g8⟩ := X5.callS hexec (Cmp3.law l b A o len) hown (wks W (staticW "java/lang/String" 177 Cmp3.yN)) (wk W Cmp3.tab) (W := 0) (Nat.le_of_ble_eq_true rfl) (Nat.le_of_ble_eq_true rfl) (Nat.le_refl _) (by show 0 + len ≤ len; omega) (g := (mkF m 36 #[.val (.ref a), .val (.ref b), .val (.int (Int32.ofNat o)), .val (.int (Int32.ofNat len)), .val .null, .unset] [.int (Int32.ofNat len), .int (Int32.ofNat o), .ref b])) rfl (by rw [hml]; rfl) c7 (argsL := [.ref b, .int (Int32.ofNat o), .int (Int32.ofNat len)]) (rest := []) rfl rfl (by show 2 * 0 + 0 ≤ _; decide) (hb hbytes d36) (⟨rfl, hA.mv X5.warmed.alike hh5, l1, l2, hp⟩)
  obtain ⟨e8, z8⟩ := E8
  obtain ⟨rfl, N, n1, n2, n3, n4, n5, n6⟩ := NewArr.mv _ T5 s _ _ hh5.symm (Vm.Alike.refl _) rfl e8
  rw [hh5] at z8
  have hB1 := hB.keep X8.warmed.alike (n6 _ _ hB.1)
  have hne : s.heap.size ≠ a := (Nat.ne_of_lt (Array.getElem?_eq_some_iff.mp hB.1).1).symm
  have c9 : Steps p.tables e below (s₁.setTop (entryFrame m #[.ref a, .ref b, .int (Int32.ofNat o), .int (Int32.ofNat len), .null] 6)) (T8.setTop (mkF m 39 #[.val (.ref a), .val (.ref b), .val (.int (Int32.ofNat o)), .val (.int (Int32.ofNat len)), .val .null, .unset] [.ref s.heap.size])) := g8
  have c10 : Steps p.tables e below (s₁.setTop (entryFrame m #[.ref a, .ref b, .int (Int32.ofNat o), .int (Int32.ofNat len), .null] 6)) (T8.setTop (mkF m 45 #[.val (.ref a), .val (.ref b), .val (.int (Int32.ofNat o)), .val (.int (Int32.ofNat len)), .val .null, .val (.ref s.heap.size)] [.int (Int32.ofNat N.slots.size), .ref s.heap.size, .ref a])) := by
    have hc : Steps p.tables e below (s₁.setTop (entryFrame m #[.ref a, .ref b, .int (Int32.ofNat o), .int (Int32.ofNat len), .null] 6)) (T8.setTop (mkF m 45 #[.val (.ref a), .val (.ref b), .val (.int (Int32.ofNat o)), .val (.int (Int32.ofNat len)), .val .null, .val (.ref s.heap.size)] [.int (Int32.ofNat len), .ref s.heap.size, .ref a])) := c9.trans (by
      refine XS.astore X8.here hexec rfl (hb hbytes d39) rfl rfl rfl ?_
      refine XS.aloadN X8.here hexec rfl (hb hbytes d41) rfl rfl ?_
      refine XS.aload X8.here hexec rfl (hb hbytes d42) rfl rfl ?_
      refine XS.iloadN X8.here hexec rfl (hb hbytes d44) rfl ?_
      exact Steps.refl _)
    rw [n4]; exact hc
  obtain ⟨v11, T11, X11, E11, g11⟩ := X8.callS hexec (CodL.law l s.heap.size N) hown (wks W (staticW "java/lang/String" 47 CodL.yN)) (wk W CodL.tab) (W := 1) (Nat.le_of_ble_eq_true rfl) (Nat.le_of_ble_eq_true rfl) (Nat.le_refl _) (by show 0 + len + 0 ≤ len; omega) (g := (mkF m 45 #[.val (.ref a), .val (.ref b), .val (.int (Int32.ofNat o)), .val (.int (Int32.ofNat len)), .val .null, .val (.ref s.heap.size)] [.int (Int32.ofNat N.slots.size), .ref s.heap.size, .ref a])) rfl (by rw [hml]; rfl) c10 (argsL := [.ref s.heap.size, .int (Int32.ofNat N.slots.size)]) (rest := [.ref a]) rfl rfl (by show 2 * 0 + (1 + 0) ≤ _; decide) (hb hbytes d45) (⟨rfl, n1⟩)
  obtain ⟨rfl, q11⟩ := E11
  have hB11 := hB1.mv (X8.warmed.alike.symm.trans X11.warmed.alike) q11
  have c12 : Steps p.tables e below (s₁.setTop (entryFrame m #[.ref a, .ref b, .int (Int32.ofNat o), .int (Int32.ofNat len), .null] 6)) (T11.setTop (mkF m 48 #[.val (.ref a), .val (.ref b), .val (.int (Int32.ofNat o)), .val (.int (Int32.ofNat len)), .val .null, .val (.ref s.heap.size)] [.int 0, .ref a])) := g11
  obtain ⟨T13, X13, p13, bl13, sl13, st13⟩ := X11.finit hexec hown (wk W (.fieldLink "java/lang/String" 15 "java/lang/String" "coder" "B")) (Or.inr ⟨_, (wk W (.laysFinal "java/lang/String" "java/lang/String" "coder" "B"))⟩) (Or.inl ⟨rfl, hnm⟩) f2 (Or.inl rfl) hB11 (t := .byte) (by decide +kernel) rfl (g := (mkF m 48 #[.val (.ref a), .val (.ref b), .val (.int (Int32.ofNat o)), .val (.int (Int32.ofNat len)), .val .null, .val (.ref s.heap.size)] [.int 0, .ref a])) rfl (rest := []) rfl (hb hbytes d48)
  have c14 : Steps p.tables e below (s₁.setTop (entryFrame m #[.ref a, .ref b, .int (Int32.ofNat o), .int (Int32.ofNat len), .null] 6)) (T13.setTop (mkF m 54 #[.val (.ref a), .val (.ref b), .val (.int (Int32.ofNat o)), .val (.int (Int32.ofNat len)), .val .null, .val (.ref s.heap.size)] [.ref s.heap.size, .ref a])) := (c12.trans (st13 _ (Steps.refl _))).trans (by
    refine XS.aloadN X13.here hexec rfl (hb hbytes d51) rfl rfl ?_
    refine XS.aload X13.here hexec rfl (hb hbytes d52) rfl rfl ?_
    exact Steps.refl _)
  obtain ⟨T15, X15, p15, bl15, sl15, st15⟩ := X13.finit hexec hown (wk W (.fieldLink "java/lang/String" 9 "java/lang/String" "value" "[B")) (Or.inr ⟨_, (wk W (.laysFinal "java/lang/String" "java/lang/String" "value" "[B"))⟩) (Or.inl ⟨rfl, hnm⟩) f1 (Or.inl rfl) bl13 (t := (.array .byte)) (by decide +kernel) rfl (g := (mkF m 54 #[.val (.ref a), .val (.ref b), .val (.int (Int32.ofNat o)), .val (.int (Int32.ofNat len)), .val .null, .val (.ref s.heap.size)] [.ref s.heap.size, .ref a])) rfl (rest := []) rfl (hb hbytes d54)
  have c16 : Steps p.tables e below (s₁.setTop (entryFrame m #[.ref a, .ref b, .int (Int32.ofNat o), .int (Int32.ofNat len), .null] 6)) (T15.setTop (mkF m 57 #[.val (.ref a), .val (.ref b), .val (.int (Int32.ofNat o)), .val (.int (Int32.ofNat len)), .val .null, .val (.ref s.heap.size)] [])) := c14.trans (st15 _ (Steps.refl _))
  have ap := apart (Or.inr ⟨_, (wk W (.laysFinal "java/lang/String" "java/lang/String" "value" "[B"))⟩) (Or.inr ⟨_, (wk W (.laysFinal "java/lang/String" "java/lang/String" "coder" "B"))⟩) f1 f2 (t₁ := .array .byte) (t₂ := .byte) (by decide +kernel) (by decide +kernel) (by decide)
  have al := X8.warmed.alike.symm.trans X15.warmed.alike
  have n7 : T11.heap[s.heap.size]? = some N := by rw [q11]; exact n1.1
  exact ⟨T15, none, _, _, _, X15, by simp, rfl, by omega, (fun _ => rfl), ⟨rfl, _, N, bl15, ((Same.refl D _).set _ (by simp)).set _ (by simp), sl15, (Cell.slots_setSlot_ne _ ap).trans sl13, n1.keep al (p15.other hne (p13.other hne n7)), n2, by rw [al.findClass]; exact n3, n4, n5, fun y c h1 h2 => p15.other h1 (p13.other h1 (by rw [q11]; exact n6 y c h2)), by rw [p15.2.2, p13.2.2, q11]; exact z8⟩, fun fs hl => c16.trans (X15.returnOut hexec hret (hb hbytes d57) hl)⟩
end New4
namespace New1
def yN : MethodName := ⟨"java/lang/String", "<init>", "([C)V"⟩
abbrev yB : ByteArray := jdk_42_method_3_code
theorem d0 : decode yB 0 = .ok (.aload_n 0, 1) := by decide +kernel
theorem d1 : decode yB 1 = .ok (.aload_n 1, 1) := by decide +kernel
theorem d2 : decode yB 2 = .ok (.iconst 0, 1) := by decide +kernel
theorem d3 : decode yB 3 = .ok (.aload_n 1, 1) := by decide +kernel
theorem d4 : decode yB 4 = .ok (.arraylength, 1) := by decide +kernel
theorem d5 : decode yB 5 = .ok (.aconst_null, 1) := by decide +kernel
theorem d6 : decode yB 6 = .ok (.invokespecial 27, 3) := by decide +kernel
theorem d9 : decode yB 9 = .ok (.return_, 1) := by decide +kernel
def site : List Cond := [New4.tab] ++ initW "java/lang/String" 27 New4.yN
def tab : Cond := tabOf yN yB 2 none site
def P (a : Addr) (D : Cell) (fV fC : Field) (b : Addr) (A : Cell) (z : Int32) (args : Array Value) (s : State) : Prop := args = #[.ref a, .ref b] ∧ Blank "java/lang/String" a D s ∧ Found "java/lang/String" "value" "[B" fV s ∧ Found "java/lang/String" "coder" "B" fC s ∧ Ch b A s ∧ StaticIs s "java/lang/String" "COMPACT_STRINGS" "Z" (.int z) ∧ ¬ z = 0 ∧ 0 < A.slots.size ∧ A.slots.size ≤ 536870912 ∧ ∀ i, i < A.slots.size → ¬ 255 < cv A i
def E (a : Addr) (D : Cell) (fV fC : Field) (A : Cell) (r : Option Value) (s u : State) : Prop := Got a D fV fC A 0 A.slots.size r s u
/-- new String(chars), not empty, no char above 255: a Latin-1 String of their low bytes -/
theorem law (l : Launch) (a : Addr) (D : Cell) (fV fC : Field) (b : Addr) (A : Cell) (z : Int32) : Law l yN 2 1 3 52 yB 2 none site (P a D fV fC b A z) (E a D fV fC A) [⟨a, fC.slot⟩, ⟨a, fV.slot⟩] 1 A.slots.size := by
  refine Law.of_walk (plainFor_of_name (by decide +kernel)) (by decide +kernel) (by decide +kernel) (by decide) (fun _ _ h => by rw [h.1]; rfl) (fun _ U U' hal hh h => ⟨h.1, h.2.1.mv hal hh, h.2.2.1.al hal, h.2.2.2.1.al hal, h.2.2.2.2.1.mv hal hh, h.2.2.2.2.2.1.there hal hh, h.2.2.2.2.2.2⟩) (fun r U U' V V' h1 hal h2 h => Got.mv r U U' V V' h1 hal h2 h) ?_
  intro p e s m args below meth c s₁ X0 hexec hbytes hml hret hlk hnm hown hh0 W hP
  obtain ⟨rfl, hB, f1, f2, hA, s1, hz, l0, l2, hp⟩ := hP
  have c1 : Steps p.tables e below (s₁.setTop (entryFrame m #[.ref a, .ref b] 2)) (s₁.setTop (mkF m 0 #[.val (.ref a), .val (.ref b)] [])) := entry rfl
  have c2 : Steps p.tables e below (s₁.setTop (entryFrame m #[.ref a, .ref b] 2)) (s₁.setTop (mkF m 6 #[.val (.ref a), .val (.ref b)] [.null, .int (Int32.ofNat A.slots.size), .int 0, .ref b, .ref a])) := c1.trans (by
    refine XS.aloadN X0.here hexec rfl (hb hbytes d0) rfl rfl ?_
    refine XS.aloadN X0.here hexec rfl (hb hbytes d1) rfl rfl ?_
    refine iconstV X0.here hexec rfl 0 (hb hbytes d2) (by decide) ?_
    refine XS.aloadN X0.here hexec rfl (hb hbytes d3) rfl rfl ?_
    refine X0.alen hexec (hA.1.mv X0.warmed.alike hh0) rfl rfl (hb hbytes d4) ?_
    refine XS.aconstNull X0.here hexec rfl (hb hbytes d5) ?_
    exact Steps.refl _)
  obtain ⟨v3, T3, X3, E3, g3⟩ := X0.callN hexec (New4.law l a D fV fC b A z 0 A.slots.size) rfl hown (wks W (initW "java/lang/String" 27 New4.yN)) (W New4.tab (by simp only [site, List.mem_cons, List.mem_append, true_or, or_true])) (W := 0) (Nat.le_of_ble_eq_true rfl) (Nat.le_of_ble_eq_true rfl) (Nat.le_refl _) (by show 0 + A.slots.size ≤ A.slots.size; omega) (g := (mkF m 6 #[.val (.ref a), .val (.ref b)] [.null, .int (Int32.ofNat A.slots.size), .int (Int32.ofNat 0), .ref b, .ref a])) rfl (by rw [hml]; rfl) c2 (argsL := [.ref b, .int (Int32.ofNat 0), .int (Int32.ofNat A.slots.size), .null]) (rest := []) rfl rfl (by show 2 * 0 + 0 ≤ _; decide) (hb hbytes d6) (⟨rfl, hB.mv X0.warmed.alike hh0, f1.al X0.warmed.alike, f2.al X0.warmed.alike, hA.mv X0.warmed.alike hh0, s1.there X0.warmed.alike hh0, hz, l0, by omega, l2, fun i hi => by rw [Nat.zero_add]; exact hp i hi⟩)
  have e0 := Got.mv _ s₁ s _ _ hh0.symm (Vm.Alike.refl _) rfl E3
  obtain rfl := e0.1
  have c4 : Steps p.tables e below (s₁.setTop (entryFrame m #[.ref a, .ref b] 2)) (T3.setTop (mkF m 9 #[.val (.ref a), .val (.ref b)] [])) := g3
  exact ⟨T3, none, _, _, _, X3, by simp, rfl, by omega, (fun _ => rfl), e0, fun fs hl => c4.trans (X3.returnOut hexec hret (hb hbytes d9) hl)⟩
theorem pays {l : Launch} {R : Room} {p : Program} {e : Env} {below : List Frame} {s : State} {sargs : Array Value} {len W : Nat} (a : Addr) (D : Cell) (fV fC : Field) (b : Addr) (A : Cell) (z : Int32) (htab : tab.before sargs s = true) (hfr : 4 ≤ R.frames) (hlo : W + 65 ≤ R.locals) :
    Back l R p e below s sargs yN len W (fun A₁ a₁ => A₁.cells + 1 ≤ R.cells ∧ A₁.slots + A.slots.size ≤ R.slots ∧ P a D fV fC b A z a₁ A₁.U) (fun A₁ _ v₁ B₁ => E a D fV fC A v₁ A₁.U B₁.U ∧ B₁.locs = A₁.locs ++ [⟨a, fC.slot⟩, ⟨a, fV.slot⟩] ∧ B₁.cells = A₁.cells + 1 ∧ B₁.slots = A₁.slots + A.slots.size) :=
  (law l a D fV fC b A z).pays htab hfr (by omega)
end New1
/-- the byte, read back as charAt reads it, is the char -/
theorem lo8_mask {x : Int32} (h0 : ¬ x < 0) (h1 : ¬ 255 < x) : lo8 x &&& 255 = x := by
  have t : ∀ k : Fin 256, lo8 (Int32.ofNat k.val) &&& 255 = Int32.ofNat k.val := by decide +kernel
  rw [Int32.lt_iff_toInt_lt] at h0 h1
  have e0 : (0 : Int32).toInt = 0 := rfl
  have e1 : (255 : Int32).toInt = 255 := rfl
  obtain ⟨k, hk⟩ : ∃ k : Nat, x.toInt = k := ⟨x.toInt.toNat, by omega⟩
  have hx : x = Int32.ofNat k := Int32.toInt_inj.mp (by rw [hk, Int32.toInt_ofNat_small (by omega)])
  rw [hx]
  exact t ⟨k, by omega⟩
end StrChars
namespace StrChars.Road
open Jvm Sem ClassFile Op Lib Jvm.Stand Jvm.Free Jvm.Free.XT
open Jvm.Lib.Cold (StaticIs)
abbrev ST : String := "java/lang/String"
/-- every table word that New1's law asks, flat -/
abbrev words : List Jvm.Cond := [.code New1.yN New1.yB 2 none, .initialized ST, .methodLink ST 27 New4.yN, .instanceMethod New4.yN,
  .code New4.yN New4.yB 6 none, .fieldLink ST 38 ST "COMPACT_STRINGS" "Z", .laysFinal ST ST "value" "[B", .fieldLink ST 9 ST "value" "[B", .laysFinal ST ST "coder" "B", .fieldLink ST 15 ST "coder" "B",
  .methodLink ST 1 Lib.objectInit, .instanceMethod Lib.objectInit, .code Lib.objectInit ⟨#[0xb1]⟩ 1 none, .methodLink ST 177 Cmp3.yN, .static Cmp3.yN, .methodLink ST 47 CodL.yN, .static CodL.yN,
  .code Cmp3.yN Cmp3.yB 6 (some (.array .byte)), .initialized U16, .arrayClass .byte, .methodLink U16 115 Cmp5.yN, .static Cmp5.yN, .code Cmp5.yN Cmp5.yB 7 (some .int), .code CodL.yN CodL.yB 2 (some .byte)]
theorem tab_of {a : Array Value} {s : State} (h : ∀ w ∈ words, w.before a s = true) : New1.tab.before a s = true := by
  have h5 : Cmp5.tab.before a s = true := unparts (wk h (.code Cmp5.yN Cmp5.yB 7 (some .int))) (wks h (.initialized Cmp5.yN.cls :: Cmp5.site))
  have hc : CodL.tab.before a s = true := unparts (wk h (.code CodL.yN CodL.yB 2 (some .byte))) (wks h (.initialized CodL.yN.cls :: CodL.site))
  have q5 : ∀ w ∈ Cmp5.tab :: words, w.before a s = true := fun w hw => (List.mem_cons.mp hw).elim (fun e => e ▸ h5) (h w)
  have h3 : Cmp3.tab.before a s = true := unparts (wk q5 (.code Cmp3.yN Cmp3.yB 6 (some (.array .byte)))) (wks q5 (.initialized Cmp3.yN.cls :: Cmp3.site))
  have q3 : ∀ w ∈ Cmp3.tab :: CodL.tab :: words, w.before a s = true := fun w hw => (List.mem_cons.mp hw).elim (fun e => e ▸ h3) fun hw => (List.mem_cons.mp hw).elim (fun e => e ▸ hc) (h w)
  have h4 : New4.tab.before a s = true := unparts (wk q3 (.code New4.yN New4.yB 6 none)) (wks q3 (.initialized New4.yN.cls :: New4.site))
  have q4 : ∀ w ∈ New4.tab :: words, w.before a s = true := fun w hw => (List.mem_cons.mp hw).elim (fun e => e ▸ h4) (h w)
  exact unparts (wk q4 (.code New1.yN New1.yB 2 none)) (wks q4 (.initialized New1.yN.cls :: New1.site))
/-- the words ride from the start Z to the walk's own state -/
theorem moved {Z s : State} {a0 args : Array Value} (hZ : Z.Warmed39 s.vm) (hw : ∀ d ∈ words, d.before a0 Z = true) : ∀ d ∈ words, d.before args s = true := fun d hd => by
  have q := hw d hd
  have t : ∀ d ∈ words, d = .arrayClass .byte ∨ (d.onTables && d.keepsFace) = true := by decide +kernel
  rcases t d hd with rfl | t
  · exact RoadKit.mvA hZ q
  · exact RoadKit.mv hZ q t
/-- WHAT COMES BACK, over the tables of the start Z: h the heap at the call, h' behind it -/
def Q (Z : State) (x : Addr) (A : Cell) (h : Heap) (v : Option Value) (h' : Heap) (L : List Loc) : Prop := v = none ∧ (∀ y ∈ L, y.base = x) ∧ RoadKit.Keep h h' [x] ∧ h'.size = h.size + 1 ∧ RoadKit.Exa Z h' x ST ∧ RoadKit.Fld Z h' x ST "value" "[B" (.ref h.size) ∧ RoadKit.Fld Z h' x ST "coder" "B" (.int 0) ∧
  (∃ V : Cell, RoadKit.Arr Z h' h.size V .byte ∧ V.vm = .none ∧ Z.vm.findClass "[B" = some V.cls ∧ V.slots.size = A.slots.size ∧ ∀ j, j < A.slots.size → V.slots[j]? = some (.int (lo8 (cv A j)))) ∧
  ∀ (O n d : String) (w : Value), RoadKit.Fld Z h x O n d w → RoadKit.slotOf Z O n d ≠ RoadKit.slotOf Z ST "value" "[B" → RoadKit.slotOf Z O n d ≠ RoadKit.slotOf Z ST "coder" "B" → RoadKit.Fld Z h' x O n d w
/-- **new String(chars) AT A CALL, IN THE ROAD'S FORM**: for specialBack behind newO: x the fresh String, b the char[] with the cell A -/
theorem back {p : Program} {l : Launch} {e : Env} {R : Room} {s : State} {args : Array Value} {below : List Frame} {len W : Nat} {Z : State} {a0 : Array Value} {h : Heap} (hZ : Z.Warmed39 s.vm) (hw : ∀ d ∈ words, d.before a0 Z = true) {kI : Nat} (wi : (Jvm.Cond.instantiable ST kI).before a0 Z = true)
    {x b : Addr} {A : Cell} {z : Int32} {v0 c0 : Value} (E : RoadKit.Exa Z h x ST) (V : RoadKit.Fld Z h x ST "value" "[B" v0) (C : RoadKit.Fld Z h x ST "coder" "B" c0) (K : RoadKit.Arr Z h b A .char) (hty : Typed .char A) (S : RoadKit.Sta Z h ST "COMPACT_STRINGS" "Z" (.int z)) (hz : ¬ z = 0)
    (l0 : 0 < A.slots.size) (l2 : A.slots.size ≤ 536870912) (hp : ∀ i, i < A.slots.size → ¬ 255 < cv A i) (hfr : 4 ≤ R.frames) (hlo : W + 65 ≤ R.locals) :
    Back l R p e below s args New1.yN len W (fun P a => a = #[.ref x, .ref b] ∧ P.U.heap = h ∧ P.cells + 1 ≤ R.cells ∧ P.slots + A.slots.size ≤ R.slots)
      (fun P _ v B => ∃ L, Q Z x A h v B.U.heap L ∧ B.locs = P.locs ++ L ∧ B.cells = P.cells + 1 ∧ B.slots = P.slots + A.slots.size) := by
  intro m meth c P g ig mk a X hg hsize hdg hW hn hp'
  obtain ⟨rfl, rfl, r1, r2⟩ := hp'
  have al : Z.vm.Alike P.U.vm := hZ.alike.trans X.warmed.alike
  obtain ⟨D, cfV, kV, iV, fV, hD, gV, stV, knV, obV, asV, slV⟩ := id V
  obtain ⟨D', cfC, kC, iC, fC, hD', gC, stC, -, -, asC, slC⟩ := id C
  cases hD.symm.trans hD'
  obtain ⟨D2, kD, e1, e2, e3, e4, e5⟩ := id E
  cases hD.symm.trans e1
  obtain ⟨c2, k2, i1, i2, i3, -⟩ := Cond.instantiable_spec wi
  cases e2.symm.trans i1
  cases e3.symm.trans i2
  obtain ⟨kU, u1, u2⟩ := al.2.2 _ _ e3
  have hB : Blank ST x D P.U := ⟨hD, ⟨knV, fun q hq => by rw [hq] at obV; cases obV⟩, by rw [al.findClass]; exact e2, kU, u1, by rw [u2]; exact i3, by rw [u2]; exact e5 i3⟩
  have F1 : Found ST "value" "[B" fV P.U := ⟨SBG.found_only al ⟨cfV, kV, iV, gV⟩, stV⟩
  have F2 : Found ST "coder" "B" fC P.U := ⟨SBG.found_only al ⟨cfC, kC, iC, gC⟩, stC⟩
  have hA : Ch b A P.U := ⟨⟨K.1, State.isArrayOf_alike al K.2.1, K.2.2, by omega⟩, hty⟩
  have hS : StaticIs P.U ST "COMPACT_STRINGS" "Z" (.int z) := by
    obtain ⟨cfS, iS, kS, fS, st, cS, t1, t2, t3, t4, t5, t6, t7⟩ := S
    exact StaticIs.there (s := { Z with heap := P.U.heap }) ⟨cfS, iS, kS, fS, st, cS, t1, t2, t3, t4, t5, (fun q => by rw [q] at t6; cases t6), t7⟩ al rfl
  obtain ⟨v, B, X', ⟨⟨hv, E', V', q1, q2, q3, q4, q5, q6, q7, q8, q9, q10, q11⟩, hl, hc, hs⟩, st⟩ := New1.pays x D fV fC b A z (tab_of (moved hZ hw)) hfr hlo m meth c P g ig mk _ X hg hsize hdg hW hn ⟨r1, r2, rfl, hB, F1, F2, hA, hS, hz, l0, l2, hp⟩
  have al' : Z.vm.Alike B.U.vm := hZ.alike.trans X'.warmed.alike
  have hsz : E'.slots.size = D.slots.size := by
    obtain ⟨-, -, -, kB, w1, w2, w3⟩ := q1
    obtain ⟨kB', y1, y2⟩ := al'.2.2 _ _ e3
    rw [q2.2.1] at w1
    cases w1.symm.trans y1
    rw [w3, e5 i3, y2]
  refine ⟨v, B, X', ⟨_, ⟨hv, ?_, ⟨by omega, fun y cy hy hn' => q10 y cy (by simpa using hn') hy, fun y cy hy => ?_⟩, q11, ⟨E', _, q1.1, by rw [q2.2.1]; exact e2, by rw [q2.2.1]; exact e3, by rw [q2.1]; exact obV, fun _ => by rw [hsz]; exact e5 i3⟩,
    ⟨E', cfV, kV, iV, fV, q1.1, gV, stV, by rw [q2.1]; exact knV, by rw [q2.1]; exact obV, by rw [q2.2.1]; exact asV, q3⟩, ⟨E', cfC, kC, iC, fC, q1.1, gC, stC, by rw [q2.1]; exact knV, by rw [q2.1]; exact obV, by rw [q2.2.1]; exact asC, q4⟩,
    ⟨V', ⟨q5.1, State.isArrayOf_alike al'.symm q5.2.1, q5.2.2.1⟩, q6, by rw [← al'.findClass]; exact q7, q8, fun j hj => by have := q9 j hj; rwa [Nat.zero_add] at this⟩, fun O n d w F n1 n2 => ?_⟩, hl, hc, hs⟩, st⟩
  · intro y hy
    simp only [List.mem_cons, List.not_mem_nil, or_false] at hy
    rcases hy with rfl | rfl <;> rfl
  · by_cases q : y = x
    · subst q
      cases hD.symm.trans hy
      exact ⟨E', q1.1, q2.2.1, q2.1, hsz⟩
    · exact ⟨cy, q10 y cy q hy, rfl, rfl, rfl⟩
  · obtain ⟨D3, cf, k, i, f, g1, g2, g3, g4, g5, g6, g7⟩ := F
    cases hD.symm.trans g1
    simp only [RoadKit.slotOf, g2, gV, gC, Option.map_some, Option.getD_some] at n1 n2
    exact ⟨E', cf, k, i, f, q1.1, g2, g3, by rw [q2.1]; exact g4, by rw [q2.1]; exact g5, by rw [q2.2.1]; exact g6, by rw [q2.2.2 f.slot (by simp [n1, n2])]; exact g7⟩
end StrChars.Road
namespace StrChars.Road
open Jvm Sem ClassFile Op Lib Jvm.Stand Jvm.Free Jvm.Free.XT
/-- WHAT COMES BACK, the byte[] as a list of values -/
def QA (Z : State) (x : Addr) (zn : Int32) (cs : List Int32) (h : Heap) (v : Option Value) (h' : Heap) (L : List Loc) : Prop := v = none ∧ (∀ y ∈ L, y.base = x) ∧ RoadKit.Keep h h' [x] ∧ h'.size = h.size + 1 ∧ RoadKit.Exa Z h' x ST ∧ RoadKit.Fld Z h' x ST "value" "[B" (.ref h.size) ∧ RoadKit.Fld Z h' x ST "coder" "B" (.int 0) ∧
  (∃ kb, Z.vm.findClass "[B" = some kb ∧ RoadKit.Arv Z h' h.size kb .byte zn (cs.map fun c => .int (lo8 c)) (.int 0)) ∧
  ∀ (O n d : String) (w : Value), RoadKit.Fld Z h x O n d w → RoadKit.slotOf Z O n d ≠ RoadKit.slotOf Z ST "value" "[B" → RoadKit.slotOf Z O n d ≠ RoadKit.slotOf Z ST "coder" "B" → RoadKit.Fld Z h' x O n d w
/-- **new String(chars) AT A CALL, THE ARRAYS AS LISTS**: the char[] at b holds cs, not empty, no char above 255 -/
theorem backArv {p : Program} {l : Launch} {e : Env} {R : Room} {s : State} {args : Array Value} {below : List Frame} {len W : Nat} {Z : State} {a0 : Array Value} {h : Heap} (hZ : Z.Warmed39 s.vm) (hw : ∀ d ∈ words, d.before a0 Z = true) {kI : Nat} (wi : (Jvm.Cond.instantiable ST kI).before a0 Z = true)
    {x b : Addr} {k : ClassId} {zn z : Int32} {cs : List Int32} {dv v0 c0 : Value} (E : RoadKit.Exa Z h x ST) (V : RoadKit.Fld Z h x ST "value" "[B" v0) (C : RoadKit.Fld Z h x ST "coder" "B" c0) (K : RoadKit.Arv Z h b k .char zn (cs.map Value.int) dv) (S : RoadKit.Sta Z h ST "COMPACT_STRINGS" "Z" (.int z)) (hz : ¬ z = 0)
    (hlen : zn.toNatClampNeg = cs.length) (h0 : 0 < cs.length) (hbig : cs.length ≤ 536870912) (hall : ∀ c ∈ cs, ¬ 255 < c) (hfr : 4 ≤ R.frames) (hlo : W + 65 ≤ R.locals) :
    Back l R p e below s args New1.yN len W (fun P a => a = #[.ref x, .ref b] ∧ P.U.heap = h ∧ P.cells + 1 ≤ R.cells ∧ P.slots + cs.length ≤ R.slots)
      (fun P _ v B => ∃ L, QA Z x zn cs h v B.U.heap L ∧ B.locs = P.locs ++ L ∧ B.cells = P.cells + 1 ∧ B.slots = P.slots + cs.length) := by
  obtain ⟨A, K1, K2, K3, K4, K5, K6⟩ := K
  have e : A.slots.size = cs.length := K3.trans hlen
  have hat : ∀ (i : Nat) (hi : i < cs.length), A.slots[i]? = some (.int cs[i]) := fun i hi => by rw [K5 i (by omega)]; simp [List.getD_eq_getElem?_getD, hi]
  have hcv : ∀ (i : Nat) (hi : i < cs.length), cv A i = cs[i] := fun i hi => by unfold cv; rw [hat i hi]
  have hty : Typed .char A := fun i v hv => by
    have hi : i < A.slots.size := (Array.getElem?_eq_some_iff.mp hv).1
    have q := K5 i hi
    rw [hv] at q
    rw [Option.some.inj q]
    exact K6 i hi
  refine Back.mono (back hZ hw wi E V C K1 hty S hz (by omega) (by omega) (fun i hi => by rw [hcv i (by omega)]; exact hall _ (List.getElem_mem _)) hfr hlo) (fun P a hp => ⟨hp.1, hp.2.1, hp.2.2.1, by rw [e]; exact hp.2.2.2⟩) (fun P a v B hp hq => ?_)
  obtain ⟨L, ⟨q1, q2, q3, q4, q5, q6, q7, ⟨V', v1, v2, v3, v4, v5⟩, q9⟩, hl, hc, hs⟩ := hq
  refine ⟨L, ⟨q1, q2, q3, q4, q5, q6, q7, ⟨V'.cls, v3, V', v1, rfl, by rw [v4, e, hlen], K4, fun i hi => ?_, fun i hi => ?_⟩, q9⟩, hl, hc, by rw [hs, e]⟩
  · have hi' : i < cs.length := by omega
    rw [v5 i (by omega), hcv i hi']; simp [List.getD_eq_getElem?_getD, hi']
  · have hi' : i < cs.length := by omega
    simp only [List.getD_eq_getElem?_getD, List.getElem?_map, List.getElem?_eq_getElem hi', Option.map_some, Option.getD_some]
    exact fits_lo8 _
end StrChars.Road
namespace StrChars.Road
open Jvm Sem ClassFile Op Lib Jvm.Stand Jvm.Free Jvm.Free.XT
/-- WHAT COMES BACK, in the writer's own shape -/
def QV (Z : State) (x : Addr) (N : Int32) (bs : List Int32) (h : Heap) (n0 : Nat) (v : Option Value) (h' : Heap) (L : List Loc) : Prop := v = none ∧ RoadKit.Fr n0 L ∧ RoadKit.Keep h h' [x] ∧ RoadKit.Exa Z h' x ST ∧ RoadKit.Fld Z h' x ST "coder" "B" (.int 0) ∧
  ∃ (t : Addr) (kb : ClassId), n0 ≤ t ∧ h.size ≤ t ∧ ¬ t = x ∧ RoadKit.Fld Z h' x ST "value" "[B" (.ref t) ∧ RoadKit.Arv Z h' t kb .byte N (bs.map Value.int) (.int 0)
/-- **new String(chars) AT A CALL, FOR THE WRITER**: a char[] of n known ints, each 0 to 255 -/
theorem backV {p : Program} {l : Launch} {e : Env} {R : Room} {s : State} {args : Array Value} {below : List Frame} {len W : Nat} {Z : State} {a0 : Array Value} {h : Heap} (hZ : Z.Warmed39 s.vm) (hw : ∀ d ∈ words, d.before a0 Z = true) {kI : Nat} (wi : (Jvm.Cond.instantiable ST kI).before a0 Z = true)
    {x b : Addr} {kC : ClassId} {cs bs : List Int32} {d v0 c0 : Value} {z N : Int32} {n n0 : Nat} (hx0 : n0 ≤ x) (hh0 : n0 ≤ h.size) (E : RoadKit.Exa Z h x ST) (V : RoadKit.Fld Z h x ST "value" "[B" v0) (C : RoadKit.Fld Z h x ST "coder" "B" c0) (K : RoadKit.Arv Z h b kC .char N (cs.map Value.int) d) (S : RoadKit.Sta Z h ST "COMPACT_STRINGS" "Z" (.int z)) (hz : ¬ z = 0)
    (hn : cs.length = n) (hN : N = Int32.ofNat n) (l0 : 0 < n) (l2 : n ≤ 4000) (hp : ∀ c ∈ cs, ¬ c < 0 ∧ ¬ (255 : Int32) < c) (hb : bs = cs.map (fun c => c.toInt8.toInt32)) (hfr : 4 ≤ R.frames) (hlo : W + 65 ≤ R.locals) :
    Back l R p e below s args (⟨"java/lang/String", "<init>", "([C)V"⟩ : MethodName) len W (fun P a => a = #[.ref x, .ref b] ∧ P.U.heap = h ∧ P.cells + 1 ≤ R.cells ∧ P.slots + n ≤ R.slots)
      (fun P _ v B => ∃ L, QV Z x N bs h n0 v B.U.heap L ∧ B.locs = P.locs ++ L ∧ B.cells = P.cells + 1 ∧ B.slots = P.slots + n) := by
  subst hn hN hb
  refine Back.mono (backArv hZ hw wi E V C K S hz (n32 (by omega)) l0 (by omega) (fun c hc => (hp c hc).2) hfr hlo) (fun P a hp => hp) (fun P a v B hp hq => ?_)
  obtain ⟨L, ⟨q1, q2, q3, q4, q5, q6, q7, ⟨kb, v1, v2⟩, q9⟩, hl, hc, hs⟩ := hq
  exact ⟨L, ⟨q1, fun y hy => by rw [q2 y hy]; exact hx0, q3, q5, q7, h.size, kb, hh0, Nat.le_refl _, Nat.ne_of_gt E.lt, q6, by rw [List.map_map]; exact v2⟩, hl, hc, hs⟩
end StrChars.Road
namespace StrChars
open Jvm Sem ClassFile Op Lib Jvm.Stand Jvm.Free.XT Jvm.Free.ALB Jvm.Free.JM Jvm.Free
open Jvm.Lib.Cold (StaticIs)
def hi8 (x : Int32) : Int32 := lo8 (x >>> ((8 : Int32) &&& 31))
/-- what StringUTF16.getChar makes of two bytes -/
def pairCh (u v : Int32) : Int32 := (((u &&& 255) <<< ((0 : Int32) &&& 31)) ||| ((v &&& 255) <<< ((8 : Int32) &&& 31))).toUInt32.toUInt16.toUInt32.toInt32
theorem shr0 (c : Int32) : c >>> ((0 : Int32) &&& 31) = c := by
  have e : ((0 : Int32) &&& 31) = 0 := by decide
  rw [e]
  apply Int32.toBitVec_inj.mp
  rw [Int32.toBitVec_shiftRight]
  have e1 : ((0 : Int32).toBitVec.smod 32) = 0#32 := by decide
  rw [e1, BitVec.sshiftRight_eq']
  exact BitVec.sshiftRight_zero
theorem lo8_and (x : Int32) : (lo8 x &&& 255).toBitVec.toNat = x.toBitVec.toNat % 256 := by
  have h : (lo8 x).toBitVec = (x.toBitVec.signExtend 8).signExtend 32 := by rw [lo8, Int8.toBitVec_toInt32, Int32.toBitVec_toInt8]
  rw [Int32.toBitVec_and, BitVec.toNat_and, h]
  have e : ((x.toBitVec.signExtend 8).signExtend 32).toNat % 256 = x.toBitVec.toNat % 256 := by
    rw [BitVec.toNat_signExtend]
    have hlt := x.toBitVec.isLt
    simp only [BitVec.toNat_setWidth, BitVec.toNat_signExtend]
    split <;> split <;> omega
  rw [← e]
  exact Nat.and_two_pow_sub_one_eq_mod _ 8
theorem pair_says {c : Int32} (h0 : ¬ c < 0) (h1 : ¬ 65535 < c) : pairCh (lo8 c) (hi8 c) = c := by
  rw [Int32.lt_iff_toInt_lt] at h0 h1
  have e0 : (0 : Int32).toInt = 0 := rfl
  have e1 : (65535 : Int32).toInt = 65535 := rfl
  have hc : c.toInt = c.toBitVec.toNat := by
    have := c.toBitVec.isLt
    have e : c.toInt = c.toBitVec.toInt := rfl
    rw [e] at h0 h1
    rw [e]
    rw [BitVec.toInt_eq_toNat_cond] at h0 h1 ⊢
    split at h0 <;> split <;> omega
  have hn : c.toBitVec.toNat < 65536 := by omega
  have a1 := lo8_and c
  have a2 : (hi8 c &&& 255).toBitVec.toNat = c.toBitVec.toNat / 256 := by
    rw [hi8, lo8_and]
    have e : ((8 : Int32) &&& 31) = 8 := by decide
    rw [e, Int32.toBitVec_shiftRight]
    have e2 : ((8 : Int32).toBitVec.smod 32) = 8#32 := by decide
    rw [e2, BitVec.sshiftRight_eq', BitVec.toNat_sshiftRight_of_msb_false (by rw [BitVec.msb_eq_false_iff_two_mul_lt]; omega)]
    show c.toBitVec.toNat >>> 8 % 256 = _
    rw [Nat.shiftRight_eq_div_pow]
    omega
  unfold pairCh
  apply Int32.toBitVec_inj.mp
  apply BitVec.eq_of_toNat_eq
  have f0 : ((0 : Int32) &&& 31) = 0 := by decide
  have f8 : ((8 : Int32) &&& 31) = 8 := by decide
  rw [f0, f8]
  have g : (((lo8 c &&& 255) <<< (0 : Int32)) ||| ((hi8 c &&& 255) <<< (8 : Int32))).toBitVec.toNat = c.toBitVec.toNat := by
    rw [Int32.toBitVec_or, Int32.toBitVec_shiftLeft, Int32.toBitVec_shiftLeft]
    have s0 : ((0 : Int32).toBitVec.smod 32) = 0#32 := by decide
    have s8 : ((8 : Int32).toBitVec.smod 32) = 8#32 := by decide
    rw [s0, s8, BitVec.toNat_or]
    simp only [BitVec.shiftLeft_eq', BitVec.toNat_shiftLeft, a1, a2]
    show (c.toBitVec.toNat % 256) <<< 0 % 2 ^ 32 ||| (c.toBitVec.toNat / 256) <<< 8 % 2 ^ 32 = _
    rw [Nat.shiftLeft_zero, Nat.mod_eq_of_lt (show c.toBitVec.toNat % 256 < 2 ^ 32 by omega), Nat.mod_eq_of_lt (show (c.toBitVec.toNat / 256) <<< 8 < 2 ^ 32 by rw [Nat.shiftLeft_eq]; omega), Nat.or_comm, ← Nat.shiftLeft_add_eq_or_of_lt (by omega), Nat.shiftLeft_eq]
    omega
  show BitVec.toNat (((((lo8 c &&& 255) <<< (0 : Int32)) ||| ((hi8 c &&& 255) <<< (8 : Int32))).toBitVec.setWidth 16).setWidth 32) = _
  rw [BitVec.toNat_setWidth, BitVec.toNat_setWidth, g]
  omega
end StrChars
namespace StrChars
open Jvm Sem ClassFile Op Lib Jvm.Stand Jvm.Free.XT Jvm.Free.ALB Jvm.Free.JM Jvm.Free
open Jvm.Lib.Cold (StaticIs)
theorem shr1 {n : Nat} (h : 2 * n < 2 ^ 31) : Int32.ofNat (2 * n) >>> ((1 : Int32) &&& 31) = Int32.ofNat n := by
  have e : ((1 : Int32) &&& 31) = 1 := by decide
  rw [e]
  apply Int32.toBitVec_inj.mp
  rw [Int32.toBitVec_shiftRight]
  have e1 : ((1 : Int32).toBitVec.smod 32) = 1#32 := by decide
  have hm : (BitVec.ofNat 32 (2 * n)).toNat = 2 * n := by rw [BitVec.toNat_ofNat, Nat.mod_eq_of_lt (by omega)]
  rw [e1, BitVec.sshiftRight_eq']
  apply BitVec.eq_of_toNat_eq
  show ((BitVec.ofNat 32 (2 * n)).sshiftRight 1).toNat = (BitVec.ofNat 32 n).toNat
  rw [BitVec.toNat_sshiftRight_of_msb_false (by rw [BitVec.msb_eq_false_iff_two_mul_lt, hm]; omega), hm, BitVec.toNat_ofNat, Nat.shiftRight_eq_div_pow]
  omega
/-- the array's cell V codes the n chars f 0 .. f (n - 1) by the coder cd, as the JDK does: coder 1 just where some char is above 255 -/
def Cod (cd : Int32) (n : Nat) (f : Nat → Int32) (V : Cell) : Prop := (cd = 0 ∧ V.slots.size = n ∧ ∀ j, j < n → V.slots[j]? = some (.int (lo8 (f j))) ∧ ¬ 255 < f j) ∨ (cd = 1 ∧ V.slots.size = 2 * n ∧ (∀ j, j < n → V.slots[2 * j]? = some (.int (lo8 (f j))) ∧ V.slots[2 * j + 1]? = some (.int (hi8 (f j)))) ∧ ∃ j, j < n ∧ 255 < f j)
theorem Cod.cd {cd : Int32} {n : Nat} {f : Nat → Int32} {V : Cell} (h : Cod cd n f V) : cd = 0 ∨ cd = 1 := h.imp (fun q => q.1) fun q => q.1
theorem Cod.len {cd : Int32} {n : Nat} {f : Nat → Int32} {V : Cell} (h : Cod cd n f V) (hs : V.slots.size < 2 ^ 31) : Int32.ofNat V.slots.size >>> (cd &&& 31) = Int32.ofNat n := by
  rcases h with ⟨rfl, h, -⟩ | ⟨rfl, h, -⟩
  · rw [shr0, h]
  · rw [h, shr1 (by omega)]
/-- **x is a String of the n chars f 0 .. f (n - 1)**, Latin-1 or UTF-16; its array at t has the cell V -/
def Txt (x t : Addr) (V : Cell) (cd : Int32) (n : Nat) (f : Nat → Int32) (U : State) : Prop := Exact "java/lang/String" x U ∧ Has x "java/lang/String" "value" "[B" (.ref t) U ∧ Has x "java/lang/String" "coder" "B" (.int cd) U ∧ XT.Arr .byte t V U ∧ Cod cd n f V ∧ ∀ j, j < n → ¬ f j < 0 ∧ ¬ 65535 < f j
theorem Txt.mv {x t : Addr} {V : Cell} {cd : Int32} {n : Nat} {f : Nat → Int32} {U U' : State} (h : Txt x t V cd n f U) (hal : U.vm.Alike U'.vm) (hh : U'.heap = U.heap) : Txt x t V cd n f U' := ⟨h.1.mv hal hh, h.2.1.mv hal hh, h.2.2.1.mv hal hh, h.2.2.2.1.mv hal hh, h.2.2.2.2⟩
namespace Cdr
def yN : MethodName := ⟨"java/lang/String", "coder", "()B"⟩
abbrev yB : ByteArray := jdk_42_method_152_code
theorem d0 : decode yB 0 = .ok (.getstatic 38, 3) := by decide +kernel
theorem d3 : decode yB 3 = .ok (.ifCond (.eq) 10, 3) := by decide +kernel
theorem d6 : decode yB 6 = .ok (.aload_n 0, 1) := by decide +kernel
theorem d7 : decode yB 7 = .ok (.getfield 15, 3) := by decide +kernel
theorem d10 : decode yB 10 = .ok (.goto 4, 3) := by decide +kernel
theorem d14 : decode yB 14 = .ok (.ireturn, 1) := by decide +kernel
def site : List Cond := [.fieldLink "java/lang/String" 38 "java/lang/String" "COMPACT_STRINGS" "Z", .fieldLink "java/lang/String" 15 "java/lang/String" "coder" "B"]
def tab : Cond := tabOf yN yB 1 (some .byte) site
def P (x : Addr) (cd z : Int32) (args : Array Value) (s : State) : Prop := args = #[.ref x] ∧ Has x "java/lang/String" "coder" "B" (.int cd) s ∧ (cd = 0 ∨ cd = 1) ∧ StaticIs s "java/lang/String" "COMPACT_STRINGS" "Z" (.int z) ∧ ¬ z = 0
def E (cd : Int32) (r : Option Value) (s u : State) : Prop := XT.PureE (some (.int cd)) r s u
theorem law (l : Launch) (x : Addr) (cd z : Int32) : Law l yN 1 0 0 0 yB 1 (some .byte) site (P x cd z) (E cd) [] 0 0 := by
  refine Law.of_walk (plainFor_of_name (by decide +kernel)) (by decide +kernel) (by decide +kernel) (by decide) (fun _ _ h => by rw [h.1]; rfl) (fun _ U U' hal hh h => ⟨h.1, h.2.1.mv hal hh, h.2.2.1, h.2.2.2.1.there hal hh, h.2.2.2.2⟩) (fun r U U' V V' h1 hal h2 h => XT.PureE.mv r U U' V V' h1 hal h2 h) ?_
  intro p e s m args below meth c s₁ X0 hexec hbytes hml hret hlk hnm hown hh0 W hP
  obtain ⟨rfl, hx, hc, s1, hz⟩ := hP
  have c1 : Steps p.tables e below (s₁.setTop (entryFrame m #[.ref x] 1)) (s₁.setTop (mkF m 0 #[.val (.ref x)] [])) := entry rfl
  obtain ⟨T2, X2, q2, st2⟩ := X0.sget hexec hown (wk W (.fieldLink "java/lang/String" 38 "java/lang/String" "COMPACT_STRINGS" "Z")) s1 (fun _ _ h => by rw [hh0]; exact h) (g := (mkF m 0 #[.val (.ref x)] [])) rfl (hb hbytes d0)
  have hh2 := q2.trans hh0
  have c3 : Steps p.tables e below (s₁.setTop (entryFrame m #[.ref x] 1)) (T2.setTop (mkF m 7 #[.val (.ref x)] [.ref x])) := (c1.trans (st2 _ (Steps.refl _))).trans (by
    refine XS.ifNo X2.here hexec rfl (hb hbytes d3) rfl (i0_eq_f hz) ?_
    refine XS.aloadN X2.here hexec rfl (hb hbytes d6) rfl rfl ?_
    exact Steps.refl _)
  obtain ⟨T4, X4, q4, st4⟩ := X2.hget hexec hown (wk W (.fieldLink "java/lang/String" 15 "java/lang/String" "coder" "B")) (hx.mv X2.warmed.alike hh2) (g := (mkF m 7 #[.val (.ref x)] [.ref x])) rfl (rest := []) rfl (hb hbytes d7)
  have c5 : Steps p.tables e below (s₁.setTop (entryFrame m #[.ref x] 1)) (T4.setTop (mkF m 14 #[.val (.ref x)] [.int cd])) := (c3.trans (st4 _ (Steps.refl _))).trans (by
    refine XS.goto X4.here hexec rfl (pc0 := 10) rfl (hb hbytes d10) (by decide) rfl ?_
    exact Steps.refl _)
  exact ⟨T4, some (.int cd), _, _, _, X4, rfl, rfl, rfl, (fun h => by cases h), ⟨rfl, q4.trans hh2⟩, fun fs hl => c5.trans (X4.ireturnOut hexec hret (by rcases hc with rfl | rfl <;> rfl) (Or.inr (Or.inr (Or.inl rfl))) (hb hbytes d14) hl)⟩
end Cdr
namespace Len
def yN : MethodName := ⟨"java/lang/String", "length", "()I"⟩
abbrev yB : ByteArray := jdk_42_method_54_code
theorem d0 : decode yB 0 = .ok (.aload_n 0, 1) := by decide +kernel
theorem d1 : decode yB 1 = .ok (.getfield 9, 3) := by decide +kernel
theorem d4 : decode yB 4 = .ok (.arraylength, 1) := by decide +kernel
theorem d5 : decode yB 5 = .ok (.aload_n 0, 1) := by decide +kernel
theorem d6 : decode yB 6 = .ok (.invokevirtual 335, 3) := by decide +kernel
theorem d9 : decode yB 9 = .ok (.ishr, 1) := by decide +kernel
theorem d10 : decode yB 10 = .ok (.ireturn, 1) := by decide +kernel
def site : List Cond := [.fieldLink "java/lang/String" 9 "java/lang/String" "value" "[B", Cdr.tab] ++ virtW "java/lang/String" 335 "java/lang/String" Cdr.yN Cdr.yN
def tab : Cond := tabOf yN yB 1 (some .int) site
def P (x t : Addr) (V : Cell) (cd : Int32) (n : Nat) (f : Nat → Int32) (z : Int32) (args : Array Value) (s : State) : Prop := args = #[.ref x] ∧ Txt x t V cd n f s ∧ StaticIs s "java/lang/String" "COMPACT_STRINGS" "Z" (.int z) ∧ ¬ z = 0
def E (n : Nat) (r : Option Value) (s u : State) : Prop := XT.PureE (some (.int (Int32.ofNat n))) r s u
/-- length() of a String of n chars, in either coding -/
theorem law (l : Launch) (x t : Addr) (V : Cell) (cd : Int32) (n : Nat) (f : Nat → Int32) (z : Int32) : Law l yN 1 0 1 13 yB 1 (some .int) site (P x t V cd n f z) (E n) [] 0 0 := by
  refine Law.of_walk (plainFor_of_name (by decide +kernel)) (by decide +kernel) (by decide +kernel) (by decide) (fun _ _ h => by rw [h.1]; rfl) (fun _ U U' hal hh h => ⟨h.1, h.2.1.mv hal hh, h.2.2.1.there hal hh, h.2.2.2⟩) (fun r U U' V V' h1 hal h2 h => XT.PureE.mv r U U' V V' h1 hal h2 h) ?_
  intro p e s m args below meth c s₁ X0 hexec hbytes hml hret hlk hnm hown hh0 W hP
  obtain ⟨rfl, hx, s1, hz⟩ := hP
  have v31 := hx.2.2.2.1.2.2.2
  have c1 : Steps p.tables e below (s₁.setTop (entryFrame m #[.ref x] 1)) (s₁.setTop (mkF m 1 #[.val (.ref x)] [.ref x])) := Steps.trans (entry rfl) (by
    show Steps p.tables e below (s₁.setTop (mkF m 0 #[.val (.ref x)] [])) _
    refine XS.aloadN X0.here hexec rfl (hb hbytes d0) rfl rfl ?_
    exact Steps.refl _)
  obtain ⟨T2, X2, q2, st2⟩ := X0.hget hexec hown (wk W (.fieldLink "java/lang/String" 9 "java/lang/String" "value" "[B")) (hx.mv X0.warmed.alike hh0).2.1 (g := (mkF m 1 #[.val (.ref x)] [.ref x])) rfl (rest := []) rfl (hb hbytes d1)
  have hh2 := q2.trans hh0
  have hx2 := hx.mv X2.warmed.alike hh2
  have c3 : Steps p.tables e below (s₁.setTop (entryFrame m #[.ref x] 1)) (T2.setTop (mkF m 6 #[.val (.ref x)] [.ref x, .int (Int32.ofNat V.slots.size)])) := (c1.trans (st2 _ (Steps.refl _))).trans (by
    refine X2.alen hexec hx2.2.2.2.1 rfl rfl (hb hbytes d4) ?_
    refine XS.aloadN X2.here hexec rfl (hb hbytes d5) rfl rfl ?_
    exact Steps.refl _)
  obtain ⟨v4, T4, X4, E4, g4⟩ := X2.callV hexec (Cdr.law l x cd z) hown (wks W (virtW "java/lang/String" 335 "java/lang/String" Cdr.yN Cdr.yN)) rfl (by decide) (wk W Cdr.tab) (W := 1) (Nat.le_of_ble_eq_true rfl) (Nat.le_of_ble_eq_true rfl) (Nat.le_refl _) (Nat.le_refl _) (hx2.1.fc X2.warmed.alike) hx2.1.is (g := (mkF m 6 #[.val (.ref x)] [.ref x, .int (Int32.ofNat V.slots.size)])) rfl (by rw [hml]; rfl) c3 (argsL := []) (rest := [.int (Int32.ofNat V.slots.size)]) rfl rfl (by show 2 * 0 + (1 + 0) ≤ _; decide) (hb hbytes d6) (⟨rfl, hx2.2.2.1, hx.2.2.2.2.1.cd, s1.there X2.warmed.alike hh2, hz⟩)
  obtain ⟨rfl, q4⟩ := E4
  have c5 : Steps p.tables e below (s₁.setTop (entryFrame m #[.ref x] 1)) (T4.setTop (mkF m 10 #[.val (.ref x)] [.int (Int32.ofNat V.slots.size >>> (cd &&& 31))])) := Steps.trans g4 (by
    refine ishr X4.here hexec rfl (hb hbytes d9) rfl ?_
    exact Steps.refl _)
  rw [hx.2.2.2.2.1.len v31] at c5
  exact ⟨T4, some (.int (Int32.ofNat n)), _, _, _, X4, rfl, rfl, rfl, (fun h => by cases h), ⟨rfl, q4.trans hh2⟩, fun fs hl => c5.trans (X4.ireturnOut hexec hret rfl (Or.inl rfl) (hb hbytes d10) hl)⟩
theorem pays {l : Launch} {R : Room} {p : Program} {e : Env} {below : List Frame} {s : State} {sargs : Array Value} {len W : Nat} (x t : Addr) (V : Cell) (cd : Int32) (n : Nat) (f : Nat → Int32) (z : Int32) (htab : tab.before sargs s = true) (hfr : 2 ≤ R.frames) (hlo : W + 25 ≤ R.locals) :
    Back l R p e below s sargs yN len W (fun A₁ a₁ => A₁.cells + 0 ≤ R.cells ∧ A₁.slots + 0 ≤ R.slots ∧ P x t V cd n f z a₁ A₁.U) (fun A₁ _ v₁ B₁ => E n v₁ A₁.U B₁.U ∧ B₁.locs = A₁.locs ++ [] ∧ B₁.cells = A₁.cells + 0 ∧ B₁.slots = A₁.slots + 0) :=
  (law l x t V cd n f z).pays htab hfr (by omega)
end Len
end StrChars
namespace StrChars.Road
open Jvm Sem ClassFile Op Lib Jvm.Stand Jvm.Free Jvm.Free.XT
open Jvm.Lib.Cold (StaticIs)
theorem consq {a : Array Value} {s : State} {c : Jvm.Cond} {L : List Jvm.Cond} (h0 : c.before a s = true) (h : ∀ w ∈ L, w.before a s = true) : ∀ w ∈ c :: L, w.before a s = true := fun w hw => (List.mem_cons.mp hw).elim (fun e => e ▸ h0) (h w)
/-- the words of String.length(), either coding -/
abbrev wordsLen : List Jvm.Cond := [.code Len.yN Len.yB 1 (some .int), .initialized ST, .fieldLink ST 9 ST "value" "[B", .fieldLink ST 38 ST "COMPACT_STRINGS" "Z", .fieldLink ST 15 ST "coder" "B", .code Cdr.yN Cdr.yB 1 (some .byte), .methodLink ST 335 Cdr.yN, .declares Cdr.yN, .selects ST Cdr.yN Cdr.yN, .instanceMethod Cdr.yN]
theorem tabLen_of {a : Array Value} {s : State} (h : ∀ w ∈ wordsLen, w.before a s = true) : Len.tab.before a s = true := by
  have hc : Cdr.tab.before a s = true := unparts (wk h (.code Cdr.yN Cdr.yB 1 (some .byte))) (wks h (.initialized Cdr.yN.cls :: Cdr.site))
  have q := consq hc h
  exact unparts (wk q (.code Len.yN Len.yB 1 (some .int))) (wks q (.initialized Len.yN.cls :: Len.site))
theorem movedLen {Z s : State} {a0 args : Array Value} (hZ : Z.Warmed39 s.vm) (hw : ∀ d ∈ wordsLen, d.before a0 Z = true) : ∀ d ∈ wordsLen, d.before args s = true := fun d hd => by
  have q := hw d hd
  have t : ∀ d ∈ wordsLen, d = .arrayClass .byte ∨ (d.onTables && d.keepsFace) = true := by decide +kernel
  rcases t d hd with rfl | t
  · exact RoadKit.mvA hZ q
  · exact RoadKit.mv hZ q t
/-- the bytes of the chars cs, low before high -/
def wideBytes : List Int32 → List Value
  | [] => []
  | c :: cs => .int (lo8 c) :: .int (hi8 c) :: wideBytes cs
theorem wide_lo (d : Value) : ∀ (cs : List Int32) (j : Nat), j < cs.length → (wideBytes cs).getD (2 * j) d = .int (lo8 (cs.getD j 0))
  | [], j, h => absurd h (Nat.not_lt_zero j)
  | c :: cs, 0, _ => rfl
  | c :: cs, j + 1, h => by
    have q := wide_lo d cs j (by simpa using h)
    rw [show 2 * (j + 1) = 2 * j + 1 + 1 from by omega]
    simpa [wideBytes] using q
theorem wide_hi (d : Value) : ∀ (cs : List Int32) (j : Nat), j < cs.length → (wideBytes cs).getD (2 * j + 1) d = .int (hi8 (cs.getD j 0))
  | [], j, h => absurd h (Nat.not_lt_zero j)
  | c :: cs, 0, _ => rfl
  | c :: cs, j + 1, h => by
    have q := wide_hi d cs j (by simpa using h)
    rw [show 2 * (j + 1) + 1 = 2 * j + 1 + 1 + 1 from by omega]
    simpa [wideBytes] using q
theorem low_at (d : Value) (cs : List Int32) (j : Nat) (h : j < cs.length) : (cs.map fun c => Value.int (lo8 c)).getD j d = .int (lo8 (cs.getD j 0)) := by
  simp [List.getD_eq_getElem?_getD, h]
/-- an array of N2 bytes vs codes the chars cs by the coder cd -/
def CodA (cs : List Int32) (cd N2 : Int32) (vs : List Value) : Prop := (cd = 0 ∧ N2 = Int32.ofNat cs.length ∧ vs = (cs.map fun c => Value.int (lo8 c)) ∧ ∀ c ∈ cs, ¬ 255 < c) ∨ (cd = 1 ∧ N2 = Int32.ofNat (2 * cs.length) ∧ vs = wideBytes cs ∧ ∃ c ∈ cs, 255 < c)
theorem CodA.cod {cs : List Int32} {cd N2 : Int32} {vs : List Value} {V : Cell} (h : CodA cs cd N2 vs) (hn : 2 * cs.length < 2 ^ 31) (hs : V.slots.size = N2.toNatClampNeg) (hv : RoadKit.Has V vs (.int 0)) : Cod cd cs.length (fun j => cs.getD j 0) V := by
  rcases h with ⟨rfl, rfl, rfl, h⟩ | ⟨rfl, rfl, rfl, c, hc, hw⟩
  · rw [n32 (by omega)] at hs
    exact Or.inl ⟨rfl, hs, fun j hj => ⟨by rw [hv j (by omega), low_at _ _ _ hj], by
      have e : cs.getD j 0 = cs[j] := by simp [List.getD_eq_getElem?_getD, hj]
      show ¬ 255 < cs.getD j 0
      rw [e]; exact h _ (List.getElem_mem _)⟩⟩
  · rw [n32 (by omega)] at hs
    obtain ⟨j, hj, rfl⟩ := List.getElem_of_mem hc
    exact Or.inr ⟨rfl, hs, fun j hj => ⟨by rw [hv _ (by omega), wide_lo _ _ _ hj], by rw [hv _ (by omega), wide_hi _ _ _ hj]⟩, j, hj, by
      have e : cs.getD j 0 = cs[j] := by simp [List.getD_eq_getElem?_getD, hj]
      show 255 < cs.getD j 0
      rw [e]; exact hw⟩
/-- an object of exactly java/lang/String, its two fields found: as the laws ask it -/
theorem strObj {Z U : State} {a0 : Array Value} {kI : Nat} (wi : (Jvm.Cond.instantiable ST kI).before a0 Z = true) (al : Z.vm.Alike U.vm) {x : Addr} {v0 c0 : Value} (E : RoadKit.Exa Z U.heap x ST) (V : RoadKit.Fld Z U.heap x ST "value" "[B" v0) (C : RoadKit.Fld Z U.heap x ST "coder" "B" c0) :
    ∃ (D : Cell) (fV fC : Field), Blank ST x D U ∧ Found ST "value" "[B" fV U ∧ Found ST "coder" "B" fC U ∧ D.slots[fV.slot]? = some v0 ∧ D.slots[fC.slot]? = some c0 ∧ RoadKit.slotOf Z ST "value" "[B" = fV.slot ∧ RoadKit.slotOf Z ST "coder" "B" = fC.slot := by
  obtain ⟨D, cfV, kV, iV, fV, hD, gV, stV, knV, obV, asV, slV⟩ := V
  obtain ⟨D', cfC, kC, iC, fC, hD', gC, stC, -, -, asC, slC⟩ := C
  cases hD.symm.trans hD'
  obtain ⟨D2, kD, e1, e2, e3, e4, e5⟩ := E
  cases hD.symm.trans e1
  obtain ⟨c2, k2, i1, i2, i3, -⟩ := Cond.instantiable_spec wi
  cases e2.symm.trans i1
  cases e3.symm.trans i2
  obtain ⟨kU, u1, u2⟩ := al.2.2 _ _ e3
  exact ⟨D, fV, fC, ⟨hD, ⟨knV, fun q hq => by rw [hq] at obV; cases obV⟩, by rw [al.findClass]; exact e2, kU, u1, by rw [u2]; exact i3, by rw [u2]; exact e5 i3⟩, ⟨SBG.found_only al ⟨cfV, kV, iV, gV⟩, stV⟩, ⟨SBG.found_only al ⟨cfC, kC, iC, gC⟩, stC⟩, slV, slC, by simp [RoadKit.slotOf, gV], by simp [RoadKit.slotOf, gC]⟩
theorem sta_is {Z U : State} (al : Z.vm.Alike U.vm) {C n d : String} {v : Value} (S : RoadKit.Sta Z U.heap C n d v) : StaticIs U C n d v := by
  obtain ⟨cfS, iS, kS, fS, st, cS, t1, t2, t3, t4, t5, t6, t7⟩ := S
  exact StaticIs.there (s := { Z with heap := U.heap }) ⟨cfS, iS, kS, fS, st, cS, t1, t2, t3, t4, t5, (fun q => by rw [q] at t6; cases t6), t7⟩ al rfl
/-- **length() OF SUCH A STRING** -/
theorem lenW {p : Program} {l : Launch} {e : Env} {R : Room} {s : State} {args : Array Value} {below : List Frame} {len W : Nat} {Z : State} {a0 : Array Value} {h : Heap} (hZ : Z.Warmed39 s.vm) (hw : ∀ d ∈ wordsLen, d.before a0 Z = true) {kI : Nat} (wi : (Jvm.Cond.instantiable ST kI).before a0 Z = true)
    {x t : Addr} {kb : ClassId} {cs : List Int32} {cd N2 z : Int32} {vs : List Value} (E : RoadKit.Exa Z h x ST) (V : RoadKit.Fld Z h x ST "value" "[B" (.ref t)) (C : RoadKit.Fld Z h x ST "coder" "B" (.int cd)) (K : RoadKit.Arv Z h t kb .byte N2 vs (.int 0)) (hc : CodA cs cd N2 vs) (hb : ∀ c ∈ cs, ¬ c < 0 ∧ ¬ (65535 : Int32) < c)
    (S : RoadKit.Sta Z h ST "COMPACT_STRINGS" "Z" (.int z)) (hz : ¬ z = 0) (l2 : cs.length ≤ 4000) (hfr : 2 ≤ R.frames) (hlo : W + 25 ≤ R.locals) :
    Back l R p e below s args (⟨"java/lang/String", "length", "()I"⟩ : MethodName) len W (fun P a => a = #[.ref x] ∧ P.U.heap = h ∧ P.cells + 0 ≤ R.cells ∧ P.slots + 0 ≤ R.slots)
      (fun P _ v B => ∃ L, (v = some (.int (Int32.ofNat cs.length)) ∧ L = [] ∧ B.U.heap = h) ∧ B.locs = P.locs ++ L ∧ B.cells = P.cells + 0 ∧ B.slots = P.slots + 0) := by
  obtain ⟨A, K1, K2, K3, K4, K5, K6⟩ := K
  have hcod := hc.cod (by omega) K3 K5
  intro m meth c P g ig mk a X hg hsize hdg hW hn hp'
  obtain ⟨rfl, rfl, r1, r2⟩ := hp'
  have al : Z.vm.Alike P.U.vm := hZ.alike.trans X.warmed.alike
  obtain ⟨D, fV, fC, hB, F1, F2, g1, g2, -, -⟩ := strObj wi al E V C
  have hx : Txt x t A cd cs.length (fun j => cs.getD j 0) P.U := ⟨⟨_, hB.2.2.1, D, hB.1, rfl, by cases q : D.vm <;> first | rfl | exact absurd q (hB.2.1.2 _)⟩, Has.of hB F1 g1, Has.of hB F2 g2, ⟨K1.1, State.isArrayOf_alike al K1.2.1, K1.2.2, by rcases hcod with ⟨-, q, -⟩ | ⟨-, q, -⟩ <;> omega⟩, hcod, fun j hj => by
    have e : cs.getD j 0 = cs[j] := by simp [List.getD_eq_getElem?_getD, hj]
    show ¬ cs.getD j 0 < 0 ∧ ¬ 65535 < cs.getD j 0
    rw [e]; exact hb _ (List.getElem_mem _)⟩
  obtain ⟨v, B, X', ⟨⟨hv, hh⟩, hl, hk, hs⟩, st⟩ := Len.pays x t A cd cs.length (fun j => cs.getD j 0) z (tabLen_of (movedLen hZ hw)) hfr hlo m meth c P g ig mk _ X hg hsize hdg hW hn ⟨r1, r2, rfl, hx, sta_is al S, hz⟩
  exact ⟨v, B, X', ⟨[], ⟨hv, rfl, hh⟩, hl, hk, hs⟩, st⟩
end StrChars.Road
namespace StrChars
open Jvm Sem ClassFile Op Lib Jvm.Stand Jvm.Free.XT Jvm.Free.ALB Jvm.Free.JM Jvm.Free
open Jvm.Lib.Cold (StaticIs)
/-- what place i of a byte[]'s cell holds -/
def yv (A : Cell) (i : Nat) : Int32 := match A.slots[i]? with | some (.int x) => x | _ => 0
theorem yv_get {a : Addr} {A : Cell} {U : State} (h : XT.Arr .byte a A U) (ht : Typed .byte A) {i : Nat} (hi : i < A.slots.size) : A.slots[i]? = some (.int (yv A i)) := by
  have e := Array.getElem?_eq_getElem hi
  have f := ht i _ e
  unfold yv; rw [e]
  generalize A.slots[i] = v at f
  cases v <;> simp [fits] at f ⊢
/-- the two arrays are equal, place for place -/
def EqC (A B : Cell) : Prop := A.slots.size = B.slots.size ∧ ∀ i, i < A.slots.size → yv A i = yv B i
/-- a boolean that says whether p -/
def Says01 (q : Prop) (r : Option Value) (s u : State) : Prop := ∃ v : Int32, r = some (.int v) ∧ u.heap = s.heap ∧ ((v = 1 ∧ q) ∨ (v = 0 ∧ ¬ q))
theorem Says01.mv {q : Prop} : ∀ r (U U' V V' : State), U'.heap = U.heap → V.vm.Alike V'.vm → V'.heap = V.heap → Says01 q r U V → Says01 q r U' V' :=
  fun r U U' V V' h1 _ h2 ⟨v, a, b, c⟩ => ⟨v, a, by rw [h1, h2]; exact b, c⟩
namespace LEq
def yN : MethodName := ⟨"java/lang/StringLatin1", "equals", "([B[B)Z"⟩
abbrev yB : ByteArray := jdk_43_method_13_code
theorem d0 : decode yB 0 = .ok (.aload_n 0, 1) := by decide +kernel
theorem d1 : decode yB 1 = .ok (.arraylength, 1) := by decide +kernel
theorem d2 : decode yB 2 = .ok (.aload_n 1, 1) := by decide +kernel
theorem d3 : decode yB 3 = .ok (.arraylength, 1) := by decide +kernel
theorem d4 : decode yB 4 = .ok (.if_icmp (.ne) 30, 3) := by decide +kernel
theorem d7 : decode yB 7 = .ok (.iconst 0, 1) := by decide +kernel
theorem d8 : decode yB 8 = .ok (.istore_n 2, 1) := by decide +kernel
theorem d9 : decode yB 9 = .ok (.iload_n 2, 1) := by decide +kernel
theorem d10 : decode yB 10 = .ok (.aload_n 0, 1) := by decide +kernel
theorem d11 : decode yB 11 = .ok (.arraylength, 1) := by decide +kernel
theorem d12 : decode yB 12 = .ok (.if_icmp (.ge) 20, 3) := by decide +kernel
theorem d15 : decode yB 15 = .ok (.aload_n 0, 1) := by decide +kernel
theorem d16 : decode yB 16 = .ok (.iload_n 2, 1) := by decide +kernel
theorem d17 : decode yB 17 = .ok (.baload, 1) := by decide +kernel
theorem d18 : decode yB 18 = .ok (.aload_n 1, 1) := by decide +kernel
theorem d19 : decode yB 19 = .ok (.iload_n 2, 1) := by decide +kernel
theorem d20 : decode yB 20 = .ok (.baload, 1) := by decide +kernel
theorem d21 : decode yB 21 = .ok (.if_icmp (.eq) 5, 3) := by decide +kernel
theorem d24 : decode yB 24 = .ok (.iconst 0, 1) := by decide +kernel
theorem d25 : decode yB 25 = .ok (.ireturn, 1) := by decide +kernel
theorem d26 : decode yB 26 = .ok (.iinc 2 1, 3) := by decide +kernel
theorem d29 : decode yB 29 = .ok (.goto (-20), 3) := by decide +kernel
theorem d32 : decode yB 32 = .ok (.iconst 1, 1) := by decide +kernel
theorem d33 : decode yB 33 = .ok (.ireturn, 1) := by decide +kernel
theorem d34 : decode yB 34 = .ok (.iconst 0, 1) := by decide +kernel
theorem d35 : decode yB 35 = .ok (.ireturn, 1) := by decide +kernel
def site : List Cond := []
def tab : Cond := tabOf yN yB 3 (some .boolean) site
def P (a : Addr) (A : Cell) (b : Addr) (B : Cell) (args : Array Value) (s : State) : Prop := args = #[.ref a, .ref b] ∧ XT.Arr .byte a A s ∧ Typed .byte A ∧ XT.Arr .byte b B s ∧ Typed .byte B
/-- whether two byte[] are equal, place for place -/
theorem law (l : Launch) (a : Addr) (A : Cell) (b : Addr) (B : Cell) : Law l yN 2 2 0 0 yB 3 (some .boolean) site (P a A b B) (Says01 (EqC A B)) [] 0 0 := by
  refine Law.of_walk (plainFor_of_name (by decide +kernel)) (by decide +kernel) (by decide +kernel) (by decide) (fun _ _ h => by rw [h.1]; rfl) (fun _ U U' hal hh h => ⟨h.1, h.2.1.mv hal hh, h.2.2.1, h.2.2.2.1.mv hal hh, h.2.2.2.2⟩) (fun r U U' V V' h1 hal h2 h => Says01.mv r U U' V V' h1 hal h2 h) ?_
  intro p e s m args below meth c s₁ X0 hexec hbytes hml hret hlk hnm hown hh0 W hP
  obtain ⟨rfl, hA, tA, hB, tB⟩ := hP
  have a31 := hA.2.2.2
  have b31 := hB.2.2.2
  have hA0 := hA.mv X0.warmed.alike hh0
  have hB0 := hB.mv X0.warmed.alike hh0
  have c1 : Steps p.tables e below (s₁.setTop (entryFrame m #[.ref a, .ref b] 3)) (s₁.setTop (mkF m 0 #[.val (.ref a), .val (.ref b), .unset] [])) := entry rfl
  have c2 : Steps p.tables e below (s₁.setTop (entryFrame m #[.ref a, .ref b] 3)) (s₁.setTop (mkF m 4 #[.val (.ref a), .val (.ref b), .unset] [.int (Int32.ofNat B.slots.size), .int (Int32.ofNat A.slots.size)])) := c1.trans (by
    refine XS.aloadN X0.here hexec rfl (hb hbytes d0) rfl rfl ?_
    refine X0.alen hexec hA0 rfl rfl (hb hbytes d1) ?_
    refine XS.aloadN X0.here hexec rfl (hb hbytes d2) rfl rfl ?_
    refine X0.alen hexec hB0 rfl rfl (hb hbytes d3) ?_
    exact Steps.refl _)
  by_cases hs : A.slots.size = B.slots.size
  · have c3 : Steps p.tables e below (s₁.setTop (entryFrame m #[.ref a, .ref b] 3)) (s₁.setTop (mkF m 9 #[.val (.ref a), .val (.ref b), .val (.int 0)] [])) := c2.trans (by
      refine XS.icmpNo X0.here hexec rfl (hb hbytes d4) rfl (ii_ne_f (by rw [hs])) ?_
      refine iconstV X0.here hexec rfl 0 (hb hbytes d7) (by decide) ?_
      refine XS.istoreN X0.here hexec rfl (hb hbytes d8) rfl rfl ?_
      exact Steps.refl _)
    have loop : ∀ (r i : Nat), i + r = A.slots.size → (∀ j, j < i → yv A j = yv B j) → Steps p.tables e below (s₁.setTop (entryFrame m #[.ref a, .ref b] 3)) (s₁.setTop (mkF m 9 #[.val (.ref a), .val (.ref b), .val (.int (Int32.ofNat i))] [])) → ∃ (pc : Nat) (Ls : Array Slot) (v : Int32), (pc = 25 ∨ pc = 33) ∧ ((v = 1 ∧ EqC A B) ∨ (v = 0 ∧ ¬ EqC A B)) ∧ Steps p.tables e below (s₁.setTop (entryFrame m #[.ref a, .ref b] 3)) (s₁.setTop (mkF m pc Ls [.int v])) := by
      intro r
      induction r with
      | zero =>
        intro i hi he cl
        exact ⟨33, _, 1, Or.inr rfl, Or.inl ⟨rfl, hs, fun j hj => he j (by omega)⟩, cl.trans (by
          refine XS.iloadN X0.here hexec rfl (hb hbytes d9) rfl ?_
          refine XS.aloadN X0.here hexec rfl (hb hbytes d10) rfl rfl ?_
          refine X0.alen hexec hA0 rfl rfl (hb hbytes d11) ?_
          refine XS.icmpYes X0.here hexec rfl (pc0 := 12) rfl (hb hbytes d12) rfl (ii_ge_t (nlt32 (by omega) (by omega))) (by decide) rfl ?_
          refine iconstV X0.here hexec rfl 1 (hb hbytes d32) (by decide) ?_
          exact Steps.refl _)⟩
      | succ r ih =>
        intro i hi he cl
        have c4 : Steps p.tables e below (s₁.setTop (entryFrame m #[.ref a, .ref b] 3)) (s₁.setTop (mkF m 21 #[.val (.ref a), .val (.ref b), .val (.int (Int32.ofNat i))] [.int (yv B i), .int (yv A i)])) := cl.trans (by
          refine XS.iloadN X0.here hexec rfl (hb hbytes d9) rfl ?_
          refine XS.aloadN X0.here hexec rfl (hb hbytes d10) rfl rfl ?_
          refine X0.alen hexec hA0 rfl rfl (hb hbytes d11) ?_
          refine XS.icmpNo X0.here hexec rfl (hb hbytes d12) rfl (ii_ge_f (lt32 (by omega) (by omega))) ?_
          refine XS.aloadN X0.here hexec rfl (hb hbytes d15) rfl rfl ?_
          refine XS.iloadN X0.here hexec rfl (hb hbytes d16) rfl ?_
          refine X0.aget hexec hA0 rfl (yv_get hA tA (i := i) (by omega)) rfl rfl (hb hbytes d17) ?_
          refine XS.aloadN X0.here hexec rfl (hb hbytes d18) rfl rfl ?_
          refine XS.iloadN X0.here hexec rfl (hb hbytes d19) rfl ?_
          refine X0.aget hexec hB0 rfl (yv_get hB tB (i := i) (by omega)) rfl rfl (hb hbytes d20) ?_
          exact Steps.refl _)
        by_cases hv : yv A i = yv B i
        · have c5 : Steps p.tables e below (s₁.setTop (entryFrame m #[.ref a, .ref b] 3)) (s₁.setTop (mkF m 9 #[.val (.ref a), .val (.ref b), .val (.int (Int32.ofNat i + 1))] [])) := c4.trans (by
            refine XS.icmpYes X0.here hexec rfl (pc0 := 21) rfl (hb hbytes d21) rfl (ii_eq_t hv) (by decide) rfl ?_
            refine iincV X0.here hexec rfl 1 (hb hbytes d26) (by decide) rfl rfl ?_
            refine XS.goto X0.here hexec rfl (pc0 := 29) rfl (hb hbytes d29) (by decide) rfl ?_
            exact Steps.refl _)
          rw [succ32] at c5
          exact ih (i + 1) (by omega) (fun j hj => by
            by_cases e : j = i
            · rw [e]; exact hv
            · exact he j (by omega)) c5
        · exact ⟨25, _, 0, Or.inl rfl, Or.inr ⟨rfl, fun q => hv (q.2 i (by omega))⟩, c4.trans (by
            refine XS.icmpNo X0.here hexec rfl (hb hbytes d21) rfl (ii_eq_f hv) ?_
            refine iconstV X0.here hexec rfl 0 (hb hbytes d24) (by decide) ?_
            exact Steps.refl _)⟩
    obtain ⟨pc, Ls, v, hpc, hv, cz⟩ := loop A.slots.size 0 (by omega) (fun j hj => absurd hj (Nat.not_lt_zero j)) c3
    have nv : narrow .boolean (.int v) = .int v := by rcases hv with ⟨rfl, -⟩ | ⟨rfl, -⟩ <;> rfl
    rcases hpc with rfl | rfl
    · exact ⟨s₁, some (.int v), _, _, _, X0, rfl, rfl, rfl, (fun h => by cases h), ⟨v, rfl, hh0, hv⟩, fun fs hl => cz.trans (X0.ireturnOut hexec hret nv (Or.inr (Or.inl rfl)) (hb hbytes d25) hl)⟩
    · exact ⟨s₁, some (.int v), _, _, _, X0, rfl, rfl, rfl, (fun h => by cases h), ⟨v, rfl, hh0, hv⟩, fun fs hl => cz.trans (X0.ireturnOut hexec hret nv (Or.inr (Or.inl rfl)) (hb hbytes d33) hl)⟩
  · have c3 : Steps p.tables e below (s₁.setTop (entryFrame m #[.ref a, .ref b] 3)) (s₁.setTop (mkF m 35 #[.val (.ref a), .val (.ref b), .unset] [.int 0])) := c2.trans (by
      refine XS.icmpYes X0.here hexec rfl (pc0 := 4) rfl (hb hbytes d4) rfl (ii_ne_t (ne32 a31 b31 hs)) (by decide) rfl ?_
      refine iconstV X0.here hexec rfl 0 (hb hbytes d34) (by decide) ?_
      exact Steps.refl _)
    exact ⟨s₁, some (.int 0), _, _, _, X0, rfl, rfl, rfl, (fun h => by cases h), ⟨0, rfl, hh0, Or.inr ⟨rfl, fun q => hs q.1⟩⟩, fun fs hl => c3.trans (X0.ireturnOut hexec hret rfl (Or.inr (Or.inl rfl)) (hb hbytes d35) hl)⟩
end LEq
theorem Cod.ty {cd : Int32} {n : Nat} {f : Nat → Int32} {V : Cell} (h : Cod cd n f V) : Typed .byte V := fun i v hv => by
  have hi : i < V.slots.size := (Array.getElem?_eq_some_iff.mp hv).1
  rcases h with ⟨-, k1, k2⟩ | ⟨-, k1, k2, -⟩
  · rw [(k2 i (by omega)).1] at hv; cases hv; exact fits_lo8 _
  · rcases Nat.mod_two_eq_zero_or_one i with e | e
    · obtain ⟨j, rfl⟩ : ∃ j, i = 2 * j := ⟨i / 2, by omega⟩
      rw [(k2 j (by omega)).1] at hv; cases hv; exact fits_lo8 _
    · obtain ⟨j, rfl⟩ : ∃ j, i = 2 * j + 1 := ⟨i / 2, by omega⟩
      rw [(k2 j (by omega)).2] at hv; cases hv; exact fits_lo8 _
/-- the same text -/
def SameT (n : Nat) (f : Nat → Int32) (k : Nat) (g : Nat → Int32) : Prop := n = k ∧ ∀ j, j < n → f j = g j
theorem lo8_inj {x y : Int32} (h0 : ¬ x < 0) (h1 : ¬ 255 < x) (k0 : ¬ y < 0) (k1 : ¬ 255 < y) (h : lo8 x = lo8 y) : x = y := by
  rw [← lo8_mask h0 h1, ← lo8_mask k0 k1, h]
/-- arrays coded by one coder are equal just where the texts are -/
theorem Cod.eqv {cd : Int32} {n k : Nat} {f g : Nat → Int32} {V V' : Cell} (h : Cod cd n f V) (h' : Cod cd k g V') (hf : ∀ j, j < n → ¬ f j < 0 ∧ ¬ 65535 < f j) (hg : ∀ j, j < k → ¬ g j < 0 ∧ ¬ 65535 < g j) : EqC V V' ↔ SameT n f k g := by
  have yvv : ∀ {W : Cell} {i : Nat} {x : Int32}, W.slots[i]? = some (.int x) → yv W i = x := fun q => by unfold yv; rw [q]
  rcases h with ⟨rfl, k1, k2⟩ | ⟨rfl, k1, k2, -⟩
  · rcases h' with ⟨-, m1, m2⟩ | ⟨e, -⟩
    · constructor
      · rintro ⟨e1, e2⟩
        refine ⟨by omega, fun j hj => ?_⟩
        have q := e2 j (by omega)
        rw [yvv (k2 j hj).1, yvv (m2 j (by omega)).1] at q
        exact lo8_inj (hf j hj).1 (k2 j hj).2 (hg j (by omega)).1 (m2 j (by omega)).2 q
      · rintro ⟨rfl, e2⟩
        refine ⟨by omega, fun j hj => ?_⟩
        rw [yvv (k2 j (by omega)).1, yvv (m2 j (by omega)).1, e2 j (by omega)]
    · exact absurd e (by decide)
  · rcases h' with ⟨e, -⟩ | ⟨-, m1, m2, -⟩
    · exact absurd e (by decide)
    · constructor
      · rintro ⟨e1, e2⟩
        refine ⟨by omega, fun j hj => ?_⟩
        have q1 := e2 (2 * j) (by omega)
        have q2 := e2 (2 * j + 1) (by omega)
        rw [yvv (k2 j hj).1, yvv (m2 j (by omega)).1] at q1
        rw [yvv (k2 j hj).2, yvv (m2 j (by omega)).2] at q2
        rw [← pair_says (hf j hj).1 (hf j hj).2, ← pair_says (hg j (by omega)).1 (hg j (by omega)).2, q1, q2]
      · rintro ⟨rfl, e2⟩
        refine ⟨by omega, fun i hi => ?_⟩
        rcases Nat.mod_two_eq_zero_or_one i with e | e
        · obtain ⟨j, rfl⟩ : ∃ j, i = 2 * j := ⟨i / 2, by omega⟩
          rw [yvv (k2 j (by omega)).1, yvv (m2 j (by omega)).1, e2 j (by omega)]
        · obtain ⟨j, rfl⟩ : ∃ j, i = 2 * j + 1 := ⟨i / 2, by omega⟩
          rw [yvv (k2 j (by omega)).2, yvv (m2 j (by omega)).2, e2 j (by omega)]
/-- two codings differ: so do the texts -/
theorem Cod.dif {cd cd' : Int32} {n k : Nat} {f g : Nat → Int32} {V V' : Cell} (h : Cod cd n f V) (h' : Cod cd' k g V') (hne : ¬ cd = cd') : ¬ SameT n f k g := by
  rintro ⟨rfl, e⟩
  rcases h with ⟨rfl, -, k2⟩ | ⟨rfl, -, -, j, hj, hw⟩
  · rcases h' with ⟨rfl, -⟩ | ⟨-, -, -, j, hj, hw⟩
    · exact hne rfl
    · exact (k2 j hj).2 (by rw [e j hj]; exact hw)
  · rcases h' with ⟨-, -, m2⟩ | ⟨rfl, -⟩
    · exact (m2 j hj).2 (by rw [← e j hj]; exact hw)
    · exact hne rfl
/-- an object of exactly C is an instance of C -/
theorem cinst {p : Program} {l : Launch} {e : Env} {R : Room} {s : State} {m : MethodId} {args : Array Value} {below : List Frame} {meth : Method} {c : Code} {T : State} {locs : List Loc} {cells slots : Nat} (X : Stand p l e R s m args below meth c T locs cells slots) (hexec : p.tables.exec = Jvm.exec) {own C : String} {index : Nat} (hown : s.vm.findClass own = some m.cls) (hlink : (Cond.classLink own index C).before args s = true) {a : Addr} (hE : Exact C a T)
    {g : JFrame} (hg : g.method = m) {rest : List Value} (hstack : g.stack = .ref a :: rest) (hdg : decode c.code g.pc = .ok (.instanceof index, 3)) :
    ∃ T', Stand p l e R s m args below meth c T' locs cells slots ∧ T'.heap = T.heap ∧ ∀ target, Steps p.tables e below (T'.setTop { g with pc := g.pc + 3, stack := .int 1 :: rest }) target → Steps p.tables e below (T.setTop g) target := by
  obtain ⟨cB, h1, D, h2, h3, h4⟩ := hE
  have h1' : s.vm.findClass C = some cB := by rw [← X.warmed.alike.findClass]; exact h1
  obtain ⟨vm', X', st⟩ := X.instanceofYes hexec hown hlink h2 h4 h1' (by rw [h3]; exact Jvm.Free.SB.assignable_self _ _) hg hstack hdg
  exact ⟨_, X', rfl, st⟩
theorem cself {p : Program} {l : Launch} {e : Env} {R : Room} {s : State} {m : MethodId} {args : Array Value} {below : List Frame} {meth : Method} {c : Code} {T : State} {locs : List Loc} {cells slots : Nat} (X : Stand p l e R s m args below meth c T locs cells slots) (hexec : p.tables.exec = Jvm.exec) {own C : String} {index : Nat} (hown : s.vm.findClass own = some m.cls) (hlink : (Cond.classLink own index C).before args s = true) {a : Addr} (hE : Exact C a T)
    {g : JFrame} (hg : g.method = m) {rest : List Value} (hstack : g.stack = .ref a :: rest) (hdg : decode c.code g.pc = .ok (.checkcast index, 3)) :
    ∃ T', Stand p l e R s m args below meth c T' locs cells slots ∧ T'.heap = T.heap ∧ ∀ target, Steps p.tables e below (T'.setTop { g with pc := g.pc + 3, stack := .ref a :: rest }) target → Steps p.tables e below (T.setTop g) target := by
  obtain ⟨cB, h1, D, h2, h3, h4⟩ := hE
  have h1' : s.vm.findClass C = some cB := by rw [← X.warmed.alike.findClass]; exact h1
  obtain ⟨vm', X', st⟩ := X.checkcastYes hexec hown hlink h2 h4 h1' (by rw [h3]; exact Jvm.Free.SB.assignable_self _ _) hg hstack hdg
  exact ⟨_, X', rfl, fun t h => st t (by rw [← hstack] at h; exact h)⟩
namespace SEq
def yN : MethodName := ⟨"java/lang/String", "equals", "(Ljava/lang/Object;)Z"⟩
abbrev yB : ByteArray := jdk_42_method_66_code
theorem d0 : decode yB 0 = .ok (.aload_n 0, 1) := by decide +kernel
theorem d1 : decode yB 1 = .ok (.aload_n 1, 1) := by decide +kernel
theorem d2 : decode yB 2 = .ok (.if_acmp (.ne) 5, 3) := by decide +kernel
theorem d5 : decode yB 5 = .ok (.iconst 1, 1) := by decide +kernel
theorem d6 : decode yB 6 = .ok (.ireturn, 1) := by decide +kernel
theorem d7 : decode yB 7 = .ok (.aload_n 1, 1) := by decide +kernel
theorem d8 : decode yB 8 = .ok (.instanceof 10, 3) := by decide +kernel
theorem d11 : decode yB 11 = .ok (.ifCond (.eq) 43, 3) := by decide +kernel
theorem d14 : decode yB 14 = .ok (.aload_n 1, 1) := by decide +kernel
theorem d15 : decode yB 15 = .ok (.checkcast 10, 3) := by decide +kernel
theorem d18 : decode yB 18 = .ok (.astore_n 2, 1) := by decide +kernel
theorem d19 : decode yB 19 = .ok (.getstatic 38, 3) := by decide +kernel
theorem d22 : decode yB 22 = .ok (.ifCond (.eq) 14, 3) := by decide +kernel
theorem d25 : decode yB 25 = .ok (.aload_n 0, 1) := by decide +kernel
theorem d26 : decode yB 26 = .ok (.getfield 15, 3) := by decide +kernel
theorem d29 : decode yB 29 = .ok (.aload_n 2, 1) := by decide +kernel
theorem d30 : decode yB 30 = .ok (.getfield 15, 3) := by decide +kernel
theorem d33 : decode yB 33 = .ok (.if_icmp (.ne) 21, 3) := by decide +kernel
theorem d36 : decode yB 36 = .ok (.aload_n 0, 1) := by decide +kernel
theorem d37 : decode yB 37 = .ok (.getfield 9, 3) := by decide +kernel
theorem d40 : decode yB 40 = .ok (.aload_n 2, 1) := by decide +kernel
theorem d41 : decode yB 41 = .ok (.getfield 9, 3) := by decide +kernel
theorem d44 : decode yB 44 = .ok (.invokestatic 541, 3) := by decide +kernel
theorem d47 : decode yB 47 = .ok (.ifCond (.eq) 7, 3) := by decide +kernel
theorem d50 : decode yB 50 = .ok (.iconst 1, 1) := by decide +kernel
theorem d51 : decode yB 51 = .ok (.goto 4, 3) := by decide +kernel
theorem d54 : decode yB 54 = .ok (.iconst 0, 1) := by decide +kernel
theorem d55 : decode yB 55 = .ok (.ireturn, 1) := by decide +kernel
def site : List Cond := [.classLink "java/lang/String" 10 "java/lang/String", .fieldLink "java/lang/String" 38 "java/lang/String" "COMPACT_STRINGS" "Z", .fieldLink "java/lang/String" 15 "java/lang/String" "coder" "B", .fieldLink "java/lang/String" 9 "java/lang/String" "value" "[B", LEq.tab] ++ staticW "java/lang/String" 541 LEq.yN
def tab : Cond := tabOf yN yB 3 (some .boolean) site
def P (x t : Addr) (V : Cell) (cd : Int32) (n : Nat) (f : Nat → Int32) (y t' : Addr) (V' : Cell) (cd' : Int32) (k : Nat) (g : Nat → Int32) (z : Int32) (args : Array Value) (s : State) : Prop := args = #[.ref x, .ref y] ∧ Txt x t V cd n f s ∧ Txt y t' V' cd' k g s ∧ StaticIs s "java/lang/String" "COMPACT_STRINGS" "Z" (.int z) ∧ ¬ z = 0
/-- equals(Object) of two Strings: whether the texts are the same -/
theorem law (l : Launch) (x t : Addr) (V : Cell) (cd : Int32) (n : Nat) (f : Nat → Int32) (y t' : Addr) (V' : Cell) (cd' : Int32) (k : Nat) (g : Nat → Int32) (z : Int32) : Law l yN 2 1 1 14 yB 3 (some .boolean) site (P x t V cd n f y t' V' cd' k g z) (Says01 (SameT n f k g)) [] 0 0 := by
  refine Law.of_walk (plainFor_of_name (by decide +kernel)) (by decide +kernel) (by decide +kernel) (by decide) (fun _ _ h => by rw [h.1]; rfl) (fun _ U U' hal hh h => ⟨h.1, h.2.1.mv hal hh, h.2.2.1.mv hal hh, h.2.2.2.1.there hal hh, h.2.2.2.2⟩) (fun r U U' V V' h1 hal h2 h => Says01.mv r U U' V V' h1 hal h2 h) ?_
  intro p e s m args below meth c s₁ X0 hexec hbytes hml hret hlk hnm hown hh0 W hP
  obtain ⟨rfl, hx, hy, s1, hz⟩ := hP
  have c1 : Steps p.tables e below (s₁.setTop (entryFrame m #[.ref x, .ref y] 3)) (s₁.setTop (mkF m 2 #[.val (.ref x), .val (.ref y), .unset] [.ref y, .ref x])) := Steps.trans (entry rfl) (by
    show Steps p.tables e below (s₁.setTop (mkF m 0 #[.val (.ref x), .val (.ref y), .unset] [])) _
    refine XS.aloadN X0.here hexec rfl (hb hbytes d0) rfl rfl ?_
    refine XS.aloadN X0.here hexec rfl (hb hbytes d1) rfl rfl ?_
    exact Steps.refl _)
  by_cases hxy : x = y
  · have c2 : Steps p.tables e below (s₁.setTop (entryFrame m #[.ref x, .ref y] 3)) (s₁.setTop (mkF m 6 #[.val (.ref x), .val (.ref y), .unset] [.int 1])) := c1.trans (by
      refine acmpNo X0.here hexec rfl (hb hbytes d2) rfl rfl rfl (by simp [acmp, hxy]) ?_
      refine iconstV X0.here hexec rfl 1 (hb hbytes d5) (by decide) ?_
      exact Steps.refl _)
    subst hxy
    have ec : cd = cd' := by
      obtain ⟨D, fd, a1, a2, a3⟩ := hx.2.2.1
      obtain ⟨D', fd', b1, b2, b3⟩ := hy.2.2.1
      cases a1.symm.trans b1
      obtain ⟨q1, q2, q3, q4⟩ := a2.1
      obtain ⟨r1, r2, r3, r4⟩ := b2.1
      cases q4.symm.trans r4
      cases a3.symm.trans b3; rfl
    have et : t = t' := by
      obtain ⟨D, fd, a1, a2, a3⟩ := hx.2.1
      obtain ⟨D', fd', b1, b2, b3⟩ := hy.2.1
      cases a1.symm.trans b1
      obtain ⟨q1, q2, q3, q4⟩ := a2.1
      obtain ⟨r1, r2, r3, r4⟩ := b2.1
      cases q4.symm.trans r4
      cases a3.symm.trans b3; rfl
    subst ec et
    have ev : V = V' := by cases hx.2.2.2.1.1.symm.trans hy.2.2.2.1.1; rfl
    subst ev
    have hs : SameT n f k g := (Cod.eqv hx.2.2.2.2.1 hy.2.2.2.2.1 hx.2.2.2.2.2 hy.2.2.2.2.2).mp ⟨rfl, fun _ _ => rfl⟩
    exact ⟨s₁, some (.int 1), _, _, _, X0, rfl, rfl, rfl, (fun h => by cases h), ⟨1, rfl, hh0, Or.inl ⟨rfl, hs⟩⟩, fun fs hl => c2.trans (X0.ireturnOut hexec hret rfl (Or.inr (Or.inl rfl)) (hb hbytes d6) hl)⟩
  · have c2 : Steps p.tables e below (s₁.setTop (entryFrame m #[.ref x, .ref y] 3)) (s₁.setTop (mkF m 8 #[.val (.ref x), .val (.ref y), .unset] [.ref y])) := c1.trans (by
      refine acmpYes X0.here hexec rfl (pc0 := 2) rfl (hb hbytes d2) rfl rfl rfl (by simp [acmp, hxy]) (by decide) rfl ?_
      refine XS.aloadN X0.here hexec rfl (hb hbytes d7) rfl rfl ?_
      exact Steps.refl _)
    obtain ⟨T3, X3, q3, st3⟩ := cinst X0 hexec hown (wk W (.classLink "java/lang/String" 10 "java/lang/String")) (hy.mv X0.warmed.alike hh0).1 (g := (mkF m 8 #[.val (.ref x), .val (.ref y), .unset] [.ref y])) rfl (rest := []) rfl (hb hbytes d8)
    have hh3 := q3.trans hh0
    have c4 : Steps p.tables e below (s₁.setTop (entryFrame m #[.ref x, .ref y] 3)) (T3.setTop (mkF m 15 #[.val (.ref x), .val (.ref y), .unset] [.ref y])) := (c2.trans (st3 _ (Steps.refl _))).trans (by
      refine XS.ifNo X3.here hexec rfl (hb hbytes d11) rfl (i0_eq_f (by decide)) ?_
      refine XS.aloadN X3.here hexec rfl (hb hbytes d14) rfl rfl ?_
      exact Steps.refl _)
    obtain ⟨T5, X5, q5, st5⟩ := cself X3 hexec hown (wk W (.classLink "java/lang/String" 10 "java/lang/String")) (hy.mv X3.warmed.alike hh3).1 (g := (mkF m 15 #[.val (.ref x), .val (.ref y), .unset] [.ref y])) rfl (rest := []) rfl (hb hbytes d15)
    have hh5 := q5.trans hh3
    have c6 : Steps p.tables e below (s₁.setTop (entryFrame m #[.ref x, .ref y] 3)) (T5.setTop (mkF m 19 #[.val (.ref x), .val (.ref y), .val (.ref y)] [])) := (c4.trans (st5 _ (Steps.refl _))).trans (by
      refine XS.astoreN X5.here hexec rfl (hb hbytes d18) rfl rfl rfl ?_
      exact Steps.refl _)
    obtain ⟨T7, X7, q7, st7⟩ := X5.sget hexec hown (wk W (.fieldLink "java/lang/String" 38 "java/lang/String" "COMPACT_STRINGS" "Z")) s1 (fun _ _ h => by rw [hh5]; exact h) (g := (mkF m 19 #[.val (.ref x), .val (.ref y), .val (.ref y)] [])) rfl (hb hbytes d19)
    have hh7 := q7.trans hh5
    have c8 : Steps p.tables e below (s₁.setTop (entryFrame m #[.ref x, .ref y] 3)) (T7.setTop (mkF m 26 #[.val (.ref x), .val (.ref y), .val (.ref y)] [.ref x])) := (c6.trans (st7 _ (Steps.refl _))).trans (by
      refine XS.ifNo X7.here hexec rfl (hb hbytes d22) rfl (i0_eq_f hz) ?_
      refine XS.aloadN X7.here hexec rfl (hb hbytes d25) rfl rfl ?_
      exact Steps.refl _)
    obtain ⟨T9, X9, q9, st9⟩ := X7.hget hexec hown (wk W (.fieldLink "java/lang/String" 15 "java/lang/String" "coder" "B")) (hx.mv X7.warmed.alike hh7).2.2.1 (g := (mkF m 26 #[.val (.ref x), .val (.ref y), .val (.ref y)] [.ref x])) rfl (rest := []) rfl (hb hbytes d26)
    have hh9 := q9.trans hh7
    have c10 : Steps p.tables e below (s₁.setTop (entryFrame m #[.ref x, .ref y] 3)) (T9.setTop (mkF m 30 #[.val (.ref x), .val (.ref y), .val (.ref y)] [.ref y, .int cd])) := (c8.trans (st9 _ (Steps.refl _))).trans (by
      refine XS.aloadN X9.here hexec rfl (hb hbytes d29) rfl rfl ?_
      exact Steps.refl _)
    obtain ⟨T11, X11, q11, st11⟩ := X9.hget hexec hown (wk W (.fieldLink "java/lang/String" 15 "java/lang/String" "coder" "B")) (hy.mv X9.warmed.alike hh9).2.2.1 (g := (mkF m 30 #[.val (.ref x), .val (.ref y), .val (.ref y)] [.ref y, .int cd])) rfl (rest := [.int cd]) rfl (hb hbytes d30)
    have hh11 := q11.trans hh9
    have c12 : Steps p.tables e below (s₁.setTop (entryFrame m #[.ref x, .ref y] 3)) (T11.setTop (mkF m 33 #[.val (.ref x), .val (.ref y), .val (.ref y)] [.int cd', .int cd])) := c10.trans (st11 _ (Steps.refl _))
    by_cases hcd : cd = cd'
    · subst hcd
      have c13 : Steps p.tables e below (s₁.setTop (entryFrame m #[.ref x, .ref y] 3)) (T11.setTop (mkF m 37 #[.val (.ref x), .val (.ref y), .val (.ref y)] [.ref x])) := c12.trans (by
        refine XS.icmpNo X11.here hexec rfl (hb hbytes d33) rfl (ii_ne_f rfl) ?_
        refine XS.aloadN X11.here hexec rfl (hb hbytes d36) rfl rfl ?_
        exact Steps.refl _)
      obtain ⟨T14, X14, q14, st14⟩ := X11.hget hexec hown (wk W (.fieldLink "java/lang/String" 9 "java/lang/String" "value" "[B")) (hx.mv X11.warmed.alike hh11).2.1 (g := (mkF m 37 #[.val (.ref x), .val (.ref y), .val (.ref y)] [.ref x])) rfl (rest := []) rfl (hb hbytes d37)
      have hh14 := q14.trans hh11
      have c15 : Steps p.tables e below (s₁.setTop (entryFrame m #[.ref x, .ref y] 3)) (T14.setTop (mkF m 41 #[.val (.ref x), .val (.ref y), .val (.ref y)] [.ref y, .ref t])) := (c13.trans (st14 _ (Steps.refl _))).trans (by
        refine XS.aloadN X14.here hexec rfl (hb hbytes d40) rfl rfl ?_
        exact Steps.refl _)
      obtain ⟨T16, X16, q16, st16⟩ := X14.hget hexec hown (wk W (.fieldLink "java/lang/String" 9 "java/lang/String" "value" "[B")) (hy.mv X14.warmed.alike hh14).2.1 (g := (mkF m 41 #[.val (.ref x), .val (.ref y), .val (.ref y)] [.ref y, .ref t])) rfl (rest := [.ref t]) rfl (hb hbytes d41)
      have hh16 := q16.trans hh14
      have c17 : Steps p.tables e below (s₁.setTop (entryFrame m #[.ref x, .ref y] 3)) (T16.setTop (mkF m 44 #[.val (.ref x), .val (.ref y), .val (.ref y)] [.ref t', .ref t])) := c15.trans (st16 _ (Steps.refl _))
      obtain ⟨v18, T18, X18, E18, g18⟩ := X16.callS hexec (LEq.law l t V t' V') hown (wks W (staticW "java/lang/String" 541 LEq.yN)) (wk W LEq.tab) (W := 0) (Nat.le_of_ble_eq_true rfl) (Nat.le_of_ble_eq_true rfl) (Nat.le_refl _) (Nat.le_refl _) (g := (mkF m 44 #[.val (.ref x), .val (.ref y), .val (.ref y)] [.ref t', .ref t])) rfl (by rw [hml]; rfl) c17 (argsL := [.ref t, .ref t']) (rest := []) rfl rfl (by show 2 * 0 + 0 ≤ _; decide) (hb hbytes d44) (⟨rfl, hx.2.2.2.1.mv X16.warmed.alike hh16, hx.2.2.2.2.1.ty, hy.2.2.2.1.mv X16.warmed.alike hh16, hy.2.2.2.2.1.ty⟩)
      obtain ⟨v, rfl, q18, hv⟩ := E18
      have iff := Cod.eqv hx.2.2.2.2.1 hy.2.2.2.2.1 hx.2.2.2.2.2 hy.2.2.2.2.2
      rcases hv with ⟨rfl, he⟩ | ⟨rfl, he⟩
      · have c19 : Steps p.tables e below (s₁.setTop (entryFrame m #[.ref x, .ref y] 3)) (T18.setTop (mkF m 55 #[.val (.ref x), .val (.ref y), .val (.ref y)] [.int 1])) := Steps.trans g18 (by
          refine XS.ifNo X18.here hexec rfl (hb hbytes d47) rfl (i0_eq_f (by decide)) ?_
          refine iconstV X18.here hexec rfl 1 (hb hbytes d50) (by decide) ?_
          refine XS.goto X18.here hexec rfl (pc0 := 51) rfl (hb hbytes d51) (by decide) rfl ?_
          exact Steps.refl _)
        exact ⟨T18, some (.int 1), _, _, _, X18, rfl, rfl, rfl, (fun h => by cases h), ⟨1, rfl, q18.trans hh16, Or.inl ⟨rfl, iff.mp he⟩⟩, fun fs hl => c19.trans (X18.ireturnOut hexec hret rfl (Or.inr (Or.inl rfl)) (hb hbytes d55) hl)⟩
      · have c19 : Steps p.tables e below (s₁.setTop (entryFrame m #[.ref x, .ref y] 3)) (T18.setTop (mkF m 55 #[.val (.ref x), .val (.ref y), .val (.ref y)] [.int 0])) := Steps.trans g18 (by
          refine XS.ifYes X18.here hexec rfl (pc0 := 47) rfl (hb hbytes d47) rfl (i0_eq_t rfl) (by decide) rfl ?_
          refine iconstV X18.here hexec rfl 0 (hb hbytes d54) (by decide) ?_
          exact Steps.refl _)
        exact ⟨T18, some (.int 0), _, _, _, X18, rfl, rfl, rfl, (fun h => by cases h), ⟨0, rfl, q18.trans hh16, Or.inr ⟨rfl, fun q => he (iff.mpr q)⟩⟩, fun fs hl => c19.trans (X18.ireturnOut hexec hret rfl (Or.inr (Or.inl rfl)) (hb hbytes d55) hl)⟩
    · have c13 : Steps p.tables e below (s₁.setTop (entryFrame m #[.ref x, .ref y] 3)) (T11.setTop (mkF m 55 #[.val (.ref x), .val (.ref y), .val (.ref y)] [.int 0])) := c12.trans (by
        refine XS.icmpYes X11.here hexec rfl (pc0 := 33) rfl (hb hbytes d33) rfl (ii_ne_t hcd) (by decide) rfl ?_
        refine iconstV X11.here hexec rfl 0 (hb hbytes d54) (by decide) ?_
        exact Steps.refl _)
      exact ⟨T11, some (.int 0), _, _, _, X11, rfl, rfl, rfl, (fun h => by cases h), ⟨0, rfl, hh11, Or.inr ⟨rfl, Cod.dif hx.2.2.2.2.1 hy.2.2.2.2.1 hcd⟩⟩, fun fs hl => c13.trans (X11.ireturnOut hexec hret rfl (Or.inr (Or.inl rfl)) (hb hbytes d55) hl)⟩
theorem pays {l : Launch} {R : Room} {p : Program} {e : Env} {below : List Frame} {s : State} {sargs : Array Value} {len W : Nat} (x t : Addr) (V : Cell) (cd : Int32) (n : Nat) (f : Nat → Int32) (y t' : Addr) (V' : Cell) (cd' : Int32) (k : Nat) (g : Nat → Int32) (z : Int32) (htab : tab.before sargs s = true) (hfr : 2 ≤ R.frames) (hlo : W + 28 ≤ R.locals) :
    Back l R p e below s sargs yN len W (fun A₁ a₁ => A₁.cells + 0 ≤ R.cells ∧ A₁.slots + 0 ≤ R.slots ∧ P x t V cd n f y t' V' cd' k g z a₁ A₁.U) (fun A₁ _ v₁ B₁ => Says01 (SameT n f k g) v₁ A₁.U B₁.U ∧ B₁.locs = A₁.locs ++ [] ∧ B₁.cells = A₁.cells + 0 ∧ B₁.slots = A₁.slots + 0) :=
  (law l x t V cd n f y t' V' cd' k g z).pays htab hfr (by omega)
end SEq
end StrChars
namespace StrChars.Road
open Jvm Sem ClassFile Op Lib Jvm.Stand Jvm.Free Jvm.Free.XT
open Jvm.Lib.Cold (StaticIs)
/-- the words of String.equals(Object) -/
abbrev wordsEq : List Jvm.Cond := [.code SEq.yN SEq.yB 3 (some .boolean), .initialized ST, .classLink ST 10 ST, .fieldLink ST 38 ST "COMPACT_STRINGS" "Z", .fieldLink ST 15 ST "coder" "B", .fieldLink ST 9 ST "value" "[B", .methodLink ST 541 LEq.yN, .static LEq.yN, .code LEq.yN LEq.yB 3 (some .boolean), .initialized "java/lang/StringLatin1"]
theorem tabEq_of {a : Array Value} {s : State} (h : ∀ w ∈ wordsEq, w.before a s = true) : SEq.tab.before a s = true := by
  have hl : LEq.tab.before a s = true := unparts (wk h (.code LEq.yN LEq.yB 3 (some .boolean))) (wks h (.initialized LEq.yN.cls :: LEq.site))
  have q := consq hl h
  exact unparts (wk q (.code SEq.yN SEq.yB 3 (some .boolean))) (wks q (.initialized SEq.yN.cls :: SEq.site))
theorem movedEq {Z s : State} {a0 args : Array Value} (hZ : Z.Warmed39 s.vm) (hw : ∀ d ∈ wordsEq, d.before a0 Z = true) : ∀ d ∈ wordsEq, d.before args s = true := fun d hd => by
  have t : ∀ d ∈ wordsEq, (d.onTables && d.keepsFace) = true := by decide +kernel
  exact RoadKit.mv hZ (hw d hd) (t d hd)
/-- the road's facts of a String, as the laws ask it -/
theorem txt_of {Z U : State} {a0 : Array Value} {kI : Nat} (wi : (Jvm.Cond.instantiable ST kI).before a0 Z = true) (al : Z.vm.Alike U.vm) {x t : Addr} {kb : ClassId} {cs : List Int32} {cd N2 : Int32} {vs : List Value} (E : RoadKit.Exa Z U.heap x ST) (V : RoadKit.Fld Z U.heap x ST "value" "[B" (.ref t)) (C : RoadKit.Fld Z U.heap x ST "coder" "B" (.int cd)) (K : RoadKit.Arv Z U.heap t kb .byte N2 vs (.int 0)) (hc : CodA cs cd N2 vs) (hb : ∀ c ∈ cs, ¬ c < 0 ∧ ¬ (65535 : Int32) < c) (l2 : cs.length ≤ 4000) :
    ∃ A, Txt x t A cd cs.length (fun j => cs.getD j 0) U := by
  obtain ⟨A, K1, K2, K3, K4, K5, K6⟩ := K
  have hcod := hc.cod (by omega) K3 K5
  obtain ⟨D, fV, fC, hB, F1, F2, g1, g2, -, -⟩ := strObj wi al E V C
  exact ⟨A, ⟨_, hB.2.2.1, D, hB.1, rfl, by cases q : D.vm <;> first | rfl | exact absurd q (hB.2.1.2 _)⟩, Has.of hB F1 g1, Has.of hB F2 g2, ⟨K1.1, State.isArrayOf_alike al K1.2.1, K1.2.2, by rcases hcod with ⟨-, q, -⟩ | ⟨-, q, -⟩ <;> omega⟩, hcod, fun j hj => by
    have e : cs.getD j 0 = cs[j] := by simp [List.getD_eq_getElem?_getD, hj]
    show ¬ cs.getD j 0 < 0 ∧ ¬ 65535 < cs.getD j 0
    rw [e]; exact hb _ (List.getElem_mem _)⟩
theorem same_list (cs ds : List Int32) : SameT cs.length (fun j => cs.getD j 0) ds.length (fun j => ds.getD j 0) ↔ cs = ds := by
  constructor
  · rintro ⟨e, q⟩
    refine List.ext_getElem e fun j h1 h2 => ?_
    have := q j h1
    simpa [List.getD_eq_getElem?_getD, h1, h2] using this
  · rintro rfl
    exact ⟨rfl, fun _ _ => rfl⟩
/-- **equals(Object) OF TWO SUCH STRINGS**: 1 just where the chars are the same -/
theorem eqW {p : Program} {l : Launch} {e : Env} {R : Room} {s : State} {args : Array Value} {below : List Frame} {len W : Nat} {Z : State} {a0 : Array Value} {h : Heap} (hZ : Z.Warmed39 s.vm) (hw : ∀ d ∈ wordsEq, d.before a0 Z = true) {kI : Nat} (wi : (Jvm.Cond.instantiable ST kI).before a0 Z = true)
    {x t : Addr} {kb : ClassId} {cs : List Int32} {cd N2 : Int32} {vs : List Value} (E : RoadKit.Exa Z h x ST) (V : RoadKit.Fld Z h x ST "value" "[B" (.ref t)) (C : RoadKit.Fld Z h x ST "coder" "B" (.int cd)) (K : RoadKit.Arv Z h t kb .byte N2 vs (.int 0)) (hc : CodA cs cd N2 vs) (hb : ∀ c ∈ cs, ¬ c < 0 ∧ ¬ (65535 : Int32) < c) (l2 : cs.length ≤ 4000)
    {y t' : Addr} {kb' : ClassId} {ds : List Int32} {cd' N2' : Int32} {vs' : List Value} (E' : RoadKit.Exa Z h y ST) (V' : RoadKit.Fld Z h y ST "value" "[B" (.ref t')) (C' : RoadKit.Fld Z h y ST "coder" "B" (.int cd')) (K' : RoadKit.Arv Z h t' kb' .byte N2' vs' (.int 0)) (hc' : CodA ds cd' N2' vs') (hb' : ∀ c ∈ ds, ¬ c < 0 ∧ ¬ (65535 : Int32) < c) (l2' : ds.length ≤ 4000)
    {z : Int32} (S : RoadKit.Sta Z h ST "COMPACT_STRINGS" "Z" (.int z)) (hz : ¬ z = 0) (hfr : 2 ≤ R.frames) (hlo : W + 28 ≤ R.locals) :
    Back l R p e below s args (⟨"java/lang/String", "equals", "(Ljava/lang/Object;)Z"⟩ : MethodName) len W (fun P a => a = #[.ref x, .ref y] ∧ P.U.heap = h ∧ P.cells + 0 ≤ R.cells ∧ P.slots + 0 ≤ R.slots)
      (fun P _ v B => ∃ L, (((v = some (.int 1) ∧ cs = ds) ∨ (v = some (.int 0) ∧ ¬ cs = ds)) ∧ L = [] ∧ B.U.heap = h) ∧ B.locs = P.locs ++ L ∧ B.cells = P.cells + 0 ∧ B.slots = P.slots + 0) := by
  intro m meth c P g ig mk a X hg hsize hdg hW hn hp'
  obtain ⟨rfl, rfl, r1, r2⟩ := hp'
  have al : Z.vm.Alike P.U.vm := hZ.alike.trans X.warmed.alike
  obtain ⟨A, hx⟩ := txt_of wi al E V C K hc hb l2
  obtain ⟨A', hy⟩ := txt_of wi al E' V' C' K' hc' hb' l2'
  obtain ⟨v, B, X', ⟨⟨w, hv, hh, hq⟩, hl, hk, hs⟩, st⟩ := SEq.pays x t A cd cs.length (fun j => cs.getD j 0) y t' A' cd' ds.length (fun j => ds.getD j 0) z (tabEq_of (movedEq hZ hw)) hfr hlo m meth c P g ig mk _ X hg hsize hdg hW hn ⟨r1, r2, rfl, hx, hy, sta_is al S, hz⟩
  refine ⟨v, B, X', ⟨[], ⟨?_, rfl, hh⟩, hl, hk, hs⟩, st⟩
  rcases hq with ⟨rfl, q⟩ | ⟨rfl, q⟩
  · exact Or.inl ⟨hv, (same_list cs ds).mp q⟩
  · exact Or.inr ⟨hv, fun e => q ((same_list cs ds).mpr e)⟩
end StrChars.Road
namespace StrChars.Road
open Jvm Sem ClassFile Op Lib Jvm.Stand Jvm.Free Jvm.Free.XT
open Jvm.Lib.Cold (StaticIs)
/-- what backV says of its String, as the contracts of this text ask it: cs's low bytes, coder 0 -/
theorem codOf {cs : List Int32} {n : Nat} (hn : cs.length = n) (hb : ∀ c ∈ cs, ¬ 255 < c) : CodA cs 0 (Int32.ofNat n) ((cs.map lo8).map Value.int) := Or.inl ⟨rfl, by rw [hn], by simp [List.map_map, Function.comp_def], hb⟩
end StrChars.Road
end Jvm.Pilot.@@N@@
namespace Jvm.Pilot.@@N@@
open Jvm Jvm.ClassFile Sem Op Lib Jvm.Free Jvm.Stand Jvm.LawKit Jvm.RoadKit Bundle Jvm.Pilot.@@N@@.Jvm.D

namespace Own
open Jvm Jvm.ClassFile Sem Op Lib Jvm.Free Jvm.Stand Jvm.LawKit Jvm.RoadKit Bundle
abbrev Cx : Type := Program × Launch × Env × State × MethodId × Array Value × List Frame × Method × Code
abbrev Cx.p (X : Cx) : Program := X.1
abbrev Cx.l (X : Cx) : Launch := X.2.1
abbrev Cx.e (X : Cx) : Env := X.2.2.1
abbrev Cx.s (X : Cx) : State := X.2.2.2.1
abbrev Cx.m (X : Cx) : MethodId := X.2.2.2.2.1
abbrev Cx.args (X : Cx) : Array Value := X.2.2.2.2.2.1
abbrev Cx.below (X : Cx) : List Frame := X.2.2.2.2.2.2.1
abbrev Cx.meth (X : Cx) : Method := X.2.2.2.2.2.2.2.1
abbrev Cx.c (X : Cx) : Code := X.2.2.2.2.2.2.2.2
abbrev Rm (f k s l : Nat) : Room := { frames := f, cells := k, slots := s, locals := l }
/-- what never changes in one activation -/
def Fix (X : Cx) (Z : State) (a0 : Array Value) (EL : List (String × Nat)) (y : MethodName) (bs : ByteArray) (ml : Nat) (rt : Option FieldType) : Prop :=
  X.p.tables.exec = Jvm.exec ∧ X.c.code = bs ∧ X.c.maxLocals = ml ∧ X.meth.sig.returnType = rt ∧ X.meth.name = y.name ∧ X.meth.locks = false ∧ EW Z a0 EL
/-- where the walk stands: heap h, at most k cells and n slots made; sf: addresses that no booked literal lives at -/
def Spot (X : Cx) (R : Room) (Z : State) (a0 : Array Value) (EL : List (String × Nat)) (nw : Bool) (y : MethodName) (bs : ByteArray) (ml : Nat) (rt : Option FieldType) (sf : List Addr) (T : State) (h : Heap) (k n : Nat) : Prop :=
  Fix X Z a0 EL y bs ml rt ∧
  ∃ (vm0 : Vm) (L : List Loc), Stand X.p X.l X.e R (X.s.setVm vm0) X.m X.args X.below X.meth X.c T L k n ∧ T.heap = h ∧ X.s.Since vm0 h.size ∧ Z.Warmed39 vm0 ∧ vm0.findClass y.cls = some X.m.cls ∧ CHr Z EL X.s.vm X.s.heap vm0 h ∧ Fr Z.heap.size L ∧ Ext Z.heap h ∧ (∀ x ∈ sf, x < h.size ∧ Safe Z EL vm0 h x) ∧ (nw = true → X.s.WarmedH vm0)
def Done (X : Cx) (Z : State) (EL : List (String × Nat)) (nw : Bool) (Q : Option Value → Heap → Prop) (kc ks : Nat) (T : State) (g : JFrame) : Prop :=
  ∃ s₂ o, Steps X.p.tables X.e X.below (T.setTop g) s₂ ∧ s₂.status = .running ∧ Ended s₂ X.below o ∧ ∃ v L, o = .returned v ∧ (Q v s₂.heap ∧ Fr Z.heap.size L ∧ Ext Z.heap s₂.heap) ∧ CHr Z EL X.s.vm X.s.heap s₂.vm s₂.heap ∧ (nw = true → X.s.WarmedH s₂.vm) ∧ ReturnedEndW X.s o s₂ L kc ks
/-- from every state that stands so, the frame g runs to a return that Q allows -/
def Go (X : Cx) (R : Room) (Z : State) (a0 : Array Value) (EL : List (String × Nat)) (nw : Bool) (y : MethodName) (bs : ByteArray) (ml : Nat) (rt : Option FieldType) (Q : Option Value → Heap → Prop) (kc ks : Nat) (sf : List Addr) (h : Heap) (k n : Nat) (g : JFrame) : Prop :=
  ∀ T, Spot X R Z a0 EL nw y bs ml rt sf T h k n → Done X Z EL nw Q kc ks T g
section Kit
variable {X : Cx} {R : Room} {Z : State} {a0 : Array Value} {EL : List (String × Nat)} {nw : Bool} {y : MethodName} {bs : ByteArray} {ml : Nat} {rt : Option FieldType} {Q : Option Value → Heap → Prop} {kc ks : Nat} {sf sf' : List Addr} {h h' : Heap} {k n k' n' : Nat} {pc pc' pc2 : Nat} {Ls Ls' : Array Slot} {st : List Value} {g g' : JFrame} {T T' : State}
theorem acmp_eq (v w : Value) : XT.acmp .eq v w = decide (v = w) := rfl
theorem acmp_ne (v w : Value) : XT.acmp .ne v w = decide (v ≠ w) := rfl
theorem ble {a b : Nat} (q : Nat.ble a b = true) : a ≤ b := Nat.le_of_ble_eq_true q
theorem Done.back (st : ∀ t, Steps X.p.tables X.e X.below (T'.setTop g') t → Steps X.p.tables X.e X.below (T.setTop g) t) (D : Done X Z EL nw Q kc ks T' g') : Done X Z EL nw Q kc ks T g := by
  obtain ⟨s₂, o, h1, r⟩ := D
  exact ⟨s₂, o, st _ h1, r⟩
theorem Spot.mono (S : Spot X R Z a0 EL nw y bs ml rt sf T h k n) (hk : k ≤ k') (hn : n ≤ n') (hs : ∀ x ∈ sf', x ∈ sf) : Spot X R Z a0 EL nw y bs ml rt sf' T h k' n' := by
  obtain ⟨F, vm0, L, X1, r1, r2, r3, r4, r5, r6, r7, r8, r9⟩ := S
  exact ⟨F, vm0, L, X1.mono hk hn, r1, r2, r3, r4, r5, r6, r7, fun x hx => r8 x (hs x hx), r9⟩
theorem Go.mono (k' n' : Nat) (hk : Nat.ble k k' = true) (hn : Nat.ble n n' = true) (G : Go X R Z a0 EL nw y bs ml rt Q kc ks sf h k' n' g) : Go X R Z a0 EL nw y bs ml rt Q kc ks sf h k n g := fun T S => G T (S.mono (ble hk) (ble hn) fun _ q => q)
theorem Go.drop (G : Go X R Z a0 EL nw y bs ml rt Q kc ks [] h k n g) : Go X R Z a0 EL nw y bs ml rt Q kc ks sf h k n g := fun T S => G T (S.mono (Nat.le_refl _) (Nat.le_refl _) fun _ q => nomatch q)
theorem Go.step (st : ∀ T t, At T X.m X.c X.below → X.p.tables.exec = Jvm.exec → X.c.code = bs → Steps X.p.tables X.e X.below (T.setTop g') t → Steps X.p.tables X.e X.below (T.setTop g) t) (G : Go X R Z a0 EL nw y bs ml rt Q kc ks sf h k n g') : Go X R Z a0 EL nw y bs ml rt Q kc ks sf h k n g := fun T S => by
  have S' := S
  obtain ⟨⟨hx, hc, -⟩, vm0, L, X1, -⟩ := S'
  exact (G T S).back fun t q => st T t X1.here hx hc q
/-- what is known of the tables at hand, for a step that wants more -/
theorem Go.look (G : ∀ vm0, Z.Warmed39 vm0 → CHv Z EL vm0 h → Ext Z.heap h → (∀ x ∈ sf, x < h.size ∧ Safe Z EL vm0 h x) → Go X R Z a0 EL nw y bs ml rt Q kc ks sf h k n g) : Go X R Z a0 EL nw y bs ml rt Q kc ks sf h k n g := fun T S => by
  have S' := S
  obtain ⟨-, vm0, L, -, -, -, hZ, -, hC, -, hE, hs, -⟩ := S'
  exact G vm0 hZ hC.1 hE hs T S
/-- the statics and the old cells stand -/
theorem Go.old (G : Ext Z.heap h → Go X R Z a0 EL nw y bs ml rt Q kc ks sf h k n g) : Go X R Z a0 EL nw y bs ml rt Q kc ks sf h k n g := Go.look fun _ _ _ E _ => G E
theorem g_aloadN {i : Fin 4} {v : Value} (hd : decode bs pc = .ok (.aload_n i, 1)) (hp : pc + 1 = pc') (hv : Ls[i.val]? = some (.val v)) (hr : v.isRef = true) (G : Go X R Z a0 EL nw y bs ml rt Q kc ks sf h k n (mkF X.m pc' Ls (v :: st))) : Go X R Z a0 EL nw y bs ml rt Q kc ks sf h k n (mkF X.m pc Ls (st)) := by
  subst hp
  exact Go.step (fun T t hT hx hc q => XS.aloadN hT hx rfl (hb hc hd) hv hr q) G
theorem g_aload {i : Nat} {v : Value} (hd : decode bs pc = .ok (.aload i, 2)) (hp : pc + 2 = pc') (hv : Ls[i]? = some (.val v)) (hr : v.isRef = true) (G : Go X R Z a0 EL nw y bs ml rt Q kc ks sf h k n (mkF X.m pc' Ls (v :: st))) : Go X R Z a0 EL nw y bs ml rt Q kc ks sf h k n (mkF X.m pc Ls (st)) := by
  subst hp
  exact Go.step (fun T t hT hx hc q => XS.aload hT hx rfl (hb hc hd) hv hr q) G
theorem g_iloadN {i : Fin 4} {v : Int32} (hd : decode bs pc = .ok (.iload_n i, 1)) (hp : pc + 1 = pc') (hv : Ls[i.val]? = some (.val (.int v))) (G : Go X R Z a0 EL nw y bs ml rt Q kc ks sf h k n (mkF X.m pc' Ls (.int v :: st))) : Go X R Z a0 EL nw y bs ml rt Q kc ks sf h k n (mkF X.m pc Ls (st)) := by
  subst hp
  exact Go.step (fun T t hT hx hc q => XS.iloadN hT hx rfl (hb hc hd) hv q) G
theorem g_iload {i : Nat} {v : Int32} (hd : decode bs pc = .ok (.iload i, 2)) (hp : pc + 2 = pc') (hv : Ls[i]? = some (.val (.int v))) (G : Go X R Z a0 EL nw y bs ml rt Q kc ks sf h k n (mkF X.m pc' Ls (.int v :: st))) : Go X R Z a0 EL nw y bs ml rt Q kc ks sf h k n (mkF X.m pc Ls (st)) := by
  subst hp
  exact Go.step (fun T t hT hx hc q => XS.iload hT hx rfl (hb hc hd) hv q) G
theorem g_lloadN {i : Fin 4} {v : Int64} (hd : decode bs pc = .ok (.lload_n i, 1)) (hp : pc + 1 = pc') (hv : Ls[i.val]? = some (.val (.long v))) (G : Go X R Z a0 EL nw y bs ml rt Q kc ks sf h k n (mkF X.m pc' Ls (.long v :: st))) : Go X R Z a0 EL nw y bs ml rt Q kc ks sf h k n (mkF X.m pc Ls (st)) := by
  subst hp
  exact Go.step (fun T t hT hx hc q => XS.lloadN hT hx rfl (hb hc hd) hv q) G
theorem g_lload {i : Nat} {v : Int64} (hd : decode bs pc = .ok (.lload i, 2)) (hp : pc + 2 = pc') (hv : Ls[i]? = some (.val (.long v))) (G : Go X R Z a0 EL nw y bs ml rt Q kc ks sf h k n (mkF X.m pc' Ls (.long v :: st))) : Go X R Z a0 EL nw y bs ml rt Q kc ks sf h k n (mkF X.m pc Ls (st)) := by
  subst hp
  exact Go.step (fun T t hT hx hc q => XS.lload hT hx rfl (hb hc hd) hv q) G
theorem g_iconst {i : Int} {w : Int32} (hd : decode bs pc = .ok (.iconst i, 1)) (hp : pc + 1 = pc') (hw : Int32.ofInt i = w) (G : Go X R Z a0 EL nw y bs ml rt Q kc ks sf h k n (mkF X.m pc' Ls (.int w :: st))) : Go X R Z a0 EL nw y bs ml rt Q kc ks sf h k n (mkF X.m pc Ls st) := by
  subst hp hw
  exact Go.step (fun T t hT hx hc q => XS.iconst hT hx rfl (hb hc hd) q) G
theorem g_bipush {i : Int} {w : Int32} (hd : decode bs pc = .ok (.bipush i, 2)) (hp : pc + 2 = pc') (hw : (Int8.ofInt i).toInt32 = w) (G : Go X R Z a0 EL nw y bs ml rt Q kc ks sf h k n (mkF X.m pc' Ls (.int w :: st))) : Go X R Z a0 EL nw y bs ml rt Q kc ks sf h k n (mkF X.m pc Ls st) := by
  subst hp hw
  exact Go.step (fun T t hT hx hc q => XS.bipush hT hx rfl (hb hc hd) q) G
theorem g_sipush {i : Int} {w : Int32} (hd : decode bs pc = .ok (.sipush i, 3)) (hp : pc + 3 = pc') (hw : (Int16.ofInt i).toInt32 = w) (G : Go X R Z a0 EL nw y bs ml rt Q kc ks sf h k n (mkF X.m pc' Ls (.int w :: st))) : Go X R Z a0 EL nw y bs ml rt Q kc ks sf h k n (mkF X.m pc Ls st) := by
  subst hp hw
  exact Go.step (fun T t hT hx hc q => XS.sipush hT hx rfl (hb hc hd) q) G
theorem g_lconst {i : Fin 2} {w : Int64} (hd : decode bs pc = .ok (.lconst i, 1)) (hp : pc + 1 = pc') (hw : Int64.ofNat i = w) (G : Go X R Z a0 EL nw y bs ml rt Q kc ks sf h k n (mkF X.m pc' Ls (.long w :: st))) : Go X R Z a0 EL nw y bs ml rt Q kc ks sf h k n (mkF X.m pc Ls st) := by
  subst hp hw
  exact Go.step (fun T t hT hx hc q => XS.lconst hT hx rfl (hb hc hd) q) G
theorem g_aconst_null  (hd : decode bs pc = .ok (.aconst_null, 1)) (hp : pc + 1 = pc')  (G : Go X R Z a0 EL nw y bs ml rt Q kc ks sf h k n (mkF X.m pc' Ls (.null :: st))) : Go X R Z a0 EL nw y bs ml rt Q kc ks sf h k n (mkF X.m pc Ls (st)) := by
  subst hp
  exact Go.step (fun T t hT hx hc q => XS.aconstNull hT hx rfl (hb hc hd)  q) G
theorem g_iadd {x1 x2 : Int32} (hd : decode bs pc = .ok (.iadd, 1)) (hp : pc + 1 = pc')  (G : Go X R Z a0 EL nw y bs ml rt Q kc ks sf h k n (mkF X.m pc' Ls (.int (x1 + x2) :: st))) : Go X R Z a0 EL nw y bs ml rt Q kc ks sf h k n (mkF X.m pc Ls (.int x2 :: .int x1 :: st)) := by
  subst hp
  exact Go.step (fun T t hT hx hc q => XS.iadd hT hx rfl (hb hc hd) rfl  q) G
theorem g_isub {x1 x2 : Int32} (hd : decode bs pc = .ok (.isub, 1)) (hp : pc + 1 = pc')  (G : Go X R Z a0 EL nw y bs ml rt Q kc ks sf h k n (mkF X.m pc' Ls (.int (x1 - x2) :: st))) : Go X R Z a0 EL nw y bs ml rt Q kc ks sf h k n (mkF X.m pc Ls (.int x2 :: .int x1 :: st)) := by
  subst hp
  exact Go.step (fun T t hT hx hc q => XS.isub hT hx rfl (hb hc hd) rfl  q) G
theorem g_imul {x1 x2 : Int32} (hd : decode bs pc = .ok (.imul, 1)) (hp : pc + 1 = pc')  (G : Go X R Z a0 EL nw y bs ml rt Q kc ks sf h k n (mkF X.m pc' Ls (.int (x1 * x2) :: st))) : Go X R Z a0 EL nw y bs ml rt Q kc ks sf h k n (mkF X.m pc Ls (.int x2 :: .int x1 :: st)) := by
  subst hp
  exact Go.step (fun T t hT hx hc q => XS.imul hT hx rfl (hb hc hd) rfl  q) G
theorem g_iand {x1 x2 : Int32} (hd : decode bs pc = .ok (.iand, 1)) (hp : pc + 1 = pc')  (G : Go X R Z a0 EL nw y bs ml rt Q kc ks sf h k n (mkF X.m pc' Ls (.int (x1 &&& x2) :: st))) : Go X R Z a0 EL nw y bs ml rt Q kc ks sf h k n (mkF X.m pc Ls (.int x2 :: .int x1 :: st)) := by
  subst hp
  exact Go.step (fun T t hT hx hc q => XS.iand hT hx rfl (hb hc hd) rfl  q) G
theorem g_ior {x1 x2 : Int32} (hd : decode bs pc = .ok (.ior, 1)) (hp : pc + 1 = pc')  (G : Go X R Z a0 EL nw y bs ml rt Q kc ks sf h k n (mkF X.m pc' Ls (.int (x1 ||| x2) :: st))) : Go X R Z a0 EL nw y bs ml rt Q kc ks sf h k n (mkF X.m pc Ls (.int x2 :: .int x1 :: st)) := by
  subst hp
  exact Go.step (fun T t hT hx hc q => XS.ior hT hx rfl (hb hc hd) rfl  q) G
theorem g_ixor {x1 x2 : Int32} (hd : decode bs pc = .ok (.ixor, 1)) (hp : pc + 1 = pc')  (G : Go X R Z a0 EL nw y bs ml rt Q kc ks sf h k n (mkF X.m pc' Ls (.int (x1 ^^^ x2) :: st))) : Go X R Z a0 EL nw y bs ml rt Q kc ks sf h k n (mkF X.m pc Ls (.int x2 :: .int x1 :: st)) := by
  subst hp
  exact Go.step (fun T t hT hx hc q => XS.ixor hT hx rfl (hb hc hd) rfl  q) G
theorem g_ishl {x1 x2 : Int32} (hd : decode bs pc = .ok (.ishl, 1)) (hp : pc + 1 = pc')  (G : Go X R Z a0 EL nw y bs ml rt Q kc ks sf h k n (mkF X.m pc' Ls (.int (x1 <<< (x2 &&& 31)) :: st))) : Go X R Z a0 EL nw y bs ml rt Q kc ks sf h k n (mkF X.m pc Ls (.int x2 :: .int x1 :: st)) := by
  subst hp
  exact Go.step (fun T t hT hx hc q => XS.ishl hT hx rfl (hb hc hd) rfl  q) G
theorem g_ishr {x1 x2 : Int32} (hd : decode bs pc = .ok (.ishr, 1)) (hp : pc + 1 = pc')  (G : Go X R Z a0 EL nw y bs ml rt Q kc ks sf h k n (mkF X.m pc' Ls (.int (x1 >>> (x2 &&& 31)) :: st))) : Go X R Z a0 EL nw y bs ml rt Q kc ks sf h k n (mkF X.m pc Ls (.int x2 :: .int x1 :: st)) := by
  subst hp
  exact Go.step (fun T t hT hx hc q => XS.ishr hT hx rfl (hb hc hd) rfl  q) G
theorem g_iushr {x1 x2 : Int32} (hd : decode bs pc = .ok (.iushr, 1)) (hp : pc + 1 = pc')  (G : Go X R Z a0 EL nw y bs ml rt Q kc ks sf h k n (mkF X.m pc' Ls (.int (x1.toUInt32 >>> (x2 &&& 31).toUInt32).toInt32 :: st))) : Go X R Z a0 EL nw y bs ml rt Q kc ks sf h k n (mkF X.m pc Ls (.int x2 :: .int x1 :: st)) := by
  subst hp
  exact Go.step (fun T t hT hx hc q => XS.iushr hT hx rfl (hb hc hd) rfl  q) G
theorem g_idiv {x1 x2 : Int32} (hd : decode bs pc = .ok (.idiv, 1)) (hp : pc + 1 = pc') (hy : x2 ≠ 0) (G : Go X R Z a0 EL nw y bs ml rt Q kc ks sf h k n (mkF X.m pc' Ls (.int (x1 / x2) :: st))) : Go X R Z a0 EL nw y bs ml rt Q kc ks sf h k n (mkF X.m pc Ls (.int x2 :: .int x1 :: st)) := by
  subst hp
  exact Go.step (fun T t hT hx hc q => XS.idiv hT hx rfl (hb hc hd) rfl hy q) G
theorem g_ladd {x1 x2 : Int64} (hd : decode bs pc = .ok (.ladd, 1)) (hp : pc + 1 = pc')  (G : Go X R Z a0 EL nw y bs ml rt Q kc ks sf h k n (mkF X.m pc' Ls (.long (x1 + x2) :: st))) : Go X R Z a0 EL nw y bs ml rt Q kc ks sf h k n (mkF X.m pc Ls (.long x2 :: .long x1 :: st)) := by
  subst hp
  exact Go.step (fun T t hT hx hc q => XS.ladd hT hx rfl (hb hc hd) rfl  q) G
theorem g_lsub {x1 x2 : Int64} (hd : decode bs pc = .ok (.lsub, 1)) (hp : pc + 1 = pc')  (G : Go X R Z a0 EL nw y bs ml rt Q kc ks sf h k n (mkF X.m pc' Ls (.long (x1 - x2) :: st))) : Go X R Z a0 EL nw y bs ml rt Q kc ks sf h k n (mkF X.m pc Ls (.long x2 :: .long x1 :: st)) := by
  subst hp
  exact Go.step (fun T t hT hx hc q => XS.lsub hT hx rfl (hb hc hd) rfl  q) G
theorem g_lmul {x1 x2 : Int64} (hd : decode bs pc = .ok (.lmul, 1)) (hp : pc + 1 = pc')  (G : Go X R Z a0 EL nw y bs ml rt Q kc ks sf h k n (mkF X.m pc' Ls (.long (x1 * x2) :: st))) : Go X R Z a0 EL nw y bs ml rt Q kc ks sf h k n (mkF X.m pc Ls (.long x2 :: .long x1 :: st)) := by
  subst hp
  exact Go.step (fun T t hT hx hc q => XS.lmul hT hx rfl (hb hc hd) rfl  q) G
theorem g_land {x1 x2 : Int64} (hd : decode bs pc = .ok (.land, 1)) (hp : pc + 1 = pc')  (G : Go X R Z a0 EL nw y bs ml rt Q kc ks sf h k n (mkF X.m pc' Ls (.long (x1 &&& x2) :: st))) : Go X R Z a0 EL nw y bs ml rt Q kc ks sf h k n (mkF X.m pc Ls (.long x2 :: .long x1 :: st)) := by
  subst hp
  exact Go.step (fun T t hT hx hc q => XS.land hT hx rfl (hb hc hd) rfl  q) G
theorem g_lor {x1 x2 : Int64} (hd : decode bs pc = .ok (.lor, 1)) (hp : pc + 1 = pc')  (G : Go X R Z a0 EL nw y bs ml rt Q kc ks sf h k n (mkF X.m pc' Ls (.long (x1 ||| x2) :: st))) : Go X R Z a0 EL nw y bs ml rt Q kc ks sf h k n (mkF X.m pc Ls (.long x2 :: .long x1 :: st)) := by
  subst hp
  exact Go.step (fun T t hT hx hc q => XS.lor hT hx rfl (hb hc hd) rfl  q) G
theorem g_ldiv {x1 x2 : Int64} (hd : decode bs pc = .ok (.ldiv, 1)) (hp : pc + 1 = pc') (hy : x2 ≠ 0) (G : Go X R Z a0 EL nw y bs ml rt Q kc ks sf h k n (mkF X.m pc' Ls (.long (x1 / x2) :: st))) : Go X R Z a0 EL nw y bs ml rt Q kc ks sf h k n (mkF X.m pc Ls (.long x2 :: .long x1 :: st)) := by
  subst hp
  exact Go.step (fun T t hT hx hc q => XS.ldiv hT hx rfl (hb hc hd) rfl hy q) G
theorem g_lcmp {x1 x2 : Int64} (hd : decode bs pc = .ok (.lcmp, 1)) (hp : pc + 1 = pc')  (G : Go X R Z a0 EL nw y bs ml rt Q kc ks sf h k n (mkF X.m pc' Ls (.int (lcmpW x1 x2) :: st))) : Go X R Z a0 EL nw y bs ml rt Q kc ks sf h k n (mkF X.m pc Ls (.long x2 :: .long x1 :: st)) := by
  subst hp
  exact Go.step (fun T t hT hx hc q => XS.lcmp hT hx rfl (hb hc hd) rfl  q) G
theorem g_lshl {x1 : Int64} {x2 : Int32} (hd : decode bs pc = .ok (.lshl, 1)) (hp : pc + 1 = pc')  (G : Go X R Z a0 EL nw y bs ml rt Q kc ks sf h k n (mkF X.m pc' Ls (.long (x1 <<< (x2 &&& 63).toInt64) :: st))) : Go X R Z a0 EL nw y bs ml rt Q kc ks sf h k n (mkF X.m pc Ls (.int x2 :: .long x1 :: st)) := by
  subst hp
  exact Go.step (fun T t hT hx hc q => XS.lshl hT hx rfl (hb hc hd) rfl q) G
theorem g_lshr {x1 : Int64} {x2 : Int32} (hd : decode bs pc = .ok (.lshr, 1)) (hp : pc + 1 = pc')  (G : Go X R Z a0 EL nw y bs ml rt Q kc ks sf h k n (mkF X.m pc' Ls (.long (x1 >>> (x2 &&& 63).toInt64) :: st))) : Go X R Z a0 EL nw y bs ml rt Q kc ks sf h k n (mkF X.m pc Ls (.int x2 :: .long x1 :: st)) := by
  subst hp
  exact Go.step (fun T t hT hx hc q => XS.lshr hT hx rfl (hb hc hd) rfl q) G
theorem g_lushr {x1 : Int64} {x2 : Int32} (hd : decode bs pc = .ok (.lushr, 1)) (hp : pc + 1 = pc')  (G : Go X R Z a0 EL nw y bs ml rt Q kc ks sf h k n (mkF X.m pc' Ls (.long ((x1.toUInt64 >>> (x2 &&& 63).toInt64.toUInt64).toInt64) :: st))) : Go X R Z a0 EL nw y bs ml rt Q kc ks sf h k n (mkF X.m pc Ls (.int x2 :: .long x1 :: st)) := by
  subst hp
  exact Go.step (fun T t hT hx hc q => XS.lushr hT hx rfl (hb hc hd) rfl q) G
theorem g_irem {x1 x2 : Int32} (hd : decode bs pc = .ok (.irem, 1)) (hp : pc + 1 = pc') (hy : x2 ≠ 0) (G : Go X R Z a0 EL nw y bs ml rt Q kc ks sf h k n (mkF X.m pc' Ls (.int (x1 % x2) :: st))) : Go X R Z a0 EL nw y bs ml rt Q kc ks sf h k n (mkF X.m pc Ls (.int x2 :: .int x1 :: st)) := by
  subst hp
  exact Go.step (fun T t hT hx hc q => XS.irem hT hx rfl (hb hc hd) rfl hy (by rw [irem_eq_mod]; exact q)) G
theorem g_lrem {x1 x2 : Int64} (hd : decode bs pc = .ok (.lrem, 1)) (hp : pc + 1 = pc') (hy : x2 ≠ 0) (G : Go X R Z a0 EL nw y bs ml rt Q kc ks sf h k n (mkF X.m pc' Ls (.long (x1 - (x1 / x2) * x2) :: st))) : Go X R Z a0 EL nw y bs ml rt Q kc ks sf h k n (mkF X.m pc Ls (.long x2 :: .long x1 :: st)) := by
  subst hp
  exact Go.step (fun T t hT hx hc q => XS.lrem hT hx rfl (hb hc hd) rfl hy q) G
theorem g_ineg {x1 : Int32} (hd : decode bs pc = .ok (.ineg, 1)) (hp : pc + 1 = pc')  (G : Go X R Z a0 EL nw y bs ml rt Q kc ks sf h k n (mkF X.m pc' Ls (.int (-x1) :: st))) : Go X R Z a0 EL nw y bs ml rt Q kc ks sf h k n (mkF X.m pc Ls (.int x1 :: st)) := by
  subst hp
  exact Go.step (fun T t hT hx hc q => XS.ineg hT hx rfl (hb hc hd) rfl q) G
theorem g_lneg {x1 : Int64} (hd : decode bs pc = .ok (.lneg, 1)) (hp : pc + 1 = pc')  (G : Go X R Z a0 EL nw y bs ml rt Q kc ks sf h k n (mkF X.m pc' Ls (.long (-x1) :: st))) : Go X R Z a0 EL nw y bs ml rt Q kc ks sf h k n (mkF X.m pc Ls (.long x1 :: st)) := by
  subst hp
  exact Go.step (fun T t hT hx hc q => XS.lneg hT hx rfl (hb hc hd) rfl q) G
theorem g_i2l {x1 : Int32} (hd : decode bs pc = .ok (.i2l, 1)) (hp : pc + 1 = pc')  (G : Go X R Z a0 EL nw y bs ml rt Q kc ks sf h k n (mkF X.m pc' Ls (.long (x1.toInt64) :: st))) : Go X R Z a0 EL nw y bs ml rt Q kc ks sf h k n (mkF X.m pc Ls (.int x1 :: st)) := by
  subst hp
  exact Go.step (fun T t hT hx hc q => XS.i2l hT hx rfl (hb hc hd) rfl q) G
theorem g_l2i {x1 : Int64} (hd : decode bs pc = .ok (.l2i, 1)) (hp : pc + 1 = pc')  (G : Go X R Z a0 EL nw y bs ml rt Q kc ks sf h k n (mkF X.m pc' Ls (.int (x1.toInt32) :: st))) : Go X R Z a0 EL nw y bs ml rt Q kc ks sf h k n (mkF X.m pc Ls (.long x1 :: st)) := by
  subst hp
  exact Go.step (fun T t hT hx hc q => XS.l2i hT hx rfl (hb hc hd) rfl q) G
theorem g_i2b {x1 : Int32} (hd : decode bs pc = .ok (.i2b, 1)) (hp : pc + 1 = pc')  (G : Go X R Z a0 EL nw y bs ml rt Q kc ks sf h k n (mkF X.m pc' Ls (.int (x1.toInt8.toInt32) :: st))) : Go X R Z a0 EL nw y bs ml rt Q kc ks sf h k n (mkF X.m pc Ls (.int x1 :: st)) := by
  subst hp
  exact Go.step (fun T t hT hx hc q => XS.i2b hT hx rfl (hb hc hd) rfl q) G
theorem g_i2c {x1 : Int32} (hd : decode bs pc = .ok (.i2c, 1)) (hp : pc + 1 = pc')  (G : Go X R Z a0 EL nw y bs ml rt Q kc ks sf h k n (mkF X.m pc' Ls (.int (x1.toUInt32.toUInt16.toUInt32.toInt32) :: st))) : Go X R Z a0 EL nw y bs ml rt Q kc ks sf h k n (mkF X.m pc Ls (.int x1 :: st)) := by
  subst hp
  exact Go.step (fun T t hT hx hc q => XS.i2c hT hx rfl (hb hc hd) rfl q) G
theorem g_i2s {x1 : Int32} (hd : decode bs pc = .ok (.i2s, 1)) (hp : pc + 1 = pc')  (G : Go X R Z a0 EL nw y bs ml rt Q kc ks sf h k n (mkF X.m pc' Ls (.int (x1.toInt16.toInt32) :: st))) : Go X R Z a0 EL nw y bs ml rt Q kc ks sf h k n (mkF X.m pc Ls (.int x1 :: st)) := by
  subst hp
  exact Go.step (fun T t hT hx hc q => XS.i2s hT hx rfl (hb hc hd) rfl q) G
theorem g_dup {x1 : Value} (hd : decode bs pc = .ok (.dup, 1)) (hp : pc + 1 = pc') (hc1 : x1.category = 1) (G : Go X R Z a0 EL nw y bs ml rt Q kc ks sf h k n (mkF X.m pc' Ls (x1 :: x1 :: st))) : Go X R Z a0 EL nw y bs ml rt Q kc ks sf h k n (mkF X.m pc Ls (x1 :: st)) := by
  subst hp
  exact Go.step (fun T t hT hx hc q => XS.dup hT hx rfl (hb hc hd) rfl hc1 q) G
theorem g_pop {x1 : Value} (hd : decode bs pc = .ok (.pop, 1)) (hp : pc + 1 = pc') (hc1 : x1.category = 1) (G : Go X R Z a0 EL nw y bs ml rt Q kc ks sf h k n (mkF X.m pc' Ls (st))) : Go X R Z a0 EL nw y bs ml rt Q kc ks sf h k n (mkF X.m pc Ls (x1 :: st)) := by
  subst hp
  exact Go.step (fun T t hT hx hc q => XS.pop hT hx rfl (hb hc hd) rfl hc1 q) G
theorem g_dup_x1 {x1 x2 : Value} (hd : decode bs pc = .ok (.dup_x1, 1)) (hp : pc + 1 = pc') (hc1 : x1.category = 1) (hc2 : x2.category = 1) (G : Go X R Z a0 EL nw y bs ml rt Q kc ks sf h k n (mkF X.m pc' Ls (x1 :: x2 :: x1 :: st))) : Go X R Z a0 EL nw y bs ml rt Q kc ks sf h k n (mkF X.m pc Ls (x1 :: x2 :: st)) := by
  subst hp
  exact Go.step (fun T t hT hx hc q => XT.dupX1 hT hx rfl (hb hc hd) rfl hc1 hc2 q) G
theorem g_dup2 {x1 x2 : Value} (hd : decode bs pc = .ok (.dup2, 1)) (hp : pc + 1 = pc') (hc1 : x1.category = 1) (hc2 : x2.category = 1) (G : Go X R Z a0 EL nw y bs ml rt Q kc ks sf h k n (mkF X.m pc' Ls (x1 :: x2 :: x1 :: x2 :: st))) : Go X R Z a0 EL nw y bs ml rt Q kc ks sf h k n (mkF X.m pc Ls (x1 :: x2 :: st)) := by
  subst hp
  exact Go.step (fun T t hT hx hc q => XT.dup2 hT hx rfl (hb hc hd) rfl hc1 hc2 q) G
theorem g_istoreN {i : Fin 4} {x1 : Int32} (hd : decode bs pc = .ok (.istore_n i, 1)) (hp : pc + 1 = pc') (hl : storeLocals Ls i.val (.int x1) = some Ls') (G : Go X R Z a0 EL nw y bs ml rt Q kc ks sf h k n (mkF X.m pc' Ls' (st))) : Go X R Z a0 EL nw y bs ml rt Q kc ks sf h k n (mkF X.m pc Ls (.int x1 :: st)) := by
  subst hp
  exact Go.step (fun T t hT hx hc q => XS.istoreN hT hx rfl (hb hc hd) rfl hl q) G
theorem g_istore {i : Nat} {x1 : Int32} (hd : decode bs pc = .ok (.istore i, 2)) (hp : pc + 2 = pc') (hl : storeLocals Ls i (.int x1) = some Ls') (G : Go X R Z a0 EL nw y bs ml rt Q kc ks sf h k n (mkF X.m pc' Ls' (st))) : Go X R Z a0 EL nw y bs ml rt Q kc ks sf h k n (mkF X.m pc Ls (.int x1 :: st)) := by
  subst hp
  exact Go.step (fun T t hT hx hc q => XS.istore hT hx rfl (hb hc hd) rfl hl q) G
theorem g_lstoreN {i : Fin 4} {x1 : Int64} (hd : decode bs pc = .ok (.lstore_n i, 1)) (hp : pc + 1 = pc') (hl : storeLocals Ls i.val (.long x1) = some Ls') (G : Go X R Z a0 EL nw y bs ml rt Q kc ks sf h k n (mkF X.m pc' Ls' (st))) : Go X R Z a0 EL nw y bs ml rt Q kc ks sf h k n (mkF X.m pc Ls (.long x1 :: st)) := by
  subst hp
  exact Go.step (fun T t hT hx hc q => XS.lstoreN hT hx rfl (hb hc hd) rfl hl q) G
theorem g_lstore {i : Nat} {x1 : Int64} (hd : decode bs pc = .ok (.lstore i, 2)) (hp : pc + 2 = pc') (hl : storeLocals Ls i (.long x1) = some Ls') (G : Go X R Z a0 EL nw y bs ml rt Q kc ks sf h k n (mkF X.m pc' Ls' (st))) : Go X R Z a0 EL nw y bs ml rt Q kc ks sf h k n (mkF X.m pc Ls (.long x1 :: st)) := by
  subst hp
  exact Go.step (fun T t hT hx hc q => XS.lstore hT hx rfl (hb hc hd) rfl hl q) G
theorem g_astoreN {i : Fin 4} {x1 : Value} (hd : decode bs pc = .ok (.astore_n i, 1)) (hp : pc + 1 = pc') (hr : x1.isRef = true) (hl : storeLocals Ls i.val x1 = some Ls') (G : Go X R Z a0 EL nw y bs ml rt Q kc ks sf h k n (mkF X.m pc' Ls' (st))) : Go X R Z a0 EL nw y bs ml rt Q kc ks sf h k n (mkF X.m pc Ls (x1 :: st)) := by
  subst hp
  exact Go.step (fun T t hT hx hc q => XS.astoreN hT hx rfl (hb hc hd) rfl hr hl q) G
theorem g_astore {i : Nat} {x1 : Value} (hd : decode bs pc = .ok (.astore i, 2)) (hp : pc + 2 = pc') (hr : x1.isRef = true) (hl : storeLocals Ls i x1 = some Ls') (G : Go X R Z a0 EL nw y bs ml rt Q kc ks sf h k n (mkF X.m pc' Ls' (st))) : Go X R Z a0 EL nw y bs ml rt Q kc ks sf h k n (mkF X.m pc Ls (x1 :: st)) := by
  subst hp
  exact Go.step (fun T t hT hx hc q => XS.astore hT hx rfl (hb hc hd) rfl hr hl q) G
theorem g_iinc {i : Nat} {cst : Int} {x1 : Int32} (hd : decode bs pc = .ok (.iinc i cst, 3)) (hp : pc + 3 = pc') (hv : Ls[i]? = some (.val (.int x1))) (hl : storeLocals Ls i (.int (x1 + Int32.ofInt cst)) = some Ls') (G : Go X R Z a0 EL nw y bs ml rt Q kc ks sf h k n (mkF X.m pc' Ls' st)) : Go X R Z a0 EL nw y bs ml rt Q kc ks sf h k n (mkF X.m pc Ls st) := by
  subst hp
  exact Go.step (fun T t hT hx hc q => XS.iinc hT hx rfl (hb hc hd) hv hl q) G
theorem g_goto {o : Int} (hd : decode bs pc = .ok (.goto o, 3)) (ho : 0 ≤ (pc : Int) + o) (hp : ((pc : Int) + o).toNat = pc') (G : Go X R Z a0 EL nw y bs ml rt Q kc ks sf h k n (mkF X.m pc' Ls st)) : Go X R Z a0 EL nw y bs ml rt Q kc ks sf h k n (mkF X.m pc Ls st) :=
  Go.step (fun T t hT hx hc q => XS.goto hT hx rfl rfl (hb hc hd) ho hp q) G
theorem g_icmpeq {o : Int} {x1 x2 : Int32} (hd : decode bs pc = .ok (.if_icmp .eq o, 3)) (hp : pc + 3 = pc') (ho : 0 ≤ (pc : Int) + o) (hp2 : ((pc : Int) + o).toNat = pc2) (Gn : ¬ x1 = x2 → Go X R Z a0 EL nw y bs ml rt Q kc ks sf h k n (mkF X.m pc' Ls st)) (Gy : x1 = x2 → Go X R Z a0 EL nw y bs ml rt Q kc ks sf h k n (mkF X.m pc2 Ls st)) : Go X R Z a0 EL nw y bs ml rt Q kc ks sf h k n (mkF X.m pc Ls (.int x2 :: .int x1 :: st)) := by
  subst hp
  by_cases q : x1 = x2
  · exact Go.step (fun T t hT hx hc r => XS.icmpYes hT hx rfl rfl (hb hc hd) rfl ((teq q).1) ho hp2 r) (Gy q)
  · have q : ¬ x1 = x2 := q
    exact Go.step (fun T t hT hx hc r => XS.icmpNo hT hx rfl (hb hc hd) rfl ((feq q).1) r) (Gn q)
theorem g_ifeq {o : Int} {x1 : Int32} (hd : decode bs pc = .ok (.ifCond .eq o, 3)) (hp : pc + 3 = pc') (ho : 0 ≤ (pc : Int) + o) (hp2 : ((pc : Int) + o).toNat = pc2) (Gn : ¬ x1 = 0 → Go X R Z a0 EL nw y bs ml rt Q kc ks sf h k n (mkF X.m pc' Ls st)) (Gy : x1 = 0 → Go X R Z a0 EL nw y bs ml rt Q kc ks sf h k n (mkF X.m pc2 Ls st)) : Go X R Z a0 EL nw y bs ml rt Q kc ks sf h k n (mkF X.m pc Ls (.int x1 :: st)) := by
  subst hp
  by_cases q : x1 = 0
  · exact Go.step (fun T t hT hx hc r => XS.ifYes hT hx rfl rfl (hb hc hd) rfl (by rw [if0]; exact (teq q).1) ho hp2 r) (Gy q)
  · have q : ¬ x1 = 0 := q
    exact Go.step (fun T t hT hx hc r => XS.ifNo hT hx rfl (hb hc hd) rfl (by rw [if0]; exact (feq q).1) r) (Gn q)
theorem g_icmpne {o : Int} {x1 x2 : Int32} (hd : decode bs pc = .ok (.if_icmp .ne o, 3)) (hp : pc + 3 = pc') (ho : 0 ≤ (pc : Int) + o) (hp2 : ((pc : Int) + o).toNat = pc2) (Gn : x1 = x2 → Go X R Z a0 EL nw y bs ml rt Q kc ks sf h k n (mkF X.m pc' Ls st)) (Gy : ¬ x1 = x2 → Go X R Z a0 EL nw y bs ml rt Q kc ks sf h k n (mkF X.m pc2 Ls st)) : Go X R Z a0 EL nw y bs ml rt Q kc ks sf h k n (mkF X.m pc Ls (.int x2 :: .int x1 :: st)) := by
  subst hp
  by_cases q : ¬ x1 = x2
  · exact Go.step (fun T t hT hx hc r => XS.icmpYes hT hx rfl rfl (hb hc hd) rfl ((feq q).2) ho hp2 r) (Gy q)
  · have q : x1 = x2 := Decidable.not_not.mp q
    exact Go.step (fun T t hT hx hc r => XS.icmpNo hT hx rfl (hb hc hd) rfl ((teq q).2) r) (Gn q)
theorem g_ifne {o : Int} {x1 : Int32} (hd : decode bs pc = .ok (.ifCond .ne o, 3)) (hp : pc + 3 = pc') (ho : 0 ≤ (pc : Int) + o) (hp2 : ((pc : Int) + o).toNat = pc2) (Gn : x1 = 0 → Go X R Z a0 EL nw y bs ml rt Q kc ks sf h k n (mkF X.m pc' Ls st)) (Gy : ¬ x1 = 0 → Go X R Z a0 EL nw y bs ml rt Q kc ks sf h k n (mkF X.m pc2 Ls st)) : Go X R Z a0 EL nw y bs ml rt Q kc ks sf h k n (mkF X.m pc Ls (.int x1 :: st)) := by
  subst hp
  by_cases q : ¬ x1 = 0
  · exact Go.step (fun T t hT hx hc r => XS.ifYes hT hx rfl rfl (hb hc hd) rfl (by rw [if0]; exact (feq q).2) ho hp2 r) (Gy q)
  · have q : x1 = 0 := Decidable.not_not.mp q
    exact Go.step (fun T t hT hx hc r => XS.ifNo hT hx rfl (hb hc hd) rfl (by rw [if0]; exact (teq q).2) r) (Gn q)
theorem g_icmplt {o : Int} {x1 x2 : Int32} (hd : decode bs pc = .ok (.if_icmp .lt o, 3)) (hp : pc + 3 = pc') (ho : 0 ≤ (pc : Int) + o) (hp2 : ((pc : Int) + o).toNat = pc2) (Gn : ¬ x1 < x2 → Go X R Z a0 EL nw y bs ml rt Q kc ks sf h k n (mkF X.m pc' Ls st)) (Gy : x1 < x2 → Go X R Z a0 EL nw y bs ml rt Q kc ks sf h k n (mkF X.m pc2 Ls st)) : Go X R Z a0 EL nw y bs ml rt Q kc ks sf h k n (mkF X.m pc Ls (.int x2 :: .int x1 :: st)) := by
  subst hp
  by_cases q : x1 < x2
  · exact Go.step (fun T t hT hx hc r => XS.icmpYes hT hx rfl rfl (hb hc hd) rfl ((tlt q).1) ho hp2 r) (Gy q)
  · have q : ¬ x1 < x2 := q
    exact Go.step (fun T t hT hx hc r => XS.icmpNo hT hx rfl (hb hc hd) rfl ((flt q).1) r) (Gn q)
theorem g_iflt {o : Int} {x1 : Int32} (hd : decode bs pc = .ok (.ifCond .lt o, 3)) (hp : pc + 3 = pc') (ho : 0 ≤ (pc : Int) + o) (hp2 : ((pc : Int) + o).toNat = pc2) (Gn : ¬ x1 < 0 → Go X R Z a0 EL nw y bs ml rt Q kc ks sf h k n (mkF X.m pc' Ls st)) (Gy : x1 < 0 → Go X R Z a0 EL nw y bs ml rt Q kc ks sf h k n (mkF X.m pc2 Ls st)) : Go X R Z a0 EL nw y bs ml rt Q kc ks sf h k n (mkF X.m pc Ls (.int x1 :: st)) := by
  subst hp
  by_cases q : x1 < 0
  · exact Go.step (fun T t hT hx hc r => XS.ifYes hT hx rfl rfl (hb hc hd) rfl (by rw [if0]; exact (tlt q).1) ho hp2 r) (Gy q)
  · have q : ¬ x1 < 0 := q
    exact Go.step (fun T t hT hx hc r => XS.ifNo hT hx rfl (hb hc hd) rfl (by rw [if0]; exact (flt q).1) r) (Gn q)
theorem g_icmpge {o : Int} {x1 x2 : Int32} (hd : decode bs pc = .ok (.if_icmp .ge o, 3)) (hp : pc + 3 = pc') (ho : 0 ≤ (pc : Int) + o) (hp2 : ((pc : Int) + o).toNat = pc2) (Gn : x1 < x2 → Go X R Z a0 EL nw y bs ml rt Q kc ks sf h k n (mkF X.m pc' Ls st)) (Gy : ¬ x1 < x2 → Go X R Z a0 EL nw y bs ml rt Q kc ks sf h k n (mkF X.m pc2 Ls st)) : Go X R Z a0 EL nw y bs ml rt Q kc ks sf h k n (mkF X.m pc Ls (.int x2 :: .int x1 :: st)) := by
  subst hp
  by_cases q : ¬ x1 < x2
  · exact Go.step (fun T t hT hx hc r => XS.icmpYes hT hx rfl rfl (hb hc hd) rfl ((flt q).2.1) ho hp2 r) (Gy q)
  · have q : x1 < x2 := Decidable.not_not.mp q
    exact Go.step (fun T t hT hx hc r => XS.icmpNo hT hx rfl (hb hc hd) rfl ((tlt q).2.1) r) (Gn q)
theorem g_ifge {o : Int} {x1 : Int32} (hd : decode bs pc = .ok (.ifCond .ge o, 3)) (hp : pc + 3 = pc') (ho : 0 ≤ (pc : Int) + o) (hp2 : ((pc : Int) + o).toNat = pc2) (Gn : x1 < 0 → Go X R Z a0 EL nw y bs ml rt Q kc ks sf h k n (mkF X.m pc' Ls st)) (Gy : ¬ x1 < 0 → Go X R Z a0 EL nw y bs ml rt Q kc ks sf h k n (mkF X.m pc2 Ls st)) : Go X R Z a0 EL nw y bs ml rt Q kc ks sf h k n (mkF X.m pc Ls (.int x1 :: st)) := by
  subst hp
  by_cases q : ¬ x1 < 0
  · exact Go.step (fun T t hT hx hc r => XS.ifYes hT hx rfl rfl (hb hc hd) rfl (by rw [if0]; exact (flt q).2.1) ho hp2 r) (Gy q)
  · have q : x1 < 0 := Decidable.not_not.mp q
    exact Go.step (fun T t hT hx hc r => XS.ifNo hT hx rfl (hb hc hd) rfl (by rw [if0]; exact (tlt q).2.1) r) (Gn q)
theorem g_icmpgt {o : Int} {x1 x2 : Int32} (hd : decode bs pc = .ok (.if_icmp .gt o, 3)) (hp : pc + 3 = pc') (ho : 0 ≤ (pc : Int) + o) (hp2 : ((pc : Int) + o).toNat = pc2) (Gn : ¬ x2 < x1 → Go X R Z a0 EL nw y bs ml rt Q kc ks sf h k n (mkF X.m pc' Ls st)) (Gy : x2 < x1 → Go X R Z a0 EL nw y bs ml rt Q kc ks sf h k n (mkF X.m pc2 Ls st)) : Go X R Z a0 EL nw y bs ml rt Q kc ks sf h k n (mkF X.m pc Ls (.int x2 :: .int x1 :: st)) := by
  subst hp
  by_cases q : x2 < x1
  · exact Go.step (fun T t hT hx hc r => XS.icmpYes hT hx rfl rfl (hb hc hd) rfl ((tlt q).2.2.1) ho hp2 r) (Gy q)
  · have q : ¬ x2 < x1 := q
    exact Go.step (fun T t hT hx hc r => XS.icmpNo hT hx rfl (hb hc hd) rfl ((flt q).2.2.1) r) (Gn q)
theorem g_ifgt {o : Int} {x1 : Int32} (hd : decode bs pc = .ok (.ifCond .gt o, 3)) (hp : pc + 3 = pc') (ho : 0 ≤ (pc : Int) + o) (hp2 : ((pc : Int) + o).toNat = pc2) (Gn : ¬ 0 < x1 → Go X R Z a0 EL nw y bs ml rt Q kc ks sf h k n (mkF X.m pc' Ls st)) (Gy : 0 < x1 → Go X R Z a0 EL nw y bs ml rt Q kc ks sf h k n (mkF X.m pc2 Ls st)) : Go X R Z a0 EL nw y bs ml rt Q kc ks sf h k n (mkF X.m pc Ls (.int x1 :: st)) := by
  subst hp
  by_cases q : 0 < x1
  · exact Go.step (fun T t hT hx hc r => XS.ifYes hT hx rfl rfl (hb hc hd) rfl (by rw [if0]; exact (tlt q).2.2.1) ho hp2 r) (Gy q)
  · have q : ¬ 0 < x1 := q
    exact Go.step (fun T t hT hx hc r => XS.ifNo hT hx rfl (hb hc hd) rfl (by rw [if0]; exact (flt q).2.2.1) r) (Gn q)
theorem g_icmple {o : Int} {x1 x2 : Int32} (hd : decode bs pc = .ok (.if_icmp .le o, 3)) (hp : pc + 3 = pc') (ho : 0 ≤ (pc : Int) + o) (hp2 : ((pc : Int) + o).toNat = pc2) (Gn : x2 < x1 → Go X R Z a0 EL nw y bs ml rt Q kc ks sf h k n (mkF X.m pc' Ls st)) (Gy : ¬ x2 < x1 → Go X R Z a0 EL nw y bs ml rt Q kc ks sf h k n (mkF X.m pc2 Ls st)) : Go X R Z a0 EL nw y bs ml rt Q kc ks sf h k n (mkF X.m pc Ls (.int x2 :: .int x1 :: st)) := by
  subst hp
  by_cases q : ¬ x2 < x1
  · exact Go.step (fun T t hT hx hc r => XS.icmpYes hT hx rfl rfl (hb hc hd) rfl ((flt q).2.2.2) ho hp2 r) (Gy q)
  · have q : x2 < x1 := Decidable.not_not.mp q
    exact Go.step (fun T t hT hx hc r => XS.icmpNo hT hx rfl (hb hc hd) rfl ((tlt q).2.2.2) r) (Gn q)
theorem g_ifle {o : Int} {x1 : Int32} (hd : decode bs pc = .ok (.ifCond .le o, 3)) (hp : pc + 3 = pc') (ho : 0 ≤ (pc : Int) + o) (hp2 : ((pc : Int) + o).toNat = pc2) (Gn : 0 < x1 → Go X R Z a0 EL nw y bs ml rt Q kc ks sf h k n (mkF X.m pc' Ls st)) (Gy : ¬ 0 < x1 → Go X R Z a0 EL nw y bs ml rt Q kc ks sf h k n (mkF X.m pc2 Ls st)) : Go X R Z a0 EL nw y bs ml rt Q kc ks sf h k n (mkF X.m pc Ls (.int x1 :: st)) := by
  subst hp
  by_cases q : ¬ 0 < x1
  · exact Go.step (fun T t hT hx hc r => XS.ifYes hT hx rfl rfl (hb hc hd) rfl (by rw [if0]; exact (flt q).2.2.2) ho hp2 r) (Gy q)
  · have q : 0 < x1 := Decidable.not_not.mp q
    exact Go.step (fun T t hT hx hc r => XS.ifNo hT hx rfl (hb hc hd) rfl (by rw [if0]; exact (tlt q).2.2.2) r) (Gn q)
theorem g_ifnullY {o : Int} (hd : decode bs pc = .ok (.ifnull o, 3)) (ho : 0 ≤ (pc : Int) + o) (hp2 : ((pc : Int) + o).toNat = pc2) (G : Go X R Z a0 EL nw y bs ml rt Q kc ks sf h k n (mkF X.m pc2 Ls st)) : Go X R Z a0 EL nw y bs ml rt Q kc ks sf h k n (mkF X.m pc Ls (.null :: st)) :=
  Go.step (fun T t hT hx hc r => XS.ifnullYes hT hx rfl rfl (hb hc hd) rfl ho hp2 r) G
theorem g_ifnullN {o : Int} {b : Addr} (hd : decode bs pc = .ok (.ifnull o, 3)) (hp : pc + 3 = pc') (G : Go X R Z a0 EL nw y bs ml rt Q kc ks sf h k n (mkF X.m pc' Ls st)) : Go X R Z a0 EL nw y bs ml rt Q kc ks sf h k n (mkF X.m pc Ls (.ref b :: st)) := by
  subst hp
  exact Go.step (fun T t hT hx hc r => XS.ifnullNo hT hx rfl (hb hc hd) rfl r) G
theorem g_ifnonnullY {o : Int} {b : Addr} (hd : decode bs pc = .ok (.ifnonnull o, 3)) (ho : 0 ≤ (pc : Int) + o) (hp2 : ((pc : Int) + o).toNat = pc2) (G : Go X R Z a0 EL nw y bs ml rt Q kc ks sf h k n (mkF X.m pc2 Ls st)) : Go X R Z a0 EL nw y bs ml rt Q kc ks sf h k n (mkF X.m pc Ls (.ref b :: st)) :=
  Go.step (fun T t hT hx hc r => XS.ifnonnullYes hT hx rfl rfl (hb hc hd) rfl ho hp2 r) G
theorem g_ifnonnullN {o : Int} (hd : decode bs pc = .ok (.ifnonnull o, 3)) (hp : pc + 3 = pc') (G : Go X R Z a0 EL nw y bs ml rt Q kc ks sf h k n (mkF X.m pc' Ls st)) : Go X R Z a0 EL nw y bs ml rt Q kc ks sf h k n (mkF X.m pc Ls (.null :: st)) := by
  subst hp
  exact Go.step (fun T t hT hx hc r => XS.ifnonnullNo hT hx rfl (hb hc hd) rfl r) G
theorem g_acmp {cd : ClassFile.ACond} {o : Int} {x1 x2 : Value} (hd : decode bs pc = .ok (.if_acmp cd o, 3)) (hp : pc + 3 = pc') (ho : 0 ≤ (pc : Int) + o) (hp2 : ((pc : Int) + o).toNat = pc2) (hr1 : x1.isRef = true) (hr2 : x2.isRef = true) (Gn : XT.acmp cd x1 x2 = false → Go X R Z a0 EL nw y bs ml rt Q kc ks sf h k n (mkF X.m pc' Ls st)) (Gy : XT.acmp cd x1 x2 = true → Go X R Z a0 EL nw y bs ml rt Q kc ks sf h k n (mkF X.m pc2 Ls st)) : Go X R Z a0 EL nw y bs ml rt Q kc ks sf h k n (mkF X.m pc Ls (x2 :: x1 :: st)) := by
  subst hp
  cases q : XT.acmp cd x1 x2 with
  | true => exact Go.step (fun T t hT hx hc r => XT.acmpYes hT hx rfl rfl (hb hc hd) rfl hr1 hr2 q ho hp2 r) (Gy q)
  | false => exact Go.step (fun T t hT hx hc r => XT.acmpNo hT hx rfl (hb hc hd) rfl hr1 hr2 q r) (Gn q)
/-! returns -/
theorem Go.out {v : Option Value} (hv : rt = none → v = none) (hk : Nat.ble k kc = true) (hn : Nat.ble n ks = true) (hQ : Q v h)
    (stp : ∀ {s0 : State} {L : List Loc} {T : State} {fs : List Frame}, Stand X.p X.l X.e R s0 X.m X.args X.below X.meth X.c T L k n → X.p.tables.exec = Jvm.exec → X.c.code = bs → X.meth.sig.returnType = rt → (∀ (f : JFrame) (acts : List Action), f.method = X.m → f.locked = none → f.entered = [] → (doReturn X.e (T.setTop f) acts v).1 = T.setFrames fs) → Steps X.p.tables X.e X.below (T.setTop g) (T.setFrames fs)) : Go X R Z a0 EL nw y bs ml rt Q kc ks sf h k n g := fun T S => by
  obtain ⟨⟨hx, hc, hml, hrt, hnm, hlk, hEL⟩, vm0, L, X1, rfl, hS, hZ, hown, hC, hF, hE, hs, hN⟩ := S
  obtain ⟨fs, hr, hrun, hended, hW, hsame⟩ := X1.leave (v := v) (fun q => hv (hrt ▸ q)) hlk
  refine ⟨_, _, stp X1 hx hc hrt hr, hrun, hended, v, L, rfl, ⟨hQ, hF, hE⟩, hC.trans (show CHr Z EL vm0 T.heap T.vm T.heap from CHv.at X1 hZ hEL hC.1), fun q => State.WarmedH.trans (hN q) hW, ⟨v, rfl⟩, State.Warmed39.trans (t := X.s.setVm vm0) hS.1 hW.wide, fun j q hj hp => ?_, (hsame.setVm X.s.vm).mono (ble hk) (ble hn)⟩
  exact hS.2 j q hj (by have := hW.interned_eq; rw [this] at hp; exact hp)
theorem g_ireturn {w : Int32} {t : FieldType} (hd : decode bs pc = .ok (.ireturn, 1)) (hrt : rt = some t) (ht : t = .int ∨ t = .boolean ∨ t = .byte ∨ t = .char ∨ t = .short) (hw : narrow t (.int w) = .int w) (hk : Nat.ble k kc = true) (hn : Nat.ble n ks = true) (hQ : Q (some (.int w)) h) : Go X R Z a0 EL nw y bs ml rt Q kc ks sf h k n (mkF X.m pc Ls (.int w :: st)) :=
  Go.out (fun q => by rw [hrt] at q; cases q) hk hn hQ fun X1 hx hc hr hl => retOut X1 hx (hr.trans hrt) hw (Or.inl ⟨rfl, ht, _, rfl⟩) (hb hc hd) hl
theorem g_lreturn {w : Int64} (hd : decode bs pc = .ok (.lreturn, 1)) (hrt : rt = some .long) (hk : Nat.ble k kc = true) (hn : Nat.ble n ks = true) (hQ : Q (some (.long w)) h) : Go X R Z a0 EL nw y bs ml rt Q kc ks sf h k n (mkF X.m pc Ls (.long w :: st)) :=
  Go.out (fun q => by rw [hrt] at q; cases q) hk hn hQ fun X1 hx hc hr hl => retOut X1 hx (hr.trans hrt) rfl (Or.inr (Or.inl ⟨rfl, rfl, _, rfl⟩)) (hb hc hd) hl
theorem g_areturn {w : Value} {t : FieldType} (hd : decode bs pc = .ok (.areturn, 1)) (hrt : rt = some t) (ht : t.isReference = true) (hw : w.isRef = true) (hnw : narrow t w = w) (hk : Nat.ble k kc = true) (hn : Nat.ble n ks = true) (hQ : Q (some w) h) : Go X R Z a0 EL nw y bs ml rt Q kc ks sf h k n (mkF X.m pc Ls (w :: st)) :=
  Go.out (fun q => by rw [hrt] at q; cases q) hk hn hQ fun X1 hx hc hr hl => retOut X1 hx (hr.trans hrt) hnw (Or.inr (Or.inr (Or.inr (Or.inr ⟨rfl, ht, hw⟩)))) (hb hc hd) hl
theorem g_return (hd : decode bs pc = .ok (.return_, 1)) (hrt : rt = none) (hk : Nat.ble k kc = true) (hn : Nat.ble n ks = true) (hQ : Q none h) : Go X R Z a0 EL nw y bs ml rt Q kc ks sf h k n (mkF X.m pc Ls []) :=
  Go.out (fun _ => rfl) hk hn hQ fun X1 hx hc hr hl => X1.returnOut hx (hr.trans hrt) (hb hc hd) hl
/-! steps that move the heap, the tables not interned anew -/
theorem Spot.next {vm0 : Vm} {L' : List Loc} (F : Fix X Z a0 EL y bs ml rt) (X1 : Stand X.p X.l X.e R (X.s.setVm vm0) X.m X.args X.below X.meth X.c T' L' k' n') (e : T'.heap = h') (hS : X.s.Since vm0 h.size) (hZ : Z.Warmed39 vm0) (hown : vm0.findClass y.cls = some X.m.cls) (hC : CHr Z EL X.s.vm X.s.heap vm0 h) (hC' : CHr Z EL vm0 h vm0 h') (hF : Fr Z.heap.size L') (hE : Ext Z.heap h') (hs : ∀ x ∈ sf, x < h.size ∧ Safe Z EL vm0 h x) (hN : nw = true → X.s.WarmedH vm0) : Spot X R Z a0 EL nw y bs ml rt sf T' h' k' n' :=
  ⟨F, vm0, L', X1, e, ⟨hS.1, hS.2.mono hC'.2.1⟩, hZ, hown, hC.trans hC', hF, hE, fun x hx => ⟨Nat.lt_of_lt_of_le (hs x hx).1 hC'.2.1, hC'.safe (hs x hx).1 (hs x hx).2⟩, hN⟩
theorem ext_trans {h1 h2 h3 : Heap} (E : Ext h1 h2) (E' : Ext h2 h3) : Ext h1 h3 := ⟨Nat.le_trans E.1 E'.1, fun a c q => E'.2 a c (E.2 a c q)⟩
theorem ext_refl (h1 : Heap) : Ext h1 h1 := ⟨Nat.le_refl _, fun _ _ q => q⟩
/-- what is written lies behind the first heap's end: the first heap stands -/
theorem ext_keep {h1 h2 h3 : Heap} {ws : List Addr} (E : Ext h1 h2) (K : Keep h2 h3 ws) (q : ∀ x ∈ ws, h1.size ≤ x) : Ext h1 h3 := ⟨Nat.le_trans E.1 K.1, fun a c r => K.2.1 a c (E.2 a c r) fun z => absurd (Array.getElem?_eq_some_iff.mp r).1 (Nat.not_lt.mpr (q a z))⟩
theorem keep_ext {h1 h2 : Heap} (E : Ext h1 h2) : Keep h1 h2 [] := (Keep.refl _ _).ext E
theorem g_new {C : String} {ix sz : Nat} (hd : decode bs pc = .ok (.new ix, 3)) (hp : pc + 3 = pc') (w : (Jvm.Cond.classLink y.cls ix C).before a0 Z = true) (wi : (Jvm.Cond.instantiable C sz).before a0 Z = true) (wz : (Jvm.Cond.initialized C).before a0 Z = true) (hk : Nat.ble (k + 1) R.cells = true) (hn : Nat.ble (n + sz) R.slots = true)
    (G : ∀ h' a, a = h.size → Ext h h' → Exa Z h' a C → (∀ {O nm d : String} {ty : FieldType}, Laid Z a0 C O nm d → parseFieldDescriptor d = some ty → Fld Z h' a O nm d (defaultValue ty)) → Go X R Z a0 EL nw y bs ml rt Q kc ks (a :: sf) h' (k + 1) (n + sz) (mkF X.m pc' Ls (.ref a :: st))) : Go X R Z a0 EL nw y bs ml rt Q kc ks sf h k n (mkF X.m pc Ls st) := fun T S => by
  subst hp
  obtain ⟨F, vm0, L, X1, eT, hS, hZ, hown, hC, hF, hE, hs, hN⟩ := S
  obtain ⟨T', h', X2, e2, E2, A2, D2, -, stp⟩ := newO X1 F.1 (Z := Z) hZ hown w wi wz eT (g := mkF X.m pc Ls st) rfl (hb F.2.1 hd) (ble hk) (ble hn)
  refine (G h' _ rfl E2 A2 D2 T' ?_).back stp
  exact ⟨F, vm0, _, X2, e2, ⟨hS.1, hS.2.mono E2.1⟩, hZ, hown, hC.trans (CHr.ext E2 hC.1), hF, ext_trans hE E2, fun x hx => by
    rcases List.mem_cons.mp hx with rfl | hx
    · exact ⟨A2.lt, Safe.ext E2 hC.1 (Safe.new (Nat.le_refl _))⟩
    · exact ⟨Nat.lt_of_lt_of_le (hs x hx).1 E2.1, Safe.ext E2 hC.1 (hs x hx).2⟩, hN⟩
theorem g_newarray {aty : ArrayType} {z : Int32} {cap : Nat} (hd : decode bs pc = .ok (.newarray aty, 2)) (hp : pc + 2 = pc') (w : (Jvm.Cond.arrayClass (newarray.typeOf aty)).before a0 Z = true) (hz : ¬ z < 0) (hcap : z.toNatClampNeg = cap) (h8 : Nat.ble (cap * 8) 536870912 = true) (hk : Nat.ble (k + 1) R.cells = true) (hn : Nat.ble (n + cap) R.slots = true)
    (G : ∀ h' a kA, a = h.size → Ext h h' → Arv Z h' a kA (newarray.typeOf aty) z (List.replicate cap (defaultValue (newarray.typeOf aty))) (defaultValue (newarray.typeOf aty)) → Go X R Z a0 EL nw y bs ml rt Q kc ks (a :: sf) h' (k + 1) (n + cap) (mkF X.m pc' Ls (.ref a :: st))) : Go X R Z a0 EL nw y bs ml rt Q kc ks sf h k n (mkF X.m pc Ls (.int z :: st)) := fun T S => by
  subst hp
  obtain ⟨F, vm0, L, X1, eT, hS, hZ, hown, hC, hF, hE, hs, hN⟩ := S
  obtain ⟨T', h', cA, X2, e2, E2, A2, stp⟩ := newP X1 F.1 (Z := Z) hZ w eT (g := mkF X.m pc Ls (.int z :: st)) rfl (hb F.2.1 hd) rfl hz (cap := cap) (Nat.le_of_eq hcap) (ble h8) (ble hk) (ble hn)
  have A3 := (Arv.new A2 hz).pad (vs' := List.replicate cap (defaultValue (newarray.typeOf aty))) (fun i => by have := pad_rep [] (defaultValue (newarray.typeOf aty)) cap i; simpa using this)
  refine (G h' _ cA rfl E2 A3 T' ?_).back stp
  exact ⟨F, vm0, _, X2, e2, ⟨hS.1, hS.2.mono E2.1⟩, hZ, hown, hC.trans (CHr.ext E2 hC.1), hF, ext_trans hE E2, fun x hx => by
    rcases List.mem_cons.mp hx with rfl | hx
    · exact ⟨A3.lt, Safe.ext E2 hC.1 (Safe.new (Nat.le_refl _))⟩
    · exact ⟨Nat.lt_of_lt_of_le (hs x hx).1 E2.1, Safe.ext E2 hC.1 (hs x hx).2⟩, hN⟩
/-- newarray again, with the array's class told by its name -/
theorem g_newarrayX {aty : ArrayType} {z : Int32} {cap : Nat} (hd : decode bs pc = .ok (.newarray aty, 2)) (hp : pc + 2 = pc') (w : (Jvm.Cond.arrayClass (newarray.typeOf aty)).before a0 Z = true) (hz : ¬ z < 0) (hcap : z.toNatClampNeg = cap) (h8 : Nat.ble (cap * 8) 536870912 = true) (hk : Nat.ble (k + 1) R.cells = true) (hn : Nat.ble (n + cap) R.slots = true)
    (G : ∀ h' a kA, a = h.size → Ext h h' → Z.vm.findClass ("[" ++ (newarray.typeOf aty).toString) = some kA → Arv Z h' a kA (newarray.typeOf aty) z (List.replicate cap (defaultValue (newarray.typeOf aty))) (defaultValue (newarray.typeOf aty)) → Go X R Z a0 EL nw y bs ml rt Q kc ks (a :: sf) h' (k + 1) (n + cap) (mkF X.m pc' Ls (.ref a :: st))) : Go X R Z a0 EL nw y bs ml rt Q kc ks sf h k n (mkF X.m pc Ls (.int z :: st)) := fun T S => by
  subst hp
  obtain ⟨F, vm0, L, X1, rfl, hS, hZ, hown, hC, hF, hE, hs, hN⟩ := S
  have hcb : componentBytes (newarray.typeOf aty) ≤ 8 := by cases aty <;> decide
  obtain ⟨cA, kA, comp, h1, h2, h3, X2, stp⟩ := X1.newarrayPrim F.1 (mvA hZ w) (g := mkF X.m pc Ls (.int z :: st)) rfl (hb F.2.1 hd) rfl hz (Nat.le_trans (Nat.mul_le_mul (Nat.le_of_eq hcap) hcb) (ble h8)) (ble hk) (by have := ble hn; omega)
  have h1 : vm0.findClass _ = some cA := h1
  rw [hZ.alike.findClass] at h1
  obtain ⟨kZ, z1, -⟩ := Vm.findClass_spec h1
  obtain ⟨k', z2, z3⟩ := hZ.alike.2.2 _ _ z1
  cases h2.symm.trans z2
  have E2 : Ext T.heap (T.heap.push (newA cA (newarray.typeOf aty) z)) := ⟨by simp, fun a c q => by rw [Array.getElem?_push_lt (Array.getElem?_eq_some_iff.mp q).1]; exact (Array.getElem?_eq_getElem _).symm.trans q⟩
  have A2 : Arr Z (T.heap.push (newA cA (newarray.typeOf aty) z)) T.heap.size (newA cA (newarray.typeOf aty) z) (newarray.typeOf aty) := ⟨by simp, ⟨by simp [newA], kZ, z1, comp, by rw [← h3, z3]⟩, by simp [newA]⟩
  have A3 := (Arv.new A2 hz).pad (vs' := List.replicate cap (defaultValue (newarray.typeOf aty))) (fun i => by have := pad_rep [] (defaultValue (newarray.typeOf aty)) cap i; simpa using this)
  refine (G _ _ cA rfl E2 h1 A3 _ ?_).back stp
  exact ⟨F, vm0, _, X2.more (Nat.le_refl _) (by omega), rfl, ⟨hS.1, hS.2.mono E2.1⟩, hZ, hown, hC.trans (CHr.ext E2 hC.1), hF, ext_trans hE E2, fun x hx => by
    rcases List.mem_cons.mp hx with rfl | hx
    · exact ⟨A3.lt, Safe.ext E2 hC.1 (Safe.new (Nat.le_refl _))⟩
    · exact ⟨Nat.lt_of_lt_of_le (hs x hx).1 E2.1, Safe.ext E2 hC.1 (hs x hx).2⟩, hN⟩
theorem Arv.exa {Z : State} {h : Heap} {a : Addr} {kA : ClassId} {ty : FieldType} {z : Int32} {vs : List Value} {d : Value} {C : String} (A : Arv Z h a kA ty z vs d) (q : Z.vm.findClass C = some kA) : Exa Z h a C := by
  obtain ⟨c, ⟨q1, ⟨q2, kz, q3, co, q4⟩, q5⟩, rfl, -⟩ := A
  exact ⟨c, kz, q1, q, q3, by cases hv : c.vm <;> first | rfl | exact absurd hv (q2 _), fun e => by rw [q4] at e; cases e⟩
theorem g_anewarray {C : String} {ix : Nat} {z : Int32} {cap : Nat} (hd : decode bs pc = .ok (.anewarray ix, 3)) (hp : pc + 3 = pc') (w : (Jvm.Cond.classLink y.cls ix C).before a0 Z = true) (w2 : (Jvm.Cond.arrayOver (.object C)).before a0 Z = true) (hz : ¬ z < 0) (hcap : z.toNatClampNeg = cap) (h8 : Nat.ble (cap * 8) 536870912 = true) (hk : Nat.ble (k + 1) R.cells = true) (hn : Nat.ble (n + cap) R.slots = true)
    (G : ∀ h' a kA, a = h.size → Ext h h' → Ovr Z kA C → Arv Z h' a kA (.object C) z (List.replicate cap .null) .null → Go X R Z a0 EL nw y bs ml rt Q kc ks (a :: sf) h' (k + 1) (n + cap) (mkF X.m pc' Ls (.ref a :: st))) : Go X R Z a0 EL nw y bs ml rt Q kc ks sf h k n (mkF X.m pc Ls (.int z :: st)) := fun T S => by
  subst hp
  obtain ⟨F, vm0, L, X1, eT, hS, hZ, hown, hC, hF, hE, hs, hN⟩ := S
  obtain ⟨T', h', cA, X2, e2, E2, A2, O2, stp⟩ := newR X1 F.1 (Z := Z) hZ hown w w2 eT (g := mkF X.m pc Ls (.int z :: st)) rfl (hb F.2.1 hd) rfl hz (cap := cap) (Nat.le_of_eq hcap) (ble h8) (ble hk) (ble hn)
  have A3 := (Arv.new A2 hz).pad (vs' := List.replicate cap (defaultValue (.object C))) (fun i => by have := pad_rep [] (defaultValue (.object C)) cap i; simpa using this)
  refine (G h' _ cA rfl E2 O2 A3 T' ?_).back stp
  exact ⟨F, vm0, _, X2, e2, ⟨hS.1, hS.2.mono E2.1⟩, hZ, hown, hC.trans (CHr.ext E2 hC.1), hF, ext_trans hE E2, fun x hx => by
    rcases List.mem_cons.mp hx with rfl | hx
    · exact ⟨A3.lt, Safe.ext E2 hC.1 (Safe.new (Nat.le_refl _))⟩
    · exact ⟨Nat.lt_of_lt_of_le (hs x hx).1 E2.1, Safe.ext E2 hC.1 (hs x hx).2⟩, hN⟩
/-- a step over one Stand that moves nothing but the tables (narrowly) -/
theorem Go.same (stp : ∀ {vm0 : Vm} {L : List Loc} {T : State}, Fix X Z a0 EL y bs ml rt → Stand X.p X.l X.e R (X.s.setVm vm0) X.m X.args X.below X.meth X.c T L k n → T.heap = h → Z.Warmed39 vm0 → vm0.findClass y.cls = some X.m.cls →
      ∃ T', Stand X.p X.l X.e R (X.s.setVm vm0) X.m X.args X.below X.meth X.c T' L k n ∧ T'.heap = h ∧ ∀ t, Steps X.p.tables X.e X.below (T'.setTop g') t → Steps X.p.tables X.e X.below (T.setTop g) t)
    (G : Go X R Z a0 EL nw y bs ml rt Q kc ks sf h k n g') : Go X R Z a0 EL nw y bs ml rt Q kc ks sf h k n g := fun T S => by
  obtain ⟨F, vm0, L, X1, eT, hS, hZ, hown, r⟩ := S
  obtain ⟨T', X2, e2, q⟩ := stp F X1 eT hZ hown
  exact (G T' ⟨F, vm0, L, X2, e2, hS, hZ, hown, r⟩).back q
theorem g_ldcI {ix : Nat} {v : Int32} (hd : decode bs pc = .ok (.ldc ix, 2)) (hp : pc + 2 = pc') (w : (Jvm.Cond.constant y.cls ix v).before a0 Z = true) (G : Go X R Z a0 EL nw y bs ml rt Q kc ks sf h k n (mkF X.m pc' Ls (.int v :: st))) : Go X R Z a0 EL nw y bs ml rt Q kc ks sf h k n (mkF X.m pc Ls st) := by
  subst hp
  exact Go.same (fun F X1 eT hZ hown => ⟨_, X1, eT, fun t q => X1.ldcI F.1 hown (mvT hZ w) rfl (hb F.2.1 hd) q⟩) G
theorem g_ldc2J {ix : Nat} {v : Int64} (hd : decode bs pc = .ok (.ldc2_w ix, 3)) (hp : pc + 3 = pc') (w : (Jvm.Cond.constantLong y.cls ix v).before a0 Z = true) (G : Go X R Z a0 EL nw y bs ml rt Q kc ks sf h k n (mkF X.m pc' Ls (.long v :: st))) : Go X R Z a0 EL nw y bs ml rt Q kc ks sf h k n (mkF X.m pc Ls st) := by
  subst hp
  exact Go.same (fun F X1 eT hZ hown => ⟨_, X1, eT, fun t q => X1.ldc2J F.1 hown (mvT hZ w) rfl (hb F.2.1 hd) q⟩) G
/-! arrays read -/
section Arrays
variable {a : Addr} {kA : ClassId} {z j : Int32} {vs : List Value} {d v : Value}
theorem g_arraylength {ty : FieldType} (hd : decode bs pc = .ok (.arraylength, 1)) (hp : pc + 1 = pc') (A : Arv Z h a kA ty z vs d) (G : Go X R Z a0 EL nw y bs ml rt Q kc ks sf h k n (mkF X.m pc' Ls (.int z :: st))) : Go X R Z a0 EL nw y bs ml rt Q kc ks sf h k n (mkF X.m pc Ls (.ref a :: st)) := by
  subst hp
  refine Go.same (fun F X1 eT hZ hown => ⟨_, X1, eT, fun t q => ?_⟩) G
  obtain ⟨c, Ar, -, s1, n1, -⟩ := A
  refine X1.arraylength F.1 (by rw [eT]; exact Ar.1) (State.isArrayOf_alike hZ.alike Ar.2.1) (g := mkF X.m pc Ls (.ref a :: st)) rfl rfl (hb F.2.1 hd) _ ?_
  rw [len_of s1 n1]
  exact q
theorem g_caload {w : Int32} (hd : decode bs pc = .ok (.caload, 1)) (hp : pc + 1 = pc') (A : Arv Z h a kA .char z vs d) (hj : ¬ j < 0 ∧ j < z) (hv : vs.getD j.toNatClampNeg d = .int w) (G : Go X R Z a0 EL nw y bs ml rt Q kc ks sf h k n (mkF X.m pc' Ls (.int w :: st))) : Go X R Z a0 EL nw y bs ml rt Q kc ks sf h k n (mkF X.m pc Ls (.int j :: .ref a :: st)) := by
  subst hp
  refine Go.same (fun F X1 eT hZ hown => ⟨_, X1, eT, fun t q => ?_⟩) G
  obtain ⟨c, Ar, -, s1, n1, H, -⟩ := A
  exact X1.caload F.1 (by rw [eT]; exact Ar.1) (State.isArrayOf_alike hZ.alike Ar.2.1) Ar.2.2 (inb_of s1 hj) (H.at (inb_of s1 hj) hv) (g := mkF X.m pc Ls (.int j :: .ref a :: st)) rfl rfl (hb F.2.1 hd) _ q
theorem g_iaload {w : Int32} (hd : decode bs pc = .ok (.iaload, 1)) (hp : pc + 1 = pc') (A : Arv Z h a kA .int z vs d) (hj : ¬ j < 0 ∧ j < z) (hv : vs.getD j.toNatClampNeg d = .int w) (G : Go X R Z a0 EL nw y bs ml rt Q kc ks sf h k n (mkF X.m pc' Ls (.int w :: st))) : Go X R Z a0 EL nw y bs ml rt Q kc ks sf h k n (mkF X.m pc Ls (.int j :: .ref a :: st)) := by
  subst hp
  refine Go.same (fun F X1 eT hZ hown => ⟨_, X1, eT, fun t q => ?_⟩) G
  obtain ⟨c, Ar, -, s1, n1, H, -⟩ := A
  exact X1.iaload F.1 (by rw [eT]; exact Ar.1) (State.isArrayOf_alike hZ.alike Ar.2.1) Ar.2.2 (inb_of s1 hj) (H.at (inb_of s1 hj) hv) (g := mkF X.m pc Ls (.int j :: .ref a :: st)) rfl rfl (hb F.2.1 hd) _ q
theorem g_baload {w : Int32} (hd : decode bs pc = .ok (.baload, 1)) (hp : pc + 1 = pc') (A : Arv Z h a kA .byte z vs d) (hj : ¬ j < 0 ∧ j < z) (hv : vs.getD j.toNatClampNeg d = .int w) (G : Go X R Z a0 EL nw y bs ml rt Q kc ks sf h k n (mkF X.m pc' Ls (.int w :: st))) : Go X R Z a0 EL nw y bs ml rt Q kc ks sf h k n (mkF X.m pc Ls (.int j :: .ref a :: st)) := by
  subst hp
  refine Go.same (fun F X1 eT hZ hown => ⟨_, X1, eT, fun t q => ?_⟩) G
  obtain ⟨c, Ar, -, s1, n1, H, -⟩ := A
  exact X1.baloadBytes F.1 (by rw [eT]; exact Ar.1) (State.isArrayOf_alike hZ.alike Ar.2.1) Ar.2.2 (inb_of s1 hj) (H.at (inb_of s1 hj) hv) (g := mkF X.m pc Ls (.int j :: .ref a :: st)) rfl rfl (hb F.2.1 hd) _ q
theorem g_aaload {ty : FieldType} (hd : decode bs pc = .ok (.aaload, 1)) (hp : pc + 1 = pc') (A : Arv Z h a kA ty z vs d) (ht : ty.isReference = true) (hj : ¬ j < 0 ∧ j < z) (hv : vs.getD j.toNatClampNeg d = v) (G : Go X R Z a0 EL nw y bs ml rt Q kc ks sf h k n (mkF X.m pc' Ls (v :: st))) : Go X R Z a0 EL nw y bs ml rt Q kc ks sf h k n (mkF X.m pc Ls (.int j :: .ref a :: st)) := by
  subst hp
  refine Go.same (fun F X1 eT hZ hown => ⟨_, X1, eT, fun t q => ?_⟩) G
  obtain ⟨c, Ar, -, s1, n1, H, -⟩ := A
  exact X1.aaload F.1 (by rw [eT]; exact Ar.1) (State.isArrayOf_alike hZ.alike Ar.2.1) ht Ar.2.2 (inb_of s1 hj) (H.at (inb_of s1 hj) hv) (g := mkF X.m pc Ls (.int j :: .ref a :: st)) rfl rfl (hb F.2.1 hd) _ q
/-! writes: one place of one cell, made since the start, that is no literal's -/
theorem Go.write {sl : Nat} {v : Value} (ha : Z.heap.size ≤ a) (hsafe : ∀ vm, Z.Warmed39 vm → CHv Z EL vm h → (∀ x ∈ sf, x < h.size ∧ Safe Z EL vm h x) → Safe Z EL vm h a)
    (stp : ∀ {vm0 : Vm} {L : List Loc} {T : State}, Fix X Z a0 EL y bs ml rt → Stand X.p X.l X.e R (X.s.setVm vm0) X.m X.args X.below X.meth X.c T L k n → T.heap = h → Z.Warmed39 vm0 → vm0.findClass y.cls = some X.m.cls →
      ∃ T' h', Stand X.p X.l X.e R (X.s.setVm vm0) X.m X.args X.below X.meth X.c T' (L ++ [⟨a, sl⟩]) k n ∧ T'.heap = h' ∧ Wr h h' a sl v ∧ ∀ t, Steps X.p.tables X.e X.below (T'.setTop g') t → Steps X.p.tables X.e X.below (T.setTop g) t)
    (G : ∀ h', Wr h h' a sl v → Go X R Z a0 EL nw y bs ml rt Q kc ks sf h' k n g') : Go X R Z a0 EL nw y bs ml rt Q kc ks sf h k n g := fun T S => by
  obtain ⟨F, vm0, L, X1, eT, hS, hZ, hown, hC, hF, hE, hs, hN⟩ := S
  obtain ⟨T', h', X2, e2, W, q⟩ := stp F X1 eT hZ hown
  exact (G h' W T' (Spot.next F X2 e2 hS hZ hown hC (CHr.wr W (hsafe vm0 hZ hC.1 hs) hC.1) (Fr.snoc X2 hF ha) (ext_keep hE (Keep.of_wr W) (allS ha all0)) hs hN)).back q
theorem sfIn (hm : a ∈ sf) : ∀ vm, Z.Warmed39 vm → CHv Z EL vm h → (∀ x ∈ sf, x < h.size ∧ Safe Z EL vm h x) → Safe Z EL vm h a := fun _ _ _ q => (q a hm).2
theorem sfArv {ty : FieldType} (A : Arv Z h a kA ty z vs d) (ht : ty ≠ .byte) : ∀ vm, Z.Warmed39 vm → CHv Z EL vm h → (∀ x ∈ sf, x < h.size ∧ Safe Z EL vm h x) → Safe Z EL vm h a := fun _ hZ _ _ => Safe.arv hZ.alike A ht
theorem sfExa {C : String} (E : Exa Z h a C) (h1 : C ≠ "java/lang/String") (h2 : C ≠ "[B") : ∀ vm, Z.Warmed39 vm → CHv Z EL vm h → (∀ x ∈ sf, x < h.size ∧ Safe Z EL vm h x) → Safe Z EL vm h a := fun _ hZ _ _ => Safe.exa hZ.alike E h1 h2
theorem g_castore {x1 : Int32} {i : Nat} (hd : decode bs pc = .ok (.castore, 1)) (hp : pc + 1 = pc') (A : Arv Z h a kA .char z vs d) (ha : Z.heap.size ≤ a) (hj : ¬ j < 0 ∧ j < z) (hi : j.toNatClampNeg = i) (hl : i < vs.length)
    (G : ∀ h', Keep h h' [a] → Arv Z h' a kA .char z (vs.set i (.int (nar .char x1))) d → Go X R Z a0 EL nw y bs ml rt Q kc ks sf h' k n (mkF X.m pc' Ls st)) : Go X R Z a0 EL nw y bs ml rt Q kc ks sf h k n (mkF X.m pc Ls (.int x1 :: .int j :: .ref a :: st)) := by
  subst hp
  have A' := A
  obtain ⟨c, Ar, k1, s1, n1, H, G1⟩ := A'
  refine Go.write (v := .int (nar .char x1)) ha (sfArv A (by decide)) (fun F X1 eT hZ hown => stC X1 F.1 (Z := Z) hZ eT Ar (x := x1) (inb_of s1 hj) (g := mkF X.m pc Ls (.int x1 :: .int j :: .ref a :: st)) rfl rfl (hb F.2.1 hd)) (fun h' W => G h' (Keep.of_wr W) (Arv.set Ar k1 s1 n1 H G1 (fits_nar_char x1) W i hi hl))
theorem g_castoreX {x1 : Int32} {i : Nat} (hd : decode bs pc = .ok (.castore, 1)) (hp : pc + 1 = pc') (hx1 : nar .char x1 = x1) (A : Arv Z h a kA .char z vs d) (ha : Z.heap.size ≤ a) (hj : ¬ j < 0 ∧ j < z) (hi : j.toNatClampNeg = i) (hl : i < vs.length)
    (G : ∀ h', Keep h h' [a] → Arv Z h' a kA .char z (vs.set i (.int x1)) d → Go X R Z a0 EL nw y bs ml rt Q kc ks sf h' k n (mkF X.m pc' Ls st)) : Go X R Z a0 EL nw y bs ml rt Q kc ks sf h k n (mkF X.m pc Ls (.int x1 :: .int j :: .ref a :: st)) :=
  g_castore hd hp A ha hj hi hl fun h' K A' => G h' K (by rw [hx1] at A'; exact A')
theorem g_bastore {x1 : Int32} {i : Nat} (hd : decode bs pc = .ok (.bastore, 1)) (hp : pc + 1 = pc') (A : Arv Z h a kA .byte z vs d) (ha : Z.heap.size ≤ a) (hm : a ∈ sf) (hj : ¬ j < 0 ∧ j < z) (hi : j.toNatClampNeg = i) (hl : i < vs.length)
    (G : ∀ h', Keep h h' [a] → Arv Z h' a kA .byte z (vs.set i (.int (nar .byte x1))) d → Go X R Z a0 EL nw y bs ml rt Q kc ks sf h' k n (mkF X.m pc' Ls st)) : Go X R Z a0 EL nw y bs ml rt Q kc ks sf h k n (mkF X.m pc Ls (.int x1 :: .int j :: .ref a :: st)) := by
  subst hp
  obtain ⟨c, Ar, k1, s1, n1, H, G1⟩ := A
  refine Go.write (v := .int (nar .byte x1)) ha (sfIn hm) (fun F X1 eT hZ hown => stB X1 F.1 (Z := Z) hZ eT Ar (x := x1) (inb_of s1 hj) (g := mkF X.m pc Ls (.int x1 :: .int j :: .ref a :: st)) rfl rfl (hb F.2.1 hd)) (fun h' W => G h' (Keep.of_wr W) (Arv.set Ar k1 s1 n1 H G1 (fits_nar_byte x1) W i hi hl))
theorem g_iastore {x1 : Int32} {i : Nat} (hd : decode bs pc = .ok (.iastore, 1)) (hp : pc + 1 = pc') (A : Arv Z h a kA .int z vs d) (ha : Z.heap.size ≤ a) (hj : ¬ j < 0 ∧ j < z) (hi : j.toNatClampNeg = i) (hl : i < vs.length)
    (G : ∀ h', Keep h h' [a] → Arv Z h' a kA .int z (vs.set i (.int x1)) d → Go X R Z a0 EL nw y bs ml rt Q kc ks sf h' k n (mkF X.m pc' Ls st)) : Go X R Z a0 EL nw y bs ml rt Q kc ks sf h k n (mkF X.m pc Ls (.int x1 :: .int j :: .ref a :: st)) := by
  subst hp
  have A' := A
  obtain ⟨c, Ar, k1, s1, n1, H, G1⟩ := A'
  refine Go.write (v := .int x1) ha (sfArv A (by decide)) (fun F X1 eT hZ hown => stI X1 F.1 (Z := Z) hZ eT Ar (x := x1) (inb_of s1 hj) (g := mkF X.m pc Ls (.int x1 :: .int j :: .ref a :: st)) rfl rfl (hb F.2.1 hd)) (fun h' W => G h' (Keep.of_wr W) (Arv.set Ar k1 s1 n1 H G1 rfl W i hi hl))
theorem g_aastore {C : String} {w : Addr} {i : Nat} (hd : decode bs pc = .ok (.aastore, 1)) (hp : pc + 1 = pc') (A : Arv Z h a kA (.object C) z vs d) (O : Ovr Z kA C) (I : Ins Z h w C true) (ha : Z.heap.size ≤ a) (hj : ¬ j < 0 ∧ j < z) (hi : j.toNatClampNeg = i) (hl : i < vs.length)
    (G : ∀ h', Keep h h' [a] → Arv Z h' a kA (.object C) z (vs.set i (.ref w)) d → Go X R Z a0 EL nw y bs ml rt Q kc ks sf h' k n (mkF X.m pc' Ls st)) : Go X R Z a0 EL nw y bs ml rt Q kc ks sf h k n (mkF X.m pc Ls (.ref w :: .int j :: .ref a :: st)) := by
  subst hp
  have A' := A
  obtain ⟨c, Ar, k1, s1, n1, H, G1⟩ := A'
  refine Go.write (v := .ref w) ha (sfArv A (by intro q; cases q)) (fun F X1 eT hZ hown => stR X1 F.1 (Z := Z) hZ eT Ar (inb_of s1 hj) rfl (Sto.ofV Ar k1 O I) (g := mkF X.m pc Ls (.ref w :: .int j :: .ref a :: st)) rfl rfl (hb F.2.1 hd)) (fun h' W => G h' (Keep.of_wr W) (Arv.set Ar k1 s1 n1 H G1 rfl W i hi hl))
end Arrays
/-! fields -/
theorem g_getfield {O nm d : String} {ix : Nat} {a : Addr} {v : Value} (hd : decode bs pc = .ok (.getfield ix, 3)) (hp : pc + 3 = pc') (w : (Jvm.Cond.fieldLink y.cls ix O nm d).before a0 Z = true) (Fl : Fld Z h a O nm d v) (G : Go X R Z a0 EL nw y bs ml rt Q kc ks sf h k n (mkF X.m pc' Ls (v :: st))) : Go X R Z a0 EL nw y bs ml rt Q kc ks sf h k n (mkF X.m pc Ls (.ref a :: st)) := by
  subst hp
  exact Go.same (fun F X1 eT hZ hown => getF X1 F.1 (Z := Z) hZ hown (host := "") (Or.inl w) Via.refl eT Fl (g := mkF X.m pc Ls (.ref a :: st)) rfl rfl (hb F.2.1 hd)) G
theorem g_getstatic {O nm d : String} {ix : Nat} {v : Value} (hd : decode bs pc = .ok (.getstatic ix, 3)) (hp : pc + 3 = pc') (w : (Jvm.Cond.fieldLink y.cls ix O nm d).before a0 Z = true) (Fl : Sta Z Z.heap O nm d v) (G : Go X R Z a0 EL nw y bs ml rt Q kc ks sf h k n (mkF X.m pc' Ls (v :: st))) : Go X R Z a0 EL nw y bs ml rt Q kc ks sf h k n (mkF X.m pc Ls st) := by
  subst hp
  exact Go.old fun E => Go.same (fun F X1 eT hZ hown => getS X1 F.1 (Z := Z) hZ (host := "") hown w Via.refl eT (Fl.ext E) (g := mkF X.m pc Ls st) rfl (hb F.2.1 hd)) G
theorem g_putfield {O nm d C : String} {ix kk : Nat} {ty : FieldType} {a : Addr} {v old : Value} (hd : decode bs pc = .ok (.putfield ix, 3)) (hp : pc + 3 = pc') (w : (Jvm.Cond.fieldLink y.cls ix O nm d).before a0 Z = true) (Fl : Fld Z h a O nm d old) (E : Exa Z h a C)
    (L : (Jvm.Cond.lays C O nm d).before a0 Z = true ∨ ((Jvm.Cond.laysFinal C O nm d).before a0 Z = true ∧ y.cls = O ∧ y.name = "<init>")) (wi : (Jvm.Cond.instantiable C kk).before a0 Z = true) (hty : parseFieldDescriptor d = some ty) (hn : narrow ty v = v) (hf : fits ty v = true) (ha : Z.heap.size ≤ a) (hm : a ∈ sf)
    (G : ∀ h', Wr h h' a (RoadKit.slotOf Z O nm d) v → Go X R Z a0 EL nw y bs ml rt Q kc ks sf h' k n (mkF X.m pc' Ls st)) : Go X R Z a0 EL nw y bs ml rt Q kc ks sf h k n (mkF X.m pc Ls (v :: .ref a :: st)) := by
  subst hp
  exact Go.write (v := v) ha (sfIn hm) (fun F X1 eT hZ hown => putF X1 F.1 (Z := Z) hZ hown (host := "") (Or.inl w) Via.refl eT Fl E (L.imp id fun q => ⟨q.1, q.2.1, F.2.2.2.2.1.trans q.2.2⟩) wi hty hn hf (g := mkF X.m pc Ls (v :: .ref a :: st)) rfl rfl (hb F.2.1 hd)) G
theorem g_checkcast {K : String} {ix : Nat} {a : Addr} (hd : decode bs pc = .ok (.checkcast ix, 3)) (hp : pc + 3 = pc') (w : (Jvm.Cond.classLink y.cls ix K).before a0 Z = true) (I : Ins Z h a K true) (G : Go X R Z a0 EL nw y bs ml rt Q kc ks sf h k n (mkF X.m pc' Ls (.ref a :: st))) : Go X R Z a0 EL nw y bs ml rt Q kc ks sf h k n (mkF X.m pc Ls (.ref a :: st)) := by
  subst hp
  exact Go.same (fun F X1 eT hZ hown => castY X1 F.1 (Z := Z) hZ hown w eT I (g := mkF X.m pc Ls (.ref a :: st)) rfl rfl (hb F.2.1 hd)) G
theorem g_instanceofY {K : String} {ix : Nat} {a : Addr} (hd : decode bs pc = .ok (.instanceof ix, 3)) (hp : pc + 3 = pc') (w : (Jvm.Cond.classLink y.cls ix K).before a0 Z = true) (I : Ins Z h a K true) (G : Go X R Z a0 EL nw y bs ml rt Q kc ks sf h k n (mkF X.m pc' Ls (.int 1 :: st))) : Go X R Z a0 EL nw y bs ml rt Q kc ks sf h k n (mkF X.m pc Ls (.ref a :: st)) := by
  subst hp
  exact Go.same (fun F X1 eT hZ hown => instY X1 F.1 (Z := Z) hZ hown w eT I (g := mkF X.m pc Ls (.ref a :: st)) rfl rfl (hb F.2.1 hd)) G
/-- Object's constructor -/
theorem g_objinit {ix : Nat} {a : Addr} (hd : decode bs pc = .ok (.invokespecial ix, 3)) (hp : pc + 3 = pc') (w1 : (Jvm.Cond.methodLink y.cls ix Lib.objectInit).before a0 Z = true) (w2 : (Jvm.Cond.instanceMethod Lib.objectInit).before a0 Z = true) (w3 : (Jvm.Cond.code Lib.objectInit ⟨#[0xb1]⟩ 1 none).before a0 Z = true)
    (hz : Ls.size = ml) (hf : Nat.ble 1 R.frames = true) (hl : Nat.ble ((st.map fun v => v.category).sum + 12) R.locals = true) (G : Go X R Z a0 EL nw y bs ml rt Q kc ks sf h k n (mkF X.m pc' Ls st)) : Go X R Z a0 EL nw y bs ml rt Q kc ks sf h k n (mkF X.m pc Ls (.ref a :: st)) := by
  subst hp
  exact Go.same (fun F X1 eT hZ hown => initO X1 F.1 (Z := Z) hZ hown w1 w2 w3 eT (g := mkF X.m pc Ls (.ref a :: st)) rfl (by rw [F.2.2.1]; exact hz) rfl (hb F.2.1 hd) (ble hf) (W := (st.map fun v => v.category).sum) (by show 2 * 0 + _ ≤ _; omega) (ble hl)) G
/-- an array's clone() -/
theorem g_clone {ix cap : Nat} {ad : String} {a : Addr} {kA : ClassId} {ty : FieldType} {z : Int32} {vs : List Value} {d : Value} (hd : decode bs pc = .ok (.invokevirtual ix, 3)) (hp : pc + 3 = pc')
    (w1 : (Jvm.Cond.methodLink y.cls ix ⟨ad, "clone", "()Ljava/lang/Object;"⟩).before a0 Z = true) (w2 : (Jvm.Cond.sameMethod ad "java/lang/Object" "clone" "()Ljava/lang/Object;").before a0 Z = true) (w3 : (Jvm.Cond.native ⟨"java/lang/Object", "clone", "()Ljava/lang/Object;"⟩).before a0 Z = true)
    (w4 : (Jvm.Cond.instanceMethod ⟨"java/lang/Object", "clone", "()Ljava/lang/Object;"⟩).before a0 Z = true) (w5 : (Jvm.Cond.selects ad ⟨ad, "clone", "()Ljava/lang/Object;"⟩ ⟨"java/lang/Object", "clone", "()Ljava/lang/Object;"⟩).before a0 Z = true) (w6 : (Jvm.Cond.castable ad "java/lang/Cloneable").before a0 Z = true)
    (A : Arv Z h a kA ty z vs d) (E : Exa Z h a ad) (hz : Ls.size = ml) (hf : Nat.ble 1 R.frames = true) (hl : Nat.ble ((st.map fun v => v.category).sum + 14) R.locals = true) (hcap : z.toNatClampNeg ≤ cap) (hk : Nat.ble (k + 1) R.cells = true) (hn : Nat.ble (n + cap) R.slots = true)
    (G : ∀ h' b, b = h.size → Ext h h' → Arv Z h' b kA ty z vs d → Exa Z h' b ad → Go X R Z a0 EL nw y bs ml rt Q kc ks (b :: sf) h' (k + 1) (n + cap) (mkF X.m pc' Ls (.ref b :: st))) : Go X R Z a0 EL nw y bs ml rt Q kc ks sf h k n (mkF X.m pc Ls (.ref a :: st)) := fun T S => by
  subst hp
  obtain ⟨F, vm0, L, X1, eT, hS, hZ, hown, hC, hF, hE, hs, hN⟩ := S
  obtain ⟨c, Ar, k1, s1, n1, H, G1⟩ := A
  have hfit : FitC Z c := fitC_of Ar fun i hi v hv => by
    have q := H i hi
    rw [hv] at q
    cases q
    exact G1 i hi
  obtain ⟨T', h', X2, e2, E2, A2, B2, stp⟩ := cloneA X1 F.1 (Z := Z) hZ hown w1 w2 w3 w4 w5 w6 eT Ar E hfit (g := mkF X.m pc Ls (.ref a :: st)) rfl (by rw [F.2.2.1]; exact hz) rfl (hb F.2.1 hd) (ble hf) (W := (st.map fun v => v.category).sum) (cap := cap) (by show 2 * 0 + _ ≤ _; omega) (ble hl) (by rw [s1]; exact hcap) (ble hk) (ble hn)
  have A3 : Arv Z h' h.size kA ty z vs d := ⟨cloneOf c, A2, k1, s1, n1, H, G1⟩
  refine (G h' _ rfl E2 A3 B2 T' ?_).back stp
  exact ⟨F, vm0, _, X2, e2, ⟨hS.1, hS.2.mono E2.1⟩, hZ, hown, hC.trans (CHr.ext E2 hC.1), hF, ext_trans hE E2, fun x hx => by
    rcases List.mem_cons.mp hx with rfl | hx
    · exact ⟨A3.lt, Safe.ext E2 hC.1 (Safe.new (Nat.le_refl _))⟩
    · exact ⟨Nat.lt_of_lt_of_le (hs x hx).1 E2.1, Safe.ext E2 hC.1 (hs x hx).2⟩, hN⟩
/-! a String constant -/
theorem g_ldcS (hnw : nw = false) {text : String} {ix nn : Nat} {vs : List Value} {z : Int32} (hd : decode bs pc = .ok (.ldc ix, 2)) (hp : pc + 2 = pc') (w : (Jvm.Cond.stringLink y.cls ix text).before a0 Z = true) (wS : ∀ a ∈ Bundle.stringAtoms, a.before a0 Z = true) (hm : (y.cls, ix) ∈ EL)
    (ht : (∀ c ∈ text.toList, c.toNat < 256) ∧ text.toList.map (fun c => Value.int (Jvm.Lit.byteI c.toNat.toUInt16)) = vs) (hz : ¬ z < 0) (hl : z.toNatClampNeg = vs.length) (h4 : Nat.ble (4 * text.toList.length) nn = true) (hbig : Nat.ble nn 536870912 = true) (hk : Nat.ble (k + 2) R.cells = true) (hn : Nat.ble (n + (nn + 4)) R.slots = true)
    (G : ∀ h' a b kb, Ext h h' → Exa Z h' a "java/lang/String" → Fld Z h' a "java/lang/String" "coder" "B" (.int 0) → Fld Z h' a "java/lang/String" "value" "[B" (.ref b) → Arv Z h' b kb .byte z vs (.int 0) → (∀ x ∈ sf, x ≠ a ∧ x ≠ b) → Go X R Z a0 EL nw y bs ml rt Q kc ks sf h' (k + 2) (n + (nn + 4)) (mkF X.m pc' Ls (.ref a :: st))) : Go X R Z a0 EL nw y bs ml rt Q kc ks sf h k n (mkF X.m pc Ls st) := fun T S => by
  subst hp
  obtain ⟨F, vm0, L, X1, eT, hS, hZ, hown, hC, hF, hE, hs, hN⟩ := S
  obtain ⟨a, T', h', k1, b, kb, X2, e2, E2, hS2, hk2, hZ2, hown2, A1, A2, A3, A4, l1, l2, hC2, -, hne, q⟩ := ldcCH X1 F.1 (Z := Z) hZ hown w wS eT hS (Nat.le_refl _) F.2.2.2.2.2.2 hm hC.1 ht hz hl (g := mkF X.m pc Ls st) rfl (hb F.2.1 hd) (ble h4) (ble hbig) (ble hk) (ble hn)
  have hs' : ∀ x ∈ sf, x < h'.size ∧ Safe Z EL T'.vm h' x := fun x hx => ⟨Nat.lt_of_lt_of_le (hs x hx).1 E2.1, hC2.safe (hs x hx).1 (hs x hx).2⟩
  exact (G h' a b kb E2 A1 A2 A3 A4 (fun x hx => hne x (hs' x hx).2) T' ⟨F, T'.vm, L, X2, e2, ⟨hS2.1, hS2.2.mono hk2⟩, hZ2, hown2, hC.trans hC2, hF, ext_trans hE E2, hs', fun q => by rw [hnw] at q; cases q⟩).back q
/-! calls -/
/-- whoever pays the call of y on the arguments as', from the heap h: at most kc cells and ks slots made; Q of what comes back -/
def Pay (l : Launch) (R : Room) (y : MethodName) (W : Nat) (as' : Array Value) (Z : State) (a0 : Array Value) (EL : List (String × Nat)) (nw : Bool) (sf : List Addr) (h : Heap) (kc ks : Nat) (Q : Option Value → Heap → Prop) : Prop :=
  ∀ (p : Program) (e : Env) (below : List Frame) (s : State) (args : Array Value) (len : Nat) (vm0 : Vm), Z.Warmed39 vm0 → CHv Z EL vm0 h → Ext Z.heap h → (∀ x ∈ sf, x < h.size ∧ Safe Z EL vm0 h x) → EW Z a0 EL →
    BackS l R p e below (s.setVm vm0) args y len W (fun A a => a = as' ∧ A.U.heap = h ∧ A.cells + kc ≤ R.cells ∧ A.slots + ks ≤ R.slots)
      (fun A _ v B => ∃ L, (Q v B.U.heap ∧ Fr Z.heap.size L ∧ Ext Z.heap B.U.heap) ∧ B.locs = A.locs ++ L ∧ B.cells = A.cells + kc ∧ B.slots = A.slots + ks ∧ CHr Z EL vm0 h B.U.vm B.U.heap ∧ (nw = true → (s.setVm vm0).WarmedH B.U.vm))
/-- the contract of a method: walked from its entry -/
def MetW (ws : List Jvm.Cond) (l : Launch) (y : MethodName) (bs : ByteArray) (ml : Nat) (rt : Option FieldType) (rm : Room) (as' : Array Value) (Z : State) (a0 : Array Value) (EL : List (String × Nat)) (nw : Bool) (sf : List Addr) (h : Heap) (Q : Option Value → Heap → Prop) : Prop :=
  MetFree l y (head1 (Jvm.Cond.code y bs ml rt :: ws) rm) (fun a U => a = as' ∧ Z.Warmed39 U.vm ∧ U.heap = h ∧ CHv Z EL U.vm h ∧ Ext Z.heap h ∧ EW Z a0 EL ∧ ∀ x ∈ sf, x < h.size ∧ Safe Z EL U.vm h x) (fun _ _ _ _ _ => True)
    (fun _ U o U' => ∃ v L, o = .returned v ∧ (Q v U'.heap ∧ Fr Z.heap.size L ∧ Ext Z.heap U'.heap) ∧ CHr Z EL U.vm U.heap U'.vm U'.heap ∧ (nw = true → U.WarmedH U'.vm) ∧ ReturnedEndW U o U' L rm.cells rm.slots)
theorem MetW.of {ws : List Jvm.Cond} {l : Launch} {rm : Room} {as' : Array Value} (hpl : plainFor y = true)
    (H : ∀ X : Cx, X.l = l → Go X rm Z a0 EL nw y bs ml rt Q rm.cells rm.slots sf h 0 0 (entryFrame X.m as' ml)) : MetW ws l y bs ml rt rm as' Z a0 EL nw sf h Q := by
  refine MetFree.of_bodySF hpl hisR ?_
  intro p e s m args below meth c s₁ Bd hml0 hP hK
  obtain ⟨rfl, hZ, rfl, hC, hE, hEL, hs⟩ := hP
  have e0 : s₁.heap = s.heap := by rw [Bd.state]; rfl
  exact H (p, l, e, s, m, args, below, meth, c) rfl s₁ ⟨⟨Bd.exec, Bd.bytes, hml0, Bd.returns, (name_of_methodNamed Bd.named Bd.method).1, Bd.notSynchronized, hEL⟩, s.vm, [], Stand.of_body Bd, e0, (State.WarmedH.refl s).since _, hZ, findClass_of_methodNamed Bd.named, CHr.refl hC, Fr.nil _, hE, hs, fun _ => State.WarmedH.refl s⟩
theorem Pay.of_met {l : Launch} {rm : Room} {as' : Array Value} {W : Nat} (hM : MetW [] l y bs ml rt rm as' Z a0 EL nw sf h Q) (wc : (Jvm.Cond.code y bs ml rt).before a0 Z = true) (wz : (Jvm.Cond.initialized y.cls).before a0 Z = true) (hf : Nat.ble (rm.frames + 1) R.frames = true) (hl : Nat.ble (W + (ml + 11) + rm.locals) R.locals = true) :
    Pay l R y W as' Z a0 EL nw sf h rm.cells rm.slots Q := fun p e below s args len vm0 hZ H hE hs hEL =>
  BackS.of_freeW (bytes := bs) (maxL := ml) (ret := rt) (E := fun _ first o t L k n => k = rm.cells ∧ n = rm.slots ∧ (∃ v, o = .returned v ∧ Q v t.heap ∧ Fr Z.heap.size L ∧ Ext Z.heap t.heap) ∧ CHr Z EL first.vm first.heap t.vm t.heap ∧ (nw = true → first.WarmedH t.vm)) hM (ble hf) (ble hl)
    (fun m meth c A a Y hp => have hU : Z.Warmed39 A.U.vm := wtrans (s := s.setVm vm0) hZ Y.warmed
      ⟨by show (Jvm.Cond.and _ .tt).before a A.U = true; rw [Cond.before_and, mv hU wc]; rfl, mv hU wc, mv hU wz, hp.2.2.1, hp.2.2.2⟩)
    (fun m meth c A a g mk Y hp => ⟨hp.1, wtrans (s := s.setVm vm0) hZ Y.warmed, hp.2.1, (CHv.at Y hZ hEL H).1, hE, hEL, fun x hx => ⟨(hs x hx).1, (CHv.at Y hZ hEL H).safe (hs x hx).1 (hs x hx).2⟩⟩) (fun _ _ _ _ _ _ _ _ _ => trivial)
    (fun _ _ _ _ ⟨v, L, h1, h2, h3, h5, h4⟩ => ⟨L, _, _, h4, rfl, rfl, ⟨v, h1, h2⟩, h3, h5⟩)
    (fun m meth c A a g mk v t L k n Y hp _ _ ⟨e1, e2, ⟨v', e3, e4⟩, e5, e6⟩ => by
      cases e3; subst e1 e2
      refine ⟨L, e4, rfl, rfl, rfl, (CHv.at Y hZ hEL H).trans ?_, fun q => State.WarmedH.trans Y.warmed (e6 q)⟩
      rw [← hp.2.1]; exact e5)
/-- a law of the other texts, that interns nothing: what it writes are cells made since the start, no literal's -/
theorem Pay.of_back {l : Launch} {as' : Array Value} {W : Nat} {Q0 : Option Value → Heap → List Loc → Prop} (wsl : List Addr)
    (hB : ∀ (p : Program) (e : Env) (below : List Frame) (s : State) (args : Array Value) (len : Nat), Z.Warmed39 s.vm → Back l R p e below s args y len W (fun A a => a = as' ∧ A.U.heap = h ∧ A.cells + kc ≤ R.cells ∧ A.slots + ks ≤ R.slots) (fun A _ v B => ∃ L, Q0 v B.U.heap L ∧ B.locs = A.locs ++ L ∧ B.cells = A.cells + kc ∧ B.slots = A.slots + ks))
    (hw : ∀ x ∈ wsl, x ∈ sf ∧ Z.heap.size ≤ x) (hQ : ∀ v h' L, Q0 v h' L → Q v h' ∧ Keep h h' wsl ∧ Fr Z.heap.size L) : Pay l R y W as' Z a0 EL nw sf h kc ks Q := fun p e below s args len vm0 hZ H hE hs hEL m meth c A g ig mk a X1 hg hsize hdg hW hn hp => by
  obtain ⟨v, B, X2, ⟨L, hq, e1, e2, e3⟩, stp⟩ := hB p e below (s.setVm vm0) args len hZ m meth c A g ig mk a X1 hg hsize hdg hW hn hp
  obtain ⟨q1, q2, q3⟩ := hQ _ _ _ hq
  have hC2 : CHr Z EL vm0 h vm0 B.U.heap := CHr.keep q2 (fun x hx => (hs x (hw x hx).1).2) H
  have hsz : A.U.heap.size ≤ B.U.heap.size := by rw [hp.2.1]; exact q2.1
  exact ⟨v, B, X2.retabled X2.warmed.wide, X2.warmed.since _, hsz, ⟨L, ⟨q1, q3, ext_keep hE q2 fun x hx => (hw x hx).2⟩, e1, e2, e3, hC2.trans (CHv.at X2 hZ hEL hC2.1), fun _ => X2.warmed⟩, stp⟩
theorem Pay.pure {l : Launch} {as' : Array Value} {W : Nat} {P : Option Value → Prop}
    (hB : ∀ (p : Program) (e : Env) (below : List Frame) (s : State) (args : Array Value) (len : Nat), Z.Warmed39 s.vm → Back l R p e below s args y len W (fun A a => a = as' ∧ A.U.heap = h ∧ A.cells + 0 ≤ R.cells ∧ A.slots + 0 ≤ R.slots) (fun A _ v B => ∃ L, (P v ∧ L = [] ∧ B.U.heap = h) ∧ B.locs = A.locs ++ L ∧ B.cells = A.cells + 0 ∧ B.slots = A.slots + 0)) : Pay l R y W as' Z a0 EL nw sf h 0 0 (fun v h' => P v ∧ h' = h) :=
  Pay.of_back (Q0 := fun v h' L => P v ∧ L = [] ∧ h' = h) [] hB (fun _ q => nomatch q) fun v h' L q => by
    obtain ⟨q1, rfl, rfl⟩ := q
    exact ⟨⟨q1, rfl⟩, Keep.refl _ _, Fr.nil _⟩
theorem Pay.weak {l : Launch} {as' : Array Value} {W : Nat} {Q' : Option Value → Heap → Prop} (P : Pay l R y W as' Z a0 EL nw sf h kc ks Q) (hQ : ∀ v h', Q v h' → Q' v h') : Pay l R y W as' Z a0 EL nw sf h kc ks Q' := fun p e below s args len vm0 hZ H hE hs hEL m meth c A g ig mk a X1 hg hsize hdg hW hn hp => by
  obtain ⟨v, B, X2, h1, h2, ⟨L, ⟨q1, q2⟩, r⟩, stp⟩ := P p e below s args len vm0 hZ H hE hs hEL m meth c A g ig mk a X1 hg hsize hdg hW hn hp
  exact ⟨v, B, X2, h1, h2, ⟨L, ⟨hQ _ _ q1, q2⟩, r⟩, stp⟩
/-- more room than it needs -/
theorem Pay.up {l : Launch} {as' : Array Value} {W kc' ks' : Nat} (P : Pay l R y W as' Z a0 EL nw sf h kc ks Q) (hk : kc ≤ kc') (hs' : ks ≤ ks') : Pay l R y W as' Z a0 EL nw sf h kc' ks' Q := fun p e below s args len vm0 hZ H hE hs hEL m meth c A g ig mk a X1 hg hsize hdg hW hn hp => by
  obtain ⟨v, B, X2, h1, h2, ⟨L, q, e1, e2, e3, r⟩, stp⟩ := P p e below s args len vm0 hZ H hE hs hEL m meth c A g ig mk a X1 hg hsize hdg hW hn ⟨hp.1, hp.2.1, by have := hp.2.2.1; omega, by have := hp.2.2.2; omega⟩
  exact ⟨v, ⟨B.U, B.locs, A.cells + kc', A.slots + ks'⟩, X2.mono (by rw [e2]; show _ ≤ A.cells + kc'; omega) (by rw [e3]; show _ ≤ A.slots + ks'; omega), h1, h2, ⟨L, q, e1, rfl, rfl, r⟩, stp⟩
/-- behind any call -/
theorem Go.back {vm0 : Vm} {L : List Loc} {kc' ks' : Nat} {Q' : Option Value → Heap → Prop} {v : Option Value} {B : Pt} (F : Fix X Z a0 EL y bs ml rt) (eT : T.heap = h) (hS : X.s.Since vm0 h.size) (hZ : Z.Warmed39 vm0) (hown : vm0.findClass y.cls = some X.m.cls) (hC : CHr Z EL X.s.vm X.s.heap vm0 h) (hF : Fr Z.heap.size L) (hs : ∀ x ∈ sf, x < h.size ∧ Safe Z EL vm0 h x)
    (X2 : Stand X.p X.l X.e R ((X.s.setVm vm0).setVm B.U.vm) X.m X.args X.below X.meth X.c B.U B.locs B.cells B.slots) (hS2 : (X.s.setVm vm0).Since B.U.vm B.U.heap.size) (hle : T.heap.size ≤ B.U.heap.size)
    (hq : ∃ L', (Q' v B.U.heap ∧ Fr Z.heap.size L' ∧ Ext Z.heap B.U.heap) ∧ B.locs = L ++ L' ∧ B.cells = k + kc' ∧ B.slots = n + ks' ∧ CHr Z EL vm0 h B.U.vm B.U.heap ∧ (nw = true → (X.s.setVm vm0).WarmedH B.U.vm)) (hN : nw = true → X.s.WarmedH vm0)
    (G : ∀ v h', Q' v h' → h.size ≤ h'.size → Go X R Z a0 EL nw y bs ml rt Q kc ks sf h' (k + kc') (n + ks') (mkF X.m pc' Ls (v.toList ++ st))) : Done X Z EL nw Q kc ks B.U (mkF X.m pc' Ls (v.toList ++ st)) := by
  subst eT
  obtain ⟨L', ⟨q1, q2, q3⟩, e1, e2, e3, hC2, hN2⟩ := hq
  rw [e1, e2, e3] at X2
  exact G v B.U.heap q1 hle B.U ⟨F, B.U.vm, _, X2, rfl, hS.trans hS2 hle, State.Warmed39.trans (t := X.s.setVm vm0) hZ hS2.1, (hS2.1.alike.findClass _ _).trans hown, hC.trans hC2, hF.app q2, q3, fun x hx => ⟨Nat.lt_of_lt_of_le (hs x hx).1 hle, hC2.safe (hs x hx).1 (hs x hx).2⟩, fun q => State.WarmedH.trans (hN q) (hN2 q)⟩
/-- behind a call that interned nothing: what it made is no literal's -/
theorem Go.backB {vm0 : Vm} {L : List Loc} {kc' ks' : Nat} {Q' : Option Value → Heap → Prop} {v : Option Value} {B : Pt} (wsl : List Addr) (F : Fix X Z a0 EL y bs ml rt) (eT : T.heap = h) (hS : X.s.Since vm0 h.size) (hZ : Z.Warmed39 vm0) (hown : vm0.findClass y.cls = some X.m.cls) (hC : CHr Z EL X.s.vm X.s.heap vm0 h) (hF : Fr Z.heap.size L) (hs : ∀ x ∈ sf, x < h.size ∧ Safe Z EL vm0 h x)
    (X2 : Stand X.p X.l X.e R ((X.s.setVm vm0).setVm B.U.vm) X.m X.args X.below X.meth X.c B.U B.locs B.cells B.slots) (hS2 : (X.s.setVm vm0).Since B.U.vm B.U.heap.size) (hle : T.heap.size ≤ B.U.heap.size)
    (hq : ∃ L', (Q' v B.U.heap ∧ Fr Z.heap.size L' ∧ Ext Z.heap B.U.heap) ∧ B.locs = L ++ L' ∧ B.cells = k + kc' ∧ B.slots = n + ks' ∧ CHr Z EL vm0 h B.U.vm B.U.heap ∧ (true = true → (X.s.setVm vm0).WarmedH B.U.vm)) (hN : nw = true → X.s.WarmedH vm0)
    (hKp : ∀ v h', Q' v h' → Keep h h' wsl) (hws : ∀ x ∈ wsl, x ∈ sf)
    (G : ∀ v h', Q' v h' → h.size ≤ h'.size → ∃ nb : List Addr, (∀ x ∈ nb, h.size ≤ x ∧ x < h'.size) ∧ Go X R Z a0 EL nw y bs ml rt Q kc ks (nb ++ sf) h' (k + kc') (n + ks') (mkF X.m pc' Ls (v.toList ++ st))) : Done X Z EL nw Q kc ks B.U (mkF X.m pc' Ls (v.toList ++ st)) := by
  subst eT
  obtain ⟨L', ⟨q1, q2, q3⟩, e1, e2, e3, hC2, hN2⟩ := hq
  have hW : (X.s.setVm vm0).WarmedH B.U.vm := hN2 rfl
  have hlat := CHv.later (vm := vm0) (vm1 := B.U.vm) (h := T.heap) (h' := T.heap) hZ (show (Wst Z vm0 T.heap).Warmed39 B.U.vm from hW.wide) F.2.2.2.2.2.2 (ext_refl _) (Or.inl hW.interned_eq) hC.1
  have hsl : ∀ x ∈ wsl, Safe Z EL B.U.vm T.heap x := fun x hx bk => by
    have hx' := hs x (hws x hx)
    rcases hlat.2 x bk with q | q
    · exact hx'.2 q
    · exact absurd hx'.1 (Nat.not_lt.mpr q)
  obtain ⟨nb, hnb, G'⟩ := G v B.U.heap q1 hle
  rw [e1, e2, e3] at X2
  refine G' B.U ⟨F, B.U.vm, _, X2, rfl, hS.trans hS2 hle, State.Warmed39.trans (t := X.s.setVm vm0) hZ hS2.1, (hS2.1.alike.findClass _ _).trans hown, hC.trans hC2, hF.app q2, q3, fun x hx => ?_, fun q => State.WarmedH.trans (hN q) hW⟩
  rcases List.mem_append.mp hx with hx | hx
  · exact ⟨(hnb x hx).2, Safe.keep (hKp _ _ q1) hsl hlat.1 (Safe.new (hnb x hx).1)⟩
  · exact ⟨Nat.lt_of_lt_of_le (hs x hx).1 hle, hC2.safe (hs x hx).1 (hs x hx).2⟩
theorem g_invokestatic {ix : Nat} {y' : MethodName} {bs' : ByteArray} {ml' : Nat} {rt' : Option FieldType} {as' : Array Value} {kc' ks' : Nat} {Q' : Option Value → Heap → Prop} (sfc : List Addr) (argsL : List Value) {ps : List FieldType} {r : Option FieldType} (hd : decode bs pc = .ok (.invokestatic ix, 3)) (hp : pc + 3 = pc')
    (w1 : (Jvm.Cond.methodLink y.cls ix y').before a0 Z = true) (w2 : (Jvm.Cond.static y').before a0 Z = true) (w3 : (Jvm.Cond.initialized y'.cls).before a0 Z = true) (w4 : (Jvm.Cond.code y' bs' ml' rt').before a0 Z = true) (hy : y'.cls ≠ "java/lang/invoke/MethodHandle" ∧ y'.cls ≠ "java/lang/invoke/VarHandle")
    (P : Pay X.l R y' (st.map fun v => v.category).sum as' Z a0 EL nw sfc h kc' ks' Q') (hpd : parseMethodDescriptor y'.desc = some ⟨ps, r⟩) (hlen : argsL.length = ps.length) (hargs : argsL.toArray = as') (hz : Ls.size = ml) (hk : Nat.ble (k + kc') R.cells = true) (hn : Nat.ble (n + ks') R.slots = true) (hsf : ∀ x ∈ sfc, x ∈ sf)
    (G : ∀ v h', Q' v h' → h.size ≤ h'.size → Go X R Z a0 EL nw y bs ml rt Q kc ks sf h' (k + kc') (n + ks') (mkF X.m pc' Ls (v.toList ++ st))) : Go X R Z a0 EL nw y bs ml rt Q kc ks sf h k n (mkF X.m pc Ls (argsL.reverse ++ st)) := fun T S => by
  subst hp
  obtain ⟨F, vm0, L, X1, eT, hS, hZ, hown, hC, hF, hE, hs, hN⟩ := S
  obtain ⟨v, vm1, B, -, X2, hS2, hle, hq, stp⟩ := callSS X1 F.1 (y := y') hown (mvT (s := X.s.setVm vm0) hZ w1) (mvT (s := X.s.setVm vm0) hZ w2) (mvT (s := X.s.setVm vm0) hZ w3) (mvT (s := X.s.setVm vm0) hZ w4) hy (P _ _ _ _ _ _ vm0 hZ hC.1 hE (fun x hx => hs x (hsf x hx)) F.2.2.2.2.2.2) (g := mkF X.m pc Ls (argsL.reverse ++ st)) rfl (by rw [F.2.2.1]; exact hz) (argsL := argsL) (rest := st) (lenOf hpd hlen) rfl (by show 2 * 0 + _ ≤ _; omega) (hb F.2.1 hd) (fun _ _ => ⟨hargs, eT, ble hk, ble hn⟩)
  exact (Go.back F eT hS hZ hown hC hF hs X2 hS2 hle hq hN G).back fun t q => stp.trans q
theorem g_invokestaticB (nb : Option Value → List Addr) {ix : Nat} {y' : MethodName} {bs' : ByteArray} {ml' : Nat} {rt' : Option FieldType} {as' : Array Value} {kc' ks' : Nat} {Q' : Option Value → Heap → Prop} (sfc : List Addr) (argsL : List Value) {ps : List FieldType} {r : Option FieldType} (hd : decode bs pc = .ok (.invokestatic ix, 3)) (hp : pc + 3 = pc')
    (w1 : (Jvm.Cond.methodLink y.cls ix y').before a0 Z = true) (w2 : (Jvm.Cond.static y').before a0 Z = true) (w3 : (Jvm.Cond.initialized y'.cls).before a0 Z = true) (w4 : (Jvm.Cond.code y' bs' ml' rt').before a0 Z = true) (hy : y'.cls ≠ "java/lang/invoke/MethodHandle" ∧ y'.cls ≠ "java/lang/invoke/VarHandle")
    (P : Pay X.l R y' (st.map fun v => v.category).sum as' Z a0 EL true sfc h kc' ks' Q') (hE' : ∀ v h', Q' v h' → Ext h h') (hnb : ∀ v h', Q' v h' → ∀ x ∈ nb v, h.size ≤ x ∧ x < h'.size) (hpd : parseMethodDescriptor y'.desc = some ⟨ps, r⟩) (hlen : argsL.length = ps.length) (hargs : argsL.toArray = as') (hz : Ls.size = ml) (hk : Nat.ble (k + kc') R.cells = true) (hn : Nat.ble (n + ks') R.slots = true) (hsf : ∀ x ∈ sfc, x ∈ sf)
    (G : ∀ v h', Q' v h' → h.size ≤ h'.size → Go X R Z a0 EL nw y bs ml rt Q kc ks (nb v ++ sf) h' (k + kc') (n + ks') (mkF X.m pc' Ls (v.toList ++ st))) : Go X R Z a0 EL nw y bs ml rt Q kc ks sf h k n (mkF X.m pc Ls (argsL.reverse ++ st)) := fun T S => by
  subst hp
  obtain ⟨F, vm0, L, X1, eT, hS, hZ, hown, hC, hF, hE, hs, hN⟩ := S
  obtain ⟨v, vm1, B, -, X2, hS2, hle, hq, stp⟩ := callSS X1 F.1 (y := y') hown (mvT (s := X.s.setVm vm0) hZ w1) (mvT (s := X.s.setVm vm0) hZ w2) (mvT (s := X.s.setVm vm0) hZ w3) (mvT (s := X.s.setVm vm0) hZ w4) hy (P _ _ _ _ _ _ vm0 hZ hC.1 hE (fun x hx => hs x (hsf x hx)) F.2.2.2.2.2.2) (g := mkF X.m pc Ls (argsL.reverse ++ st)) rfl (by rw [F.2.2.1]; exact hz) (argsL := argsL) (rest := st) (lenOf hpd hlen) rfl (by show 2 * 0 + _ ≤ _; omega) (hb F.2.1 hd) (fun _ _ => ⟨hargs, eT, ble hk, ble hn⟩)
  refine Done.back (T' := B.U) (g' := mkF X.m (pc + 3) Ls (v.toList ++ st)) (fun t q => stp.trans q) ?_
  subst eT
  obtain ⟨L', ⟨q1, q2, q3⟩, e1, e2, e3, hC2, hN2⟩ := hq
  have hW : (X.s.setVm vm0).WarmedH B.U.vm := hN2 rfl
  have hlat := CHv.later (vm := vm0) (vm1 := B.U.vm) (h := T.heap) (h' := T.heap) hZ (show (Wst Z vm0 T.heap).Warmed39 B.U.vm from hW.wide) F.2.2.2.2.2.2 (ext_refl _) (Or.inl hW.interned_eq) hC.1
  rw [e1, e2, e3] at X2
  refine G v B.U.heap q1 hle B.U ⟨F, B.U.vm, _, X2, rfl, hS.trans hS2 hle, State.Warmed39.trans (t := X.s.setVm vm0) hZ hS2.1, (hS2.1.alike.findClass _ _).trans hown, hC.trans hC2, hF.app q2, q3, fun x hx => ?_, fun q => State.WarmedH.trans (hN q) hW⟩
  rcases List.mem_append.mp hx with hx | hx
  · exact ⟨(hnb _ _ q1 x hx).2, Safe.ext (hE' _ _ q1) hlat.1 (Safe.new (hnb _ _ q1 x hx).1)⟩
  · exact ⟨Nat.lt_of_lt_of_le (hs x hx).1 hle, hC2.safe (hs x hx).1 (hs x hx).2⟩
theorem g_invokespecial {ix : Nat} {y' : MethodName} {bs' : ByteArray} {ml' : Nat} {as' : Array Value} {kc' ks' : Nat} {Q' : Option Value → Heap → Prop} (sfc : List Addr) {a : Addr} (argsL : List Value) {ps : List FieldType} {r : Option FieldType} (hd : decode bs pc = .ok (.invokespecial ix, 3)) (hp : pc + 3 = pc') (hi : y'.name = "<init>")
    (w1 : (Jvm.Cond.methodLink y.cls ix y').before a0 Z = true) (w2 : (Jvm.Cond.instanceMethod y').before a0 Z = true) (w4 : (Jvm.Cond.code y' bs' ml' none).before a0 Z = true) (hy : y'.cls ≠ "java/lang/invoke/MethodHandle" ∧ y'.cls ≠ "java/lang/invoke/VarHandle")
    (P : Pay X.l R y' (st.map fun v => v.category).sum as' Z a0 EL nw sfc h kc' ks' Q') (hpd : parseMethodDescriptor y'.desc = some ⟨ps, r⟩) (hlen : argsL.length = ps.length) (hargs : (Value.ref a :: argsL).toArray = as') (hz : Ls.size = ml) (hk : Nat.ble (k + kc') R.cells = true) (hn : Nat.ble (n + ks') R.slots = true) (hsf : ∀ x ∈ sfc, x ∈ sf)
    (G : ∀ v h', Q' v h' → h.size ≤ h'.size → Go X R Z a0 EL nw y bs ml rt Q kc ks sf h' (k + kc') (n + ks') (mkF X.m pc' Ls (v.toList ++ st))) : Go X R Z a0 EL nw y bs ml rt Q kc ks sf h k n (mkF X.m pc Ls (argsL.reverse ++ .ref a :: st)) := fun T S => by
  subst hp
  obtain ⟨F, vm0, L, X1, eT, hS, hZ, hown, hC, hF, hE, hs, hN⟩ := S
  obtain ⟨v, vm1, B, -, X2, hS2, hle, hq, stp⟩ := X1.specialBackS F.1 (y := y') hi hown (mvT (s := X.s.setVm vm0) hZ w1) (mvT (s := X.s.setVm vm0) hZ w2) (mvT (s := X.s.setVm vm0) hZ w4) hy (P _ _ _ _ _ _ vm0 hZ hC.1 hE (fun x hx => hs x (hsf x hx)) F.2.2.2.2.2.2) (g := mkF X.m pc Ls (argsL.reverse ++ .ref a :: st)) rfl (by rw [F.2.2.1]; exact hz) (Steps.refl _) (a := a) (argsL := argsL) (rest := st) (lenOf hpd hlen) rfl (by show 2 * 0 + _ ≤ _; omega) (hb F.2.1 hd) (fun _ _ => ⟨hargs, eT, ble hk, ble hn⟩)
  exact (Go.back F eT hS hZ hown hC hF hs X2 hS2 hle hq hN G).back fun t q => stp.trans q
def NF (Z : State) (y : MethodName) : Prop := ∀ s : State, Z.Warmed39 s.vm → NotFace s y
theorem g_invokevirtualN {ix : Nat} {C : String} {y' z' : MethodName} {as' : Array Value} {kc' ks' : Nat} {Q' : Option Value → Heap → Prop} (sfc : List Addr) {a : Addr} (argsL : List Value) {ps : List FieldType} {r : Option FieldType} (hd : decode bs pc = .ok (.invokevirtual ix, 3)) (hp : pc + 3 = pc')
    (w1 : (Jvm.Cond.methodLink y.cls ix y').before a0 Z = true) (w2 : (Jvm.Cond.declares y').before a0 Z = true) (w3 : (Jvm.Cond.selects C y' z').before a0 Z = true) (w4 : (Jvm.Cond.instanceMethod z').before a0 Z = true) (hy : y'.cls ≠ "java/lang/invoke/MethodHandle" ∧ y'.cls ≠ "java/lang/invoke/VarHandle")
    (hnf : NF Z y') (E : Exa Z h a C) (P : Pay X.l R z' (st.map fun v => v.category).sum as' Z a0 EL nw sfc h kc' ks' Q') (hpd : parseMethodDescriptor y'.desc = some ⟨ps, r⟩) (hlen : argsL.length = ps.length) (hargs : (Value.ref a :: argsL).toArray = as') (hz : Ls.size = ml) (hk : Nat.ble (k + kc') R.cells = true) (hn : Nat.ble (n + ks') R.slots = true) (hsf : ∀ x ∈ sfc, x ∈ sf)
    (G : ∀ v h', Q' v h' → h.size ≤ h'.size → Go X R Z a0 EL nw y bs ml rt Q kc ks sf h' (k + kc') (n + ks') (mkF X.m pc' Ls (v.toList ++ st))) : Go X R Z a0 EL nw y bs ml rt Q kc ks sf h k n (mkF X.m pc Ls (argsL.reverse ++ .ref a :: st)) := fun T S => by
  subst hp
  obtain ⟨F, vm0, L, X1, eT, hS, hZ, hown, hC, hF, hE, hs, hN⟩ := S
  obtain ⟨cq, kq, qa, qb, qc⟩ := isOf (s := X.s.setVm vm0) hZ eT E
  obtain ⟨v, vm1, B, -, X2, hS2, hle, hq, stp⟩ := X1.virtualBackS F.1 (y := y') (z := z') hown (mvT (s := X.s.setVm vm0) hZ w1) (mvT (s := X.s.setVm vm0) hZ w2) (hnf (X.s.setVm vm0) hZ) (mvT (s := X.s.setVm vm0) hZ w3) (mvT (s := X.s.setVm vm0) hZ w4) hy (P _ _ _ _ _ _ vm0 hZ hC.1 hE (fun x hx => hs x (hsf x hx)) F.2.2.2.2.2.2) qa qc (g := mkF X.m pc Ls (argsL.reverse ++ .ref a :: st)) rfl (by rw [F.2.2.1]; exact hz) (Steps.refl _) (argsL := argsL) (rest := st) (lenOf hpd hlen) rfl (by show 2 * 0 + _ ≤ _; omega) (hb F.2.1 hd) (fun _ _ => ⟨hargs, eT, ble hk, ble hn⟩)
  exact (Go.back F eT hS hZ hown hC hF hs X2 hS2 hle hq hN G).back fun t q => stp.trans q
theorem g_invokeinterface {ix cnt : Nat} {C : String} {y' z' : MethodName} {as' : Array Value} {kc' ks' : Nat} {Q' : Option Value → Heap → Prop} (sfc : List Addr) {a : Addr} (argsL : List Value) {ps : List FieldType} {r : Option FieldType} (hd : decode bs pc = .ok (.invokeinterface ix cnt, 5)) (hp : pc + 5 = pc')
    (w1 : (Jvm.Cond.methodLink y.cls ix y').before a0 Z = true) (w2 : (Jvm.Cond.declares y').before a0 Z = true) (w3 : (Jvm.Cond.selects C y' z').before a0 Z = true) (w4 : (Jvm.Cond.instanceMethod z').before a0 Z = true) (w5 : (Jvm.Cond.interfaceMethod y'.cls y'.cls y'.name y'.desc).before a0 Z = true) (d5 : ((Jvm.Cond.interfaceMethod y'.cls y'.cls y'.name y'.desc).onTables && (Jvm.Cond.interfaceMethod y'.cls y'.cls y'.name y'.desc).keepsFace) = true) (w6 : (Jvm.Cond.publicMethod z').before a0 Z = true) (w7 : (Jvm.Cond.unhidden C y'.name y'.desc).before a0 Z = true) (w8 : (Jvm.Cond.castable C y'.cls).before a0 Z = true) (hy : y'.cls ≠ "java/lang/invoke/MethodHandle" ∧ y'.cls ≠ "java/lang/invoke/VarHandle")
    (E : Exa Z h a C) (P : Pay X.l R z' (st.map fun v => v.category).sum as' Z a0 EL nw sfc h kc' ks' Q') (hpd : parseMethodDescriptor y'.desc = some ⟨ps, r⟩) (hlen : argsL.length = ps.length) (hargs : (Value.ref a :: argsL).toArray = as') (hz : Ls.size = ml) (hk : Nat.ble (k + kc') R.cells = true) (hn : Nat.ble (n + ks') R.slots = true) (hsf : ∀ x ∈ sfc, x ∈ sf)
    (G : ∀ v h', Q' v h' → h.size ≤ h'.size → Go X R Z a0 EL nw y bs ml rt Q kc ks sf h' (k + kc') (n + ks') (mkF X.m pc' Ls (v.toList ++ st))) : Go X R Z a0 EL nw y bs ml rt Q kc ks sf h k n (mkF X.m pc Ls (argsL.reverse ++ .ref a :: st)) := fun T S => by
  subst hp
  obtain ⟨F, vm0, L, X1, eT, hS, hZ, hown, hC, hF, hE, hs, hN⟩ := S
  obtain ⟨cq, kq, qa, qb, qc⟩ := isOf (s := X.s.setVm vm0) hZ eT E
  obtain ⟨v, vm1, B, -, X2, hS2, hle, hq, stp⟩ := X1.interfaceBackS F.1 (xi := y') (y := z') hown (mvT (s := X.s.setVm vm0) hZ w1) (mvT (s := X.s.setVm vm0) hZ w2) (mvT (s := X.s.setVm vm0) hZ w5 d5) (mvT (s := X.s.setVm vm0) hZ w3) (mvT (s := X.s.setVm vm0) hZ w4) (mvT (s := X.s.setVm vm0) hZ w6) (mvT (s := X.s.setVm vm0) hZ w7) (mvT (s := X.s.setVm vm0) hZ w8) hy (P _ _ _ _ _ _ vm0 hZ hC.1 hE (fun x hx => hs x (hsf x hx)) F.2.2.2.2.2.2) qa qb qc (g := mkF X.m pc Ls (argsL.reverse ++ .ref a :: st)) rfl (by rw [F.2.2.1]; exact hz) (Steps.refl _) (argsL := argsL) (rest := st) (lenOf hpd hlen) rfl (by show 2 * 0 + _ ≤ _; omega) (hb F.2.1 hd) (fun _ _ => ⟨hargs, eT, ble hk, ble hn⟩)
  exact (Go.back F eT hS hZ hown hC hF hs X2 hS2 hle hq hN G).back fun t q => stp.trans q
theorem NF.sel {C : String} {y' : MethodName} (w3 : (Jvm.Cond.selects C y' y').before a0 Z = true) : NF Z y' := fun s hZ => notFace_of_selects (args := #[]) (mvT (s := s) hZ w3)
theorem g_invokevirtual {ix : Nat} {C : String} {y' : MethodName} {as' : Array Value} {kc' ks' : Nat} {Q' : Option Value → Heap → Prop} (sfc : List Addr) {a : Addr} (argsL : List Value) {ps : List FieldType} {r : Option FieldType} (hd : decode bs pc = .ok (.invokevirtual ix, 3)) (hp : pc + 3 = pc')
    (w1 : (Jvm.Cond.methodLink y.cls ix y').before a0 Z = true) (w2 : (Jvm.Cond.declares y').before a0 Z = true) (w3 : (Jvm.Cond.selects C y' y').before a0 Z = true) (w4 : (Jvm.Cond.instanceMethod y').before a0 Z = true) (hy : y'.cls ≠ "java/lang/invoke/MethodHandle" ∧ y'.cls ≠ "java/lang/invoke/VarHandle")
    (E : Exa Z h a C) (P : Pay X.l R y' (st.map fun v => v.category).sum as' Z a0 EL nw sfc h kc' ks' Q') (hpd : parseMethodDescriptor y'.desc = some ⟨ps, r⟩) (hlen : argsL.length = ps.length) (hargs : (Value.ref a :: argsL).toArray = as') (hz : Ls.size = ml) (hk : Nat.ble (k + kc') R.cells = true) (hn : Nat.ble (n + ks') R.slots = true) (hsf : ∀ x ∈ sfc, x ∈ sf)
    (G : ∀ v h', Q' v h' → h.size ≤ h'.size → Go X R Z a0 EL nw y bs ml rt Q kc ks sf h' (k + kc') (n + ks') (mkF X.m pc' Ls (v.toList ++ st))) : Go X R Z a0 EL nw y bs ml rt Q kc ks sf h k n (mkF X.m pc Ls (argsL.reverse ++ .ref a :: st)) :=
  g_invokevirtualN sfc argsL hd hp w1 w2 w3 w4 hy (NF.sel w3) E P hpd hlen hargs hz hk hn hsf G
theorem g_staticB (wsl : List Addr) {ix : Nat} {y' : MethodName} {bs' : ByteArray} {ml' : Nat} {rt' : Option FieldType} {as' : Array Value} {kc' ks' : Nat} {Q' : Option Value → Heap → Prop} (sfc : List Addr) (argsL : List Value) {ps : List FieldType} {r : Option FieldType} (hd : decode bs pc = .ok (.invokestatic ix, 3)) (hp : pc + 3 = pc')
    (w1 : (Jvm.Cond.methodLink y.cls ix y').before a0 Z = true) (w2 : (Jvm.Cond.static y').before a0 Z = true) (w3 : (Jvm.Cond.initialized y'.cls).before a0 Z = true) (w4 : (Jvm.Cond.code y' bs' ml' rt').before a0 Z = true) (hy : y'.cls ≠ "java/lang/invoke/MethodHandle" ∧ y'.cls ≠ "java/lang/invoke/VarHandle")
    (P : Pay X.l R y' (st.map fun v => v.category).sum as' Z a0 EL true sfc h kc' ks' Q') (hKp : ∀ v h', Q' v h' → Keep h h' wsl) (hws : ∀ x ∈ wsl, x ∈ sf) (hpd : parseMethodDescriptor y'.desc = some ⟨ps, r⟩) (hlen : argsL.length = ps.length) (hargs : argsL.toArray = as') (hz : Ls.size = ml) (hk : Nat.ble (k + kc') R.cells = true) (hn : Nat.ble (n + ks') R.slots = true) (hsf : ∀ x ∈ sfc, x ∈ sf)
    (G : ∀ v h', Q' v h' → h.size ≤ h'.size → ∃ nb : List Addr, (∀ x ∈ nb, h.size ≤ x ∧ x < h'.size) ∧ Go X R Z a0 EL nw y bs ml rt Q kc ks (nb ++ sf) h' (k + kc') (n + ks') (mkF X.m pc' Ls (v.toList ++ st))) : Go X R Z a0 EL nw y bs ml rt Q kc ks sf h k n (mkF X.m pc Ls (argsL.reverse ++ st)) := fun T S => by
  subst hp
  obtain ⟨F, vm0, L, X1, eT, hS, hZ, hown, hC, hF, hE, hs, hN⟩ := S
  obtain ⟨v, vm1, B, -, X2, hS2, hle, hq, stp⟩ := callSS X1 F.1 (y := y') hown (mvT (s := X.s.setVm vm0) hZ w1) (mvT (s := X.s.setVm vm0) hZ w2) (mvT (s := X.s.setVm vm0) hZ w3) (mvT (s := X.s.setVm vm0) hZ w4) hy (P _ _ _ _ _ _ vm0 hZ hC.1 hE (fun x hx => hs x (hsf x hx)) F.2.2.2.2.2.2) (g := mkF X.m pc Ls (argsL.reverse ++ st)) rfl (by rw [F.2.2.1]; exact hz) (argsL := argsL) (rest := st) (lenOf hpd hlen) rfl (by show 2 * 0 + _ ≤ _; omega) (hb F.2.1 hd) (fun _ _ => ⟨hargs, eT, ble hk, ble hn⟩)
  exact (Go.backB wsl F eT hS hZ hown hC hF hs X2 hS2 hle hq hN hKp hws G).back fun t q => stp.trans q
theorem g_specialB (wsl : List Addr) {ix : Nat} {y' : MethodName} {bs' : ByteArray} {ml' : Nat} {as' : Array Value} {kc' ks' : Nat} {Q' : Option Value → Heap → Prop} (sfc : List Addr) {a : Addr} (argsL : List Value) {ps : List FieldType} {r : Option FieldType} (hd : decode bs pc = .ok (.invokespecial ix, 3)) (hp : pc + 3 = pc') (hi : y'.name = "<init>")
    (w1 : (Jvm.Cond.methodLink y.cls ix y').before a0 Z = true) (w2 : (Jvm.Cond.instanceMethod y').before a0 Z = true) (w4 : (Jvm.Cond.code y' bs' ml' none).before a0 Z = true) (hy : y'.cls ≠ "java/lang/invoke/MethodHandle" ∧ y'.cls ≠ "java/lang/invoke/VarHandle")
    (P : Pay X.l R y' (st.map fun v => v.category).sum as' Z a0 EL true sfc h kc' ks' Q') (hKp : ∀ v h', Q' v h' → Keep h h' wsl) (hws : ∀ x ∈ wsl, x ∈ sf) (hpd : parseMethodDescriptor y'.desc = some ⟨ps, r⟩) (hlen : argsL.length = ps.length) (hargs : (Value.ref a :: argsL).toArray = as') (hz : Ls.size = ml) (hk : Nat.ble (k + kc') R.cells = true) (hn : Nat.ble (n + ks') R.slots = true) (hsf : ∀ x ∈ sfc, x ∈ sf)
    (G : ∀ v h', Q' v h' → h.size ≤ h'.size → ∃ nb : List Addr, (∀ x ∈ nb, h.size ≤ x ∧ x < h'.size) ∧ Go X R Z a0 EL nw y bs ml rt Q kc ks (nb ++ sf) h' (k + kc') (n + ks') (mkF X.m pc' Ls (v.toList ++ st))) : Go X R Z a0 EL nw y bs ml rt Q kc ks sf h k n (mkF X.m pc Ls (argsL.reverse ++ .ref a :: st)) := fun T S => by
  subst hp
  obtain ⟨F, vm0, L, X1, eT, hS, hZ, hown, hC, hF, hE, hs, hN⟩ := S
  obtain ⟨v, vm1, B, -, X2, hS2, hle, hq, stp⟩ := X1.specialBackS F.1 (y := y') hi hown (mvT (s := X.s.setVm vm0) hZ w1) (mvT (s := X.s.setVm vm0) hZ w2) (mvT (s := X.s.setVm vm0) hZ w4) hy (P _ _ _ _ _ _ vm0 hZ hC.1 hE (fun x hx => hs x (hsf x hx)) F.2.2.2.2.2.2) (g := mkF X.m pc Ls (argsL.reverse ++ .ref a :: st)) rfl (by rw [F.2.2.1]; exact hz) (Steps.refl _) (a := a) (argsL := argsL) (rest := st) (lenOf hpd hlen) rfl (by show 2 * 0 + _ ≤ _; omega) (hb F.2.1 hd) (fun _ _ => ⟨hargs, eT, ble hk, ble hn⟩)
  exact (Go.backB wsl F eT hS hZ hown hC hF hs X2 hS2 hle hq hN hKp hws G).back fun t q => stp.trans q
theorem g_virtualB (wsl : List Addr) {ix : Nat} {C : String} {y' z' : MethodName} {as' : Array Value} {kc' ks' : Nat} {Q' : Option Value → Heap → Prop} (sfc : List Addr) {a : Addr} (argsL : List Value) {ps : List FieldType} {r : Option FieldType} (hd : decode bs pc = .ok (.invokevirtual ix, 3)) (hp : pc + 3 = pc')
    (w1 : (Jvm.Cond.methodLink y.cls ix y').before a0 Z = true) (w2 : (Jvm.Cond.declares y').before a0 Z = true) (w3 : (Jvm.Cond.selects C y' z').before a0 Z = true) (w4 : (Jvm.Cond.instanceMethod z').before a0 Z = true) (hy : y'.cls ≠ "java/lang/invoke/MethodHandle" ∧ y'.cls ≠ "java/lang/invoke/VarHandle")
    (hnf : NF Z y') (E : Exa Z h a C) (P : Pay X.l R z' (st.map fun v => v.category).sum as' Z a0 EL true sfc h kc' ks' Q') (hKp : ∀ v h', Q' v h' → Keep h h' wsl) (hws : ∀ x ∈ wsl, x ∈ sf) (hpd : parseMethodDescriptor y'.desc = some ⟨ps, r⟩) (hlen : argsL.length = ps.length) (hargs : (Value.ref a :: argsL).toArray = as') (hz : Ls.size = ml) (hk : Nat.ble (k + kc') R.cells = true) (hn : Nat.ble (n + ks') R.slots = true) (hsf : ∀ x ∈ sfc, x ∈ sf)
    (G : ∀ v h', Q' v h' → h.size ≤ h'.size → ∃ nb : List Addr, (∀ x ∈ nb, h.size ≤ x ∧ x < h'.size) ∧ Go X R Z a0 EL nw y bs ml rt Q kc ks (nb ++ sf) h' (k + kc') (n + ks') (mkF X.m pc' Ls (v.toList ++ st))) : Go X R Z a0 EL nw y bs ml rt Q kc ks sf h k n (mkF X.m pc Ls (argsL.reverse ++ .ref a :: st)) := fun T S => by
  subst hp
  obtain ⟨F, vm0, L, X1, eT, hS, hZ, hown, hC, hF, hE, hs, hN⟩ := S
  obtain ⟨cq, kq, qa, qb, qc⟩ := isOf (s := X.s.setVm vm0) hZ eT E
  obtain ⟨v, vm1, B, -, X2, hS2, hle, hq, stp⟩ := X1.virtualBackS F.1 (y := y') (z := z') hown (mvT (s := X.s.setVm vm0) hZ w1) (mvT (s := X.s.setVm vm0) hZ w2) (hnf (X.s.setVm vm0) hZ) (mvT (s := X.s.setVm vm0) hZ w3) (mvT (s := X.s.setVm vm0) hZ w4) hy (P _ _ _ _ _ _ vm0 hZ hC.1 hE (fun x hx => hs x (hsf x hx)) F.2.2.2.2.2.2) qa qc (g := mkF X.m pc Ls (argsL.reverse ++ .ref a :: st)) rfl (by rw [F.2.2.1]; exact hz) (Steps.refl _) (argsL := argsL) (rest := st) (lenOf hpd hlen) rfl (by show 2 * 0 + _ ≤ _; omega) (hb F.2.1 hd) (fun _ _ => ⟨hargs, eT, ble hk, ble hn⟩)
  exact (Go.backB wsl F eT hS hZ hown hC hF hs X2 hS2 hle hq hN hKp hws G).back fun t q => stp.trans q
theorem g_private {ix : Nat} {C : String} {y' : MethodName} {bs' : ByteArray} {ml' : Nat} {rt' : Option FieldType} {as' : Array Value} {kc' ks' : Nat} {Q' : Option Value → Heap → Prop} (sfc : List Addr) {a : Addr} (argsL : List Value) {ps : List FieldType} {r : Option FieldType} (hd : decode bs pc = .ok (.invokevirtual ix, 3)) (hp : pc + 3 = pc')
    (w1 : (Jvm.Cond.methodLink y.cls ix y').before a0 Z = true) (w2 : (Jvm.Cond.privateMethod y').before a0 Z = true) (w3 : (Jvm.Cond.selects C y' y').before a0 Z = true) (w4 : (Jvm.Cond.instanceMethod y').before a0 Z = true) (hy : y'.cls ≠ "java/lang/invoke/MethodHandle" ∧ y'.cls ≠ "java/lang/invoke/VarHandle")
    (w5 : (Jvm.Cond.code y' bs' ml' rt').before a0 Z = true) (E : Exa Z h a C) (P : Pay X.l R y' (st.map fun v => v.category).sum as' Z a0 EL nw sfc h kc' ks' Q') (hpd : parseMethodDescriptor y'.desc = some ⟨ps, r⟩) (hlen : argsL.length = ps.length) (hargs : (Value.ref a :: argsL).toArray = as') (hz : Ls.size = ml) (hk : Nat.ble (k + kc') R.cells = true) (hn : Nat.ble (n + ks') R.slots = true) (hsf : ∀ x ∈ sfc, x ∈ sf)
    (G : ∀ v h', Q' v h' → h.size ≤ h'.size → Go X R Z a0 EL nw y bs ml rt Q kc ks sf h' (k + kc') (n + ks') (mkF X.m pc' Ls (v.toList ++ st))) : Go X R Z a0 EL nw y bs ml rt Q kc ks sf h k n (mkF X.m pc Ls (argsL.reverse ++ .ref a :: st)) := fun T S => by
  subst hp
  obtain ⟨F, vm0, L, X1, eT, hS, hZ, hown, hC, hF, hE, hs, hN⟩ := S
  have hsel3 := mvT (s := X.s.setVm vm0) (args := X.args) hZ w3
  have hpr : (X.s.setVm vm0).PrivateAt y' := Cond.privateMethod_at (args := X.args) (mvP (s := X.s.setVm vm0) hZ w2)
  obtain ⟨c2, r2, m2, -, -, q3, -, kP, hkP, hkPi⟩ := Cond.selects_spec hsel3
  have hself := selects_self_of_private (s := X.s.setVm vm0) (args := X.args) (findClass_of_methodNamed q3) hkP hkPi hpr (mvT (s := X.s.setVm vm0) hZ w4) hy
  obtain ⟨cell, hcell, hobj⟩ := E.cell
  obtain ⟨v, vm1, B, -, X2, hS2, hle, hq, stp⟩ := X1.privateBackS F.1 (y := y') hown (mvT (s := X.s.setVm vm0) hZ w1) (mvT (s := X.s.setVm vm0) hZ w4) hself hpr (mvT (s := X.s.setVm vm0) hZ w5) hy (P _ _ _ _ _ _ vm0 hZ hC.1 hE (fun x hx => hs x (hsf x hx)) F.2.2.2.2.2.2) (g := mkF X.m pc Ls (argsL.reverse ++ .ref a :: st)) rfl (by rw [F.2.2.1]; exact hz) (Steps.refl _) (a := a) (cell := cell) (by rw [eT]; exact hcell) hobj (argsL := argsL) (rest := st) (lenOf hpd hlen) rfl (by show 2 * 0 + _ ≤ _; omega) (hb F.2.1 hd) (fun _ _ => ⟨hargs, eT, ble hk, ble hn⟩)
  exact (Go.back F eT hS hZ hown hC hF hs X2 hS2 hle hq hN G).back fun t q => stp.trans q
theorem g_privateB (wsl : List Addr) {ix : Nat} {C : String} {y' : MethodName} {bs' : ByteArray} {ml' : Nat} {rt' : Option FieldType} {as' : Array Value} {kc' ks' : Nat} {Q' : Option Value → Heap → Prop} (sfc : List Addr) {a : Addr} (argsL : List Value) {ps : List FieldType} {r : Option FieldType} (hd : decode bs pc = .ok (.invokevirtual ix, 3)) (hp : pc + 3 = pc')
    (w1 : (Jvm.Cond.methodLink y.cls ix y').before a0 Z = true) (w2 : (Jvm.Cond.privateMethod y').before a0 Z = true) (w3 : (Jvm.Cond.selects C y' y').before a0 Z = true) (w4 : (Jvm.Cond.instanceMethod y').before a0 Z = true) (hy : y'.cls ≠ "java/lang/invoke/MethodHandle" ∧ y'.cls ≠ "java/lang/invoke/VarHandle")
    (w5 : (Jvm.Cond.code y' bs' ml' rt').before a0 Z = true) (E : Exa Z h a C) (P : Pay X.l R y' (st.map fun v => v.category).sum as' Z a0 EL true sfc h kc' ks' Q') (hKp : ∀ v h', Q' v h' → Keep h h' wsl) (hws : ∀ x ∈ wsl, x ∈ sf) (hpd : parseMethodDescriptor y'.desc = some ⟨ps, r⟩) (hlen : argsL.length = ps.length) (hargs : (Value.ref a :: argsL).toArray = as') (hz : Ls.size = ml) (hk : Nat.ble (k + kc') R.cells = true) (hn : Nat.ble (n + ks') R.slots = true) (hsf : ∀ x ∈ sfc, x ∈ sf)
    (G : ∀ v h', Q' v h' → h.size ≤ h'.size → ∃ nb : List Addr, (∀ x ∈ nb, h.size ≤ x ∧ x < h'.size) ∧ Go X R Z a0 EL nw y bs ml rt Q kc ks (nb ++ sf) h' (k + kc') (n + ks') (mkF X.m pc' Ls (v.toList ++ st))) : Go X R Z a0 EL nw y bs ml rt Q kc ks sf h k n (mkF X.m pc Ls (argsL.reverse ++ .ref a :: st)) := fun T S => by
  subst hp
  obtain ⟨F, vm0, L, X1, eT, hS, hZ, hown, hC, hF, hE, hs, hN⟩ := S
  have hsel3 := mvT (s := X.s.setVm vm0) (args := X.args) hZ w3
  have hpr : (X.s.setVm vm0).PrivateAt y' := Cond.privateMethod_at (args := X.args) (mvP (s := X.s.setVm vm0) hZ w2)
  obtain ⟨c2, r2, m2, -, -, q3, -, kP, hkP, hkPi⟩ := Cond.selects_spec hsel3
  have hself := selects_self_of_private (s := X.s.setVm vm0) (args := X.args) (findClass_of_methodNamed q3) hkP hkPi hpr (mvT (s := X.s.setVm vm0) hZ w4) hy
  obtain ⟨cell, hcell, hobj⟩ := E.cell
  obtain ⟨v, vm1, B, -, X2, hS2, hle, hq, stp⟩ := X1.privateBackS F.1 (y := y') hown (mvT (s := X.s.setVm vm0) hZ w1) (mvT (s := X.s.setVm vm0) hZ w4) hself hpr (mvT (s := X.s.setVm vm0) hZ w5) hy (P _ _ _ _ _ _ vm0 hZ hC.1 hE (fun x hx => hs x (hsf x hx)) F.2.2.2.2.2.2) (g := mkF X.m pc Ls (argsL.reverse ++ .ref a :: st)) rfl (by rw [F.2.2.1]; exact hz) (Steps.refl _) (a := a) (cell := cell) (by rw [eT]; exact hcell) hobj (argsL := argsL) (rest := st) (lenOf hpd hlen) rfl (by show 2 * 0 + _ ≤ _; omega) (hb F.2.1 hd) (fun _ _ => ⟨hargs, eT, ble hk, ble hn⟩)
  exact (Go.backB wsl F eT hS hZ hown hC hF hs X2 hS2 hle hq hN hKp hws G).back fun t q => stp.trans q
/-- the class is there and no interface -/
def NI (Z : State) (C : String) : Prop := ∃ (c : ClassId) (k : Class), Z.vm.findClass C = some c ∧ Z.vm.classes[c]? = some k ∧ k.isInterface = false
theorem NI.sel {C : String} {y1 y2 : MethodName} (w : (Jvm.Cond.selects C y1 y2).before a0 Z = true) : NI Z y2.cls := by
  obtain ⟨c2, r2, m2, -, -, q3, -, kP, hkP, hkPi⟩ := Cond.selects_spec w
  exact ⟨m2.cls, kP, findClass_of_methodNamed q3, hkP, hkPi⟩
theorem sameM_self {y' : MethodName} (w : (Jvm.Cond.instanceMethod y').before a0 Z = true) (hy : y'.cls ≠ "java/lang/invoke/MethodHandle" ∧ y'.cls ≠ "java/lang/invoke/VarHandle") (hni : NI Z y'.cls) : (Jvm.Cond.sameMethod y'.cls y'.cls y'.name y'.desc).before a0 Z = true := by
  obtain ⟨mk, methM, hnamed, -, -, -⟩ := Cond.instanceMethod_spec w
  have hf := State.methodFound?_of_named hnamed hy
  obtain ⟨c, k, q1, q2, q3⟩ := hni
  have hnamed' : Z.methodNamed? { cls := y'.cls, name := y'.name, desc := y'.desc } = some mk := hnamed
  simp [Cond.before, Cond.holds, Cond.value, hf, hnamed', q1, q2, q3]
theorem g_super {ix : Nat} {K : String} {rt' : Option FieldType} {y' : MethodName} {bs' : ByteArray} {ml' : Nat} {as' : Array Value} {kc' ks' : Nat} {Q' : Option Value → Heap → Prop} (sfc : List Addr) {a : Addr} (argsL : List Value) {ps : List FieldType} {r : Option FieldType} (hd : decode bs pc = .ok (.invokespecial ix, 3)) (hp : pc + 3 = pc') (hi : y'.name ≠ "<init>")
    (w1 : (Jvm.Cond.methodLink y.cls ix y').before a0 Z = true) (w2 : (Jvm.Cond.instanceMethod y').before a0 Z = true) (w3 : (Jvm.Cond.superclass y.cls y'.cls).before a0 Z = true) (hni : NI Z y'.cls) (I : Ins Z h a K true) (w4 : (Jvm.Cond.code y' bs' ml' rt').before a0 Z = true) (hy : y'.cls ≠ "java/lang/invoke/MethodHandle" ∧ y'.cls ≠ "java/lang/invoke/VarHandle")
    (P : Pay X.l R y' (st.map fun v => v.category).sum as' Z a0 EL nw sfc h kc' ks' Q') (hpd : parseMethodDescriptor y'.desc = some ⟨ps, r⟩) (hlen : argsL.length = ps.length) (hargs : (Value.ref a :: argsL).toArray = as') (hz : Ls.size = ml) (hk : Nat.ble (k + kc') R.cells = true) (hn : Nat.ble (n + ks') R.slots = true) (hsf : ∀ x ∈ sfc, x ∈ sf)
    (G : ∀ v h', Q' v h' → h.size ≤ h'.size → Go X R Z a0 EL nw y bs ml rt Q kc ks sf h' (k + kc') (n + ks') (mkF X.m pc' Ls (v.toList ++ st))) : Go X R Z a0 EL nw y bs ml rt Q kc ks sf h k n (mkF X.m pc Ls (argsL.reverse ++ .ref a :: st)) := fun T S => by
  subst hp
  obtain ⟨F, vm0, L, X1, eT, hS, hZ, hown, hC, hF, hE, hs, hN⟩ := S
  have hsame : (Jvm.Cond.sameMethod y'.cls y'.cls y'.name y'.desc).before a0 Z = true := sameM_self w2 hy hni
  obtain ⟨v, vm1, B, -, X2, hS2, hle, hq, stp⟩ := superBackS X1 F.1 (Z := Z) hZ (y := y') hown w1 hsame w2 w3 hi (P _ _ _ _ _ _ vm0 hZ hC.1 hE (fun x hx => hs x (hsf x hx)) F.2.2.2.2.2.2) eT I (g := mkF X.m pc Ls (argsL.reverse ++ .ref a :: st)) rfl (by rw [F.2.2.1]; exact hz) w4 (argsL := argsL) (rest := st) (lenOf hpd hlen) rfl (by show 2 * 0 + _ ≤ _; omega) (hb F.2.1 hd) (fun _ _ => ⟨hargs, eT, ble hk, ble hn⟩)
  exact (Go.back F eT hS hZ hown hC hF hs X2 hS2 hle hq hN G).back fun t q => stp.trans q
theorem g_superB (wsl : List Addr) {ix : Nat} {K : String} {rt' : Option FieldType} {y' : MethodName} {bs' : ByteArray} {ml' : Nat} {as' : Array Value} {kc' ks' : Nat} {Q' : Option Value → Heap → Prop} (sfc : List Addr) {a : Addr} (argsL : List Value) {ps : List FieldType} {r : Option FieldType} (hd : decode bs pc = .ok (.invokespecial ix, 3)) (hp : pc + 3 = pc') (hi : y'.name ≠ "<init>")
    (w1 : (Jvm.Cond.methodLink y.cls ix y').before a0 Z = true) (w2 : (Jvm.Cond.instanceMethod y').before a0 Z = true) (w3 : (Jvm.Cond.superclass y.cls y'.cls).before a0 Z = true) (hni : NI Z y'.cls) (I : Ins Z h a K true) (w4 : (Jvm.Cond.code y' bs' ml' rt').before a0 Z = true) (hy : y'.cls ≠ "java/lang/invoke/MethodHandle" ∧ y'.cls ≠ "java/lang/invoke/VarHandle")
    (P : Pay X.l R y' (st.map fun v => v.category).sum as' Z a0 EL true sfc h kc' ks' Q') (hKp : ∀ v h', Q' v h' → Keep h h' wsl) (hws : ∀ x ∈ wsl, x ∈ sf) (hpd : parseMethodDescriptor y'.desc = some ⟨ps, r⟩) (hlen : argsL.length = ps.length) (hargs : (Value.ref a :: argsL).toArray = as') (hz : Ls.size = ml) (hk : Nat.ble (k + kc') R.cells = true) (hn : Nat.ble (n + ks') R.slots = true) (hsf : ∀ x ∈ sfc, x ∈ sf)
    (G : ∀ v h', Q' v h' → h.size ≤ h'.size → ∃ nb : List Addr, (∀ x ∈ nb, h.size ≤ x ∧ x < h'.size) ∧ Go X R Z a0 EL nw y bs ml rt Q kc ks (nb ++ sf) h' (k + kc') (n + ks') (mkF X.m pc' Ls (v.toList ++ st))) : Go X R Z a0 EL nw y bs ml rt Q kc ks sf h k n (mkF X.m pc Ls (argsL.reverse ++ .ref a :: st)) := fun T S => by
  subst hp
  obtain ⟨F, vm0, L, X1, eT, hS, hZ, hown, hC, hF, hE, hs, hN⟩ := S
  have hsame : (Jvm.Cond.sameMethod y'.cls y'.cls y'.name y'.desc).before a0 Z = true := sameM_self w2 hy hni
  obtain ⟨v, vm1, B, -, X2, hS2, hle, hq, stp⟩ := superBackS X1 F.1 (Z := Z) hZ (y := y') hown w1 hsame w2 w3 hi (P _ _ _ _ _ _ vm0 hZ hC.1 hE (fun x hx => hs x (hsf x hx)) F.2.2.2.2.2.2) eT I (g := mkF X.m pc Ls (argsL.reverse ++ .ref a :: st)) rfl (by rw [F.2.2.1]; exact hz) w4 (argsL := argsL) (rest := st) (lenOf hpd hlen) rfl (by show 2 * 0 + _ ≤ _; omega) (hb F.2.1 hd) (fun _ _ => ⟨hargs, eT, ble hk, ble hn⟩)
  exact (Go.backB wsl F eT hS hZ hown hC hF hs X2 hS2 hle hq hN hKp hws G).back fun t q => stp.trans q
/-- System.arraycopy of bytes -/
theorem g_arraycopy {ix : Nat} {src dst : Addr} {k1 k2 : ClassId} {z1 z2 sp dp nn : Int32} {vs vd us : List Value} {dv dd : Value} (hd : decode bs pc = .ok (.invokestatic ix, 3)) (hp : pc + 3 = pc')
    (w1 : (Jvm.Cond.methodLink y.cls ix Jvm.Stand.acN).before a0 Z = true) (w2 : (Jvm.Cond.native Jvm.Stand.acN).before a0 Z = true) (w3 : (Jvm.Cond.static Jvm.Stand.acN).before a0 Z = true) (w4 : (Jvm.Cond.initialized "java/lang/System").before a0 Z = true)
    (A : Arv Z h src k1 .byte z1 vs dv) (B : Arv Z h dst k2 .byte z2 vd dd) (h1 : ¬ sp < 0) (h2 : ¬ dp < 0) (h3 : ¬ nn < 0) (h4 : sp.toNatClampNeg + nn.toNatClampNeg ≤ z1.toNatClampNeg) (h5 : dp.toNatClampNeg + nn.toNatClampNeg ≤ z2.toNatClampNeg)
    (hus : us = (List.range nn.toNatClampNeg).map fun i => vs.getD (sp.toNatClampNeg + i) dv) (hl : dp.toNatClampNeg + nn.toNatClampNeg ≤ vd.length) (ha : Z.heap.size ≤ dst) (hm : dst ∈ sf) (hz : Ls.size = ml) (hf : Nat.ble 1 R.frames = true) (hlo : Nat.ble ((st.map fun v => v.category).sum + (nativeFrameWords "java/lang/System" "arraycopy" 5 + 11)) R.locals = true)
    (G : ∀ h', Keep h h' [dst] → Arv Z h' dst k2 .byte z2 (vd.take dp.toNatClampNeg ++ us ++ vd.drop (dp.toNatClampNeg + nn.toNatClampNeg)) dd → Go X R Z a0 EL nw y bs ml rt Q kc ks sf h' k n (mkF X.m pc' Ls st)) : Go X R Z a0 EL nw y bs ml rt Q kc ks sf h k n (mkF X.m pc Ls (.int nn :: .int dp :: .ref dst :: .int sp :: .ref src :: st)) := fun T S => by
  subst hp
  obtain ⟨F, vm0, L, X1, eT, hS, hZ, hown, hC, hF, hE, hs, hN⟩ := S
  obtain ⟨T', h', L', X2, e2, hF2, K2, A2, stp⟩ := cpA X1 F.1 (Z := Z) hZ hown w1 w2 w3 w4 eT A B (Or.inl ⟨rfl, rfl⟩) h1 h2 h3 h4 h5 hus hl hF ha (g := mkF X.m pc Ls (.int nn :: .int dp :: .ref dst :: .int sp :: .ref src :: st)) rfl (by rw [F.2.2.1]; exact hz) rfl (hb F.2.1 hd) (ble hf) (W := (st.map fun v => v.category).sum) (by show 2 * 0 + _ ≤ _; omega) (ble hlo)
  exact (G h' K2 A2 T' (Spot.next F X2 e2 hS hZ hown hC (CHr.keep K2 (fun x hx => by cases List.mem_singleton.mp hx; exact (hs _ hm).2) hC.1) hF2 (ext_keep hE K2 (allS ha all0)) hs hN)).back stp
end Kit
end Own
open Own
namespace Own
open Jvm Jvm.ClassFile Sem Op Lib Jvm.Free Jvm.Stand Jvm.LawKit Jvm.RoadKit Bundle
/-- a boolean as an int -/
def b01 (b : Bool) : Int32 := if b then 1 else 0
theorem in0 {P : Int32 → Prop} : ∀ c ∈ ([] : List Int32), P c := fun _ q => nomatch q
theorem inS {P : Int32 → Prop} {c : Int32} {cs : List Int32} (q : P c) (r : ∀ x ∈ cs, P x) : ∀ x ∈ c :: cs, P x := fun x z => (List.mem_cons.mp z).elim (fun u => u ▸ q) (r x)
theorem i32_nat {c : Int32} (h0 : ¬ c < 0) : (c.toBitVec.toNat : Int) = c.toInt ∧ c.toBitVec.toNat < 2147483648 := by
  have h := c.toBitVec.isLt
  have e : c.toInt = c.toBitVec.toInt := rfl
  rw [Int32.lt_iff_toInt_lt] at h0
  have z : (0 : Int32).toInt = 0 := rfl
  rw [BitVec.toInt_eq_toNat_cond] at e
  split at e <;> omega
theorem c16_of {c : Int32} (h0 : ¬ c < 0) (h1 : ¬ (65535 : Int32) < c) : c.toUInt32.toUInt16.toUInt32.toInt32 = c := by
  obtain ⟨e, -⟩ := i32_nat h0
  have u : c.toInt ≤ 65535 := by
    rw [Int32.lt_iff_toInt_lt] at h1
    have z : (65535 : Int32).toInt = 65535 := rfl
    omega
  apply Int32.toBitVec_inj.mp
  apply BitVec.eq_of_toNat_eq
  show ((c.toBitVec.setWidth 16).setWidth 32).toNat = c.toBitVec.toNat
  rw [BitVec.toNat_setWidth, BitVec.toNat_setWidth]
  omega
theorem and_lt {x : Int32} (k : Nat) (hk : k < 2147483648) : ¬ (x &&& Int32.ofNat k) < 0 ∧ (x &&& Int32.ofNat k).toInt ≤ k := by
  have h : (x &&& Int32.ofNat k).toBitVec.toNat ≤ k := by
    rw [Int32.toBitVec_and, BitVec.toNat_and]
    refine Nat.le_trans Nat.and_le_right ?_
    show (BitVec.ofNat 32 k).toNat ≤ k
    rw [BitVec.toNat_ofNat]
    exact Nat.mod_le _ _
  have e : (x &&& Int32.ofNat k).toInt = (x &&& Int32.ofNat k).toBitVec.toInt := rfl
  rw [BitVec.toInt_eq_toNat_cond] at e
  have z : (0 : Int32).toInt = 0 := rfl
  rw [Int32.lt_iff_toInt_lt, z]
  split at e <;> omega
theorem and255 (x : Int32) : ¬ (x &&& 255) < 0 ∧ ¬ (255 : Int32) < (x &&& 255) := by
  obtain ⟨h1, h2⟩ := and_lt (x := x) 255 (by decide)
  refine ⟨h1, ?_⟩
  rw [Int32.lt_iff_toInt_lt]
  have z : (255 : Int32).toInt = 255 := rfl
  rw [z]
  have h2 : (x &&& 255).toInt ≤ 255 := h2
  omega
theorem to65 {c : Int32} (h : ¬ (255 : Int32) < c) : ¬ (65535 : Int32) < c := by
  rw [Int32.lt_iff_toInt_lt] at h ⊢
  have z : (255 : Int32).toInt = 255 := rfl
  have z' : (65535 : Int32).toInt = 65535 := rfl
  omega
/-- (char) (x & 255) -/
theorem c255 (x : Int32) : (x &&& 255).toUInt32.toUInt16.toUInt32.toInt32 = (x &&& 255) := c16_of (and255 x).1 (to65 (and255 x).2)
theorem nar_c (x : Int32) : nar .char x = x.toUInt32.toUInt16.toUInt32.toInt32 := rfl
theorem nar8 {c : Int32} (h : ¬ c < 0 ∧ ¬ (255 : Int32) < c) : nar .char c = c := c16_of h.1 (to65 h.2)
theorem nar16 {c : Int32} (h : ¬ c < 0 ∧ ¬ (65535 : Int32) < c) : nar .char c = c := c16_of h.1 h.2
theorem c16_range (x : Int32) : ¬ x.toUInt32.toUInt16.toUInt32.toInt32 < 0 ∧ ¬ (65535 : Int32) < x.toUInt32.toUInt16.toUInt32.toInt32 := by
  have e : (x.toUInt32.toUInt16.toUInt32.toInt32).toInt = ((x.toBitVec.setWidth 16).setWidth 32).toInt := rfl
  rw [BitVec.toInt_eq_toNat_cond, BitVec.toNat_setWidth, BitVec.toNat_setWidth] at e
  have z : (0 : Int32).toInt = 0 := rfl
  have z' : (65535 : Int32).toInt = 65535 := rfl
  rw [Int32.lt_iff_toInt_lt, Int32.lt_iff_toInt_lt, z, z']
  split at e <;> omega
theorem nar_idem (x : Int32) : nar .char (x.toUInt32.toUInt16.toUInt32.toInt32) = x.toUInt32.toUInt16.toUInt32.toInt32 := nar16 (c16_range x)
theorem ok8 (x : Int32) : ¬ (x &&& 255).toUInt32.toUInt16.toUInt32.toInt32 < 0 ∧ ¬ (255 : Int32) < (x &&& 255).toUInt32.toUInt16.toUInt32.toInt32 := by rw [c255]; exact and255 x
theorem and_small {x : Int32} {P : Int32 → Prop} (k : Nat) (hk : k < 2147483648) (h : ∀ i : Nat, i ≤ k → P (Int32.ofNat i)) : P (x &&& Int32.ofNat k) := by
  obtain ⟨h1, h2⟩ := and_lt (x := x) k hk
  obtain ⟨e, -⟩ := i32_nat h1
  have := h (x &&& Int32.ofNat k).toBitVec.toNat (by omega)
  have e2 : Int32.ofNat (x &&& Int32.ofNat k).toBitVec.toNat = (x &&& Int32.ofNat k) := by
    apply Int32.toBitVec_inj.mp
    show BitVec.ofNat 32 _ = _
    rw [BitVec.ofNat_toNat]; simp
  rw [e2] at this
  exact this
theorem toInt_ofNat {a : Nat} (ha : a < 2147483648) : (Int32.ofNat a).toInt = a := Int32.toInt_ofNat_small (by omega)
theorem ofNat_lt {a b : Nat} (ha : a < 2147483648) (hb : b < 2147483648) : Int32.ofNat a < Int32.ofNat b ↔ a < b := by
  rw [Int32.lt_iff_toInt_lt, toInt_ofNat ha, toInt_ofNat hb]; omega
theorem ofNat_nn {a : Nat} (ha : a < 2147483648) : ¬ Int32.ofNat a < 0 := by
  rw [Int32.lt_iff_toInt_lt, toInt_ofNat ha]
  have z : (0 : Int32).toInt = 0 := rfl
  omega
theorem ofNat_clamp {a : Nat} (ha : a < 2147483648) : (Int32.ofNat a).toNatClampNeg = a := by
  show (Int32.ofNat a).toInt.toNat = a
  rw [toInt_ofNat ha]; rfl
theorem nn_ofNat {c : Int32} (h : ¬ c < 0) : ∃ m : Nat, m < 2147483648 ∧ c = Int32.ofNat m := by
  have hh : ¬ c < 0 := h
  have b := c.toBitVec.isLt
  have e : c.toInt = c.toBitVec.toInt := rfl
  rw [Int32.lt_iff_toInt_lt] at hh
  have z : (0 : Int32).toInt = 0 := rfl
  rw [BitVec.toInt_eq_toNat_cond] at e
  refine ⟨c.toBitVec.toNat, by split at e <;> omega, ?_⟩
  apply Int32.toBitVec_inj.mp
  show _ = BitVec.ofNat 32 _
  rw [BitVec.ofNat_toNat]; simp
theorem ofNat_succ (a : Nat) : Int32.ofNat a + Int32.ofInt 1 = Int32.ofNat (a + 1) := by
  apply Int32.toBitVec_inj.mp
  show BitVec.ofNat 32 a + BitVec.ofInt 32 1 = BitVec.ofNat 32 (a + 1)
  apply BitVec.eq_of_toNat_eq
  simp [BitVec.toNat_add, BitVec.toNat_ofNat]
theorem mod_ofNat {m d : Nat} (hm : m < 2147483648) (hd : d < 2147483648) (h0 : 0 < d) : Int32.ofNat m % Int32.ofNat d = Int32.ofNat (m % d) := by
  have hlt := Nat.mod_lt m h0
  apply Int32.toInt_inj.mp
  rw [Int32.toInt_mod, toInt_ofNat hm, toInt_ofNat hd, toInt_ofNat (by omega)]
  exact (Int.ofNat_tmod m d).symm
theorem ofNat_inj {a b : Nat} (ha : a < 2147483648) (hb : b < 2147483648) : Int32.ofNat a = Int32.ofNat b ↔ a = b := by
  rw [← Int32.toInt_inj, toInt_ofNat ha, toInt_ofNat hb]; omega
theorem ok8L (y : Int64) : ¬ (y &&& 255).toInt32.toUInt32.toUInt16.toUInt32.toInt32 < 0 ∧ ¬ (255 : Int32) < (y &&& 255).toInt32.toUInt32.toUInt16.toUInt32.toInt32 := by
  have b : (y.toBitVec &&& (255 : BitVec 64)).toNat ≤ 255 := by
    rw [BitVec.toNat_and]
    exact Nat.and_le_right
  have e : (y &&& 255).toInt32.toInt = ((y.toBitVec &&& (255 : BitVec 64)).signExtend 32).toInt := rfl
  rw [BitVec.signExtend_eq_setWidth_of_le _ (by decide)] at e
  rw [BitVec.toInt_eq_toNat_cond, BitVec.toNat_setWidth] at e
  have z : (0 : Int32).toInt = 0 := rfl
  have z' : (255 : Int32).toInt = 255 := rfl
  have h : ¬ (y &&& 255).toInt32 < 0 ∧ ¬ (255 : Int32) < (y &&& 255).toInt32 := by
    rw [Int32.lt_iff_toInt_lt, Int32.lt_iff_toInt_lt, z, z']
    split at e <;> omega
  rw [c16_of h.1 (to65 h.2)]
  exact h
theorem shl1 (i : Nat) : Int32.ofNat i <<< ((1 : Int32) &&& 31) = Int32.ofNat (2 * i) := by
  apply Int32.toBitVec_inj.mp
  rw [Int32.toBitVec_shiftLeft]
  have : (((1 : Int32) &&& 31).toBitVec.smod 32) = 1#32 := by decide
  rw [this]
  apply BitVec.eq_of_toNat_eq
  rw [BitVec.shiftLeft_eq', BitVec.toNat_shiftLeft]
  show ((BitVec.ofNat 32 i).toNat <<< (1#32).toNat) % 2 ^ 32 = (BitVec.ofNat 32 (2 * i)).toNat
  rw [BitVec.toNat_ofNat, BitVec.toNat_ofNat, Nat.shiftLeft_eq]
  simp
  omega
theorem cod1 {n : Nat} (h0 : 0 < n) (h1 : n ≤ 4000) : ((Int32.ofNat n - Int32.ofNat (2 * n)).toUInt32 >>> ((31 : Int32) &&& 31).toUInt32).toInt32.toInt8.toInt32 = 1 := by
  have e : (Int32.ofNat n - Int32.ofNat (2 * n)).toBitVec.toNat = 4294967296 - n := by
    rw [Int32.toBitVec_sub]
    show (BitVec.ofNat 32 n - BitVec.ofNat 32 (2 * n)).toNat = _
    rw [BitVec.toNat_sub, BitVec.toNat_ofNat, BitVec.toNat_ofNat]
    omega
  have e2 : ((Int32.ofNat n - Int32.ofNat (2 * n)).toUInt32 >>> ((31 : Int32) &&& 31).toUInt32).toInt32 = 1 := by
    apply Int32.toBitVec_inj.mp
    apply BitVec.eq_of_toNat_eq
    show ((Int32.ofNat n - Int32.ofNat (2 * n)).toUInt32 >>> ((31 : Int32) &&& 31).toUInt32).toNat = 1
    rw [UInt32.toNat_shiftRight]
    have : (((31 : Int32) &&& 31).toUInt32).toNat % 32 = 31 := by decide
    rw [this]
    show (Int32.ofNat n - Int32.ofNat (2 * n)).toBitVec.toNat >>> 31 = 1
    rw [e, Nat.shiftRight_eq_div_pow]
    omega
  rw [e2]
  decide
theorem bl {a b : Nat} (h : a ≤ b) : Nat.ble a b = true := Nat.ble_eq_true_of_le h
end Own
namespace Own
open Jvm Jvm.ClassFile Sem Op Lib Jvm.Free Jvm.Stand Jvm.LawKit Jvm.RoadKit Bundle
section Strs
variable {X : Cx} {l : Launch} {R : Room} {Z : State} {a0 : Array Value} {EL : List (String × Nat)} {nw : Bool} {sf : List Addr} {h h' : Heap} {W : Nat} {x x' b : Addr} {cs ds : List Int32}
/-- at x stands a String that spells cs -/
def Str (Z : State) (h : Heap) (x : Addr) (cs : List Int32) : Prop :=
  Exa Z h x "java/lang/String" ∧ ∃ (t : Addr) (kb : ClassId) (cd N2 : Int32) (vs : List Value), Fld Z h x "java/lang/String" "value" "[B" (.ref t) ∧ Fld Z h x "java/lang/String" "coder" "B" (.int cd) ∧ Arv Z h t kb .byte N2 vs (.int 0) ∧ StrChars.Road.CodA cs cd N2 vs ∧ (∀ c ∈ cs, ¬ c < 0 ∧ ¬ (65535 : Int32) < c) ∧ cs.length ≤ 4000
theorem Str.ext (S : Str Z h x cs) (E : Ext h h') : Str Z h' x cs := by
  obtain ⟨E1, t, kb, cd, N2, vs, h1, h2, h3, r⟩ := S
  exact ⟨E1.ext E, t, kb, cd, N2, vs, h1.ext E, h2.ext E, h3.ext E, r⟩
theorem Str.exa (S : Str Z h x cs) : Exa Z h x "java/lang/String" := S.1
theorem Str.lt (S : Str Z h x cs) : x < h.size := S.1.lt
theorem up255 (q : ∀ c ∈ cs, ¬ c < 0 ∧ ¬ (255 : Int32) < c) : ∀ c ∈ cs, ¬ c < 0 ∧ ¬ (65535 : Int32) < c := fun c hc => ⟨(q c hc).1, fun u => (q c hc).2 (by rw [Int32.lt_iff_toInt_lt] at u ⊢; have e1 : (65535 : Int32).toInt = 65535 := rfl; have e2 : (255 : Int32).toInt = 255 := rfl; omega)⟩
theorem Str.of_lit {kb : ClassId} {z : Int32} {vs : List Value} {t : Addr} (E : Exa Z h x "java/lang/String") (C : Fld Z h x "java/lang/String" "coder" "B" (.int 0)) (V : Fld Z h x "java/lang/String" "value" "[B" (.ref t)) (A : Arv Z h t kb .byte z vs (.int 0)) (hz : z = Int32.ofNat cs.length) (hv : vs = cs.map fun c => Value.int (StrChars.lo8 c)) (hc : ∀ c ∈ cs, ¬ c < 0 ∧ ¬ (255 : Int32) < c) (hl : cs.length ≤ 4000) : Str Z h x cs :=
  ⟨E, t, kb, 0, z, vs, V, C, A, Or.inl ⟨rfl, hz, hv, fun c q => (hc c q).2⟩, up255 hc, hl⟩
/-- a String constant, read -/
theorem g_lit {y : MethodName} {bs : ByteArray} {ml : Nat} {rt : Option FieldType} {Q : Option Value → Heap → Prop} {kc ks k n pc pc' : Nat} {Ls : Array Slot} {st : List Value} (hnw : nw = false) {text : String} {ix : Nat} (cs : List Int32) (nn : Nat) (hd : decode bs pc = .ok (.ldc ix, 2)) (hp : pc + 2 = pc') (w : (Jvm.Cond.stringLink y.cls ix text).before a0 Z = true) (wS : ∀ a ∈ Bundle.stringAtoms, a.before a0 Z = true) (hm : (y.cls, ix) ∈ EL)
    (ht : (∀ c ∈ text.toList, c.toNat < 256) ∧ text.toList.map (fun c => Value.int (Jvm.Lit.byteI c.toNat.toUInt16)) = cs.map fun c => Value.int (StrChars.lo8 c)) (hc : ∀ c ∈ cs, ¬ c < 0 ∧ ¬ (255 : Int32) < c) (hz : ¬ Int32.ofNat cs.length < 0) (hl : (Int32.ofNat cs.length).toNatClampNeg = cs.length) (hcl : Nat.ble cs.length 4000 = true) (h4 : Nat.ble (4 * text.toList.length) nn = true) (hbig : Nat.ble nn 536870912 = true) (hk : Nat.ble (k + 2) R.cells = true) (hn : Nat.ble (n + (nn + 4)) R.slots = true)
    (G : ∀ h' a, Ext h h' → Str Z h' a cs → (∀ x ∈ sf, x ≠ a) → Go X R Z a0 EL nw y bs ml rt Q kc ks sf h' (k + 2) (n + (nn + 4)) (mkF X.m pc' Ls (.ref a :: st))) : Go X R Z a0 EL nw y bs ml rt Q kc ks sf h k n (mkF X.m pc Ls st) :=
  g_ldcS hnw (z := Int32.ofNat cs.length) hd hp w wS hm ht hz (by rw [hl, List.length_map]) h4 hbig hk hn fun h' a b kb E A1 A2 A3 A4 hne => G h' a E (Str.of_lit A1 A2 A3 A4 rfl rfl hc (ble hcl)) fun x hx => (hne x hx).1
theorem pay_new {kC : ClassId} {N z : Int32} {d v0 c0 : Value} {n : Nat} (hws : ∀ d ∈ StrChars.Road.words, d.before a0 Z = true) (wi : (Jvm.Cond.instantiable "java/lang/String" 4).before a0 Z = true) (S : Sta Z Z.heap "java/lang/String" "COMPACT_STRINGS" "Z" (.int z)) (hz : ¬ z = 0) (EZ : Ext Z.heap h) (hx0 : Z.heap.size ≤ x)
    (E : Exa Z h x "java/lang/String") (V : Fld Z h x "java/lang/String" "value" "[B" v0) (C : Fld Z h x "java/lang/String" "coder" "B" c0) (K : Arv Z h b kC .char N (cs.map Value.int) d) (hn : cs.length = n) (hN : N = Int32.ofNat n) (l0 : Nat.ble 1 n = true) (l2 : Nat.ble n 4000 = true) (hp : ∀ c ∈ cs, ¬ c < 0 ∧ ¬ (255 : Int32) < c) (hfr : Nat.ble 4 R.frames = true) (hlo : Nat.ble (W + 65) R.locals = true) :
    Pay l R ⟨"java/lang/String", "<init>", "([C)V"⟩ W #[.ref x, .ref b] Z a0 EL nw [x] h 1 n (fun v h' => v = none ∧ Keep h h' [x] ∧ Str Z h' x cs) :=
  Pay.of_back [x] (fun p e below s args len hZ => StrChars.Road.backV (n0 := Z.heap.size) hZ hws (kI := 4) wi hx0 EZ.1 E V C K (S.ext EZ) hz hn hN (ble l0) (ble l2) hp rfl (ble hfr) (ble hlo)) (fun y hy => ⟨hy, by cases List.mem_singleton.mp hy; exact hx0⟩)
    (fun v h' L q => by
      obtain ⟨e1, N1, K1, E1, C1, t, kb, -, -, -, V1, A1⟩ := q
      exact ⟨⟨e1, K1, E1, t, kb, 0, N, _, V1, C1, A1, by rw [hN]; exact StrChars.Road.codOf hn (fun c hc => (hp c hc).2), up255 hp, by rw [hn]; exact ble l2⟩, K1, N1⟩)
theorem Str.lat (T : Str Z h x cs) (hp : ∀ c ∈ cs, ¬ (255 : Int32) < c) : ∃ (t : Addr) (kb : ClassId) (N2 : Int32) (vs : List Value), Fld Z h x "java/lang/String" "value" "[B" (.ref t) ∧ Fld Z h x "java/lang/String" "coder" "B" (.int 0) ∧ Arv Z h t kb .byte N2 vs (.int 0) ∧ StrChars.Road.CodA cs 0 N2 vs ∧ (∀ c ∈ cs, ¬ c < 0 ∧ ¬ (65535 : Int32) < c) ∧ cs.length ≤ 4000 := by
  obtain ⟨E1, t, kb, cd, N2, vs, V, C, A, hc, hb, hl⟩ := T
  have e : cd = 0 := by
    rcases hc with q | ⟨-, -, -, c, q1, q2⟩
    · exact q.1
    · exact absurd q2 (hp c q1)
  subst e
  exact ⟨t, kb, N2, vs, V, C, A, hc, hb, hl⟩
end Strs
end Own
namespace Own
open Jvm Jvm.ClassFile Sem Op Lib Jvm.Free Jvm.Stand Jvm.LawKit Jvm.RoadKit Bundle
section Strs
variable {X : Cx} {l : Launch} {R : Room} {Z : State} {a0 : Array Value} {EL : List (String × Nat)} {nw : Bool} {sf : List Addr} {h h' : Heap} {W : Nat} {x x' b : Addr} {cs ds : List Int32}
theorem pay_len {z : Int32} (hln : ∀ d ∈ StrChars.Road.wordsLen, d.before a0 Z = true) (wi : (Jvm.Cond.instantiable "java/lang/String" 4).before a0 Z = true) (S : Sta Z Z.heap "java/lang/String" "COMPACT_STRINGS" "Z" (.int z)) (hz : ¬ z = 0) (EZ : Ext Z.heap h) (T : Str Z h x cs) (hfr : Nat.ble 2 R.frames = true) (hlo : Nat.ble (W + 25) R.locals = true) :
    Pay l R ⟨"java/lang/String", "length", "()I"⟩ W #[.ref x] Z a0 EL nw sf h 0 0 (fun v h' => v = some (.int (Int32.ofNat cs.length)) ∧ h' = h) := by
  obtain ⟨E1, t, kb, cd, N2, vs, V, C, A, hc, hb, hl⟩ := T
  exact Pay.pure (P := fun v => v = some (.int (Int32.ofNat cs.length))) fun p e below s args len hZ => StrChars.Road.lenW hZ hln (kI := 4) wi E1 V C A hc hb (S.ext EZ) hz hl (ble hfr) (ble hlo)
end Strs
end Own
namespace Own
open Jvm Jvm.ClassFile Sem Op Lib Jvm.Free Jvm.Stand Jvm.LawKit Jvm.RoadKit Bundle
section Strs
variable {X : Cx} {l : Launch} {R : Room} {Z : State} {a0 : Array Value} {EL : List (String × Nat)} {nw : Bool} {sf : List Addr} {h h' : Heap} {W : Nat} {x x' b : Addr} {cs ds : List Int32}
theorem pay_eq {z : Int32} (heq : ∀ d ∈ StrChars.Road.wordsEq, d.before a0 Z = true) (wi : (Jvm.Cond.instantiable "java/lang/String" 4).before a0 Z = true) (S : Sta Z Z.heap "java/lang/String" "COMPACT_STRINGS" "Z" (.int z)) (hz : ¬ z = 0) (EZ : Ext Z.heap h) (T : Str Z h x cs) (T' : Str Z h x' ds) (hfr : Nat.ble 2 R.frames = true) (hlo : Nat.ble (W + 28) R.locals = true) :
    Pay l R ⟨"java/lang/String", "equals", "(Ljava/lang/Object;)Z"⟩ W #[.ref x, .ref x'] Z a0 EL nw sf h 0 0 (fun v h' => ((v = some (.int 1) ∧ cs = ds) ∨ (v = some (.int 0) ∧ ¬ cs = ds)) ∧ h' = h) := by
  obtain ⟨E1, t, kb, cd, N2, vs, V, C, A, hc, hb, hl⟩ := T
  obtain ⟨E1', t', kb', cd', N2', vs', V', C', A', hc', hb', hl'⟩ := T'
  exact Pay.pure (P := fun v => (v = some (.int 1) ∧ cs = ds) ∨ (v = some (.int 0) ∧ ¬ cs = ds)) fun p e below s args len hZ => StrChars.Road.eqW hZ heq (kI := 4) wi E1 V C A hc hb hl E1' V' C' A' hc' hb' hl' (S.ext EZ) hz (ble hfr) (ble hlo)
end Strs
end Own
theorem wk_ContextSetUpAlreadyPinLaw_7 {a0 : Array Value} {Z : State} (hw : ∀ d ∈ tables_1, d.before a0 Z = true) : (Jvm.Cond.constant "wirefold/ContextSetUpAlreadyPinLaw" (7 : Nat) (65535 : Int32)).before a0 Z = true := hw _ (List.mem_of_getElem? (i := 0) rfl)
theorem wc_ContextSetUpAlreadyPinLaw_8 {a0 : Array Value} {Z : State} (hw : ∀ d ∈ tables_1, d.before a0 Z = true) : (Jvm.Cond.classLink "wirefold/ContextSetUpAlreadyPinLaw" (8 : Nat) "java/lang/String").before a0 Z = true := hw _ (List.mem_of_getElem? (i := 1) rfl)
theorem wn_String {a0 : Array Value} {Z : State} (hw : ∀ d ∈ tables_1, d.before a0 Z = true) : (Jvm.Cond.instantiable "java/lang/String" (4 : Nat)).before a0 Z = true := hw _ (List.mem_of_getElem? (i := 2) rfl)
theorem wi_String {a0 : Array Value} {Z : State} (hw : ∀ d ∈ tables_1, d.before a0 Z = true) : (Jvm.Cond.initialized "java/lang/String").before a0 Z = true := hw _ (List.mem_of_getElem? (i := 3) rfl)
theorem wa_char {a0 : Array Value} {Z : State} (hw : ∀ d ∈ tables_1, d.before a0 Z = true) : (Jvm.Cond.arrayClass Jvm.ClassFile.FieldType.char).before a0 Z = true := hw _ (List.mem_of_getElem? (i := 4) rfl)
theorem wl_ContextSetUpAlreadyPinLaw_10 {a0 : Array Value} {Z : State} (hw : ∀ d ∈ tables_1, d.before a0 Z = true) : (Jvm.Cond.methodLink "wirefold/ContextSetUpAlreadyPinLaw" (10 : Nat) ({ cls := "java/lang/String", name := "<init>", desc := "([C)V" } : Jvm.MethodName)).before a0 Z = true := hw _ (List.mem_of_getElem? (i := 5) rfl)
theorem wm_String_init_lACrV {a0 : Array Value} {Z : State} (hw : ∀ d ∈ tables_1, d.before a0 Z = true) : (Jvm.Cond.instanceMethod ({ cls := "java/lang/String", name := "<init>", desc := "([C)V" } : Jvm.MethodName)).before a0 Z = true := hw _ (List.mem_of_getElem? (i := 6) rfl)
theorem wb_String_init_lACrV {a0 : Array Value} {Z : State} (hw : ∀ d ∈ tables_1, d.before a0 Z = true) : (Jvm.Cond.code ({ cls := "java/lang/String", name := "<init>", desc := "([C)V" } : Jvm.MethodName) jdk_42_method_3_code (2 : Nat) (Option.none : Option Jvm.ClassFile.FieldType)).before a0 Z = true := hw _ (List.mem_of_getElem? (i := 7) rfl)
theorem wl_String_27 {a0 : Array Value} {Z : State} (hw : ∀ d ∈ tables_1, d.before a0 Z = true) : (Jvm.Cond.methodLink "java/lang/String" (27 : Nat) ({ cls := "java/lang/String", name := "<init>", desc := "([CIILjava/lang/Void;)V" } : Jvm.MethodName)).before a0 Z = true := hw _ (List.mem_of_getElem? (i := 8) rfl)
theorem wm_String_init_lACIILjavalangVoidrV {a0 : Array Value} {Z : State} (hw : ∀ d ∈ tables_1, d.before a0 Z = true) : (Jvm.Cond.instanceMethod ({ cls := "java/lang/String", name := "<init>", desc := "([CIILjava/lang/Void;)V" } : Jvm.MethodName)).before a0 Z = true := hw _ (List.mem_of_getElem? (i := 9) rfl)
theorem wx_String_String {a0 : Array Value} {Z : State} (hw : ∀ d ∈ tables_1, d.before a0 Z = true) : (Jvm.Cond.castable "java/lang/String" "java/lang/String").before a0 Z = true := hw _ (List.mem_of_getElem? (i := 10) rfl)
theorem wb_String_init_lACIILjavalangVoidrV {a0 : Array Value} {Z : State} (hw : ∀ d ∈ tables_1, d.before a0 Z = true) : (Jvm.Cond.code ({ cls := "java/lang/String", name := "<init>", desc := "([CIILjava/lang/Void;)V" } : Jvm.MethodName) jdk_42_method_149_code (6 : Nat) (Option.none : Option Jvm.ClassFile.FieldType)).before a0 Z = true := hw _ (List.mem_of_getElem? (i := 11) rfl)
theorem wl_String_1 {a0 : Array Value} {Z : State} (hw : ∀ d ∈ tables_1, d.before a0 Z = true) : (Jvm.Cond.methodLink "java/lang/String" (1 : Nat) ({ cls := "java/lang/Object", name := "<init>", desc := "()V" } : Jvm.MethodName)).before a0 Z = true := hw _ (List.mem_of_getElem? (i := 12) rfl)
theorem wm_Object_init_lrV {a0 : Array Value} {Z : State} (hw : ∀ d ∈ tables_1, d.before a0 Z = true) : (Jvm.Cond.instanceMethod ({ cls := "java/lang/Object", name := "<init>", desc := "()V" } : Jvm.MethodName)).before a0 Z = true := hw _ (List.mem_of_getElem? (i := 13) rfl)
theorem wb_Object_init_lrV {a0 : Array Value} {Z : State} (hw : ∀ d ∈ tables_1, d.before a0 Z = true) : (Jvm.Cond.code ({ cls := "java/lang/Object", name := "<init>", desc := "()V" } : Jvm.MethodName) object_method_1_code (1 : Nat) (Option.none : Option Jvm.ClassFile.FieldType)).before a0 Z = true := hw _ (List.mem_of_getElem? (i := 14) rfl)
theorem wt_String_7 {a0 : Array Value} {Z : State} (hw : ∀ d ∈ tables_1, d.before a0 Z = true) : (Jvm.Cond.stringLink "java/lang/String" (7 : Nat) "").before a0 Z = true := hw _ (List.mem_of_getElem? (i := 15) rfl)
theorem wa_byte {a0 : Array Value} {Z : State} (hw : ∀ d ∈ tables_1, d.before a0 Z = true) : (Jvm.Cond.arrayClass Jvm.ClassFile.FieldType.byte).before a0 Z = true := hw _ (List.mem_of_getElem? (i := 16) rfl)
theorem wy_String_String_value {a0 : Array Value} {Z : State} (hw : ∀ d ∈ tables_1, d.before a0 Z = true) : (Jvm.Cond.laysFinal "java/lang/String" "java/lang/String" "value" "[B").before a0 Z = true := hw _ (List.mem_of_getElem? (i := 17) rfl)
theorem wy_String_String_coder {a0 : Array Value} {Z : State} (hw : ∀ d ∈ tables_1, d.before a0 Z = true) : (Jvm.Cond.laysFinal "java/lang/String" "java/lang/String" "coder" "B").before a0 Z = true := hw _ (List.mem_of_getElem? (i := 18) rfl)
theorem wj_String_value {a0 : Array Value} {Z : State} (hw : ∀ d ∈ tables_1, d.before a0 Z = true) : (Jvm.Cond.soleField "java/lang/String" "value").before a0 Z = true := hw _ (List.mem_of_getElem? (i := 19) rfl)
theorem wj_String_coder {a0 : Array Value} {Z : State} (hw : ∀ d ∈ tables_1, d.before a0 Z = true) : (Jvm.Cond.soleField "java/lang/String" "coder").before a0 Z = true := hw _ (List.mem_of_getElem? (i := 20) rfl)
theorem wf_String_9 {a0 : Array Value} {Z : State} (hw : ∀ d ∈ tables_1, d.before a0 Z = true) : (Jvm.Cond.fieldLink "java/lang/String" (9 : Nat) "java/lang/String" "value" "[B").before a0 Z = true := hw _ (List.mem_of_getElem? (i := 21) rfl)
theorem wf_String_15 {a0 : Array Value} {Z : State} (hw : ∀ d ∈ tables_1, d.before a0 Z = true) : (Jvm.Cond.fieldLink "java/lang/String" (15 : Nat) "java/lang/String" "coder" "B").before a0 Z = true := hw _ (List.mem_of_getElem? (i := 22) rfl)
theorem wt_ContextSetUpAlreadyPinLaw_13 {a0 : Array Value} {Z : State} (hw : ∀ d ∈ tables_1, d.before a0 Z = true) : (Jvm.Cond.stringLink "wirefold/ContextSetUpAlreadyPinLaw" (13 : Nat) ": the context has already been refreshed or closed").before a0 Z = true := hw _ (List.mem_of_getElem? (i := 23) rfl)
theorem wl_ContextSetUpAlreadyPinLaw_15 {a0 : Array Value} {Z : State} (hw : ∀ d ∈ tables_1, d.before a0 Z = true) : (Jvm.Cond.methodLink "wirefold/ContextSetUpAlreadyPinLaw" (15 : Nat) ({ cls := "wirefold/Context", name := "setUpAlready", desc := "(Ljava/lang/String;)Ljava/lang/IllegalStateException;" } : Jvm.MethodName)).before a0 Z = true := hw _ (List.mem_of_getElem? (i := 24) rfl)
theorem ws_Context_setUpAlready_lLjavalangStringrLjavalangIllegalStateException {a0 : Array Value} {Z : State} (hw : ∀ d ∈ tables_1, d.before a0 Z = true) : (Jvm.Cond.static ({ cls := "wirefold/Context", name := "setUpAlready", desc := "(Ljava/lang/String;)Ljava/lang/IllegalStateException;" } : Jvm.MethodName)).before a0 Z = true := hw _ (List.mem_of_getElem? (i := 25) rfl)
theorem wi_Context {a0 : Array Value} {Z : State} (hw : ∀ d ∈ tables_1, d.before a0 Z = true) : (Jvm.Cond.initialized "wirefold/Context").before a0 Z = true := hw _ (List.mem_of_getElem? (i := 26) rfl)
theorem wb_Context_setUpAlready_lLjavalangStringrLjavalangIllegalStateException {a0 : Array Value} {Z : State} (hw : ∀ d ∈ tables_1, d.before a0 Z = true) : (Jvm.Cond.code ({ cls := "wirefold/Context", name := "setUpAlready", desc := "(Ljava/lang/String;)Ljava/lang/IllegalStateException;" } : Jvm.MethodName) prog_24_method_16_code (1 : Nat) (Option.some (Jvm.ClassFile.FieldType.object "java/lang/IllegalStateException"))).before a0 Z = true := hw _ (List.mem_of_getElem? (i := 27) rfl)
theorem wc_Context_260 {a0 : Array Value} {Z : State} (hw : ∀ d ∈ tables_1, d.before a0 Z = true) : (Jvm.Cond.classLink "wirefold/Context" (260 : Nat) "java/lang/IllegalStateException").before a0 Z = true := hw _ (List.mem_of_getElem? (i := 28) rfl)
theorem wn_IllegalStateException {a0 : Array Value} {Z : State} (hw : ∀ d ∈ tables_1, d.before a0 Z = true) : (Jvm.Cond.instantiable "java/lang/IllegalStateException" (6 : Nat)).before a0 Z = true := hw _ (List.mem_of_getElem? (i := 29) rfl)
theorem wi_IllegalStateException {a0 : Array Value} {Z : State} (hw : ∀ d ∈ tables_1, d.before a0 Z = true) : (Jvm.Cond.initialized "java/lang/IllegalStateException").before a0 Z = true := hw _ (List.mem_of_getElem? (i := 30) rfl)
theorem wc_Context_143 {a0 : Array Value} {Z : State} (hw : ∀ d ∈ tables_1, d.before a0 Z = true) : (Jvm.Cond.classLink "wirefold/Context" (143 : Nat) "java/lang/StringBuilder").before a0 Z = true := hw _ (List.mem_of_getElem? (i := 31) rfl)
theorem wn_StringBuilder {a0 : Array Value} {Z : State} (hw : ∀ d ∈ tables_1, d.before a0 Z = true) : (Jvm.Cond.instantiable "java/lang/StringBuilder" (4 : Nat)).before a0 Z = true := hw _ (List.mem_of_getElem? (i := 32) rfl)
theorem wi_StringBuilder {a0 : Array Value} {Z : State} (hw : ∀ d ∈ tables_1, d.before a0 Z = true) : (Jvm.Cond.initialized "java/lang/StringBuilder").before a0 Z = true := hw _ (List.mem_of_getElem? (i := 33) rfl)
theorem wl_Context_145 {a0 : Array Value} {Z : State} (hw : ∀ d ∈ tables_1, d.before a0 Z = true) : (Jvm.Cond.methodLink "wirefold/Context" (145 : Nat) ({ cls := "java/lang/StringBuilder", name := "<init>", desc := "()V" } : Jvm.MethodName)).before a0 Z = true := hw _ (List.mem_of_getElem? (i := 34) rfl)
theorem wm_StringBuilder_init_lrV {a0 : Array Value} {Z : State} (hw : ∀ d ∈ tables_1, d.before a0 Z = true) : (Jvm.Cond.instanceMethod ({ cls := "java/lang/StringBuilder", name := "<init>", desc := "()V" } : Jvm.MethodName)).before a0 Z = true := hw _ (List.mem_of_getElem? (i := 35) rfl)
theorem wb_StringBuilder_init_lrV {a0 : Array Value} {Z : State} (hw : ∀ d ∈ tables_1, d.before a0 Z = true) : (Jvm.Cond.code ({ cls := "java/lang/StringBuilder", name := "<init>", desc := "()V" } : Jvm.MethodName) jdk_67_method_1_code (1 : Nat) (Option.none : Option Jvm.ClassFile.FieldType)).before a0 Z = true := hw _ (List.mem_of_getElem? (i := 36) rfl)
theorem wl_StringBuilder_1 {a0 : Array Value} {Z : State} (hw : ∀ d ∈ tables_1, d.before a0 Z = true) : (Jvm.Cond.methodLink "java/lang/StringBuilder" (1 : Nat) ({ cls := "java/lang/AbstractStringBuilder", name := "<init>", desc := "(I)V" } : Jvm.MethodName)).before a0 Z = true := hw _ (List.mem_of_getElem? (i := 37) rfl)
theorem wm_AbstractStringBuilder_init_lIrV {a0 : Array Value} {Z : State} (hw : ∀ d ∈ tables_1, d.before a0 Z = true) : (Jvm.Cond.instanceMethod ({ cls := "java/lang/AbstractStringBuilder", name := "<init>", desc := "(I)V" } : Jvm.MethodName)).before a0 Z = true := hw _ (List.mem_of_getElem? (i := 38) rfl)
theorem wd_AbstractStringBuilder_init_lIrV {a0 : Array Value} {Z : State} (hw : ∀ d ∈ tables_1, d.before a0 Z = true) : (Jvm.Cond.declares ({ cls := "java/lang/AbstractStringBuilder", name := "<init>", desc := "(I)V" } : Jvm.MethodName)).before a0 Z = true := hw _ (List.mem_of_getElem? (i := 39) rfl)
theorem wx_StringBuilder_AbstractStringBuilder {a0 : Array Value} {Z : State} (hw : ∀ d ∈ tables_1, d.before a0 Z = true) : (Jvm.Cond.castable "java/lang/StringBuilder" "java/lang/AbstractStringBuilder").before a0 Z = true := hw _ (List.mem_of_getElem? (i := 40) rfl)
theorem wi_AbstractStringBuilder {a0 : Array Value} {Z : State} (hw : ∀ d ∈ tables_1, d.before a0 Z = true) : (Jvm.Cond.initialized "java/lang/AbstractStringBuilder").before a0 Z = true := hw _ (List.mem_of_getElem? (i := 41) rfl)
theorem wb_AbstractStringBuilder_init_lIrV {a0 : Array Value} {Z : State} (hw : ∀ d ∈ tables_1, d.before a0 Z = true) : (Jvm.Cond.code ({ cls := "java/lang/AbstractStringBuilder", name := "<init>", desc := "(I)V" } : Jvm.MethodName) jdk_68_method_2_code (2 : Nat) (Option.none : Option Jvm.ClassFile.FieldType)).before a0 Z = true := hw _ (List.mem_of_getElem? (i := 42) rfl)
theorem wl_AbstractStringBuilder_3 {a0 : Array Value} {Z : State} (hw : ∀ d ∈ tables_1, d.before a0 Z = true) : (Jvm.Cond.methodLink "java/lang/AbstractStringBuilder" (3 : Nat) ({ cls := "java/lang/Object", name := "<init>", desc := "()V" } : Jvm.MethodName)).before a0 Z = true := hw _ (List.mem_of_getElem? (i := 43) rfl)
theorem wf_AbstractStringBuilder_18 {a0 : Array Value} {Z : State} (hw : ∀ d ∈ tables_1, d.before a0 Z = true) : (Jvm.Cond.fieldLink "java/lang/AbstractStringBuilder" (18 : Nat) "java/lang/String" "COMPACT_STRINGS" "Z").before a0 Z = true := hw _ (List.mem_of_getElem? (i := 44) rfl)
theorem wf_AbstractStringBuilder_15 {a0 : Array Value} {Z : State} (hw : ∀ d ∈ tables_1, d.before a0 Z = true) : (Jvm.Cond.fieldLink "java/lang/AbstractStringBuilder" (15 : Nat) "java/lang/AbstractStringBuilder" "value" "[B").before a0 Z = true := hw _ (List.mem_of_getElem? (i := 45) rfl)
theorem wy_StringBuilder_AbstractStringBuilder_value {a0 : Array Value} {Z : State} (hw : ∀ d ∈ tables_1, d.before a0 Z = true) : (Jvm.Cond.lays "java/lang/StringBuilder" "java/lang/AbstractStringBuilder" "value" "[B").before a0 Z = true := hw _ (List.mem_of_getElem? (i := 46) rfl)
theorem wf_AbstractStringBuilder_22 {a0 : Array Value} {Z : State} (hw : ∀ d ∈ tables_1, d.before a0 Z = true) : (Jvm.Cond.fieldLink "java/lang/AbstractStringBuilder" (22 : Nat) "java/lang/AbstractStringBuilder" "coder" "B").before a0 Z = true := hw _ (List.mem_of_getElem? (i := 47) rfl)
theorem wy_StringBuilder_AbstractStringBuilder_coder {a0 : Array Value} {Z : State} (hw : ∀ d ∈ tables_1, d.before a0 Z = true) : (Jvm.Cond.lays "java/lang/StringBuilder" "java/lang/AbstractStringBuilder" "coder" "B").before a0 Z = true := hw _ (List.mem_of_getElem? (i := 48) rfl)
theorem wl_Context_148 {a0 : Array Value} {Z : State} (hw : ∀ d ∈ tables_1, d.before a0 Z = true) : (Jvm.Cond.methodLink "wirefold/Context" (148 : Nat) ({ cls := "java/lang/StringBuilder", name := "append", desc := "(Ljava/lang/String;)Ljava/lang/StringBuilder;" } : Jvm.MethodName)).before a0 Z = true := hw _ (List.mem_of_getElem? (i := 49) rfl)
theorem wd_StringBuilder_append_lLjavalangStringrLjavalangStringBuilder {a0 : Array Value} {Z : State} (hw : ∀ d ∈ tables_1, d.before a0 Z = true) : (Jvm.Cond.declares ({ cls := "java/lang/StringBuilder", name := "append", desc := "(Ljava/lang/String;)Ljava/lang/StringBuilder;" } : Jvm.MethodName)).before a0 Z = true := hw _ (List.mem_of_getElem? (i := 50) rfl)
theorem wm_StringBuilder_append_lLjavalangStringrLjavalangStringBuilder {a0 : Array Value} {Z : State} (hw : ∀ d ∈ tables_1, d.before a0 Z = true) : (Jvm.Cond.instanceMethod ({ cls := "java/lang/StringBuilder", name := "append", desc := "(Ljava/lang/String;)Ljava/lang/StringBuilder;" } : Jvm.MethodName)).before a0 Z = true := hw _ (List.mem_of_getElem? (i := 51) rfl)
theorem wv_StringBuilder_StringBuilder_append_lLjavalangStringrLjavalangStringBuilder {a0 : Array Value} {Z : State} (hw : ∀ d ∈ tables_1, d.before a0 Z = true) : (Jvm.Cond.selects "java/lang/StringBuilder" ({ cls := "java/lang/StringBuilder", name := "append", desc := "(Ljava/lang/String;)Ljava/lang/StringBuilder;" } : Jvm.MethodName) ({ cls := "java/lang/StringBuilder", name := "append", desc := "(Ljava/lang/String;)Ljava/lang/StringBuilder;" } : Jvm.MethodName)).before a0 Z = true := hw _ (List.mem_of_getElem? (i := 52) rfl)
theorem wb_StringBuilder_append_lLjavalangStringrLjavalangStringBuilder {a0 : Array Value} {Z : State} (hw : ∀ d ∈ tables_1, d.before a0 Z = true) : (Jvm.Cond.code ({ cls := "java/lang/StringBuilder", name := "append", desc := "(Ljava/lang/String;)Ljava/lang/StringBuilder;" } : Jvm.MethodName) jdk_67_method_7_code (2 : Nat) (Option.some (Jvm.ClassFile.FieldType.object "java/lang/StringBuilder"))).before a0 Z = true := hw _ (List.mem_of_getElem? (i := 53) rfl)
theorem wl_StringBuilder_29 {a0 : Array Value} {Z : State} (hw : ∀ d ∈ tables_1, d.before a0 Z = true) : (Jvm.Cond.methodLink "java/lang/StringBuilder" (29 : Nat) ({ cls := "java/lang/AbstractStringBuilder", name := "append", desc := "(Ljava/lang/String;)Ljava/lang/AbstractStringBuilder;" } : Jvm.MethodName)).before a0 Z = true := hw _ (List.mem_of_getElem? (i := 54) rfl)
theorem wm_AbstractStringBuilder_append_lLjavalangStringrLjavalangAbstractStringBuilder {a0 : Array Value} {Z : State} (hw : ∀ d ∈ tables_1, d.before a0 Z = true) : (Jvm.Cond.instanceMethod ({ cls := "java/lang/AbstractStringBuilder", name := "append", desc := "(Ljava/lang/String;)Ljava/lang/AbstractStringBuilder;" } : Jvm.MethodName)).before a0 Z = true := hw _ (List.mem_of_getElem? (i := 55) rfl)
theorem wz_StringBuilder_AbstractStringBuilder {a0 : Array Value} {Z : State} (hw : ∀ d ∈ tables_1, d.before a0 Z = true) : (Jvm.Cond.superclass "java/lang/StringBuilder" "java/lang/AbstractStringBuilder").before a0 Z = true := hw _ (List.mem_of_getElem? (i := 56) rfl)
theorem wd_AbstractStringBuilder_append_lLjavalangStringrLjavalangAbstractStringBuilder {a0 : Array Value} {Z : State} (hw : ∀ d ∈ tables_1, d.before a0 Z = true) : (Jvm.Cond.declares ({ cls := "java/lang/AbstractStringBuilder", name := "append", desc := "(Ljava/lang/String;)Ljava/lang/AbstractStringBuilder;" } : Jvm.MethodName)).before a0 Z = true := hw _ (List.mem_of_getElem? (i := 57) rfl)
theorem wb_AbstractStringBuilder_append_lLjavalangStringrLjavalangAbstractStringBuilder {a0 : Array Value} {Z : State} (hw : ∀ d ∈ tables_1, d.before a0 Z = true) : (Jvm.Cond.code ({ cls := "java/lang/AbstractStringBuilder", name := "append", desc := "(Ljava/lang/String;)Ljava/lang/AbstractStringBuilder;" } : Jvm.MethodName) jdk_68_method_22_code (3 : Nat) (Option.some (Jvm.ClassFile.FieldType.object "java/lang/AbstractStringBuilder"))).before a0 Z = true := hw _ (List.mem_of_getElem? (i := 58) rfl)
theorem wl_AbstractStringBuilder_32 {a0 : Array Value} {Z : State} (hw : ∀ d ∈ tables_1, d.before a0 Z = true) : (Jvm.Cond.methodLink "java/lang/AbstractStringBuilder" (32 : Nat) ({ cls := "java/lang/String", name := "length", desc := "()I" } : Jvm.MethodName)).before a0 Z = true := hw _ (List.mem_of_getElem? (i := 59) rfl)
theorem wd_String_length_lrI {a0 : Array Value} {Z : State} (hw : ∀ d ∈ tables_1, d.before a0 Z = true) : (Jvm.Cond.declares ({ cls := "java/lang/String", name := "length", desc := "()I" } : Jvm.MethodName)).before a0 Z = true := hw _ (List.mem_of_getElem? (i := 60) rfl)
theorem wm_String_length_lrI {a0 : Array Value} {Z : State} (hw : ∀ d ∈ tables_1, d.before a0 Z = true) : (Jvm.Cond.instanceMethod ({ cls := "java/lang/String", name := "length", desc := "()I" } : Jvm.MethodName)).before a0 Z = true := hw _ (List.mem_of_getElem? (i := 61) rfl)
theorem wv_String_String_length_lrI {a0 : Array Value} {Z : State} (hw : ∀ d ∈ tables_1, d.before a0 Z = true) : (Jvm.Cond.selects "java/lang/String" ({ cls := "java/lang/String", name := "length", desc := "()I" } : Jvm.MethodName) ({ cls := "java/lang/String", name := "length", desc := "()I" } : Jvm.MethodName)).before a0 Z = true := hw _ (List.mem_of_getElem? (i := 62) rfl)
theorem wb_String_length_lrI {a0 : Array Value} {Z : State} (hw : ∀ d ∈ tables_1, d.before a0 Z = true) : (Jvm.Cond.code ({ cls := "java/lang/String", name := "length", desc := "()I" } : Jvm.MethodName) jdk_42_method_54_code (1 : Nat) (Option.some Jvm.ClassFile.FieldType.int)).before a0 Z = true := hw _ (List.mem_of_getElem? (i := 63) rfl)
theorem wl_String_335 {a0 : Array Value} {Z : State} (hw : ∀ d ∈ tables_1, d.before a0 Z = true) : (Jvm.Cond.methodLink "java/lang/String" (335 : Nat) ({ cls := "java/lang/String", name := "coder", desc := "()B" } : Jvm.MethodName)).before a0 Z = true := hw _ (List.mem_of_getElem? (i := 64) rfl)
theorem wd_String_coder_lrB {a0 : Array Value} {Z : State} (hw : ∀ d ∈ tables_1, d.before a0 Z = true) : (Jvm.Cond.declares ({ cls := "java/lang/String", name := "coder", desc := "()B" } : Jvm.MethodName)).before a0 Z = true := hw _ (List.mem_of_getElem? (i := 65) rfl)
theorem wm_String_coder_lrB {a0 : Array Value} {Z : State} (hw : ∀ d ∈ tables_1, d.before a0 Z = true) : (Jvm.Cond.instanceMethod ({ cls := "java/lang/String", name := "coder", desc := "()B" } : Jvm.MethodName)).before a0 Z = true := hw _ (List.mem_of_getElem? (i := 66) rfl)
theorem wv_String_String_coder_lrB {a0 : Array Value} {Z : State} (hw : ∀ d ∈ tables_1, d.before a0 Z = true) : (Jvm.Cond.selects "java/lang/String" ({ cls := "java/lang/String", name := "coder", desc := "()B" } : Jvm.MethodName) ({ cls := "java/lang/String", name := "coder", desc := "()B" } : Jvm.MethodName)).before a0 Z = true := hw _ (List.mem_of_getElem? (i := 67) rfl)
theorem wb_String_coder_lrB {a0 : Array Value} {Z : State} (hw : ∀ d ∈ tables_1, d.before a0 Z = true) : (Jvm.Cond.code ({ cls := "java/lang/String", name := "coder", desc := "()B" } : Jvm.MethodName) jdk_42_method_152_code (1 : Nat) (Option.some Jvm.ClassFile.FieldType.byte)).before a0 Z = true := hw _ (List.mem_of_getElem? (i := 68) rfl)
theorem wf_String_38 {a0 : Array Value} {Z : State} (hw : ∀ d ∈ tables_1, d.before a0 Z = true) : (Jvm.Cond.fieldLink "java/lang/String" (38 : Nat) "java/lang/String" "COMPACT_STRINGS" "Z").before a0 Z = true := hw _ (List.mem_of_getElem? (i := 69) rfl)
theorem wf_AbstractStringBuilder_79 {a0 : Array Value} {Z : State} (hw : ∀ d ∈ tables_1, d.before a0 Z = true) : (Jvm.Cond.fieldLink "java/lang/AbstractStringBuilder" (79 : Nat) "java/lang/AbstractStringBuilder" "count" "I").before a0 Z = true := hw _ (List.mem_of_getElem? (i := 70) rfl)
theorem wy_StringBuilder_AbstractStringBuilder_count {a0 : Array Value} {Z : State} (hw : ∀ d ∈ tables_1, d.before a0 Z = true) : (Jvm.Cond.lays "java/lang/StringBuilder" "java/lang/AbstractStringBuilder" "count" "I").before a0 Z = true := hw _ (List.mem_of_getElem? (i := 71) rfl)
theorem wl_AbstractStringBuilder_100 {a0 : Array Value} {Z : State} (hw : ∀ d ∈ tables_1, d.before a0 Z = true) : (Jvm.Cond.methodLink "java/lang/AbstractStringBuilder" (100 : Nat) ({ cls := "java/lang/AbstractStringBuilder", name := "ensureCapacityInternal", desc := "(I)V" } : Jvm.MethodName)).before a0 Z = true := hw _ (List.mem_of_getElem? (i := 72) rfl)
theorem wm_AbstractStringBuilder_ensureCapacityInternal_lIrV {a0 : Array Value} {Z : State} (hw : ∀ d ∈ tables_1, d.before a0 Z = true) : (Jvm.Cond.instanceMethod ({ cls := "java/lang/AbstractStringBuilder", name := "ensureCapacityInternal", desc := "(I)V" } : Jvm.MethodName)).before a0 Z = true := hw _ (List.mem_of_getElem? (i := 73) rfl)
theorem wq_AbstractStringBuilder_ensureCapacityInternal_lIrV {a0 : Array Value} {Z : State} (hw : ∀ d ∈ tables_1, d.before a0 Z = true) : (Jvm.Cond.privateMethod ({ cls := "java/lang/AbstractStringBuilder", name := "ensureCapacityInternal", desc := "(I)V" } : Jvm.MethodName)).before a0 Z = true := hw _ (List.mem_of_getElem? (i := 74) rfl)
theorem wv_StringBuilder_AbstractStringBuilder_ensureCapacityInternal_lIrV {a0 : Array Value} {Z : State} (hw : ∀ d ∈ tables_1, d.before a0 Z = true) : (Jvm.Cond.selects "java/lang/StringBuilder" ({ cls := "java/lang/AbstractStringBuilder", name := "ensureCapacityInternal", desc := "(I)V" } : Jvm.MethodName) ({ cls := "java/lang/AbstractStringBuilder", name := "ensureCapacityInternal", desc := "(I)V" } : Jvm.MethodName)).before a0 Z = true := hw _ (List.mem_of_getElem? (i := 75) rfl)
theorem wb_AbstractStringBuilder_ensureCapacityInternal_lIrV {a0 : Array Value} {Z : State} (hw : ∀ d ∈ tables_1, d.before a0 Z = true) : (Jvm.Cond.code ({ cls := "java/lang/AbstractStringBuilder", name := "ensureCapacityInternal", desc := "(I)V" } : Jvm.MethodName) jdk_68_method_9_code (3 : Nat) (Option.none : Option Jvm.ClassFile.FieldType)).before a0 Z = true := hw _ (List.mem_of_getElem? (i := 76) rfl)
theorem wl_AbstractStringBuilder_208 {a0 : Array Value} {Z : State} (hw : ∀ d ∈ tables_1, d.before a0 Z = true) : (Jvm.Cond.methodLink "java/lang/AbstractStringBuilder" (208 : Nat) ({ cls := "java/lang/AbstractStringBuilder", name := "putStringAt", desc := "(ILjava/lang/String;)V" } : Jvm.MethodName)).before a0 Z = true := hw _ (List.mem_of_getElem? (i := 77) rfl)
theorem wm_AbstractStringBuilder_putStringAt_lILjavalangStringrV {a0 : Array Value} {Z : State} (hw : ∀ d ∈ tables_1, d.before a0 Z = true) : (Jvm.Cond.instanceMethod ({ cls := "java/lang/AbstractStringBuilder", name := "putStringAt", desc := "(ILjava/lang/String;)V" } : Jvm.MethodName)).before a0 Z = true := hw _ (List.mem_of_getElem? (i := 78) rfl)
theorem wq_AbstractStringBuilder_putStringAt_lILjavalangStringrV {a0 : Array Value} {Z : State} (hw : ∀ d ∈ tables_1, d.before a0 Z = true) : (Jvm.Cond.privateMethod ({ cls := "java/lang/AbstractStringBuilder", name := "putStringAt", desc := "(ILjava/lang/String;)V" } : Jvm.MethodName)).before a0 Z = true := hw _ (List.mem_of_getElem? (i := 79) rfl)
theorem wv_StringBuilder_AbstractStringBuilder_putStringAt_lILjavalangStringrV {a0 : Array Value} {Z : State} (hw : ∀ d ∈ tables_1, d.before a0 Z = true) : (Jvm.Cond.selects "java/lang/StringBuilder" ({ cls := "java/lang/AbstractStringBuilder", name := "putStringAt", desc := "(ILjava/lang/String;)V" } : Jvm.MethodName) ({ cls := "java/lang/AbstractStringBuilder", name := "putStringAt", desc := "(ILjava/lang/String;)V" } : Jvm.MethodName)).before a0 Z = true := hw _ (List.mem_of_getElem? (i := 80) rfl)
theorem wb_AbstractStringBuilder_putStringAt_lILjavalangStringrV {a0 : Array Value} {Z : State} (hw : ∀ d ∈ tables_1, d.before a0 Z = true) : (Jvm.Cond.code ({ cls := "java/lang/AbstractStringBuilder", name := "putStringAt", desc := "(ILjava/lang/String;)V" } : Jvm.MethodName) jdk_68_method_73_code (3 : Nat) (Option.none : Option Jvm.ClassFile.FieldType)).before a0 Z = true := hw _ (List.mem_of_getElem? (i := 81) rfl)
theorem wl_AbstractStringBuilder_397 {a0 : Array Value} {Z : State} (hw : ∀ d ∈ tables_1, d.before a0 Z = true) : (Jvm.Cond.methodLink "java/lang/AbstractStringBuilder" (397 : Nat) ({ cls := "java/lang/AbstractStringBuilder", name := "inflateIfNeededFor", desc := "(Ljava/lang/String;)V" } : Jvm.MethodName)).before a0 Z = true := hw _ (List.mem_of_getElem? (i := 82) rfl)
theorem wm_AbstractStringBuilder_inflateIfNeededFor_lLjavalangStringrV {a0 : Array Value} {Z : State} (hw : ∀ d ∈ tables_1, d.before a0 Z = true) : (Jvm.Cond.instanceMethod ({ cls := "java/lang/AbstractStringBuilder", name := "inflateIfNeededFor", desc := "(Ljava/lang/String;)V" } : Jvm.MethodName)).before a0 Z = true := hw _ (List.mem_of_getElem? (i := 83) rfl)
theorem wq_AbstractStringBuilder_inflateIfNeededFor_lLjavalangStringrV {a0 : Array Value} {Z : State} (hw : ∀ d ∈ tables_1, d.before a0 Z = true) : (Jvm.Cond.privateMethod ({ cls := "java/lang/AbstractStringBuilder", name := "inflateIfNeededFor", desc := "(Ljava/lang/String;)V" } : Jvm.MethodName)).before a0 Z = true := hw _ (List.mem_of_getElem? (i := 84) rfl)
theorem wv_StringBuilder_AbstractStringBuilder_inflateIfNeededFor_lLjavalangStringrV {a0 : Array Value} {Z : State} (hw : ∀ d ∈ tables_1, d.before a0 Z = true) : (Jvm.Cond.selects "java/lang/StringBuilder" ({ cls := "java/lang/AbstractStringBuilder", name := "inflateIfNeededFor", desc := "(Ljava/lang/String;)V" } : Jvm.MethodName) ({ cls := "java/lang/AbstractStringBuilder", name := "inflateIfNeededFor", desc := "(Ljava/lang/String;)V" } : Jvm.MethodName)).before a0 Z = true := hw _ (List.mem_of_getElem? (i := 85) rfl)
theorem wb_AbstractStringBuilder_inflateIfNeededFor_lLjavalangStringrV {a0 : Array Value} {Z : State} (hw : ∀ d ∈ tables_1, d.before a0 Z = true) : (Jvm.Cond.code ({ cls := "java/lang/AbstractStringBuilder", name := "inflateIfNeededFor", desc := "(Ljava/lang/String;)V" } : Jvm.MethodName) jdk_68_method_71_code (2 : Nat) (Option.none : Option Jvm.ClassFile.FieldType)).before a0 Z = true := hw _ (List.mem_of_getElem? (i := 86) rfl)
theorem wl_AbstractStringBuilder_40 {a0 : Array Value} {Z : State} (hw : ∀ d ∈ tables_1, d.before a0 Z = true) : (Jvm.Cond.methodLink "java/lang/AbstractStringBuilder" (40 : Nat) ({ cls := "java/lang/String", name := "coder", desc := "()B" } : Jvm.MethodName)).before a0 Z = true := hw _ (List.mem_of_getElem? (i := 87) rfl)
theorem wl_AbstractStringBuilder_399 {a0 : Array Value} {Z : State} (hw : ∀ d ∈ tables_1, d.before a0 Z = true) : (Jvm.Cond.methodLink "java/lang/AbstractStringBuilder" (399 : Nat) ({ cls := "java/lang/String", name := "getBytes", desc := "([BIB)V" } : Jvm.MethodName)).before a0 Z = true := hw _ (List.mem_of_getElem? (i := 88) rfl)
theorem wd_String_getBytes_lABIBrV {a0 : Array Value} {Z : State} (hw : ∀ d ∈ tables_1, d.before a0 Z = true) : (Jvm.Cond.declares ({ cls := "java/lang/String", name := "getBytes", desc := "([BIB)V" } : Jvm.MethodName)).before a0 Z = true := hw _ (List.mem_of_getElem? (i := 89) rfl)
theorem wm_String_getBytes_lABIBrV {a0 : Array Value} {Z : State} (hw : ∀ d ∈ tables_1, d.before a0 Z = true) : (Jvm.Cond.instanceMethod ({ cls := "java/lang/String", name := "getBytes", desc := "([BIB)V" } : Jvm.MethodName)).before a0 Z = true := hw _ (List.mem_of_getElem? (i := 90) rfl)
theorem wv_String_String_getBytes_lABIBrV {a0 : Array Value} {Z : State} (hw : ∀ d ∈ tables_1, d.before a0 Z = true) : (Jvm.Cond.selects "java/lang/String" ({ cls := "java/lang/String", name := "getBytes", desc := "([BIB)V" } : Jvm.MethodName) ({ cls := "java/lang/String", name := "getBytes", desc := "([BIB)V" } : Jvm.MethodName)).before a0 Z = true := hw _ (List.mem_of_getElem? (i := 91) rfl)
theorem wb_String_getBytes_lABIBrV {a0 : Array Value} {Z : State} (hw : ∀ d ∈ tables_1, d.before a0 Z = true) : (Jvm.Cond.code ({ cls := "java/lang/String", name := "getBytes", desc := "([BIB)V" } : Jvm.MethodName) jdk_42_method_147_code (4 : Nat) (Option.none : Option Jvm.ClassFile.FieldType)).before a0 Z = true := hw _ (List.mem_of_getElem? (i := 92) rfl)
theorem wl_String_212 {a0 : Array Value} {Z : State} (hw : ∀ d ∈ tables_1, d.before a0 Z = true) : (Jvm.Cond.methodLink "java/lang/String" (212 : Nat) ({ cls := "java/lang/System", name := "arraycopy", desc := "(Ljava/lang/Object;ILjava/lang/Object;II)V" } : Jvm.MethodName)).before a0 Z = true := hw _ (List.mem_of_getElem? (i := 93) rfl)
theorem ws_System_arraycopy_lLjavalangObjectILjavalangObjectIIrV {a0 : Array Value} {Z : State} (hw : ∀ d ∈ tables_1, d.before a0 Z = true) : (Jvm.Cond.static ({ cls := "java/lang/System", name := "arraycopy", desc := "(Ljava/lang/Object;ILjava/lang/Object;II)V" } : Jvm.MethodName)).before a0 Z = true := hw _ (List.mem_of_getElem? (i := 94) rfl)
theorem wi_System {a0 : Array Value} {Z : State} (hw : ∀ d ∈ tables_1, d.before a0 Z = true) : (Jvm.Cond.initialized "java/lang/System").before a0 Z = true := hw _ (List.mem_of_getElem? (i := 95) rfl)
theorem wn_System_arraycopy_lLjavalangObjectILjavalangObjectIIrV {a0 : Array Value} {Z : State} (hw : ∀ d ∈ tables_1, d.before a0 Z = true) : (Jvm.Cond.native ({ cls := "java/lang/System", name := "arraycopy", desc := "(Ljava/lang/Object;ILjava/lang/Object;II)V" } : Jvm.MethodName)).before a0 Z = true := hw _ (List.mem_of_getElem? (i := 96) rfl)
theorem wt_Context_287 {a0 : Array Value} {Z : State} (hw : ∀ d ∈ tables_1, d.before a0 Z = true) : (Jvm.Cond.stringLink "wirefold/Context" (287 : Nat) ": the context has already been refreshed or closed").before a0 Z = true := hw _ (List.mem_of_getElem? (i := 97) rfl)
theorem wl_AbstractStringBuilder_104 {a0 : Array Value} {Z : State} (hw : ∀ d ∈ tables_1, d.before a0 Z = true) : (Jvm.Cond.methodLink "java/lang/AbstractStringBuilder" (104 : Nat) ({ cls := "java/lang/AbstractStringBuilder", name := "newCapacity", desc := "(I)I" } : Jvm.MethodName)).before a0 Z = true := hw _ (List.mem_of_getElem? (i := 98) rfl)
theorem wm_AbstractStringBuilder_newCapacity_lIrI {a0 : Array Value} {Z : State} (hw : ∀ d ∈ tables_1, d.before a0 Z = true) : (Jvm.Cond.instanceMethod ({ cls := "java/lang/AbstractStringBuilder", name := "newCapacity", desc := "(I)I" } : Jvm.MethodName)).before a0 Z = true := hw _ (List.mem_of_getElem? (i := 99) rfl)
theorem wq_AbstractStringBuilder_newCapacity_lIrI {a0 : Array Value} {Z : State} (hw : ∀ d ∈ tables_1, d.before a0 Z = true) : (Jvm.Cond.privateMethod ({ cls := "java/lang/AbstractStringBuilder", name := "newCapacity", desc := "(I)I" } : Jvm.MethodName)).before a0 Z = true := hw _ (List.mem_of_getElem? (i := 100) rfl)
theorem wv_StringBuilder_AbstractStringBuilder_newCapacity_lIrI {a0 : Array Value} {Z : State} (hw : ∀ d ∈ tables_1, d.before a0 Z = true) : (Jvm.Cond.selects "java/lang/StringBuilder" ({ cls := "java/lang/AbstractStringBuilder", name := "newCapacity", desc := "(I)I" } : Jvm.MethodName) ({ cls := "java/lang/AbstractStringBuilder", name := "newCapacity", desc := "(I)I" } : Jvm.MethodName)).before a0 Z = true := hw _ (List.mem_of_getElem? (i := 101) rfl)
theorem wb_AbstractStringBuilder_newCapacity_lIrI {a0 : Array Value} {Z : State} (hw : ∀ d ∈ tables_1, d.before a0 Z = true) : (Jvm.Cond.code ({ cls := "java/lang/AbstractStringBuilder", name := "newCapacity", desc := "(I)I" } : Jvm.MethodName) jdk_68_method_10_code (6 : Nat) (Option.some Jvm.ClassFile.FieldType.int)).before a0 Z = true := hw _ (List.mem_of_getElem? (i := 102) rfl)
theorem wl_AbstractStringBuilder_114 {a0 : Array Value} {Z : State} (hw : ∀ d ∈ tables_1, d.before a0 Z = true) : (Jvm.Cond.methodLink "java/lang/AbstractStringBuilder" (114 : Nat) ({ cls := "jdk/internal/util/ArraysSupport", name := "newLength", desc := "(III)I" } : Jvm.MethodName)).before a0 Z = true := hw _ (List.mem_of_getElem? (i := 103) rfl)
theorem ws_ArraysSupport_newLength_lIIIrI {a0 : Array Value} {Z : State} (hw : ∀ d ∈ tables_1, d.before a0 Z = true) : (Jvm.Cond.static ({ cls := "jdk/internal/util/ArraysSupport", name := "newLength", desc := "(III)I" } : Jvm.MethodName)).before a0 Z = true := hw _ (List.mem_of_getElem? (i := 104) rfl)
theorem wi_ArraysSupport {a0 : Array Value} {Z : State} (hw : ∀ d ∈ tables_1, d.before a0 Z = true) : (Jvm.Cond.initialized "jdk/internal/util/ArraysSupport").before a0 Z = true := hw _ (List.mem_of_getElem? (i := 105) rfl)
theorem wb_ArraysSupport_newLength_lIIIrI {a0 : Array Value} {Z : State} (hw : ∀ d ∈ tables_1, d.before a0 Z = true) : (Jvm.Cond.code ({ cls := "jdk/internal/util/ArraysSupport", name := "newLength", desc := "(III)I" } : Jvm.MethodName) jdk_48_method_27_code (4 : Nat) (Option.some Jvm.ClassFile.FieldType.int)).before a0 Z = true := hw _ (List.mem_of_getElem? (i := 106) rfl)
theorem wl_ArraysSupport_194 {a0 : Array Value} {Z : State} (hw : ∀ d ∈ tables_1, d.before a0 Z = true) : (Jvm.Cond.methodLink "jdk/internal/util/ArraysSupport" (194 : Nat) ({ cls := "java/lang/Math", name := "max", desc := "(II)I" } : Jvm.MethodName)).before a0 Z = true := hw _ (List.mem_of_getElem? (i := 107) rfl)
theorem ws_Math_max_lIIrI {a0 : Array Value} {Z : State} (hw : ∀ d ∈ tables_1, d.before a0 Z = true) : (Jvm.Cond.static ({ cls := "java/lang/Math", name := "max", desc := "(II)I" } : Jvm.MethodName)).before a0 Z = true := hw _ (List.mem_of_getElem? (i := 108) rfl)
theorem wi_Math {a0 : Array Value} {Z : State} (hw : ∀ d ∈ tables_1, d.before a0 Z = true) : (Jvm.Cond.initialized "java/lang/Math").before a0 Z = true := hw _ (List.mem_of_getElem? (i := 109) rfl)
theorem wb_Math_max_lIIrI {a0 : Array Value} {Z : State} (hw : ∀ d ∈ tables_1, d.before a0 Z = true) : (Jvm.Cond.code ({ cls := "java/lang/Math", name := "max", desc := "(II)I" } : Jvm.MethodName) jdk_29_method_65_code (2 : Nat) (Option.some Jvm.ClassFile.FieldType.int)).before a0 Z = true := hw _ (List.mem_of_getElem? (i := 110) rfl)
theorem wk_ArraysSupport_200 {a0 : Array Value} {Z : State} (hw : ∀ d ∈ tables_1, d.before a0 Z = true) : (Jvm.Cond.constant "jdk/internal/util/ArraysSupport" (200 : Nat) (2147483639 : Int32)).before a0 Z = true := hw _ (List.mem_of_getElem? (i := 111) rfl)
theorem wk_AbstractStringBuilder_39 {a0 : Array Value} {Z : State} (hw : ∀ d ∈ tables_1, d.before a0 Z = true) : (Jvm.Cond.constant "java/lang/AbstractStringBuilder" (39 : Nat) (2147483647 : Int32)).before a0 Z = true := hw _ (List.mem_of_getElem? (i := 112) rfl)
theorem wl_AbstractStringBuilder_108 {a0 : Array Value} {Z : State} (hw : ∀ d ∈ tables_1, d.before a0 Z = true) : (Jvm.Cond.methodLink "java/lang/AbstractStringBuilder" (108 : Nat) ({ cls := "java/util/Arrays", name := "copyOf", desc := "([BI)[B" } : Jvm.MethodName)).before a0 Z = true := hw _ (List.mem_of_getElem? (i := 113) rfl)
theorem ws_Arrays_copyOf_lABIrAB {a0 : Array Value} {Z : State} (hw : ∀ d ∈ tables_1, d.before a0 Z = true) : (Jvm.Cond.static ({ cls := "java/util/Arrays", name := "copyOf", desc := "([BI)[B" } : Jvm.MethodName)).before a0 Z = true := hw _ (List.mem_of_getElem? (i := 114) rfl)
theorem wi_Arrays {a0 : Array Value} {Z : State} (hw : ∀ d ∈ tables_1, d.before a0 Z = true) : (Jvm.Cond.initialized "java/util/Arrays").before a0 Z = true := hw _ (List.mem_of_getElem? (i := 115) rfl)
theorem wb_Arrays_copyOf_lABIrAB {a0 : Array Value} {Z : State} (hw : ∀ d ∈ tables_1, d.before a0 Z = true) : (Jvm.Cond.code ({ cls := "java/util/Arrays", name := "copyOf", desc := "([BI)[B" } : Jvm.MethodName) jdk_65_method_121_code (3 : Nat) (Option.some (Jvm.ClassFile.FieldType.array Jvm.ClassFile.FieldType.byte))).before a0 Z = true := hw _ (List.mem_of_getElem? (i := 116) rfl)
theorem wl_Arrays_304 {a0 : Array Value} {Z : State} (hw : ∀ d ∈ tables_1, d.before a0 Z = true) : (Jvm.Cond.methodLink "java/util/Arrays" (304 : Nat) ({ cls := "java/lang/Math", name := "min", desc := "(II)I" } : Jvm.MethodName)).before a0 Z = true := hw _ (List.mem_of_getElem? (i := 117) rfl)
theorem ws_Math_min_lIIrI {a0 : Array Value} {Z : State} (hw : ∀ d ∈ tables_1, d.before a0 Z = true) : (Jvm.Cond.static ({ cls := "java/lang/Math", name := "min", desc := "(II)I" } : Jvm.MethodName)).before a0 Z = true := hw _ (List.mem_of_getElem? (i := 118) rfl)
theorem wb_Math_min_lIIrI {a0 : Array Value} {Z : State} (hw : ∀ d ∈ tables_1, d.before a0 Z = true) : (Jvm.Cond.code ({ cls := "java/lang/Math", name := "min", desc := "(II)I" } : Jvm.MethodName) jdk_29_method_69_code (2 : Nat) (Option.some Jvm.ClassFile.FieldType.int)).before a0 Z = true := hw _ (List.mem_of_getElem? (i := 119) rfl)
theorem wl_Arrays_150 {a0 : Array Value} {Z : State} (hw : ∀ d ∈ tables_1, d.before a0 Z = true) : (Jvm.Cond.methodLink "java/util/Arrays" (150 : Nat) ({ cls := "java/lang/System", name := "arraycopy", desc := "(Ljava/lang/Object;ILjava/lang/Object;II)V" } : Jvm.MethodName)).before a0 Z = true := hw _ (List.mem_of_getElem? (i := 120) rfl)
theorem wl_Context_154 {a0 : Array Value} {Z : State} (hw : ∀ d ∈ tables_1, d.before a0 Z = true) : (Jvm.Cond.methodLink "wirefold/Context" (154 : Nat) ({ cls := "java/lang/StringBuilder", name := "toString", desc := "()Ljava/lang/String;" } : Jvm.MethodName)).before a0 Z = true := hw _ (List.mem_of_getElem? (i := 121) rfl)
theorem wd_StringBuilder_toString_lrLjavalangString {a0 : Array Value} {Z : State} (hw : ∀ d ∈ tables_1, d.before a0 Z = true) : (Jvm.Cond.declares ({ cls := "java/lang/StringBuilder", name := "toString", desc := "()Ljava/lang/String;" } : Jvm.MethodName)).before a0 Z = true := hw _ (List.mem_of_getElem? (i := 122) rfl)
theorem wm_StringBuilder_toString_lrLjavalangString {a0 : Array Value} {Z : State} (hw : ∀ d ∈ tables_1, d.before a0 Z = true) : (Jvm.Cond.instanceMethod ({ cls := "java/lang/StringBuilder", name := "toString", desc := "()Ljava/lang/String;" } : Jvm.MethodName)).before a0 Z = true := hw _ (List.mem_of_getElem? (i := 123) rfl)
theorem wv_StringBuilder_StringBuilder_toString_lrLjavalangString {a0 : Array Value} {Z : State} (hw : ∀ d ∈ tables_1, d.before a0 Z = true) : (Jvm.Cond.selects "java/lang/StringBuilder" ({ cls := "java/lang/StringBuilder", name := "toString", desc := "()Ljava/lang/String;" } : Jvm.MethodName) ({ cls := "java/lang/StringBuilder", name := "toString", desc := "()Ljava/lang/String;" } : Jvm.MethodName)).before a0 Z = true := hw _ (List.mem_of_getElem? (i := 124) rfl)
theorem wb_StringBuilder_toString_lrLjavalangString {a0 : Array Value} {Z : State} (hw : ∀ d ∈ tables_1, d.before a0 Z = true) : (Jvm.Cond.code ({ cls := "java/lang/StringBuilder", name := "toString", desc := "()Ljava/lang/String;" } : Jvm.MethodName) jdk_67_method_42_code (1 : Nat) (Option.some (Jvm.ClassFile.FieldType.object "java/lang/String"))).before a0 Z = true := hw _ (List.mem_of_getElem? (i := 125) rfl)
theorem wc_StringBuilder_18 {a0 : Array Value} {Z : State} (hw : ∀ d ∈ tables_1, d.before a0 Z = true) : (Jvm.Cond.classLink "java/lang/StringBuilder" (18 : Nat) "java/lang/String").before a0 Z = true := hw _ (List.mem_of_getElem? (i := 126) rfl)
theorem wl_StringBuilder_137 {a0 : Array Value} {Z : State} (hw : ∀ d ∈ tables_1, d.before a0 Z = true) : (Jvm.Cond.methodLink "java/lang/StringBuilder" (137 : Nat) ({ cls := "java/lang/String", name := "<init>", desc := "(Ljava/lang/StringBuilder;)V" } : Jvm.MethodName)).before a0 Z = true := hw _ (List.mem_of_getElem? (i := 127) rfl)
theorem wm_String_init_lLjavalangStringBuilderrV {a0 : Array Value} {Z : State} (hw : ∀ d ∈ tables_1, d.before a0 Z = true) : (Jvm.Cond.instanceMethod ({ cls := "java/lang/String", name := "<init>", desc := "(Ljava/lang/StringBuilder;)V" } : Jvm.MethodName)).before a0 Z = true := hw _ (List.mem_of_getElem? (i := 128) rfl)
theorem wb_String_init_lLjavalangStringBuilderrV {a0 : Array Value} {Z : State} (hw : ∀ d ∈ tables_1, d.before a0 Z = true) : (Jvm.Cond.code ({ cls := "java/lang/String", name := "<init>", desc := "(Ljava/lang/StringBuilder;)V" } : Jvm.MethodName) jdk_42_method_53_code (2 : Nat) (Option.none : Option Jvm.ClassFile.FieldType)).before a0 Z = true := hw _ (List.mem_of_getElem? (i := 129) rfl)
theorem wl_String_489 {a0 : Array Value} {Z : State} (hw : ∀ d ∈ tables_1, d.before a0 Z = true) : (Jvm.Cond.methodLink "java/lang/String" (489 : Nat) ({ cls := "java/lang/String", name := "<init>", desc := "(Ljava/lang/AbstractStringBuilder;Ljava/lang/Void;)V" } : Jvm.MethodName)).before a0 Z = true := hw _ (List.mem_of_getElem? (i := 130) rfl)
theorem wm_String_init_lLjavalangAbstractStringBuilderLjavalangVoidrV {a0 : Array Value} {Z : State} (hw : ∀ d ∈ tables_1, d.before a0 Z = true) : (Jvm.Cond.instanceMethod ({ cls := "java/lang/String", name := "<init>", desc := "(Ljava/lang/AbstractStringBuilder;Ljava/lang/Void;)V" } : Jvm.MethodName)).before a0 Z = true := hw _ (List.mem_of_getElem? (i := 131) rfl)
theorem wb_String_init_lLjavalangAbstractStringBuilderLjavalangVoidrV {a0 : Array Value} {Z : State} (hw : ∀ d ∈ tables_1, d.before a0 Z = true) : (Jvm.Cond.code ({ cls := "java/lang/String", name := "<init>", desc := "(Ljava/lang/AbstractStringBuilder;Ljava/lang/Void;)V" } : Jvm.MethodName) jdk_42_method_150_code (5 : Nat) (Option.none : Option Jvm.ClassFile.FieldType)).before a0 Z = true := hw _ (List.mem_of_getElem? (i := 132) rfl)
theorem wl_String_552 {a0 : Array Value} {Z : State} (hw : ∀ d ∈ tables_1, d.before a0 Z = true) : (Jvm.Cond.methodLink "java/lang/String" (552 : Nat) ({ cls := "java/lang/AbstractStringBuilder", name := "getValue", desc := "()[B" } : Jvm.MethodName)).before a0 Z = true := hw _ (List.mem_of_getElem? (i := 133) rfl)
theorem wd_AbstractStringBuilder_getValue_lrAB {a0 : Array Value} {Z : State} (hw : ∀ d ∈ tables_1, d.before a0 Z = true) : (Jvm.Cond.declares ({ cls := "java/lang/AbstractStringBuilder", name := "getValue", desc := "()[B" } : Jvm.MethodName)).before a0 Z = true := hw _ (List.mem_of_getElem? (i := 134) rfl)
theorem wm_AbstractStringBuilder_getValue_lrAB {a0 : Array Value} {Z : State} (hw : ∀ d ∈ tables_1, d.before a0 Z = true) : (Jvm.Cond.instanceMethod ({ cls := "java/lang/AbstractStringBuilder", name := "getValue", desc := "()[B" } : Jvm.MethodName)).before a0 Z = true := hw _ (List.mem_of_getElem? (i := 135) rfl)
theorem wv_StringBuilder_AbstractStringBuilder_getValue_lrAB {a0 : Array Value} {Z : State} (hw : ∀ d ∈ tables_1, d.before a0 Z = true) : (Jvm.Cond.selects "java/lang/StringBuilder" ({ cls := "java/lang/AbstractStringBuilder", name := "getValue", desc := "()[B" } : Jvm.MethodName) ({ cls := "java/lang/AbstractStringBuilder", name := "getValue", desc := "()[B" } : Jvm.MethodName)).before a0 Z = true := hw _ (List.mem_of_getElem? (i := 136) rfl)
theorem wb_AbstractStringBuilder_getValue_lrAB {a0 : Array Value} {Z : State} (hw : ∀ d ∈ tables_1, d.before a0 Z = true) : (Jvm.Cond.code ({ cls := "java/lang/AbstractStringBuilder", name := "getValue", desc := "()[B" } : Jvm.MethodName) jdk_68_method_64_code (1 : Nat) (Option.some (Jvm.ClassFile.FieldType.array Jvm.ClassFile.FieldType.byte))).before a0 Z = true := hw _ (List.mem_of_getElem? (i := 137) rfl)
theorem wl_String_549 {a0 : Array Value} {Z : State} (hw : ∀ d ∈ tables_1, d.before a0 Z = true) : (Jvm.Cond.methodLink "java/lang/String" (549 : Nat) ({ cls := "java/lang/AbstractStringBuilder", name := "length", desc := "()I" } : Jvm.MethodName)).before a0 Z = true := hw _ (List.mem_of_getElem? (i := 138) rfl)
theorem wd_AbstractStringBuilder_length_lrI {a0 : Array Value} {Z : State} (hw : ∀ d ∈ tables_1, d.before a0 Z = true) : (Jvm.Cond.declares ({ cls := "java/lang/AbstractStringBuilder", name := "length", desc := "()I" } : Jvm.MethodName)).before a0 Z = true := hw _ (List.mem_of_getElem? (i := 139) rfl)
theorem wm_AbstractStringBuilder_length_lrI {a0 : Array Value} {Z : State} (hw : ∀ d ∈ tables_1, d.before a0 Z = true) : (Jvm.Cond.instanceMethod ({ cls := "java/lang/AbstractStringBuilder", name := "length", desc := "()I" } : Jvm.MethodName)).before a0 Z = true := hw _ (List.mem_of_getElem? (i := 140) rfl)
theorem wv_StringBuilder_AbstractStringBuilder_length_lrI {a0 : Array Value} {Z : State} (hw : ∀ d ∈ tables_1, d.before a0 Z = true) : (Jvm.Cond.selects "java/lang/StringBuilder" ({ cls := "java/lang/AbstractStringBuilder", name := "length", desc := "()I" } : Jvm.MethodName) ({ cls := "java/lang/StringBuilder", name := "length", desc := "()I" } : Jvm.MethodName)).before a0 Z = true := hw _ (List.mem_of_getElem? (i := 141) rfl)
theorem wm_StringBuilder_length_lrI {a0 : Array Value} {Z : State} (hw : ∀ d ∈ tables_1, d.before a0 Z = true) : (Jvm.Cond.instanceMethod ({ cls := "java/lang/StringBuilder", name := "length", desc := "()I" } : Jvm.MethodName)).before a0 Z = true := hw _ (List.mem_of_getElem? (i := 142) rfl)
theorem wb_StringBuilder_length_lrI {a0 : Array Value} {Z : State} (hw : ∀ d ∈ tables_1, d.before a0 Z = true) : (Jvm.Cond.code ({ cls := "java/lang/StringBuilder", name := "length", desc := "()I" } : Jvm.MethodName) jdk_67_method_93_code (1 : Nat) (Option.some Jvm.ClassFile.FieldType.int)).before a0 Z = true := hw _ (List.mem_of_getElem? (i := 143) rfl)
theorem wl_StringBuilder_343 {a0 : Array Value} {Z : State} (hw : ∀ d ∈ tables_1, d.before a0 Z = true) : (Jvm.Cond.methodLink "java/lang/StringBuilder" (343 : Nat) ({ cls := "java/lang/AbstractStringBuilder", name := "length", desc := "()I" } : Jvm.MethodName)).before a0 Z = true := hw _ (List.mem_of_getElem? (i := 144) rfl)
theorem wb_AbstractStringBuilder_length_lrI {a0 : Array Value} {Z : State} (hw : ∀ d ∈ tables_1, d.before a0 Z = true) : (Jvm.Cond.code ({ cls := "java/lang/AbstractStringBuilder", name := "length", desc := "()I" } : Jvm.MethodName) jdk_68_method_6_code (1 : Nat) (Option.some Jvm.ClassFile.FieldType.int)).before a0 Z = true := hw _ (List.mem_of_getElem? (i := 145) rfl)
theorem wl_String_1047 {a0 : Array Value} {Z : State} (hw : ∀ d ∈ tables_1, d.before a0 Z = true) : (Jvm.Cond.methodLink "java/lang/String" (1047 : Nat) ({ cls := "java/lang/AbstractStringBuilder", name := "isLatin1", desc := "()Z" } : Jvm.MethodName)).before a0 Z = true := hw _ (List.mem_of_getElem? (i := 146) rfl)
theorem wd_AbstractStringBuilder_isLatin1_lrZ {a0 : Array Value} {Z : State} (hw : ∀ d ∈ tables_1, d.before a0 Z = true) : (Jvm.Cond.declares ({ cls := "java/lang/AbstractStringBuilder", name := "isLatin1", desc := "()Z" } : Jvm.MethodName)).before a0 Z = true := hw _ (List.mem_of_getElem? (i := 147) rfl)
theorem wm_AbstractStringBuilder_isLatin1_lrZ {a0 : Array Value} {Z : State} (hw : ∀ d ∈ tables_1, d.before a0 Z = true) : (Jvm.Cond.instanceMethod ({ cls := "java/lang/AbstractStringBuilder", name := "isLatin1", desc := "()Z" } : Jvm.MethodName)).before a0 Z = true := hw _ (List.mem_of_getElem? (i := 148) rfl)
theorem wv_StringBuilder_AbstractStringBuilder_isLatin1_lrZ {a0 : Array Value} {Z : State} (hw : ∀ d ∈ tables_1, d.before a0 Z = true) : (Jvm.Cond.selects "java/lang/StringBuilder" ({ cls := "java/lang/AbstractStringBuilder", name := "isLatin1", desc := "()Z" } : Jvm.MethodName) ({ cls := "java/lang/AbstractStringBuilder", name := "isLatin1", desc := "()Z" } : Jvm.MethodName)).before a0 Z = true := hw _ (List.mem_of_getElem? (i := 149) rfl)
theorem wb_AbstractStringBuilder_isLatin1_lrZ {a0 : Array Value} {Z : State} (hw : ∀ d ∈ tables_1, d.before a0 Z = true) : (Jvm.Cond.code ({ cls := "java/lang/AbstractStringBuilder", name := "isLatin1", desc := "()Z" } : Jvm.MethodName) jdk_68_method_68_code (1 : Nat) (Option.some Jvm.ClassFile.FieldType.boolean)).before a0 Z = true := hw _ (List.mem_of_getElem? (i := 150) rfl)
theorem wl_String_54 {a0 : Array Value} {Z : State} (hw : ∀ d ∈ tables_1, d.before a0 Z = true) : (Jvm.Cond.methodLink "java/lang/String" (54 : Nat) ({ cls := "java/util/Arrays", name := "copyOfRange", desc := "([BII)[B" } : Jvm.MethodName)).before a0 Z = true := hw _ (List.mem_of_getElem? (i := 151) rfl)
theorem ws_Arrays_copyOfRange_lABIIrAB {a0 : Array Value} {Z : State} (hw : ∀ d ∈ tables_1, d.before a0 Z = true) : (Jvm.Cond.static ({ cls := "java/util/Arrays", name := "copyOfRange", desc := "([BII)[B" } : Jvm.MethodName)).before a0 Z = true := hw _ (List.mem_of_getElem? (i := 152) rfl)
theorem wb_Arrays_copyOfRange_lABIIrAB {a0 : Array Value} {Z : State} (hw : ∀ d ∈ tables_1, d.before a0 Z = true) : (Jvm.Cond.code ({ cls := "java/util/Arrays", name := "copyOfRange", desc := "([BII)[B" } : Jvm.MethodName) jdk_65_method_132_code (3 : Nat) (Option.some (Jvm.ClassFile.FieldType.array Jvm.ClassFile.FieldType.byte))).before a0 Z = true := hw _ (List.mem_of_getElem? (i := 153) rfl)
theorem wl_Arrays_310 {a0 : Array Value} {Z : State} (hw : ∀ d ∈ tables_1, d.before a0 Z = true) : (Jvm.Cond.methodLink "java/util/Arrays" (310 : Nat) ({ cls := "[B", name := "clone", desc := "()Ljava/lang/Object;" } : Jvm.MethodName)).before a0 Z = true := hw _ (List.mem_of_getElem? (i := 154) rfl)
theorem wr_AB_Object_clone {a0 : Array Value} {Z : State} (hw : ∀ d ∈ tables_1, d.before a0 Z = true) : (Jvm.Cond.sameMethod "[B" "java/lang/Object" "clone" "()Ljava/lang/Object;").before a0 Z = true := hw _ (List.mem_of_getElem? (i := 155) rfl)
theorem wd_Object_clone_lrLjavalangObject {a0 : Array Value} {Z : State} (hw : ∀ d ∈ tables_1, d.before a0 Z = true) : (Jvm.Cond.declares ({ cls := "java/lang/Object", name := "clone", desc := "()Ljava/lang/Object;" } : Jvm.MethodName)).before a0 Z = true := hw _ (List.mem_of_getElem? (i := 156) rfl)
theorem wm_Object_clone_lrLjavalangObject {a0 : Array Value} {Z : State} (hw : ∀ d ∈ tables_1, d.before a0 Z = true) : (Jvm.Cond.instanceMethod ({ cls := "java/lang/Object", name := "clone", desc := "()Ljava/lang/Object;" } : Jvm.MethodName)).before a0 Z = true := hw _ (List.mem_of_getElem? (i := 157) rfl)
theorem wv_AB_AB_clone_lrLjavalangObject {a0 : Array Value} {Z : State} (hw : ∀ d ∈ tables_1, d.before a0 Z = true) : (Jvm.Cond.selects "[B" ({ cls := "[B", name := "clone", desc := "()Ljava/lang/Object;" } : Jvm.MethodName) ({ cls := "java/lang/Object", name := "clone", desc := "()Ljava/lang/Object;" } : Jvm.MethodName)).before a0 Z = true := hw _ (List.mem_of_getElem? (i := 158) rfl)
theorem wn_Object_clone_lrLjavalangObject {a0 : Array Value} {Z : State} (hw : ∀ d ∈ tables_1, d.before a0 Z = true) : (Jvm.Cond.native ({ cls := "java/lang/Object", name := "clone", desc := "()Ljava/lang/Object;" } : Jvm.MethodName)).before a0 Z = true := hw _ (List.mem_of_getElem? (i := 159) rfl)
theorem wx_AB_Cloneable {a0 : Array Value} {Z : State} (hw : ∀ d ∈ tables_1, d.before a0 Z = true) : (Jvm.Cond.castable "[B" "java/lang/Cloneable").before a0 Z = true := hw _ (List.mem_of_getElem? (i := 160) rfl)
theorem wc_Arrays_311 {a0 : Array Value} {Z : State} (hw : ∀ d ∈ tables_1, d.before a0 Z = true) : (Jvm.Cond.classLink "java/util/Arrays" (311 : Nat) "[B").before a0 Z = true := hw _ (List.mem_of_getElem? (i := 161) rfl)
theorem wx_AB_AB {a0 : Array Value} {Z : State} (hw : ∀ d ∈ tables_1, d.before a0 Z = true) : (Jvm.Cond.castable "[B" "[B").before a0 Z = true := hw _ (List.mem_of_getElem? (i := 162) rfl)
theorem wl_Context_264 {a0 : Array Value} {Z : State} (hw : ∀ d ∈ tables_1, d.before a0 Z = true) : (Jvm.Cond.methodLink "wirefold/Context" (264 : Nat) ({ cls := "java/lang/IllegalStateException", name := "<init>", desc := "(Ljava/lang/String;)V" } : Jvm.MethodName)).before a0 Z = true := hw _ (List.mem_of_getElem? (i := 163) rfl)
theorem wm_IllegalStateException_init_lLjavalangStringrV {a0 : Array Value} {Z : State} (hw : ∀ d ∈ tables_1, d.before a0 Z = true) : (Jvm.Cond.instanceMethod ({ cls := "java/lang/IllegalStateException", name := "<init>", desc := "(Ljava/lang/String;)V" } : Jvm.MethodName)).before a0 Z = true := hw _ (List.mem_of_getElem? (i := 164) rfl)
theorem wb_IllegalStateException_init_lLjavalangStringrV {a0 : Array Value} {Z : State} (hw : ∀ d ∈ tables_1, d.before a0 Z = true) : (Jvm.Cond.code ({ cls := "java/lang/IllegalStateException", name := "<init>", desc := "(Ljava/lang/String;)V" } : Jvm.MethodName) jdk_60_method_2_code (2 : Nat) (Option.none : Option Jvm.ClassFile.FieldType)).before a0 Z = true := hw _ (List.mem_of_getElem? (i := 165) rfl)
theorem wl_IllegalStateException_7 {a0 : Array Value} {Z : State} (hw : ∀ d ∈ tables_1, d.before a0 Z = true) : (Jvm.Cond.methodLink "java/lang/IllegalStateException" (7 : Nat) ({ cls := "java/lang/RuntimeException", name := "<init>", desc := "(Ljava/lang/String;)V" } : Jvm.MethodName)).before a0 Z = true := hw _ (List.mem_of_getElem? (i := 166) rfl)
theorem wm_RuntimeException_init_lLjavalangStringrV {a0 : Array Value} {Z : State} (hw : ∀ d ∈ tables_1, d.before a0 Z = true) : (Jvm.Cond.instanceMethod ({ cls := "java/lang/RuntimeException", name := "<init>", desc := "(Ljava/lang/String;)V" } : Jvm.MethodName)).before a0 Z = true := hw _ (List.mem_of_getElem? (i := 167) rfl)
theorem wd_RuntimeException_init_lLjavalangStringrV {a0 : Array Value} {Z : State} (hw : ∀ d ∈ tables_1, d.before a0 Z = true) : (Jvm.Cond.declares ({ cls := "java/lang/RuntimeException", name := "<init>", desc := "(Ljava/lang/String;)V" } : Jvm.MethodName)).before a0 Z = true := hw _ (List.mem_of_getElem? (i := 168) rfl)
theorem wx_IllegalStateException_RuntimeException {a0 : Array Value} {Z : State} (hw : ∀ d ∈ tables_1, d.before a0 Z = true) : (Jvm.Cond.castable "java/lang/IllegalStateException" "java/lang/RuntimeException").before a0 Z = true := hw _ (List.mem_of_getElem? (i := 169) rfl)
theorem wi_RuntimeException {a0 : Array Value} {Z : State} (hw : ∀ d ∈ tables_1, d.before a0 Z = true) : (Jvm.Cond.initialized "java/lang/RuntimeException").before a0 Z = true := hw _ (List.mem_of_getElem? (i := 170) rfl)
theorem wb_RuntimeException_init_lLjavalangStringrV {a0 : Array Value} {Z : State} (hw : ∀ d ∈ tables_1, d.before a0 Z = true) : (Jvm.Cond.code ({ cls := "java/lang/RuntimeException", name := "<init>", desc := "(Ljava/lang/String;)V" } : Jvm.MethodName) jdk_58_method_2_code (2 : Nat) (Option.none : Option Jvm.ClassFile.FieldType)).before a0 Z = true := hw _ (List.mem_of_getElem? (i := 171) rfl)
theorem wl_RuntimeException_7 {a0 : Array Value} {Z : State} (hw : ∀ d ∈ tables_1, d.before a0 Z = true) : (Jvm.Cond.methodLink "java/lang/RuntimeException" (7 : Nat) ({ cls := "java/lang/Exception", name := "<init>", desc := "(Ljava/lang/String;)V" } : Jvm.MethodName)).before a0 Z = true := hw _ (List.mem_of_getElem? (i := 172) rfl)
theorem wm_Exception_init_lLjavalangStringrV {a0 : Array Value} {Z : State} (hw : ∀ d ∈ tables_1, d.before a0 Z = true) : (Jvm.Cond.instanceMethod ({ cls := "java/lang/Exception", name := "<init>", desc := "(Ljava/lang/String;)V" } : Jvm.MethodName)).before a0 Z = true := hw _ (List.mem_of_getElem? (i := 173) rfl)
theorem wd_Exception_init_lLjavalangStringrV {a0 : Array Value} {Z : State} (hw : ∀ d ∈ tables_1, d.before a0 Z = true) : (Jvm.Cond.declares ({ cls := "java/lang/Exception", name := "<init>", desc := "(Ljava/lang/String;)V" } : Jvm.MethodName)).before a0 Z = true := hw _ (List.mem_of_getElem? (i := 174) rfl)
theorem wx_IllegalStateException_Exception {a0 : Array Value} {Z : State} (hw : ∀ d ∈ tables_1, d.before a0 Z = true) : (Jvm.Cond.castable "java/lang/IllegalStateException" "java/lang/Exception").before a0 Z = true := hw _ (List.mem_of_getElem? (i := 175) rfl)
theorem wi_Exception {a0 : Array Value} {Z : State} (hw : ∀ d ∈ tables_1, d.before a0 Z = true) : (Jvm.Cond.initialized "java/lang/Exception").before a0 Z = true := hw _ (List.mem_of_getElem? (i := 176) rfl)
theorem wb_Exception_init_lLjavalangStringrV {a0 : Array Value} {Z : State} (hw : ∀ d ∈ tables_1, d.before a0 Z = true) : (Jvm.Cond.code ({ cls := "java/lang/Exception", name := "<init>", desc := "(Ljava/lang/String;)V" } : Jvm.MethodName) jdk_59_method_2_code (2 : Nat) (Option.none : Option Jvm.ClassFile.FieldType)).before a0 Z = true := hw _ (List.mem_of_getElem? (i := 177) rfl)
theorem wl_Exception_7 {a0 : Array Value} {Z : State} (hw : ∀ d ∈ tables_1, d.before a0 Z = true) : (Jvm.Cond.methodLink "java/lang/Exception" (7 : Nat) ({ cls := "java/lang/Throwable", name := "<init>", desc := "(Ljava/lang/String;)V" } : Jvm.MethodName)).before a0 Z = true := hw _ (List.mem_of_getElem? (i := 178) rfl)
theorem wm_Throwable_init_lLjavalangStringrV {a0 : Array Value} {Z : State} (hw : ∀ d ∈ tables_1, d.before a0 Z = true) : (Jvm.Cond.instanceMethod ({ cls := "java/lang/Throwable", name := "<init>", desc := "(Ljava/lang/String;)V" } : Jvm.MethodName)).before a0 Z = true := hw _ (List.mem_of_getElem? (i := 179) rfl)
theorem wd_Throwable_init_lLjavalangStringrV {a0 : Array Value} {Z : State} (hw : ∀ d ∈ tables_1, d.before a0 Z = true) : (Jvm.Cond.declares ({ cls := "java/lang/Throwable", name := "<init>", desc := "(Ljava/lang/String;)V" } : Jvm.MethodName)).before a0 Z = true := hw _ (List.mem_of_getElem? (i := 180) rfl)
theorem wx_IllegalStateException_Throwable {a0 : Array Value} {Z : State} (hw : ∀ d ∈ tables_1, d.before a0 Z = true) : (Jvm.Cond.castable "java/lang/IllegalStateException" "java/lang/Throwable").before a0 Z = true := hw _ (List.mem_of_getElem? (i := 181) rfl)
theorem wi_Throwable {a0 : Array Value} {Z : State} (hw : ∀ d ∈ tables_1, d.before a0 Z = true) : (Jvm.Cond.initialized "java/lang/Throwable").before a0 Z = true := hw _ (List.mem_of_getElem? (i := 182) rfl)
theorem wb_Throwable_init_lLjavalangStringrV {a0 : Array Value} {Z : State} (hw : ∀ d ∈ tables_1, d.before a0 Z = true) : (Jvm.Cond.code ({ cls := "java/lang/Throwable", name := "<init>", desc := "(Ljava/lang/String;)V" } : Jvm.MethodName) jdk_78_method_2_code (2 : Nat) (Option.none : Option Jvm.ClassFile.FieldType)).before a0 Z = true := hw _ (List.mem_of_getElem? (i := 183) rfl)
theorem wl_Throwable_1 {a0 : Array Value} {Z : State} (hw : ∀ d ∈ tables_1, d.before a0 Z = true) : (Jvm.Cond.methodLink "java/lang/Throwable" (1 : Nat) ({ cls := "java/lang/Object", name := "<init>", desc := "()V" } : Jvm.MethodName)).before a0 Z = true := hw _ (List.mem_of_getElem? (i := 184) rfl)
theorem wf_Throwable_7 {a0 : Array Value} {Z : State} (hw : ∀ d ∈ tables_1, d.before a0 Z = true) : (Jvm.Cond.fieldLink "java/lang/Throwable" (7 : Nat) "java/lang/Throwable" "cause" "Ljava/lang/Throwable;").before a0 Z = true := hw _ (List.mem_of_getElem? (i := 185) rfl)
theorem wy_IllegalStateException_Throwable_cause {a0 : Array Value} {Z : State} (hw : ∀ d ∈ tables_1, d.before a0 Z = true) : (Jvm.Cond.lays "java/lang/IllegalStateException" "java/lang/Throwable" "cause" "Ljava/lang/Throwable;").before a0 Z = true := hw _ (List.mem_of_getElem? (i := 186) rfl)
theorem wf_Throwable_13 {a0 : Array Value} {Z : State} (hw : ∀ d ∈ tables_1, d.before a0 Z = true) : (Jvm.Cond.fieldLink "java/lang/Throwable" (13 : Nat) "java/lang/Throwable" "UNASSIGNED_STACK" "[Ljava/lang/StackTraceElement;").before a0 Z = true := hw _ (List.mem_of_getElem? (i := 187) rfl)
theorem wf_Throwable_17 {a0 : Array Value} {Z : State} (hw : ∀ d ∈ tables_1, d.before a0 Z = true) : (Jvm.Cond.fieldLink "java/lang/Throwable" (17 : Nat) "java/lang/Throwable" "stackTrace" "[Ljava/lang/StackTraceElement;").before a0 Z = true := hw _ (List.mem_of_getElem? (i := 188) rfl)
theorem wy_IllegalStateException_Throwable_stackTrace {a0 : Array Value} {Z : State} (hw : ∀ d ∈ tables_1, d.before a0 Z = true) : (Jvm.Cond.lays "java/lang/IllegalStateException" "java/lang/Throwable" "stackTrace" "[Ljava/lang/StackTraceElement;").before a0 Z = true := hw _ (List.mem_of_getElem? (i := 189) rfl)
theorem wf_Throwable_20 {a0 : Array Value} {Z : State} (hw : ∀ d ∈ tables_1, d.before a0 Z = true) : (Jvm.Cond.fieldLink "java/lang/Throwable" (20 : Nat) "java/lang/Throwable" "SUPPRESSED_SENTINEL" "Ljava/util/List;").before a0 Z = true := hw _ (List.mem_of_getElem? (i := 190) rfl)
theorem wf_Throwable_24 {a0 : Array Value} {Z : State} (hw : ∀ d ∈ tables_1, d.before a0 Z = true) : (Jvm.Cond.fieldLink "java/lang/Throwable" (24 : Nat) "java/lang/Throwable" "suppressedExceptions" "Ljava/util/List;").before a0 Z = true := hw _ (List.mem_of_getElem? (i := 191) rfl)
theorem wy_IllegalStateException_Throwable_suppressedExceptions {a0 : Array Value} {Z : State} (hw : ∀ d ∈ tables_1, d.before a0 Z = true) : (Jvm.Cond.lays "java/lang/IllegalStateException" "java/lang/Throwable" "suppressedExceptions" "Ljava/util/List;").before a0 Z = true := hw _ (List.mem_of_getElem? (i := 192) rfl)
theorem wl_Throwable_27 {a0 : Array Value} {Z : State} (hw : ∀ d ∈ tables_1, d.before a0 Z = true) : (Jvm.Cond.methodLink "java/lang/Throwable" (27 : Nat) ({ cls := "java/lang/Throwable", name := "fillInStackTrace", desc := "()Ljava/lang/Throwable;" } : Jvm.MethodName)).before a0 Z = true := hw _ (List.mem_of_getElem? (i := 193) rfl)
theorem wd_Throwable_fillInStackTrace_lrLjavalangThrowable {a0 : Array Value} {Z : State} (hw : ∀ d ∈ tables_1, d.before a0 Z = true) : (Jvm.Cond.declares ({ cls := "java/lang/Throwable", name := "fillInStackTrace", desc := "()Ljava/lang/Throwable;" } : Jvm.MethodName)).before a0 Z = true := hw _ (List.mem_of_getElem? (i := 194) rfl)
theorem wm_Throwable_fillInStackTrace_lrLjavalangThrowable {a0 : Array Value} {Z : State} (hw : ∀ d ∈ tables_1, d.before a0 Z = true) : (Jvm.Cond.instanceMethod ({ cls := "java/lang/Throwable", name := "fillInStackTrace", desc := "()Ljava/lang/Throwable;" } : Jvm.MethodName)).before a0 Z = true := hw _ (List.mem_of_getElem? (i := 195) rfl)
theorem wv_IllegalStateException_Throwable_fillInStackTrace_lrLjavalangThrowable {a0 : Array Value} {Z : State} (hw : ∀ d ∈ tables_1, d.before a0 Z = true) : (Jvm.Cond.selects "java/lang/IllegalStateException" ({ cls := "java/lang/Throwable", name := "fillInStackTrace", desc := "()Ljava/lang/Throwable;" } : Jvm.MethodName) ({ cls := "java/lang/Throwable", name := "fillInStackTrace", desc := "()Ljava/lang/Throwable;" } : Jvm.MethodName)).before a0 Z = true := hw _ (List.mem_of_getElem? (i := 196) rfl)
theorem wo_Object {a0 : Array Value} {Z : State} (hw : ∀ d ∈ tables_1, d.before a0 Z = true) : (Jvm.Cond.arrayOver (Jvm.ClassFile.FieldType.object "java/lang/Object")).before a0 Z = true := hw _ (List.mem_of_getElem? (i := 197) rfl)
theorem wj_Throwable_backtrace {a0 : Array Value} {Z : State} (hw : ∀ d ∈ tables_1, d.before a0 Z = true) : (Jvm.Cond.soleField "java/lang/Throwable" "backtrace").before a0 Z = true := hw _ (List.mem_of_getElem? (i := 198) rfl)
theorem wj_Throwable_depth {a0 : Array Value} {Z : State} (hw : ∀ d ∈ tables_1, d.before a0 Z = true) : (Jvm.Cond.soleField "java/lang/Throwable" "depth").before a0 Z = true := hw _ (List.mem_of_getElem? (i := 199) rfl)
theorem wz_Throwable_Object {a0 : Array Value} {Z : State} (hw : ∀ d ∈ tables_1, d.before a0 Z = true) : (Jvm.Cond.superclass "java/lang/Throwable" "java/lang/Object").before a0 Z = true := hw _ (List.mem_of_getElem? (i := 200) rfl)
theorem wh_Throwable_fillInStackTrace_lrLjavalangThrowable {a0 : Array Value} {Z : State} (hw : ∀ d ∈ tables_1, d.before a0 Z = true) : (Jvm.Cond.codeSync ({ cls := "java/lang/Throwable", name := "fillInStackTrace", desc := "()Ljava/lang/Throwable;" } : Jvm.MethodName) jdk_78_method_18_code (1 : Nat) (Option.some (Jvm.ClassFile.FieldType.object "java/lang/Throwable"))).before a0 Z = true := hw _ (List.mem_of_getElem? (i := 201) rfl)
theorem wm_Throwable_fillInStackTrace_lIrLjavalangThrowable {a0 : Array Value} {Z : State} (hw : ∀ d ∈ tables_1, d.before a0 Z = true) : (Jvm.Cond.instanceMethod ({ cls := "java/lang/Throwable", name := "fillInStackTrace", desc := "(I)Ljava/lang/Throwable;" } : Jvm.MethodName)).before a0 Z = true := hw _ (List.mem_of_getElem? (i := 202) rfl)
theorem wn_Throwable_fillInStackTrace_lIrLjavalangThrowable {a0 : Array Value} {Z : State} (hw : ∀ d ∈ tables_1, d.before a0 Z = true) : (Jvm.Cond.native ({ cls := "java/lang/Throwable", name := "fillInStackTrace", desc := "(I)Ljava/lang/Throwable;" } : Jvm.MethodName)).before a0 Z = true := hw _ (List.mem_of_getElem? (i := 203) rfl)
theorem wm_Throwable_init_lrV {a0 : Array Value} {Z : State} (hw : ∀ d ∈ tables_1, d.before a0 Z = true) : (Jvm.Cond.instanceMethod ({ cls := "java/lang/Throwable", name := "<init>", desc := "()V" } : Jvm.MethodName)).before a0 Z = true := hw _ (List.mem_of_getElem? (i := 204) rfl)
theorem wb_Throwable_init_lrV {a0 : Array Value} {Z : State} (hw : ∀ d ∈ tables_1, d.before a0 Z = true) : (Jvm.Cond.code ({ cls := "java/lang/Throwable", name := "<init>", desc := "()V" } : Jvm.MethodName) jdk_78_method_1_code (1 : Nat) (Option.none : Option Jvm.ClassFile.FieldType)).before a0 Z = true := hw _ (List.mem_of_getElem? (i := 205) rfl)
theorem wl_Throwable_202 {a0 : Array Value} {Z : State} (hw : ∀ d ∈ tables_1, d.before a0 Z = true) : (Jvm.Cond.methodLink "java/lang/Throwable" (202 : Nat) ({ cls := "java/lang/Throwable", name := "fillInStackTrace", desc := "(I)Ljava/lang/Throwable;" } : Jvm.MethodName)).before a0 Z = true := hw _ (List.mem_of_getElem? (i := 206) rfl)
theorem wy_Throwable_Throwable_cause {a0 : Array Value} {Z : State} (hw : ∀ d ∈ tables_1, d.before a0 Z = true) : (Jvm.Cond.lays "java/lang/Throwable" "java/lang/Throwable" "cause" "Ljava/lang/Throwable;").before a0 Z = true := hw _ (List.mem_of_getElem? (i := 207) rfl)
theorem wy_Throwable_Throwable_stackTrace {a0 : Array Value} {Z : State} (hw : ∀ d ∈ tables_1, d.before a0 Z = true) : (Jvm.Cond.lays "java/lang/Throwable" "java/lang/Throwable" "stackTrace" "[Ljava/lang/StackTraceElement;").before a0 Z = true := hw _ (List.mem_of_getElem? (i := 208) rfl)
theorem wy_Throwable_Throwable_detailMessage {a0 : Array Value} {Z : State} (hw : ∀ d ∈ tables_1, d.before a0 Z = true) : (Jvm.Cond.lays "java/lang/Throwable" "java/lang/Throwable" "detailMessage" "Ljava/lang/String;").before a0 Z = true := hw _ (List.mem_of_getElem? (i := 209) rfl)
theorem wd_Throwable_init_lrV {a0 : Array Value} {Z : State} (hw : ∀ d ∈ tables_1, d.before a0 Z = true) : (Jvm.Cond.declares ({ cls := "java/lang/Throwable", name := "<init>", desc := "()V" } : Jvm.MethodName)).before a0 Z = true := hw _ (List.mem_of_getElem? (i := 210) rfl)
theorem wf_Throwable_198 {a0 : Array Value} {Z : State} (hw : ∀ d ∈ tables_1, d.before a0 Z = true) : (Jvm.Cond.fieldLink "java/lang/Throwable" (198 : Nat) "java/lang/Throwable" "backtrace" "Ljava/lang/Object;").before a0 Z = true := hw _ (List.mem_of_getElem? (i := 211) rfl)
theorem wy_Throwable_Throwable_backtrace {a0 : Array Value} {Z : State} (hw : ∀ d ∈ tables_1, d.before a0 Z = true) : (Jvm.Cond.lays "java/lang/Throwable" "java/lang/Throwable" "backtrace" "Ljava/lang/Object;").before a0 Z = true := hw _ (List.mem_of_getElem? (i := 212) rfl)
theorem we_Throwable_UNASSIGNED_STACK {a0 : Array Value} {Z : State} (hw : ∀ d ∈ tables_1, d.before a0 Z = true) : (Jvm.Cond.laysStatic "java/lang/Throwable" "UNASSIGNED_STACK" "[Ljava/lang/StackTraceElement;").before a0 Z = true := hw _ (List.mem_of_getElem? (i := 213) rfl)
theorem we_Throwable_SUPPRESSED_SENTINEL {a0 : Array Value} {Z : State} (hw : ∀ d ∈ tables_1, d.before a0 Z = true) : (Jvm.Cond.laysStatic "java/lang/Throwable" "SUPPRESSED_SENTINEL" "Ljava/util/List;").before a0 Z = true := hw _ (List.mem_of_getElem? (i := 214) rfl)
theorem wv_IllegalStateException_Throwable_fillInStackTrace_lIrLjavalangThrowable {a0 : Array Value} {Z : State} (hw : ∀ d ∈ tables_1, d.before a0 Z = true) : (Jvm.Cond.selects "java/lang/IllegalStateException" ({ cls := "java/lang/Throwable", name := "fillInStackTrace", desc := "(I)Ljava/lang/Throwable;" } : Jvm.MethodName) ({ cls := "java/lang/Throwable", name := "fillInStackTrace", desc := "(I)Ljava/lang/Throwable;" } : Jvm.MethodName)).before a0 Z = true := hw _ (List.mem_of_getElem? (i := 215) rfl)
theorem wy_IllegalStateException_Throwable_detailMessage {a0 : Array Value} {Z : State} (hw : ∀ d ∈ tables_1, d.before a0 Z = true) : (Jvm.Cond.lays "java/lang/IllegalStateException" "java/lang/Throwable" "detailMessage" "Ljava/lang/String;").before a0 Z = true := hw _ (List.mem_of_getElem? (i := 216) rfl)
theorem wy_IllegalStateException_Throwable_backtrace {a0 : Array Value} {Z : State} (hw : ∀ d ∈ tables_1, d.before a0 Z = true) : (Jvm.Cond.lays "java/lang/IllegalStateException" "java/lang/Throwable" "backtrace" "Ljava/lang/Object;").before a0 Z = true := hw _ (List.mem_of_getElem? (i := 217) rfl)
theorem wy_IllegalStateException_Throwable_depth {a0 : Array Value} {Z : State} (hw : ∀ d ∈ tables_1, d.before a0 Z = true) : (Jvm.Cond.lays "java/lang/IllegalStateException" "java/lang/Throwable" "depth" "I").before a0 Z = true := hw _ (List.mem_of_getElem? (i := 218) rfl)
theorem wx_IllegalStateException_IllegalStateException {a0 : Array Value} {Z : State} (hw : ∀ d ∈ tables_1, d.before a0 Z = true) : (Jvm.Cond.castable "java/lang/IllegalStateException" "java/lang/IllegalStateException").before a0 Z = true := hw _ (List.mem_of_getElem? (i := 219) rfl)
theorem wf_Throwable_31 {a0 : Array Value} {Z : State} (hw : ∀ d ∈ tables_1, d.before a0 Z = true) : (Jvm.Cond.fieldLink "java/lang/Throwable" (31 : Nat) "java/lang/Throwable" "detailMessage" "Ljava/lang/String;").before a0 Z = true := hw _ (List.mem_of_getElem? (i := 220) rfl)
theorem wl_ContextSetUpAlreadyPinLaw_21 {a0 : Array Value} {Z : State} (hw : ∀ d ∈ tables_1, d.before a0 Z = true) : (Jvm.Cond.methodLink "wirefold/ContextSetUpAlreadyPinLaw" (21 : Nat) ({ cls := "java/lang/IllegalStateException", name := "getMessage", desc := "()Ljava/lang/String;" } : Jvm.MethodName)).before a0 Z = true := hw _ (List.mem_of_getElem? (i := 221) rfl)
theorem wr_IllegalStateException_Throwable_getMessage {a0 : Array Value} {Z : State} (hw : ∀ d ∈ tables_1, d.before a0 Z = true) : (Jvm.Cond.sameMethod "java/lang/IllegalStateException" "java/lang/Throwable" "getMessage" "()Ljava/lang/String;").before a0 Z = true := hw _ (List.mem_of_getElem? (i := 222) rfl)
theorem wd_Throwable_getMessage_lrLjavalangString {a0 : Array Value} {Z : State} (hw : ∀ d ∈ tables_1, d.before a0 Z = true) : (Jvm.Cond.declares ({ cls := "java/lang/Throwable", name := "getMessage", desc := "()Ljava/lang/String;" } : Jvm.MethodName)).before a0 Z = true := hw _ (List.mem_of_getElem? (i := 223) rfl)
theorem wm_Throwable_getMessage_lrLjavalangString {a0 : Array Value} {Z : State} (hw : ∀ d ∈ tables_1, d.before a0 Z = true) : (Jvm.Cond.instanceMethod ({ cls := "java/lang/Throwable", name := "getMessage", desc := "()Ljava/lang/String;" } : Jvm.MethodName)).before a0 Z = true := hw _ (List.mem_of_getElem? (i := 224) rfl)
theorem wv_IllegalStateException_IllegalStateException_getMessage_lrLjavalangString {a0 : Array Value} {Z : State} (hw : ∀ d ∈ tables_1, d.before a0 Z = true) : (Jvm.Cond.selects "java/lang/IllegalStateException" ({ cls := "java/lang/IllegalStateException", name := "getMessage", desc := "()Ljava/lang/String;" } : Jvm.MethodName) ({ cls := "java/lang/Throwable", name := "getMessage", desc := "()Ljava/lang/String;" } : Jvm.MethodName)).before a0 Z = true := hw _ (List.mem_of_getElem? (i := 225) rfl)
theorem wb_Throwable_getMessage_lrLjavalangString {a0 : Array Value} {Z : State} (hw : ∀ d ∈ tables_1, d.before a0 Z = true) : (Jvm.Cond.code ({ cls := "java/lang/Throwable", name := "getMessage", desc := "()Ljava/lang/String;" } : Jvm.MethodName) jdk_78_method_6_code (1 : Nat) (Option.some (Jvm.ClassFile.FieldType.object "java/lang/String"))).before a0 Z = true := hw _ (List.mem_of_getElem? (i := 226) rfl)
theorem wl_ContextSetUpAlreadyPinLaw_27 {a0 : Array Value} {Z : State} (hw : ∀ d ∈ tables_1, d.before a0 Z = true) : (Jvm.Cond.methodLink "wirefold/ContextSetUpAlreadyPinLaw" (27 : Nat) ({ cls := "java/lang/String", name := "equals", desc := "(Ljava/lang/Object;)Z" } : Jvm.MethodName)).before a0 Z = true := hw _ (List.mem_of_getElem? (i := 227) rfl)
theorem wd_String_equals_lLjavalangObjectrZ {a0 : Array Value} {Z : State} (hw : ∀ d ∈ tables_1, d.before a0 Z = true) : (Jvm.Cond.declares ({ cls := "java/lang/String", name := "equals", desc := "(Ljava/lang/Object;)Z" } : Jvm.MethodName)).before a0 Z = true := hw _ (List.mem_of_getElem? (i := 228) rfl)
theorem wm_String_equals_lLjavalangObjectrZ {a0 : Array Value} {Z : State} (hw : ∀ d ∈ tables_1, d.before a0 Z = true) : (Jvm.Cond.instanceMethod ({ cls := "java/lang/String", name := "equals", desc := "(Ljava/lang/Object;)Z" } : Jvm.MethodName)).before a0 Z = true := hw _ (List.mem_of_getElem? (i := 229) rfl)
theorem wv_String_String_equals_lLjavalangObjectrZ {a0 : Array Value} {Z : State} (hw : ∀ d ∈ tables_1, d.before a0 Z = true) : (Jvm.Cond.selects "java/lang/String" ({ cls := "java/lang/String", name := "equals", desc := "(Ljava/lang/Object;)Z" } : Jvm.MethodName) ({ cls := "java/lang/String", name := "equals", desc := "(Ljava/lang/Object;)Z" } : Jvm.MethodName)).before a0 Z = true := hw _ (List.mem_of_getElem? (i := 230) rfl)
theorem wb_String_equals_lLjavalangObjectrZ {a0 : Array Value} {Z : State} (hw : ∀ d ∈ tables_1, d.before a0 Z = true) : (Jvm.Cond.code ({ cls := "java/lang/String", name := "equals", desc := "(Ljava/lang/Object;)Z" } : Jvm.MethodName) jdk_42_method_66_code (3 : Nat) (Option.some Jvm.ClassFile.FieldType.boolean)).before a0 Z = true := hw _ (List.mem_of_getElem? (i := 231) rfl)
theorem wc_String_10 {a0 : Array Value} {Z : State} (hw : ∀ d ∈ tables_1, d.before a0 Z = true) : (Jvm.Cond.classLink "java/lang/String" (10 : Nat) "java/lang/String").before a0 Z = true := hw _ (List.mem_of_getElem? (i := 232) rfl)
theorem wl_String_541 {a0 : Array Value} {Z : State} (hw : ∀ d ∈ tables_1, d.before a0 Z = true) : (Jvm.Cond.methodLink "java/lang/String" (541 : Nat) ({ cls := "java/lang/StringLatin1", name := "equals", desc := "([B[B)Z" } : Jvm.MethodName)).before a0 Z = true := hw _ (List.mem_of_getElem? (i := 233) rfl)
theorem ws_StringLatin1_equals_lABABrZ {a0 : Array Value} {Z : State} (hw : ∀ d ∈ tables_1, d.before a0 Z = true) : (Jvm.Cond.static ({ cls := "java/lang/StringLatin1", name := "equals", desc := "([B[B)Z" } : Jvm.MethodName)).before a0 Z = true := hw _ (List.mem_of_getElem? (i := 234) rfl)
theorem wi_StringLatin1 {a0 : Array Value} {Z : State} (hw : ∀ d ∈ tables_1, d.before a0 Z = true) : (Jvm.Cond.initialized "java/lang/StringLatin1").before a0 Z = true := hw _ (List.mem_of_getElem? (i := 235) rfl)
theorem wb_StringLatin1_equals_lABABrZ {a0 : Array Value} {Z : State} (hw : ∀ d ∈ tables_1, d.before a0 Z = true) : (Jvm.Cond.code ({ cls := "java/lang/StringLatin1", name := "equals", desc := "([B[B)Z" } : Jvm.MethodName) jdk_43_method_13_code (3 : Nat) (Option.some Jvm.ClassFile.FieldType.boolean)).before a0 Z = true := hw _ (List.mem_of_getElem? (i := 236) rfl)
theorem wl_String_177 {a0 : Array Value} {Z : State} (hw : ∀ d ∈ tables_1, d.before a0 Z = true) : (Jvm.Cond.methodLink "java/lang/String" (177 : Nat) ({ cls := "java/lang/StringUTF16", name := "compress", desc := "([CII)[B" } : Jvm.MethodName)).before a0 Z = true := hw _ (List.mem_of_getElem? (i := 237) rfl)
theorem ws_StringUTF16_compress_lACIIrAB {a0 : Array Value} {Z : State} (hw : ∀ d ∈ tables_1, d.before a0 Z = true) : (Jvm.Cond.static ({ cls := "java/lang/StringUTF16", name := "compress", desc := "([CII)[B" } : Jvm.MethodName)).before a0 Z = true := hw _ (List.mem_of_getElem? (i := 238) rfl)
theorem wi_StringUTF16 {a0 : Array Value} {Z : State} (hw : ∀ d ∈ tables_1, d.before a0 Z = true) : (Jvm.Cond.initialized "java/lang/StringUTF16").before a0 Z = true := hw _ (List.mem_of_getElem? (i := 239) rfl)
theorem wb_StringUTF16_compress_lACIIrAB {a0 : Array Value} {Z : State} (hw : ∀ d ∈ tables_1, d.before a0 Z = true) : (Jvm.Cond.code ({ cls := "java/lang/StringUTF16", name := "compress", desc := "([CII)[B" } : Jvm.MethodName) jdk_52_method_16_code (6 : Nat) (Option.some (Jvm.ClassFile.FieldType.array Jvm.ClassFile.FieldType.byte))).before a0 Z = true := hw _ (List.mem_of_getElem? (i := 240) rfl)
theorem wl_StringUTF16_115 {a0 : Array Value} {Z : State} (hw : ∀ d ∈ tables_1, d.before a0 Z = true) : (Jvm.Cond.methodLink "java/lang/StringUTF16" (115 : Nat) ({ cls := "java/lang/StringUTF16", name := "compress", desc := "([CI[BII)I" } : Jvm.MethodName)).before a0 Z = true := hw _ (List.mem_of_getElem? (i := 241) rfl)
theorem ws_StringUTF16_compress_lACIABIIrI {a0 : Array Value} {Z : State} (hw : ∀ d ∈ tables_1, d.before a0 Z = true) : (Jvm.Cond.static ({ cls := "java/lang/StringUTF16", name := "compress", desc := "([CI[BII)I" } : Jvm.MethodName)).before a0 Z = true := hw _ (List.mem_of_getElem? (i := 242) rfl)
theorem wb_StringUTF16_compress_lACIABIIrI {a0 : Array Value} {Z : State} (hw : ∀ d ∈ tables_1, d.before a0 Z = true) : (Jvm.Cond.code ({ cls := "java/lang/StringUTF16", name := "compress", desc := "([CI[BII)I" } : Jvm.MethodName) jdk_52_method_21_code (7 : Nat) (Option.some Jvm.ClassFile.FieldType.int)).before a0 Z = true := hw _ (List.mem_of_getElem? (i := 243) rfl)
theorem wl_String_47 {a0 : Array Value} {Z : State} (hw : ∀ d ∈ tables_1, d.before a0 Z = true) : (Jvm.Cond.methodLink "java/lang/String" (47 : Nat) ({ cls := "java/lang/StringUTF16", name := "coderFromArrayLen", desc := "([BI)B" } : Jvm.MethodName)).before a0 Z = true := hw _ (List.mem_of_getElem? (i := 244) rfl)
theorem ws_StringUTF16_coderFromArrayLen_lABIrB {a0 : Array Value} {Z : State} (hw : ∀ d ∈ tables_1, d.before a0 Z = true) : (Jvm.Cond.static ({ cls := "java/lang/StringUTF16", name := "coderFromArrayLen", desc := "([BI)B" } : Jvm.MethodName)).before a0 Z = true := hw _ (List.mem_of_getElem? (i := 245) rfl)
theorem wb_StringUTF16_coderFromArrayLen_lABIrB {a0 : Array Value} {Z : State} (hw : ∀ d ∈ tables_1, d.before a0 Z = true) : (Jvm.Cond.code ({ cls := "java/lang/StringUTF16", name := "coderFromArrayLen", desc := "([BI)B" } : Jvm.MethodName) jdk_52_method_15_code (2 : Nat) (Option.some Jvm.ClassFile.FieldType.byte)).before a0 Z = true := hw _ (List.mem_of_getElem? (i := 246) rfl)
theorem wl_StringUTF16_119 {a0 : Array Value} {Z : State} (hw : ∀ d ∈ tables_1, d.before a0 Z = true) : (Jvm.Cond.methodLink "java/lang/StringUTF16" (119 : Nat) ({ cls := "java/lang/StringUTF16", name := "toBytes", desc := "([CII)[B" } : Jvm.MethodName)).before a0 Z = true := hw _ (List.mem_of_getElem? (i := 247) rfl)
theorem ws_StringUTF16_toBytes_lACIIrAB {a0 : Array Value} {Z : State} (hw : ∀ d ∈ tables_1, d.before a0 Z = true) : (Jvm.Cond.static ({ cls := "java/lang/StringUTF16", name := "toBytes", desc := "([CII)[B" } : Jvm.MethodName)).before a0 Z = true := hw _ (List.mem_of_getElem? (i := 248) rfl)
theorem wb_StringUTF16_toBytes_lACIIrAB {a0 : Array Value} {Z : State} (hw : ∀ d ∈ tables_1, d.before a0 Z = true) : (Jvm.Cond.code ({ cls := "java/lang/StringUTF16", name := "toBytes", desc := "([CII)[B" } : Jvm.MethodName) jdk_52_method_14_code (5 : Nat) (Option.some (Jvm.ClassFile.FieldType.array Jvm.ClassFile.FieldType.byte))).before a0 Z = true := hw _ (List.mem_of_getElem? (i := 249) rfl)
theorem wl_StringUTF16_107 {a0 : Array Value} {Z : State} (hw : ∀ d ∈ tables_1, d.before a0 Z = true) : (Jvm.Cond.methodLink "java/lang/StringUTF16" (107 : Nat) ({ cls := "java/lang/StringUTF16", name := "newBytesFor", desc := "(I)[B" } : Jvm.MethodName)).before a0 Z = true := hw _ (List.mem_of_getElem? (i := 250) rfl)
theorem ws_StringUTF16_newBytesFor_lIrAB {a0 : Array Value} {Z : State} (hw : ∀ d ∈ tables_1, d.before a0 Z = true) : (Jvm.Cond.static ({ cls := "java/lang/StringUTF16", name := "newBytesFor", desc := "(I)[B" } : Jvm.MethodName)).before a0 Z = true := hw _ (List.mem_of_getElem? (i := 251) rfl)
theorem wb_StringUTF16_newBytesFor_lIrAB {a0 : Array Value} {Z : State} (hw : ∀ d ∈ tables_1, d.before a0 Z = true) : (Jvm.Cond.code ({ cls := "java/lang/StringUTF16", name := "newBytesFor", desc := "(I)[B" } : Jvm.MethodName) jdk_52_method_2_code (1 : Nat) (Option.some (Jvm.ClassFile.FieldType.array Jvm.ClassFile.FieldType.byte))).before a0 Z = true := hw _ (List.mem_of_getElem? (i := 252) rfl)
theorem wl_StringUTF16_11 {a0 : Array Value} {Z : State} (hw : ∀ d ∈ tables_1, d.before a0 Z = true) : (Jvm.Cond.methodLink "java/lang/StringUTF16" (11 : Nat) ({ cls := "java/lang/StringUTF16", name := "newBytesLength", desc := "(I)I" } : Jvm.MethodName)).before a0 Z = true := hw _ (List.mem_of_getElem? (i := 253) rfl)
theorem ws_StringUTF16_newBytesLength_lIrI {a0 : Array Value} {Z : State} (hw : ∀ d ∈ tables_1, d.before a0 Z = true) : (Jvm.Cond.static ({ cls := "java/lang/StringUTF16", name := "newBytesLength", desc := "(I)I" } : Jvm.MethodName)).before a0 Z = true := hw _ (List.mem_of_getElem? (i := 254) rfl)
theorem wb_StringUTF16_newBytesLength_lIrI {a0 : Array Value} {Z : State} (hw : ∀ d ∈ tables_1, d.before a0 Z = true) : (Jvm.Cond.code ({ cls := "java/lang/StringUTF16", name := "newBytesLength", desc := "(I)I" } : Jvm.MethodName) jdk_52_method_3_code (1 : Nat) (Option.some Jvm.ClassFile.FieldType.int)).before a0 Z = true := hw _ (List.mem_of_getElem? (i := 255) rfl)
theorem wk_StringUTF16_20 {a0 : Array Value} {Z : State} (hw : ∀ d ∈ tables_1, d.before a0 Z = true) : (Jvm.Cond.constant "java/lang/StringUTF16" (20 : Nat) (1073741823 : Int32)).before a0 Z = true := hw _ (List.mem_of_getElem? (i := 256) rfl)
theorem wl_StringUTF16_111 {a0 : Array Value} {Z : State} (hw : ∀ d ∈ tables_1, d.before a0 Z = true) : (Jvm.Cond.methodLink "java/lang/StringUTF16" (111 : Nat) ({ cls := "java/lang/StringUTF16", name := "putChar", desc := "([BII)V" } : Jvm.MethodName)).before a0 Z = true := hw _ (List.mem_of_getElem? (i := 257) rfl)
theorem ws_StringUTF16_putChar_lABIIrV {a0 : Array Value} {Z : State} (hw : ∀ d ∈ tables_1, d.before a0 Z = true) : (Jvm.Cond.static ({ cls := "java/lang/StringUTF16", name := "putChar", desc := "([BII)V" } : Jvm.MethodName)).before a0 Z = true := hw _ (List.mem_of_getElem? (i := 258) rfl)
theorem wb_StringUTF16_putChar_lABIIrV {a0 : Array Value} {Z : State} (hw : ∀ d ∈ tables_1, d.before a0 Z = true) : (Jvm.Cond.code ({ cls := "java/lang/StringUTF16", name := "putChar", desc := "([BII)V" } : Jvm.MethodName) jdk_52_method_4_code (3 : Nat) (Option.none : Option Jvm.ClassFile.FieldType)).before a0 Z = true := hw _ (List.mem_of_getElem? (i := 259) rfl)
theorem wf_StringUTF16_44 {a0 : Array Value} {Z : State} (hw : ∀ d ∈ tables_1, d.before a0 Z = true) : (Jvm.Cond.fieldLink "java/lang/StringUTF16" (44 : Nat) "java/lang/StringUTF16" "$assertionsDisabled" "Z").before a0 Z = true := hw _ (List.mem_of_getElem? (i := 260) rfl)
theorem wf_StringUTF16_59 {a0 : Array Value} {Z : State} (hw : ∀ d ∈ tables_1, d.before a0 Z = true) : (Jvm.Cond.fieldLink "java/lang/StringUTF16" (59 : Nat) "java/lang/StringUTF16" "HI_BYTE_SHIFT" "I").before a0 Z = true := hw _ (List.mem_of_getElem? (i := 261) rfl)
theorem wf_StringUTF16_63 {a0 : Array Value} {Z : State} (hw : ∀ d ∈ tables_1, d.before a0 Z = true) : (Jvm.Cond.fieldLink "java/lang/StringUTF16" (63 : Nat) "java/lang/StringUTF16" "LO_BYTE_SHIFT" "I").before a0 Z = true := hw _ (List.mem_of_getElem? (i := 262) rfl)
theorem wl_StringUTF16_71 {a0 : Array Value} {Z : State} (hw : ∀ d ∈ tables_1, d.before a0 Z = true) : (Jvm.Cond.methodLink "java/lang/StringUTF16" (71 : Nat) ({ cls := "java/lang/StringUTF16", name := "getChar", desc := "([BI)C" } : Jvm.MethodName)).before a0 Z = true := hw _ (List.mem_of_getElem? (i := 263) rfl)
theorem ws_StringUTF16_getChar_lABIrC {a0 : Array Value} {Z : State} (hw : ∀ d ∈ tables_1, d.before a0 Z = true) : (Jvm.Cond.static ({ cls := "java/lang/StringUTF16", name := "getChar", desc := "([BI)C" } : Jvm.MethodName)).before a0 Z = true := hw _ (List.mem_of_getElem? (i := 264) rfl)
theorem wb_StringUTF16_getChar_lABIrC {a0 : Array Value} {Z : State} (hw : ∀ d ∈ tables_1, d.before a0 Z = true) : (Jvm.Cond.code ({ cls := "java/lang/StringUTF16", name := "getChar", desc := "([BI)C" } : Jvm.MethodName) jdk_52_method_5_code (2 : Nat) (Option.some Jvm.ClassFile.FieldType.char)).before a0 Z = true := hw _ (List.mem_of_getElem? (i := 265) rfl)
theorem wl_AbstractStringBuilder_195 {a0 : Array Value} {Z : State} (hw : ∀ d ∈ tables_1, d.before a0 Z = true) : (Jvm.Cond.methodLink "java/lang/AbstractStringBuilder" (195 : Nat) ({ cls := "java/lang/AbstractStringBuilder", name := "inflate", desc := "()V" } : Jvm.MethodName)).before a0 Z = true := hw _ (List.mem_of_getElem? (i := 266) rfl)
theorem wm_AbstractStringBuilder_inflate_lrV {a0 : Array Value} {Z : State} (hw : ∀ d ∈ tables_1, d.before a0 Z = true) : (Jvm.Cond.instanceMethod ({ cls := "java/lang/AbstractStringBuilder", name := "inflate", desc := "()V" } : Jvm.MethodName)).before a0 Z = true := hw _ (List.mem_of_getElem? (i := 267) rfl)
theorem wq_AbstractStringBuilder_inflate_lrV {a0 : Array Value} {Z : State} (hw : ∀ d ∈ tables_1, d.before a0 Z = true) : (Jvm.Cond.privateMethod ({ cls := "java/lang/AbstractStringBuilder", name := "inflate", desc := "()V" } : Jvm.MethodName)).before a0 Z = true := hw _ (List.mem_of_getElem? (i := 268) rfl)
theorem wv_StringBuilder_AbstractStringBuilder_inflate_lrV {a0 : Array Value} {Z : State} (hw : ∀ d ∈ tables_1, d.before a0 Z = true) : (Jvm.Cond.selects "java/lang/StringBuilder" ({ cls := "java/lang/AbstractStringBuilder", name := "inflate", desc := "()V" } : Jvm.MethodName) ({ cls := "java/lang/AbstractStringBuilder", name := "inflate", desc := "()V" } : Jvm.MethodName)).before a0 Z = true := hw _ (List.mem_of_getElem? (i := 269) rfl)
theorem wb_AbstractStringBuilder_inflate_lrV {a0 : Array Value} {Z : State} (hw : ∀ d ∈ tables_1, d.before a0 Z = true) : (Jvm.Cond.code ({ cls := "java/lang/AbstractStringBuilder", name := "inflate", desc := "()V" } : Jvm.MethodName) jdk_68_method_11_code (2 : Nat) (Option.none : Option Jvm.ClassFile.FieldType)).before a0 Z = true := hw _ (List.mem_of_getElem? (i := 270) rfl)
theorem wl_AbstractStringBuilder_83 {a0 : Array Value} {Z : State} (hw : ∀ d ∈ tables_1, d.before a0 Z = true) : (Jvm.Cond.methodLink "java/lang/AbstractStringBuilder" (83 : Nat) ({ cls := "java/lang/AbstractStringBuilder", name := "isLatin1", desc := "()Z" } : Jvm.MethodName)).before a0 Z = true := hw _ (List.mem_of_getElem? (i := 271) rfl)
theorem wl_AbstractStringBuilder_26 {a0 : Array Value} {Z : State} (hw : ∀ d ∈ tables_1, d.before a0 Z = true) : (Jvm.Cond.methodLink "java/lang/AbstractStringBuilder" (26 : Nat) ({ cls := "java/lang/StringUTF16", name := "newBytesFor", desc := "(I)[B" } : Jvm.MethodName)).before a0 Z = true := hw _ (List.mem_of_getElem? (i := 272) rfl)
theorem wl_AbstractStringBuilder_125 {a0 : Array Value} {Z : State} (hw : ∀ d ∈ tables_1, d.before a0 Z = true) : (Jvm.Cond.methodLink "java/lang/AbstractStringBuilder" (125 : Nat) ({ cls := "java/lang/StringLatin1", name := "inflate", desc := "([BI[BII)V" } : Jvm.MethodName)).before a0 Z = true := hw _ (List.mem_of_getElem? (i := 273) rfl)
theorem ws_StringLatin1_inflate_lABIABIIrV {a0 : Array Value} {Z : State} (hw : ∀ d ∈ tables_1, d.before a0 Z = true) : (Jvm.Cond.static ({ cls := "java/lang/StringLatin1", name := "inflate", desc := "([BI[BII)V" } : Jvm.MethodName)).before a0 Z = true := hw _ (List.mem_of_getElem? (i := 274) rfl)
theorem wb_StringLatin1_inflate_lABIABIIrV {a0 : Array Value} {Z : State} (hw : ∀ d ∈ tables_1, d.before a0 Z = true) : (Jvm.Cond.code ({ cls := "java/lang/StringLatin1", name := "inflate", desc := "([BI[BII)V" } : Jvm.MethodName) jdk_43_method_50_code (5 : Nat) (Option.none : Option Jvm.ClassFile.FieldType)).before a0 Z = true := hw _ (List.mem_of_getElem? (i := 275) rfl)
theorem wl_StringLatin1_240 {a0 : Array Value} {Z : State} (hw : ∀ d ∈ tables_1, d.before a0 Z = true) : (Jvm.Cond.methodLink "java/lang/StringLatin1" (240 : Nat) ({ cls := "java/lang/StringUTF16", name := "inflate", desc := "([BI[BII)V" } : Jvm.MethodName)).before a0 Z = true := hw _ (List.mem_of_getElem? (i := 276) rfl)
theorem ws_StringUTF16_inflate_lABIABIIrV {a0 : Array Value} {Z : State} (hw : ∀ d ∈ tables_1, d.before a0 Z = true) : (Jvm.Cond.static ({ cls := "java/lang/StringUTF16", name := "inflate", desc := "([BI[BII)V" } : Jvm.MethodName)).before a0 Z = true := hw _ (List.mem_of_getElem? (i := 277) rfl)
theorem wb_StringUTF16_inflate_lABIABIIrV {a0 : Array Value} {Z : State} (hw : ∀ d ∈ tables_1, d.before a0 Z = true) : (Jvm.Cond.code ({ cls := "java/lang/StringUTF16", name := "inflate", desc := "([BI[BII)V" } : Jvm.MethodName) jdk_52_method_86_code (6 : Nat) (Option.none : Option Jvm.ClassFile.FieldType)).before a0 Z = true := hw _ (List.mem_of_getElem? (i := 278) rfl)
theorem wl_StringUTF16_173 {a0 : Array Value} {Z : State} (hw : ∀ d ∈ tables_1, d.before a0 Z = true) : (Jvm.Cond.methodLink "java/lang/StringUTF16" (173 : Nat) ({ cls := "java/lang/StringUTF16", name := "checkBoundsOffCount", desc := "(II[B)V" } : Jvm.MethodName)).before a0 Z = true := hw _ (List.mem_of_getElem? (i := 279) rfl)
theorem ws_StringUTF16_checkBoundsOffCount_lIIABrV {a0 : Array Value} {Z : State} (hw : ∀ d ∈ tables_1, d.before a0 Z = true) : (Jvm.Cond.static ({ cls := "java/lang/StringUTF16", name := "checkBoundsOffCount", desc := "(II[B)V" } : Jvm.MethodName)).before a0 Z = true := hw _ (List.mem_of_getElem? (i := 280) rfl)
theorem wb_StringUTF16_checkBoundsOffCount_lIIABrV {a0 : Array Value} {Z : State} (hw : ∀ d ∈ tables_1, d.before a0 Z = true) : (Jvm.Cond.code ({ cls := "java/lang/StringUTF16", name := "checkBoundsOffCount", desc := "(II[B)V" } : Jvm.MethodName) jdk_52_method_94_code (3 : Nat) (Option.none : Option Jvm.ClassFile.FieldType)).before a0 Z = true := hw _ (List.mem_of_getElem? (i := 281) rfl)
theorem wl_StringUTF16_48 {a0 : Array Value} {Z : State} (hw : ∀ d ∈ tables_1, d.before a0 Z = true) : (Jvm.Cond.methodLink "java/lang/StringUTF16" (48 : Nat) ({ cls := "java/lang/StringUTF16", name := "length", desc := "([B)I" } : Jvm.MethodName)).before a0 Z = true := hw _ (List.mem_of_getElem? (i := 282) rfl)
theorem ws_StringUTF16_length_lABrI {a0 : Array Value} {Z : State} (hw : ∀ d ∈ tables_1, d.before a0 Z = true) : (Jvm.Cond.static ({ cls := "java/lang/StringUTF16", name := "length", desc := "([B)I" } : Jvm.MethodName)).before a0 Z = true := hw _ (List.mem_of_getElem? (i := 283) rfl)
theorem wb_StringUTF16_length_lABrI {a0 : Array Value} {Z : State} (hw : ∀ d ∈ tables_1, d.before a0 Z = true) : (Jvm.Cond.code ({ cls := "java/lang/StringUTF16", name := "length", desc := "([B)I" } : Jvm.MethodName) jdk_52_method_6_code (1 : Nat) (Option.some Jvm.ClassFile.FieldType.int)).before a0 Z = true := hw _ (List.mem_of_getElem? (i := 284) rfl)
theorem wl_StringUTF16_419 {a0 : Array Value} {Z : State} (hw : ∀ d ∈ tables_1, d.before a0 Z = true) : (Jvm.Cond.methodLink "java/lang/StringUTF16" (419 : Nat) ({ cls := "java/lang/String", name := "checkBoundsOffCount", desc := "(III)I" } : Jvm.MethodName)).before a0 Z = true := hw _ (List.mem_of_getElem? (i := 285) rfl)
theorem ws_String_checkBoundsOffCount_lIIIrI {a0 : Array Value} {Z : State} (hw : ∀ d ∈ tables_1, d.before a0 Z = true) : (Jvm.Cond.static ({ cls := "java/lang/String", name := "checkBoundsOffCount", desc := "(III)I" } : Jvm.MethodName)).before a0 Z = true := hw _ (List.mem_of_getElem? (i := 286) rfl)
theorem wb_String_checkBoundsOffCount_lIIIrI {a0 : Array Value} {Z : State} (hw : ∀ d ∈ tables_1, d.before a0 Z = true) : (Jvm.Cond.code ({ cls := "java/lang/String", name := "checkBoundsOffCount", desc := "(III)I" } : Jvm.MethodName) jdk_42_method_157_code (3 : Nat) (Option.some Jvm.ClassFile.FieldType.int)).before a0 Z = true := hw _ (List.mem_of_getElem? (i := 287) rfl)
theorem wf_String_1053 {a0 : Array Value} {Z : State} (hw : ∀ d ∈ tables_1, d.before a0 Z = true) : (Jvm.Cond.fieldLink "java/lang/String" (1053 : Nat) "jdk/internal/util/Preconditions" "SIOOBE_FORMATTER" "Ljava/util/function/BiFunction;").before a0 Z = true := hw _ (List.mem_of_getElem? (i := 288) rfl)
theorem wi_Preconditions {a0 : Array Value} {Z : State} (hw : ∀ d ∈ tables_1, d.before a0 Z = true) : (Jvm.Cond.initialized "jdk/internal/util/Preconditions").before a0 Z = true := hw _ (List.mem_of_getElem? (i := 289) rfl)
theorem wl_String_1065 {a0 : Array Value} {Z : State} (hw : ∀ d ∈ tables_1, d.before a0 Z = true) : (Jvm.Cond.methodLink "java/lang/String" (1065 : Nat) ({ cls := "jdk/internal/util/Preconditions", name := "checkFromIndexSize", desc := "(IIILjava/util/function/BiFunction;)I" } : Jvm.MethodName)).before a0 Z = true := hw _ (List.mem_of_getElem? (i := 290) rfl)
theorem ws_Preconditions_checkFromIndexSize_lIIILjavautilfunctionBiFunctionrI {a0 : Array Value} {Z : State} (hw : ∀ d ∈ tables_1, d.before a0 Z = true) : (Jvm.Cond.static ({ cls := "jdk/internal/util/Preconditions", name := "checkFromIndexSize", desc := "(IIILjava/util/function/BiFunction;)I" } : Jvm.MethodName)).before a0 Z = true := hw _ (List.mem_of_getElem? (i := 291) rfl)
theorem wb_Preconditions_checkFromIndexSize_lIIILjavautilfunctionBiFunctionrI {a0 : Array Value} {Z : State} (hw : ∀ d ∈ tables_1, d.before a0 Z = true) : (Jvm.Cond.code ({ cls := "jdk/internal/util/Preconditions", name := "checkFromIndexSize", desc := "(IIILjava/util/function/BiFunction;)I" } : Jvm.MethodName) jdk_41_method_13_code (4 : Nat) (Option.some Jvm.ClassFile.FieldType.int)).before a0 Z = true := hw _ (List.mem_of_getElem? (i := 292) rfl)
theorem wl_String_106 {a0 : Array Value} {Z : State} (hw : ∀ d ∈ tables_1, d.before a0 Z = true) : (Jvm.Cond.methodLink "java/lang/String" (106 : Nat) ({ cls := "java/lang/StringLatin1", name := "inflate", desc := "([BI[BII)V" } : Jvm.MethodName)).before a0 Z = true := hw _ (List.mem_of_getElem? (i := 293) rfl)
theorem wf_String_1048 {a0 : Array Value} {Z : State} (hw : ∀ d ∈ tables_1, d.before a0 Z = true) : (Jvm.Cond.fieldLink "java/lang/String" (1048 : Nat) "java/lang/AbstractStringBuilder" "maybeLatin1" "Z").before a0 Z = true := hw _ (List.mem_of_getElem? (i := 294) rfl)
theorem wy_StringBuilder_AbstractStringBuilder_maybeLatin1 {a0 : Array Value} {Z : State} (hw : ∀ d ∈ tables_1, d.before a0 Z = true) : (Jvm.Cond.lays "java/lang/StringBuilder" "java/lang/AbstractStringBuilder" "maybeLatin1" "Z").before a0 Z = true := hw _ (List.mem_of_getElem? (i := 295) rfl)
theorem dj42_3_0 : decode jdk_42_method_3_code 0 = .ok (.aload_n 0, 1) := by decide +kernel
theorem dj42_3_1 : decode jdk_42_method_3_code 1 = .ok (.aload_n 1, 1) := by decide +kernel
theorem dj42_3_2 : decode jdk_42_method_3_code 2 = .ok (.iconst 0, 1) := by decide +kernel
theorem dj42_3_3 : decode jdk_42_method_3_code 3 = .ok (.aload_n 1, 1) := by decide +kernel
theorem dj42_3_4 : decode jdk_42_method_3_code 4 = .ok (.arraylength, 1) := by decide +kernel
theorem dj42_3_5 : decode jdk_42_method_3_code 5 = .ok (.aconst_null, 1) := by decide +kernel
theorem dj42_3_6 : decode jdk_42_method_3_code 6 = .ok (.invokespecial 27, 3) := by decide +kernel
theorem dj42_3_9 : decode jdk_42_method_3_code 9 = .ok (.return_, 1) := by decide +kernel
theorem dj42_149_0 : decode jdk_42_method_149_code 0 = .ok (.aload_n 0, 1) := by decide +kernel
theorem dj42_149_1 : decode jdk_42_method_149_code 1 = .ok (.invokespecial 1, 3) := by decide +kernel
theorem dj42_149_4 : decode jdk_42_method_149_code 4 = .ok (.iload_n 3, 1) := by decide +kernel
theorem dj42_149_5 : decode jdk_42_method_149_code 5 = .ok (.ifCond .ne 22, 3) := by decide +kernel
theorem dj42_149_8 : decode jdk_42_method_149_code 8 = .ok (.aload_n 0, 1) := by decide +kernel
theorem dj42_149_9 : decode jdk_42_method_149_code 9 = .ok (.ldc 7, 2) := by decide +kernel
theorem dj42_149_11 : decode jdk_42_method_149_code 11 = .ok (.getfield 9, 3) := by decide +kernel
theorem dj42_149_14 : decode jdk_42_method_149_code 14 = .ok (.putfield 9, 3) := by decide +kernel
theorem dj42_149_17 : decode jdk_42_method_149_code 17 = .ok (.aload_n 0, 1) := by decide +kernel
theorem dj42_149_18 : decode jdk_42_method_149_code 18 = .ok (.ldc 7, 2) := by decide +kernel
theorem dj42_149_20 : decode jdk_42_method_149_code 20 = .ok (.getfield 15, 3) := by decide +kernel
theorem dj42_149_23 : decode jdk_42_method_149_code 23 = .ok (.putfield 15, 3) := by decide +kernel
theorem dj42_149_26 : decode jdk_42_method_149_code 26 = .ok (.return_, 1) := by decide +kernel
theorem dj42_149_27 : decode jdk_42_method_149_code 27 = .ok (.getstatic 38, 3) := by decide +kernel
theorem dj42_149_30 : decode jdk_42_method_149_code 30 = .ok (.ifCond .eq 28, 3) := by decide +kernel
theorem dj42_149_33 : decode jdk_42_method_149_code 33 = .ok (.aload_n 1, 1) := by decide +kernel
theorem dj42_149_34 : decode jdk_42_method_149_code 34 = .ok (.iload_n 2, 1) := by decide +kernel
theorem dj42_149_35 : decode jdk_42_method_149_code 35 = .ok (.iload_n 3, 1) := by decide +kernel
theorem dj42_149_36 : decode jdk_42_method_149_code 36 = .ok (.invokestatic 177, 3) := by decide +kernel
theorem dj42_149_39 : decode jdk_42_method_149_code 39 = .ok (.astore 5, 2) := by decide +kernel
theorem dj42_149_41 : decode jdk_42_method_149_code 41 = .ok (.aload_n 0, 1) := by decide +kernel
theorem dj42_149_42 : decode jdk_42_method_149_code 42 = .ok (.aload 5, 2) := by decide +kernel
theorem dj42_149_44 : decode jdk_42_method_149_code 44 = .ok (.iload_n 3, 1) := by decide +kernel
theorem dj42_149_45 : decode jdk_42_method_149_code 45 = .ok (.invokestatic 47, 3) := by decide +kernel
theorem dj42_149_48 : decode jdk_42_method_149_code 48 = .ok (.putfield 15, 3) := by decide +kernel
theorem dj42_149_51 : decode jdk_42_method_149_code 51 = .ok (.aload_n 0, 1) := by decide +kernel
theorem dj42_149_52 : decode jdk_42_method_149_code 52 = .ok (.aload 5, 2) := by decide +kernel
theorem dj42_149_54 : decode jdk_42_method_149_code 54 = .ok (.putfield 9, 3) := by decide +kernel
theorem dj42_149_57 : decode jdk_42_method_149_code 57 = .ok (.return_, 1) := by decide +kernel
theorem dj42_149_58 : decode jdk_42_method_149_code 58 = .ok (.aload_n 0, 1) := by decide +kernel
theorem dj42_149_59 : decode jdk_42_method_149_code 59 = .ok (.iconst 1, 1) := by decide +kernel
theorem dj42_149_60 : decode jdk_42_method_149_code 60 = .ok (.putfield 15, 3) := by decide +kernel
theorem dj42_149_63 : decode jdk_42_method_149_code 63 = .ok (.aload_n 0, 1) := by decide +kernel
theorem dj42_149_64 : decode jdk_42_method_149_code 64 = .ok (.aload_n 1, 1) := by decide +kernel
theorem dj42_149_65 : decode jdk_42_method_149_code 65 = .ok (.iload_n 2, 1) := by decide +kernel
theorem dj42_149_66 : decode jdk_42_method_149_code 66 = .ok (.iload_n 3, 1) := by decide +kernel
theorem dj42_149_67 : decode jdk_42_method_149_code 67 = .ok (.invokestatic 180, 3) := by decide +kernel
theorem dj42_149_70 : decode jdk_42_method_149_code 70 = .ok (.putfield 9, 3) := by decide +kernel
theorem dj42_149_73 : decode jdk_42_method_149_code 73 = .ok (.return_, 1) := by decide +kernel
theorem dobject_method_1_0 : decode object_method_1_code 0 = .ok (.return_, 1) := by decide +kernel
theorem dp24_16_0 : decode prog_24_method_16_code 0 = .ok (.new 260, 3) := by decide +kernel
theorem dp24_16_3 : decode prog_24_method_16_code 3 = .ok (.dup, 1) := by decide +kernel
theorem dp24_16_4 : decode prog_24_method_16_code 4 = .ok (.new 143, 3) := by decide +kernel
theorem dp24_16_7 : decode prog_24_method_16_code 7 = .ok (.dup, 1) := by decide +kernel
theorem dp24_16_8 : decode prog_24_method_16_code 8 = .ok (.invokespecial 145, 3) := by decide +kernel
theorem dp24_16_11 : decode prog_24_method_16_code 11 = .ok (.aload_n 0, 1) := by decide +kernel
theorem dp24_16_12 : decode prog_24_method_16_code 12 = .ok (.invokevirtual 148, 3) := by decide +kernel
theorem dp24_16_15 : decode prog_24_method_16_code 15 = .ok (.ldc_w 287, 3) := by decide +kernel
theorem dp24_16_18 : decode prog_24_method_16_code 18 = .ok (.invokevirtual 148, 3) := by decide +kernel
theorem dp24_16_21 : decode prog_24_method_16_code 21 = .ok (.invokevirtual 154, 3) := by decide +kernel
theorem dp24_16_24 : decode prog_24_method_16_code 24 = .ok (.invokespecial 264, 3) := by decide +kernel
theorem dp24_16_27 : decode prog_24_method_16_code 27 = .ok (.areturn, 1) := by decide +kernel
theorem dj67_1_0 : decode jdk_67_method_1_code 0 = .ok (.aload_n 0, 1) := by decide +kernel
theorem dj67_1_1 : decode jdk_67_method_1_code 1 = .ok (.bipush 16, 2) := by decide +kernel
theorem dj67_1_3 : decode jdk_67_method_1_code 3 = .ok (.invokespecial 1, 3) := by decide +kernel
theorem dj67_1_6 : decode jdk_67_method_1_code 6 = .ok (.return_, 1) := by decide +kernel
theorem dj68_2_0 : decode jdk_68_method_2_code 0 = .ok (.aload_n 0, 1) := by decide +kernel
theorem dj68_2_1 : decode jdk_68_method_2_code 1 = .ok (.invokespecial 3, 3) := by decide +kernel
theorem dj68_2_4 : decode jdk_68_method_2_code 4 = .ok (.getstatic 18, 3) := by decide +kernel
theorem dj68_2_7 : decode jdk_68_method_2_code 7 = .ok (.ifCond .eq 18, 3) := by decide +kernel
theorem dj68_2_10 : decode jdk_68_method_2_code 10 = .ok (.aload_n 0, 1) := by decide +kernel
theorem dj68_2_11 : decode jdk_68_method_2_code 11 = .ok (.iload_n 1, 1) := by decide +kernel
theorem dj68_2_12 : decode jdk_68_method_2_code 12 = .ok (.newarray .byte, 2) := by decide +kernel
theorem dj68_2_14 : decode jdk_68_method_2_code 14 = .ok (.putfield 15, 3) := by decide +kernel
theorem dj68_2_17 : decode jdk_68_method_2_code 17 = .ok (.aload_n 0, 1) := by decide +kernel
theorem dj68_2_18 : decode jdk_68_method_2_code 18 = .ok (.iconst 0, 1) := by decide +kernel
theorem dj68_2_19 : decode jdk_68_method_2_code 19 = .ok (.putfield 22, 3) := by decide +kernel
theorem dj68_2_22 : decode jdk_68_method_2_code 22 = .ok (.goto 16, 3) := by decide +kernel
theorem dj68_2_25 : decode jdk_68_method_2_code 25 = .ok (.aload_n 0, 1) := by decide +kernel
theorem dj68_2_26 : decode jdk_68_method_2_code 26 = .ok (.iload_n 1, 1) := by decide +kernel
theorem dj68_2_27 : decode jdk_68_method_2_code 27 = .ok (.invokestatic 26, 3) := by decide +kernel
theorem dj68_2_30 : decode jdk_68_method_2_code 30 = .ok (.putfield 15, 3) := by decide +kernel
theorem dj68_2_33 : decode jdk_68_method_2_code 33 = .ok (.aload_n 0, 1) := by decide +kernel
theorem dj68_2_34 : decode jdk_68_method_2_code 34 = .ok (.iconst 1, 1) := by decide +kernel
theorem dj68_2_35 : decode jdk_68_method_2_code 35 = .ok (.putfield 22, 3) := by decide +kernel
theorem dj68_2_38 : decode jdk_68_method_2_code 38 = .ok (.return_, 1) := by decide +kernel
theorem dj67_7_0 : decode jdk_67_method_7_code 0 = .ok (.aload_n 0, 1) := by decide +kernel
theorem dj67_7_1 : decode jdk_67_method_7_code 1 = .ok (.aload_n 1, 1) := by decide +kernel
theorem dj67_7_2 : decode jdk_67_method_7_code 2 = .ok (.invokespecial 29, 3) := by decide +kernel
theorem dj67_7_5 : decode jdk_67_method_7_code 5 = .ok (.pop, 1) := by decide +kernel
theorem dj67_7_6 : decode jdk_67_method_7_code 6 = .ok (.aload_n 0, 1) := by decide +kernel
theorem dj67_7_7 : decode jdk_67_method_7_code 7 = .ok (.areturn, 1) := by decide +kernel
theorem dj68_22_0 : decode jdk_68_method_22_code 0 = .ok (.aload_n 1, 1) := by decide +kernel
theorem dj68_22_1 : decode jdk_68_method_22_code 1 = .ok (.ifnonnull 8, 3) := by decide +kernel
theorem dj68_22_4 : decode jdk_68_method_22_code 4 = .ok (.aload_n 0, 1) := by decide +kernel
theorem dj68_22_5 : decode jdk_68_method_22_code 5 = .ok (.invokevirtual 204, 3) := by decide +kernel
theorem dj68_22_8 : decode jdk_68_method_22_code 8 = .ok (.areturn, 1) := by decide +kernel
theorem dj68_22_9 : decode jdk_68_method_22_code 9 = .ok (.aload_n 1, 1) := by decide +kernel
theorem dj68_22_10 : decode jdk_68_method_22_code 10 = .ok (.invokevirtual 32, 3) := by decide +kernel
theorem dj68_22_13 : decode jdk_68_method_22_code 13 = .ok (.istore_n 2, 1) := by decide +kernel
theorem dj68_22_14 : decode jdk_68_method_22_code 14 = .ok (.aload_n 0, 1) := by decide +kernel
theorem dj68_22_15 : decode jdk_68_method_22_code 15 = .ok (.aload_n 0, 1) := by decide +kernel
theorem dj68_22_16 : decode jdk_68_method_22_code 16 = .ok (.getfield 79, 3) := by decide +kernel
theorem dj68_22_19 : decode jdk_68_method_22_code 19 = .ok (.iload_n 2, 1) := by decide +kernel
theorem dj68_22_20 : decode jdk_68_method_22_code 20 = .ok (.iadd, 1) := by decide +kernel
theorem dj68_22_21 : decode jdk_68_method_22_code 21 = .ok (.invokevirtual 100, 3) := by decide +kernel
theorem dj68_22_24 : decode jdk_68_method_22_code 24 = .ok (.aload_n 0, 1) := by decide +kernel
theorem dj68_22_25 : decode jdk_68_method_22_code 25 = .ok (.aload_n 0, 1) := by decide +kernel
theorem dj68_22_26 : decode jdk_68_method_22_code 26 = .ok (.getfield 79, 3) := by decide +kernel
theorem dj68_22_29 : decode jdk_68_method_22_code 29 = .ok (.aload_n 1, 1) := by decide +kernel
theorem dj68_22_30 : decode jdk_68_method_22_code 30 = .ok (.invokevirtual 208, 3) := by decide +kernel
theorem dj68_22_33 : decode jdk_68_method_22_code 33 = .ok (.aload_n 0, 1) := by decide +kernel
theorem dj68_22_34 : decode jdk_68_method_22_code 34 = .ok (.dup, 1) := by decide +kernel
theorem dj68_22_35 : decode jdk_68_method_22_code 35 = .ok (.getfield 79, 3) := by decide +kernel
theorem dj68_22_38 : decode jdk_68_method_22_code 38 = .ok (.iload_n 2, 1) := by decide +kernel
theorem dj68_22_39 : decode jdk_68_method_22_code 39 = .ok (.iadd, 1) := by decide +kernel
theorem dj68_22_40 : decode jdk_68_method_22_code 40 = .ok (.putfield 79, 3) := by decide +kernel
theorem dj68_22_43 : decode jdk_68_method_22_code 43 = .ok (.aload_n 0, 1) := by decide +kernel
theorem dj68_22_44 : decode jdk_68_method_22_code 44 = .ok (.areturn, 1) := by decide +kernel
theorem dj42_54_0 : decode jdk_42_method_54_code 0 = .ok (.aload_n 0, 1) := by decide +kernel
theorem dj42_54_1 : decode jdk_42_method_54_code 1 = .ok (.getfield 9, 3) := by decide +kernel
theorem dj42_54_4 : decode jdk_42_method_54_code 4 = .ok (.arraylength, 1) := by decide +kernel
theorem dj42_54_5 : decode jdk_42_method_54_code 5 = .ok (.aload_n 0, 1) := by decide +kernel
theorem dj42_54_6 : decode jdk_42_method_54_code 6 = .ok (.invokevirtual 335, 3) := by decide +kernel
theorem dj42_54_9 : decode jdk_42_method_54_code 9 = .ok (.ishr, 1) := by decide +kernel
theorem dj42_54_10 : decode jdk_42_method_54_code 10 = .ok (.ireturn, 1) := by decide +kernel
theorem dj42_152_0 : decode jdk_42_method_152_code 0 = .ok (.getstatic 38, 3) := by decide +kernel
theorem dj42_152_3 : decode jdk_42_method_152_code 3 = .ok (.ifCond .eq 10, 3) := by decide +kernel
theorem dj42_152_6 : decode jdk_42_method_152_code 6 = .ok (.aload_n 0, 1) := by decide +kernel
theorem dj42_152_7 : decode jdk_42_method_152_code 7 = .ok (.getfield 15, 3) := by decide +kernel
theorem dj42_152_10 : decode jdk_42_method_152_code 10 = .ok (.goto 4, 3) := by decide +kernel
theorem dj42_152_13 : decode jdk_42_method_152_code 13 = .ok (.iconst 1, 1) := by decide +kernel
theorem dj42_152_14 : decode jdk_42_method_152_code 14 = .ok (.ireturn, 1) := by decide +kernel
theorem dj68_9_0 : decode jdk_68_method_9_code 0 = .ok (.aload_n 0, 1) := by decide +kernel
theorem dj68_9_1 : decode jdk_68_method_9_code 1 = .ok (.getfield 15, 3) := by decide +kernel
theorem dj68_9_4 : decode jdk_68_method_9_code 4 = .ok (.arraylength, 1) := by decide +kernel
theorem dj68_9_5 : decode jdk_68_method_9_code 5 = .ok (.aload_n 0, 1) := by decide +kernel
theorem dj68_9_6 : decode jdk_68_method_9_code 6 = .ok (.getfield 22, 3) := by decide +kernel
theorem dj68_9_9 : decode jdk_68_method_9_code 9 = .ok (.ishr, 1) := by decide +kernel
theorem dj68_9_10 : decode jdk_68_method_9_code 10 = .ok (.istore_n 2, 1) := by decide +kernel
theorem dj68_9_11 : decode jdk_68_method_9_code 11 = .ok (.iload_n 1, 1) := by decide +kernel
theorem dj68_9_12 : decode jdk_68_method_9_code 12 = .ok (.iload_n 2, 1) := by decide +kernel
theorem dj68_9_13 : decode jdk_68_method_9_code 13 = .ok (.isub, 1) := by decide +kernel
theorem dj68_9_14 : decode jdk_68_method_9_code 14 = .ok (.ifCond .le 24, 3) := by decide +kernel
theorem dj68_9_17 : decode jdk_68_method_9_code 17 = .ok (.aload_n 0, 1) := by decide +kernel
theorem dj68_9_18 : decode jdk_68_method_9_code 18 = .ok (.aload_n 0, 1) := by decide +kernel
theorem dj68_9_19 : decode jdk_68_method_9_code 19 = .ok (.getfield 15, 3) := by decide +kernel
theorem dj68_9_22 : decode jdk_68_method_9_code 22 = .ok (.aload_n 0, 1) := by decide +kernel
theorem dj68_9_23 : decode jdk_68_method_9_code 23 = .ok (.iload_n 1, 1) := by decide +kernel
theorem dj68_9_24 : decode jdk_68_method_9_code 24 = .ok (.invokevirtual 104, 3) := by decide +kernel
theorem dj68_9_27 : decode jdk_68_method_9_code 27 = .ok (.aload_n 0, 1) := by decide +kernel
theorem dj68_9_28 : decode jdk_68_method_9_code 28 = .ok (.getfield 22, 3) := by decide +kernel
theorem dj68_9_31 : decode jdk_68_method_9_code 31 = .ok (.ishl, 1) := by decide +kernel
theorem dj68_9_32 : decode jdk_68_method_9_code 32 = .ok (.invokestatic 108, 3) := by decide +kernel
theorem dj68_9_35 : decode jdk_68_method_9_code 35 = .ok (.putfield 15, 3) := by decide +kernel
theorem dj68_9_38 : decode jdk_68_method_9_code 38 = .ok (.return_, 1) := by decide +kernel
theorem dj68_73_0 : decode jdk_68_method_73_code 0 = .ok (.aload_n 0, 1) := by decide +kernel
theorem dj68_73_1 : decode jdk_68_method_73_code 1 = .ok (.aload_n 2, 1) := by decide +kernel
theorem dj68_73_2 : decode jdk_68_method_73_code 2 = .ok (.invokevirtual 397, 3) := by decide +kernel
theorem dj68_73_5 : decode jdk_68_method_73_code 5 = .ok (.aload_n 2, 1) := by decide +kernel
theorem dj68_73_6 : decode jdk_68_method_73_code 6 = .ok (.aload_n 0, 1) := by decide +kernel
theorem dj68_73_7 : decode jdk_68_method_73_code 7 = .ok (.getfield 15, 3) := by decide +kernel
theorem dj68_73_10 : decode jdk_68_method_73_code 10 = .ok (.iload_n 1, 1) := by decide +kernel
theorem dj68_73_11 : decode jdk_68_method_73_code 11 = .ok (.aload_n 0, 1) := by decide +kernel
theorem dj68_73_12 : decode jdk_68_method_73_code 12 = .ok (.getfield 22, 3) := by decide +kernel
theorem dj68_73_15 : decode jdk_68_method_73_code 15 = .ok (.invokevirtual 399, 3) := by decide +kernel
theorem dj68_73_18 : decode jdk_68_method_73_code 18 = .ok (.return_, 1) := by decide +kernel
theorem dj68_71_0 : decode jdk_68_method_71_code 0 = .ok (.getstatic 18, 3) := by decide +kernel
theorem dj68_71_3 : decode jdk_68_method_71_code 3 = .ok (.ifCond .eq 18, 3) := by decide +kernel
theorem dj68_71_6 : decode jdk_68_method_71_code 6 = .ok (.aload_n 0, 1) := by decide +kernel
theorem dj68_71_7 : decode jdk_68_method_71_code 7 = .ok (.getfield 22, 3) := by decide +kernel
theorem dj68_71_10 : decode jdk_68_method_71_code 10 = .ok (.aload_n 1, 1) := by decide +kernel
theorem dj68_71_11 : decode jdk_68_method_71_code 11 = .ok (.invokevirtual 40, 3) := by decide +kernel
theorem dj68_71_14 : decode jdk_68_method_71_code 14 = .ok (.if_icmp .eq 7, 3) := by decide +kernel
theorem dj68_71_17 : decode jdk_68_method_71_code 17 = .ok (.aload_n 0, 1) := by decide +kernel
theorem dj68_71_18 : decode jdk_68_method_71_code 18 = .ok (.invokevirtual 195, 3) := by decide +kernel
theorem dj68_71_21 : decode jdk_68_method_71_code 21 = .ok (.return_, 1) := by decide +kernel
theorem dj42_147_0 : decode jdk_42_method_147_code 0 = .ok (.aload_n 0, 1) := by decide +kernel
theorem dj42_147_1 : decode jdk_42_method_147_code 1 = .ok (.invokevirtual 335, 3) := by decide +kernel
theorem dj42_147_4 : decode jdk_42_method_147_code 4 = .ok (.iload_n 3, 1) := by decide +kernel
theorem dj42_147_5 : decode jdk_42_method_147_code 5 = .ok (.if_icmp .ne 23, 3) := by decide +kernel
theorem dj42_147_8 : decode jdk_42_method_147_code 8 = .ok (.aload_n 0, 1) := by decide +kernel
theorem dj42_147_9 : decode jdk_42_method_147_code 9 = .ok (.getfield 9, 3) := by decide +kernel
theorem dj42_147_12 : decode jdk_42_method_147_code 12 = .ok (.iconst 0, 1) := by decide +kernel
theorem dj42_147_13 : decode jdk_42_method_147_code 13 = .ok (.aload_n 1, 1) := by decide +kernel
theorem dj42_147_14 : decode jdk_42_method_147_code 14 = .ok (.iload_n 2, 1) := by decide +kernel
theorem dj42_147_15 : decode jdk_42_method_147_code 15 = .ok (.iload_n 3, 1) := by decide +kernel
theorem dj42_147_16 : decode jdk_42_method_147_code 16 = .ok (.ishl, 1) := by decide +kernel
theorem dj42_147_17 : decode jdk_42_method_147_code 17 = .ok (.aload_n 0, 1) := by decide +kernel
theorem dj42_147_18 : decode jdk_42_method_147_code 18 = .ok (.getfield 9, 3) := by decide +kernel
theorem dj42_147_21 : decode jdk_42_method_147_code 21 = .ok (.arraylength, 1) := by decide +kernel
theorem dj42_147_22 : decode jdk_42_method_147_code 22 = .ok (.invokestatic 212, 3) := by decide +kernel
theorem dj42_147_25 : decode jdk_42_method_147_code 25 = .ok (.goto 18, 3) := by decide +kernel
theorem dj42_147_28 : decode jdk_42_method_147_code 28 = .ok (.aload_n 0, 1) := by decide +kernel
theorem dj42_147_29 : decode jdk_42_method_147_code 29 = .ok (.getfield 9, 3) := by decide +kernel
theorem dj42_147_32 : decode jdk_42_method_147_code 32 = .ok (.iconst 0, 1) := by decide +kernel
theorem dj42_147_33 : decode jdk_42_method_147_code 33 = .ok (.aload_n 1, 1) := by decide +kernel
theorem dj42_147_34 : decode jdk_42_method_147_code 34 = .ok (.iload_n 2, 1) := by decide +kernel
theorem dj42_147_35 : decode jdk_42_method_147_code 35 = .ok (.aload_n 0, 1) := by decide +kernel
theorem dj42_147_36 : decode jdk_42_method_147_code 36 = .ok (.getfield 9, 3) := by decide +kernel
theorem dj42_147_39 : decode jdk_42_method_147_code 39 = .ok (.arraylength, 1) := by decide +kernel
theorem dj42_147_40 : decode jdk_42_method_147_code 40 = .ok (.invokestatic 106, 3) := by decide +kernel
theorem dj42_147_43 : decode jdk_42_method_147_code 43 = .ok (.return_, 1) := by decide +kernel
theorem dj68_10_0 : decode jdk_68_method_10_code 0 = .ok (.aload_n 0, 1) := by decide +kernel
theorem dj68_10_1 : decode jdk_68_method_10_code 1 = .ok (.getfield 15, 3) := by decide +kernel
theorem dj68_10_4 : decode jdk_68_method_10_code 4 = .ok (.arraylength, 1) := by decide +kernel
theorem dj68_10_5 : decode jdk_68_method_10_code 5 = .ok (.istore_n 2, 1) := by decide +kernel
theorem dj68_10_6 : decode jdk_68_method_10_code 6 = .ok (.iload_n 1, 1) := by decide +kernel
theorem dj68_10_7 : decode jdk_68_method_10_code 7 = .ok (.aload_n 0, 1) := by decide +kernel
theorem dj68_10_8 : decode jdk_68_method_10_code 8 = .ok (.getfield 22, 3) := by decide +kernel
theorem dj68_10_11 : decode jdk_68_method_10_code 11 = .ok (.ishl, 1) := by decide +kernel
theorem dj68_10_12 : decode jdk_68_method_10_code 12 = .ok (.istore_n 3, 1) := by decide +kernel
theorem dj68_10_13 : decode jdk_68_method_10_code 13 = .ok (.iload_n 3, 1) := by decide +kernel
theorem dj68_10_14 : decode jdk_68_method_10_code 14 = .ok (.iload_n 2, 1) := by decide +kernel
theorem dj68_10_15 : decode jdk_68_method_10_code 15 = .ok (.isub, 1) := by decide +kernel
theorem dj68_10_16 : decode jdk_68_method_10_code 16 = .ok (.istore 4, 2) := by decide +kernel
theorem dj68_10_18 : decode jdk_68_method_10_code 18 = .ok (.iload_n 2, 1) := by decide +kernel
theorem dj68_10_19 : decode jdk_68_method_10_code 19 = .ok (.iload 4, 2) := by decide +kernel
theorem dj68_10_21 : decode jdk_68_method_10_code 21 = .ok (.iload_n 2, 1) := by decide +kernel
theorem dj68_10_22 : decode jdk_68_method_10_code 22 = .ok (.iconst 2, 1) := by decide +kernel
theorem dj68_10_23 : decode jdk_68_method_10_code 23 = .ok (.aload_n 0, 1) := by decide +kernel
theorem dj68_10_24 : decode jdk_68_method_10_code 24 = .ok (.getfield 22, 3) := by decide +kernel
theorem dj68_10_27 : decode jdk_68_method_10_code 27 = .ok (.ishl, 1) := by decide +kernel
theorem dj68_10_28 : decode jdk_68_method_10_code 28 = .ok (.iadd, 1) := by decide +kernel
theorem dj68_10_29 : decode jdk_68_method_10_code 29 = .ok (.invokestatic 114, 3) := by decide +kernel
theorem dj68_10_32 : decode jdk_68_method_10_code 32 = .ok (.istore 5, 2) := by decide +kernel
theorem dj68_10_34 : decode jdk_68_method_10_code 34 = .ok (.iload 5, 2) := by decide +kernel
theorem dj68_10_36 : decode jdk_68_method_10_code 36 = .ok (.ldc 39, 2) := by decide +kernel
theorem dj68_10_38 : decode jdk_68_method_10_code 38 = .ok (.if_icmp .ne 13, 3) := by decide +kernel
theorem dj68_10_41 : decode jdk_68_method_10_code 41 = .ok (.new 120, 3) := by decide +kernel
theorem dj68_10_44 : decode jdk_68_method_10_code 44 = .ok (.dup, 1) := by decide +kernel
theorem dj68_10_45 : decode jdk_68_method_10_code 45 = .ok (.ldc 122, 2) := by decide +kernel
theorem dj68_10_47 : decode jdk_68_method_10_code 47 = .ok (.invokespecial 124, 3) := by decide +kernel
theorem dj68_10_50 : decode jdk_68_method_10_code 50 = .ok (.athrow, 1) := by decide +kernel
theorem dj68_10_51 : decode jdk_68_method_10_code 51 = .ok (.iload 5, 2) := by decide +kernel
theorem dj68_10_53 : decode jdk_68_method_10_code 53 = .ok (.aload_n 0, 1) := by decide +kernel
theorem dj68_10_54 : decode jdk_68_method_10_code 54 = .ok (.getfield 22, 3) := by decide +kernel
theorem dj68_10_57 : decode jdk_68_method_10_code 57 = .ok (.ishr, 1) := by decide +kernel
theorem dj68_10_58 : decode jdk_68_method_10_code 58 = .ok (.ireturn, 1) := by decide +kernel
theorem dj48_27_0 : decode jdk_48_method_27_code 0 = .ok (.iload_n 0, 1) := by decide +kernel
theorem dj48_27_1 : decode jdk_48_method_27_code 1 = .ok (.iload_n 1, 1) := by decide +kernel
theorem dj48_27_2 : decode jdk_48_method_27_code 2 = .ok (.iload_n 2, 1) := by decide +kernel
theorem dj48_27_3 : decode jdk_48_method_27_code 3 = .ok (.invokestatic 194, 3) := by decide +kernel
theorem dj48_27_6 : decode jdk_48_method_27_code 6 = .ok (.iadd, 1) := by decide +kernel
theorem dj48_27_7 : decode jdk_48_method_27_code 7 = .ok (.istore_n 3, 1) := by decide +kernel
theorem dj48_27_8 : decode jdk_48_method_27_code 8 = .ok (.iconst 0, 1) := by decide +kernel
theorem dj48_27_9 : decode jdk_48_method_27_code 9 = .ok (.iload_n 3, 1) := by decide +kernel
theorem dj48_27_10 : decode jdk_48_method_27_code 10 = .ok (.if_icmp .ge 11, 3) := by decide +kernel
theorem dj48_27_13 : decode jdk_48_method_27_code 13 = .ok (.iload_n 3, 1) := by decide +kernel
theorem dj48_27_14 : decode jdk_48_method_27_code 14 = .ok (.ldc 200, 2) := by decide +kernel
theorem dj48_27_16 : decode jdk_48_method_27_code 16 = .ok (.if_icmp .gt 5, 3) := by decide +kernel
theorem dj48_27_19 : decode jdk_48_method_27_code 19 = .ok (.iload_n 3, 1) := by decide +kernel
theorem dj48_27_20 : decode jdk_48_method_27_code 20 = .ok (.ireturn, 1) := by decide +kernel
theorem dj48_27_21 : decode jdk_48_method_27_code 21 = .ok (.iload_n 0, 1) := by decide +kernel
theorem dj48_27_22 : decode jdk_48_method_27_code 22 = .ok (.iload_n 1, 1) := by decide +kernel
theorem dj48_27_23 : decode jdk_48_method_27_code 23 = .ok (.invokestatic 201, 3) := by decide +kernel
theorem dj48_27_26 : decode jdk_48_method_27_code 26 = .ok (.ireturn, 1) := by decide +kernel
theorem dj29_65_0 : decode jdk_29_method_65_code 0 = .ok (.iload_n 0, 1) := by decide +kernel
theorem dj29_65_1 : decode jdk_29_method_65_code 1 = .ok (.iload_n 1, 1) := by decide +kernel
theorem dj29_65_2 : decode jdk_29_method_65_code 2 = .ok (.if_icmp .lt 7, 3) := by decide +kernel
theorem dj29_65_5 : decode jdk_29_method_65_code 5 = .ok (.iload_n 0, 1) := by decide +kernel
theorem dj29_65_6 : decode jdk_29_method_65_code 6 = .ok (.goto 4, 3) := by decide +kernel
theorem dj29_65_9 : decode jdk_29_method_65_code 9 = .ok (.iload_n 1, 1) := by decide +kernel
theorem dj29_65_10 : decode jdk_29_method_65_code 10 = .ok (.ireturn, 1) := by decide +kernel
theorem dj65_121_0 : decode jdk_65_method_121_code 0 = .ok (.iload_n 1, 1) := by decide +kernel
theorem dj65_121_1 : decode jdk_65_method_121_code 1 = .ok (.aload_n 0, 1) := by decide +kernel
theorem dj65_121_2 : decode jdk_65_method_121_code 2 = .ok (.arraylength, 1) := by decide +kernel
theorem dj65_121_3 : decode jdk_65_method_121_code 3 = .ok (.if_icmp .ne 11, 3) := by decide +kernel
theorem dj65_121_6 : decode jdk_65_method_121_code 6 = .ok (.aload_n 0, 1) := by decide +kernel
theorem dj65_121_7 : decode jdk_65_method_121_code 7 = .ok (.invokevirtual 310, 3) := by decide +kernel
theorem dj65_121_10 : decode jdk_65_method_121_code 10 = .ok (.checkcast 311, 3) := by decide +kernel
theorem dj65_121_13 : decode jdk_65_method_121_code 13 = .ok (.areturn, 1) := by decide +kernel
theorem dj65_121_14 : decode jdk_65_method_121_code 14 = .ok (.iload_n 1, 1) := by decide +kernel
theorem dj65_121_15 : decode jdk_65_method_121_code 15 = .ok (.newarray .byte, 2) := by decide +kernel
theorem dj65_121_17 : decode jdk_65_method_121_code 17 = .ok (.astore_n 2, 1) := by decide +kernel
theorem dj65_121_18 : decode jdk_65_method_121_code 18 = .ok (.aload_n 0, 1) := by decide +kernel
theorem dj65_121_19 : decode jdk_65_method_121_code 19 = .ok (.iconst 0, 1) := by decide +kernel
theorem dj65_121_20 : decode jdk_65_method_121_code 20 = .ok (.aload_n 2, 1) := by decide +kernel
theorem dj65_121_21 : decode jdk_65_method_121_code 21 = .ok (.iconst 0, 1) := by decide +kernel
theorem dj65_121_22 : decode jdk_65_method_121_code 22 = .ok (.aload_n 0, 1) := by decide +kernel
theorem dj65_121_23 : decode jdk_65_method_121_code 23 = .ok (.arraylength, 1) := by decide +kernel
theorem dj65_121_24 : decode jdk_65_method_121_code 24 = .ok (.iload_n 1, 1) := by decide +kernel
theorem dj65_121_25 : decode jdk_65_method_121_code 25 = .ok (.invokestatic 304, 3) := by decide +kernel
theorem dj65_121_28 : decode jdk_65_method_121_code 28 = .ok (.invokestatic 150, 3) := by decide +kernel
theorem dj65_121_31 : decode jdk_65_method_121_code 31 = .ok (.aload_n 2, 1) := by decide +kernel
theorem dj65_121_32 : decode jdk_65_method_121_code 32 = .ok (.areturn, 1) := by decide +kernel
theorem dj29_69_0 : decode jdk_29_method_69_code 0 = .ok (.iload_n 0, 1) := by decide +kernel
theorem dj29_69_1 : decode jdk_29_method_69_code 1 = .ok (.iload_n 1, 1) := by decide +kernel
theorem dj29_69_2 : decode jdk_29_method_69_code 2 = .ok (.if_icmp .gt 7, 3) := by decide +kernel
theorem dj29_69_5 : decode jdk_29_method_69_code 5 = .ok (.iload_n 0, 1) := by decide +kernel
theorem dj29_69_6 : decode jdk_29_method_69_code 6 = .ok (.goto 4, 3) := by decide +kernel
theorem dj29_69_9 : decode jdk_29_method_69_code 9 = .ok (.iload_n 1, 1) := by decide +kernel
theorem dj29_69_10 : decode jdk_29_method_69_code 10 = .ok (.ireturn, 1) := by decide +kernel
theorem dj67_42_0 : decode jdk_67_method_42_code 0 = .ok (.new 18, 3) := by decide +kernel
theorem dj67_42_3 : decode jdk_67_method_42_code 3 = .ok (.dup, 1) := by decide +kernel
theorem dj67_42_4 : decode jdk_67_method_42_code 4 = .ok (.aload_n 0, 1) := by decide +kernel
theorem dj67_42_5 : decode jdk_67_method_42_code 5 = .ok (.invokespecial 137, 3) := by decide +kernel
theorem dj67_42_8 : decode jdk_67_method_42_code 8 = .ok (.areturn, 1) := by decide +kernel
theorem dj42_53_0 : decode jdk_42_method_53_code 0 = .ok (.aload_n 0, 1) := by decide +kernel
theorem dj42_53_1 : decode jdk_42_method_53_code 1 = .ok (.aload_n 1, 1) := by decide +kernel
theorem dj42_53_2 : decode jdk_42_method_53_code 2 = .ok (.aconst_null, 1) := by decide +kernel
theorem dj42_53_3 : decode jdk_42_method_53_code 3 = .ok (.invokespecial 489, 3) := by decide +kernel
theorem dj42_53_6 : decode jdk_42_method_53_code 6 = .ok (.return_, 1) := by decide +kernel
theorem dj42_150_0 : decode jdk_42_method_150_code 0 = .ok (.aload_n 0, 1) := by decide +kernel
theorem dj42_150_1 : decode jdk_42_method_150_code 1 = .ok (.invokespecial 1, 3) := by decide +kernel
theorem dj42_150_4 : decode jdk_42_method_150_code 4 = .ok (.aload_n 1, 1) := by decide +kernel
theorem dj42_150_5 : decode jdk_42_method_150_code 5 = .ok (.invokevirtual 552, 3) := by decide +kernel
theorem dj42_150_8 : decode jdk_42_method_150_code 8 = .ok (.astore_n 3, 1) := by decide +kernel
theorem dj42_150_9 : decode jdk_42_method_150_code 9 = .ok (.aload_n 1, 1) := by decide +kernel
theorem dj42_150_10 : decode jdk_42_method_150_code 10 = .ok (.invokevirtual 549, 3) := by decide +kernel
theorem dj42_150_13 : decode jdk_42_method_150_code 13 = .ok (.istore 4, 2) := by decide +kernel
theorem dj42_150_15 : decode jdk_42_method_150_code 15 = .ok (.aload_n 1, 1) := by decide +kernel
theorem dj42_150_16 : decode jdk_42_method_150_code 16 = .ok (.invokevirtual 1047, 3) := by decide +kernel
theorem dj42_150_19 : decode jdk_42_method_150_code 19 = .ok (.ifCond .eq 22, 3) := by decide +kernel
theorem dj42_150_22 : decode jdk_42_method_150_code 22 = .ok (.aload_n 0, 1) := by decide +kernel
theorem dj42_150_23 : decode jdk_42_method_150_code 23 = .ok (.iconst 0, 1) := by decide +kernel
theorem dj42_150_24 : decode jdk_42_method_150_code 24 = .ok (.putfield 15, 3) := by decide +kernel
theorem dj42_150_27 : decode jdk_42_method_150_code 27 = .ok (.aload_n 0, 1) := by decide +kernel
theorem dj42_150_28 : decode jdk_42_method_150_code 28 = .ok (.aload_n 3, 1) := by decide +kernel
theorem dj42_150_29 : decode jdk_42_method_150_code 29 = .ok (.iconst 0, 1) := by decide +kernel
theorem dj42_150_30 : decode jdk_42_method_150_code 30 = .ok (.iload 4, 2) := by decide +kernel
theorem dj42_150_32 : decode jdk_42_method_150_code 32 = .ok (.invokestatic 54, 3) := by decide +kernel
theorem dj42_150_35 : decode jdk_42_method_150_code 35 = .ok (.putfield 9, 3) := by decide +kernel
theorem dj42_150_38 : decode jdk_42_method_150_code 38 = .ok (.goto 59, 3) := by decide +kernel
theorem dj42_150_41 : decode jdk_42_method_150_code 41 = .ok (.getstatic 38, 3) := by decide +kernel
theorem dj42_150_44 : decode jdk_42_method_150_code 44 = .ok (.ifCond .eq 35, 3) := by decide +kernel
theorem dj42_150_47 : decode jdk_42_method_150_code 47 = .ok (.aload_n 1, 1) := by decide +kernel
theorem dj42_150_48 : decode jdk_42_method_150_code 48 = .ok (.getfield 1048, 3) := by decide +kernel
theorem dj42_150_51 : decode jdk_42_method_150_code 51 = .ok (.ifCond .eq 28, 3) := by decide +kernel
theorem dj42_150_54 : decode jdk_42_method_150_code 54 = .ok (.aload_n 0, 1) := by decide +kernel
theorem dj42_150_55 : decode jdk_42_method_150_code 55 = .ok (.aload_n 3, 1) := by decide +kernel
theorem dj42_150_56 : decode jdk_42_method_150_code 56 = .ok (.iconst 0, 1) := by decide +kernel
theorem dj42_150_57 : decode jdk_42_method_150_code 57 = .ok (.iload 4, 2) := by decide +kernel
theorem dj42_150_59 : decode jdk_42_method_150_code 59 = .ok (.invokestatic 1051, 3) := by decide +kernel
theorem dj42_150_62 : decode jdk_42_method_150_code 62 = .ok (.putfield 9, 3) := by decide +kernel
theorem dj42_150_65 : decode jdk_42_method_150_code 65 = .ok (.aload_n 0, 1) := by decide +kernel
theorem dj42_150_66 : decode jdk_42_method_150_code 66 = .ok (.aload_n 0, 1) := by decide +kernel
theorem dj42_150_67 : decode jdk_42_method_150_code 67 = .ok (.getfield 9, 3) := by decide +kernel
theorem dj42_150_70 : decode jdk_42_method_150_code 70 = .ok (.iload 4, 2) := by decide +kernel
theorem dj42_150_72 : decode jdk_42_method_150_code 72 = .ok (.invokestatic 47, 3) := by decide +kernel
theorem dj42_150_75 : decode jdk_42_method_150_code 75 = .ok (.putfield 15, 3) := by decide +kernel
theorem dj42_150_78 : decode jdk_42_method_150_code 78 = .ok (.return_, 1) := by decide +kernel
theorem dj42_150_79 : decode jdk_42_method_150_code 79 = .ok (.aload_n 0, 1) := by decide +kernel
theorem dj42_150_80 : decode jdk_42_method_150_code 80 = .ok (.iconst 1, 1) := by decide +kernel
theorem dj42_150_81 : decode jdk_42_method_150_code 81 = .ok (.putfield 15, 3) := by decide +kernel
theorem dj42_150_84 : decode jdk_42_method_150_code 84 = .ok (.aload_n 0, 1) := by decide +kernel
theorem dj42_150_85 : decode jdk_42_method_150_code 85 = .ok (.aload_n 3, 1) := by decide +kernel
theorem dj42_150_86 : decode jdk_42_method_150_code 86 = .ok (.iconst 0, 1) := by decide +kernel
theorem dj42_150_87 : decode jdk_42_method_150_code 87 = .ok (.iload 4, 2) := by decide +kernel
theorem dj42_150_89 : decode jdk_42_method_150_code 89 = .ok (.iconst 1, 1) := by decide +kernel
theorem dj42_150_90 : decode jdk_42_method_150_code 90 = .ok (.ishl, 1) := by decide +kernel
theorem dj42_150_91 : decode jdk_42_method_150_code 91 = .ok (.invokestatic 54, 3) := by decide +kernel
theorem dj42_150_94 : decode jdk_42_method_150_code 94 = .ok (.putfield 9, 3) := by decide +kernel
theorem dj42_150_97 : decode jdk_42_method_150_code 97 = .ok (.return_, 1) := by decide +kernel
theorem dj68_64_0 : decode jdk_68_method_64_code 0 = .ok (.aload_n 0, 1) := by decide +kernel
theorem dj68_64_1 : decode jdk_68_method_64_code 1 = .ok (.getfield 15, 3) := by decide +kernel
theorem dj68_64_4 : decode jdk_68_method_64_code 4 = .ok (.areturn, 1) := by decide +kernel
theorem dj67_93_0 : decode jdk_67_method_93_code 0 = .ok (.aload_n 0, 1) := by decide +kernel
theorem dj67_93_1 : decode jdk_67_method_93_code 1 = .ok (.invokespecial 343, 3) := by decide +kernel
theorem dj67_93_4 : decode jdk_67_method_93_code 4 = .ok (.ireturn, 1) := by decide +kernel
theorem dj68_6_0 : decode jdk_68_method_6_code 0 = .ok (.aload_n 0, 1) := by decide +kernel
theorem dj68_6_1 : decode jdk_68_method_6_code 1 = .ok (.getfield 79, 3) := by decide +kernel
theorem dj68_6_4 : decode jdk_68_method_6_code 4 = .ok (.ireturn, 1) := by decide +kernel
theorem dj68_68_0 : decode jdk_68_method_68_code 0 = .ok (.getstatic 18, 3) := by decide +kernel
theorem dj68_68_3 : decode jdk_68_method_68_code 3 = .ok (.ifCond .eq 14, 3) := by decide +kernel
theorem dj68_68_6 : decode jdk_68_method_68_code 6 = .ok (.aload_n 0, 1) := by decide +kernel
theorem dj68_68_7 : decode jdk_68_method_68_code 7 = .ok (.getfield 22, 3) := by decide +kernel
theorem dj68_68_10 : decode jdk_68_method_68_code 10 = .ok (.ifCond .ne 7, 3) := by decide +kernel
theorem dj68_68_13 : decode jdk_68_method_68_code 13 = .ok (.iconst 1, 1) := by decide +kernel
theorem dj68_68_14 : decode jdk_68_method_68_code 14 = .ok (.goto 4, 3) := by decide +kernel
theorem dj68_68_17 : decode jdk_68_method_68_code 17 = .ok (.iconst 0, 1) := by decide +kernel
theorem dj68_68_18 : decode jdk_68_method_68_code 18 = .ok (.ireturn, 1) := by decide +kernel
theorem dj65_132_0 : decode jdk_65_method_132_code 0 = .ok (.iload_n 1, 1) := by decide +kernel
theorem dj65_132_1 : decode jdk_65_method_132_code 1 = .ok (.ifCond .ne 9, 3) := by decide +kernel
theorem dj65_132_4 : decode jdk_65_method_132_code 4 = .ok (.iload_n 2, 1) := by decide +kernel
theorem dj65_132_5 : decode jdk_65_method_132_code 5 = .ok (.aload_n 0, 1) := by decide +kernel
theorem dj65_132_6 : decode jdk_65_method_132_code 6 = .ok (.arraylength, 1) := by decide +kernel
theorem dj65_132_7 : decode jdk_65_method_132_code 7 = .ok (.if_icmp .eq 10, 3) := by decide +kernel
theorem dj65_132_10 : decode jdk_65_method_132_code 10 = .ok (.aload_n 0, 1) := by decide +kernel
theorem dj65_132_11 : decode jdk_65_method_132_code 11 = .ok (.iload_n 1, 1) := by decide +kernel
theorem dj65_132_12 : decode jdk_65_method_132_code 12 = .ok (.iload_n 2, 1) := by decide +kernel
theorem dj65_132_13 : decode jdk_65_method_132_code 13 = .ok (.invokestatic 339, 3) := by decide +kernel
theorem dj65_132_16 : decode jdk_65_method_132_code 16 = .ok (.areturn, 1) := by decide +kernel
theorem dj65_132_17 : decode jdk_65_method_132_code 17 = .ok (.aload_n 0, 1) := by decide +kernel
theorem dj65_132_18 : decode jdk_65_method_132_code 18 = .ok (.invokevirtual 310, 3) := by decide +kernel
theorem dj65_132_21 : decode jdk_65_method_132_code 21 = .ok (.checkcast 311, 3) := by decide +kernel
theorem dj65_132_24 : decode jdk_65_method_132_code 24 = .ok (.areturn, 1) := by decide +kernel
theorem dj60_2_0 : decode jdk_60_method_2_code 0 = .ok (.aload_n 0, 1) := by decide +kernel
theorem dj60_2_1 : decode jdk_60_method_2_code 1 = .ok (.aload_n 1, 1) := by decide +kernel
theorem dj60_2_2 : decode jdk_60_method_2_code 2 = .ok (.invokespecial 7, 3) := by decide +kernel
theorem dj60_2_5 : decode jdk_60_method_2_code 5 = .ok (.return_, 1) := by decide +kernel
theorem dj58_2_0 : decode jdk_58_method_2_code 0 = .ok (.aload_n 0, 1) := by decide +kernel
theorem dj58_2_1 : decode jdk_58_method_2_code 1 = .ok (.aload_n 1, 1) := by decide +kernel
theorem dj58_2_2 : decode jdk_58_method_2_code 2 = .ok (.invokespecial 7, 3) := by decide +kernel
theorem dj58_2_5 : decode jdk_58_method_2_code 5 = .ok (.return_, 1) := by decide +kernel
theorem dj59_2_0 : decode jdk_59_method_2_code 0 = .ok (.aload_n 0, 1) := by decide +kernel
theorem dj59_2_1 : decode jdk_59_method_2_code 1 = .ok (.aload_n 1, 1) := by decide +kernel
theorem dj59_2_2 : decode jdk_59_method_2_code 2 = .ok (.invokespecial 7, 3) := by decide +kernel
theorem dj59_2_5 : decode jdk_59_method_2_code 5 = .ok (.return_, 1) := by decide +kernel
theorem dj78_2_0 : decode jdk_78_method_2_code 0 = .ok (.aload_n 0, 1) := by decide +kernel
theorem dj78_2_1 : decode jdk_78_method_2_code 1 = .ok (.invokespecial 1, 3) := by decide +kernel
theorem dj78_2_4 : decode jdk_78_method_2_code 4 = .ok (.aload_n 0, 1) := by decide +kernel
theorem dj78_2_5 : decode jdk_78_method_2_code 5 = .ok (.aload_n 0, 1) := by decide +kernel
theorem dj78_2_6 : decode jdk_78_method_2_code 6 = .ok (.putfield 7, 3) := by decide +kernel
theorem dj78_2_9 : decode jdk_78_method_2_code 9 = .ok (.aload_n 0, 1) := by decide +kernel
theorem dj78_2_10 : decode jdk_78_method_2_code 10 = .ok (.getstatic 13, 3) := by decide +kernel
theorem dj78_2_13 : decode jdk_78_method_2_code 13 = .ok (.putfield 17, 3) := by decide +kernel
theorem dj78_2_16 : decode jdk_78_method_2_code 16 = .ok (.aload_n 0, 1) := by decide +kernel
theorem dj78_2_17 : decode jdk_78_method_2_code 17 = .ok (.getstatic 20, 3) := by decide +kernel
theorem dj78_2_20 : decode jdk_78_method_2_code 20 = .ok (.putfield 24, 3) := by decide +kernel
theorem dj78_2_23 : decode jdk_78_method_2_code 23 = .ok (.aload_n 0, 1) := by decide +kernel
theorem dj78_2_24 : decode jdk_78_method_2_code 24 = .ok (.invokevirtual 27, 3) := by decide +kernel
theorem dj78_2_27 : decode jdk_78_method_2_code 27 = .ok (.pop, 1) := by decide +kernel
theorem dj78_2_28 : decode jdk_78_method_2_code 28 = .ok (.aload_n 0, 1) := by decide +kernel
theorem dj78_2_29 : decode jdk_78_method_2_code 29 = .ok (.aload_n 1, 1) := by decide +kernel
theorem dj78_2_30 : decode jdk_78_method_2_code 30 = .ok (.putfield 31, 3) := by decide +kernel
theorem dj78_2_33 : decode jdk_78_method_2_code 33 = .ok (.return_, 1) := by decide +kernel
theorem dj78_18_0 : decode jdk_78_method_18_code 0 = .ok (.aload_n 0, 1) := by decide +kernel
theorem dj78_18_1 : decode jdk_78_method_18_code 1 = .ok (.getfield 17, 3) := by decide +kernel
theorem dj78_18_4 : decode jdk_78_method_18_code 4 = .ok (.ifnonnull 10, 3) := by decide +kernel
theorem dj78_18_7 : decode jdk_78_method_18_code 7 = .ok (.aload_n 0, 1) := by decide +kernel
theorem dj78_18_8 : decode jdk_78_method_18_code 8 = .ok (.getfield 198, 3) := by decide +kernel
theorem dj78_18_11 : decode jdk_78_method_18_code 11 = .ok (.ifnull 16, 3) := by decide +kernel
theorem dj78_18_14 : decode jdk_78_method_18_code 14 = .ok (.aload_n 0, 1) := by decide +kernel
theorem dj78_18_15 : decode jdk_78_method_18_code 15 = .ok (.iconst 0, 1) := by decide +kernel
theorem dj78_18_16 : decode jdk_78_method_18_code 16 = .ok (.invokevirtual 202, 3) := by decide +kernel
theorem dj78_18_19 : decode jdk_78_method_18_code 19 = .ok (.pop, 1) := by decide +kernel
theorem dj78_18_20 : decode jdk_78_method_18_code 20 = .ok (.aload_n 0, 1) := by decide +kernel
theorem dj78_18_21 : decode jdk_78_method_18_code 21 = .ok (.getstatic 13, 3) := by decide +kernel
theorem dj78_18_24 : decode jdk_78_method_18_code 24 = .ok (.putfield 17, 3) := by decide +kernel
theorem dj78_18_27 : decode jdk_78_method_18_code 27 = .ok (.aload_n 0, 1) := by decide +kernel
theorem dj78_18_28 : decode jdk_78_method_18_code 28 = .ok (.areturn, 1) := by decide +kernel
theorem dj78_1_0 : decode jdk_78_method_1_code 0 = .ok (.aload_n 0, 1) := by decide +kernel
theorem dj78_1_1 : decode jdk_78_method_1_code 1 = .ok (.invokespecial 1, 3) := by decide +kernel
theorem dj78_1_4 : decode jdk_78_method_1_code 4 = .ok (.aload_n 0, 1) := by decide +kernel
theorem dj78_1_5 : decode jdk_78_method_1_code 5 = .ok (.aload_n 0, 1) := by decide +kernel
theorem dj78_1_6 : decode jdk_78_method_1_code 6 = .ok (.putfield 7, 3) := by decide +kernel
theorem dj78_1_9 : decode jdk_78_method_1_code 9 = .ok (.aload_n 0, 1) := by decide +kernel
theorem dj78_1_10 : decode jdk_78_method_1_code 10 = .ok (.getstatic 13, 3) := by decide +kernel
theorem dj78_1_13 : decode jdk_78_method_1_code 13 = .ok (.putfield 17, 3) := by decide +kernel
theorem dj78_1_16 : decode jdk_78_method_1_code 16 = .ok (.aload_n 0, 1) := by decide +kernel
theorem dj78_1_17 : decode jdk_78_method_1_code 17 = .ok (.getstatic 20, 3) := by decide +kernel
theorem dj78_1_20 : decode jdk_78_method_1_code 20 = .ok (.putfield 24, 3) := by decide +kernel
theorem dj78_1_23 : decode jdk_78_method_1_code 23 = .ok (.aload_n 0, 1) := by decide +kernel
theorem dj78_1_24 : decode jdk_78_method_1_code 24 = .ok (.invokevirtual 27, 3) := by decide +kernel
theorem dj78_1_27 : decode jdk_78_method_1_code 27 = .ok (.pop, 1) := by decide +kernel
theorem dj78_1_28 : decode jdk_78_method_1_code 28 = .ok (.return_, 1) := by decide +kernel
theorem dj78_6_0 : decode jdk_78_method_6_code 0 = .ok (.aload_n 0, 1) := by decide +kernel
theorem dj78_6_1 : decode jdk_78_method_6_code 1 = .ok (.getfield 31, 3) := by decide +kernel
theorem dj78_6_4 : decode jdk_78_method_6_code 4 = .ok (.areturn, 1) := by decide +kernel
theorem dj42_66_0 : decode jdk_42_method_66_code 0 = .ok (.aload_n 0, 1) := by decide +kernel
theorem dj42_66_1 : decode jdk_42_method_66_code 1 = .ok (.aload_n 1, 1) := by decide +kernel
theorem dj42_66_2 : decode jdk_42_method_66_code 2 = .ok (.if_acmp .ne 5, 3) := by decide +kernel
theorem dj42_66_5 : decode jdk_42_method_66_code 5 = .ok (.iconst 1, 1) := by decide +kernel
theorem dj42_66_6 : decode jdk_42_method_66_code 6 = .ok (.ireturn, 1) := by decide +kernel
theorem dj42_66_7 : decode jdk_42_method_66_code 7 = .ok (.aload_n 1, 1) := by decide +kernel
theorem dj42_66_8 : decode jdk_42_method_66_code 8 = .ok (.instanceof 10, 3) := by decide +kernel
theorem dj42_66_11 : decode jdk_42_method_66_code 11 = .ok (.ifCond .eq 43, 3) := by decide +kernel
theorem dj42_66_14 : decode jdk_42_method_66_code 14 = .ok (.aload_n 1, 1) := by decide +kernel
theorem dj42_66_15 : decode jdk_42_method_66_code 15 = .ok (.checkcast 10, 3) := by decide +kernel
theorem dj42_66_18 : decode jdk_42_method_66_code 18 = .ok (.astore_n 2, 1) := by decide +kernel
theorem dj42_66_19 : decode jdk_42_method_66_code 19 = .ok (.getstatic 38, 3) := by decide +kernel
theorem dj42_66_22 : decode jdk_42_method_66_code 22 = .ok (.ifCond .eq 14, 3) := by decide +kernel
theorem dj42_66_25 : decode jdk_42_method_66_code 25 = .ok (.aload_n 0, 1) := by decide +kernel
theorem dj42_66_26 : decode jdk_42_method_66_code 26 = .ok (.getfield 15, 3) := by decide +kernel
theorem dj42_66_29 : decode jdk_42_method_66_code 29 = .ok (.aload_n 2, 1) := by decide +kernel
theorem dj42_66_30 : decode jdk_42_method_66_code 30 = .ok (.getfield 15, 3) := by decide +kernel
theorem dj42_66_33 : decode jdk_42_method_66_code 33 = .ok (.if_icmp .ne 21, 3) := by decide +kernel
theorem dj42_66_36 : decode jdk_42_method_66_code 36 = .ok (.aload_n 0, 1) := by decide +kernel
theorem dj42_66_37 : decode jdk_42_method_66_code 37 = .ok (.getfield 9, 3) := by decide +kernel
theorem dj42_66_40 : decode jdk_42_method_66_code 40 = .ok (.aload_n 2, 1) := by decide +kernel
theorem dj42_66_41 : decode jdk_42_method_66_code 41 = .ok (.getfield 9, 3) := by decide +kernel
theorem dj42_66_44 : decode jdk_42_method_66_code 44 = .ok (.invokestatic 541, 3) := by decide +kernel
theorem dj42_66_47 : decode jdk_42_method_66_code 47 = .ok (.ifCond .eq 7, 3) := by decide +kernel
theorem dj42_66_50 : decode jdk_42_method_66_code 50 = .ok (.iconst 1, 1) := by decide +kernel
theorem dj42_66_51 : decode jdk_42_method_66_code 51 = .ok (.goto 4, 3) := by decide +kernel
theorem dj42_66_54 : decode jdk_42_method_66_code 54 = .ok (.iconst 0, 1) := by decide +kernel
theorem dj42_66_55 : decode jdk_42_method_66_code 55 = .ok (.ireturn, 1) := by decide +kernel
theorem dj43_13_0 : decode jdk_43_method_13_code 0 = .ok (.aload_n 0, 1) := by decide +kernel
theorem dj43_13_1 : decode jdk_43_method_13_code 1 = .ok (.arraylength, 1) := by decide +kernel
theorem dj43_13_2 : decode jdk_43_method_13_code 2 = .ok (.aload_n 1, 1) := by decide +kernel
theorem dj43_13_3 : decode jdk_43_method_13_code 3 = .ok (.arraylength, 1) := by decide +kernel
theorem dj43_13_4 : decode jdk_43_method_13_code 4 = .ok (.if_icmp .ne 30, 3) := by decide +kernel
theorem dj43_13_7 : decode jdk_43_method_13_code 7 = .ok (.iconst 0, 1) := by decide +kernel
theorem dj43_13_8 : decode jdk_43_method_13_code 8 = .ok (.istore_n 2, 1) := by decide +kernel
theorem dj43_13_9 : decode jdk_43_method_13_code 9 = .ok (.iload_n 2, 1) := by decide +kernel
theorem dj43_13_10 : decode jdk_43_method_13_code 10 = .ok (.aload_n 0, 1) := by decide +kernel
theorem dj43_13_11 : decode jdk_43_method_13_code 11 = .ok (.arraylength, 1) := by decide +kernel
theorem dj43_13_12 : decode jdk_43_method_13_code 12 = .ok (.if_icmp .ge 20, 3) := by decide +kernel
theorem dj43_13_15 : decode jdk_43_method_13_code 15 = .ok (.aload_n 0, 1) := by decide +kernel
theorem dj43_13_16 : decode jdk_43_method_13_code 16 = .ok (.iload_n 2, 1) := by decide +kernel
theorem dj43_13_17 : decode jdk_43_method_13_code 17 = .ok (.baload, 1) := by decide +kernel
theorem dj43_13_18 : decode jdk_43_method_13_code 18 = .ok (.aload_n 1, 1) := by decide +kernel
theorem dj43_13_19 : decode jdk_43_method_13_code 19 = .ok (.iload_n 2, 1) := by decide +kernel
theorem dj43_13_20 : decode jdk_43_method_13_code 20 = .ok (.baload, 1) := by decide +kernel
theorem dj43_13_21 : decode jdk_43_method_13_code 21 = .ok (.if_icmp .eq 5, 3) := by decide +kernel
theorem dj43_13_24 : decode jdk_43_method_13_code 24 = .ok (.iconst 0, 1) := by decide +kernel
theorem dj43_13_25 : decode jdk_43_method_13_code 25 = .ok (.ireturn, 1) := by decide +kernel
theorem dj43_13_26 : decode jdk_43_method_13_code 26 = .ok (.iinc 2 1, 3) := by decide +kernel
theorem dj43_13_29 : decode jdk_43_method_13_code 29 = .ok (.goto (-20), 3) := by decide +kernel
theorem dj43_13_32 : decode jdk_43_method_13_code 32 = .ok (.iconst 1, 1) := by decide +kernel
theorem dj43_13_33 : decode jdk_43_method_13_code 33 = .ok (.ireturn, 1) := by decide +kernel
theorem dj43_13_34 : decode jdk_43_method_13_code 34 = .ok (.iconst 0, 1) := by decide +kernel
theorem dj43_13_35 : decode jdk_43_method_13_code 35 = .ok (.ireturn, 1) := by decide +kernel
theorem dj52_16_0 : decode jdk_52_method_16_code 0 = .ok (.iload_n 2, 1) := by decide +kernel
theorem dj52_16_1 : decode jdk_52_method_16_code 1 = .ok (.newarray .byte, 2) := by decide +kernel
theorem dj52_16_3 : decode jdk_52_method_16_code 3 = .ok (.astore_n 3, 1) := by decide +kernel
theorem dj52_16_4 : decode jdk_52_method_16_code 4 = .ok (.aload_n 0, 1) := by decide +kernel
theorem dj52_16_5 : decode jdk_52_method_16_code 5 = .ok (.iload_n 1, 1) := by decide +kernel
theorem dj52_16_6 : decode jdk_52_method_16_code 6 = .ok (.aload_n 3, 1) := by decide +kernel
theorem dj52_16_7 : decode jdk_52_method_16_code 7 = .ok (.iconst 0, 1) := by decide +kernel
theorem dj52_16_8 : decode jdk_52_method_16_code 8 = .ok (.iload_n 2, 1) := by decide +kernel
theorem dj52_16_9 : decode jdk_52_method_16_code 9 = .ok (.invokestatic 115, 3) := by decide +kernel
theorem dj52_16_12 : decode jdk_52_method_16_code 12 = .ok (.istore 4, 2) := by decide +kernel
theorem dj52_16_14 : decode jdk_52_method_16_code 14 = .ok (.iload 4, 2) := by decide +kernel
theorem dj52_16_16 : decode jdk_52_method_16_code 16 = .ok (.iload_n 2, 1) := by decide +kernel
theorem dj52_16_17 : decode jdk_52_method_16_code 17 = .ok (.if_icmp .eq 40, 3) := by decide +kernel
theorem dj52_16_20 : decode jdk_52_method_16_code 20 = .ok (.aload_n 0, 1) := by decide +kernel
theorem dj52_16_21 : decode jdk_52_method_16_code 21 = .ok (.iload_n 1, 1) := by decide +kernel
theorem dj52_16_22 : decode jdk_52_method_16_code 22 = .ok (.iload_n 2, 1) := by decide +kernel
theorem dj52_16_23 : decode jdk_52_method_16_code 23 = .ok (.invokestatic 119, 3) := by decide +kernel
theorem dj52_16_26 : decode jdk_52_method_16_code 26 = .ok (.astore 5, 2) := by decide +kernel
theorem dj52_16_28 : decode jdk_52_method_16_code 28 = .ok (.aload 5, 2) := by decide +kernel
theorem dj52_16_30 : decode jdk_52_method_16_code 30 = .ok (.iload 4, 2) := by decide +kernel
theorem dj52_16_32 : decode jdk_52_method_16_code 32 = .ok (.invokestatic 71, 3) := by decide +kernel
theorem dj52_16_35 : decode jdk_52_method_16_code 35 = .ok (.sipush 255, 3) := by decide +kernel
theorem dj52_16_38 : decode jdk_52_method_16_code 38 = .ok (.if_icmp .gt 16, 3) := by decide +kernel
theorem dj52_16_41 : decode jdk_52_method_16_code 41 = .ok (.aload 5, 2) := by decide +kernel
theorem dj52_16_43 : decode jdk_52_method_16_code 43 = .ok (.iconst 0, 1) := by decide +kernel
theorem dj52_16_44 : decode jdk_52_method_16_code 44 = .ok (.aload_n 3, 1) := by decide +kernel
theorem dj52_16_45 : decode jdk_52_method_16_code 45 = .ok (.iconst 0, 1) := by decide +kernel
theorem dj52_16_46 : decode jdk_52_method_16_code 46 = .ok (.iload_n 2, 1) := by decide +kernel
theorem dj52_16_47 : decode jdk_52_method_16_code 47 = .ok (.invokestatic 123, 3) := by decide +kernel
theorem dj52_16_50 : decode jdk_52_method_16_code 50 = .ok (.iload_n 2, 1) := by decide +kernel
theorem dj52_16_51 : decode jdk_52_method_16_code 51 = .ok (.if_icmp .eq 6, 3) := by decide +kernel
theorem dj52_16_54 : decode jdk_52_method_16_code 54 = .ok (.aload 5, 2) := by decide +kernel
theorem dj52_16_56 : decode jdk_52_method_16_code 56 = .ok (.areturn, 1) := by decide +kernel
theorem dj52_16_57 : decode jdk_52_method_16_code 57 = .ok (.aload_n 3, 1) := by decide +kernel
theorem dj52_16_58 : decode jdk_52_method_16_code 58 = .ok (.areturn, 1) := by decide +kernel
theorem dj52_21_0 : decode jdk_52_method_21_code 0 = .ok (.iconst 0, 1) := by decide +kernel
theorem dj52_21_1 : decode jdk_52_method_21_code 1 = .ok (.istore 5, 2) := by decide +kernel
theorem dj52_21_3 : decode jdk_52_method_21_code 3 = .ok (.iload 5, 2) := by decide +kernel
theorem dj52_21_5 : decode jdk_52_method_21_code 5 = .ok (.iload 4, 2) := by decide +kernel
theorem dj52_21_7 : decode jdk_52_method_21_code 7 = .ok (.if_icmp .ge 37, 3) := by decide +kernel
theorem dj52_21_10 : decode jdk_52_method_21_code 10 = .ok (.aload_n 0, 1) := by decide +kernel
theorem dj52_21_11 : decode jdk_52_method_21_code 11 = .ok (.iload_n 1, 1) := by decide +kernel
theorem dj52_21_12 : decode jdk_52_method_21_code 12 = .ok (.caload, 1) := by decide +kernel
theorem dj52_21_13 : decode jdk_52_method_21_code 13 = .ok (.istore 6, 2) := by decide +kernel
theorem dj52_21_15 : decode jdk_52_method_21_code 15 = .ok (.iload 6, 2) := by decide +kernel
theorem dj52_21_17 : decode jdk_52_method_21_code 17 = .ok (.sipush 255, 3) := by decide +kernel
theorem dj52_21_20 : decode jdk_52_method_21_code 20 = .ok (.if_icmp .le 6, 3) := by decide +kernel
theorem dj52_21_23 : decode jdk_52_method_21_code 23 = .ok (.iload 5, 2) := by decide +kernel
theorem dj52_21_25 : decode jdk_52_method_21_code 25 = .ok (.ireturn, 1) := by decide +kernel
theorem dj52_21_26 : decode jdk_52_method_21_code 26 = .ok (.aload_n 2, 1) := by decide +kernel
theorem dj52_21_27 : decode jdk_52_method_21_code 27 = .ok (.iload_n 3, 1) := by decide +kernel
theorem dj52_21_28 : decode jdk_52_method_21_code 28 = .ok (.iload 6, 2) := by decide +kernel
theorem dj52_21_30 : decode jdk_52_method_21_code 30 = .ok (.i2b, 1) := by decide +kernel
theorem dj52_21_31 : decode jdk_52_method_21_code 31 = .ok (.bastore, 1) := by decide +kernel
theorem dj52_21_32 : decode jdk_52_method_21_code 32 = .ok (.iinc 1 1, 3) := by decide +kernel
theorem dj52_21_35 : decode jdk_52_method_21_code 35 = .ok (.iinc 3 1, 3) := by decide +kernel
theorem dj52_21_38 : decode jdk_52_method_21_code 38 = .ok (.iinc 5 1, 3) := by decide +kernel
theorem dj52_21_41 : decode jdk_52_method_21_code 41 = .ok (.goto (-38), 3) := by decide +kernel
theorem dj52_21_44 : decode jdk_52_method_21_code 44 = .ok (.iload 4, 2) := by decide +kernel
theorem dj52_21_46 : decode jdk_52_method_21_code 46 = .ok (.ireturn, 1) := by decide +kernel
theorem dj52_15_0 : decode jdk_52_method_15_code 0 = .ok (.iload_n 1, 1) := by decide +kernel
theorem dj52_15_1 : decode jdk_52_method_15_code 1 = .ok (.aload_n 0, 1) := by decide +kernel
theorem dj52_15_2 : decode jdk_52_method_15_code 2 = .ok (.arraylength, 1) := by decide +kernel
theorem dj52_15_3 : decode jdk_52_method_15_code 3 = .ok (.isub, 1) := by decide +kernel
theorem dj52_15_4 : decode jdk_52_method_15_code 4 = .ok (.bipush 31, 2) := by decide +kernel
theorem dj52_15_6 : decode jdk_52_method_15_code 6 = .ok (.iushr, 1) := by decide +kernel
theorem dj52_15_7 : decode jdk_52_method_15_code 7 = .ok (.i2b, 1) := by decide +kernel
theorem dj52_15_8 : decode jdk_52_method_15_code 8 = .ok (.ireturn, 1) := by decide +kernel
theorem dj52_14_0 : decode jdk_52_method_14_code 0 = .ok (.iload_n 2, 1) := by decide +kernel
theorem dj52_14_1 : decode jdk_52_method_14_code 1 = .ok (.invokestatic 107, 3) := by decide +kernel
theorem dj52_14_4 : decode jdk_52_method_14_code 4 = .ok (.astore_n 3, 1) := by decide +kernel
theorem dj52_14_5 : decode jdk_52_method_14_code 5 = .ok (.iconst 0, 1) := by decide +kernel
theorem dj52_14_6 : decode jdk_52_method_14_code 6 = .ok (.istore 4, 2) := by decide +kernel
theorem dj52_14_8 : decode jdk_52_method_14_code 8 = .ok (.iload 4, 2) := by decide +kernel
theorem dj52_14_10 : decode jdk_52_method_14_code 10 = .ok (.iload_n 2, 1) := by decide +kernel
theorem dj52_14_11 : decode jdk_52_method_14_code 11 = .ok (.if_icmp .ge 21, 3) := by decide +kernel
theorem dj52_14_14 : decode jdk_52_method_14_code 14 = .ok (.aload_n 3, 1) := by decide +kernel
theorem dj52_14_15 : decode jdk_52_method_14_code 15 = .ok (.iload 4, 2) := by decide +kernel
theorem dj52_14_17 : decode jdk_52_method_14_code 17 = .ok (.aload_n 0, 1) := by decide +kernel
theorem dj52_14_18 : decode jdk_52_method_14_code 18 = .ok (.iload_n 1, 1) := by decide +kernel
theorem dj52_14_19 : decode jdk_52_method_14_code 19 = .ok (.caload, 1) := by decide +kernel
theorem dj52_14_20 : decode jdk_52_method_14_code 20 = .ok (.invokestatic 111, 3) := by decide +kernel
theorem dj52_14_23 : decode jdk_52_method_14_code 23 = .ok (.iinc 1 1, 3) := by decide +kernel
theorem dj52_14_26 : decode jdk_52_method_14_code 26 = .ok (.iinc 4 1, 3) := by decide +kernel
theorem dj52_14_29 : decode jdk_52_method_14_code 29 = .ok (.goto (-21), 3) := by decide +kernel
theorem dj52_14_32 : decode jdk_52_method_14_code 32 = .ok (.aload_n 3, 1) := by decide +kernel
theorem dj52_14_33 : decode jdk_52_method_14_code 33 = .ok (.areturn, 1) := by decide +kernel
theorem dj52_2_0 : decode jdk_52_method_2_code 0 = .ok (.iload_n 0, 1) := by decide +kernel
theorem dj52_2_1 : decode jdk_52_method_2_code 1 = .ok (.invokestatic 11, 3) := by decide +kernel
theorem dj52_2_4 : decode jdk_52_method_2_code 4 = .ok (.newarray .byte, 2) := by decide +kernel
theorem dj52_2_6 : decode jdk_52_method_2_code 6 = .ok (.areturn, 1) := by decide +kernel
theorem dj52_3_0 : decode jdk_52_method_3_code 0 = .ok (.iload_n 0, 1) := by decide +kernel
theorem dj52_3_1 : decode jdk_52_method_3_code 1 = .ok (.ifCond .ge 11, 3) := by decide +kernel
theorem dj52_3_4 : decode jdk_52_method_3_code 4 = .ok (.new 17, 3) := by decide +kernel
theorem dj52_3_7 : decode jdk_52_method_3_code 7 = .ok (.dup, 1) := by decide +kernel
theorem dj52_3_8 : decode jdk_52_method_3_code 8 = .ok (.invokespecial 19, 3) := by decide +kernel
theorem dj52_3_11 : decode jdk_52_method_3_code 11 = .ok (.athrow, 1) := by decide +kernel
theorem dj52_3_12 : decode jdk_52_method_3_code 12 = .ok (.iload_n 0, 1) := by decide +kernel
theorem dj52_3_13 : decode jdk_52_method_3_code 13 = .ok (.ldc 20, 2) := by decide +kernel
theorem dj52_3_15 : decode jdk_52_method_3_code 15 = .ok (.if_icmp .lt 40, 3) := by decide +kernel
theorem dj52_3_18 : decode jdk_52_method_3_code 18 = .ok (.new 21, 3) := by decide +kernel
theorem dj52_3_21 : decode jdk_52_method_3_code 21 = .ok (.dup, 1) := by decide +kernel
theorem dj52_3_22 : decode jdk_52_method_3_code 22 = .ok (.new 23, 3) := by decide +kernel
theorem dj52_3_25 : decode jdk_52_method_3_code 25 = .ok (.dup, 1) := by decide +kernel
theorem dj52_3_26 : decode jdk_52_method_3_code 26 = .ok (.invokespecial 25, 3) := by decide +kernel
theorem dj52_3_29 : decode jdk_52_method_3_code 29 = .ok (.ldc 26, 2) := by decide +kernel
theorem dj52_3_31 : decode jdk_52_method_3_code 31 = .ok (.invokevirtual 28, 3) := by decide +kernel
theorem dj52_3_34 : decode jdk_52_method_3_code 34 = .ok (.iload_n 0, 1) := by decide +kernel
theorem dj52_3_35 : decode jdk_52_method_3_code 35 = .ok (.invokevirtual 32, 3) := by decide +kernel
theorem dj52_3_38 : decode jdk_52_method_3_code 38 = .ok (.ldc 35, 2) := by decide +kernel
theorem dj52_3_40 : decode jdk_52_method_3_code 40 = .ok (.invokevirtual 28, 3) := by decide +kernel
theorem dj52_3_43 : decode jdk_52_method_3_code 43 = .ok (.ldc 20, 2) := by decide +kernel
theorem dj52_3_45 : decode jdk_52_method_3_code 45 = .ok (.invokevirtual 32, 3) := by decide +kernel
theorem dj52_3_48 : decode jdk_52_method_3_code 48 = .ok (.invokevirtual 37, 3) := by decide +kernel
theorem dj52_3_51 : decode jdk_52_method_3_code 51 = .ok (.invokespecial 41, 3) := by decide +kernel
theorem dj52_3_54 : decode jdk_52_method_3_code 54 = .ok (.athrow, 1) := by decide +kernel
theorem dj52_3_55 : decode jdk_52_method_3_code 55 = .ok (.iload_n 0, 1) := by decide +kernel
theorem dj52_3_56 : decode jdk_52_method_3_code 56 = .ok (.iconst 1, 1) := by decide +kernel
theorem dj52_3_57 : decode jdk_52_method_3_code 57 = .ok (.ishl, 1) := by decide +kernel
theorem dj52_3_58 : decode jdk_52_method_3_code 58 = .ok (.ireturn, 1) := by decide +kernel
theorem dj52_4_0 : decode jdk_52_method_4_code 0 = .ok (.getstatic 44, 3) := by decide +kernel
theorem dj52_4_3 : decode jdk_52_method_4_code 3 = .ok (.ifCond .ne 25, 3) := by decide +kernel
theorem dj52_4_6 : decode jdk_52_method_4_code 6 = .ok (.iload_n 1, 1) := by decide +kernel
theorem dj52_4_7 : decode jdk_52_method_4_code 7 = .ok (.ifCond .lt 11, 3) := by decide +kernel
theorem dj52_4_10 : decode jdk_52_method_4_code 10 = .ok (.iload_n 1, 1) := by decide +kernel
theorem dj52_4_11 : decode jdk_52_method_4_code 11 = .ok (.aload_n 0, 1) := by decide +kernel
theorem dj52_4_12 : decode jdk_52_method_4_code 12 = .ok (.invokestatic 48, 3) := by decide +kernel
theorem dj52_4_15 : decode jdk_52_method_4_code 15 = .ok (.if_icmp .lt 13, 3) := by decide +kernel
theorem dj52_4_18 : decode jdk_52_method_4_code 18 = .ok (.new 52, 3) := by decide +kernel
theorem dj52_4_21 : decode jdk_52_method_4_code 21 = .ok (.dup, 1) := by decide +kernel
theorem dj52_4_22 : decode jdk_52_method_4_code 22 = .ok (.ldc 54, 2) := by decide +kernel
theorem dj52_4_24 : decode jdk_52_method_4_code 24 = .ok (.invokespecial 56, 3) := by decide +kernel
theorem dj52_4_27 : decode jdk_52_method_4_code 27 = .ok (.athrow, 1) := by decide +kernel
theorem dj52_4_28 : decode jdk_52_method_4_code 28 = .ok (.iload_n 1, 1) := by decide +kernel
theorem dj52_4_29 : decode jdk_52_method_4_code 29 = .ok (.iconst 1, 1) := by decide +kernel
theorem dj52_4_30 : decode jdk_52_method_4_code 30 = .ok (.ishl, 1) := by decide +kernel
theorem dj52_4_31 : decode jdk_52_method_4_code 31 = .ok (.istore_n 1, 1) := by decide +kernel
theorem dj52_4_32 : decode jdk_52_method_4_code 32 = .ok (.aload_n 0, 1) := by decide +kernel
theorem dj52_4_33 : decode jdk_52_method_4_code 33 = .ok (.iload_n 1, 1) := by decide +kernel
theorem dj52_4_34 : decode jdk_52_method_4_code 34 = .ok (.iinc 1 1, 3) := by decide +kernel
theorem dj52_4_37 : decode jdk_52_method_4_code 37 = .ok (.iload_n 2, 1) := by decide +kernel
theorem dj52_4_38 : decode jdk_52_method_4_code 38 = .ok (.getstatic 59, 3) := by decide +kernel
theorem dj52_4_41 : decode jdk_52_method_4_code 41 = .ok (.ishr, 1) := by decide +kernel
theorem dj52_4_42 : decode jdk_52_method_4_code 42 = .ok (.i2b, 1) := by decide +kernel
theorem dj52_4_43 : decode jdk_52_method_4_code 43 = .ok (.bastore, 1) := by decide +kernel
theorem dj52_4_44 : decode jdk_52_method_4_code 44 = .ok (.aload_n 0, 1) := by decide +kernel
theorem dj52_4_45 : decode jdk_52_method_4_code 45 = .ok (.iload_n 1, 1) := by decide +kernel
theorem dj52_4_46 : decode jdk_52_method_4_code 46 = .ok (.iload_n 2, 1) := by decide +kernel
theorem dj52_4_47 : decode jdk_52_method_4_code 47 = .ok (.getstatic 63, 3) := by decide +kernel
theorem dj52_4_50 : decode jdk_52_method_4_code 50 = .ok (.ishr, 1) := by decide +kernel
theorem dj52_4_51 : decode jdk_52_method_4_code 51 = .ok (.i2b, 1) := by decide +kernel
theorem dj52_4_52 : decode jdk_52_method_4_code 52 = .ok (.bastore, 1) := by decide +kernel
theorem dj52_4_53 : decode jdk_52_method_4_code 53 = .ok (.return_, 1) := by decide +kernel
theorem dj52_5_0 : decode jdk_52_method_5_code 0 = .ok (.getstatic 44, 3) := by decide +kernel
theorem dj52_5_3 : decode jdk_52_method_5_code 3 = .ok (.ifCond .ne 25, 3) := by decide +kernel
theorem dj52_5_6 : decode jdk_52_method_5_code 6 = .ok (.iload_n 1, 1) := by decide +kernel
theorem dj52_5_7 : decode jdk_52_method_5_code 7 = .ok (.ifCond .lt 11, 3) := by decide +kernel
theorem dj52_5_10 : decode jdk_52_method_5_code 10 = .ok (.iload_n 1, 1) := by decide +kernel
theorem dj52_5_11 : decode jdk_52_method_5_code 11 = .ok (.aload_n 0, 1) := by decide +kernel
theorem dj52_5_12 : decode jdk_52_method_5_code 12 = .ok (.invokestatic 48, 3) := by decide +kernel
theorem dj52_5_15 : decode jdk_52_method_5_code 15 = .ok (.if_icmp .lt 13, 3) := by decide +kernel
theorem dj52_5_18 : decode jdk_52_method_5_code 18 = .ok (.new 52, 3) := by decide +kernel
theorem dj52_5_21 : decode jdk_52_method_5_code 21 = .ok (.dup, 1) := by decide +kernel
theorem dj52_5_22 : decode jdk_52_method_5_code 22 = .ok (.ldc 54, 2) := by decide +kernel
theorem dj52_5_24 : decode jdk_52_method_5_code 24 = .ok (.invokespecial 56, 3) := by decide +kernel
theorem dj52_5_27 : decode jdk_52_method_5_code 27 = .ok (.athrow, 1) := by decide +kernel
theorem dj52_5_28 : decode jdk_52_method_5_code 28 = .ok (.iload_n 1, 1) := by decide +kernel
theorem dj52_5_29 : decode jdk_52_method_5_code 29 = .ok (.iconst 1, 1) := by decide +kernel
theorem dj52_5_30 : decode jdk_52_method_5_code 30 = .ok (.ishl, 1) := by decide +kernel
theorem dj52_5_31 : decode jdk_52_method_5_code 31 = .ok (.istore_n 1, 1) := by decide +kernel
theorem dj52_5_32 : decode jdk_52_method_5_code 32 = .ok (.aload_n 0, 1) := by decide +kernel
theorem dj52_5_33 : decode jdk_52_method_5_code 33 = .ok (.iload_n 1, 1) := by decide +kernel
theorem dj52_5_34 : decode jdk_52_method_5_code 34 = .ok (.iinc 1 1, 3) := by decide +kernel
theorem dj52_5_37 : decode jdk_52_method_5_code 37 = .ok (.baload, 1) := by decide +kernel
theorem dj52_5_38 : decode jdk_52_method_5_code 38 = .ok (.sipush 255, 3) := by decide +kernel
theorem dj52_5_41 : decode jdk_52_method_5_code 41 = .ok (.iand, 1) := by decide +kernel
theorem dj52_5_42 : decode jdk_52_method_5_code 42 = .ok (.getstatic 59, 3) := by decide +kernel
theorem dj52_5_45 : decode jdk_52_method_5_code 45 = .ok (.ishl, 1) := by decide +kernel
theorem dj52_5_46 : decode jdk_52_method_5_code 46 = .ok (.aload_n 0, 1) := by decide +kernel
theorem dj52_5_47 : decode jdk_52_method_5_code 47 = .ok (.iload_n 1, 1) := by decide +kernel
theorem dj52_5_48 : decode jdk_52_method_5_code 48 = .ok (.baload, 1) := by decide +kernel
theorem dj52_5_49 : decode jdk_52_method_5_code 49 = .ok (.sipush 255, 3) := by decide +kernel
theorem dj52_5_52 : decode jdk_52_method_5_code 52 = .ok (.iand, 1) := by decide +kernel
theorem dj52_5_53 : decode jdk_52_method_5_code 53 = .ok (.getstatic 63, 3) := by decide +kernel
theorem dj52_5_56 : decode jdk_52_method_5_code 56 = .ok (.ishl, 1) := by decide +kernel
theorem dj52_5_57 : decode jdk_52_method_5_code 57 = .ok (.ior, 1) := by decide +kernel
theorem dj52_5_58 : decode jdk_52_method_5_code 58 = .ok (.i2c, 1) := by decide +kernel
theorem dj52_5_59 : decode jdk_52_method_5_code 59 = .ok (.ireturn, 1) := by decide +kernel
theorem dj68_11_0 : decode jdk_68_method_11_code 0 = .ok (.aload_n 0, 1) := by decide +kernel
theorem dj68_11_1 : decode jdk_68_method_11_code 1 = .ok (.invokevirtual 83, 3) := by decide +kernel
theorem dj68_11_4 : decode jdk_68_method_11_code 4 = .ok (.ifCond .ne 4, 3) := by decide +kernel
theorem dj68_11_7 : decode jdk_68_method_11_code 7 = .ok (.return_, 1) := by decide +kernel
theorem dj68_11_8 : decode jdk_68_method_11_code 8 = .ok (.aload_n 0, 1) := by decide +kernel
theorem dj68_11_9 : decode jdk_68_method_11_code 9 = .ok (.getfield 15, 3) := by decide +kernel
theorem dj68_11_12 : decode jdk_68_method_11_code 12 = .ok (.arraylength, 1) := by decide +kernel
theorem dj68_11_13 : decode jdk_68_method_11_code 13 = .ok (.invokestatic 26, 3) := by decide +kernel
theorem dj68_11_16 : decode jdk_68_method_11_code 16 = .ok (.astore_n 1, 1) := by decide +kernel
theorem dj68_11_17 : decode jdk_68_method_11_code 17 = .ok (.aload_n 0, 1) := by decide +kernel
theorem dj68_11_18 : decode jdk_68_method_11_code 18 = .ok (.getfield 15, 3) := by decide +kernel
theorem dj68_11_21 : decode jdk_68_method_11_code 21 = .ok (.iconst 0, 1) := by decide +kernel
theorem dj68_11_22 : decode jdk_68_method_11_code 22 = .ok (.aload_n 1, 1) := by decide +kernel
theorem dj68_11_23 : decode jdk_68_method_11_code 23 = .ok (.iconst 0, 1) := by decide +kernel
theorem dj68_11_24 : decode jdk_68_method_11_code 24 = .ok (.aload_n 0, 1) := by decide +kernel
theorem dj68_11_25 : decode jdk_68_method_11_code 25 = .ok (.getfield 79, 3) := by decide +kernel
theorem dj68_11_28 : decode jdk_68_method_11_code 28 = .ok (.invokestatic 125, 3) := by decide +kernel
theorem dj68_11_31 : decode jdk_68_method_11_code 31 = .ok (.aload_n 0, 1) := by decide +kernel
theorem dj68_11_32 : decode jdk_68_method_11_code 32 = .ok (.aload_n 1, 1) := by decide +kernel
theorem dj68_11_33 : decode jdk_68_method_11_code 33 = .ok (.putfield 15, 3) := by decide +kernel
theorem dj68_11_36 : decode jdk_68_method_11_code 36 = .ok (.aload_n 0, 1) := by decide +kernel
theorem dj68_11_37 : decode jdk_68_method_11_code 37 = .ok (.iconst 1, 1) := by decide +kernel
theorem dj68_11_38 : decode jdk_68_method_11_code 38 = .ok (.putfield 22, 3) := by decide +kernel
theorem dj68_11_41 : decode jdk_68_method_11_code 41 = .ok (.return_, 1) := by decide +kernel
theorem dj43_50_0 : decode jdk_43_method_50_code 0 = .ok (.aload_n 0, 1) := by decide +kernel
theorem dj43_50_1 : decode jdk_43_method_50_code 1 = .ok (.iload_n 1, 1) := by decide +kernel
theorem dj43_50_2 : decode jdk_43_method_50_code 2 = .ok (.aload_n 2, 1) := by decide +kernel
theorem dj43_50_3 : decode jdk_43_method_50_code 3 = .ok (.iload_n 3, 1) := by decide +kernel
theorem dj43_50_4 : decode jdk_43_method_50_code 4 = .ok (.iload 4, 2) := by decide +kernel
theorem dj43_50_6 : decode jdk_43_method_50_code 6 = .ok (.invokestatic 240, 3) := by decide +kernel
theorem dj43_50_9 : decode jdk_43_method_50_code 9 = .ok (.return_, 1) := by decide +kernel
theorem dj52_86_0 : decode jdk_52_method_86_code 0 = .ok (.iload_n 3, 1) := by decide +kernel
theorem dj52_86_1 : decode jdk_52_method_86_code 1 = .ok (.iload 4, 2) := by decide +kernel
theorem dj52_86_3 : decode jdk_52_method_86_code 3 = .ok (.aload_n 2, 1) := by decide +kernel
theorem dj52_86_4 : decode jdk_52_method_86_code 4 = .ok (.invokestatic 173, 3) := by decide +kernel
theorem dj52_86_7 : decode jdk_52_method_86_code 7 = .ok (.iconst 0, 1) := by decide +kernel
theorem dj52_86_8 : decode jdk_52_method_86_code 8 = .ok (.istore 5, 2) := by decide +kernel
theorem dj52_86_10 : decode jdk_52_method_86_code 10 = .ok (.iload 5, 2) := by decide +kernel
theorem dj52_86_12 : decode jdk_52_method_86_code 12 = .ok (.iload 4, 2) := by decide +kernel
theorem dj52_86_14 : decode jdk_52_method_86_code 14 = .ok (.if_icmp .ge 27, 3) := by decide +kernel
theorem dj52_86_17 : decode jdk_52_method_86_code 17 = .ok (.aload_n 2, 1) := by decide +kernel
theorem dj52_86_18 : decode jdk_52_method_86_code 18 = .ok (.iload_n 3, 1) := by decide +kernel
theorem dj52_86_19 : decode jdk_52_method_86_code 19 = .ok (.iinc 3 1, 3) := by decide +kernel
theorem dj52_86_22 : decode jdk_52_method_86_code 22 = .ok (.aload_n 0, 1) := by decide +kernel
theorem dj52_86_23 : decode jdk_52_method_86_code 23 = .ok (.iload_n 1, 1) := by decide +kernel
theorem dj52_86_24 : decode jdk_52_method_86_code 24 = .ok (.iinc 1 1, 3) := by decide +kernel
theorem dj52_86_27 : decode jdk_52_method_86_code 27 = .ok (.baload, 1) := by decide +kernel
theorem dj52_86_28 : decode jdk_52_method_86_code 28 = .ok (.sipush 255, 3) := by decide +kernel
theorem dj52_86_31 : decode jdk_52_method_86_code 31 = .ok (.iand, 1) := by decide +kernel
theorem dj52_86_32 : decode jdk_52_method_86_code 32 = .ok (.invokestatic 111, 3) := by decide +kernel
theorem dj52_86_35 : decode jdk_52_method_86_code 35 = .ok (.iinc 5 1, 3) := by decide +kernel
theorem dj52_86_38 : decode jdk_52_method_86_code 38 = .ok (.goto (-28), 3) := by decide +kernel
theorem dj52_86_41 : decode jdk_52_method_86_code 41 = .ok (.return_, 1) := by decide +kernel
theorem dj52_94_0 : decode jdk_52_method_94_code 0 = .ok (.iload_n 0, 1) := by decide +kernel
theorem dj52_94_1 : decode jdk_52_method_94_code 1 = .ok (.iload_n 1, 1) := by decide +kernel
theorem dj52_94_2 : decode jdk_52_method_94_code 2 = .ok (.aload_n 2, 1) := by decide +kernel
theorem dj52_94_3 : decode jdk_52_method_94_code 3 = .ok (.invokestatic 48, 3) := by decide +kernel
theorem dj52_94_6 : decode jdk_52_method_94_code 6 = .ok (.invokestatic 419, 3) := by decide +kernel
theorem dj52_94_9 : decode jdk_52_method_94_code 9 = .ok (.pop, 1) := by decide +kernel
theorem dj52_94_10 : decode jdk_52_method_94_code 10 = .ok (.return_, 1) := by decide +kernel
theorem dj52_6_0 : decode jdk_52_method_6_code 0 = .ok (.aload_n 0, 1) := by decide +kernel
theorem dj52_6_1 : decode jdk_52_method_6_code 1 = .ok (.arraylength, 1) := by decide +kernel
theorem dj52_6_2 : decode jdk_52_method_6_code 2 = .ok (.iconst 1, 1) := by decide +kernel
theorem dj52_6_3 : decode jdk_52_method_6_code 3 = .ok (.ishr, 1) := by decide +kernel
theorem dj52_6_4 : decode jdk_52_method_6_code 4 = .ok (.ireturn, 1) := by decide +kernel
theorem dj42_157_0 : decode jdk_42_method_157_code 0 = .ok (.iload_n 0, 1) := by decide +kernel
theorem dj42_157_1 : decode jdk_42_method_157_code 1 = .ok (.iload_n 1, 1) := by decide +kernel
theorem dj42_157_2 : decode jdk_42_method_157_code 2 = .ok (.iload_n 2, 1) := by decide +kernel
theorem dj42_157_3 : decode jdk_42_method_157_code 3 = .ok (.getstatic 1053, 3) := by decide +kernel
theorem dj42_157_6 : decode jdk_42_method_157_code 6 = .ok (.invokestatic 1065, 3) := by decide +kernel
theorem dj42_157_9 : decode jdk_42_method_157_code 9 = .ok (.ireturn, 1) := by decide +kernel
theorem dj41_13_0 : decode jdk_41_method_13_code 0 = .ok (.iload_n 2, 1) := by decide +kernel
theorem dj41_13_1 : decode jdk_41_method_13_code 1 = .ok (.iload_n 0, 1) := by decide +kernel
theorem dj41_13_2 : decode jdk_41_method_13_code 2 = .ok (.ior, 1) := by decide +kernel
theorem dj41_13_3 : decode jdk_41_method_13_code 3 = .ok (.iload_n 1, 1) := by decide +kernel
theorem dj41_13_4 : decode jdk_41_method_13_code 4 = .ok (.ior, 1) := by decide +kernel
theorem dj41_13_5 : decode jdk_41_method_13_code 5 = .ok (.ifCond .lt 10, 3) := by decide +kernel
theorem dj41_13_8 : decode jdk_41_method_13_code 8 = .ok (.iload_n 1, 1) := by decide +kernel
theorem dj41_13_9 : decode jdk_41_method_13_code 9 = .ok (.iload_n 2, 1) := by decide +kernel
theorem dj41_13_10 : decode jdk_41_method_13_code 10 = .ok (.iload_n 0, 1) := by decide +kernel
theorem dj41_13_11 : decode jdk_41_method_13_code 11 = .ok (.isub, 1) := by decide +kernel
theorem dj41_13_12 : decode jdk_41_method_13_code 12 = .ok (.if_icmp .le 11, 3) := by decide +kernel
theorem dj41_13_15 : decode jdk_41_method_13_code 15 = .ok (.aload_n 3, 1) := by decide +kernel
theorem dj41_13_16 : decode jdk_41_method_13_code 16 = .ok (.iload_n 0, 1) := by decide +kernel
theorem dj41_13_17 : decode jdk_41_method_13_code 17 = .ok (.iload_n 1, 1) := by decide +kernel
theorem dj41_13_18 : decode jdk_41_method_13_code 18 = .ok (.iload_n 2, 1) := by decide +kernel
theorem dj41_13_19 : decode jdk_41_method_13_code 19 = .ok (.invokestatic 103, 3) := by decide +kernel
theorem dj41_13_22 : decode jdk_41_method_13_code 22 = .ok (.athrow, 1) := by decide +kernel
theorem dj41_13_23 : decode jdk_41_method_13_code 23 = .ok (.iload_n 0, 1) := by decide +kernel
theorem dj41_13_24 : decode jdk_41_method_13_code 24 = .ok (.ireturn, 1) := by decide +kernel
theorem pd_lACrV : parseMethodDescriptor "([C)V" = some ⟨[(.array .char)], none⟩ := by decide +kernel
theorem pd_lACIILjavalangVoidrV : parseMethodDescriptor "([CIILjava/lang/Void;)V" = some ⟨[(.array .char), .int, .int, (.object "java/lang/Void")], none⟩ := by decide +kernel
theorem pd_lrV : parseMethodDescriptor "()V" = some ⟨[], none⟩ := by decide +kernel
theorem pd_lLjavalangStringrLjavalangIllegalStateException : parseMethodDescriptor "(Ljava/lang/String;)Ljava/lang/IllegalStateException;" = some ⟨[(.object "java/lang/String")], some (.object "java/lang/IllegalStateException")⟩ := by decide +kernel
theorem pd_lIrV : parseMethodDescriptor "(I)V" = some ⟨[.int], none⟩ := by decide +kernel
theorem pd_lLjavalangStringrLjavalangStringBuilder : parseMethodDescriptor "(Ljava/lang/String;)Ljava/lang/StringBuilder;" = some ⟨[(.object "java/lang/String")], some (.object "java/lang/StringBuilder")⟩ := by decide +kernel
theorem pd_lLjavalangStringrLjavalangAbstractStringBuilder : parseMethodDescriptor "(Ljava/lang/String;)Ljava/lang/AbstractStringBuilder;" = some ⟨[(.object "java/lang/String")], some (.object "java/lang/AbstractStringBuilder")⟩ := by decide +kernel
theorem pd_lrI : parseMethodDescriptor "()I" = some ⟨[], some .int⟩ := by decide +kernel
theorem pd_lrB : parseMethodDescriptor "()B" = some ⟨[], some .byte⟩ := by decide +kernel
theorem pd_lILjavalangStringrV : parseMethodDescriptor "(ILjava/lang/String;)V" = some ⟨[.int, (.object "java/lang/String")], none⟩ := by decide +kernel
theorem pd_lLjavalangStringrV : parseMethodDescriptor "(Ljava/lang/String;)V" = some ⟨[(.object "java/lang/String")], none⟩ := by decide +kernel
theorem pd_lABIBrV : parseMethodDescriptor "([BIB)V" = some ⟨[(.array .byte), .int, .byte], none⟩ := by decide +kernel
theorem pd_lLjavalangObjectILjavalangObjectIIrV : parseMethodDescriptor "(Ljava/lang/Object;ILjava/lang/Object;II)V" = some ⟨[(.object "java/lang/Object"), .int, (.object "java/lang/Object"), .int, .int], none⟩ := by decide +kernel
theorem pd_lIrI : parseMethodDescriptor "(I)I" = some ⟨[.int], some .int⟩ := by decide +kernel
theorem pd_lIIIrI : parseMethodDescriptor "(III)I" = some ⟨[.int, .int, .int], some .int⟩ := by decide +kernel
theorem pd_lIIrI : parseMethodDescriptor "(II)I" = some ⟨[.int, .int], some .int⟩ := by decide +kernel
theorem pd_lABIrAB : parseMethodDescriptor "([BI)[B" = some ⟨[(.array .byte), .int], some (.array .byte)⟩ := by decide +kernel
theorem pd_lrLjavalangString : parseMethodDescriptor "()Ljava/lang/String;" = some ⟨[], some (.object "java/lang/String")⟩ := by decide +kernel
theorem pd_lLjavalangStringBuilderrV : parseMethodDescriptor "(Ljava/lang/StringBuilder;)V" = some ⟨[(.object "java/lang/StringBuilder")], none⟩ := by decide +kernel
theorem pd_lLjavalangAbstractStringBuilderLjavalangVoidrV : parseMethodDescriptor "(Ljava/lang/AbstractStringBuilder;Ljava/lang/Void;)V" = some ⟨[(.object "java/lang/AbstractStringBuilder"), (.object "java/lang/Void")], none⟩ := by decide +kernel
theorem pd_lrAB : parseMethodDescriptor "()[B" = some ⟨[], some (.array .byte)⟩ := by decide +kernel
theorem pd_lrZ : parseMethodDescriptor "()Z" = some ⟨[], some .boolean⟩ := by decide +kernel
theorem pd_lABIIrAB : parseMethodDescriptor "([BII)[B" = some ⟨[(.array .byte), .int, .int], some (.array .byte)⟩ := by decide +kernel
theorem pd_lrLjavalangObject : parseMethodDescriptor "()Ljava/lang/Object;" = some ⟨[], some (.object "java/lang/Object")⟩ := by decide +kernel
theorem pd_lrLjavalangThrowable : parseMethodDescriptor "()Ljava/lang/Throwable;" = some ⟨[], some (.object "java/lang/Throwable")⟩ := by decide +kernel
theorem pd_lIrLjavalangThrowable : parseMethodDescriptor "(I)Ljava/lang/Throwable;" = some ⟨[.int], some (.object "java/lang/Throwable")⟩ := by decide +kernel
theorem pd_lLjavalangObjectrZ : parseMethodDescriptor "(Ljava/lang/Object;)Z" = some ⟨[(.object "java/lang/Object")], some .boolean⟩ := by decide +kernel
theorem pd_lABABrZ : parseMethodDescriptor "([B[B)Z" = some ⟨[(.array .byte), (.array .byte)], some .boolean⟩ := by decide +kernel
theorem pd_lACIIrAB : parseMethodDescriptor "([CII)[B" = some ⟨[(.array .char), .int, .int], some (.array .byte)⟩ := by decide +kernel
theorem pd_lACIABIIrI : parseMethodDescriptor "([CI[BII)I" = some ⟨[(.array .char), .int, (.array .byte), .int, .int], some .int⟩ := by decide +kernel
theorem pd_lABIrB : parseMethodDescriptor "([BI)B" = some ⟨[(.array .byte), .int], some .byte⟩ := by decide +kernel
theorem pd_lIrAB : parseMethodDescriptor "(I)[B" = some ⟨[.int], some (.array .byte)⟩ := by decide +kernel
theorem pd_lABIIrV : parseMethodDescriptor "([BII)V" = some ⟨[(.array .byte), .int, .int], none⟩ := by decide +kernel
theorem pd_lABIrC : parseMethodDescriptor "([BI)C" = some ⟨[(.array .byte), .int], some .char⟩ := by decide +kernel
theorem pd_lABIABIIrV : parseMethodDescriptor "([BI[BII)V" = some ⟨[(.array .byte), .int, (.array .byte), .int, .int], none⟩ := by decide +kernel
theorem pd_lIIABrV : parseMethodDescriptor "(II[B)V" = some ⟨[.int, .int, (.array .byte)], none⟩ := by decide +kernel
theorem pd_lABrI : parseMethodDescriptor "([B)I" = some ⟨[(.array .byte)], some .int⟩ := by decide +kernel
theorem pd_lIIILjavautilfunctionBiFunctionrI : parseMethodDescriptor "(IIILjava/util/function/BiFunction;)I" = some ⟨[.int, .int, .int, (.object "java/util/function/BiFunction")], some .int⟩ := by decide +kernel
open Own
set_option maxHeartbeats 40000000
set_option maxRecDepth 65536
theorem own_new {a0 : Array Value} {Z : State} (hw : ∀ d ∈ tables_1, d.before a0 Z = true) : ∀ d ∈ StrChars.Road.words, d.before a0 Z = true := fun d hd => hw d ((by decide +kernel : ∀ d ∈ StrChars.Road.words, d ∈ tables_1) d hd)
theorem own_len {a0 : Array Value} {Z : State} (hw : ∀ d ∈ tables_1, d.before a0 Z = true) : ∀ d ∈ StrChars.Road.wordsLen, d.before a0 Z = true := fun d hd => hw d ((by decide +kernel : ∀ d ∈ StrChars.Road.wordsLen, d ∈ tables_1) d hd)
theorem own_eq {a0 : Array Value} {Z : State} (hw : ∀ d ∈ tables_1, d.before a0 Z = true) : ∀ d ∈ StrChars.Road.wordsEq, d.before a0 Z = true := fun d hd => hw d ((by decide +kernel : ∀ d ∈ StrChars.Road.wordsEq, d ∈ tables_1) d hd)
/-! new String(new char[0]), walked: the constant "" is loaded twice -/
section New0
variable {l : Launch} {R : Room} {Z : State} {a0 : Array Value} {EL : List (String × Nat)} {h : Heap} {W : Nat}
abbrev yI4 : MethodName := ⟨"java/lang/String", "<init>", "([CIILjava/lang/Void;)V"⟩
abbrev yI1 : MethodName := ⟨"java/lang/String", "<init>", "([C)V"⟩
theorem own_atoms (hw : ∀ d ∈ tables_1, d.before a0 Z = true) : ∀ a ∈ Bundle.stringAtoms, a.before a0 Z = true := fun d hd => hw d ((by decide +kernel : ∀ d ∈ Bundle.stringAtoms, d ∈ tables_1) d hd)
theorem met_I4z (hw : ∀ d ∈ tables_1, d.before a0 Z = true) (hm : ("java/lang/String", 7) ∈ EL) {x b : Addr} {v0 c0 : Value} (hx : Z.heap.size ≤ x) (E : Exa Z h x "java/lang/String") (V : Fld Z h x "java/lang/String" "value" "[B" v0) (C : Fld Z h x "java/lang/String" "coder" "B" c0) :
    MetW [] l yI4 jdk_42_method_149_code 6 none (Rm 1 4 8 12) #[.ref x, .ref b, .int 0, .int 0, .null] Z a0 EL false [x] h (fun v h' => v = none ∧ Keep h h' [x] ∧ Str Z h' x []) := by
  refine MetW.of (plainFor_of_name (by first | (simp [plainName, overriddenIn]; done) | decide +kernel)) fun X hX => ?_
  show Go X _ _ _ _ _ _ _ _ _ _ _ _ _ _ _ _ (mkF X.m 0 #[.val (.ref x), .val (.ref b), .val (.int 0), .val (.int 0), .val .null, .unset] [])
  have ne : RoadKit.slotOf Z "java/lang/String" "coder" "B" ≠ RoadKit.slotOf Z "java/lang/String" "value" "[B" := slot_ne (Or.inr (wy_String_String_coder hw)) (Or.inr (wy_String_String_value hw)) (by decide) (t := .byte) (t' := .array .byte) (by decide) (by decide)
  refine g_aloadN (pc' := 1) dj42_149_0 rfl rfl rfl ?_
  refine g_objinit (pc' := 4) dj42_149_1 rfl (wl_String_1 hw) (wm_Object_init_lrV hw) (wb_Object_init_lrV hw) rfl rfl rfl ?_
  refine g_iloadN (pc' := 5) dj42_149_4 rfl rfl ?_
  refine g_ifne (pc' := 8) (pc2 := 27) dj42_149_5 rfl (by decide) rfl (fun c5 => ?_) (fun c5 => absurd rfl c5)
  refine g_aloadN (pc' := 9) dj42_149_8 rfl rfl rfl ?_
  refine g_lit (pc' := 11) rfl [] 0 dj42_149_9 rfl (wt_String_7 hw) (own_atoms hw) hm ⟨by decide, rfl⟩ (by decide) (by decide) (by decide) rfl rfl rfl rfl rfl fun h9 a9 E9 T9 n9 => ?_
  have hxa9 : x ≠ a9 := n9 x (List.mem_cons_self ..)
  obtain ⟨t, kb, N2, vs, V9, C9, A9, hcod, -, -⟩ := T9.lat (fun c hc => nomatch hc)
  refine g_getfield (pc' := 14) dj42_149_11 rfl (wf_String_9 hw) V9 ?_
  refine g_putfield (pc' := 17) dj42_149_14 rfl (wf_String_9 hw) (V.ext E9) (E.ext E9) (Or.inr ⟨wy_String_String_value hw, rfl, rfl⟩) (wn_String hw) (ty := .array .byte) (by decide) rfl rfl hx (List.mem_cons_self ..) fun h14 W14 => ?_
  refine g_aloadN (pc' := 18) dj42_149_17 rfl rfl rfl ?_
  refine g_lit (pc' := 20) rfl [] 0 dj42_149_18 rfl (wt_String_7 hw) (own_atoms hw) hm ⟨by decide, rfl⟩ (by decide) (by decide) (by decide) rfl rfl rfl rfl rfl fun h18 a18 E18 T18 n18 => ?_
  obtain ⟨t', kb', N2', vs', V18, C18, A18, -, -, -⟩ := T18.lat (fun c hc => nomatch hc)
  refine g_getfield (pc' := 23) dj42_149_20 rfl (wf_String_15 hw) C18 ?_
  refine g_putfield (pc' := 26) dj42_149_23 rfl (wf_String_15 hw) (((C.ext E9).other W14 (Or.inr ne)).ext E18) (((E.ext E9).wr W14).ext E18) (Or.inr ⟨wy_String_String_coder hw, rfl, rfl⟩) (wn_String hw) (ty := .byte) (by decide) rfl rfl hx (List.mem_cons_self ..) fun h23 W23 => ?_
  have hxt : x ≠ t := (E.ext E9).neArv A9 (wn_String hw)
  have Ex : Exa Z h23 x "java/lang/String" := (((E.ext E9).wr W14).ext E18).wr W23
  have Vx : Fld Z h23 x "java/lang/String" "value" "[B" (.ref t) := (((V.ext E9).same W14).ext E18).other W23 (Or.inr ne.symm)
  have Cx : Fld Z h23 x "java/lang/String" "coder" "B" (.int 0) := (((C.ext E9).other W14 (Or.inr ne)).ext E18).same W23
  have Ax : Arv Z h23 t kb .byte N2 vs (.int 0) := (((A9.other W14 hxt.symm).ext E18).other W23 hxt.symm)
  exact g_return dj42_149_26 rfl rfl rfl ⟨rfl, ((((Keep.refl h [x]).ext E9).wr W14 (Or.inl (List.mem_cons_self ..))).ext E18).wr W23 (Or.inl (List.mem_cons_self ..)), Ex, t, kb, 0, N2, vs, Vx, Cx, Ax, hcod, (fun c hc => nomatch hc), Nat.zero_le _⟩
theorem met_I1z (hw : ∀ d ∈ tables_1, d.before a0 Z = true) (hm : ("java/lang/String", 7) ∈ EL) {x b : Addr} {kC : ClassId} {d v0 c0 : Value} {vs : List Value} (hx : Z.heap.size ≤ x) (E : Exa Z h x "java/lang/String") (V : Fld Z h x "java/lang/String" "value" "[B" v0) (C : Fld Z h x "java/lang/String" "coder" "B" c0) (K : Arv Z h b kC .char 0 vs d) :
    MetW [] l yI1 jdk_42_method_3_code 2 none (Rm 2 4 8 29) #[.ref x, .ref b] Z a0 EL false [x] h (fun v h' => v = none ∧ Keep h h' [x] ∧ Str Z h' x []) := by
  refine MetW.of (plainFor_of_name (by first | (simp [plainName, overriddenIn]; done) | decide +kernel)) fun X hX => ?_
  show Go X _ _ _ _ _ _ _ _ _ _ _ _ _ _ _ _ (mkF X.m 0 #[.val (.ref x), .val (.ref b)] [])
  refine g_aloadN (pc' := 1) dj42_3_0 rfl rfl rfl ?_
  refine g_aloadN (pc' := 2) dj42_3_1 rfl rfl rfl ?_
  refine g_iconst (pc' := 3) (w := 0) dj42_3_2 rfl (by decide) ?_
  refine g_aloadN (pc' := 4) dj42_3_3 rfl rfl rfl ?_
  refine g_arraylength (pc' := 5) dj42_3_4 rfl K ?_
  refine g_aconst_null (pc' := 6) dj42_3_5 rfl ?_
  refine g_invokespecial (pc' := 9) [x] [_, _, _, _] dj42_3_6 rfl rfl (wl_String_27 hw) (wm_String_init_lACIILjavalangVoidrV hw) (wb_String_init_lACIILjavalangVoidrV hw) (by decide) (Pay.of_met (met_I4z hw hm (b := b) hx E V C) (wb_String_init_lACIILjavalangVoidrV hw) (wi_String hw) rfl rfl) pd_lACIILjavalangVoidrV rfl rfl rfl rfl rfl (fun _ q => q) fun v6 h6 q6 l6 => ?_
  obtain ⟨rfl, K6, T6⟩ := q6
  exact g_return dj42_3_9 rfl rfl rfl ⟨rfl, K6, T6⟩
theorem pay_new0 (hw : ∀ d ∈ tables_1, d.before a0 Z = true) (hm : ("java/lang/String", 7) ∈ EL) {x b : Addr} {kC : ClassId} {d v0 c0 : Value} {vs : List Value} (hx : Z.heap.size ≤ x) (E : Exa Z h x "java/lang/String") (V : Fld Z h x "java/lang/String" "value" "[B" v0) (C : Fld Z h x "java/lang/String" "coder" "B" c0) (K : Arv Z h b kC .char 0 vs d) (hf : Nat.ble 3 R.frames = true) (hl : Nat.ble (W + 42) R.locals = true) :
    Pay l R yI1 W #[.ref x, .ref b] Z a0 EL false [x] h 4 8 (fun v h' => v = none ∧ Keep h h' [x] ∧ Str Z h' x []) := Pay.of_met (met_I1z hw hm hx E V C K) (wb_String_init_lACrV hw) (wi_String hw) hf (by exact hl)
end New0
theorem Go.sub {X : Cx} {R : Room} {Z : State} {a0 : Array Value} {EL : List (String × Nat)} {nw : Bool} {y : MethodName} {bs : ByteArray} {ml : Nat} {rt : Option FieldType} {Q : Option Value → Heap → Prop} {kc ks : Nat} {sf : List Addr} (sf' : List Addr) {h : Heap} {k n : Nat} {g : JFrame} (q : ∀ x ∈ sf', x ∈ sf) (G : Go X R Z a0 EL nw y bs ml rt Q kc ks sf' h k n g) : Go X R Z a0 EL nw y bs ml rt Q kc ks sf h k n g := fun T S => by
  obtain ⟨F, vm0, L, X1, eT, hS, hZ, hown, hC, hF, hE, hs, hN⟩ := S
  exact G T ⟨F, vm0, L, X1, eT, hS, hZ, hown, hC, hF, hE, fun x hx => hs x (q x hx), hN⟩
/-! StringBuilder over Latin-1 text: its constructor, append(String), toString, walked -/
section SBs
variable {l : Launch} {R : Room} {Z : State} {a0 : Array Value} {EL : List (String × Nat)} {nw : Bool} {h : Heap} {W : Nat} {z : Int32}
abbrev ASB : String := "java/lang/AbstractStringBuilder"
abbrev SBN : String := "java/lang/StringBuilder"
abbrev l8 (c : Int32) : Int32 := StrChars.lo8 c
abbrev bys (cs : List Int32) : List Value := cs.map fun c => Value.int (StrChars.lo8 c)
/-- at b a StringBuilder that holds cs, in the array t of cap bytes -/
def SBd (Z : State) (h : Heap) (b t : Addr) (cs : List Int32) (cap : Nat) : Prop :=
  Exa Z h b SBN ∧ Fld Z h b ASB "value" "[B" (.ref t) ∧ Fld Z h b ASB "coder" "B" (.int 0) ∧ Fld Z h b ASB "count" "I" (.int (Int32.ofNat cs.length)) ∧ ∃ (kb : ClassId) (vs : List Value), Z.vm.findClass "[B" = some kb ∧ Arv Z h t kb .byte (Int32.ofNat cap) vs (.int 0) ∧ vs.length = cap ∧ vs.take cs.length = bys cs ∧ cs.length ≤ cap ∧ cap ≤ 4000
theorem SBd.ext {h' : Heap} {b t : Addr} {cs : List Int32} {cap : Nat} (S : SBd Z h b t cs cap) (E : Ext h h') : SBd Z h' b t cs cap := by
  obtain ⟨h1, h2, h3, h4, kb, vs, hc, h5, r⟩ := S
  exact ⟨h1.ext E, h2.ext E, h3.ext E, h4.ext E, kb, vs, hc, h5.ext E, r⟩
abbrev yASBi : MethodName := ⟨"java/lang/AbstractStringBuilder", "<init>", "(I)V"⟩
abbrev ySBi : MethodName := ⟨"java/lang/StringBuilder", "<init>", "()V"⟩
abbrev yCod : MethodName := ⟨"java/lang/String", "coder", "()B"⟩
abbrev yInf : MethodName := ⟨"java/lang/AbstractStringBuilder", "inflateIfNeededFor", "(Ljava/lang/String;)V"⟩
abbrev yGBy : MethodName := ⟨"java/lang/String", "getBytes", "([BIB)V"⟩
abbrev yPSA : MethodName := ⟨"java/lang/AbstractStringBuilder", "putStringAt", "(ILjava/lang/String;)V"⟩
theorem sb_ne1 (hw : ∀ d ∈ tables_1, d.before a0 Z = true) : RoadKit.slotOf Z ASB "coder" "B" ≠ RoadKit.slotOf Z ASB "value" "[B" := slot_ne (Or.inl (wy_StringBuilder_AbstractStringBuilder_coder hw)) (Or.inl (wy_StringBuilder_AbstractStringBuilder_value hw)) (by decide) (t := .byte) (t' := .array .byte) (by decide) (by decide)
theorem sb_ne2 (hw : ∀ d ∈ tables_1, d.before a0 Z = true) : RoadKit.slotOf Z ASB "count" "I" ≠ RoadKit.slotOf Z ASB "value" "[B" := slot_ne (Or.inl (wy_StringBuilder_AbstractStringBuilder_count hw)) (Or.inl (wy_StringBuilder_AbstractStringBuilder_value hw)) (by decide) (t := .int) (t' := .array .byte) (by decide) (by decide)
theorem sb_ne3 (hw : ∀ d ∈ tables_1, d.before a0 Z = true) : RoadKit.slotOf Z ASB "count" "I" ≠ RoadKit.slotOf Z ASB "coder" "B" := slot_ne (Or.inl (wy_StringBuilder_AbstractStringBuilder_count hw)) (Or.inl (wy_StringBuilder_AbstractStringBuilder_coder hw)) (by decide) (t := .int) (t' := .byte) (by decide) (by decide)
theorem met_ASBi (hw : ∀ d ∈ tables_1, d.before a0 Z = true) (S : Sta Z Z.heap "java/lang/String" "COMPACT_STRINGS" "Z" (.int z)) (hz : ¬ z = 0) {b : Addr} {v0 c0 : Value} (hb : Z.heap.size ≤ b) (E : Exa Z h b SBN) (Fv : Fld Z h b ASB "value" "[B" v0) (Fc : Fld Z h b ASB "coder" "B" c0) (Fn : Fld Z h b ASB "count" "I" (.int 0)) :
    MetW [] l yASBi jdk_68_method_2_code 2 none (Rm 1 1 16 12) #[.ref b, .int 16] Z a0 EL nw [b] h (fun v h' => v = none ∧ Keep h h' [b] ∧ ∃ t, h.size ≤ t ∧ t < h'.size ∧ SBd Z h' b t [] 16) := by
  refine MetW.of (by first | exact plainFor_of_name (by first | (simp [plainName, overriddenIn]; done) | decide +kernel) | decide +kernel) fun X hX => Go.old fun EZ => ?_
  show Go X _ _ _ _ _ _ _ _ _ _ _ _ _ _ _ _ (mkF X.m 0 #[.val (.ref b), .val (.int 16)] [])
  refine g_aloadN (pc' := 1) dj68_2_0 rfl rfl rfl ?_
  refine g_objinit (pc' := 4) dj68_2_1 rfl (wl_AbstractStringBuilder_3 hw) (wm_Object_init_lrV hw) (wb_Object_init_lrV hw) rfl rfl rfl ?_
  refine g_getstatic (pc' := 7) dj68_2_4 rfl (wf_AbstractStringBuilder_18 hw) (S) ?_
  refine g_ifeq (pc' := 10) (pc2 := 25) dj68_2_7 rfl (by decide) rfl (fun c7 => ?_) (fun c7 => False.elim (hz c7))
  refine g_aloadN (pc' := 11) dj68_2_10 rfl rfl rfl ?_
  refine g_iloadN (pc' := 12) dj68_2_11 rfl rfl ?_
  refine g_newarrayX (pc' := 14) (cap := 16) dj68_2_12 rfl (wa_byte hw) (by decide) (by decide) rfl rfl rfl fun h12 a12 k12 e12 E12 c12 A12 => ?_
  refine g_putfield (pc' := 17) dj68_2_14 rfl (wf_AbstractStringBuilder_15 hw) (Fv.ext E12) (E.ext E12) (Or.inl (wy_StringBuilder_AbstractStringBuilder_value hw)) (wn_StringBuilder hw) (ty := (.array .byte)) (by decide) rfl rfl (hb) (by simp) fun h14 W14 => ?_
  refine g_aloadN (pc' := 18) dj68_2_17 rfl rfl rfl ?_
  refine g_iconst (pc' := 19) (w := 0) dj68_2_18 rfl (by decide) ?_
  refine g_putfield (pc' := 22) dj68_2_19 rfl (wf_AbstractStringBuilder_22 hw) ((Fc.ext E12).other W14 (Or.inr (sb_ne1 hw))) ((E.ext E12).wr W14) (Or.inl (wy_StringBuilder_AbstractStringBuilder_coder hw)) (wn_StringBuilder hw) (ty := .byte) (by decide) rfl rfl (hb) (by simp) fun h19 W19 => ?_
  refine g_goto (pc' := 38) dj68_2_22 (by decide) rfl ?_
  have hne : a12 ≠ b := Nat.ne_of_gt (by rw [e12]; exact E.lt)
  have A : Arv Z h19 a12 k12 .byte 16 (List.replicate 16 (Value.int 0)) (.int 0) := (Arv.other (Arv.other A12 W14 hne) W19 hne)
  refine g_return dj68_2_38 rfl rfl rfl ⟨rfl, (((Keep.refl h [b]).ext E12).wr W14 (Or.inl (List.mem_cons_self ..))).wr W19 (Or.inl (List.mem_cons_self ..)), a12, Nat.le_of_eq e12.symm, A.lt, ((E.ext E12).wr W14).wr W19, ((Fv.ext E12).same W14).other W19 (Or.inr (sb_ne1 hw).symm), ((Fc.ext E12).other W14 (Or.inr (sb_ne1 hw))).same W19, ((Fn.ext E12).other W14 (Or.inr (sb_ne2 hw))).other W19 (Or.inr (sb_ne3 hw)), k12, _, c12, A, rfl, rfl, Nat.zero_le _, by decide⟩
theorem met_SBi (hw : ∀ d ∈ tables_1, d.before a0 Z = true) (S : Sta Z Z.heap "java/lang/String" "COMPACT_STRINGS" "Z" (.int z)) (hz : ¬ z = 0) {b : Addr} {v0 c0 : Value} (hb : Z.heap.size ≤ b) (E : Exa Z h b SBN) (Fv : Fld Z h b ASB "value" "[B" v0) (Fc : Fld Z h b ASB "coder" "B" c0) (Fn : Fld Z h b ASB "count" "I" (.int 0)) :
    MetW [] l ySBi jdk_67_method_1_code 1 none (Rm 2 1 16 30) #[.ref b] Z a0 EL nw [b] h (fun v h' => v = none ∧ Keep h h' [b] ∧ ∃ t, h.size ≤ t ∧ t < h'.size ∧ SBd Z h' b t [] 16) := by
  refine MetW.of (by first | exact plainFor_of_name (by first | (simp [plainName, overriddenIn]; done) | decide +kernel) | decide +kernel) fun X hX => Go.old fun EZ => ?_
  show Go X _ _ _ _ _ _ _ _ _ _ _ _ _ _ _ _ (mkF X.m 0 #[.val (.ref b)] [])
  refine g_aloadN (pc' := 1) dj67_1_0 rfl rfl rfl ?_
  refine g_bipush (pc' := 3) (w := 16) dj67_1_1 rfl (by decide) ?_
  refine g_invokespecial (pc' := 6) [b] [_] dj67_1_3 rfl rfl (wl_StringBuilder_1 hw) (wm_AbstractStringBuilder_init_lIrV hw) (wb_AbstractStringBuilder_init_lIrV hw) (by decide) (Pay.of_met (met_ASBi hw S hz hb E Fv Fc Fn) (wb_AbstractStringBuilder_init_lIrV hw) (wi_AbstractStringBuilder hw) rfl rfl) pd_lIrV rfl rfl rfl rfl rfl (fun _ q => q) fun v3 h3 q3 l3 => ?_
  obtain ⟨rfl, q⟩ := q3
  refine g_return dj67_1_6 rfl rfl rfl (⟨rfl, q⟩)
theorem met_cod (hw : ∀ d ∈ tables_1, d.before a0 Z = true) (S : Sta Z Z.heap "java/lang/String" "COMPACT_STRINGS" "Z" (.int z)) (hz : ¬ z = 0) {x : Addr} {cd : Int32} (hcd : narrow .byte (.int cd) = .int cd) (C : Fld Z h x "java/lang/String" "coder" "B" (.int cd)) : MetW [] l yCod jdk_42_method_152_code 1 (some .byte) (Rm 0 0 0 0) #[.ref x] Z a0 EL nw [] h (fun v h' => v = some (.int cd) ∧ h' = h) := by
  refine MetW.of (by first | exact plainFor_of_name (by first | (simp [plainName, overriddenIn]; done) | decide +kernel) | decide +kernel) fun X hX => Go.old fun EZ => ?_
  show Go X _ _ _ _ _ _ _ _ _ _ _ _ _ _ _ _ (mkF X.m 0 #[.val (.ref x)] [])
  refine g_getstatic (pc' := 3) dj42_152_0 rfl (wf_String_38 hw) (S) ?_
  refine g_ifeq (pc' := 6) (pc2 := 13) dj42_152_3 rfl (by decide) rfl (fun c3 => ?_) (fun c3 => False.elim (hz c3))
  refine g_aloadN (pc' := 7) dj42_152_6 rfl rfl rfl ?_
  refine g_getfield (pc' := 10) dj42_152_7 rfl (wf_String_15 hw) (C) ?_
  refine g_goto (pc' := 14) dj42_152_10 (by decide) rfl ?_
  refine g_ireturn (t := .byte) dj42_152_14 rfl (by simp) (hcd) rfl rfl (⟨rfl, rfl⟩)
theorem met_inf (hw : ∀ d ∈ tables_1, d.before a0 Z = true) (S : Sta Z Z.heap "java/lang/String" "COMPACT_STRINGS" "Z" (.int z)) (hz : ¬ z = 0) {b x : Addr} {cd : Int32} (hcd : narrow .byte (.int cd) = .int cd) (Fc : Fld Z h b ASB "coder" "B" (.int cd)) (E : Exa Z h x "java/lang/String") (C : Fld Z h x "java/lang/String" "coder" "B" (.int cd)) :
    MetW [] l yInf jdk_68_method_71_code 2 none (Rm 1 0 0 13) #[.ref b, .ref x] Z a0 EL nw [] h (fun v h' => v = none ∧ h' = h) := by
  refine MetW.of (by first | exact plainFor_of_name (by first | (simp [plainName, overriddenIn]; done) | decide +kernel) | decide +kernel) fun X hX => Go.old fun EZ => ?_
  show Go X _ _ _ _ _ _ _ _ _ _ _ _ _ _ _ _ (mkF X.m 0 #[.val (.ref b), .val (.ref x)] [])
  refine g_getstatic (pc' := 3) dj68_71_0 rfl (wf_AbstractStringBuilder_18 hw) (S) ?_
  refine g_ifeq (pc' := 6) (pc2 := 21) dj68_71_3 rfl (by decide) rfl (fun c3 => ?_) (fun c3 => False.elim (hz c3))
  refine g_aloadN (pc' := 7) dj68_71_6 rfl rfl rfl ?_
  refine g_getfield (pc' := 10) dj68_71_7 rfl (wf_AbstractStringBuilder_22 hw) (Fc) ?_
  refine g_aloadN (pc' := 11) dj68_71_10 rfl rfl rfl ?_
  refine g_invokevirtual (pc' := 14) [] [] dj68_71_11 rfl (wl_AbstractStringBuilder_40 hw) (wd_String_coder_lrB hw) (wv_String_String_coder_lrB hw) (wm_String_coder_lrB hw) (by decide) (E) (Pay.of_met (met_cod hw S hz hcd C) (wb_String_coder_lrB hw) (wi_String hw) rfl rfl) pd_lrB rfl rfl rfl rfl rfl (fun _ q => nomatch q) fun v11 h11 q11 l11 => ?_
  obtain ⟨rfl, rfl⟩ := q11
  refine g_icmpeq (pc' := 17) (pc2 := 21) dj68_71_14 rfl (by decide) rfl (fun c14 => False.elim (c14 rfl)) (fun c14 => ?_)
  refine g_return dj68_71_21 rfl rfl rfl (⟨rfl, rfl⟩)
theorem shl0 (x : Int32) : x <<< ((0 : Int32) &&& 31) = x := by
  apply Int32.toBitVec_inj.mp
  rw [Int32.toBitVec_shiftLeft]
  have : (((0 : Int32) &&& 31).toBitVec.smod 32) = 0#32 := by decide
  rw [this]
  simp
theorem own_us {ds : List Int32} {vs : List Value} {d : Value} (hv : vs = bys ds) : ((List.range ds.length).map fun i => vs.getD (0 + i) d) = bys ds := by
  subst hv
  apply List.ext_getElem
  · simp
  · intro i h1 h2
    simp at h1 h2
    simp [List.getD_eq_getElem?_getD, h1]
theorem met_GBy (hw : ∀ d ∈ tables_1, d.before a0 Z = true) (S : Sta Z Z.heap "java/lang/String" "COMPACT_STRINGS" "Z" (.int z)) (hz : ¬ z = 0) {x dst : Addr} {kb : ClassId} {vd : List Value} {cap off : Nat} {ds : List Int32} (T : Str Z h x ds) (hds : ∀ c ∈ ds, ¬ (255 : Int32) < c) (hdst : Z.heap.size ≤ dst) (B : Arv Z h dst kb .byte (Int32.ofNat cap) vd (.int 0)) (hcap : cap ≤ 4000) (hvd : vd.length = cap) (hoff : off + ds.length ≤ cap) :
    MetW [] l yGBy jdk_42_method_147_code 4 none (Rm 1 0 0 40) #[.ref x, .ref dst, .int (Int32.ofNat off), .int 0] Z a0 EL nw [dst] h (fun v h' => v = none ∧ Keep h h' [dst] ∧ Arv Z h' dst kb .byte (Int32.ofNat cap) (vd.take off ++ bys ds ++ vd.drop (off + ds.length)) (.int 0)) := by
  obtain ⟨t, kx, N2, vs, V, C, A, hcod, -, hl⟩ := T.lat hds
  obtain ⟨rfl, rfl⟩ : N2 = Int32.ofNat ds.length ∧ vs = bys ds := by
    rcases hcod with ⟨-, q1, q2, -⟩ | ⟨q, -⟩
    · exact ⟨q1, q2⟩
    · exact absurd q (by decide)
  refine MetW.of (by first | exact plainFor_of_name (by first | (simp [plainName, overriddenIn]; done) | decide +kernel) | decide +kernel) fun X hX => Go.old fun EZ => ?_
  show Go X _ _ _ _ _ _ _ _ _ _ _ _ _ _ _ _ (mkF X.m 0 #[.val (.ref x), .val (.ref dst), .val (.int (Int32.ofNat off)), .val (.int 0)] [])
  refine g_aloadN (pc' := 1) dj42_147_0 rfl rfl rfl ?_
  refine g_invokevirtual (pc' := 4) [] [] dj42_147_1 rfl (wl_String_335 hw) (wd_String_coder_lrB hw) (wv_String_String_coder_lrB hw) (wm_String_coder_lrB hw) (by decide) (T.exa) (Pay.of_met (met_cod hw S hz rfl C) (wb_String_coder_lrB hw) (wi_String hw) rfl rfl) pd_lrB rfl rfl rfl rfl rfl (fun _ q => nomatch q) fun v1 h1 q1 l1 => ?_
  obtain ⟨rfl, rfl⟩ := q1
  refine g_iloadN (pc' := 5) dj42_147_4 rfl rfl ?_
  refine g_icmpne (pc' := 8) (pc2 := 28) dj42_147_5 rfl (by decide) rfl (fun c5 => ?_) (fun c5 => False.elim (c5 rfl))
  refine g_aloadN (pc' := 9) dj42_147_8 rfl rfl rfl ?_
  refine g_getfield (pc' := 12) dj42_147_9 rfl (wf_String_9 hw) (V) ?_
  refine g_iconst (pc' := 13) (w := 0) dj42_147_12 rfl (by decide) ?_
  refine g_aloadN (pc' := 14) dj42_147_13 rfl rfl rfl ?_
  refine g_iloadN (pc' := 15) dj42_147_14 rfl rfl ?_
  refine g_iloadN (pc' := 16) dj42_147_15 rfl rfl ?_
  refine g_ishl (pc' := 17) dj42_147_16 rfl ?_
  rw [shl0]
  refine g_aloadN (pc' := 18) dj42_147_17 rfl rfl rfl ?_
  refine g_getfield (pc' := 21) dj42_147_18 rfl (wf_String_9 hw) (V) ?_
  refine g_arraylength (pc' := 22) dj42_147_21 rfl (A) ?_
  refine g_arraycopy (pc' := 25) dj42_147_22 rfl (wl_String_212 hw) (wn_System_arraycopy_lLjavalangObjectILjavalangObjectIIrV hw) (ws_System_arraycopy_lLjavalangObjectILjavalangObjectIIrV hw) (wi_System hw) A B (by decide) (ofNat_nn (by omega)) (ofNat_nn (by omega)) (by rw [ofNat_clamp (by omega)]; show 0 + ds.length ≤ _; omega) (by rw [ofNat_clamp (by omega), ofNat_clamp (by omega), ofNat_clamp (by omega)]; omega) rfl (by rw [ofNat_clamp (by omega), ofNat_clamp (by omega)]; omega) hdst (List.mem_cons_self ..) rfl rfl rfl fun h22 K22 A22 => ?_
  rw [ofNat_clamp (a := off) (by omega), ofNat_clamp (a := ds.length) (by omega)] at A22
  have e0 : (0 : Int32).toNatClampNeg = 0 := rfl
  rw [e0, own_us rfl] at A22
  refine g_goto (pc' := 43) dj42_147_25 (by decide) rfl ?_
  refine g_return dj42_147_43 rfl rfl rfl (⟨rfl, K22, A22⟩)
theorem met_PSA (hw : ∀ d ∈ tables_1, d.before a0 Z = true) (S : Sta Z Z.heap "java/lang/String" "COMPACT_STRINGS" "Z" (.int z)) (hz : ¬ z = 0) {b t x : Addr} {kb : ClassId} {vd : List Value} {cap off : Nat} {ds : List Int32} (E : Exa Z h b SBN) (Fv : Fld Z h b ASB "value" "[B" (.ref t)) (Fc : Fld Z h b ASB "coder" "B" (.int 0)) (T : Str Z h x ds) (hds : ∀ c ∈ ds, ¬ (255 : Int32) < c) (ht : Z.heap.size ≤ t) (B : Arv Z h t kb .byte (Int32.ofNat cap) vd (.int 0)) (hcap : cap ≤ 4000) (hvd : vd.length = cap) (hoff : off + ds.length ≤ cap) :
    MetW [] l yPSA jdk_68_method_73_code 3 none (Rm 2 0 0 60) #[.ref b, .int (Int32.ofNat off), .ref x] Z a0 EL nw [t] h (fun v h' => v = none ∧ Keep h h' [t] ∧ Arv Z h' t kb .byte (Int32.ofNat cap) (vd.take off ++ bys ds ++ vd.drop (off + ds.length)) (.int 0)) := by
  obtain ⟨tx, kx, N2, vs, V, C, A, hcod, -, hl⟩ := T.lat hds
  refine MetW.of (by first | exact plainFor_of_name (by first | (simp [plainName, overriddenIn]; done) | decide +kernel) | decide +kernel) fun X hX => Go.old fun EZ => ?_
  show Go X _ _ _ _ _ _ _ _ _ _ _ _ _ _ _ _ (mkF X.m 0 #[.val (.ref b), .val (.int (Int32.ofNat off)), .val (.ref x)] [])
  refine g_aloadN (pc' := 1) dj68_73_0 rfl rfl rfl ?_
  refine g_aloadN (pc' := 2) dj68_73_1 rfl rfl rfl ?_
  refine g_private (pc' := 5) [] [_] dj68_73_2 rfl (wl_AbstractStringBuilder_397 hw) (wq_AbstractStringBuilder_inflateIfNeededFor_lLjavalangStringrV hw) (wv_StringBuilder_AbstractStringBuilder_inflateIfNeededFor_lLjavalangStringrV hw) (wm_AbstractStringBuilder_inflateIfNeededFor_lLjavalangStringrV hw) (by decide) (wb_AbstractStringBuilder_inflateIfNeededFor_lLjavalangStringrV hw) (E) (Pay.of_met (met_inf hw S hz rfl Fc T.exa C) (wb_AbstractStringBuilder_inflateIfNeededFor_lLjavalangStringrV hw) (wi_AbstractStringBuilder hw) rfl rfl) pd_lLjavalangStringrV rfl rfl rfl rfl rfl (fun _ q => nomatch q) fun v2 h2 q2 l2 => ?_
  obtain ⟨rfl, rfl⟩ := q2
  refine g_aloadN (pc' := 6) dj68_73_5 rfl rfl rfl ?_
  refine g_aloadN (pc' := 7) dj68_73_6 rfl rfl rfl ?_
  refine g_getfield (pc' := 10) dj68_73_7 rfl (wf_AbstractStringBuilder_15 hw) (Fv) ?_
  refine g_iloadN (pc' := 11) dj68_73_10 rfl rfl ?_
  refine g_aloadN (pc' := 12) dj68_73_11 rfl rfl rfl ?_
  refine g_getfield (pc' := 15) dj68_73_12 rfl (wf_AbstractStringBuilder_22 hw) (Fc) ?_
  refine g_invokevirtual (pc' := 18) [t] [_, _, _] dj68_73_15 rfl (wl_AbstractStringBuilder_399 hw) (wd_String_getBytes_lABIBrV hw) (wv_String_String_getBytes_lABIBrV hw) (wm_String_getBytes_lABIBrV hw) (by decide) (T.exa) (Pay.of_met (met_GBy hw S hz T hds ht B hcap hvd hoff) (wb_String_getBytes_lABIBrV hw) (wi_String hw) rfl rfl) pd_lABIBrV rfl rfl rfl rfl rfl (fun _ q => q) fun v15 h15 q15 l15 => ?_
  obtain ⟨rfl, K15, A15⟩ := q15
  refine g_return dj68_73_18 rfl rfl rfl (⟨rfl, K15, A15⟩)
theorem shr0 (x : Int32) : x >>> ((0 : Int32) &&& 31) = x := by
  apply Int32.toBitVec_inj.mp
  rw [Int32.toBitVec_shiftRight]
  have : (((0 : Int32) &&& 31).toBitVec.smod 32) = 0#32 := by decide
  rw [this]
  simp
theorem ofNat_sub {a b : Nat} (q : b ≤ a) : Int32.ofNat a - Int32.ofNat b = Int32.ofNat (a - b) := by
  have : a = (a - b) + b := by omega
  rw [this, Int32.ofNat_add]
  simp
theorem ofNat_add2 (a b : Nat) : Int32.ofNat a + Int32.ofNat b = Int32.ofNat (a + b) := (Int32.ofNat_add ..).symm
abbrev yMax : MethodName := ⟨"java/lang/Math", "max", "(II)I"⟩
abbrev yMin : MethodName := ⟨"java/lang/Math", "min", "(II)I"⟩
abbrev yNL : MethodName := ⟨"jdk/internal/util/ArraysSupport", "newLength", "(III)I"⟩
abbrev yNC : MethodName := ⟨"java/lang/AbstractStringBuilder", "newCapacity", "(I)I"⟩
abbrev yCO : MethodName := ⟨"java/util/Arrays", "copyOf", "([BI)[B"⟩
abbrev yECI : MethodName := ⟨"java/lang/AbstractStringBuilder", "ensureCapacityInternal", "(I)V"⟩
abbrev yApS : MethodName := ⟨"java/lang/AbstractStringBuilder", "append", "(Ljava/lang/String;)Ljava/lang/AbstractStringBuilder;"⟩
abbrev ySApS : MethodName := ⟨"java/lang/StringBuilder", "append", "(Ljava/lang/String;)Ljava/lang/StringBuilder;"⟩
theorem met_max (hw : ∀ d ∈ tables_1, d.before a0 Z = true) {a b : Nat} (ha : a < 100000) (hb : b < 100000) : MetW [] l yMax jdk_29_method_65_code 2 (some .int) (Rm 0 0 0 0) #[.int (Int32.ofNat a), .int (Int32.ofNat b)] Z a0 EL nw [] h (fun v h' => v = some (.int (Int32.ofNat (max a b))) ∧ h' = h) := by
  refine MetW.of (by first | exact plainFor_of_name (by first | (simp [plainName, overriddenIn]; done) | decide +kernel) | decide +kernel) fun X hX => Go.old fun EZ => ?_
  show Go X _ _ _ _ _ _ _ _ _ _ _ _ _ _ _ _ (mkF X.m 0 #[.val (.int (Int32.ofNat a)), .val (.int (Int32.ofNat b))] [])
  refine g_iloadN (pc' := 1) dj29_65_0 rfl rfl ?_
  refine g_iloadN (pc' := 2) dj29_65_1 rfl rfl ?_
  refine g_icmplt (pc' := 5) (pc2 := 9) dj29_65_2 rfl (by decide) rfl (fun c2 => ?_) (fun c2 => ?_)
  · refine g_iloadN (pc' := 6) dj29_65_5 rfl rfl ?_
    refine g_goto (pc' := 10) dj29_65_6 (by decide) rfl ?_
    rw [ofNat_lt (by omega) (by omega)] at c2
    refine g_ireturn (t := .int) dj29_65_10 rfl (by simp) rfl rfl rfl (⟨by rw [Nat.max_eq_left (by omega)], rfl⟩)
  · refine g_iloadN (pc' := 10) dj29_65_9 rfl rfl ?_
    rw [ofNat_lt (by omega) (by omega)] at c2
    refine g_ireturn (t := .int) dj29_65_10 rfl (by simp) rfl rfl rfl (⟨by rw [Nat.max_eq_right (by omega)], rfl⟩)
theorem met_min (hw : ∀ d ∈ tables_1, d.before a0 Z = true) {a b : Nat} (ha : a < 100000) (hb : b < 100000) : MetW [] l yMin jdk_29_method_69_code 2 (some .int) (Rm 0 0 0 0) #[.int (Int32.ofNat a), .int (Int32.ofNat b)] Z a0 EL nw [] h (fun v h' => v = some (.int (Int32.ofNat (min a b))) ∧ h' = h) := by
  refine MetW.of (by first | exact plainFor_of_name (by first | (simp [plainName, overriddenIn]; done) | decide +kernel) | decide +kernel) fun X hX => Go.old fun EZ => ?_
  show Go X _ _ _ _ _ _ _ _ _ _ _ _ _ _ _ _ (mkF X.m 0 #[.val (.int (Int32.ofNat a)), .val (.int (Int32.ofNat b))] [])
  refine g_iloadN (pc' := 1) dj29_69_0 rfl rfl ?_
  refine g_iloadN (pc' := 2) dj29_69_1 rfl rfl ?_
  refine g_icmpgt (pc' := 5) (pc2 := 9) dj29_69_2 rfl (by decide) rfl (fun c2 => ?_) (fun c2 => ?_)
  · refine g_iloadN (pc' := 6) dj29_69_5 rfl rfl ?_
    refine g_goto (pc' := 10) dj29_69_6 (by decide) rfl ?_
    rw [ofNat_lt (by omega) (by omega)] at c2
    refine g_ireturn (t := .int) dj29_69_10 rfl (by simp) rfl rfl rfl (⟨by rw [Nat.min_eq_left (by omega)], rfl⟩)
  · refine g_iloadN (pc' := 10) dj29_69_9 rfl rfl ?_
    rw [ofNat_lt (by omega) (by omega)] at c2
    refine g_ireturn (t := .int) dj29_69_10 rfl (by simp) rfl rfl rfl (⟨by rw [Nat.min_eq_right (by omega)], rfl⟩)
theorem us_all {vs : List Value} {n : Nat} {d : Value} (hv : vs.length = n) : ((List.range n).map fun i => vs.getD (0 + i) d) = vs := by
  subst hv
  apply List.ext_getElem
  · simp
  · intro i h1 h2
    simp at h1 h2
    simp [List.getD_eq_getElem?_getD, h2]
theorem sub_le {a c : Nat} (q : a ≤ c) (hc : c < 100000) : ¬ (0 : Int32) < Int32.ofNat a - Int32.ofNat c := by
  rw [Int32.lt_iff_toInt_lt, Int32.toInt_sub, toInt_ofNat (by omega), toInt_ofNat (by omega)]
  have z : (0 : Int32).toInt = 0 := rfl
  rw [z]
  have : ((a : Int) - c).bmod (2 ^ 32) = (a : Int) - c := by rw [Int.bmod_def]; omega
  omega
theorem sub_gt {a c : Nat} (q : c < a) (hc : a < 100000) : (0 : Int32) < Int32.ofNat a - Int32.ofNat c := by
  rw [ofNat_sub (by omega)]
  exact (ofNat_lt (a := 0) (by omega) (by omega)).mpr (by omega)
abbrev capOf (N cap : Nat) : Nat := if N ≤ cap then cap else max N (2 * cap + 2)
theorem met_ECI0 (hw : ∀ d ∈ tables_1, d.before a0 Z = true) {b t : Addr} {cs : List Int32} {cap N : Nat} (B : SBd Z h b t cs cap) (hN : N ≤ cap) : MetW [] l yECI jdk_68_method_9_code 3 none (Rm 0 0 0 0) #[.ref b, .int (Int32.ofNat N)] Z a0 EL nw [] h (fun v h' => v = none ∧ h' = h) := by
  obtain ⟨E, Fv, Fc, Fn, kb, vs, hc, A, hvs, htk, hle, h4⟩ := B
  refine MetW.of (by first | exact plainFor_of_name (by first | (simp [plainName, overriddenIn]; done) | decide +kernel) | decide +kernel) fun X hX => Go.old fun EZ => ?_
  show Go X _ _ _ _ _ _ _ _ _ _ _ _ _ _ _ _ (mkF X.m 0 #[.val (.ref b), .val (.int (Int32.ofNat N)), .unset] [])
  refine g_aloadN (pc' := 1) dj68_9_0 rfl rfl rfl ?_
  refine g_getfield (pc' := 4) dj68_9_1 rfl (wf_AbstractStringBuilder_15 hw) (Fv) ?_
  refine g_arraylength (pc' := 5) dj68_9_4 rfl (A) ?_
  refine g_aloadN (pc' := 6) dj68_9_5 rfl rfl rfl ?_
  refine g_getfield (pc' := 9) dj68_9_6 rfl (wf_AbstractStringBuilder_22 hw) (Fc) ?_
  refine g_ishr (pc' := 10) dj68_9_9 rfl ?_
  rw [shr0]
  refine g_istoreN (pc' := 11) (Ls' := #[_, _, _]) dj68_9_10 rfl rfl ?_
  refine g_iloadN (pc' := 12) dj68_9_11 rfl rfl ?_
  refine g_iloadN (pc' := 13) dj68_9_12 rfl rfl ?_
  refine g_isub (pc' := 14) dj68_9_13 rfl ?_
  refine g_ifle (pc' := 17) (pc2 := 38) dj68_9_14 rfl (by decide) rfl (fun c14 => False.elim (sub_le hN (by omega) c14)) (fun c14 => ?_)
  refine g_return dj68_9_38 rfl rfl rfl (⟨rfl, rfl⟩)
theorem asb_ni (hw : ∀ d ∈ tables_1, d.before a0 Z = true) : NI Z ASB := NI.sel (wv_StringBuilder_AbstractStringBuilder_ensureCapacityInternal_lIrV hw)
theorem nf_ni {y : MethodName} (q : NI Z y.cls) : NF Z y := fun s hZ r0 h0 => by
  obtain ⟨c, k, q1, q2, q3⟩ := q
  have e := findClass_of_methodNamed h0
  rw [hZ.alike.findClass] at e
  cases q1.symm.trans e
  obtain ⟨k', z2, z3⟩ := hZ.alike.2.2 _ _ q2
  exact ⟨k', z2, by rw [← q3, z3]; rfl⟩
theorem str_keepW {b x : Addr} {h' : Heap} {C : String} {nI : Nat} {ds : List Int32} (T : Str Z h x ds) (E : Exa Z h b C) (w : (Jvm.Cond.instantiable C nI).before a0 Z = true) (hC : C ≠ "java/lang/String") (K : Keep h h' [b]) : Str Z h' x ds := by
  obtain ⟨E1, t, kb, cd, N2, vs, V, D, A, r⟩ := T
  have q1 : x ∉ [b] := fun q => by cases List.mem_singleton.mp q; exact E.ne E1 hC rfl
  have q2 : t ∉ [b] := fun q => by cases List.mem_singleton.mp q; exact E.neArv A w rfl
  exact ⟨E1.keep K, t, kb, cd, N2, vs, V.keep K q1, D.keep K q1, A.keep K q2, r⟩
abbrev yGV : MethodName := ⟨"java/lang/AbstractStringBuilder", "getValue", "()[B"⟩
abbrev yAL : MethodName := ⟨"java/lang/AbstractStringBuilder", "length", "()I"⟩
abbrev ySL : MethodName := ⟨"java/lang/StringBuilder", "length", "()I"⟩
abbrev yAI : MethodName := ⟨"java/lang/AbstractStringBuilder", "isLatin1", "()Z"⟩
abbrev yCR : MethodName := ⟨"java/util/Arrays", "copyOfRange", "([BII)[B"⟩
abbrev yIA : MethodName := ⟨"java/lang/String", "<init>", "(Ljava/lang/AbstractStringBuilder;Ljava/lang/Void;)V"⟩
abbrev yIS : MethodName := ⟨"java/lang/String", "<init>", "(Ljava/lang/StringBuilder;)V"⟩
abbrev yTS : MethodName := ⟨"java/lang/StringBuilder", "toString", "()Ljava/lang/String;"⟩
theorem met_GV (hw : ∀ d ∈ tables_1, d.before a0 Z = true) {b t : Addr} (Fv : Fld Z h b ASB "value" "[B" (.ref t)) : MetW [] l yGV jdk_68_method_64_code 1 (some (.array .byte)) (Rm 0 0 0 0) #[.ref b] Z a0 EL nw [] h (fun v h' => v = some (.ref t) ∧ h' = h) := by
  refine MetW.of (by first | exact plainFor_of_name (by first | (simp [plainName, overriddenIn]; done) | decide +kernel) | decide +kernel) fun X hX => Go.old fun EZ => ?_
  show Go X _ _ _ _ _ _ _ _ _ _ _ _ _ _ _ _ (mkF X.m 0 #[.val (.ref b)] [])
  refine g_aloadN (pc' := 1) dj68_64_0 rfl rfl rfl ?_
  refine g_getfield (pc' := 4) dj68_64_1 rfl (wf_AbstractStringBuilder_15 hw) (Fv) ?_
  refine g_areturn dj68_64_4 rfl rfl rfl rfl rfl rfl (⟨rfl, rfl⟩)
theorem met_AL (hw : ∀ d ∈ tables_1, d.before a0 Z = true) {b : Addr} {n : Int32} (Fn : Fld Z h b ASB "count" "I" (.int n)) : MetW [] l yAL jdk_68_method_6_code 1 (some .int) (Rm 0 0 0 0) #[.ref b] Z a0 EL nw [] h (fun v h' => v = some (.int n) ∧ h' = h) := by
  refine MetW.of (by first | exact plainFor_of_name (by first | (simp [plainName, overriddenIn]; done) | decide +kernel) | decide +kernel) fun X hX => Go.old fun EZ => ?_
  show Go X _ _ _ _ _ _ _ _ _ _ _ _ _ _ _ _ (mkF X.m 0 #[.val (.ref b)] [])
  refine g_aloadN (pc' := 1) dj68_6_0 rfl rfl rfl ?_
  refine g_getfield (pc' := 4) dj68_6_1 rfl (wf_AbstractStringBuilder_79 hw) (Fn) ?_
  refine g_ireturn (t := .int) dj68_6_4 rfl (by simp) rfl rfl rfl (⟨rfl, rfl⟩)
theorem met_SL (hw : ∀ d ∈ tables_1, d.before a0 Z = true) {b : Addr} {n : Int32} (E : Exa Z h b SBN) (Fn : Fld Z h b ASB "count" "I" (.int n)) : MetW [] l ySL jdk_67_method_93_code 1 (some .int) (Rm 1 0 0 20) #[.ref b] Z a0 EL nw [] h (fun v h' => v = some (.int n) ∧ h' = h) := by
  refine MetW.of (by first | exact plainFor_of_name (by first | (simp [plainName, overriddenIn]; done) | decide +kernel) | decide +kernel) fun X hX => Go.old fun EZ => ?_
  show Go X _ _ _ _ _ _ _ _ _ _ _ _ _ _ _ _ (mkF X.m 0 #[.val (.ref b)] [])
  refine g_aloadN (pc' := 1) dj67_93_0 rfl rfl rfl ?_
  refine g_super (pc' := 4) [] [] dj67_93_1 rfl (by decide) (wl_StringBuilder_343 hw) (wm_AbstractStringBuilder_length_lrI hw) (wz_StringBuilder_AbstractStringBuilder hw) (asb_ni hw) (Ins.self E) (wb_AbstractStringBuilder_length_lrI hw) (by decide) (Pay.of_met (met_AL hw Fn) (wb_AbstractStringBuilder_length_lrI hw) (wi_AbstractStringBuilder hw) rfl rfl) pd_lrI rfl rfl rfl rfl rfl (fun _ q => nomatch q) fun v1 h1 q1 l1 => ?_
  obtain ⟨rfl, rfl⟩ := q1
  refine g_ireturn (t := .int) dj67_93_4 rfl (by simp) rfl rfl rfl (⟨rfl, rfl⟩)
theorem met_AI (hw : ∀ d ∈ tables_1, d.before a0 Z = true) (S : Sta Z Z.heap "java/lang/String" "COMPACT_STRINGS" "Z" (.int z)) (hz : ¬ z = 0) {b : Addr} {cd : Int32} (Fc : Fld Z h b ASB "coder" "B" (.int cd)) : MetW [] l yAI jdk_68_method_68_code 1 (some .boolean) (Rm 0 0 0 0) #[.ref b] Z a0 EL nw [] h (fun v h' => v = some (.int (if cd = 0 then 1 else 0)) ∧ h' = h) := by
  refine MetW.of (by first | exact plainFor_of_name (by first | (simp [plainName, overriddenIn]; done) | decide +kernel) | decide +kernel) fun X hX => Go.old fun EZ => ?_
  show Go X _ _ _ _ _ _ _ _ _ _ _ _ _ _ _ _ (mkF X.m 0 #[.val (.ref b)] [])
  refine g_getstatic (pc' := 3) dj68_68_0 rfl (wf_AbstractStringBuilder_18 hw) (S) ?_
  refine g_ifeq (pc' := 6) (pc2 := 17) dj68_68_3 rfl (by decide) rfl (fun c3 => ?_) (fun c3 => False.elim (hz c3))
  refine g_aloadN (pc' := 7) dj68_68_6 rfl rfl rfl ?_
  refine g_getfield (pc' := 10) dj68_68_7 rfl (wf_AbstractStringBuilder_22 hw) (Fc) ?_
  refine g_ifne (pc' := 13) (pc2 := 17) dj68_68_10 rfl (by decide) rfl (fun c10 => ?_) (fun c10 => ?_)
  · refine g_iconst (pc' := 14) (w := 1) dj68_68_13 rfl (by decide) ?_
    refine g_goto (pc' := 18) dj68_68_14 (by decide) rfl ?_
    refine g_ireturn (t := .boolean) dj68_68_18 rfl (by simp) rfl rfl rfl (⟨by rw [if_pos (by simpa using c10)], rfl⟩)
  · refine g_iconst (pc' := 18) (w := 0) dj68_68_17 rfl (by decide) ?_
    refine g_ireturn (t := .boolean) dj68_68_18 rfl (by simp) rfl rfl rfl (⟨by rw [if_neg (by simpa using c10)], rfl⟩)
end SBs
/-! StringBuilder that grows: newCapacity, copyOf, append(String) -/
section SBg
variable {l : Launch} {R : Room} {Z : State} {a0 : Array Value} {EL : List (String × Nat)} {nw : Bool} {h : Heap} {W : Nat} {z : Int32}
theorem met_NL (hw : ∀ d ∈ tables_1, d.before a0 Z = true) {c g p : Nat} (hc : c < 20000) (hg : 0 < g) (hg' : g < 20000) (hp : p < 20000) : MetW [] l yNL jdk_48_method_27_code 4 (some .int) (Rm 1 0 0 20) #[.int (Int32.ofNat c), .int (Int32.ofNat g), .int (Int32.ofNat p)] Z a0 EL nw [] h (fun v h' => v = some (.int (Int32.ofNat (c + max g p))) ∧ h' = h) := by
  have hm : max g p < 20000 := Nat.max_lt.mpr ⟨hg', hp⟩
  have hm' : g ≤ max g p := Nat.le_max_left ..
  refine MetW.of (by first | exact plainFor_of_name (by first | (simp [plainName, overriddenIn]; done) | decide +kernel) | decide +kernel) fun X hX => Go.old fun EZ => ?_
  show Go X _ _ _ _ _ _ _ _ _ _ _ _ _ _ _ _ (mkF X.m 0 #[.val (.int (Int32.ofNat c)), .val (.int (Int32.ofNat g)), .val (.int (Int32.ofNat p)), .unset] [])
  refine g_iloadN (pc' := 1) dj48_27_0 rfl rfl ?_
  refine g_iloadN (pc' := 2) dj48_27_1 rfl rfl ?_
  refine g_iloadN (pc' := 3) dj48_27_2 rfl rfl ?_
  refine g_invokestatic (pc' := 6) [] [_, _] dj48_27_3 rfl (wl_ArraysSupport_194 hw) (ws_Math_max_lIIrI hw) (wi_Math hw) (wb_Math_max_lIIrI hw) (by decide) (Pay.of_met (met_max hw (by omega) (by omega)) (wb_Math_max_lIIrI hw) (wi_Math hw) rfl rfl) pd_lIIrI rfl rfl rfl rfl rfl (fun _ q => nomatch q) fun v3 h3 q3 l3 => ?_
  obtain ⟨rfl, rfl⟩ := q3
  refine g_iadd (pc' := 7) dj48_27_6 rfl ?_
  rw [ofNat_add2]
  refine g_istoreN (pc' := 8) (Ls' := #[_, _, _, _]) dj48_27_7 rfl rfl ?_
  refine g_iconst (pc' := 9) (w := 0) dj48_27_8 rfl (by decide) ?_
  refine g_iloadN (pc' := 10) dj48_27_9 rfl rfl ?_
  refine g_icmpge (pc' := 13) (pc2 := 21) dj48_27_10 rfl (by decide) rfl (fun c10 => ?_) (fun c10 => False.elim (c10 ((ofNat_lt (a := 0) (by omega) (by omega)).mpr (by omega))))
  refine g_iloadN (pc' := 14) dj48_27_13 rfl rfl ?_
  refine g_ldcI (pc' := 16) dj48_27_14 rfl (wk_ArraysSupport_200 hw) ?_
  refine g_icmpgt (pc' := 19) (pc2 := 21) dj48_27_16 rfl (by decide) rfl (fun c16 => ?_) (fun c16 => False.elim (absurd ((ofNat_lt (a := 2147483639) (by omega) (by omega)).mp c16) (by omega)))
  refine g_iloadN (pc' := 20) dj48_27_19 rfl rfl ?_
  refine g_ireturn (t := .int) dj48_27_20 rfl (by simp) rfl rfl rfl (⟨rfl, rfl⟩)
theorem met_NC (hw : ∀ d ∈ tables_1, d.before a0 Z = true) {b t : Addr} {kb : ClassId} {vs : List Value} {cap N : Nat} (Fv : Fld Z h b ASB "value" "[B" (.ref t)) (Fc : Fld Z h b ASB "coder" "B" (.int 0)) (A : Arv Z h t kb .byte (Int32.ofNat cap) vs (.int 0)) (hcap : cap ≤ 4000) (hN : cap < N) (hN' : N ≤ 9000) : MetW [] l yNC jdk_68_method_10_code 6 (some .int) (Rm 2 0 0 40) #[.ref b, .int (Int32.ofNat N)] Z a0 EL nw [] h (fun v h' => v = some (.int (Int32.ofNat (max N (2 * cap + 2)))) ∧ h' = h) := by
  have hm : cap + max (N - cap) (cap + 2) = max N (2 * cap + 2) := by omega
  have hm' : max N (2 * cap + 2) ≤ 9000 := Nat.max_le.mpr ⟨hN', by omega⟩
  refine MetW.of (by first | exact plainFor_of_name (by first | (simp [plainName, overriddenIn]; done) | decide +kernel) | decide +kernel) fun X hX => Go.old fun EZ => ?_
  show Go X _ _ _ _ _ _ _ _ _ _ _ _ _ _ _ _ (mkF X.m 0 #[.val (.ref b), .val (.int (Int32.ofNat N)), .unset, .unset, .unset, .unset] [])
  refine g_aloadN (pc' := 1) dj68_10_0 rfl rfl rfl ?_
  refine g_getfield (pc' := 4) dj68_10_1 rfl (wf_AbstractStringBuilder_15 hw) (Fv) ?_
  refine g_arraylength (pc' := 5) dj68_10_4 rfl (A) ?_
  refine g_istoreN (pc' := 6) (Ls' := #[_, _, _, _, _, _]) dj68_10_5 rfl rfl ?_
  refine g_iloadN (pc' := 7) dj68_10_6 rfl rfl ?_
  refine g_aloadN (pc' := 8) dj68_10_7 rfl rfl rfl ?_
  refine g_getfield (pc' := 11) dj68_10_8 rfl (wf_AbstractStringBuilder_22 hw) (Fc) ?_
  refine g_ishl (pc' := 12) dj68_10_11 rfl ?_
  rw [shl0]
  refine g_istoreN (pc' := 13) (Ls' := #[_, _, _, _, _, _]) dj68_10_12 rfl rfl ?_
  refine g_iloadN (pc' := 14) dj68_10_13 rfl rfl ?_
  refine g_iloadN (pc' := 15) dj68_10_14 rfl rfl ?_
  refine g_isub (pc' := 16) dj68_10_15 rfl ?_
  rw [ofNat_sub (by omega)]
  refine g_istore (pc' := 18) (Ls' := #[_, _, _, _, _, _]) dj68_10_16 rfl rfl ?_
  refine g_iloadN (pc' := 19) dj68_10_18 rfl rfl ?_
  refine g_iload (pc' := 21) dj68_10_19 rfl rfl ?_
  refine g_iloadN (pc' := 22) dj68_10_21 rfl rfl ?_
  refine g_iconst (pc' := 23) (w := 2) dj68_10_22 rfl (by decide) ?_
  refine g_aloadN (pc' := 24) dj68_10_23 rfl rfl rfl ?_
  refine g_getfield (pc' := 27) dj68_10_24 rfl (wf_AbstractStringBuilder_22 hw) (Fc) ?_
  refine g_ishl (pc' := 28) dj68_10_27 rfl ?_
  rw [shl0]
  refine g_iadd (pc' := 29) dj68_10_28 rfl ?_
  rw [show Int32.ofNat cap + 2 = Int32.ofNat (cap + 2) from ofNat_add2 cap 2]
  refine g_invokestatic (pc' := 32) [] [_, _, _] dj68_10_29 rfl (wl_AbstractStringBuilder_114 hw) (ws_ArraysSupport_newLength_lIIIrI hw) (wi_ArraysSupport hw) (wb_ArraysSupport_newLength_lIIIrI hw) (by decide) (Pay.of_met (met_NL hw (by omega) (by omega) (by omega) (by omega)) (wb_ArraysSupport_newLength_lIIIrI hw) (wi_ArraysSupport hw) rfl rfl) pd_lIIIrI rfl rfl rfl rfl rfl (fun _ q => nomatch q) fun v29 h29 q29 l29 => ?_
  obtain ⟨rfl, rfl⟩ := q29
  rw [hm]
  refine g_istore (pc' := 34) (Ls' := #[_, _, _, _, _, _]) dj68_10_32 rfl rfl ?_
  refine g_iload (pc' := 36) dj68_10_34 rfl rfl ?_
  refine g_ldcI (pc' := 38) dj68_10_36 rfl (wk_AbstractStringBuilder_39 hw) ?_
  refine g_icmpne (pc' := 41) (pc2 := 51) dj68_10_38 rfl (by decide) rfl (fun c38 => False.elim (absurd ((ofNat_inj (b := 2147483647) (by omega) (by omega)).mp c38) (by omega))) (fun c38 => ?_)
  refine g_iload (pc' := 53) dj68_10_51 rfl rfl ?_
  refine g_aloadN (pc' := 54) dj68_10_53 rfl rfl rfl ?_
  refine g_getfield (pc' := 57) dj68_10_54 rfl (wf_AbstractStringBuilder_22 hw) (Fc) ?_
  refine g_ishr (pc' := 58) dj68_10_57 rfl ?_
  rw [shr0]
  refine g_ireturn (t := .int) dj68_10_58 rfl (by simp) rfl rfl rfl (⟨rfl, rfl⟩)
theorem met_CO (hw : ∀ d ∈ tables_1, d.before a0 Z = true) (EZ : Ext Z.heap h) {t : Addr} {kb : ClassId} {vs : List Value} {cap N : Nat} (A : Arv Z h t kb .byte (Int32.ofNat cap) vs (.int 0)) (hvs : vs.length = cap) (hcap : cap ≤ 4000) (hN : cap < N) (hN' : N ≤ 9000) (hW : N ≤ W) : MetW [] l yCO jdk_65_method_121_code 3 (some (.array .byte)) (Rm 1 1 W 60) #[.ref t, .int (Int32.ofNat N)] Z a0 EL nw [] h (fun v h' => ∃ t' kb', v = some (.ref t') ∧ h.size ≤ t' ∧ t' < h'.size ∧ Ext h h' ∧ Z.vm.findClass "[B" = some kb' ∧ Arv Z h' t' kb' .byte (Int32.ofNat N) (vs ++ List.replicate (N - cap) (.int 0)) (.int 0)) := by
  refine MetW.of (by first | exact plainFor_of_name (by first | (simp [plainName, overriddenIn]; done) | decide +kernel) | decide +kernel) fun X hX => Go.old fun EZ => ?_
  show Go X _ _ _ _ _ _ _ _ _ _ _ _ _ _ _ _ (mkF X.m 0 #[.val (.ref t), .val (.int (Int32.ofNat N)), .unset] [])
  refine g_iloadN (pc' := 1) dj65_121_0 rfl rfl ?_
  refine g_aloadN (pc' := 2) dj65_121_1 rfl rfl rfl ?_
  refine g_arraylength (pc' := 3) dj65_121_2 rfl (A) ?_
  refine g_icmpne (pc' := 6) (pc2 := 14) dj65_121_3 rfl (by decide) rfl (fun c3 => False.elim (absurd ((ofNat_inj (by omega) (by omega)).mp c3) (by omega))) (fun c3 => ?_)
  refine g_iloadN (pc' := 15) dj65_121_14 rfl rfl ?_
  refine g_newarrayX (pc' := 17) (cap := N) dj65_121_15 rfl (wa_byte hw) (ofNat_nn (by omega)) (ofNat_clamp (by omega)) (bl (by omega)) rfl (bl (by show 0 + N ≤ W; omega)) fun h15 a15 k15 e15 E15 c15 A15 => ?_
  refine g_astoreN (pc' := 18) (Ls' := #[_, _, _]) dj65_121_17 rfl rfl rfl ?_
  refine g_aloadN (pc' := 19) dj65_121_18 rfl rfl rfl ?_
  refine g_iconst (pc' := 20) (w := 0) dj65_121_19 rfl (by decide) ?_
  refine g_aloadN (pc' := 21) dj65_121_20 rfl rfl rfl ?_
  refine g_iconst (pc' := 22) (w := 0) dj65_121_21 rfl (by decide) ?_
  refine g_aloadN (pc' := 23) dj65_121_22 rfl rfl rfl ?_
  refine g_arraylength (pc' := 24) dj65_121_23 rfl ((A.ext E15)) ?_
  refine g_iloadN (pc' := 25) dj65_121_24 rfl rfl ?_
  refine g_invokestatic (pc' := 28) [] [_, _] dj65_121_25 rfl (wl_Arrays_304 hw) (ws_Math_min_lIIrI hw) (wi_Math hw) (wb_Math_min_lIIrI hw) (by decide) (Pay.of_met (met_min hw (by omega) (by omega)) (wb_Math_min_lIIrI hw) (wi_Math hw) rfl rfl) pd_lIIrI rfl rfl rfl rfl (bl (by show 0 + N + 0 ≤ W; omega)) (fun _ q => nomatch q) fun v25 h25 q25 l25 => ?_
  obtain ⟨rfl, rfl⟩ := q25
  rw [Nat.min_eq_left (by omega)]
  refine g_arraycopy (pc' := 31) dj65_121_28 rfl (wl_Arrays_150 hw) (wn_System_arraycopy_lLjavalangObjectILjavalangObjectIIrV hw) (ws_System_arraycopy_lLjavalangObjectILjavalangObjectIIrV hw) (wi_System hw) (A.ext E15) A15 (by decide) (by decide) (ofNat_nn (by omega)) (by rw [ofNat_clamp (by omega)]; show 0 + cap ≤ _; omega) (by rw [ofNat_clamp (by omega), ofNat_clamp (by omega)]; show 0 + cap ≤ _; omega) rfl (by rw [ofNat_clamp (by omega)]; show 0 + cap ≤ _; rw [List.length_replicate]; omega) (by rw [e15]; exact EZ.1) (List.mem_cons_self ..) rfl rfl rfl fun h28 K28 A28 => ?_
  have e0 : (0 : Int32).toNatClampNeg = 0 := rfl
  rw [e0, ofNat_clamp (a := cap) (by omega), us_all hvs] at A28
  simp only [List.take_zero, List.nil_append, Nat.zero_add, List.drop_replicate] at A28
  refine g_aloadN (pc' := 32) dj65_121_31 rfl rfl rfl ?_
  refine g_areturn dj65_121_32 rfl rfl rfl rfl rfl (bl (by show 0 + N + 0 ≤ W; omega)) ⟨a15, k15, rfl, Nat.le_of_eq e15.symm, A28.lt, ext_keep E15 K28 (allS (Nat.le_of_eq e15.symm) all0), c15, A28⟩
theorem met_ECI (hw : ∀ d ∈ tables_1, d.before a0 Z = true) (EZ : Ext Z.heap h) {b t : Addr} {cs : List Int32} {cap N : Nat} (hb : Z.heap.size ≤ b) (B : SBd Z h b t cs cap) (hcN : capOf N cap ≤ 4000) (hW : capOf N cap ≤ W) : MetW [] l yECI jdk_68_method_9_code 3 none (Rm 3 1 W 80) #[.ref b, .int (Int32.ofNat N)] Z a0 EL true [b] h (fun v h' => v = none ∧ Keep h h' [b] ∧ ∃ t', (t' = t ∨ h.size ≤ t') ∧ t' < h'.size ∧ SBd Z h' b t' cs (capOf N cap)) := by
  obtain ⟨E, Fv, Fc, Fn, kb, vs, hc, A, hvs, htk, hle, h4⟩ := B
  have hbt : b ≠ t := E.neArv A (wn_StringBuilder hw)
  have hN9 : N ≤ 4000 := by unfold capOf at hcN; split at hcN <;> omega
  refine MetW.of (by first | exact plainFor_of_name (by first | (simp [plainName, overriddenIn]; done) | decide +kernel) | decide +kernel) fun X hX => Go.old fun EZ => ?_
  show Go X _ _ _ _ _ _ _ _ _ _ _ _ _ _ _ _ (mkF X.m 0 #[.val (.ref b), .val (.int (Int32.ofNat N)), .unset] [])
  refine g_aloadN (pc' := 1) dj68_9_0 rfl rfl rfl ?_
  refine g_getfield (pc' := 4) dj68_9_1 rfl (wf_AbstractStringBuilder_15 hw) (Fv) ?_
  refine g_arraylength (pc' := 5) dj68_9_4 rfl (A) ?_
  refine g_aloadN (pc' := 6) dj68_9_5 rfl rfl rfl ?_
  refine g_getfield (pc' := 9) dj68_9_6 rfl (wf_AbstractStringBuilder_22 hw) (Fc) ?_
  refine g_ishr (pc' := 10) dj68_9_9 rfl ?_
  rw [shr0]
  refine g_istoreN (pc' := 11) (Ls' := #[_, _, _]) dj68_9_10 rfl rfl ?_
  refine g_iloadN (pc' := 12) dj68_9_11 rfl rfl ?_
  refine g_iloadN (pc' := 13) dj68_9_12 rfl rfl ?_
  refine g_isub (pc' := 14) dj68_9_13 rfl ?_
  by_cases hN : N ≤ cap
  · have e1 : capOf N cap = cap := if_pos hN
    refine g_ifle (pc' := 17) (pc2 := 38) dj68_9_14 rfl (by decide) rfl (fun c14 => False.elim (sub_le hN (by omega) c14)) (fun c14 => ?_)
    refine g_return dj68_9_38 rfl rfl (bl (Nat.zero_le _)) ⟨rfl, Keep.refl _ _, t, Or.inl rfl, A.lt, ?_⟩
    rw [e1]
    exact ⟨E, Fv, Fc, Fn, kb, vs, hc, A, hvs, htk, hle, h4⟩
  · have e1 : capOf N cap = max N (2 * cap + 2) := if_neg hN
    rw [e1] at hW hcN ⊢
    have hmN : N ≤ max N (2 * cap + 2) := Nat.le_max_left ..
    refine g_ifle (pc' := 17) (pc2 := 38) dj68_9_14 rfl (by decide) rfl (fun c14 => ?_) (fun c14 => False.elim (c14 (sub_gt (by omega) (by omega))))
    refine g_aloadN (pc' := 18) dj68_9_17 rfl rfl rfl ?_
    refine g_aloadN (pc' := 19) dj68_9_18 rfl rfl rfl ?_
    refine g_getfield (pc' := 22) dj68_9_19 rfl (wf_AbstractStringBuilder_15 hw) (Fv) ?_
    refine g_aloadN (pc' := 23) dj68_9_22 rfl rfl rfl ?_
    refine g_iloadN (pc' := 24) dj68_9_23 rfl rfl ?_
    refine g_private (pc' := 27) [] [_] dj68_9_24 rfl (wl_AbstractStringBuilder_104 hw) (wq_AbstractStringBuilder_newCapacity_lIrI hw) (wv_StringBuilder_AbstractStringBuilder_newCapacity_lIrI hw) (wm_AbstractStringBuilder_newCapacity_lIrI hw) (by decide) (wb_AbstractStringBuilder_newCapacity_lIrI hw) (E) (Pay.of_met (met_NC hw Fv Fc A h4 (by omega) (by omega)) (wb_AbstractStringBuilder_newCapacity_lIrI hw) (wi_AbstractStringBuilder hw) rfl rfl) pd_lIrI rfl rfl rfl rfl (bl (Nat.zero_le _)) (fun _ q => nomatch q) fun v24 h24 q24 l24 => ?_
    obtain ⟨rfl, e24⟩ := q24
    have e24 := e24.symm
    subst e24
    refine g_aloadN (pc' := 28) dj68_9_27 rfl rfl rfl ?_
    refine g_getfield (pc' := 31) dj68_9_28 rfl (wf_AbstractStringBuilder_22 hw) (Fc) ?_
    refine g_ishl (pc' := 32) dj68_9_31 rfl ?_
    rw [shl0]
    refine g_staticB [] (pc' := 35) [] [_, _] dj68_9_32 rfl (wl_AbstractStringBuilder_108 hw) (ws_Arrays_copyOf_lABIrAB hw) (wi_Arrays hw) (wb_Arrays_copyOf_lABIrAB hw) (by decide) (Pay.of_met (met_CO (W := W) hw EZ A hvs h4 (by omega) (by omega) hW) (wb_Arrays_copyOf_lABIrAB hw) (wi_Arrays hw) rfl rfl) (fun _ _ q => by obtain ⟨_, _, -, -, -, q, -⟩ := q; exact keep_ext q) (fun _ q => nomatch q) pd_lABIrAB rfl rfl rfl rfl (bl (by show 0 + 0 + W ≤ W; omega)) (fun _ q => nomatch q) fun v32 h32 q32 l32 => ?_
    obtain ⟨t', kb', rfl, t1, t2, E32, c32, A32⟩ := q32
    refine ⟨[t'], fun x hx => by cases List.mem_singleton.mp hx; exact ⟨t1, t2⟩, ?_⟩
    refine g_putfield (pc' := 38) dj68_9_35 rfl (wf_AbstractStringBuilder_15 hw) (Fv.ext E32) (E.ext E32) (Or.inl (wy_StringBuilder_AbstractStringBuilder_value hw)) (wn_StringBuilder hw) (ty := (.array .byte)) (by decide) rfl rfl (hb) (by simp) fun h35 W35 => ?_
    have hbt' : t' ≠ b := Nat.ne_of_gt (Nat.lt_of_lt_of_le E.lt t1)
    refine g_return dj68_9_38 rfl rfl (bl (by show 0 + 0 + W ≤ W; omega)) ⟨rfl, ((Keep.refl h [b]).ext E32).wr W35 (Or.inl (List.mem_cons_self ..)), t', Or.inr t1, (A32.other W35 hbt').lt, (E.ext E32).wr W35, (Fv.ext E32).same W35, (Fc.ext E32).other W35 (Or.inr (sb_ne1 hw)), (Fn.ext E32).other W35 (Or.inr (sb_ne2 hw)), kb', _, c32, A32.other W35 hbt', by rw [List.length_append, List.length_replicate, hvs]; omega, ?_, by omega, hcN⟩
    rw [List.take_append_of_le_length (by omega)]
    exact htk
theorem met_ApS (hw : ∀ d ∈ tables_1, d.before a0 Z = true) (S : Sta Z Z.heap "java/lang/String" "COMPACT_STRINGS" "Z" (.int z)) (hz : ¬ z = 0) (EZ : Ext Z.heap h) {b t x : Addr} {cs ds : List Int32} {cap : Nat} (hb : Z.heap.size ≤ b) (ht : Z.heap.size ≤ t) (B : SBd Z h b t cs cap) (T : Str Z h x ds) (hds : ∀ c ∈ ds, ¬ (255 : Int32) < c) (hcN : capOf (cs.length + ds.length) cap ≤ 4000) (hW : capOf (cs.length + ds.length) cap ≤ W) : MetW [] l yApS jdk_68_method_22_code 3 (some (.object ASB)) (Rm 4 1 W 100) #[.ref b, .ref x] Z a0 EL true [b, t] h (fun v h' => v = some (.ref b) ∧ Keep h h' [b, t] ∧ ∃ t', (t' = t ∨ h.size ≤ t') ∧ t' < h'.size ∧ SBd Z h' b t' (cs ++ ds) (capOf (cs.length + ds.length) cap)) := by
  obtain ⟨E, Fv, Fc, Fn, kb, vs, hc, A, hvs, htk, hle, h4⟩ := id B
  have hNc : cs.length + ds.length ≤ capOf (cs.length + ds.length) cap := by unfold capOf; split <;> omega
  refine MetW.of (by first | exact plainFor_of_name (by first | (simp [plainName, overriddenIn]; done) | decide +kernel) | decide +kernel) fun X hX => Go.old fun EZ => ?_
  show Go X _ _ _ _ _ _ _ _ _ _ _ _ _ _ _ _ (mkF X.m 0 #[.val (.ref b), .val (.ref x), .unset] [])
  refine g_aloadN (pc' := 1) dj68_22_0 rfl rfl rfl ?_
  refine g_ifnonnullY (pc2 := 9) dj68_22_1 (by decide) rfl ?_
  refine g_aloadN (pc' := 10) dj68_22_9 rfl rfl rfl ?_
  refine g_invokevirtualN (pc' := 13) [] [] dj68_22_10 rfl (wl_AbstractStringBuilder_32 hw) (wd_String_length_lrI hw) (wv_String_String_length_lrI hw) (wm_String_length_lrI hw) (by decide) (NF.sel (wv_String_String_length_lrI hw)) (T.exa) (pay_len (own_len hw) (wn_String hw) S hz EZ T rfl rfl) pd_lrI rfl rfl rfl rfl (bl (Nat.zero_le _)) (fun _ q => nomatch q) fun v10 h10 q10 l10 => ?_
  obtain ⟨rfl, e10⟩ := q10
  have e10 := e10.symm
  subst e10
  refine g_istoreN (pc' := 14) (Ls' := #[_, _, _]) dj68_22_13 rfl rfl ?_
  refine g_aloadN (pc' := 15) dj68_22_14 rfl rfl rfl ?_
  refine g_aloadN (pc' := 16) dj68_22_15 rfl rfl rfl ?_
  refine g_getfield (pc' := 19) dj68_22_16 rfl (wf_AbstractStringBuilder_79 hw) (Fn) ?_
  refine g_iloadN (pc' := 20) dj68_22_19 rfl rfl ?_
  refine g_iadd (pc' := 21) dj68_22_20 rfl ?_
  rw [ofNat_add2]
  refine g_privateB [b] (pc' := 24) [b] [_] dj68_22_21 rfl (wl_AbstractStringBuilder_100 hw) (wq_AbstractStringBuilder_ensureCapacityInternal_lIrV hw) (wv_StringBuilder_AbstractStringBuilder_ensureCapacityInternal_lIrV hw) (wm_AbstractStringBuilder_ensureCapacityInternal_lIrV hw) (by decide) (wb_AbstractStringBuilder_ensureCapacityInternal_lIrV hw) (E) (Pay.of_met (met_ECI (W := W) hw EZ hb B hcN hW) (wb_AbstractStringBuilder_ensureCapacityInternal_lIrV hw) (wi_AbstractStringBuilder hw) rfl rfl) (fun _ _ q => q.2.1) (fun _ q => by simp at q ⊢; exact Or.inl q) pd_lIrV rfl rfl rfl rfl (bl (by show 0 + 0 + W ≤ W; omega)) (fun _ q => by simp at q ⊢; exact Or.inl q) fun v21 h21 q21 l21 => ?_
  obtain ⟨rfl, K21, t', ht1, ht2, B21⟩ := q21
  have ht0 : Z.heap.size ≤ t' := ht1.elim (fun q => q ▸ ht) fun q => Nat.le_trans EZ.1 q
  have T21 : Str Z h21 x ds := str_keepW T E (wn_StringBuilder hw) (by decide) K21
  obtain ⟨E', Fv', Fc', Fn', kb', vs', hc', A', hvs', htk', hle', h4'⟩ := id B21
  have hbt' : b ≠ t' := E'.neArv A' (wn_StringBuilder hw)
  refine ⟨if t' = t then [] else [t'], fun x hx => by split at hx <;> simp at hx; subst hx; exact ⟨ht1.resolve_left ‹_›, ht2⟩, ?_⟩
  have hm : t' ∈ (if t' = t then [] else [t']) ++ [b, t] := by split <;> simp [*]
  refine g_aloadN (pc' := 25) dj68_22_24 rfl rfl rfl ?_
  refine g_aloadN (pc' := 26) dj68_22_25 rfl rfl rfl ?_
  refine g_getfield (pc' := 29) dj68_22_26 rfl (wf_AbstractStringBuilder_79 hw) (Fn') ?_
  refine g_aloadN (pc' := 30) dj68_22_29 rfl rfl rfl ?_
  refine g_private (pc' := 33) [t'] [_, _] dj68_22_30 rfl (wl_AbstractStringBuilder_208 hw) (wq_AbstractStringBuilder_putStringAt_lILjavalangStringrV hw) (wv_StringBuilder_AbstractStringBuilder_putStringAt_lILjavalangStringrV hw) (wm_AbstractStringBuilder_putStringAt_lILjavalangStringrV hw) (by decide) (wb_AbstractStringBuilder_putStringAt_lILjavalangStringrV hw) (E') (Pay.of_met (met_PSA hw S hz E' Fv' Fc' T21 hds ht0 A' h4' hvs' (by omega)) (wb_AbstractStringBuilder_putStringAt_lILjavalangStringrV hw) (wi_AbstractStringBuilder hw) rfl rfl) pd_lILjavalangStringrV rfl rfl rfl rfl (bl (by show 0 + 0 + W + 0 ≤ W; omega)) (fun _ q => by cases List.mem_singleton.mp q; exact hm) fun v30 h30 q30 l30 => ?_
  obtain ⟨rfl, K30, A30⟩ := q30
  have nb : b ∉ [t'] := fun q => by cases List.mem_singleton.mp q; exact hbt' rfl
  refine g_aloadN (pc' := 34) dj68_22_33 rfl rfl rfl ?_
  refine g_dup (pc' := 35) dj68_22_34 rfl rfl ?_
  refine g_getfield (pc' := 38) dj68_22_35 rfl (wf_AbstractStringBuilder_79 hw) ((Fn'.keep K30 nb)) ?_
  refine g_iloadN (pc' := 39) dj68_22_38 rfl rfl ?_
  refine g_iadd (pc' := 40) dj68_22_39 rfl ?_
  rw [ofNat_add2]
  refine g_putfield (pc' := 43) dj68_22_40 rfl (wf_AbstractStringBuilder_79 hw) (Fn'.keep K30 nb) (E'.keep K30) (Or.inl (wy_StringBuilder_AbstractStringBuilder_count hw)) (wn_StringBuilder hw) (ty := .int) (by decide) rfl rfl (hb) (by simp) fun h40 W40 => ?_
  refine g_aloadN (pc' := 44) dj68_22_43 rfl rfl rfl ?_
  refine g_areturn dj68_22_44 rfl rfl rfl rfl rfl (bl (by show 0 + 0 + W + 0 ≤ W; omega)) ⟨rfl, ?_, t', ht1, (A30.other W40 hbt'.symm).lt, (E'.keep K30).wr W40, (Fv'.keep K30 nb).other W40 (Or.inr (sb_ne2 hw).symm), (Fc'.keep K30 nb).other W40 (Or.inr (sb_ne3 hw).symm), ?_, kb', _, hc', A30.other W40 hbt'.symm, ?_, ?_, ?_, hcN⟩
  · have K1 : Keep h h21 [b, t] := ⟨K21.1, fun y c q r => K21.2.1 y c q (fun u => r (by simp at u ⊢; exact Or.inl u)), K21.2.2⟩
    exact (K1.trans K30 (fun y hy => by cases List.mem_singleton.mp hy; exact ht1.elim (fun q => Or.inl (by rw [q]; simp)) Or.inr)).wr W40 (Or.inl (by simp))
  · rw [List.length_append]
    exact (Fn'.keep K30 nb).same W40
  · simp only [List.length_append, List.length_take, List.length_drop, List.length_map, hvs']
    omega
  · rw [List.take_append_of_le_length (by simp only [List.length_append, List.length_take, List.length_map, hvs']; omega), List.take_of_length_le (by simp only [List.length_append, List.length_take, List.length_map, hvs']; omega), htk']
    exact (List.map_append ..).symm
  · rw [List.length_append]; exact hNc
theorem met_SApS (hw : ∀ d ∈ tables_1, d.before a0 Z = true) (S : Sta Z Z.heap "java/lang/String" "COMPACT_STRINGS" "Z" (.int z)) (hz : ¬ z = 0) (EZ : Ext Z.heap h) {b t x : Addr} {cs ds : List Int32} {cap : Nat} (hb : Z.heap.size ≤ b) (ht : Z.heap.size ≤ t) (B : SBd Z h b t cs cap) (T : Str Z h x ds) (hds : ∀ c ∈ ds, ¬ (255 : Int32) < c) (hcN : capOf (cs.length + ds.length) cap ≤ 4000) (hW : capOf (cs.length + ds.length) cap ≤ W) : MetW [] l ySApS jdk_67_method_7_code 2 (some (.object SBN)) (Rm 5 1 W 120) #[.ref b, .ref x] Z a0 EL true [b, t] h (fun v h' => v = some (.ref b) ∧ Keep h h' [b, t] ∧ ∃ t', (t' = t ∨ h.size ≤ t') ∧ t' < h'.size ∧ SBd Z h' b t' (cs ++ ds) (capOf (cs.length + ds.length) cap)) := by
  refine MetW.of (by first | exact plainFor_of_name (by first | (simp [plainName, overriddenIn]; done) | decide +kernel) | decide +kernel) fun X hX => Go.old fun EZ => ?_
  show Go X _ _ _ _ _ _ _ _ _ _ _ _ _ _ _ _ (mkF X.m 0 #[.val (.ref b), .val (.ref x)] [])
  refine g_aloadN (pc' := 1) dj67_7_0 rfl rfl rfl ?_
  refine g_aloadN (pc' := 2) dj67_7_1 rfl rfl rfl ?_
  refine g_super (pc' := 5) [b, t] [_] dj67_7_2 rfl (by decide) (wl_StringBuilder_29 hw) (wm_AbstractStringBuilder_append_lLjavalangStringrLjavalangAbstractStringBuilder hw) (wz_StringBuilder_AbstractStringBuilder hw) (asb_ni hw) (Ins.self B.1) (wb_AbstractStringBuilder_append_lLjavalangStringrLjavalangAbstractStringBuilder hw) (by decide) (Pay.of_met (met_ApS (W := W) hw S hz EZ hb ht B T hds hcN hW) (wb_AbstractStringBuilder_append_lLjavalangStringrLjavalangAbstractStringBuilder hw) (wi_AbstractStringBuilder hw) rfl rfl) pd_lLjavalangStringrLjavalangAbstractStringBuilder rfl rfl rfl rfl (bl (by show 0 + W ≤ W; omega)) (fun _ q => q) fun v2 h2 q2 l2 => ?_
  obtain ⟨rfl, K2, t', ht1, ht2, B2⟩ := q2
  refine g_pop (pc' := 6) dj67_7_5 rfl rfl ?_
  refine g_aloadN (pc' := 7) dj67_7_6 rfl rfl rfl ?_
  refine g_areturn dj67_7_7 rfl rfl rfl rfl rfl (bl (by show 0 + W ≤ W; omega)) ⟨rfl, K2, t', ht1, ht2, B2⟩
end SBg
/-! toString over the clone road of copyOfRange -/
section SBt
variable {l : Launch} {R : Room} {Z : State} {a0 : Array Value} {EL : List (String × Nat)} {nw : Bool} {h : Heap} {W : Nat} {z : Int32}
theorem met_CR (hw : ∀ d ∈ tables_1, d.before a0 Z = true) {t : Addr} {kb : ClassId} {cap : Nat} {vs : List Value} (hc : Z.vm.findClass "[B" = some kb) (A : Arv Z h t kb .byte (Int32.ofNat cap) vs (.int 0)) (hcap : cap ≤ 4000) (hW : cap ≤ W) : MetW [] l yCR jdk_65_method_132_code 3 (some (.array .byte)) (Rm 1 1 W 40) #[.ref t, .int 0, .int (Int32.ofNat cap)] Z a0 EL nw [] h (fun v h' => ∃ t', v = some (.ref t') ∧ h.size ≤ t' ∧ t' < h'.size ∧ Ext h h' ∧ Arv Z h' t' kb .byte (Int32.ofNat cap) vs (.int 0)) := by
  refine MetW.of (by first | exact plainFor_of_name (by first | (simp [plainName, overriddenIn]; done) | decide +kernel) | decide +kernel) fun X hX => Go.old fun EZ => ?_
  show Go X _ _ _ _ _ _ _ _ _ _ _ _ _ _ _ _ (mkF X.m 0 #[.val (.ref t), .val (.int 0), .val (.int (Int32.ofNat cap))] [])
  refine g_iloadN (pc' := 1) dj65_132_0 rfl rfl ?_
  refine g_ifne (pc' := 4) (pc2 := 10) dj65_132_1 rfl (by decide) rfl (fun c1 => ?_) (fun c1 => False.elim (c1 rfl))
  refine g_iloadN (pc' := 5) dj65_132_4 rfl rfl ?_
  refine g_aloadN (pc' := 6) dj65_132_5 rfl rfl rfl ?_
  refine g_arraylength (pc' := 7) dj65_132_6 rfl (A) ?_
  refine g_icmpeq (pc' := 10) (pc2 := 17) dj65_132_7 rfl (by decide) rfl (fun c7 => False.elim (c7 rfl)) (fun c7 => ?_)
  refine g_aloadN (pc' := 18) dj65_132_17 rfl rfl rfl ?_
  refine g_clone (pc' := 21) (cap := cap) dj65_132_18 rfl (wl_Arrays_310 hw) (wr_AB_Object_clone hw) (wn_Object_clone_lrLjavalangObject hw) (wm_Object_clone_lrLjavalangObject hw) (wv_AB_AB_clone_lrLjavalangObject hw) (wx_AB_Cloneable hw) A (Arv.exa A hc) rfl rfl rfl (by rw [ofNat_clamp (by omega)]; exact Nat.le_refl _) rfl (bl (by show 0 + cap ≤ W; omega)) fun h18 b e18 E18 A18 B18 => ?_
  refine g_checkcast (pc' := 24) dj65_132_21 rfl (wc_Arrays_311 hw) (Ins.self B18) ?_
  refine g_areturn dj65_132_24 rfl rfl rfl rfl rfl (bl (by show 0 + cap ≤ W; omega)) ⟨b, rfl, Nat.le_of_eq e18.symm, A18.lt, E18, A18⟩
theorem met_IA (hw : ∀ d ∈ tables_1, d.before a0 Z = true) (S : Sta Z Z.heap "java/lang/String" "COMPACT_STRINGS" "Z" (.int z)) (hz : ¬ z = 0) {x b t : Addr} {cs : List Int32} {cap : Nat} {v0 c0 : Value} (hx : Z.heap.size ≤ x) (Ex : Exa Z h x "java/lang/String") (V : Fld Z h x "java/lang/String" "value" "[B" v0) (C : Fld Z h x "java/lang/String" "coder" "B" c0) (B : SBd Z h b t cs cap) (hl : cs.length = cap) (hcs : ∀ c ∈ cs, ¬ c < 0 ∧ ¬ (255 : Int32) < c) (hW : cap ≤ W) :
    MetW [] l yIA jdk_42_method_150_code 5 none (Rm 2 1 W 60) #[.ref x, .ref b, .null] Z a0 EL nw [x] h (fun v h' => v = none ∧ Keep h h' [x] ∧ Str Z h' x cs) := by
  have ne : RoadKit.slotOf Z "java/lang/String" "coder" "B" ≠ RoadKit.slotOf Z "java/lang/String" "value" "[B" := slot_ne (Or.inr (wy_String_String_coder hw)) (Or.inr (wy_String_String_value hw)) (by decide) (t := .byte) (t' := .array .byte) (by decide) (by decide)
  obtain ⟨E, Fv, Fc, Fn, kb, vs, hc, A, hvs, htk, hle, h4⟩ := B
  have hxt : t ≠ x := (Ex.neArv A (wn_String hw)).symm
  have hxb : b ≠ x := E.ne Ex (by decide)
  refine MetW.of (by first | exact plainFor_of_name (by first | (simp [plainName, overriddenIn]; done) | decide +kernel) | decide +kernel) fun X hX => Go.old fun EZ => ?_
  show Go X _ _ _ _ _ _ _ _ _ _ _ _ _ _ _ _ (mkF X.m 0 #[.val (.ref x), .val (.ref b), .val (.null), .unset, .unset] [])
  refine g_aloadN (pc' := 1) dj42_150_0 rfl rfl rfl ?_
  refine g_objinit (pc' := 4) dj42_150_1 rfl (wl_String_1 hw) (wm_Object_init_lrV hw) (wb_Object_init_lrV hw) rfl rfl rfl ?_
  refine g_aloadN (pc' := 5) dj42_150_4 rfl rfl rfl ?_
  refine g_invokevirtualN (pc' := 8) [] [] dj42_150_5 rfl (wl_String_552 hw) (wd_AbstractStringBuilder_getValue_lrAB hw) (wv_StringBuilder_AbstractStringBuilder_getValue_lrAB hw) (wm_AbstractStringBuilder_getValue_lrAB hw) (by decide) (NF.sel (wv_StringBuilder_AbstractStringBuilder_getValue_lrAB hw)) (E) (Pay.of_met (met_GV hw Fv) (wb_AbstractStringBuilder_getValue_lrAB hw) (wi_AbstractStringBuilder hw) rfl rfl) pd_lrAB rfl rfl rfl rfl (bl (Nat.zero_le _)) (fun _ q => nomatch q) fun v5 h5 q5 l5 => ?_
  obtain ⟨rfl, e5⟩ := q5
  have e5 := e5.symm
  subst e5
  refine g_astoreN (pc' := 9) (Ls' := #[_, _, _, _, _]) dj42_150_8 rfl rfl rfl ?_
  refine g_aloadN (pc' := 10) dj42_150_9 rfl rfl rfl ?_
  refine g_invokevirtualN (pc' := 13) [] [] dj42_150_10 rfl (wl_String_549 hw) (wd_AbstractStringBuilder_length_lrI hw) (wv_StringBuilder_AbstractStringBuilder_length_lrI hw) (wm_StringBuilder_length_lrI hw) (by decide) (nf_ni (asb_ni hw)) (E) (Pay.of_met (met_SL hw E Fn) (wb_StringBuilder_length_lrI hw) (wi_StringBuilder hw) rfl rfl) pd_lrI rfl rfl rfl rfl (bl (Nat.zero_le _)) (fun _ q => nomatch q) fun v10 h10 q10 l10 => ?_
  obtain ⟨rfl, e10⟩ := q10
  have e10 := e10.symm
  subst e10
  refine g_istore (pc' := 15) (Ls' := #[_, _, _, _, _]) dj42_150_13 rfl rfl ?_
  refine g_aloadN (pc' := 16) dj42_150_15 rfl rfl rfl ?_
  refine g_invokevirtualN (pc' := 19) [] [] dj42_150_16 rfl (wl_String_1047 hw) (wd_AbstractStringBuilder_isLatin1_lrZ hw) (wv_StringBuilder_AbstractStringBuilder_isLatin1_lrZ hw) (wm_AbstractStringBuilder_isLatin1_lrZ hw) (by decide) (NF.sel (wv_StringBuilder_AbstractStringBuilder_isLatin1_lrZ hw)) (E) (Pay.of_met (met_AI hw S hz Fc) (wb_AbstractStringBuilder_isLatin1_lrZ hw) (wi_AbstractStringBuilder hw) rfl rfl) pd_lrZ rfl rfl rfl rfl (bl (Nat.zero_le _)) (fun _ q => nomatch q) fun v16 h16 q16 l16 => ?_
  obtain ⟨rfl, e16⟩ := q16
  have e16 := e16.symm
  subst e16
  refine g_ifeq (pc' := 22) (pc2 := 41) dj42_150_19 rfl (by decide) rfl (fun c19 => ?_) (fun c19 => False.elim (absurd c19 (by decide)))
  refine g_aloadN (pc' := 23) dj42_150_22 rfl rfl rfl ?_
  refine g_iconst (pc' := 24) (w := 0) dj42_150_23 rfl (by decide) ?_
  refine g_putfield (pc' := 27) dj42_150_24 rfl (wf_String_15 hw) (C) (Ex) (Or.inr ⟨wy_String_String_coder hw, rfl, rfl⟩) (wn_String hw) (ty := .byte) (by decide) rfl rfl (hx) (by simp) fun h24 W24 => ?_
  refine g_aloadN (pc' := 28) dj42_150_27 rfl rfl rfl ?_
  refine g_aloadN (pc' := 29) dj42_150_28 rfl rfl rfl ?_
  refine g_iconst (pc' := 30) (w := 0) dj42_150_29 rfl (by decide) ?_
  refine g_iload (pc' := 32) dj42_150_30 rfl rfl ?_
  rw [hl]
  refine g_invokestatic (pc' := 35) [] [_, _, _] dj42_150_32 rfl (wl_String_54 hw) (ws_Arrays_copyOfRange_lABIIrAB hw) (wi_Arrays hw) (wb_Arrays_copyOfRange_lABIIrAB hw) (by decide) (Pay.of_met (met_CR (W := W) hw hc (A.other W24 hxt) h4 hW) (wb_Arrays_copyOfRange_lABIIrAB hw) (wi_Arrays hw) rfl rfl) pd_lABIIrAB rfl rfl rfl rfl (bl (by show 0 + 0 + 0 + 0 + W ≤ W; omega)) (fun _ q => nomatch q) fun v32 h32 q32 l32 => ?_
  obtain ⟨t', rfl, t1, t2, E32, A32⟩ := q32
  refine g_putfield (pc' := 38) dj42_150_35 rfl (wf_String_9 hw) ((V.other W24 (Or.inr ne.symm)).ext E32) ((Ex.wr W24).ext E32) (Or.inr ⟨wy_String_String_value hw, rfl, rfl⟩) (wn_String hw) (ty := (.array .byte)) (by decide) rfl rfl (hx) (by simp) fun h35 W35 => ?_
  have hxt' : t' ≠ x := (((Ex.wr W24).ext E32).neArv A32 (wn_String hw)).symm
  refine g_goto (pc' := 97) dj42_150_38 (by decide) rfl ?_
  refine g_return dj42_150_97 rfl rfl (bl (by show 0 + 0 + 0 + 0 + W ≤ W; omega)) ⟨rfl, (((Keep.refl h [x]).wr W24 (Or.inl (List.mem_cons_self ..))).ext E32).wr W35 (Or.inl (List.mem_cons_self ..)), ((Ex.wr W24).ext E32).wr W35, t', kb, 0, _, vs, ((V.other W24 (Or.inr ne.symm)).ext E32).same W35, ((C.same W24).ext E32).other W35 (Or.inr ne), A32.other W35 hxt', Or.inl ⟨rfl, by rw [hl], ?_, fun c q => (hcs c q).2⟩, up255 hcs, by omega⟩
  rw [List.take_of_length_le (by omega)] at htk
  exact htk
theorem met_IS (hw : ∀ d ∈ tables_1, d.before a0 Z = true) (S : Sta Z Z.heap "java/lang/String" "COMPACT_STRINGS" "Z" (.int z)) (hz : ¬ z = 0) {x b t : Addr} {cs : List Int32} {cap : Nat} {v0 c0 : Value} (hx : Z.heap.size ≤ x) (Ex : Exa Z h x "java/lang/String") (V : Fld Z h x "java/lang/String" "value" "[B" v0) (C : Fld Z h x "java/lang/String" "coder" "B" c0) (B : SBd Z h b t cs cap) (hl : cs.length = cap) (hcs : ∀ c ∈ cs, ¬ c < 0 ∧ ¬ (255 : Int32) < c) (hW : cap ≤ W) :
    MetW [] l yIS jdk_42_method_53_code 2 none (Rm 3 1 W 80) #[.ref x, .ref b] Z a0 EL nw [x] h (fun v h' => v = none ∧ Keep h h' [x] ∧ Str Z h' x cs) := by
  refine MetW.of (by first | exact plainFor_of_name (by first | (simp [plainName, overriddenIn]; done) | decide +kernel) | decide +kernel) fun X hX => Go.old fun EZ => ?_
  show Go X _ _ _ _ _ _ _ _ _ _ _ _ _ _ _ _ (mkF X.m 0 #[.val (.ref x), .val (.ref b)] [])
  refine g_aloadN (pc' := 1) dj42_53_0 rfl rfl rfl ?_
  refine g_aloadN (pc' := 2) dj42_53_1 rfl rfl rfl ?_
  refine g_aconst_null (pc' := 3) dj42_53_2 rfl ?_
  refine g_invokespecial (pc' := 6) [x] [_, _] dj42_53_3 rfl rfl (wl_String_489 hw) (wm_String_init_lLjavalangAbstractStringBuilderLjavalangVoidrV hw) (wb_String_init_lLjavalangAbstractStringBuilderLjavalangVoidrV hw) (by decide) (Pay.of_met (met_IA (W := W) hw S hz hx Ex V C B hl hcs hW) (wb_String_init_lLjavalangAbstractStringBuilderLjavalangVoidrV hw) (wi_String hw) rfl rfl) pd_lLjavalangAbstractStringBuilderLjavalangVoidrV rfl rfl rfl rfl (bl (by show 0 + W ≤ W; omega)) (fun _ q => q) fun v3 h3 q3 l3 => ?_
  obtain ⟨rfl, q⟩ := q3
  exact g_return dj42_53_6 rfl rfl (bl (by show 0 + W ≤ W; omega)) ⟨rfl, q⟩
theorem met_TS (hw : ∀ d ∈ tables_1, d.before a0 Z = true) (S : Sta Z Z.heap "java/lang/String" "COMPACT_STRINGS" "Z" (.int z)) (hz : ¬ z = 0) (EZ : Ext Z.heap h) {b t : Addr} {cs : List Int32} {cap : Nat} (B : SBd Z h b t cs cap) (hl : cs.length = cap) (hcs : ∀ c ∈ cs, ¬ c < 0 ∧ ¬ (255 : Int32) < c) (hW : cap ≤ W) :
    MetW [] l yTS jdk_67_method_42_code 1 (some (.object "java/lang/String")) (Rm 4 2 (W + 4) 100) #[.ref b] Z a0 EL nw [] h (fun v h' => ∃ x, v = some (.ref x) ∧ h.size ≤ x ∧ x < h'.size ∧ Ext h h' ∧ Str Z h' x cs) := by
  refine MetW.of (by first | exact plainFor_of_name (by first | (simp [plainName, overriddenIn]; done) | decide +kernel) | decide +kernel) fun X hX => Go.old fun EZ => ?_
  show Go X _ _ _ _ _ _ _ _ _ _ _ _ _ _ _ _ (mkF X.m 0 #[.val (.ref b)] [])
  refine g_new (pc' := 3) dj67_42_0 rfl (wc_StringBuilder_18 hw) (wn_String hw) (wi_String hw) rfl (bl (by show 0 + 4 ≤ W + 4; omega)) fun h0 a0' e0 E0 A0 D0 => ?_
  refine g_dup (pc' := 4) dj67_42_3 rfl rfl ?_
  refine g_aloadN (pc' := 5) dj67_42_4 rfl rfl rfl ?_
  refine g_invokespecial (pc' := 8) [a0'] [_] dj67_42_5 rfl rfl (wl_StringBuilder_137 hw) (wm_String_init_lLjavalangStringBuilderrV hw) (wb_String_init_lLjavalangStringBuilderrV hw) (by decide) (Pay.of_met (met_IS (W := W) hw S hz (by rw [e0]; exact EZ.1) A0 (D0 (Or.inr (wy_String_String_value hw)) (ty := .array .byte) (by decide)) (D0 (Or.inr (wy_String_String_coder hw)) (ty := .byte) (by decide)) (B.ext E0) hl hcs hW) (wb_String_init_lLjavalangStringBuilderrV hw) (wi_String hw) rfl rfl) pd_lLjavalangStringBuilderrV rfl rfl rfl rfl (bl (by show 0 + 4 + W ≤ W + 4; omega)) (fun _ q => by cases List.mem_singleton.mp q; simp) fun v5 h5 q5 l5 => ?_
  obtain ⟨rfl, K5, T5⟩ := q5
  refine g_areturn dj67_42_8 rfl rfl rfl rfl rfl (bl (by show 0 + 4 + W ≤ W + 4; omega)) ⟨a0', rfl, Nat.le_of_eq e0.symm, T5.lt, ext_keep E0 K5 (allS (Nat.le_of_eq e0.symm) all0), T5⟩
end SBt
/-! new String(char[]) with a char above 255, charAt on it: StringUTF16's bodies, walked -/
section U16
variable {l : Launch} {R : Room} {Z : State} {a0 : Array Value} {EL : List (String × Nat)} {nw : Bool} {h : Heap} {W : Nat}
abbrev U6 : String := "java/lang/StringUTF16"
/-- StringUTF16's statics -/
def SU (Z : State) : Prop := Sta Z Z.heap U6 "$assertionsDisabled" "Z" (.int 1) ∧ Sta Z Z.heap U6 "HI_BYTE_SHIFT" "I" (.int 0) ∧ Sta Z Z.heap U6 "LO_BYTE_SHIFT" "I" (.int 8)
abbrev yPut : MethodName := ⟨"java/lang/StringUTF16", "putChar", "([BII)V"⟩
abbrev yGetC : MethodName := ⟨"java/lang/StringUTF16", "getChar", "([BI)C"⟩
abbrev yNBL : MethodName := ⟨"java/lang/StringUTF16", "newBytesLength", "(I)I"⟩
abbrev yNBF : MethodName := ⟨"java/lang/StringUTF16", "newBytesFor", "(I)[B"⟩
abbrev yTB : MethodName := ⟨"java/lang/StringUTF16", "toBytes", "([CII)[B"⟩
abbrev yC5 : MethodName := ⟨"java/lang/StringUTF16", "compress", "([CI[BII)I"⟩
abbrev yC3 : MethodName := ⟨"java/lang/StringUTF16", "compress", "([CII)[B"⟩
abbrev yCFL : MethodName := ⟨"java/lang/StringUTF16", "coderFromArrayLen", "([BI)B"⟩
abbrev lo8 (c : Int32) : Int32 := StrChars.lo8 c
abbrev hi8 (c : Int32) : Int32 := StrChars.hi8 c
abbrev wideB (cs : List Int32) : List Value := StrChars.Road.wideBytes cs
theorem nar_b8' (x : Int32) : nar .byte x.toInt8.toInt32 = x.toInt8.toInt32 := by simp [nar]
theorem met_put (hw : ∀ d ∈ tables_1, d.before a0 Z = true) (U : SU Z) {dst : Addr} {kb : ClassId} {vs : List Value} {N : Int32} {i : Nat} {c : Int32} (hN : N = Int32.ofNat vs.length) (hl : vs.length ≤ 100000) (hi : 2 * i + 1 < vs.length) (hd : Z.heap.size ≤ dst) (B : Arv Z h dst kb .byte N vs (.int 0)) :
    MetW [] l yPut jdk_52_method_4_code 3 none (Rm 0 0 0 0) #[.ref dst, .int (Int32.ofNat i), .int c] Z a0 EL nw [dst] h
      (fun v h' => v = none ∧ Keep h h' [dst] ∧ Arv Z h' dst kb .byte N ((vs.set (2 * i) (.int (lo8 c))).set (2 * i + 1) (.int (hi8 c))) (.int 0)) := by
  subst hN
  refine MetW.of (by first | exact plainFor_of_name (by first | (simp [plainName, overriddenIn]; done) | decide +kernel) | decide +kernel) fun X hX => Go.old fun EZ => ?_
  show Go X _ _ _ _ _ _ _ _ _ _ _ _ _ _ _ _ (mkF X.m 0 #[.val (.ref dst), .val (.int (Int32.ofNat i)), .val (.int c)] [])
  refine g_getstatic (pc' := 3) dj52_4_0 rfl (wf_StringUTF16_44 hw) (U.1) ?_
  refine g_ifne (pc' := 6) (pc2 := 28) dj52_4_3 rfl (by decide) rfl (fun c3 => False.elim (absurd c3 (by decide))) (fun c3 => ?_)
  refine g_iloadN (pc' := 29) dj52_4_28 rfl rfl ?_
  refine g_iconst (pc' := 30) (w := 1) dj52_4_29 rfl (by decide) ?_
  refine g_ishl (pc' := 31) dj52_4_30 rfl ?_
  rw [shl1]
  refine g_istoreN (pc' := 32) (Ls' := #[_, _, _]) dj52_4_31 rfl rfl ?_
  refine g_aloadN (pc' := 33) dj52_4_32 rfl rfl rfl ?_
  refine g_iloadN (pc' := 34) dj52_4_33 rfl rfl ?_
  refine g_iinc (pc' := 37) (Ls' := #[.val (.ref dst), .val (.int (Int32.ofNat (2 * i + 1))), .val (.int c)]) dj52_4_34 rfl rfl (by rw [ofNat_succ]; rfl) ?_
  refine g_iloadN (pc' := 38) dj52_4_37 rfl rfl ?_
  refine g_getstatic (pc' := 41) dj52_4_38 rfl (wf_StringUTF16_59 hw) (U.2.1) ?_
  refine g_ishr (pc' := 42) dj52_4_41 rfl ?_
  refine g_i2b (pc' := 43) dj52_4_42 rfl ?_
  refine g_bastore (pc' := 44) (i := 2 * i) dj52_4_43 rfl B hd (List.mem_cons_self ..) ⟨ofNat_nn (by omega), (ofNat_lt (by omega) (by omega)).mpr (by omega)⟩ (ofNat_clamp (by omega)) (by omega) fun h43 K43 A43 => ?_
  rw [nar_b8', StrChars.shr0] at A43
  refine g_aloadN (pc' := 45) dj52_4_44 rfl rfl rfl ?_
  refine g_iloadN (pc' := 46) dj52_4_45 rfl rfl ?_
  refine g_iloadN (pc' := 47) dj52_4_46 rfl rfl ?_
  refine g_getstatic (pc' := 50) dj52_4_47 rfl (wf_StringUTF16_63 hw) (U.2.2) ?_
  refine g_ishr (pc' := 51) dj52_4_50 rfl ?_
  refine g_i2b (pc' := 52) dj52_4_51 rfl ?_
  refine g_bastore (pc' := 53) (i := 2 * i + 1) dj52_4_52 rfl A43 hd (List.mem_cons_self ..) ⟨ofNat_nn (by omega), (ofNat_lt (by omega) (by omega)).mpr (by omega)⟩ (ofNat_clamp (by omega)) (by rw [List.length_set]; omega) fun h52 K52 A52 => ?_
  rw [nar_b8'] at A52
  refine g_return dj52_4_53 rfl rfl rfl (⟨rfl, K43.trans K52 (fun _ q => Or.inl q), A52⟩)
theorem met_getC (hw : ∀ d ∈ tables_1, d.before a0 Z = true) (U : SU Z) {b : Addr} {kb : ClassId} {vs : List Value} {N : Int32} {i : Nat} {u v : Int32} (hN : N = Int32.ofNat vs.length) (hl : vs.length ≤ 100000) (hi : 2 * i + 1 < vs.length) (B : Arv Z h b kb .byte N vs (.int 0)) (hu : vs.getD (2 * i) (.int 0) = .int u) (hv : vs.getD (2 * i + 1) (.int 0) = .int v) :
    MetW [] l yGetC jdk_52_method_5_code 2 (some .char) (Rm 0 0 0 0) #[.ref b, .int (Int32.ofNat i)] Z a0 EL nw [] h (fun r h' => r = some (.int (StrChars.pairCh u v)) ∧ h' = h) := by
  subst hN
  refine MetW.of (by first | exact plainFor_of_name (by first | (simp [plainName, overriddenIn]; done) | decide +kernel) | decide +kernel) fun X hX => Go.old fun EZ => ?_
  show Go X _ _ _ _ _ _ _ _ _ _ _ _ _ _ _ _ (mkF X.m 0 #[.val (.ref b), .val (.int (Int32.ofNat i))] [])
  refine g_getstatic (pc' := 3) dj52_5_0 rfl (wf_StringUTF16_44 hw) (U.1) ?_
  refine g_ifne (pc' := 6) (pc2 := 28) dj52_5_3 rfl (by decide) rfl (fun c3 => False.elim (absurd c3 (by decide))) (fun c3 => ?_)
  refine g_iloadN (pc' := 29) dj52_5_28 rfl rfl ?_
  refine g_iconst (pc' := 30) (w := 1) dj52_5_29 rfl (by decide) ?_
  refine g_ishl (pc' := 31) dj52_5_30 rfl ?_
  rw [shl1]
  refine g_istoreN (pc' := 32) (Ls' := #[_, _]) dj52_5_31 rfl rfl ?_
  refine g_aloadN (pc' := 33) dj52_5_32 rfl rfl rfl ?_
  refine g_iloadN (pc' := 34) dj52_5_33 rfl rfl ?_
  refine g_iinc (pc' := 37) (Ls' := #[.val (.ref b), .val (.int (Int32.ofNat (2 * i + 1)))]) dj52_5_34 rfl rfl (by rw [ofNat_succ]; rfl) ?_
  refine g_baload (pc' := 38) (w := u) dj52_5_37 rfl (B) (⟨ofNat_nn (by omega), (ofNat_lt (by omega) (by omega)).mpr (by omega)⟩) (by rw [ofNat_clamp (by omega)]; exact hu) ?_
  refine g_sipush (pc' := 41) (w := 255) dj52_5_38 rfl (by decide) ?_
  refine g_iand (pc' := 42) dj52_5_41 rfl ?_
  refine g_getstatic (pc' := 45) dj52_5_42 rfl (wf_StringUTF16_59 hw) (U.2.1) ?_
  refine g_ishl (pc' := 46) dj52_5_45 rfl ?_
  refine g_aloadN (pc' := 47) dj52_5_46 rfl rfl rfl ?_
  refine g_iloadN (pc' := 48) dj52_5_47 rfl rfl ?_
  refine g_baload (pc' := 49) (w := v) dj52_5_48 rfl (B) (⟨ofNat_nn (by omega), (ofNat_lt (by omega) (by omega)).mpr (by omega)⟩) (by rw [ofNat_clamp (by omega)]; exact hv) ?_
  refine g_sipush (pc' := 52) (w := 255) dj52_5_49 rfl (by decide) ?_
  refine g_iand (pc' := 53) dj52_5_52 rfl ?_
  refine g_getstatic (pc' := 56) dj52_5_53 rfl (wf_StringUTF16_63 hw) (U.2.2) ?_
  refine g_ishl (pc' := 57) dj52_5_56 rfl ?_
  refine g_ior (pc' := 58) dj52_5_57 rfl ?_
  refine g_i2c (pc' := 59) dj52_5_58 rfl ?_
  refine g_ireturn (t := .char) dj52_5_59 rfl (by simp) (congrArg Value.int (nar_idem _)) rfl rfl (⟨rfl, rfl⟩)
theorem met_NBL (hw : ∀ d ∈ tables_1, d.before a0 Z = true) {n : Nat} (hn : n ≤ 4000) : MetW [] l yNBL jdk_52_method_3_code 1 (some .int) (Rm 0 0 0 0) #[.int (Int32.ofNat n)] Z a0 EL nw [] h (fun v h' => v = some (.int (Int32.ofNat (2 * n))) ∧ h' = h) := by
  refine MetW.of (by first | exact plainFor_of_name (by first | (simp [plainName, overriddenIn]; done) | decide +kernel) | decide +kernel) fun X hX => Go.old fun EZ => ?_
  show Go X _ _ _ _ _ _ _ _ _ _ _ _ _ _ _ _ (mkF X.m 0 #[.val (.int (Int32.ofNat n))] [])
  refine g_iloadN (pc' := 1) dj52_3_0 rfl rfl ?_
  refine g_ifge (pc' := 4) (pc2 := 12) dj52_3_1 rfl (by decide) rfl (fun c1 => False.elim (ofNat_nn (by omega) c1)) (fun c1 => ?_)
  refine g_iloadN (pc' := 13) dj52_3_12 rfl rfl ?_
  refine g_ldcI (pc' := 15) dj52_3_13 rfl (wk_StringUTF16_20 hw) ?_
  refine g_icmplt (pc' := 18) (pc2 := 55) dj52_3_15 rfl (by decide) rfl (fun c15 => False.elim (c15 ((ofNat_lt (b := 1073741823) (by omega) (by decide)).mpr (by omega)))) (fun c15 => ?_)
  refine g_iloadN (pc' := 56) dj52_3_55 rfl rfl ?_
  refine g_iconst (pc' := 57) (w := 1) dj52_3_56 rfl (by decide) ?_
  refine g_ishl (pc' := 58) dj52_3_57 rfl ?_
  rw [shl1]
  refine g_ireturn (t := .int) dj52_3_58 rfl (by simp) rfl rfl rfl (⟨rfl, rfl⟩)
theorem met_NBF (hw : ∀ d ∈ tables_1, d.before a0 Z = true) {n M : Nat} (hn : n ≤ M) (hM : M ≤ 4000) : MetW [] l yNBF jdk_52_method_2_code 1 (some (.array .byte)) (Rm 1 1 (2 * M) 12) #[.int (Int32.ofNat n)] Z a0 EL nw [] h
    (fun v h' => ∃ b kb, v = some (.ref b) ∧ b = h.size ∧ Ext h h' ∧ Arv Z h' b kb .byte (Int32.ofNat (2 * n)) (List.replicate (2 * n) (.int 0)) (.int 0)) := by
  refine MetW.of (by first | exact plainFor_of_name (by first | (simp [plainName, overriddenIn]; done) | decide +kernel) | decide +kernel) fun X hX => Go.old fun EZ => ?_
  show Go X _ _ _ _ _ _ _ _ _ _ _ _ _ _ _ _ (mkF X.m 0 #[.val (.int (Int32.ofNat n))] [])
  refine g_iloadN (pc' := 1) dj52_2_0 rfl rfl ?_
  refine g_invokestatic (pc' := 4) [] [_] dj52_2_1 rfl (wl_StringUTF16_11 hw) (ws_StringUTF16_newBytesLength_lIrI hw) (wi_StringUTF16 hw) (wb_StringUTF16_newBytesLength_lIrI hw) (by decide) (Pay.of_met (met_NBL hw (n := n) (by omega)) (wb_StringUTF16_newBytesLength_lIrI hw) (wi_StringUTF16 hw) rfl rfl) pd_lIrI rfl rfl rfl rfl (bl (by simp)) (fun _ q => nomatch q) fun v1 h1 q1 l1 => ?_
  obtain ⟨rfl, rfl⟩ := q1
  refine g_newarray (pc' := 6) (cap := 2 * n) dj52_2_4 rfl (wa_byte hw) (ofNat_nn (by omega)) (ofNat_clamp (by omega)) (bl (by omega)) rfl (bl (by show 0 + 0 + 2 * n ≤ 2 * M; omega)) fun h4 a4 k4 e4 E4 A4 => ?_
  refine g_areturn dj52_2_6 rfl rfl rfl rfl rfl (bl (by show 0 + 0 + 2 * n ≤ 2 * M; omega)) ⟨a4, k4, rfl, e4, E4, A4⟩
theorem wide_len (cs : List Int32) : (wideB cs).length = 2 * cs.length := by
  induction cs with
  | nil => rfl
  | cons c cs ih => show (wideB cs).length + 1 + 1 = 2 * (cs.length + 1); omega
theorem wide_app (as bs : List Int32) : wideB (as ++ bs) = wideB as ++ wideB bs := by
  induction as with
  | nil => rfl
  | cons c cs ih => show Value.int _ :: Value.int _ :: wideB (cs ++ bs) = _; rw [ih]; rfl
theorem wide_step (cs : List Int32) (i : Nat) (hi : i < cs.length) (m : Nat) (hm : m = 2 * (cs.length - i)) : ((wideB (cs.take i) ++ List.replicate m (Value.int 0)).set (2 * i) (.int (lo8 (cs.getD i 0)))).set (2 * i + 1) (.int (hi8 (cs.getD i 0))) = wideB (cs.take (i + 1)) ++ List.replicate (2 * (cs.length - (i + 1))) (Value.int 0) := by
  have hl : (wideB (cs.take i)).length = 2 * i := by rw [wide_len, List.length_take]; omega
  obtain ⟨r, rfl⟩ : ∃ r, m = r + 1 + 1 := ⟨m - 2, by omega⟩
  have hr : 2 * (cs.length - (i + 1)) = r := by omega
  have e1 : cs.take (i + 1) = cs.take i ++ [cs.getD i 0] := by
    rw [List.take_add_one]
    simp [List.getD_eq_getElem?_getD, hi]
  rw [e1, wide_app, hr, List.set_append_right _ _ (by omega), List.set_append_right _ _ (by omega), hl]
  have : 2 * i - 2 * i = 0 := by omega
  rw [this]
  have : 2 * i + 1 - 2 * i = 1 := by omega
  rw [this, List.replicate_succ, List.replicate_succ, List.append_assoc]
  rfl
theorem own_ch_at {cs : List Int32} {d : Value} {i : Nat} (hi : i < cs.length) : (cs.map Value.int).getD i d = .int (cs.getD i 0) := by
  simp [List.getD_eq_getElem?_getD, hi]
theorem met_TB (hw : ∀ d ∈ tables_1, d.before a0 Z = true) (U : SU Z) {src : Addr} {kC : ClassId} {cs : List Int32} {d : Value} {M : Nat} (hn : cs.length ≤ M) (hM : M ≤ 4000) (A : Arv Z h src kC .char (Int32.ofNat cs.length) (cs.map Value.int) d) :
    MetW [] l yTB jdk_52_method_14_code 5 (some (.array .byte)) (Rm 2 1 (2 * M) 30) #[.ref src, .int 0, .int (Int32.ofNat cs.length)] Z a0 EL nw [] h
      (fun v h' => ∃ b kb, v = some (.ref b) ∧ b = h.size ∧ Ext h h' ∧ Arv Z h' b kb .byte (Int32.ofNat (2 * cs.length)) (wideB cs) (.int 0)) := by
  refine MetW.of (by first | exact plainFor_of_name (by first | (simp [plainName, overriddenIn]; done) | decide +kernel) | decide +kernel) fun X hX => Go.old fun EZ => ?_
  show Go X _ _ _ _ _ _ _ _ _ _ _ _ _ _ _ _ (mkF X.m 0 #[.val (.ref src), .val (.int 0), .val (.int (Int32.ofNat cs.length)), .unset, .unset] [])
  refine g_iloadN (pc' := 1) dj52_14_0 rfl rfl ?_
  refine g_invokestaticB (fun v => match v with | some (.ref b) => [b] | _ => []) (pc' := 4) [] [_] dj52_14_1 rfl (wl_StringUTF16_107 hw) (ws_StringUTF16_newBytesFor_lIrAB hw) (wi_StringUTF16 hw) (wb_StringUTF16_newBytesFor_lIrAB hw) (by decide) (Pay.of_met (met_NBF hw hn hM) (wb_StringUTF16_newBytesFor_lIrAB hw) (wi_StringUTF16 hw) rfl rfl) (fun v h' q => q.elim fun _ q => q.elim fun _ q => q.2.2.1) (fun v h' q x hx => by { obtain ⟨b, kb, rfl, eb, E1, B1⟩ := q; cases List.mem_singleton.mp hx; exact ⟨Nat.le_of_eq eb.symm, B1.lt⟩ }) pd_lIrAB rfl rfl rfl rfl (bl (by show 0 + 2 * M ≤ 2 * M; omega)) (fun _ q => nomatch q) fun v1 h1 q1 l1 => ?_
  obtain ⟨b, kb, rfl, eb, E1, B1⟩ := q1
  show Go X _ _ _ _ _ _ _ _ _ _ _ _ ([b] ++ []) _ _ _ _
  have zb : Z.heap.size ≤ b := by rw [eb]; exact EZ.1
  refine g_astoreN (pc' := 5) (Ls' := #[_, _, _, _, _]) dj52_14_4 rfl rfl rfl ?_
  refine g_iconst (pc' := 6) (w := 0) dj52_14_5 rfl (by decide) ?_
  refine g_istore (pc' := 8) (Ls' := #[_, _, _, _, _]) dj52_14_6 rfl rfl ?_
  have loop : ∀ r i hh, cs.length - i = r → i ≤ cs.length → Ext h hh → Arv Z hh b kb .byte (Int32.ofNat (2 * cs.length)) (wideB (cs.take i) ++ List.replicate (2 * (cs.length - i)) (Value.int 0)) (.int 0) →
      Go X (Rm 2 1 (2 * M) 30) Z a0 EL nw yTB jdk_52_method_14_code 5 (some (.array .byte)) (fun v h' => ∃ b kb, v = some (.ref b) ∧ b = h.size ∧ Ext h h' ∧ Arv Z h' b kb .byte (Int32.ofNat (2 * cs.length)) (wideB cs) (.int 0)) (Rm 2 1 (2 * M) 30).cells (Rm 2 1 (2 * M) 30).slots [b] hh 1 (2 * M) (mkF X.m 8 #[.val (.ref src), .val (.int (Int32.ofNat i)), .val (.int (Int32.ofNat cs.length)), .val (.ref b), .val (.int (Int32.ofNat i))] []) := by
    intro r
    induction r with
    | zero =>
      intro i hh hr hi E B
      have ei : i = cs.length := by omega
      subst ei
      refine g_iload (pc' := 10) dj52_14_8 rfl rfl ?_
      refine g_iloadN (pc' := 11) dj52_14_10 rfl rfl ?_
      refine g_icmpge (pc' := 14) (pc2 := 32) dj52_14_11 rfl (by decide) rfl (fun c11 => False.elim (absurd c11 (fun q => absurd ((ofNat_lt (by omega) (by omega)).mp q) (by omega)))) (fun c11 => ?_)
      refine g_aloadN (pc' := 33) dj52_14_32 rfl rfl rfl ?_
      refine g_areturn dj52_14_33 rfl rfl rfl rfl rfl (bl (Nat.le_refl _)) ⟨b, kb, rfl, eb, E, ?_⟩
      simpa using B
    | succ r ih =>
      intro i hh hr hi E B
      have ci : i < cs.length := by omega
      refine g_iload (pc' := 10) dj52_14_8 rfl rfl ?_
      refine g_iloadN (pc' := 11) dj52_14_10 rfl rfl ?_
      refine g_icmpge (pc' := 14) (pc2 := 32) dj52_14_11 rfl (by decide) rfl (fun c11 => ?_) (fun c11 => False.elim (c11 ((ofNat_lt (by omega) (by omega)).mpr ci)))
      refine g_aloadN (pc' := 15) dj52_14_14 rfl rfl rfl ?_
      refine g_iload (pc' := 17) dj52_14_15 rfl rfl ?_
      refine g_aloadN (pc' := 18) dj52_14_17 rfl rfl rfl ?_
      refine g_iloadN (pc' := 19) dj52_14_18 rfl rfl ?_
      refine g_caload (pc' := 20) (w := cs.getD i 0) dj52_14_19 rfl (A.ext E) (⟨ofNat_nn (by omega), c11⟩) (by rw [ofNat_clamp (by omega)]; exact own_ch_at ci) ?_
      refine g_invokestatic (pc' := 23) [b] [_, _, _] dj52_14_20 rfl (wl_StringUTF16_111 hw) (ws_StringUTF16_putChar_lABIIrV hw) (wi_StringUTF16 hw) (wb_StringUTF16_putChar_lABIIrV hw) (by decide) (Pay.of_met (met_put hw U (i := i) (c := cs.getD i 0) (by rw [List.length_append, wide_len, List.length_replicate, List.length_take]; congr 1; omega) (by rw [List.length_append, wide_len, List.length_replicate, List.length_take]; omega) (by rw [List.length_append, wide_len, List.length_replicate, List.length_take]; omega) zb B) (wb_StringUTF16_putChar_lABIIrV hw) (wi_StringUTF16 hw) rfl rfl) pd_lABIIrV rfl rfl rfl rfl (bl (Nat.le_refl _)) (fun _ q => q) fun v20 h20 q20 l20 => ?_
      obtain ⟨rfl, K20, B20⟩ := q20
      rw [wide_step cs i ci _ rfl] at B20
      refine g_iinc (pc' := 26) (Ls' := #[.val (.ref src), .val (.int (Int32.ofNat (i + 1))), .val (.int (Int32.ofNat cs.length)), .val (.ref b), .val (.int (Int32.ofNat i))]) dj52_14_23 rfl rfl (by rw [ofNat_succ]; rfl) ?_
      refine g_iinc (pc' := 29) (Ls' := #[.val (.ref src), .val (.int (Int32.ofNat (i + 1))), .val (.int (Int32.ofNat cs.length)), .val (.ref b), .val (.int (Int32.ofNat (i + 1)))]) dj52_14_26 rfl rfl (by rw [ofNat_succ]; rfl) ?_
      refine g_goto (pc' := 8) dj52_14_29 (by decide) rfl ?_
      exact ih (i + 1) h20 (by omega) (by omega) (ext_keep E K20 (allS (Nat.le_of_eq eb.symm) all0)) B20
  refine Go.mono 1 (2 * M) rfl (bl (by show 0 + 2 * M ≤ 2 * M; omega)) ?_
  exact loop _ 0 h1 rfl (Nat.zero_le _) E1 B1
/-- the first char above 255 -/
theorem met_C5w (hw : ∀ d ∈ tables_1, d.before a0 Z = true) {src dst : Addr} {kC kb : ClassId} {cs : List Int32} {d : Value} (hn : cs.length ≤ 4000) (hwide : ∃ c ∈ cs, (255 : Int32) < c) (A : Arv Z h src kC .char (Int32.ofNat cs.length) (cs.map Value.int) d) (hd : Z.heap.size ≤ dst) (hsd : src ≠ dst) (B : Arv Z h dst kb .byte (Int32.ofNat cs.length) (List.replicate cs.length (.int 0)) (.int 0)) :
    MetW [] l yC5 jdk_52_method_21_code 7 (some .int) (Rm 0 0 0 0) #[.ref src, .int 0, .ref dst, .int 0, .int (Int32.ofNat cs.length)] Z a0 EL nw [dst] h
      (fun v h' => ∃ k, v = some (.int (Int32.ofNat k)) ∧ k < cs.length ∧ (255 : Int32) < cs.getD k 0 ∧ Keep h h' [dst]) := by
  refine MetW.of (by first | exact plainFor_of_name (by first | (simp [plainName, overriddenIn]; done) | decide +kernel) | decide +kernel) fun X hX => Go.old fun EZ => ?_
  show Go X _ _ _ _ _ _ _ _ _ _ _ _ _ _ _ _ (mkF X.m 0 #[.val (.ref src), .val (.int 0), .val (.ref dst), .val (.int 0), .val (.int (Int32.ofNat cs.length)), .unset, .unset] [])
  refine g_iconst (pc' := 1) (w := 0) dj52_21_0 rfl (by decide) ?_
  refine g_istore (pc' := 3) (Ls' := #[_, _, _, _, _, _, _]) dj52_21_1 rfl rfl ?_
  have loop : ∀ r i hh (o : Slot) (vs : List Value), (o = .unset ∨ ∃ q, o = .val (.int q)) → cs.length - i = r → i ≤ cs.length → vs.length = cs.length → (∀ j, j < i → ¬ (255 : Int32) < cs.getD j 0) → Keep h hh [dst] → Arv Z hh dst kb .byte (Int32.ofNat cs.length) vs (.int 0) →
      Go X (Rm 0 0 0 0) Z a0 EL nw yC5 jdk_52_method_21_code 7 (some .int) (fun v h' => ∃ k, v = some (.int (Int32.ofNat k)) ∧ k < cs.length ∧ (255 : Int32) < cs.getD k 0 ∧ Keep h h' [dst]) (Rm 0 0 0 0).cells (Rm 0 0 0 0).slots [dst] hh 0 0 (mkF X.m 3 #[.val (.ref src), .val (.int (Int32.ofNat i)), .val (.ref dst), .val (.int (Int32.ofNat i)), .val (.int (Int32.ofNat cs.length)), .val (.int (Int32.ofNat i)), o] []) := by
    intro r
    induction r with
    | zero =>
      intro i hh o vs ho hr hi hv hall K B
      exfalso
      obtain ⟨c, hc, hcw⟩ := hwide
      obtain ⟨j, hj, e⟩ := List.getElem_of_mem hc
      refine hall j (by omega) ?_
      simp [List.getD_eq_getElem?_getD, hj, e, hcw]
    | succ r ih =>
      intro i hh o vs ho hr hi hv hall K B
      have ci : i < cs.length := by omega
      have hst : ∀ q : Int32, storeLocals #[.val (.ref src), .val (.int (Int32.ofNat i)), .val (.ref dst), .val (.int (Int32.ofNat i)), .val (.int (Int32.ofNat cs.length)), .val (.int (Int32.ofNat i)), o] 6 (.int q) = some #[.val (.ref src), .val (.int (Int32.ofNat i)), .val (.ref dst), .val (.int (Int32.ofNat i)), .val (.int (Int32.ofNat cs.length)), .val (.int (Int32.ofNat i)), .val (.int q)] := by
        intro q
        rcases ho with rfl | ⟨q', rfl⟩ <;> rfl
      refine g_iload (pc' := 5) dj52_21_3 rfl rfl ?_
      refine g_iload (pc' := 7) dj52_21_5 rfl rfl ?_
      refine g_icmpge (pc' := 10) (pc2 := 44) dj52_21_7 rfl (by decide) rfl (fun c7 => ?_) (fun c7 => False.elim (c7 ((ofNat_lt (by omega) (by omega)).mpr ci)))
      refine g_aloadN (pc' := 11) dj52_21_10 rfl rfl rfl ?_
      refine g_iloadN (pc' := 12) dj52_21_11 rfl rfl ?_
      refine g_caload (pc' := 13) (w := cs.getD i 0) dj52_21_12 rfl (A.keep K (ninS hsd nin0)) (⟨ofNat_nn (by omega), c7⟩) (by rw [ofNat_clamp (by omega)]; exact own_ch_at ci) ?_
      refine g_istore (pc' := 15) dj52_21_13 rfl (hst _) ?_
      refine g_iload (pc' := 17) dj52_21_15 rfl rfl ?_
      refine g_sipush (pc' := 20) (w := 255) dj52_21_17 rfl (by decide) ?_
      refine g_icmple (pc' := 23) (pc2 := 26) dj52_21_20 rfl (by decide) rfl (fun c20 => ?_) (fun c20 => ?_)
      · refine g_iload (pc' := 25) dj52_21_23 rfl rfl ?_
        refine g_ireturn (t := .int) dj52_21_25 rfl (by simp) rfl rfl rfl (⟨i, rfl, ci, c20, K⟩)
      · refine g_aloadN (pc' := 27) dj52_21_26 rfl rfl rfl ?_
        refine g_iloadN (pc' := 28) dj52_21_27 rfl rfl ?_
        refine g_iload (pc' := 30) dj52_21_28 rfl rfl ?_
        refine g_i2b (pc' := 31) dj52_21_30 rfl ?_
        refine g_bastore (pc' := 32) (i := i) dj52_21_31 rfl B hd (List.mem_cons_self ..) ⟨ofNat_nn (by omega), c7⟩ (ofNat_clamp (by omega)) (by omega) fun h31 K31 A31 => ?_
        refine g_iinc (pc' := 35) (Ls' := #[.val (.ref src), .val (.int (Int32.ofNat (i + 1))), .val (.ref dst), .val (.int (Int32.ofNat i)), .val (.int (Int32.ofNat cs.length)), .val (.int (Int32.ofNat i)), .val (.int (cs.getD i 0))]) dj52_21_32 rfl rfl (by rw [ofNat_succ]; rfl) ?_
        refine g_iinc (pc' := 38) (Ls' := #[.val (.ref src), .val (.int (Int32.ofNat (i + 1))), .val (.ref dst), .val (.int (Int32.ofNat (i + 1))), .val (.int (Int32.ofNat cs.length)), .val (.int (Int32.ofNat i)), .val (.int (cs.getD i 0))]) dj52_21_35 rfl rfl (by rw [ofNat_succ]; rfl) ?_
        refine g_iinc (pc' := 41) (Ls' := #[.val (.ref src), .val (.int (Int32.ofNat (i + 1))), .val (.ref dst), .val (.int (Int32.ofNat (i + 1))), .val (.int (Int32.ofNat cs.length)), .val (.int (Int32.ofNat (i + 1))), .val (.int (cs.getD i 0))]) dj52_21_38 rfl rfl (by rw [ofNat_succ]; rfl) ?_
        refine g_goto (pc' := 3) dj52_21_41 (by decide) rfl ?_
        refine ih (i + 1) h31 _ _ (Or.inr ⟨_, rfl⟩) (by omega) (by omega) (by rw [List.length_set]; exact hv) (fun j hj => ?_) (K.trans K31 (fun _ q => Or.inl q)) A31
        by_cases q : j = i
        · rw [q]; exact c20
        · exact hall j (by omega)
  exact loop _ 0 h .unset _ (Or.inl rfl) rfl (Nat.zero_le _) (List.length_replicate ..) (fun j hj => absurd hj (Nat.not_lt_zero _)) (Keep.refl _ _) B
theorem met_C3w (hw : ∀ d ∈ tables_1, d.before a0 Z = true) (U : SU Z) {src : Addr} {kC : ClassId} {cs : List Int32} {d : Value} {M : Nat} (hn : cs.length ≤ M) (hM : M ≤ 4000) (hwide : ∃ c ∈ cs, (255 : Int32) < c) (hb : ∀ c ∈ cs, ¬ c < 0 ∧ ¬ (65535 : Int32) < c) (A : Arv Z h src kC .char (Int32.ofNat cs.length) (cs.map Value.int) d) :
    MetW [] l yC3 jdk_52_method_16_code 6 (some (.array .byte)) (Rm 3 2 (3 * M) 50) #[.ref src, .int 0, .int (Int32.ofNat cs.length)] Z a0 EL true [] h
      (fun v h' => ∃ b kb, v = some (.ref b) ∧ h.size ≤ b ∧ Ext h h' ∧ Arv Z h' b kb .byte (Int32.ofNat (2 * cs.length)) (wideB cs) (.int 0)) := by
  refine MetW.of (by first | exact plainFor_of_name (by first | (simp [plainName, overriddenIn]; done) | decide +kernel) | decide +kernel) fun X hX => Go.old fun EZ => ?_
  show Go X _ _ _ _ _ _ _ _ _ _ _ _ _ _ _ _ (mkF X.m 0 #[.val (.ref src), .val (.int 0), .val (.int (Int32.ofNat cs.length)), .unset, .unset, .unset] [])
  refine g_iloadN (pc' := 1) dj52_16_0 rfl rfl ?_
  refine g_newarray (pc' := 3) (cap := cs.length) dj52_16_1 rfl (wa_byte hw) (ofNat_nn (by omega)) (ofNat_clamp (by omega)) (bl (by omega)) rfl (bl (by show 0 + cs.length ≤ 3 * M; omega)) fun h1 a1 k1 e1 E1 A1 => ?_
  have zb : Z.heap.size ≤ a1 := by rw [e1]; exact EZ.1
  have hsd : src ≠ a1 := Nat.ne_of_lt (by rw [e1]; exact A.lt)
  refine g_astoreN (pc' := 4) (Ls' := #[_, _, _, _, _, _]) dj52_16_3 rfl rfl rfl ?_
  refine g_aloadN (pc' := 5) dj52_16_4 rfl rfl rfl ?_
  refine g_iloadN (pc' := 6) dj52_16_5 rfl rfl ?_
  refine g_aloadN (pc' := 7) dj52_16_6 rfl rfl rfl ?_
  refine g_iconst (pc' := 8) (w := 0) dj52_16_7 rfl (by decide) ?_
  refine g_iloadN (pc' := 9) dj52_16_8 rfl rfl ?_
  refine g_invokestatic (pc' := 12) [a1] [_, _, _, _, _] dj52_16_9 rfl (wl_StringUTF16_115 hw) (ws_StringUTF16_compress_lACIABIIrI hw) (wi_StringUTF16 hw) (wb_StringUTF16_compress_lACIABIIrI hw) (by decide) (Pay.of_met (met_C5w hw (by omega) hwide (A.ext E1) zb hsd A1) (wb_StringUTF16_compress_lACIABIIrI hw) (wi_StringUTF16 hw) rfl rfl) pd_lACIABIIrI rfl rfl rfl rfl (bl (by show 0 + cs.length + 0 ≤ 3 * M; omega)) (fun _ q => q) fun v9 h9 q9 l9 => ?_
  obtain ⟨k, rfl, hk, hck, K9⟩ := q9
  have E9 : Ext h h9 := ext_keep E1 K9 (allS (Nat.le_of_eq e1.symm) all0)
  refine g_istore (pc' := 14) (Ls' := #[_, _, _, _, _, _]) dj52_16_12 rfl rfl ?_
  refine g_iload (pc' := 16) dj52_16_14 rfl rfl ?_
  refine g_iloadN (pc' := 17) dj52_16_16 rfl rfl ?_
  refine g_icmpeq (pc' := 20) (pc2 := 57) dj52_16_17 rfl (by decide) rfl (fun c17 => ?_) (fun c17 => False.elim (absurd ((ofNat_inj (by omega) (by omega)).mp c17) (by omega)))
  refine g_aloadN (pc' := 21) dj52_16_20 rfl rfl rfl ?_
  refine g_iloadN (pc' := 22) dj52_16_21 rfl rfl ?_
  refine g_iloadN (pc' := 23) dj52_16_22 rfl rfl ?_
  refine g_invokestatic (pc' := 26) [] [_, _, _] dj52_16_23 rfl (wl_StringUTF16_119 hw) (ws_StringUTF16_toBytes_lACIIrAB hw) (wi_StringUTF16 hw) (wb_StringUTF16_toBytes_lACIIrAB hw) (by decide) (Pay.of_met (met_TB hw U hn hM (A.ext E9)) (wb_StringUTF16_toBytes_lACIIrAB hw) (wi_StringUTF16 hw) rfl rfl) pd_lACIIrAB rfl rfl rfl rfl (bl (by show 0 + cs.length + 0 + 2 * M ≤ 3 * M; omega)) (fun _ q => nomatch q) fun v23 h23 q23 l23 => ?_
  obtain ⟨b, kb, rfl, eb, E23, B23⟩ := q23
  refine g_astore (pc' := 28) (Ls' := #[_, _, _, _, _, _]) dj52_16_26 rfl rfl rfl ?_
  refine g_aload (pc' := 30) dj52_16_28 rfl rfl rfl ?_
  refine g_iload (pc' := 32) dj52_16_30 rfl rfl ?_
  have hc := hb (cs.getD k 0) (by simp [List.getD_eq_getElem?_getD, hk])
  refine g_invokestatic (pc' := 35) [] [_, _] dj52_16_32 rfl (wl_StringUTF16_71 hw) (ws_StringUTF16_getChar_lABIrC hw) (wi_StringUTF16 hw) (wb_StringUTF16_getChar_lABIrC hw) (by decide) (Pay.of_met (met_getC hw U (i := k) (by rw [wide_len]) (by rw [wide_len]; omega) (by rw [wide_len]; omega) B23 (StrChars.Road.wide_lo _ cs k hk) (StrChars.Road.wide_hi _ cs k hk)) (wb_StringUTF16_getChar_lABIrC hw) (wi_StringUTF16 hw) rfl rfl) pd_lABIrC rfl rfl rfl rfl (bl (by show 0 + cs.length + 0 + 2 * M + 0 ≤ 3 * M; omega)) (fun _ q => nomatch q) fun v32 h32 q32 l32 => ?_
  obtain ⟨rfl, rfl⟩ := q32
  rw [StrChars.pair_says hc.1 hc.2]
  refine g_sipush (pc' := 38) (w := 255) dj52_16_35 rfl (by decide) ?_
  refine g_icmpgt (pc' := 41) (pc2 := 54) dj52_16_38 rfl (by decide) rfl (fun c38 => False.elim (c38 hck)) (fun c38 => ?_)
  refine g_aload (pc' := 56) dj52_16_54 rfl rfl rfl ?_
  refine g_areturn dj52_16_56 rfl rfl rfl rfl rfl (bl (by show 0 + cs.length + 0 + 2 * M + 0 ≤ 3 * M; omega)) ⟨b, kb, rfl, ?_, ext_trans E9 E23, B23⟩
  rw [eb]; exact E9.1
theorem met_CFL (hw : ∀ d ∈ tables_1, d.before a0 Z = true) {b : Addr} {kb : ClassId} {n : Nat} {vs : List Value} {d : Value} (h0 : 0 < n) (hn : n ≤ 4000) (B : Arv Z h b kb .byte (Int32.ofNat (2 * n)) vs d) : MetW [] l yCFL jdk_52_method_15_code 2 (some .byte) (Rm 0 0 0 0) #[.ref b, .int (Int32.ofNat n)] Z a0 EL nw [] h (fun v h' => v = some (.int 1) ∧ h' = h) := by
  refine MetW.of (by first | exact plainFor_of_name (by first | (simp [plainName, overriddenIn]; done) | decide +kernel) | decide +kernel) fun X hX => Go.old fun EZ => ?_
  show Go X _ _ _ _ _ _ _ _ _ _ _ _ _ _ _ _ (mkF X.m 0 #[.val (.ref b), .val (.int (Int32.ofNat n))] [])
  refine g_iloadN (pc' := 1) dj52_15_0 rfl rfl ?_
  refine g_aloadN (pc' := 2) dj52_15_1 rfl rfl rfl ?_
  refine g_arraylength (pc' := 3) dj52_15_2 rfl (B) ?_
  refine g_isub (pc' := 4) dj52_15_3 rfl ?_
  refine g_bipush (pc' := 6) (w := 31) dj52_15_4 rfl (by decide) ?_
  refine g_iushr (pc' := 7) dj52_15_6 rfl ?_
  refine g_i2b (pc' := 8) dj52_15_7 rfl ?_
  rw [cod1 h0 hn]
  refine g_ireturn (t := .byte) dj52_15_8 rfl (by simp) rfl rfl rfl (⟨rfl, rfl⟩)
abbrev yI4' : MethodName := ⟨"java/lang/String", "<init>", "([CIILjava/lang/Void;)V"⟩
abbrev yI1' : MethodName := ⟨"java/lang/String", "<init>", "([C)V"⟩
theorem met_I4w {z : Int32} (hw : ∀ d ∈ tables_1, d.before a0 Z = true) (U : SU Z) (S : Sta Z Z.heap "java/lang/String" "COMPACT_STRINGS" "Z" (.int z)) (hz : ¬ z = 0) {x b : Addr} {kC : ClassId} {cs : List Int32} {d v0 c0 : Value} {M : Nat} (hn : cs.length ≤ M) (hM : M ≤ 4000) (hwide : ∃ c ∈ cs, (255 : Int32) < c) (hb : ∀ c ∈ cs, ¬ c < 0 ∧ ¬ (65535 : Int32) < c) (hx : Z.heap.size ≤ x) (E : Exa Z h x "java/lang/String") (V : Fld Z h x "java/lang/String" "value" "[B" v0) (C : Fld Z h x "java/lang/String" "coder" "B" c0) (A : Arv Z h b kC .char (Int32.ofNat cs.length) (cs.map Value.int) d) :
    MetW [] l yI4' jdk_42_method_149_code 6 none (Rm 4 2 (3 * M) 70) #[.ref x, .ref b, .int 0, .int (Int32.ofNat cs.length), .null] Z a0 EL nw [x] h (fun v h' => v = none ∧ Keep h h' [x] ∧ Str Z h' x cs) := by
  have hpos : 0 < cs.length := by obtain ⟨c, hc, -⟩ := hwide; exact List.length_pos_of_mem hc
  refine MetW.of (by first | exact plainFor_of_name (by first | (simp [plainName, overriddenIn]; done) | decide +kernel) | decide +kernel) fun X hX => Go.old fun EZ => ?_
  show Go X _ _ _ _ _ _ _ _ _ _ _ _ _ _ _ _ (mkF X.m 0 #[.val (.ref x), .val (.ref b), .val (.int 0), .val (.int (Int32.ofNat cs.length)), .val (.null), .unset] [])
  have ne : RoadKit.slotOf Z "java/lang/String" "coder" "B" ≠ RoadKit.slotOf Z "java/lang/String" "value" "[B" := slot_ne (Or.inr (wy_String_String_coder hw)) (Or.inr (wy_String_String_value hw)) (by decide) (t := .byte) (t' := .array .byte) (by decide) (by decide)
  refine g_aloadN (pc' := 1) dj42_149_0 rfl rfl rfl ?_
  refine g_objinit (pc' := 4) dj42_149_1 rfl (wl_String_1 hw) (wm_Object_init_lrV hw) (wb_Object_init_lrV hw) rfl rfl rfl ?_
  refine g_iloadN (pc' := 5) dj42_149_4 rfl rfl ?_
  refine g_ifne (pc' := 8) (pc2 := 27) dj42_149_5 rfl (by decide) rfl (fun c5 => False.elim (absurd ((ofNat_inj (b := 0) (by omega) (by decide)).mp c5) (by omega))) (fun c5 => ?_)
  refine g_getstatic (pc' := 30) dj42_149_27 rfl (wf_String_38 hw) (S) ?_
  refine g_ifeq (pc' := 33) (pc2 := 58) dj42_149_30 rfl (by decide) rfl (fun c30 => ?_) (fun c30 => False.elim (hz c30))
  refine g_aloadN (pc' := 34) dj42_149_33 rfl rfl rfl ?_
  refine g_iloadN (pc' := 35) dj42_149_34 rfl rfl ?_
  refine g_iloadN (pc' := 36) dj42_149_35 rfl rfl ?_
  refine g_invokestaticB (fun v => match v with | some (.ref b) => [b] | _ => []) (pc' := 39) [] [_, _, _] dj42_149_36 rfl (wl_String_177 hw) (ws_StringUTF16_compress_lACIIrAB hw) (wi_StringUTF16 hw) (wb_StringUTF16_compress_lACIIrAB hw) (by decide) (Pay.of_met (met_C3w hw U hn hM hwide hb A) (wb_StringUTF16_compress_lACIIrAB hw) (wi_StringUTF16 hw) rfl rfl) (fun v h' q => q.elim fun _ q => q.elim fun _ q => q.2.2.1) (fun v h' q x hx => by { obtain ⟨b, kb, rfl, eb, E1, B1⟩ := q; cases List.mem_singleton.mp hx; exact ⟨eb, B1.lt⟩ }) pd_lACIIrAB rfl rfl rfl rfl (bl (by show 0 + 3 * M ≤ 3 * M; omega)) (fun _ q => nomatch q) fun v36 h36 q36 l36 => ?_
  obtain ⟨t, kb, rfl, lt, E36, B36⟩ := q36
  show Go X _ _ _ _ _ _ _ _ _ _ _ _ ([t] ++ [x]) _ _ _ _
  have hxt : x ≠ t := Nat.ne_of_lt (Nat.lt_of_lt_of_le E.lt lt)
  refine g_astore (pc' := 41) (Ls' := #[_, _, _, _, _, _]) dj42_149_39 rfl rfl rfl ?_
  refine g_aloadN (pc' := 42) dj42_149_41 rfl rfl rfl ?_
  refine g_aload (pc' := 44) dj42_149_42 rfl rfl rfl ?_
  refine g_iloadN (pc' := 45) dj42_149_44 rfl rfl ?_
  refine g_invokestatic (pc' := 48) [] [_, _] dj42_149_45 rfl (wl_String_47 hw) (ws_StringUTF16_coderFromArrayLen_lABIrB hw) (wi_StringUTF16 hw) (wb_StringUTF16_coderFromArrayLen_lABIrB hw) (by decide) (Pay.of_met (met_CFL hw hpos (by omega) B36) (wb_StringUTF16_coderFromArrayLen_lABIrB hw) (wi_StringUTF16 hw) rfl rfl) pd_lABIrB rfl rfl rfl rfl (bl (by show 0 + 3 * M + 0 ≤ 3 * M; omega)) (fun _ q => nomatch q) fun v45 h45 q45 l45 => ?_
  obtain ⟨rfl, rfl⟩ := q45
  refine g_putfield (pc' := 51) dj42_149_48 rfl (wf_String_15 hw) (C.ext E36) (E.ext E36) (Or.inr ⟨wy_String_String_coder hw, rfl, rfl⟩) (wn_String hw) (ty := .byte) (by decide) rfl rfl (hx) (by simp) fun h48 W48 => ?_
  refine g_aloadN (pc' := 52) dj42_149_51 rfl rfl rfl ?_
  refine g_aload (pc' := 54) dj42_149_52 rfl rfl rfl ?_
  refine g_putfield (pc' := 57) dj42_149_54 rfl (wf_String_9 hw) ((V.ext E36).other W48 (Or.inr ne.symm)) ((E.ext E36).wr W48) (Or.inr ⟨wy_String_String_value hw, rfl, rfl⟩) (wn_String hw) (ty := (.array .byte)) (by decide) rfl rfl (hx) (by simp) fun h54 W54 => ?_
  refine g_return dj42_149_57 rfl rfl (bl (by show 0 + 3 * M + 0 ≤ 3 * M; omega)) ⟨rfl, (((Keep.refl h [x]).ext E36).wr W48 (Or.inl (List.mem_cons_self ..))).wr W54 (Or.inl (List.mem_cons_self ..)), ((E.ext E36).wr W48).wr W54, t, kb, 1, Int32.ofNat (2 * cs.length), wideB cs, ((V.ext E36).other W48 (Or.inr ne.symm)).same W54, ((C.ext E36).same W48).other W54 (Or.inr ne), (B36.other W48 hxt.symm).other W54 hxt.symm, Or.inr ⟨rfl, rfl, rfl, hwide⟩, hb, by omega⟩
theorem pay_new16 {z : Int32} (hw : ∀ d ∈ tables_1, d.before a0 Z = true) (U : SU Z) (S : Sta Z Z.heap "java/lang/String" "COMPACT_STRINGS" "Z" (.int z)) (hz : ¬ z = 0) {x b : Addr} {kC : ClassId} {cs : List Int32} {d v0 c0 : Value} {M : Nat} {N : Int32} (hN : N = Int32.ofNat cs.length) (hn : cs.length ≤ M) (hM : M ≤ 4000) (hwide : ∃ c ∈ cs, (255 : Int32) < c) (hb : ∀ c ∈ cs, ¬ c < 0 ∧ ¬ (65535 : Int32) < c) (hx : Z.heap.size ≤ x) (E : Exa Z h x "java/lang/String") (V : Fld Z h x "java/lang/String" "value" "[B" v0) (C : Fld Z h x "java/lang/String" "coder" "B" c0) (A : Arv Z h b kC .char N (cs.map Value.int) d) (hf : Nat.ble 6 R.frames = true) (hl : Nat.ble (W + 100) R.locals = true) :
    Pay l R yI1' W #[.ref x, .ref b] Z a0 EL nw [x] h 2 (3 * M) (fun v h' => v = none ∧ Keep h h' [x] ∧ Str Z h' x cs) := by
  have hM1 : MetW [] l yI1' jdk_42_method_3_code 2 none (Rm 5 2 (3 * M) 87) #[.ref x, .ref b] Z a0 EL nw [x] h (fun v h' => v = none ∧ Keep h h' [x] ∧ Str Z h' x cs) := by
    subst hN
    refine MetW.of (by first | exact plainFor_of_name (by first | (simp [plainName, overriddenIn]; done) | decide +kernel) | decide +kernel) fun X hX => Go.old fun EZ => ?_
    show Go X _ _ _ _ _ _ _ _ _ _ _ _ _ _ _ _ (mkF X.m 0 #[.val (.ref x), .val (.ref b)] [])
    refine g_aloadN (pc' := 1) dj42_3_0 rfl rfl rfl ?_
    refine g_aloadN (pc' := 2) dj42_3_1 rfl rfl rfl ?_
    refine g_iconst (pc' := 3) (w := 0) dj42_3_2 rfl (by decide) ?_
    refine g_aloadN (pc' := 4) dj42_3_3 rfl rfl rfl ?_
    refine g_arraylength (pc' := 5) dj42_3_4 rfl (A) ?_
    refine g_aconst_null (pc' := 6) dj42_3_5 rfl ?_
    refine g_invokespecial (pc' := 9) [x] [_, _, _, _] dj42_3_6 rfl rfl (wl_String_27 hw) (wm_String_init_lACIILjavalangVoidrV hw) (wb_String_init_lACIILjavalangVoidrV hw) (by decide) (Pay.of_met (met_I4w hw U S hz hn hM hwide hb hx E V C A) (wb_String_init_lACIILjavalangVoidrV hw) (wi_String hw) rfl rfl) pd_lACIILjavalangVoidrV rfl rfl rfl rfl (bl (by show 0 + 3 * M ≤ 3 * M; omega)) (fun _ q => q) fun v6 h6 q6 l6 => ?_
    obtain ⟨rfl, K6, T6⟩ := q6
    refine g_return dj42_3_9 rfl rfl (bl (by show 0 + 3 * M ≤ 3 * M; omega)) ⟨rfl, K6, T6⟩
  exact Pay.of_met hM1 (wb_String_init_lACrV hw) (wi_String hw) hf (by exact hl)
theorem pay_newAny {z : Int32} (hw : ∀ d ∈ tables_1, d.before a0 Z = true) (U : SU Z) (S : Sta Z Z.heap "java/lang/String" "COMPACT_STRINGS" "Z" (.int z)) (hz : ¬ z = 0) (EZ : Ext Z.heap h) {x b : Addr} {kC : ClassId} {cs : List Int32} {d v0 c0 : Value} {M : Nat} {N : Int32} (hN : N = Int32.ofNat cs.length) (h0 : 0 < cs.length) (hn : cs.length ≤ M) (hM : M ≤ 4000) (hb : ∀ c ∈ cs, ¬ c < 0 ∧ ¬ (65535 : Int32) < c) (hx : Z.heap.size ≤ x) (E : Exa Z h x "java/lang/String") (V : Fld Z h x "java/lang/String" "value" "[B" v0) (C : Fld Z h x "java/lang/String" "coder" "B" c0) (A : Arv Z h b kC .char N (cs.map Value.int) d) (hf : Nat.ble 6 R.frames = true) (hl : Nat.ble (W + 100) R.locals = true) :
    Pay l R yI1' W #[.ref x, .ref b] Z a0 EL nw [x] h 2 (3 * M) (fun v h' => v = none ∧ Keep h h' [x] ∧ Str Z h' x cs) := by
  by_cases q : ∃ c ∈ cs, (255 : Int32) < c
  · exact pay_new16 hw U S hz hN hn hM q hb hx E V C A hf hl
  · have h5 := ble hf
    have h6 := ble hl
    exact Pay.up (pay_new (n := cs.length) (own_new hw) (wn_String hw) S hz EZ hx E V C A rfl hN (bl (by omega)) (bl (by omega)) (fun c hc => ⟨(hb c hc).1, fun u => q ⟨c, hc, u⟩⟩) (bl (by omega)) (bl (by omega))) (by omega) (by omega)
end U16
/-! ldc_w of a String constant that the walk may read: the library's ldcCH tells it of ldc alone -/
section LdcW
open Bundle Jvm.Free.SB Jvm.Free.SBG
variable {p : Program} {l : Launch} {e : Env} {R : Room} {s : State} {m : MethodId} {args : Array Value} {below : List Frame} {meth : Method} {c : Code} {T : State} {locs : List Loc} {cells slots : Nat} {own text : String} {index : Nat}
/-- how the tables stand once the constant is noted as a: nothing interned, or one pair, of a String made at the heap's end -/
def NotedW (s T T₂ : State) (m : MethodId) (index : Nat) (a : Addr) (text : String) : Prop :=
  s.Since T₂.vm T₂.heap.size ∧ (∃ k₂, T₂.vm.classes[m.cls]? = some k₂ ∧ k₂.resolved[index]? = some (some (.string a))) ∧ Ext T.heap T₂.heap ∧ T.Warmed39 T₂.vm ∧
    (T₂.vm.interned = T.vm.interned ∨ ∃ us : Array UInt16, utf16ToString? us = some text ∧ T₂.vm.interned = T.vm.interned.push (us, a) ∧ T.vm.interned.find? (fun q => q.1 == us) = none ∧ (us.all (· < 256) = true → SlIn 0 T.heap.size T₂ a us))
theorem own_stepW (X : Stand p l e R s m args below meth c T locs cells slots) (hx : p.tables.exec = Jvm.exec) (hown : s.vm.findClass own = some m.cls) (w : (Jvm.Cond.stringLink own index text).before args s = true) (wS : ∀ a ∈ Bundle.stringAtoms, a.before args s = true)
    {g : JFrame} (hg : g.method = m) (hd : decode c.code g.pc = .ok (.ldc_w index, 3)) {n : Nat} (hn : 4 * text.toList.length ≤ n) (hbig : n ≤ 536870912) (hk : cells + 2 ≤ R.cells) (hs : slots + (n + 4) ≤ R.slots) :
    ∃ (a : Addr) (T₂ : State), Stand p l e R (s.setVm T₂.vm) m args below meth c T₂ locs (cells + 2) (slots + (n + 4)) ∧ NotedW s T T₂ m index a text ∧
      ∀ target, Steps p.tables e below (T₂.setTop { g with pc := g.pc + 3, stack := .ref a :: g.stack }) target → Steps p.tables e below (T.setTop g) target := by
  subst hg
  obtain ⟨k, cf, i, us, k1, k2, k3, k4, k5, k6, k7⟩ := Cond.stringLink_spec hown w
  obtain ⟨k', b1, b2⟩ := X.warmed.alike.2.2 _ _ k1
  have b3 : k'.cf = some cf := by rw [b2]; exact k2
  have up : ∀ {kk : Class}, kk.cf = some cf → kk.cf.bind (namesOf? ·.constantPool index) = some (.string text) ∧ kk.cf.bind (·.constantPool[index]?) = some (.string i) ∧ kk.cf.bind (·.constantPool.utf8? i) = some us := fun q => by
    rw [q]
    exact ⟨k5, k3, by simp [ConstantPool.utf8?, k4]⟩
  by_cases hr : ∃ a, k'.resolved[index]? = some (some (.string a))
  · obtain ⟨a, hr⟩ := hr
    refine ⟨a, T, (X.mono (by omega) (by omega)).retabled X.warmed.wide, ⟨X.warmed.since _, ⟨k', b1, hr⟩, ext_refl _, State.Warmed39.refl T, Or.inl rfl⟩, fun target q => ?_⟩
    jvm_step X.here [hx, hd, ldc_w.wp_string (e := e) (s := T) (f := g) X.here.top b1 b3 k3 hr]
    exact q
  have ho : k'.resolved[index]? = some none ∧ k.resolved[index]? = some none := by
    rcases X.warmed.wide.entry k1 b1 index with q | ⟨-, r, q1, q2 | ⟨a, t, rfl, -⟩⟩
    · rcases k7 with z | ⟨a, z⟩
      · exact ⟨q.trans z, z⟩
      · exact absurd ⟨a, q.trans z⟩ hr
    · exfalso
      cases r <;> simp [State.rightAt, k1, k2, k5] at q2
    · exact absurd ⟨a, q1⟩ hr
  obtain ⟨u1, u2, u3⟩ := up k2
  obtain ⟨v1, v2, v3⟩ := up b3
  by_cases hf : ∃ a, T.vm.interned.find? (fun q => q.1 == us) = some (us, a)
  · obtain ⟨a, hf⟩ := hf
    have hW := X.warmed.wide.notedString k1 (Or.inl ho.2) u1 u2 u3 hf
    refine ⟨a, T.setVm (T.vm.noted g.method.cls index (.string a)), (X.mono (by omega) (by omega)).retabled hW, ⟨⟨hW, State.Booked.step (T₂ := T.setVm (T.vm.noted g.method.cls index (.string a))) (X.warmed.no_new_pair _) X.same.2.1 ⟨Nat.le_refl _, Or.inl rfl⟩⟩, ⟨_, Vm.classes_note_self index (.string a) b1, Class.resolved_note_self (.string a) ho.1⟩, ext_refl _, (State.Warmed39.refl T).notedString b1 (Or.inl ho.1) v1 v2 v3 hf, Or.inl rfl⟩, fun target q => ?_⟩
    jvm_step X.here [hx, hd, ldc_w.wp_string_found (e := e) (s := T) (f := g) X.here.top b1 b3 k3 k4 ho.1 hf]
    exact q
  have hno : T.vm.interned.find? (fun q => q.1 == us) = none := by
    cases z : T.vm.interned.find? (fun q => q.1 == us) with
    | none => rfl
    | some pr =>
      obtain ⟨u', a⟩ := pr
      have : u' = us := by simpa using Array.find?_some z
      exact absurd ⟨a, by rw [z, this]⟩ hf
  obtain ⟨Zs, L1, n4, fv, fc⟩ := StringT.of_atoms (args := args) wS
  obtain ⟨kS', kB', L2, ty⟩ := L1.warmer X.warmed.alike
  have hfs : T.fitsSlot = s.fitsSlot := (show T.fitsSlot = (s.setVm T.vm).fitsSlot from rfl).trans (State.fitsSlot_setVm X.warmed.alike)
  have hb : (stringBytes us).size ≤ n := Nat.le_trans (text_bytes_le k6) hn
  have pr : ({ T.vm with interned := T.vm.interned.push (us, T.heap.size + 1) } : Vm).interned.find? (fun q => q.1 == us) = some (us, T.heap.size + 1) := by
    show (T.vm.interned.push (us, T.heap.size + 1)).find? _ = _
    rw [Array.find?_push, hno]
    simp
  have hW := (X.warmed.wide.interns us (T.heap.size + 1)).notedString k1 (Or.inl ho.2) u1 u2 u3 pr
  have hW2 := ((State.Warmed39.refl T).interns us (T.heap.size + 1)).notedString b1 (Or.inl ho.1) v1 v2 v3 pr
  have X2 := (X.pushed (bytesOf Zs.cB us)).pushed (stringAt Zs.cS kS' Zs.fv Zs.fc us T.heap.size)
  rw [← withString_eq] at X2
  have z1 : (bytesOf Zs.cB us).slots.size = (stringBytes us).size := by
    rw [(Cell.writeAll_facts _ _).2.2]
    simp [bytes0]
  have z2 : (stringAt Zs.cS kS' Zs.fv Zs.fc us T.heap.size).slots.size = 4 := by simp [string0, Cell.setSlot, ty, n4]
  have hh : (withString T Zs.cB Zs.cS kS' Zs.fv Zs.fc us).heap = (T.heap.push (bytesOf Zs.cB us)).push (stringAt Zs.cS kS' Zs.fv Zs.fc us T.heap.size) := by
    rw [withString_eq]
    rfl
  generalize hT1 : withString T Zs.cB Zs.cS kS' Zs.fv Zs.fc us = T1 at X2 hh
  have hE : Ext T.heap T1.heap := ⟨by rw [hh]; simp; omega, fun x cl q => by
    have lt := (Array.getElem?_eq_some_iff.mp q).1
    rw [hh, Array.getElem?_push, if_neg (by rw [Array.size_push]; omega), Array.getElem?_push, if_neg (by omega)]
    exact q⟩
  have c0 : T1.heap[T.heap.size]? = some (bytesOf Zs.cB us) := by rw [hh, Array.getElem?_push, if_neg (by rw [Array.size_push]; omega), Array.getElem?_push, if_pos rfl]
  have c1 : T1.heap[T.heap.size + 1]? = some (stringAt Zs.cS kS' Zs.fv Zs.fc us T.heap.size) := by rw [hh, Array.getElem?_push, if_pos (by rw [Array.size_push])]
  refine ⟨T.heap.size + 1, T1.setVm (({ T.vm with interned := T.vm.interned.push (us, T.heap.size + 1) } : Vm).noted g.method.cls index (.string (T.heap.size + 1))), (X2.mono (by omega) (by rw [z1, z2]; omega)).retabled hW, ⟨⟨hW, State.Booked.step (X.warmed.no_new_pair _) X.same.2.1 ⟨hE.1, Or.inr ⟨us, T.heap.size + 1, rfl, by omega, (Array.getElem?_eq_some_iff.mp c1).1⟩⟩⟩, ⟨_, Vm.classes_note_self (vm := { T.vm with interned := T.vm.interned.push (us, T.heap.size + 1) }) index (.string (T.heap.size + 1)) b1, Class.resolved_note_self (.string (T.heap.size + 1)) ho.1⟩, hE, hW2, Or.inr ⟨us, k6, rfl, hno, fun hl => made_sl (W := T1.setVm (({ T.vm with interned := T.vm.interned.push (us, T.heap.size + 1) } : Vm).noted g.method.cls index (.string (T.heap.size + 1)))) wS L1 n4 ty hW.alike c0 c1 hl (by omega) 0⟩⟩, fun target q => ?_⟩
  refine Steps.instr (c := _) (by simpa using X.here) ?_
  simp [jvm, wpRun, exec, X.here.top, hx, hd]
  refine ldc_w.wp_string_new (e := e) (s := T) (f := g) X.here.top b1 b3 k3 k4 ho.1 hno L2.found L2.cls L2.initialized L2.ordinary L2.foundB L2.clsB L2.kindB L2.value L2.coder ?_ ?_ (X.cellsAbove hk) ?_ (stringBytes_fit L2.clsB L2.kindB us) L2.valueSlot L2.coderSlot (by rw [hfs]; exact fv _) (by rw [hfs]; exact fc _) (fun d' acts' => ?_)
  · rw [Launch.admits_arrayLengthLimit X.admits]; omega
  · rw [Launch.admits_maxHeapBytes X.admits]; simp only [componentBytes]; omega
  · have := X.slotsAbove hs
    show T.slotsUsed + (stringBytes us).size + kS'.instanceTypes.size ≤ _
    rw [ty, n4]; omega
  · intro acts''
    rw [hT1]
    have t1 : T1.topJava?.isSome := by rw [← hT1]; simpa [withString] using X.here.top
    have t2 : (T1.setVm (({ T.vm with interned := T.vm.interned.push (us, T.heap.size + 1) } : Vm).noted g.method.cls index (.string (T.heap.size + 1)))).topJava?.isSome := by simpa using t1
    simp [jvm, afterInstr, t1, t2]
    rw [State.modifyTopJava_setTop]
    exact q
variable {Z : State} {a0 : Array Value} {EL : List (String × Nat)} {h : Heap} {vm0 vm : Vm}
/-- a booked String of narrow units, read -/
theorem str_of_sl {q : SQ} {us : Array UInt16} {cs : List Int32} (hal : Z.vm.Alike vm) (F : SlB (Wst Z vm h) q us) (hlat : us.all (· < 256) = true) (hu : (us.toList.map fun u => Value.int (Jvm.Lit.byteI u)) = bys cs) (hc : ∀ c ∈ cs, ¬ c < 0 ∧ ¬ (255 : Int32) < c) (hl : cs.length ≤ 4000) : Str Z h q.sa cs := by
  obtain ⟨cS, ⟨⟨s1, s2, s3, ⟨cv, kv, iv, s4, s4'⟩, ⟨cc, kc, ic, s5, s5'⟩, s6, s7, s8, s9, s10, s11, s12, s13, s14, s15, s16⟩, hfS, hcS⟩, ⟨kS, k1, k2, k3⟩, hB, hbyt⟩ := F
  have hfS : vm.findClass "java/lang/String" = some cS := hfS
  have hB : vm.findClass "[B" = some q.SA.cls := hB
  have k1 : vm.classes[cS]? = some kS := k1
  obtain ⟨kv', z4⟩ := ff_back (U := Wst Z vm h) hal s4
  obtain ⟨kc', z5⟩ := ff_back (U := Wst Z vm h) hal s5
  have f1 : Z.vm.findClass "java/lang/String" = some q.sC.cls := by rw [← hal.findClass, hcS]; exact hfS
  obtain ⟨kz, hkz, -⟩ := Vm.findClass_spec f1
  obtain ⟨kz', hkz', ekz⟩ := hal.2.2 _ _ hkz
  have ekS : kz' = kS := Option.some.inj (hkz'.symm.trans (hcS ▸ k1))
  have f2 : Z.vm.findClass "[B" = some q.SA.cls := by rw [← hal.findClass]; exact hB
  obtain ⟨kb, hkb, -⟩ := Vm.findClass_spec f2
  obtain ⟨kb', hkb', ekb⟩ := hal.2.2 _ _ hkb
  obtain ⟨hst, k9, hk9, comp, hkind9⟩ := s11
  have hk9 : vm.classes[q.SA.cls]? = some k9 := hk9
  have ek9 : k9 = kb' := Option.some.inj (hk9.symm.trans hkb')
  have el : cs.length = us.size := by
    have := congrArg List.length hu
    simpa using this.symm
  have hsl : q.SA.slots = us.map fun u => Value.int (Jvm.Lit.byteI u) := by rw [hbyt, SBG.stringBytes_lat hlat]; rfl
  have hsz : q.SA.slots.size = us.size := by rw [hsl, Array.size_map]
  have Hs : Has q.SA (bys cs) (.int 0) := fun j hj => by
    have hj' : j < us.size := by omega
    rw [hsl, ← hu]
    simp [hj']
  refine Str.of_lit (kb := q.SA.cls) (z := Int32.ofNat cs.length) (t := q.sd) ⟨q.sC, kz, s1, f1, hkz, s3, fun ho => by rw [k3, ← ekS, ekz]⟩ ⟨q.sC, cc, kc', ic, q.fSC, s1, z5, s7, s2, s3, by rw [← hal.assignable]; exact s5', s9⟩ ⟨q.sC, cv, kv', iv, q.fSV, s1, z4, s6, s2, s3, by rw [← hal.assignable]; exact s4', s8⟩
    ⟨q.SA, ⟨s10, ⟨hst, kb, hkb, comp, by rw [ek9, ekb] at hkind9; exact hkind9⟩, s12⟩, rfl, by rw [hsz, ofNat_clamp (by omega), el], ofNat_nn (by omega), Hs, fun j hj => ?_⟩ rfl rfl hc hl
  have e1 := s16 j hj
  have e2 := Hs j hj
  rw [SBG.getD_of e2] at e1
  exact e1
theorem own_litW (X : Stand p l e R (s.setVm vm0) m args below meth c T locs cells slots) (hx : p.tables.exec = Jvm.exec) (hZ : Z.Warmed39 vm0) (hown : vm0.findClass own = some m.cls) (w : (Jvm.Cond.stringLink own index text).before a0 Z = true) (wS : ∀ a ∈ Bundle.stringAtoms, a.before a0 Z = true)
    (eT : T.heap = h) {k0 : Nat} (hS : s.Since vm0 k0) (hk : k0 ≤ h.size) (hEL : EW Z a0 EL) (hmem : (own, index) ∈ EL) (H : CHv Z EL vm0 h) {cs : List Int32}
    (ht : (∀ c ∈ text.toList, c.toNat < 256) ∧ text.toList.map (fun c => Value.int (Jvm.Lit.byteI c.toNat.toUInt16)) = bys cs) (hc : ∀ c ∈ cs, ¬ c < 0 ∧ ¬ (255 : Int32) < c) (hl : cs.length ≤ 4000)
    {g : JFrame} (hg : g.method = m) (hd : decode c.code g.pc = .ok (.ldc_w index, 3)) {n : Nat} (hn : 4 * text.toList.length ≤ n) (hbig : n ≤ 536870912) (hcl : cells + 2 ≤ R.cells) (hsl : slots + (n + 4) ≤ R.slots) :
    ∃ (a : Addr) (T' : State), Stand p l e R (s.setVm T'.vm) m args below meth c T' locs (cells + 2) (slots + (n + 4)) ∧ Ext h T'.heap ∧ s.Since T'.vm T'.heap.size ∧ Z.Warmed39 T'.vm ∧ T'.vm.findClass own = some m.cls ∧ Str Z T'.heap a cs ∧ CHr Z EL vm0 h T'.vm T'.heap ∧ (∀ x, Safe Z EL T'.vm T'.heap x → x ≠ a) ∧
      ∀ target, Steps p.tables e below (T'.setTop { g with pc := g.pc + 3, stack := .ref a :: g.stack }) target → Steps p.tables e below (T.setTop g) target := by
  subst eT
  have wS' : ∀ a ∈ Bundle.stringAtoms, a.before args (s.setVm vm0) = true := fun d hd => by
    have q := wS d hd
    simp only [Bundle.stringAtoms, List.mem_cons, List.not_mem_nil, or_false] at hd
    rcases hd with rfl | rfl | rfl | rfl | rfl | rfl | rfl <;> first | exact mvA (s := s.setVm vm0) hZ q | exact mv (s := s.setVm vm0) hZ q
  obtain ⟨a, T', X', ⟨hS', ⟨kk, hkk, hrr⟩, E, hTW, hint⟩, st⟩ := own_stepW X hx hown (mvS hZ w) wS' hg hd hn hbig hcl hsl
  have hW : Z.Warmed39 T'.vm := State.Warmed39.trans (t := s.setVm vm0) hZ hS'.1
  have hf : T'.vm.findClass own = some m.cls := by rw [hS'.1.alike.findClass]; exact hown
  have A := CHv.at X hZ hEL H
  have hZT : Z.Warmed39 T.vm := wtrans (s := s.setVm vm0) hZ X.warmed
  have B := CHv.later (vm := T.vm) (vm1 := T'.vm) hZT (show (Wst Z T.vm T.heap).Warmed39 T'.vm from hTW) hEL E (hint.imp id fun ⟨us, _, e1, e2, e3⟩ => ⟨us, a, e1, e2, fun hl => by
    obtain ⟨q, cS, hq, r1, r2, r3, r4, r5⟩ := e3 hl
    have F : SlB T' q us := ⟨cS, r1, r2, r3, r4⟩
    exact ⟨q, hq, F.carry (V := Wst Z T'.vm T'.heap) (Vm.Alike.refl _) F.ha F.hd, r5.elim (fun z => absurd z.1 (Nat.not_lt_zero _)) id⟩⟩) A.1
  have C : CHr Z EL vm0 T.heap T'.vm T'.heap := A.trans ⟨B.1, E.1, B.2⟩
  have w2 : (Jvm.Cond.stringLink own index text).before a0 (Wst Z T'.vm T'.heap) = true := mvS (s := { Z with heap := T'.heap }) hW w
  obtain ⟨k0', cf, i, us, r1, r2, r3, r4, -, r6, -⟩ := Cond.stringLink_spec (s := Wst Z T'.vm T'.heap) hf w2
  have ek : k0' = kk := Option.some.inj ((show T'.vm.classes[m.cls]? = some k0' from r1).symm.trans hkk)
  have hB0 : Booksv T'.vm own index us a := ⟨m.cls, k0', cf, i, hf, r1, r2, r3, r4, Or.inl (by rw [ek]; exact hrr)⟩
  obtain ⟨q, hqa, F⟩ := SlB.of (C.1 _ hmem us a hB0)
  have hS1 : Str Z T'.heap q.sa cs := str_of_sl hW.alike F (Jvm.ClassFile.lat_of_text r6 ht.1) (by rw [← ht.2, Jvm.ClassFile.units_of_text r6 ht.1, List.map_map]; rfl) hc hl
  exact ⟨a, T', X', E, hS.trans hS' (Nat.le_trans hk E.1), hW, hf, hqa ▸ hS1, C, fun x S e1 => S ⟨_, hmem, us, a, hB0, q, hqa, F, Or.inl (e1.trans hqa.symm)⟩, st⟩
end LdcW
section LdcWg
variable {X : Cx} {R : Room} {Z : State} {a0 : Array Value} {EL : List (String × Nat)} {nw : Bool} {y : MethodName} {bs : ByteArray} {ml : Nat} {rt : Option FieldType} {Q : Option Value → Heap → Prop} {kc ks : Nat} {sf : List Addr} {h : Heap} {k n : Nat} {pc pc' : Nat} {Ls : Array Slot} {st : List Value}
theorem g_litW (hnw : nw = false) {text : String} {ix : Nat} (cs : List Int32) (nn : Nat) (hd : decode bs pc = .ok (.ldc_w ix, 3)) (hp : pc + 3 = pc') (w : (Jvm.Cond.stringLink y.cls ix text).before a0 Z = true) (wS : ∀ a ∈ Bundle.stringAtoms, a.before a0 Z = true) (hm : (y.cls, ix) ∈ EL)
    (ht : (∀ c ∈ text.toList, c.toNat < 256) ∧ text.toList.map (fun c => Value.int (Jvm.Lit.byteI c.toNat.toUInt16)) = cs.map fun c => Value.int (StrChars.lo8 c)) (hc : ∀ c ∈ cs, ¬ c < 0 ∧ ¬ (255 : Int32) < c) (hz : ¬ Int32.ofNat cs.length < 0) (hl : (Int32.ofNat cs.length).toNatClampNeg = cs.length) (hcl : Nat.ble cs.length 4000 = true) (h4 : Nat.ble (4 * text.toList.length) nn = true) (hbig : Nat.ble nn 536870912 = true) (hk : Nat.ble (k + 2) R.cells = true) (hn : Nat.ble (n + (nn + 4)) R.slots = true)
    (G : ∀ h' a, Ext h h' → Str Z h' a cs → (∀ x ∈ sf, x ≠ a) → Go X R Z a0 EL nw y bs ml rt Q kc ks sf h' (k + 2) (n + (nn + 4)) (mkF X.m pc' Ls (.ref a :: st))) : Go X R Z a0 EL nw y bs ml rt Q kc ks sf h k n (mkF X.m pc Ls st) := fun T S => by
  subst hp
  obtain ⟨F, vm0, L, X1, eT, hS, hZ, hown, hC, hF, hE, hs, hN⟩ := S
  obtain ⟨a, T', X2, E2, hS2, hZ2, hown2, A1, hC2, hne, q⟩ := own_litW X1 F.1 (Z := Z) hZ hown w wS eT hS (Nat.le_refl _) F.2.2.2.2.2.2 hm hC.1 ht hc (ble hcl) (g := mkF X.m pc Ls st) rfl (hb F.2.1 hd) (ble h4) (ble hbig) (ble hk) (ble hn)
  have hs' : ∀ x ∈ sf, x < T'.heap.size ∧ Safe Z EL T'.vm T'.heap x := fun x hx => ⟨Nat.lt_of_lt_of_le (hs x hx).1 E2.1, hC2.safe (hs x hx).1 (hs x hx).2⟩
  exact (G T'.heap a E2 A1 (fun x hx => hne x (hs' x hx).2) T' ⟨F, T'.vm, L, X2, rfl, hS2, hZ2, hown2, hC.trans hC2, hF, ext_trans hE E2, hs', fun q => by rw [hnw] at q; cases q⟩).back q
end LdcWg
/-! a StringBuilder that turns wide (UTF-16): its constructor with maybeLatin1, inflate, append(String), toString, walked -/
section SBwide
variable {l : Launch} {R : Room} {Z : State} {a0 : Array Value} {EL : List (String × Nat)} {nw : Bool} {h : Heap} {W : Nat} {z : Int32} {fm : Value}
abbrev yLen6 : MethodName := ⟨"java/lang/StringUTF16", "length", "([B)I"⟩
abbrev yCFS : MethodName := ⟨"jdk/internal/util/Preconditions", "checkFromIndexSize", "(IIILjava/util/function/BiFunction;)I"⟩
abbrev yCBS : MethodName := ⟨"java/lang/String", "checkBoundsOffCount", "(III)I"⟩
abbrev yCB6 : MethodName := ⟨"java/lang/StringUTF16", "checkBoundsOffCount", "(II[B)V"⟩
abbrev yUI : MethodName := ⟨"java/lang/StringUTF16", "inflate", "([BI[BII)V"⟩
abbrev yLI : MethodName := ⟨"java/lang/StringLatin1", "inflate", "([BI[BII)V"⟩
abbrev yInfl : MethodName := ⟨"java/lang/AbstractStringBuilder", "inflate", "()V"⟩
abbrev SFm (Z : State) (fm : Value) : Prop := Sta Z Z.heap "jdk/internal/util/Preconditions" "SIOOBE_FORMATTER" "Ljava/util/function/BiFunction;" fm
/-- maybeLatin1 is off -/
abbrev Mb (Z : State) (h : Heap) (b : Addr) : Prop := Fld Z h b ASB "maybeLatin1" "Z" (.int 0)
/-- at b a StringBuilder that holds cs by two bytes a char, in the array t of 2 * cap bytes -/
def SBw (Z : State) (h : Heap) (b t : Addr) (cs : List Int32) (cap : Nat) : Prop :=
  Exa Z h b SBN ∧ Fld Z h b ASB "value" "[B" (.ref t) ∧ Fld Z h b ASB "coder" "B" (.int 1) ∧ Fld Z h b ASB "count" "I" (.int (Int32.ofNat cs.length)) ∧ Mb Z h b ∧ ∃ (kb : ClassId) (vs : List Value), Z.vm.findClass "[B" = some kb ∧ Arv Z h t kb .byte (Int32.ofNat (2 * cap)) vs (.int 0) ∧ vs.length = 2 * cap ∧ vs.take (2 * cs.length) = wideB cs ∧ cs.length ≤ cap ∧ cap ≤ 2000
theorem SBw.ext {h' : Heap} {b t : Addr} {cs : List Int32} {cap : Nat} (S : SBw Z h b t cs cap) (E : Ext h h') : SBw Z h' b t cs cap := by
  obtain ⟨h1, h2, h3, h4, h5, kb, vs, hc, h6, r⟩ := S
  exact ⟨h1.ext E, h2.ext E, h3.ext E, h4.ext E, h5.ext E, kb, vs, hc, h6.ext E, r⟩
theorem mb_ne1 (hw : ∀ d ∈ tables_1, d.before a0 Z = true) : RoadKit.slotOf Z ASB "maybeLatin1" "Z" ≠ RoadKit.slotOf Z ASB "value" "[B" := slot_ne (Or.inl (wy_StringBuilder_AbstractStringBuilder_maybeLatin1 hw)) (Or.inl (wy_StringBuilder_AbstractStringBuilder_value hw)) (by decide) (t := .boolean) (t' := .array .byte) (by decide) (by decide)
theorem mb_ne2 (hw : ∀ d ∈ tables_1, d.before a0 Z = true) : RoadKit.slotOf Z ASB "maybeLatin1" "Z" ≠ RoadKit.slotOf Z ASB "coder" "B" := slot_ne (Or.inl (wy_StringBuilder_AbstractStringBuilder_maybeLatin1 hw)) (Or.inl (wy_StringBuilder_AbstractStringBuilder_coder hw)) (by decide) (t := .boolean) (t' := .byte) (by decide) (by decide)
theorem mb_ne3 (hw : ∀ d ∈ tables_1, d.before a0 Z = true) : RoadKit.slotOf Z ASB "maybeLatin1" "Z" ≠ RoadKit.slotOf Z ASB "count" "I" := slot_ne (Or.inl (wy_StringBuilder_AbstractStringBuilder_maybeLatin1 hw)) (Or.inl (wy_StringBuilder_AbstractStringBuilder_count hw)) (by decide) (t := .boolean) (t' := .int) (by decide) (by decide)
theorem met_ASBi2 (hw : ∀ d ∈ tables_1, d.before a0 Z = true) (S : Sta Z Z.heap "java/lang/String" "COMPACT_STRINGS" "Z" (.int z)) (hz : ¬ z = 0) {b : Addr} {v0 c0 : Value} (hb : Z.heap.size ≤ b) (E : Exa Z h b SBN) (Fv : Fld Z h b ASB "value" "[B" v0) (Fc : Fld Z h b ASB "coder" "B" c0) (Fn : Fld Z h b ASB "count" "I" (.int 0)) (M : Mb Z h b) :
    MetW [] l yASBi jdk_68_method_2_code 2 none (Rm 1 1 16 12) #[.ref b, .int 16] Z a0 EL nw [b] h (fun v h' => v = none ∧ Keep h h' [b] ∧ ∃ t, h.size ≤ t ∧ t < h'.size ∧ SBd Z h' b t [] 16 ∧ Mb Z h' b) := by
  refine MetW.of (by first | exact plainFor_of_name (by first | (simp [plainName, overriddenIn]; done) | decide +kernel) | decide +kernel) fun X hX => Go.old fun EZ => ?_
  show Go X _ _ _ _ _ _ _ _ _ _ _ _ _ _ _ _ (mkF X.m 0 #[.val (.ref b), .val (.int 16)] [])
  refine g_aloadN (pc' := 1) dj68_2_0 rfl rfl rfl ?_
  refine g_objinit (pc' := 4) dj68_2_1 rfl (wl_AbstractStringBuilder_3 hw) (wm_Object_init_lrV hw) (wb_Object_init_lrV hw) rfl rfl rfl ?_
  refine g_getstatic (pc' := 7) dj68_2_4 rfl (wf_AbstractStringBuilder_18 hw) (S) ?_
  refine g_ifeq (pc' := 10) (pc2 := 25) dj68_2_7 rfl (by decide) rfl (fun c7 => ?_) (fun c7 => False.elim (hz c7))
  refine g_aloadN (pc' := 11) dj68_2_10 rfl rfl rfl ?_
  refine g_iloadN (pc' := 12) dj68_2_11 rfl rfl ?_
  refine g_newarrayX (pc' := 14) (cap := 16) dj68_2_12 rfl (wa_byte hw) (by decide) (by decide) rfl rfl rfl fun h12 a12 k12 e12 E12 c12 A12 => ?_
  refine g_putfield (pc' := 17) dj68_2_14 rfl (wf_AbstractStringBuilder_15 hw) (Fv.ext E12) (E.ext E12) (Or.inl (wy_StringBuilder_AbstractStringBuilder_value hw)) (wn_StringBuilder hw) (ty := (.array .byte)) (by decide) rfl rfl (hb) (by simp) fun h14 W14 => ?_
  refine g_aloadN (pc' := 18) dj68_2_17 rfl rfl rfl ?_
  refine g_iconst (pc' := 19) (w := 0) dj68_2_18 rfl (by decide) ?_
  refine g_putfield (pc' := 22) dj68_2_19 rfl (wf_AbstractStringBuilder_22 hw) ((Fc.ext E12).other W14 (Or.inr (sb_ne1 hw))) ((E.ext E12).wr W14) (Or.inl (wy_StringBuilder_AbstractStringBuilder_coder hw)) (wn_StringBuilder hw) (ty := .byte) (by decide) rfl rfl (hb) (by simp) fun h19 W19 => ?_
  refine g_goto (pc' := 38) dj68_2_22 (by decide) rfl ?_
  have hne : a12 ≠ b := Nat.ne_of_gt (by rw [e12]; exact E.lt)
  have A : Arv Z h19 a12 k12 .byte 16 (List.replicate 16 (Value.int 0)) (.int 0) := (Arv.other (Arv.other A12 W14 hne) W19 hne)
  refine g_return dj68_2_38 rfl rfl rfl ⟨rfl, (((Keep.refl h [b]).ext E12).wr W14 (Or.inl (List.mem_cons_self ..))).wr W19 (Or.inl (List.mem_cons_self ..)), a12, Nat.le_of_eq e12.symm, A.lt, ⟨((E.ext E12).wr W14).wr W19, ((Fv.ext E12).same W14).other W19 (Or.inr (sb_ne1 hw).symm), ((Fc.ext E12).other W14 (Or.inr (sb_ne1 hw))).same W19, ((Fn.ext E12).other W14 (Or.inr (sb_ne2 hw))).other W19 (Or.inr (sb_ne3 hw)), k12, _, c12, A, rfl, rfl, Nat.zero_le _, by decide⟩, ((M.ext E12).other W14 (Or.inr (mb_ne1 hw))).other W19 (Or.inr (mb_ne2 hw))⟩
theorem met_SBi2 (hw : ∀ d ∈ tables_1, d.before a0 Z = true) (S : Sta Z Z.heap "java/lang/String" "COMPACT_STRINGS" "Z" (.int z)) (hz : ¬ z = 0) {b : Addr} {v0 c0 : Value} (hb : Z.heap.size ≤ b) (E : Exa Z h b SBN) (Fv : Fld Z h b ASB "value" "[B" v0) (Fc : Fld Z h b ASB "coder" "B" c0) (Fn : Fld Z h b ASB "count" "I" (.int 0)) (M : Mb Z h b) :
    MetW [] l ySBi jdk_67_method_1_code 1 none (Rm 2 1 16 30) #[.ref b] Z a0 EL nw [b] h (fun v h' => v = none ∧ Keep h h' [b] ∧ ∃ t, h.size ≤ t ∧ t < h'.size ∧ SBd Z h' b t [] 16 ∧ Mb Z h' b) := by
  refine MetW.of (by first | exact plainFor_of_name (by first | (simp [plainName, overriddenIn]; done) | decide +kernel) | decide +kernel) fun X hX => Go.old fun EZ => ?_
  show Go X _ _ _ _ _ _ _ _ _ _ _ _ _ _ _ _ (mkF X.m 0 #[.val (.ref b)] [])
  refine g_aloadN (pc' := 1) dj67_1_0 rfl rfl rfl ?_
  refine g_bipush (pc' := 3) (w := 16) dj67_1_1 rfl (by decide) ?_
  refine g_invokespecial (pc' := 6) [b] [_] dj67_1_3 rfl rfl (wl_StringBuilder_1 hw) (wm_AbstractStringBuilder_init_lIrV hw) (wb_AbstractStringBuilder_init_lIrV hw) (by decide) (Pay.of_met (met_ASBi2 hw S hz hb E Fv Fc Fn M) (wb_AbstractStringBuilder_init_lIrV hw) (wi_AbstractStringBuilder hw) rfl rfl) pd_lIrV rfl rfl rfl rfl rfl (fun _ q => q) fun v3 h3 q3 l3 => ?_
  obtain ⟨rfl, q⟩ := q3
  refine g_return dj67_1_6 rfl rfl rfl (⟨rfl, q⟩)
theorem met_len6 (hw : ∀ d ∈ tables_1, d.before a0 Z = true) {b : Addr} {kb : ClassId} {vs : List Value} {d : Value} {n : Nat} (hn : n ≤ 4000) (B : Arv Z h b kb .byte (Int32.ofNat (2 * n)) vs d) : MetW [] l yLen6 jdk_52_method_6_code 1 (some .int) (Rm 0 0 0 0) #[.ref b] Z a0 EL nw [] h (fun v h' => v = some (.int (Int32.ofNat n)) ∧ h' = h) := by
  refine MetW.of (by first | exact plainFor_of_name (by first | (simp [plainName, overriddenIn]; done) | decide +kernel) | decide +kernel) fun X hX => Go.old fun EZ => ?_
  show Go X _ _ _ _ _ _ _ _ _ _ _ _ _ _ _ _ (mkF X.m 0 #[.val (.ref b)] [])
  refine g_aloadN (pc' := 1) dj52_6_0 rfl rfl rfl ?_
  refine g_arraylength (pc' := 2) dj52_6_1 rfl (B) ?_
  refine g_iconst (pc' := 3) (w := 1) dj52_6_2 rfl (by decide) ?_
  refine g_ishr (pc' := 4) dj52_6_3 rfl ?_
  rw [StrChars.shr1 (by omega)]
  refine g_ireturn (t := .int) dj52_6_4 rfl (by simp) rfl rfl rfl (⟨rfl, rfl⟩)
theorem neg_msb (x : Int32) : x < 0 ↔ x.toBitVec.msb = true := by
  rw [Int32.lt_iff_toInt_lt, BitVec.msb_eq_toInt]
  show x.toBitVec.toInt < 0 ↔ _
  simp
theorem or_nn {a b : Int32} (ha : ¬ a < 0) (hb : ¬ b < 0) : ¬ (a ||| b) < 0 := by
  rw [neg_msb] at ha hb ⊢
  rw [Int32.toBitVec_or, BitVec.msb_or]
  simp [ha, hb]
theorem met_CFS (hw : ∀ d ∈ tables_1, d.before a0 Z = true) (rf : fm.isRef = true) {off n len : Nat} (hs : off + n ≤ len) (hl : len ≤ 100000) : MetW [] l yCFS jdk_41_method_13_code 4 (some .int) (Rm 0 0 0 0) #[.int (Int32.ofNat off), .int (Int32.ofNat n), .int (Int32.ofNat len), fm] Z a0 EL nw [] h (fun v h' => v = some (.int (Int32.ofNat off)) ∧ h' = h) := by
  rcases ref_cases rf with rfl | ⟨a, rfl⟩
  · refine MetW.of (by first | exact plainFor_of_name (by first | (simp [plainName, overriddenIn]; done) | decide +kernel) | decide +kernel) fun X hX => Go.old fun EZ => ?_
    show Go X _ _ _ _ _ _ _ _ _ _ _ _ _ _ _ _ (mkF X.m 0 #[.val (.int (Int32.ofNat off)), .val (.int (Int32.ofNat n)), .val (.int (Int32.ofNat len)), .val (.null)] [])
    refine g_iloadN (pc' := 1) dj41_13_0 rfl rfl ?_
    refine g_iloadN (pc' := 2) dj41_13_1 rfl rfl ?_
    refine g_ior (pc' := 3) dj41_13_2 rfl ?_
    refine g_iloadN (pc' := 4) dj41_13_3 rfl rfl ?_
    refine g_ior (pc' := 5) dj41_13_4 rfl ?_
    refine g_iflt (pc' := 8) (pc2 := 15) dj41_13_5 rfl (by decide) rfl (fun c5 => ?_) (fun c5 => False.elim (or_nn (or_nn (ofNat_nn (by omega)) (ofNat_nn (by omega))) (ofNat_nn (by omega)) c5))
    refine g_iloadN (pc' := 9) dj41_13_8 rfl rfl ?_
    refine g_iloadN (pc' := 10) dj41_13_9 rfl rfl ?_
    refine g_iloadN (pc' := 11) dj41_13_10 rfl rfl ?_
    refine g_isub (pc' := 12) dj41_13_11 rfl ?_
    rw [ofNat_sub (by omega)]
    refine g_icmple (pc' := 15) (pc2 := 23) dj41_13_12 rfl (by decide) rfl (fun c12 => False.elim (absurd ((ofNat_lt (by omega) (by omega)).mp c12) (by omega))) (fun c12 => ?_)
    refine g_iloadN (pc' := 24) dj41_13_23 rfl rfl ?_
    refine g_ireturn (t := .int) dj41_13_24 rfl (by simp) rfl rfl rfl (⟨rfl, rfl⟩)
  · refine MetW.of (by first | exact plainFor_of_name (by first | (simp [plainName, overriddenIn]; done) | decide +kernel) | decide +kernel) fun X hX => Go.old fun EZ => ?_
    show Go X _ _ _ _ _ _ _ _ _ _ _ _ _ _ _ _ (mkF X.m 0 #[.val (.int (Int32.ofNat off)), .val (.int (Int32.ofNat n)), .val (.int (Int32.ofNat len)), .val (.ref a)] [])
    refine g_iloadN (pc' := 1) dj41_13_0 rfl rfl ?_
    refine g_iloadN (pc' := 2) dj41_13_1 rfl rfl ?_
    refine g_ior (pc' := 3) dj41_13_2 rfl ?_
    refine g_iloadN (pc' := 4) dj41_13_3 rfl rfl ?_
    refine g_ior (pc' := 5) dj41_13_4 rfl ?_
    refine g_iflt (pc' := 8) (pc2 := 15) dj41_13_5 rfl (by decide) rfl (fun c5 => ?_) (fun c5 => False.elim (or_nn (or_nn (ofNat_nn (by omega)) (ofNat_nn (by omega))) (ofNat_nn (by omega)) c5))
    refine g_iloadN (pc' := 9) dj41_13_8 rfl rfl ?_
    refine g_iloadN (pc' := 10) dj41_13_9 rfl rfl ?_
    refine g_iloadN (pc' := 11) dj41_13_10 rfl rfl ?_
    refine g_isub (pc' := 12) dj41_13_11 rfl ?_
    rw [ofNat_sub (by omega)]
    refine g_icmple (pc' := 15) (pc2 := 23) dj41_13_12 rfl (by decide) rfl (fun c12 => False.elim (absurd ((ofNat_lt (by omega) (by omega)).mp c12) (by omega))) (fun c12 => ?_)
    refine g_iloadN (pc' := 24) dj41_13_23 rfl rfl ?_
    refine g_ireturn (t := .int) dj41_13_24 rfl (by simp) rfl rfl rfl (⟨rfl, rfl⟩)
theorem met_CBS (hw : ∀ d ∈ tables_1, d.before a0 Z = true) (F : SFm Z fm) (rf : fm.isRef = true) {off n len : Nat} (hs : off + n ≤ len) (hl : len ≤ 100000) : MetW [] l yCBS jdk_42_method_157_code 3 (some .int) (Rm 1 0 0 20) #[.int (Int32.ofNat off), .int (Int32.ofNat n), .int (Int32.ofNat len)] Z a0 EL nw [] h (fun v h' => v = some (.int (Int32.ofNat off)) ∧ h' = h) := by
  refine MetW.of (by first | exact plainFor_of_name (by first | (simp [plainName, overriddenIn]; done) | decide +kernel) | decide +kernel) fun X hX => Go.old fun EZ => ?_
  show Go X _ _ _ _ _ _ _ _ _ _ _ _ _ _ _ _ (mkF X.m 0 #[.val (.int (Int32.ofNat off)), .val (.int (Int32.ofNat n)), .val (.int (Int32.ofNat len))] [])
  refine g_iloadN (pc' := 1) dj42_157_0 rfl rfl ?_
  refine g_iloadN (pc' := 2) dj42_157_1 rfl rfl ?_
  refine g_iloadN (pc' := 3) dj42_157_2 rfl rfl ?_
  refine g_getstatic (pc' := 6) dj42_157_3 rfl (wf_String_1053 hw) (F) ?_
  refine g_invokestatic (pc' := 9) [] [_, _, _, _] dj42_157_6 rfl (wl_String_1065 hw) (ws_Preconditions_checkFromIndexSize_lIIILjavautilfunctionBiFunctionrI hw) (wi_Preconditions hw) (wb_Preconditions_checkFromIndexSize_lIIILjavautilfunctionBiFunctionrI hw) (by decide) (Pay.of_met (met_CFS hw rf hs hl) (wb_Preconditions_checkFromIndexSize_lIIILjavautilfunctionBiFunctionrI hw) (wi_Preconditions hw) rfl rfl) pd_lIIILjavautilfunctionBiFunctionrI rfl rfl rfl rfl rfl (fun _ q => nomatch q) fun v6 h6 q6 l6 => ?_
  obtain ⟨rfl, rfl⟩ := q6
  refine g_ireturn (t := .int) dj42_157_9 rfl (by simp) rfl rfl rfl (⟨rfl, rfl⟩)
theorem met_CB6 (hw : ∀ d ∈ tables_1, d.before a0 Z = true) (F : SFm Z fm) (rf : fm.isRef = true) {b : Addr} {kb : ClassId} {vs : List Value} {d : Value} {off n len : Nat} (hs : off + n ≤ len) (hl : len ≤ 4000) (B : Arv Z h b kb .byte (Int32.ofNat (2 * len)) vs d) : MetW [] l yCB6 jdk_52_method_94_code 3 none (Rm 2 0 0 40) #[.int (Int32.ofNat off), .int (Int32.ofNat n), .ref b] Z a0 EL nw [] h (fun v h' => v = none ∧ h' = h) := by
  refine MetW.of (by first | exact plainFor_of_name (by first | (simp [plainName, overriddenIn]; done) | decide +kernel) | decide +kernel) fun X hX => Go.old fun EZ => ?_
  show Go X _ _ _ _ _ _ _ _ _ _ _ _ _ _ _ _ (mkF X.m 0 #[.val (.int (Int32.ofNat off)), .val (.int (Int32.ofNat n)), .val (.ref b)] [])
  refine g_iloadN (pc' := 1) dj52_94_0 rfl rfl ?_
  refine g_iloadN (pc' := 2) dj52_94_1 rfl rfl ?_
  refine g_aloadN (pc' := 3) dj52_94_2 rfl rfl rfl ?_
  refine g_invokestatic (pc' := 6) [] [_] dj52_94_3 rfl (wl_StringUTF16_48 hw) (ws_StringUTF16_length_lABrI hw) (wi_StringUTF16 hw) (wb_StringUTF16_length_lABrI hw) (by decide) (Pay.of_met (met_len6 hw hl B) (wb_StringUTF16_length_lABrI hw) (wi_StringUTF16 hw) rfl rfl) pd_lABrI rfl rfl rfl rfl rfl (fun _ q => nomatch q) fun v3 h3 q3 l3 => ?_
  obtain ⟨rfl, rfl⟩ := q3
  refine g_invokestatic (pc' := 9) [] [_, _, _] dj52_94_6 rfl (wl_StringUTF16_419 hw) (ws_String_checkBoundsOffCount_lIIIrI hw) (wi_String hw) (wb_String_checkBoundsOffCount_lIIIrI hw) (by decide) (Pay.of_met (met_CBS hw F rf hs (by omega)) (wb_String_checkBoundsOffCount_lIIIrI hw) (wi_String hw) rfl rfl) pd_lIIIrI rfl rfl rfl rfl rfl (fun _ q => nomatch q) fun v6 h6 q6 l6 => ?_
  obtain ⟨rfl, rfl⟩ := q6
  refine g_pop (pc' := 10) dj52_94_9 rfl rfl ?_
  refine g_return dj52_94_10 rfl rfl rfl (⟨rfl, rfl⟩)
theorem set2 (P rest : List Value) (x y : Value) (k : Nat) (hk : P.length = k) (hr : 2 ≤ rest.length) : ((P ++ rest).set k x).set (k + 1) y = P ++ x :: y :: rest.drop 2 := by
  match rest, hr with
  | a :: b :: r, _ =>
    subst hk
    rw [List.set_append_right _ _ (Nat.le_refl _), Nat.sub_self, List.set_append_right _ _ (by omega), show P.length + 1 - P.length = 1 by omega]
    rfl
theorem wide_at (vd : List Value) (ds : List Int32) {off cap j : Nat} (hv : vd.length = 2 * cap) (ho : off + ds.length ≤ cap) (hj : j < ds.length) : ((vd.take (2 * off) ++ wideB (ds.take j) ++ vd.drop (2 * (off + j))).set (2 * (off + j)) (.int (lo8 (ds.getD j 0)))).set (2 * (off + j) + 1) (.int (hi8 (ds.getD j 0))) = vd.take (2 * off) ++ wideB (ds.take (j + 1)) ++ vd.drop (2 * (off + (j + 1))) := by
  have e1 : ds.take (j + 1) = ds.take j ++ [ds.getD j 0] := by
    rw [List.take_add_one]
    simp [List.getD_eq_getElem?_getD, hj]
  rw [set2 _ _ _ _ _ (by simp only [List.length_append, List.length_take, wide_len]; omega) (by rw [List.length_drop]; omega), e1, wide_app, List.drop_drop, show 2 * (off + j) + 2 = 2 * (off + (j + 1)) by omega]
  simp [wideB, StrChars.Road.wideBytes]
theorem met_UI (hw : ∀ d ∈ tables_1, d.before a0 Z = true) (U : SU Z) (F : SFm Z fm) (rf : fm.isRef = true) {src dst : Addr} {ks kb : ClassId} {vs vd : List Value} {d : Value} {off cap m : Nat} {ds : List Int32} (hds : ∀ c ∈ ds, ¬ c < 0 ∧ ¬ (255 : Int32) < c) (A : Arv Z h src ks .byte (Int32.ofNat m) vs d) (hvs : ∀ j, j < ds.length → vs.getD j d = .int (lo8 (ds.getD j 0))) (hm : ds.length ≤ m) (hm' : m ≤ 4000) (hsd : src ≠ dst) (hdst : Z.heap.size ≤ dst) (B : Arv Z h dst kb .byte (Int32.ofNat (2 * cap)) vd (.int 0)) (hcap : cap ≤ 4000) (hvd : vd.length = 2 * cap) (hoff : off + ds.length ≤ cap) :
    MetW [] l yUI jdk_52_method_86_code 6 none (Rm 3 0 0 60) #[.ref src, .int 0, .ref dst, .int (Int32.ofNat off), .int (Int32.ofNat ds.length)] Z a0 EL nw [dst] h (fun v h' => v = none ∧ Keep h h' [dst] ∧ Arv Z h' dst kb .byte (Int32.ofNat (2 * cap)) (vd.take (2 * off) ++ wideB ds ++ vd.drop (2 * (off + ds.length))) (.int 0)) := by
  refine MetW.of (by first | exact plainFor_of_name (by first | (simp [plainName, overriddenIn]; done) | decide +kernel) | decide +kernel) fun X hX => Go.old fun EZ => ?_
  show Go X _ _ _ _ _ _ _ _ _ _ _ _ _ _ _ _ (mkF X.m 0 #[.val (.ref src), .val (.int 0), .val (.ref dst), .val (.int (Int32.ofNat off)), .val (.int (Int32.ofNat ds.length)), .unset] [])
  refine g_iloadN (pc' := 1) dj52_86_0 rfl rfl ?_
  refine g_iload (pc' := 3) dj52_86_1 rfl rfl ?_
  refine g_aloadN (pc' := 4) dj52_86_3 rfl rfl rfl ?_
  refine g_invokestatic (pc' := 7) [] [_, _, _] dj52_86_4 rfl (wl_StringUTF16_173 hw) (ws_StringUTF16_checkBoundsOffCount_lIIABrV hw) (wi_StringUTF16 hw) (wb_StringUTF16_checkBoundsOffCount_lIIABrV hw) (by decide) (Pay.of_met (met_CB6 hw F rf hoff hcap B) (wb_StringUTF16_checkBoundsOffCount_lIIABrV hw) (wi_StringUTF16 hw) rfl rfl) pd_lIIABrV rfl rfl rfl rfl rfl (fun _ q => nomatch q) fun v4 h4 q4 l4 => ?_
  obtain ⟨rfl, e4⟩ := q4
  have e4 := e4.symm
  subst e4
  refine g_iconst (pc' := 8) (w := 0) dj52_86_7 rfl (by decide) ?_
  refine g_istore (pc' := 10) (Ls' := #[_, _, _, _, _, _]) dj52_86_8 rfl rfl ?_
  have loop : ∀ r j hh, ds.length - j = r → j ≤ ds.length → Keep h hh [dst] → Arv Z hh dst kb .byte (Int32.ofNat (2 * cap)) (vd.take (2 * off) ++ wideB (ds.take j) ++ vd.drop (2 * (off + j))) (.int 0) →
      Go X (Rm 3 0 0 60) Z a0 EL nw yUI jdk_52_method_86_code 6 none (fun v h' => v = none ∧ Keep h h' [dst] ∧ Arv Z h' dst kb .byte (Int32.ofNat (2 * cap)) (vd.take (2 * off) ++ wideB ds ++ vd.drop (2 * (off + ds.length))) (.int 0)) (Rm 3 0 0 60).cells (Rm 3 0 0 60).slots [dst] hh 0 0 (mkF X.m 10 #[.val (.ref src), .val (.int (Int32.ofNat j)), .val (.ref dst), .val (.int (Int32.ofNat (off + j))), .val (.int (Int32.ofNat ds.length)), .val (.int (Int32.ofNat j))] []) := by
    intro r
    induction r with
    | zero =>
      intro j hh hr hj K B'
      have ej : j = ds.length := by omega
      subst ej
      refine g_iload (pc' := 12) dj52_86_10 rfl rfl ?_
      refine g_iload (pc' := 14) dj52_86_12 rfl rfl ?_
      refine g_icmpge (pc' := 17) (pc2 := 41) dj52_86_14 rfl (by decide) rfl (fun c14 => False.elim (absurd c14 (fun q => absurd ((ofNat_lt (by omega) (by omega)).mp q) (by omega)))) (fun c14 => ?_)
      rw [List.take_length] at B'
      refine g_return dj52_86_41 rfl rfl rfl (⟨rfl, K, B'⟩)
    | succ r ih =>
      intro j hh hr hj K B'
      have cj : j < ds.length := by omega
      refine g_iload (pc' := 12) dj52_86_10 rfl rfl ?_
      refine g_iload (pc' := 14) dj52_86_12 rfl rfl ?_
      refine g_icmpge (pc' := 17) (pc2 := 41) dj52_86_14 rfl (by decide) rfl (fun c14 => ?_) (fun c14 => False.elim (c14 ((ofNat_lt (by omega) (by omega)).mpr cj)))
      refine g_aloadN (pc' := 18) dj52_86_17 rfl rfl rfl ?_
      refine g_iloadN (pc' := 19) dj52_86_18 rfl rfl ?_
      refine g_iinc (pc' := 22) (Ls' := #[.val (.ref src), .val (.int (Int32.ofNat j)), .val (.ref dst), .val (.int (Int32.ofNat (off + (j + 1)))), .val (.int (Int32.ofNat ds.length)), .val (.int (Int32.ofNat j))]) dj52_86_19 rfl rfl (by rw [← Nat.add_assoc, ofNat_succ]; rfl) ?_
      refine g_aloadN (pc' := 23) dj52_86_22 rfl rfl rfl ?_
      refine g_iloadN (pc' := 24) dj52_86_23 rfl rfl ?_
      refine g_iinc (pc' := 27) (Ls' := #[.val (.ref src), .val (.int (Int32.ofNat (j + 1))), .val (.ref dst), .val (.int (Int32.ofNat (off + (j + 1)))), .val (.int (Int32.ofNat ds.length)), .val (.int (Int32.ofNat j))]) dj52_86_24 rfl rfl (by rw [ofNat_succ]; rfl) ?_
      refine g_baload (pc' := 28) (w := lo8 (ds.getD j 0)) dj52_86_27 rfl (A.keep K (ninS hsd nin0)) (⟨ofNat_nn (by omega), (ofNat_lt (by omega) (by omega)).mpr (by omega)⟩) (by rw [ofNat_clamp (by omega)]; exact hvs j cj) ?_
      refine g_sipush (pc' := 31) (w := 255) dj52_86_28 rfl (by decide) ?_
      refine g_iand (pc' := 32) dj52_86_31 rfl ?_
      have hc := hds (ds.getD j 0) (by simp [List.getD_eq_getElem?_getD, cj])
      rw [StrChars.lo8_mask hc.1 hc.2]
      have hln : (vd.take (2 * off) ++ wideB (ds.take j) ++ vd.drop (2 * (off + j))).length = 2 * cap := by simp only [List.length_append, List.length_take, List.length_drop, wide_len]; omega
      refine g_invokestatic (pc' := 35) [dst] [_, _, _] dj52_86_32 rfl (wl_StringUTF16_111 hw) (ws_StringUTF16_putChar_lABIIrV hw) (wi_StringUTF16 hw) (wb_StringUTF16_putChar_lABIIrV hw) (by decide) (Pay.of_met (met_put hw U (i := off + j) (c := ds.getD j 0) (by rw [hln]) (by rw [hln]; omega) (by rw [hln]; omega) hdst B') (wb_StringUTF16_putChar_lABIIrV hw) (wi_StringUTF16 hw) rfl rfl) pd_lABIIrV rfl rfl rfl rfl rfl (fun _ q => q) fun v32 h32 q32 l32 => ?_
      obtain ⟨rfl, K32, B32⟩ := q32
      rw [wide_at vd ds hvd hoff cj] at B32
      refine g_iinc (pc' := 38) (Ls' := #[.val (.ref src), .val (.int (Int32.ofNat (j + 1))), .val (.ref dst), .val (.int (Int32.ofNat (off + (j + 1)))), .val (.int (Int32.ofNat ds.length)), .val (.int (Int32.ofNat (j + 1)))]) dj52_86_35 rfl rfl (by rw [ofNat_succ]; rfl) ?_
      refine g_goto (pc' := 10) dj52_86_38 (by decide) rfl ?_
      exact ih (j + 1) h32 (by omega) (by omega) (K.trans K32 (fun _ q => Or.inl q)) B32
  refine loop _ 0 h rfl (Nat.zero_le _) (Keep.refl _ _) ?_
  have e : vd.take (2 * off) ++ wideB (ds.take 0) ++ vd.drop (2 * (off + 0)) = vd := by
    show vd.take (2 * off) ++ [] ++ vd.drop (2 * off) = vd
    rw [List.append_nil, List.take_append_drop]
  rw [e]; exact B
theorem met_LI (hw : ∀ d ∈ tables_1, d.before a0 Z = true) (U : SU Z) (F : SFm Z fm) (rf : fm.isRef = true) {src dst : Addr} {ks kb : ClassId} {vs vd : List Value} {d : Value} {off cap m : Nat} {ds : List Int32} (hds : ∀ c ∈ ds, ¬ c < 0 ∧ ¬ (255 : Int32) < c) (A : Arv Z h src ks .byte (Int32.ofNat m) vs d) (hvs : ∀ j, j < ds.length → vs.getD j d = .int (lo8 (ds.getD j 0))) (hm : ds.length ≤ m) (hm' : m ≤ 4000) (hsd : src ≠ dst) (hdst : Z.heap.size ≤ dst) (B : Arv Z h dst kb .byte (Int32.ofNat (2 * cap)) vd (.int 0)) (hcap : cap ≤ 4000) (hvd : vd.length = 2 * cap) (hoff : off + ds.length ≤ cap) :
    MetW [] l yLI jdk_43_method_50_code 5 none (Rm 4 0 0 80) #[.ref src, .int 0, .ref dst, .int (Int32.ofNat off), .int (Int32.ofNat ds.length)] Z a0 EL nw [dst] h (fun v h' => v = none ∧ Keep h h' [dst] ∧ Arv Z h' dst kb .byte (Int32.ofNat (2 * cap)) (vd.take (2 * off) ++ wideB ds ++ vd.drop (2 * (off + ds.length))) (.int 0)) := by
  refine MetW.of (by first | exact plainFor_of_name (by first | (simp [plainName, overriddenIn]; done) | decide +kernel) | decide +kernel) fun X hX => Go.old fun EZ => ?_
  show Go X _ _ _ _ _ _ _ _ _ _ _ _ _ _ _ _ (mkF X.m 0 #[.val (.ref src), .val (.int 0), .val (.ref dst), .val (.int (Int32.ofNat off)), .val (.int (Int32.ofNat ds.length))] [])
  refine g_aloadN (pc' := 1) dj43_50_0 rfl rfl rfl ?_
  refine g_iloadN (pc' := 2) dj43_50_1 rfl rfl ?_
  refine g_aloadN (pc' := 3) dj43_50_2 rfl rfl rfl ?_
  refine g_iloadN (pc' := 4) dj43_50_3 rfl rfl ?_
  refine g_iload (pc' := 6) dj43_50_4 rfl rfl ?_
  refine g_invokestatic (pc' := 9) [dst] [_, _, _, _, _] dj43_50_6 rfl (wl_StringLatin1_240 hw) (ws_StringUTF16_inflate_lABIABIIrV hw) (wi_StringUTF16 hw) (wb_StringUTF16_inflate_lABIABIIrV hw) (by decide) (Pay.of_met (met_UI hw U F rf hds A hvs hm hm' hsd hdst B hcap hvd hoff) (wb_StringUTF16_inflate_lABIABIIrV hw) (wi_StringUTF16 hw) rfl rfl) pd_lABIABIIrV rfl rfl rfl rfl rfl (fun _ q => q) fun v6 h6 q6 l6 => ?_
  obtain ⟨rfl, q⟩ := q6
  refine g_return dj43_50_9 rfl rfl rfl (⟨rfl, q⟩)
theorem met_NBFx (hw : ∀ d ∈ tables_1, d.before a0 Z = true) : MetW [] l yNBF jdk_52_method_2_code 1 (some (.array .byte)) (Rm 1 1 32 12) #[.int (Int32.ofNat 16)] Z a0 EL nw [] h
    (fun v h' => ∃ b kb, v = some (.ref b) ∧ b = h.size ∧ Ext h h' ∧ Z.vm.findClass "[B" = some kb ∧ Arv Z h' b kb .byte (Int32.ofNat (2 * 16)) (List.replicate (2 * 16) (.int 0)) (.int 0)) := by
  refine MetW.of (by first | exact plainFor_of_name (by first | (simp [plainName, overriddenIn]; done) | decide +kernel) | decide +kernel) fun X hX => Go.old fun EZ => ?_
  show Go X _ _ _ _ _ _ _ _ _ _ _ _ _ _ _ _ (mkF X.m 0 #[.val (.int (Int32.ofNat 16))] [])
  refine g_iloadN (pc' := 1) dj52_2_0 rfl rfl ?_
  refine g_invokestatic (pc' := 4) [] [_] dj52_2_1 rfl (wl_StringUTF16_11 hw) (ws_StringUTF16_newBytesLength_lIrI hw) (wi_StringUTF16 hw) (wb_StringUTF16_newBytesLength_lIrI hw) (by decide) (Pay.of_met (met_NBL hw (n := 16) (by omega)) (wb_StringUTF16_newBytesLength_lIrI hw) (wi_StringUTF16 hw) rfl rfl) pd_lIrI rfl rfl rfl rfl rfl (fun _ q => nomatch q) fun v1 h1 q1 l1 => ?_
  obtain ⟨rfl, rfl⟩ := q1
  refine g_newarrayX (pc' := 6) (cap := 2 * 16) dj52_2_4 rfl (wa_byte hw) (ofNat_nn (by omega)) (ofNat_clamp (by omega)) rfl rfl rfl fun h4 a4 k4 e4 E4 c4 A4 => ?_
  refine g_areturn dj52_2_6 rfl rfl rfl rfl rfl rfl (⟨a4, k4, rfl, e4, E4, c4, A4⟩)
theorem met_infl (hw : ∀ d ∈ tables_1, d.before a0 Z = true) (U : SU Z) (F : SFm Z fm) (rf : fm.isRef = true) (S : Sta Z Z.heap "java/lang/String" "COMPACT_STRINGS" "Z" (.int z)) (hz : ¬ z = 0) {b t : Addr} (hb : Z.heap.size ≤ b) (B : SBd Z h b t [] 16) (M : Mb Z h b) :
    MetW [] l yInfl jdk_68_method_11_code 2 none (Rm 5 1 32 100) #[.ref b] Z a0 EL nw [b] h (fun v h' => v = none ∧ Keep h h' [b] ∧ ∃ t', h.size ≤ t' ∧ t' < h'.size ∧ SBw Z h' b t' [] 16) := by
  obtain ⟨E, Fv, Fc, Fn, kb, vs, hc, A, hvs, htk, hle, h4⟩ := B
  refine MetW.of (by first | exact plainFor_of_name (by first | (simp [plainName, overriddenIn]; done) | decide +kernel) | decide +kernel) fun X hX => Go.old fun EZ => ?_
  show Go X _ _ _ _ _ _ _ _ _ _ _ _ _ _ _ _ (mkF X.m 0 #[.val (.ref b), .unset] [])
  refine g_aloadN (pc' := 1) dj68_11_0 rfl rfl rfl ?_
  refine g_invokevirtualN (pc' := 4) [] [] dj68_11_1 rfl (wl_AbstractStringBuilder_83 hw) (wd_AbstractStringBuilder_isLatin1_lrZ hw) (wv_StringBuilder_AbstractStringBuilder_isLatin1_lrZ hw) (wm_AbstractStringBuilder_isLatin1_lrZ hw) (by decide) (NF.sel (wv_StringBuilder_AbstractStringBuilder_isLatin1_lrZ hw)) (E) (Pay.of_met (met_AI hw S hz Fc) (wb_AbstractStringBuilder_isLatin1_lrZ hw) (wi_AbstractStringBuilder hw) rfl rfl) pd_lrZ rfl rfl rfl rfl rfl (fun _ q => nomatch q) fun v1 h1 q1 l1 => ?_
  obtain ⟨rfl, e1⟩ := q1
  have e1 := e1.symm
  subst e1
  refine g_ifne (pc' := 7) (pc2 := 8) dj68_11_4 rfl (by decide) rfl (fun c4 => False.elim (absurd c4 (by decide))) (fun c4 => ?_)
  refine g_aloadN (pc' := 9) dj68_11_8 rfl rfl rfl ?_
  refine g_getfield (pc' := 12) dj68_11_9 rfl (wf_AbstractStringBuilder_15 hw) (Fv) ?_
  refine g_arraylength (pc' := 13) dj68_11_12 rfl (A) ?_
  refine g_staticB [] (pc' := 16) [] [_] dj68_11_13 rfl (wl_AbstractStringBuilder_26 hw) (ws_StringUTF16_newBytesFor_lIrAB hw) (wi_StringUTF16 hw) (wb_StringUTF16_newBytesFor_lIrAB hw) (by decide) (Pay.of_met (met_NBFx hw) (wb_StringUTF16_newBytesFor_lIrAB hw) (wi_StringUTF16 hw) rfl rfl) (fun _ _ q => by obtain ⟨_, _, -, -, q, -⟩ := q; exact keep_ext q) (fun _ q => nomatch q) pd_lIrAB rfl rfl rfl rfl rfl (fun _ q => nomatch q) fun v13 h13 q13 l13 => ?_
  obtain ⟨t', kb', rfl, et, E13, c13, A13⟩ := q13
  refine ⟨[t'], fun x hx => by cases List.mem_singleton.mp hx; exact ⟨Nat.le_of_eq et.symm, A13.lt⟩, ?_⟩
  have htb : b ≠ t' := Nat.ne_of_lt (by rw [et]; exact E.lt)
  have htt : t ≠ t' := Nat.ne_of_lt (by rw [et]; exact A.lt)
  have nb : b ∉ [t'] := fun q => htb (List.mem_singleton.mp q)
  have zt : Z.heap.size ≤ t' := by rw [et]; exact EZ.1
  refine g_astoreN (pc' := 17) (Ls' := #[_, _]) dj68_11_16 rfl rfl rfl ?_
  refine g_aloadN (pc' := 18) dj68_11_17 rfl rfl rfl ?_
  refine g_getfield (pc' := 21) dj68_11_18 rfl (wf_AbstractStringBuilder_15 hw) ((Fv.ext E13)) ?_
  refine g_iconst (pc' := 22) (w := 0) dj68_11_21 rfl (by decide) ?_
  refine g_aloadN (pc' := 23) dj68_11_22 rfl rfl rfl ?_
  refine g_iconst (pc' := 24) (w := 0) dj68_11_23 rfl (by decide) ?_
  refine g_aloadN (pc' := 25) dj68_11_24 rfl rfl rfl ?_
  refine g_getfield (pc' := 28) dj68_11_25 rfl (wf_AbstractStringBuilder_79 hw) ((Fn.ext E13)) ?_
  refine g_invokestatic (pc' := 31) [t'] [_, _, _, _, _] dj68_11_28 rfl (wl_AbstractStringBuilder_125 hw) (ws_StringLatin1_inflate_lABIABIIrV hw) (wi_StringLatin1 hw) (wb_StringLatin1_inflate_lABIABIIrV hw) (by decide) (Pay.of_met (met_LI hw U F rf (off := 0) (cap := 16) (m := 16) (ds := []) (fun _ q => nomatch q) (A.ext E13) (fun _ q => absurd q (Nat.not_lt_zero _)) (by decide) (by decide) htt zt A13 (by decide) (by decide) (by decide)) (wb_StringLatin1_inflate_lABIABIIrV hw) (wi_StringLatin1 hw) rfl rfl) pd_lABIABIIrV rfl rfl rfl rfl rfl (fun _ q => by cases List.mem_singleton.mp q; simp) fun v28 h28 q28 l28 => ?_
  obtain ⟨rfl, K28, A28⟩ := q28
  refine g_aloadN (pc' := 32) dj68_11_31 rfl rfl rfl ?_
  refine g_aloadN (pc' := 33) dj68_11_32 rfl rfl rfl ?_
  refine g_putfield (pc' := 36) dj68_11_33 rfl (wf_AbstractStringBuilder_15 hw) ((Fv.ext E13).keep K28 nb) ((E.ext E13).keep K28) (Or.inl (wy_StringBuilder_AbstractStringBuilder_value hw)) (wn_StringBuilder hw) (ty := (.array .byte)) (by decide) rfl rfl (hb) (by simp) fun h33 W33 => ?_
  refine g_aloadN (pc' := 37) dj68_11_36 rfl rfl rfl ?_
  refine g_iconst (pc' := 38) (w := 1) dj68_11_37 rfl (by decide) ?_
  refine g_putfield (pc' := 41) dj68_11_38 rfl (wf_AbstractStringBuilder_22 hw) (((Fc.ext E13).keep K28 nb).other W33 (Or.inr (sb_ne1 hw))) (((E.ext E13).keep K28).wr W33) (Or.inl (wy_StringBuilder_AbstractStringBuilder_coder hw)) (wn_StringBuilder hw) (ty := .byte) (by decide) rfl rfl (hb) (by simp) fun h38 W38 => ?_
  have A38 := (A28.other W33 htb.symm).other W38 htb.symm
  refine g_return dj68_11_41 rfl rfl rfl ⟨rfl, ?_, t', Nat.le_of_eq et.symm, A38.lt, (((E.ext E13).keep K28).wr W33).wr W38, (((Fv.ext E13).keep K28 nb).same W33).other W38 (Or.inr (sb_ne1 hw).symm), (((Fc.ext E13).keep K28 nb).other W33 (Or.inr (sb_ne1 hw))).same W38, (((Fn.ext E13).keep K28 nb).other W33 (Or.inr (sb_ne2 hw))).other W38 (Or.inr (sb_ne3 hw)), (((M.ext E13).keep K28 nb).other W33 (Or.inr (mb_ne1 hw))).other W38 (Or.inr (mb_ne2 hw)), kb', _, c13, A38, rfl, rfl, by decide, by decide⟩
  exact (((((Keep.refl h [b]).ext E13).trans K28 (fun y hy => by cases List.mem_singleton.mp hy; exact Or.inr (Nat.le_of_eq et.symm)))).wr W33 (Or.inl (List.mem_cons_self ..))).wr W38 (Or.inl (List.mem_cons_self ..))
/-- nothing to do -/
theorem met_inflR (hw : ∀ d ∈ tables_1, d.before a0 Z = true) (S : Sta Z Z.heap "java/lang/String" "COMPACT_STRINGS" "Z" (.int z)) (hz : ¬ z = 0) {b : Addr} (E : Exa Z h b SBN) (Fc : Fld Z h b ASB "coder" "B" (.int 1)) : MetW [] l yInfl jdk_68_method_11_code 2 none (Rm 1 0 0 20) #[.ref b] Z a0 EL nw [] h (fun v h' => v = none ∧ h' = h) := by
  refine MetW.of (by first | exact plainFor_of_name (by first | (simp [plainName, overriddenIn]; done) | decide +kernel) | decide +kernel) fun X hX => Go.old fun EZ => ?_
  show Go X _ _ _ _ _ _ _ _ _ _ _ _ _ _ _ _ (mkF X.m 0 #[.val (.ref b), .unset] [])
  refine g_aloadN (pc' := 1) dj68_11_0 rfl rfl rfl ?_
  refine g_invokevirtualN (pc' := 4) [] [] dj68_11_1 rfl (wl_AbstractStringBuilder_83 hw) (wd_AbstractStringBuilder_isLatin1_lrZ hw) (wv_StringBuilder_AbstractStringBuilder_isLatin1_lrZ hw) (wm_AbstractStringBuilder_isLatin1_lrZ hw) (by decide) (NF.sel (wv_StringBuilder_AbstractStringBuilder_isLatin1_lrZ hw)) (E) (Pay.of_met (met_AI hw S hz Fc) (wb_AbstractStringBuilder_isLatin1_lrZ hw) (wi_AbstractStringBuilder hw) rfl rfl) pd_lrZ rfl rfl rfl rfl rfl (fun _ q => nomatch q) fun v1 h1 q1 l1 => ?_
  obtain ⟨rfl, rfl⟩ := q1
  refine g_ifne (pc' := 7) (pc2 := 8) dj68_11_4 rfl (by decide) rfl (fun c4 => ?_) (fun c4 => False.elim (absurd (by decide) c4))
  refine g_return dj68_11_7 rfl rfl rfl (⟨rfl, rfl⟩)
theorem Str.wid {x : Addr} {cs : List Int32} (T : Str Z h x cs) (hp : ∃ c ∈ cs, (255 : Int32) < c) : ∃ (t : Addr) (kb : ClassId), Fld Z h x "java/lang/String" "value" "[B" (.ref t) ∧ Fld Z h x "java/lang/String" "coder" "B" (.int 1) ∧ Arv Z h t kb .byte (Int32.ofNat (2 * cs.length)) (wideB cs) (.int 0) ∧ (∀ c ∈ cs, ¬ c < 0 ∧ ¬ (65535 : Int32) < c) ∧ cs.length ≤ 4000 := by
  obtain ⟨E1, t, kb, cd, N2, vs, V, C, A, hc, hb, hl⟩ := T
  rcases hc with ⟨-, -, -, q⟩ | ⟨rfl, rfl, rfl, -⟩
  · obtain ⟨c, q1, q2⟩ := hp
    exact absurd q2 (q c q1)
  · exact ⟨t, kb, V, C, A, hb, hl⟩
theorem met_infW1 (hw : ∀ d ∈ tables_1, d.before a0 Z = true) (U : SU Z) (F : SFm Z fm) (rf : fm.isRef = true) (S : Sta Z Z.heap "java/lang/String" "COMPACT_STRINGS" "Z" (.int z)) (hz : ¬ z = 0) {b t x : Addr} (hb : Z.heap.size ≤ b) (B : SBd Z h b t [] 16) (M : Mb Z h b) (E : Exa Z h x "java/lang/String") (C : Fld Z h x "java/lang/String" "coder" "B" (.int 1)) :
    MetW [] l yInf jdk_68_method_71_code 2 none (Rm 6 1 32 120) #[.ref b, .ref x] Z a0 EL nw [b] h (fun v h' => v = none ∧ Keep h h' [b] ∧ ∃ t', h.size ≤ t' ∧ t' < h'.size ∧ SBw Z h' b t' [] 16) := by
  refine MetW.of (by first | exact plainFor_of_name (by first | (simp [plainName, overriddenIn]; done) | decide +kernel) | decide +kernel) fun X hX => Go.old fun EZ => ?_
  show Go X _ _ _ _ _ _ _ _ _ _ _ _ _ _ _ _ (mkF X.m 0 #[.val (.ref b), .val (.ref x)] [])
  refine g_getstatic (pc' := 3) dj68_71_0 rfl (wf_AbstractStringBuilder_18 hw) (S) ?_
  refine g_ifeq (pc' := 6) (pc2 := 21) dj68_71_3 rfl (by decide) rfl (fun c3 => ?_) (fun c3 => False.elim (hz c3))
  refine g_aloadN (pc' := 7) dj68_71_6 rfl rfl rfl ?_
  refine g_getfield (pc' := 10) dj68_71_7 rfl (wf_AbstractStringBuilder_22 hw) (B.2.2.1) ?_
  refine g_aloadN (pc' := 11) dj68_71_10 rfl rfl rfl ?_
  refine g_invokevirtual (pc' := 14) [] [] dj68_71_11 rfl (wl_AbstractStringBuilder_40 hw) (wd_String_coder_lrB hw) (wv_String_String_coder_lrB hw) (wm_String_coder_lrB hw) (by decide) (E) (Pay.of_met (met_cod hw S hz rfl C) (wb_String_coder_lrB hw) (wi_String hw) rfl rfl) pd_lrB rfl rfl rfl rfl rfl (fun _ q => nomatch q) fun v11 h11 q11 l11 => ?_
  obtain ⟨rfl, e11⟩ := q11
  have e11 := e11.symm
  subst e11
  refine g_icmpeq (pc' := 17) (pc2 := 21) dj68_71_14 rfl (by decide) rfl (fun c14 => ?_) (fun c14 => False.elim (absurd c14 (by decide)))
  refine g_aloadN (pc' := 18) dj68_71_17 rfl rfl rfl ?_
  refine g_private (pc' := 21) [b] [] dj68_71_18 rfl (wl_AbstractStringBuilder_195 hw) (wq_AbstractStringBuilder_inflate_lrV hw) (wv_StringBuilder_AbstractStringBuilder_inflate_lrV hw) (wm_AbstractStringBuilder_inflate_lrV hw) (by decide) (wb_AbstractStringBuilder_inflate_lrV hw) (B.1) (Pay.of_met (met_infl hw U F rf S hz hb B M) (wb_AbstractStringBuilder_inflate_lrV hw) (wi_AbstractStringBuilder hw) rfl rfl) pd_lrV rfl rfl rfl rfl rfl (fun _ q => q) fun v18 h18 q18 l18 => ?_
  obtain ⟨rfl, q⟩ := q18
  refine g_return dj68_71_21 rfl rfl rfl (⟨rfl, q⟩)
theorem met_infW0 (hw : ∀ d ∈ tables_1, d.before a0 Z = true) (S : Sta Z Z.heap "java/lang/String" "COMPACT_STRINGS" "Z" (.int z)) (hz : ¬ z = 0) {b x : Addr} (Eb : Exa Z h b SBN) (Fc : Fld Z h b ASB "coder" "B" (.int 1)) (E : Exa Z h x "java/lang/String") (C : Fld Z h x "java/lang/String" "coder" "B" (.int 0)) :
    MetW [] l yInf jdk_68_method_71_code 2 none (Rm 2 0 0 40) #[.ref b, .ref x] Z a0 EL nw [] h (fun v h' => v = none ∧ h' = h) := by
  refine MetW.of (by first | exact plainFor_of_name (by first | (simp [plainName, overriddenIn]; done) | decide +kernel) | decide +kernel) fun X hX => Go.old fun EZ => ?_
  show Go X _ _ _ _ _ _ _ _ _ _ _ _ _ _ _ _ (mkF X.m 0 #[.val (.ref b), .val (.ref x)] [])
  refine g_getstatic (pc' := 3) dj68_71_0 rfl (wf_AbstractStringBuilder_18 hw) (S) ?_
  refine g_ifeq (pc' := 6) (pc2 := 21) dj68_71_3 rfl (by decide) rfl (fun c3 => ?_) (fun c3 => False.elim (hz c3))
  refine g_aloadN (pc' := 7) dj68_71_6 rfl rfl rfl ?_
  refine g_getfield (pc' := 10) dj68_71_7 rfl (wf_AbstractStringBuilder_22 hw) (Fc) ?_
  refine g_aloadN (pc' := 11) dj68_71_10 rfl rfl rfl ?_
  refine g_invokevirtual (pc' := 14) [] [] dj68_71_11 rfl (wl_AbstractStringBuilder_40 hw) (wd_String_coder_lrB hw) (wv_String_String_coder_lrB hw) (wm_String_coder_lrB hw) (by decide) (E) (Pay.of_met (met_cod hw S hz rfl C) (wb_String_coder_lrB hw) (wi_String hw) rfl rfl) pd_lrB rfl rfl rfl rfl rfl (fun _ q => nomatch q) fun v11 h11 q11 l11 => ?_
  obtain ⟨rfl, e11⟩ := q11
  have e11 := e11.symm
  subst e11
  refine g_icmpeq (pc' := 17) (pc2 := 21) dj68_71_14 rfl (by decide) rfl (fun c14 => ?_) (fun c14 => False.elim (absurd c14 (by decide)))
  refine g_aloadN (pc' := 18) dj68_71_17 rfl rfl rfl ?_
  refine g_private (pc' := 21) [] [] dj68_71_18 rfl (wl_AbstractStringBuilder_195 hw) (wq_AbstractStringBuilder_inflate_lrV hw) (wv_StringBuilder_AbstractStringBuilder_inflate_lrV hw) (wm_AbstractStringBuilder_inflate_lrV hw) (by decide) (wb_AbstractStringBuilder_inflate_lrV hw) (Eb) (Pay.of_met (met_inflR hw S hz Eb Fc) (wb_AbstractStringBuilder_inflate_lrV hw) (wi_AbstractStringBuilder hw) rfl rfl) pd_lrV rfl rfl rfl rfl rfl (fun _ q => nomatch q) fun v18 h18 q18 l18 => ?_
  obtain ⟨rfl, rfl⟩ := q18
  refine g_return dj68_71_21 rfl rfl rfl (⟨rfl, rfl⟩)
theorem met_GByW1 (hw : ∀ d ∈ tables_1, d.before a0 Z = true) (S : Sta Z Z.heap "java/lang/String" "COMPACT_STRINGS" "Z" (.int z)) (hz : ¬ z = 0) {x dst : Addr} {kb : ClassId} {vd : List Value} {cap off : Nat} {ds : List Int32} (T : Str Z h x ds) (hds : ∃ c ∈ ds, (255 : Int32) < c) (hdst : Z.heap.size ≤ dst) (B : Arv Z h dst kb .byte (Int32.ofNat (2 * cap)) vd (.int 0)) (hcap : cap ≤ 2000) (hvd : vd.length = 2 * cap) (hoff : off + ds.length ≤ cap) :
    MetW [] l yGBy jdk_42_method_147_code 4 none (Rm 1 0 0 40) #[.ref x, .ref dst, .int (Int32.ofNat off), .int 1] Z a0 EL nw [dst] h (fun v h' => v = none ∧ Keep h h' [dst] ∧ Arv Z h' dst kb .byte (Int32.ofNat (2 * cap)) (vd.take (2 * off) ++ wideB ds ++ vd.drop (2 * off + 2 * ds.length)) (.int 0)) := by
  obtain ⟨t, kx, V, C, A, -, hl⟩ := Str.wid T hds
  have hwl : (wideB ds).length = 2 * ds.length := wide_len ds
  refine MetW.of (by first | exact plainFor_of_name (by first | (simp [plainName, overriddenIn]; done) | decide +kernel) | decide +kernel) fun X hX => Go.old fun EZ => ?_
  show Go X _ _ _ _ _ _ _ _ _ _ _ _ _ _ _ _ (mkF X.m 0 #[.val (.ref x), .val (.ref dst), .val (.int (Int32.ofNat off)), .val (.int 1)] [])
  refine g_aloadN (pc' := 1) dj42_147_0 rfl rfl rfl ?_
  refine g_invokevirtual (pc' := 4) [] [] dj42_147_1 rfl (wl_String_335 hw) (wd_String_coder_lrB hw) (wv_String_String_coder_lrB hw) (wm_String_coder_lrB hw) (by decide) (T.exa) (Pay.of_met (met_cod hw S hz rfl C) (wb_String_coder_lrB hw) (wi_String hw) rfl rfl) pd_lrB rfl rfl rfl rfl rfl (fun _ q => nomatch q) fun v1 h1 q1 l1 => ?_
  obtain ⟨rfl, e1⟩ := q1
  have e1 := e1.symm
  subst e1
  refine g_iloadN (pc' := 5) dj42_147_4 rfl rfl ?_
  refine g_icmpne (pc' := 8) (pc2 := 28) dj42_147_5 rfl (by decide) rfl (fun c5 => ?_) (fun c5 => False.elim (c5 rfl))
  refine g_aloadN (pc' := 9) dj42_147_8 rfl rfl rfl ?_
  refine g_getfield (pc' := 12) dj42_147_9 rfl (wf_String_9 hw) (V) ?_
  refine g_iconst (pc' := 13) (w := 0) dj42_147_12 rfl (by decide) ?_
  refine g_aloadN (pc' := 14) dj42_147_13 rfl rfl rfl ?_
  refine g_iloadN (pc' := 15) dj42_147_14 rfl rfl ?_
  refine g_iloadN (pc' := 16) dj42_147_15 rfl rfl ?_
  refine g_ishl (pc' := 17) dj42_147_16 rfl ?_
  rw [shl1]
  refine g_aloadN (pc' := 18) dj42_147_17 rfl rfl rfl ?_
  refine g_getfield (pc' := 21) dj42_147_18 rfl (wf_String_9 hw) (V) ?_
  refine g_arraylength (pc' := 22) dj42_147_21 rfl (A) ?_
  refine g_arraycopy (pc' := 25) dj42_147_22 rfl (wl_String_212 hw) (wn_System_arraycopy_lLjavalangObjectILjavalangObjectIIrV hw) (ws_System_arraycopy_lLjavalangObjectILjavalangObjectIIrV hw) (wi_System hw) A B (by decide) (ofNat_nn (by omega)) (ofNat_nn (by omega)) (by rw [ofNat_clamp (by omega)]; show 0 + 2 * ds.length ≤ _; omega) (by rw [ofNat_clamp (by omega), ofNat_clamp (by omega), ofNat_clamp (by omega)]; omega) rfl (by rw [ofNat_clamp (by omega), ofNat_clamp (by omega)]; omega) hdst (List.mem_cons_self ..) rfl rfl rfl fun h22 K22 A22 => ?_
  rw [ofNat_clamp (a := 2 * off) (by omega), ofNat_clamp (a := 2 * ds.length) (by omega)] at A22
  have e0 : (0 : Int32).toNatClampNeg = 0 := rfl
  rw [e0, us_all hwl] at A22
  refine g_goto (pc' := 43) dj42_147_25 (by decide) rfl ?_
  refine g_return dj42_147_43 rfl rfl rfl (⟨rfl, K22, A22⟩)
theorem met_GByW0 (hw : ∀ d ∈ tables_1, d.before a0 Z = true) (U : SU Z) (F : SFm Z fm) (rf : fm.isRef = true) (S : Sta Z Z.heap "java/lang/String" "COMPACT_STRINGS" "Z" (.int z)) (hz : ¬ z = 0) {x dst : Addr} {kb : ClassId} {vd : List Value} {cap off : Nat} {ds : List Int32} {t : Addr} {kx : ClassId} (Ex : Exa Z h x "java/lang/String") (V : Fld Z h x "java/lang/String" "value" "[B" (.ref t)) (C : Fld Z h x "java/lang/String" "coder" "B" (.int 0)) (A : Arv Z h t kx .byte (Int32.ofNat ds.length) (bys ds) (.int 0)) (hl : ds.length ≤ 4000) (hds : ∀ c ∈ ds, ¬ c < 0 ∧ ¬ (255 : Int32) < c) (hne : t ≠ dst) (hdst : Z.heap.size ≤ dst) (B : Arv Z h dst kb .byte (Int32.ofNat (2 * cap)) vd (.int 0)) (hcap : cap ≤ 2000) (hvd : vd.length = 2 * cap) (hoff : off + ds.length ≤ cap) :
    MetW [] l yGBy jdk_42_method_147_code 4 none (Rm 5 0 0 100) #[.ref x, .ref dst, .int (Int32.ofNat off), .int 1] Z a0 EL nw [dst] h (fun v h' => v = none ∧ Keep h h' [dst] ∧ Arv Z h' dst kb .byte (Int32.ofNat (2 * cap)) (vd.take (2 * off) ++ wideB ds ++ vd.drop (2 * (off + ds.length))) (.int 0)) := by
  refine MetW.of (by first | exact plainFor_of_name (by first | (simp [plainName, overriddenIn]; done) | decide +kernel) | decide +kernel) fun X hX => Go.old fun EZ => ?_
  show Go X _ _ _ _ _ _ _ _ _ _ _ _ _ _ _ _ (mkF X.m 0 #[.val (.ref x), .val (.ref dst), .val (.int (Int32.ofNat off)), .val (.int 1)] [])
  refine g_aloadN (pc' := 1) dj42_147_0 rfl rfl rfl ?_
  refine g_invokevirtual (pc' := 4) [] [] dj42_147_1 rfl (wl_String_335 hw) (wd_String_coder_lrB hw) (wv_String_String_coder_lrB hw) (wm_String_coder_lrB hw) (by decide) (Ex) (Pay.of_met (met_cod hw S hz rfl C) (wb_String_coder_lrB hw) (wi_String hw) rfl rfl) pd_lrB rfl rfl rfl rfl rfl (fun _ q => nomatch q) fun v1 h1 q1 l1 => ?_
  obtain ⟨rfl, e1⟩ := q1
  have e1 := e1.symm
  subst e1
  refine g_iloadN (pc' := 5) dj42_147_4 rfl rfl ?_
  refine g_icmpne (pc' := 8) (pc2 := 28) dj42_147_5 rfl (by decide) rfl (fun c5 => False.elim (absurd c5 (by decide))) (fun c5 => ?_)
  refine g_aloadN (pc' := 29) dj42_147_28 rfl rfl rfl ?_
  refine g_getfield (pc' := 32) dj42_147_29 rfl (wf_String_9 hw) (V) ?_
  refine g_iconst (pc' := 33) (w := 0) dj42_147_32 rfl (by decide) ?_
  refine g_aloadN (pc' := 34) dj42_147_33 rfl rfl rfl ?_
  refine g_iloadN (pc' := 35) dj42_147_34 rfl rfl ?_
  refine g_aloadN (pc' := 36) dj42_147_35 rfl rfl rfl ?_
  refine g_getfield (pc' := 39) dj42_147_36 rfl (wf_String_9 hw) (V) ?_
  refine g_arraylength (pc' := 40) dj42_147_39 rfl (A) ?_
  refine g_invokestatic (pc' := 43) [dst] [_, _, _, _, _] dj42_147_40 rfl (wl_String_106 hw) (ws_StringLatin1_inflate_lABIABIIrV hw) (wi_StringLatin1 hw) (wb_StringLatin1_inflate_lABIABIIrV hw) (by decide) (Pay.of_met (met_LI hw U F rf hds A (fun j hj => by rw [List.getD_eq_getElem?_getD, List.getElem?_map, List.getElem?_eq_getElem hj, List.getD_eq_getElem?_getD, List.getElem?_eq_getElem hj]; rfl) (Nat.le_refl _) hl hne hdst B (by omega) hvd hoff) (wb_StringLatin1_inflate_lABIABIIrV hw) (wi_StringLatin1 hw) rfl rfl) pd_lABIABIIrV rfl rfl rfl rfl rfl (fun _ q => q) fun v40 h40 q40 l40 => ?_
  obtain ⟨rfl, q⟩ := q40
  refine g_return dj42_147_43 rfl rfl rfl (⟨rfl, q⟩)
theorem met_PSAw1 (hw : ∀ d ∈ tables_1, d.before a0 Z = true) (U : SU Z) (F : SFm Z fm) (rf : fm.isRef = true) (S : Sta Z Z.heap "java/lang/String" "COMPACT_STRINGS" "Z" (.int z)) (hz : ¬ z = 0) (EZ : Ext Z.heap h) {b t x : Addr} {ds : List Int32} (hb : Z.heap.size ≤ b) (B : SBd Z h b t [] 16) (M : Mb Z h b) (T : Str Z h x ds) (hds : ∃ c ∈ ds, (255 : Int32) < c) (h16 : ds.length ≤ 16) :
    MetW [] l yPSA jdk_68_method_73_code 3 none (Rm 7 1 32 140) #[.ref b, .int (Int32.ofNat 0), .ref x] Z a0 EL nw [b] h (fun v h' => v = none ∧ Keep h h' [b] ∧ ∃ t', h.size ≤ t' ∧ t' < h'.size ∧ Exa Z h' b SBN ∧ Fld Z h' b ASB "value" "[B" (.ref t') ∧ Fld Z h' b ASB "coder" "B" (.int 1) ∧ Fld Z h' b ASB "count" "I" (.int (Int32.ofNat 0)) ∧ Mb Z h' b ∧ ∃ (kb : ClassId) (vs : List Value), Z.vm.findClass "[B" = some kb ∧ Arv Z h' t' kb .byte (Int32.ofNat (2 * 16)) (wideB ds ++ vs) (.int 0) ∧ (wideB ds ++ vs).length = 2 * 16) := by
  obtain ⟨tx, kx, V, C, A, -, hl⟩ := Str.wid T hds
  refine MetW.of (by first | exact plainFor_of_name (by first | (simp [plainName, overriddenIn]; done) | decide +kernel) | decide +kernel) fun X hX => Go.old fun EZ => ?_
  show Go X _ _ _ _ _ _ _ _ _ _ _ _ _ _ _ _ (mkF X.m 0 #[.val (.ref b), .val (.int (Int32.ofNat 0)), .val (.ref x)] [])
  refine g_aloadN (pc' := 1) dj68_73_0 rfl rfl rfl ?_
  refine g_aloadN (pc' := 2) dj68_73_1 rfl rfl rfl ?_
  refine g_privateB [b] (pc' := 5) [b] [_] dj68_73_2 rfl (wl_AbstractStringBuilder_397 hw) (wq_AbstractStringBuilder_inflateIfNeededFor_lLjavalangStringrV hw) (wv_StringBuilder_AbstractStringBuilder_inflateIfNeededFor_lLjavalangStringrV hw) (wm_AbstractStringBuilder_inflateIfNeededFor_lLjavalangStringrV hw) (by decide) (wb_AbstractStringBuilder_inflateIfNeededFor_lLjavalangStringrV hw) (B.1) (Pay.of_met (met_infW1 hw U F rf S hz hb B M T.exa C) (wb_AbstractStringBuilder_inflateIfNeededFor_lLjavalangStringrV hw) (wi_AbstractStringBuilder hw) rfl rfl) (fun _ _ q => q.2.1) (fun _ q => q) pd_lLjavalangStringrV rfl rfl rfl rfl rfl (fun _ q => q) fun v2 h2 q2 l2 => ?_
  obtain ⟨rfl, K2, t', t1, t2, B2⟩ := q2
  refine ⟨[t'], fun x hx => by cases List.mem_singleton.mp hx; exact ⟨t1, t2⟩, ?_⟩
  obtain ⟨E', Fv', Fc', Fn', M', kb', vs', hc', A', hvs', htk', hle', h4'⟩ := B2
  have T2 : Str Z h2 x ds := str_keepW T B.1 (wn_StringBuilder hw) (by decide) K2
  have zt : Z.heap.size ≤ t' := Nat.le_trans EZ.1 t1
  have nb : b ∉ [t'] := fun q => absurd B.1.lt (Nat.not_lt.mpr (by rw [List.mem_singleton.mp q]; exact t1))
  refine g_aloadN (pc' := 6) dj68_73_5 rfl rfl rfl ?_
  refine g_aloadN (pc' := 7) dj68_73_6 rfl rfl rfl ?_
  refine g_getfield (pc' := 10) dj68_73_7 rfl (wf_AbstractStringBuilder_15 hw) (Fv') ?_
  refine g_iloadN (pc' := 11) dj68_73_10 rfl rfl ?_
  refine g_aloadN (pc' := 12) dj68_73_11 rfl rfl rfl ?_
  refine g_getfield (pc' := 15) dj68_73_12 rfl (wf_AbstractStringBuilder_22 hw) (Fc') ?_
  refine g_invokevirtual (pc' := 18) [t'] [_, _, _] dj68_73_15 rfl (wl_AbstractStringBuilder_399 hw) (wd_String_getBytes_lABIBrV hw) (wv_String_String_getBytes_lABIBrV hw) (wm_String_getBytes_lABIBrV hw) (by decide) (T2.exa) (Pay.of_met (met_GByW1 hw S hz T2 hds zt A' (by decide) hvs' (off := 0) (by omega)) (wb_String_getBytes_lABIBrV hw) (wi_String hw) rfl rfl) pd_lABIBrV rfl rfl rfl rfl rfl (fun _ q => by cases List.mem_singleton.mp q; simp) fun v15 h15 q15 l15 => ?_
  obtain ⟨rfl, K15, A15⟩ := q15
  have e : vs'.take (2 * 0) ++ wideB ds ++ vs'.drop (2 * 0 + 2 * ds.length) = wideB ds ++ vs'.drop (2 * 0 + 2 * ds.length) := by rw [Nat.mul_zero, List.take_zero, List.nil_append]
  rw [e] at A15
  refine g_return dj68_73_18 rfl rfl rfl (⟨rfl, K2.trans K15 (fun y hy => by cases List.mem_singleton.mp hy; exact Or.inr t1), t', t1, A15.lt, E'.keep K15, Fv'.keep K15 nb, Fc'.keep K15 nb, Fn'.keep K15 nb, M'.keep K15 nb, kb', _, hc', A15, by rw [List.length_append, wide_len, List.length_drop, hvs']; omega⟩)
/-- a wide text, onto nothing -/
theorem met_ApSw1 (hw : ∀ d ∈ tables_1, d.before a0 Z = true) (U : SU Z) (F : SFm Z fm) (rf : fm.isRef = true) (S : Sta Z Z.heap "java/lang/String" "COMPACT_STRINGS" "Z" (.int z)) (hz : ¬ z = 0) (EZ : Ext Z.heap h) {b t x : Addr} {ds : List Int32} (hb : Z.heap.size ≤ b) (B : SBd Z h b t [] 16) (M : Mb Z h b) (T : Str Z h x ds) (hds : ∃ c ∈ ds, (255 : Int32) < c) (h16 : ds.length ≤ 16) :
    MetW [] l yApS jdk_68_method_22_code 3 (some (.object ASB)) (Rm 8 1 32 160) #[.ref b, .ref x] Z a0 EL nw [b] h (fun v h' => v = some (.ref b) ∧ Keep h h' [b] ∧ ∃ t', h.size ≤ t' ∧ t' < h'.size ∧ SBw Z h' b t' ds 16) := by
  obtain ⟨E, Fv, Fc, Fn, -⟩ := id B
  refine MetW.of (by first | exact plainFor_of_name (by first | (simp [plainName, overriddenIn]; done) | decide +kernel) | decide +kernel) fun X hX => Go.old fun EZ => ?_
  show Go X _ _ _ _ _ _ _ _ _ _ _ _ _ _ _ _ (mkF X.m 0 #[.val (.ref b), .val (.ref x), .unset] [])
  refine g_aloadN (pc' := 1) dj68_22_0 rfl rfl rfl ?_
  refine g_ifnonnullY (pc2 := 9) dj68_22_1 (by decide) rfl ?_
  refine g_aloadN (pc' := 10) dj68_22_9 rfl rfl rfl ?_
  refine g_invokevirtualN (pc' := 13) [] [] dj68_22_10 rfl (wl_AbstractStringBuilder_32 hw) (wd_String_length_lrI hw) (wv_String_String_length_lrI hw) (wm_String_length_lrI hw) (by decide) (NF.sel (wv_String_String_length_lrI hw)) (T.exa) (pay_len (own_len hw) (wn_String hw) S hz EZ T rfl rfl) pd_lrI rfl rfl rfl rfl rfl (fun _ q => nomatch q) fun v10 h10 q10 l10 => ?_
  obtain ⟨rfl, e10⟩ := q10
  have e10 := e10.symm
  subst e10
  refine g_istoreN (pc' := 14) (Ls' := #[_, _, _]) dj68_22_13 rfl rfl ?_
  refine g_aloadN (pc' := 15) dj68_22_14 rfl rfl rfl ?_
  refine g_aloadN (pc' := 16) dj68_22_15 rfl rfl rfl ?_
  refine g_getfield (pc' := 19) dj68_22_16 rfl (wf_AbstractStringBuilder_79 hw) (Fn) ?_
  refine g_iloadN (pc' := 20) dj68_22_19 rfl rfl ?_
  refine g_iadd (pc' := 21) dj68_22_20 rfl ?_
  rw [ofNat_add2]
  refine g_private (pc' := 24) [] [_] dj68_22_21 rfl (wl_AbstractStringBuilder_100 hw) (wq_AbstractStringBuilder_ensureCapacityInternal_lIrV hw) (wv_StringBuilder_AbstractStringBuilder_ensureCapacityInternal_lIrV hw) (wm_AbstractStringBuilder_ensureCapacityInternal_lIrV hw) (by decide) (wb_AbstractStringBuilder_ensureCapacityInternal_lIrV hw) (E) (Pay.of_met (met_ECI0 hw B (by show 0 + ds.length ≤ 16; omega)) (wb_AbstractStringBuilder_ensureCapacityInternal_lIrV hw) (wi_AbstractStringBuilder hw) rfl rfl) pd_lIrV rfl rfl rfl rfl rfl (fun _ q => nomatch q) fun v21 h21 q21 l21 => ?_
  obtain ⟨rfl, e21⟩ := q21
  have e21 := e21.symm
  subst e21
  refine g_aloadN (pc' := 25) dj68_22_24 rfl rfl rfl ?_
  refine g_aloadN (pc' := 26) dj68_22_25 rfl rfl rfl ?_
  refine g_getfield (pc' := 29) dj68_22_26 rfl (wf_AbstractStringBuilder_79 hw) (Fn) ?_
  refine g_aloadN (pc' := 30) dj68_22_29 rfl rfl rfl ?_
  refine g_private (pc' := 33) [b] [_, _] dj68_22_30 rfl (wl_AbstractStringBuilder_208 hw) (wq_AbstractStringBuilder_putStringAt_lILjavalangStringrV hw) (wv_StringBuilder_AbstractStringBuilder_putStringAt_lILjavalangStringrV hw) (wm_AbstractStringBuilder_putStringAt_lILjavalangStringrV hw) (by decide) (wb_AbstractStringBuilder_putStringAt_lILjavalangStringrV hw) (E) (Pay.of_met (met_PSAw1 hw U F rf S hz EZ hb B M T hds h16) (wb_AbstractStringBuilder_putStringAt_lILjavalangStringrV hw) (wi_AbstractStringBuilder hw) rfl rfl) pd_lILjavalangStringrV rfl rfl rfl rfl rfl (fun _ q => q) fun v30 h30 q30 l30 => ?_
  obtain ⟨rfl, K30, t', t1, t2, E', Fv', Fc', Fn', M', kb', vs', hc', A', hl'⟩ := q30
  refine g_aloadN (pc' := 34) dj68_22_33 rfl rfl rfl ?_
  refine g_dup (pc' := 35) dj68_22_34 rfl rfl ?_
  refine g_getfield (pc' := 38) dj68_22_35 rfl (wf_AbstractStringBuilder_79 hw) (Fn') ?_
  refine g_iloadN (pc' := 39) dj68_22_38 rfl rfl ?_
  refine g_iadd (pc' := 40) dj68_22_39 rfl ?_
  rw [ofNat_add2, Nat.zero_add]
  refine g_putfield (pc' := 43) dj68_22_40 rfl (wf_AbstractStringBuilder_79 hw) (Fn') (E') (Or.inl (wy_StringBuilder_AbstractStringBuilder_count hw)) (wn_StringBuilder hw) (ty := .int) (by decide) rfl rfl (hb) (by simp) fun h40 W40 => ?_
  refine g_aloadN (pc' := 44) dj68_22_43 rfl rfl rfl ?_
  have hbt : t' ≠ b := Nat.ne_of_gt (Nat.lt_of_lt_of_le E.lt t1)
  rw [Nat.zero_add] at W40
  have A40 := A'.other W40 hbt
  refine g_areturn dj68_22_44 rfl rfl rfl rfl rfl rfl ⟨rfl, K30.wr W40 (Or.inl (List.mem_cons_self ..)), t', t1, A40.lt, E'.wr W40, Fv'.other W40 (Or.inr (sb_ne2 hw).symm), Fc'.other W40 (Or.inr (sb_ne3 hw).symm), Fn'.same W40, M'.other W40 (Or.inr (mb_ne3 hw)), kb', _, hc', A40, hl', ?_, h16, by decide⟩
  rw [List.take_append_of_le_length (by rw [wide_len]; exact Nat.le_refl _), List.take_of_length_le (by rw [wide_len]; exact Nat.le_refl _)]
theorem met_SApSw1 (hw : ∀ d ∈ tables_1, d.before a0 Z = true) (U : SU Z) (F : SFm Z fm) (rf : fm.isRef = true) (S : Sta Z Z.heap "java/lang/String" "COMPACT_STRINGS" "Z" (.int z)) (hz : ¬ z = 0) (EZ : Ext Z.heap h) {b t x : Addr} {ds : List Int32} (hb : Z.heap.size ≤ b) (B : SBd Z h b t [] 16) (M : Mb Z h b) (T : Str Z h x ds) (hds : ∃ c ∈ ds, (255 : Int32) < c) (h16 : ds.length ≤ 16) :
    MetW [] l ySApS jdk_67_method_7_code 2 (some (.object SBN)) (Rm 9 1 32 180) #[.ref b, .ref x] Z a0 EL nw [b] h (fun v h' => v = some (.ref b) ∧ Keep h h' [b] ∧ ∃ t', h.size ≤ t' ∧ t' < h'.size ∧ SBw Z h' b t' ds 16) := by
  refine MetW.of (by first | exact plainFor_of_name (by first | (simp [plainName, overriddenIn]; done) | decide +kernel) | decide +kernel) fun X hX => Go.old fun EZ => ?_
  show Go X _ _ _ _ _ _ _ _ _ _ _ _ _ _ _ _ (mkF X.m 0 #[.val (.ref b), .val (.ref x)] [])
  refine g_aloadN (pc' := 1) dj67_7_0 rfl rfl rfl ?_
  refine g_aloadN (pc' := 2) dj67_7_1 rfl rfl rfl ?_
  refine g_super (pc' := 5) [b] [_] dj67_7_2 rfl (by decide) (wl_StringBuilder_29 hw) (wm_AbstractStringBuilder_append_lLjavalangStringrLjavalangAbstractStringBuilder hw) (wz_StringBuilder_AbstractStringBuilder hw) (asb_ni hw) (Ins.self B.1) (wb_AbstractStringBuilder_append_lLjavalangStringrLjavalangAbstractStringBuilder hw) (by decide) (Pay.of_met (met_ApSw1 hw U F rf S hz EZ hb B M T hds h16) (wb_AbstractStringBuilder_append_lLjavalangStringrLjavalangAbstractStringBuilder hw) (wi_AbstractStringBuilder hw) rfl rfl) pd_lLjavalangStringrLjavalangAbstractStringBuilder rfl rfl rfl rfl rfl (fun _ q => q) fun v2 h2 q2 l2 => ?_
  obtain ⟨rfl, q⟩ := q2
  refine g_pop (pc' := 6) dj67_7_5 rfl rfl ?_
  refine g_aloadN (pc' := 7) dj67_7_6 rfl rfl rfl ?_
  refine g_areturn dj67_7_7 rfl rfl rfl rfl rfl rfl (⟨rfl, q⟩)
theorem met_NCw (hw : ∀ d ∈ tables_1, d.before a0 Z = true) {b t : Addr} {kb : ClassId} {vs : List Value} {cap N : Nat} (Fv : Fld Z h b ASB "value" "[B" (.ref t)) (Fc : Fld Z h b ASB "coder" "B" (.int 1)) (A : Arv Z h t kb .byte (Int32.ofNat (2 * cap)) vs (.int 0)) (hcap : cap ≤ 2000) (hN : cap < N) (hN' : N ≤ 4200) : MetW [] l yNC jdk_68_method_10_code 6 (some .int) (Rm 2 0 0 40) #[.ref b, .int (Int32.ofNat N)] Z a0 EL nw [] h (fun v h' => v = some (.int (Int32.ofNat (max N (2 * cap + 2)))) ∧ h' = h) := by
  have hm : 2 * cap + max (2 * N - 2 * cap) (2 * cap + 4) = 2 * max N (2 * cap + 2) := by omega
  have hm' : max N (2 * cap + 2) ≤ 4200 := Nat.max_le.mpr ⟨hN', by omega⟩
  have e2 : (2 : Int32) <<< ((1 : Int32) &&& 31) = Int32.ofNat 4 := by decide
  refine MetW.of (by first | exact plainFor_of_name (by first | (simp [plainName, overriddenIn]; done) | decide +kernel) | decide +kernel) fun X hX => Go.old fun EZ => ?_
  show Go X _ _ _ _ _ _ _ _ _ _ _ _ _ _ _ _ (mkF X.m 0 #[.val (.ref b), .val (.int (Int32.ofNat N)), .unset, .unset, .unset, .unset] [])
  refine g_aloadN (pc' := 1) dj68_10_0 rfl rfl rfl ?_
  refine g_getfield (pc' := 4) dj68_10_1 rfl (wf_AbstractStringBuilder_15 hw) (Fv) ?_
  refine g_arraylength (pc' := 5) dj68_10_4 rfl (A) ?_
  refine g_istoreN (pc' := 6) (Ls' := #[_, _, _, _, _, _]) dj68_10_5 rfl rfl ?_
  refine g_iloadN (pc' := 7) dj68_10_6 rfl rfl ?_
  refine g_aloadN (pc' := 8) dj68_10_7 rfl rfl rfl ?_
  refine g_getfield (pc' := 11) dj68_10_8 rfl (wf_AbstractStringBuilder_22 hw) (Fc) ?_
  refine g_ishl (pc' := 12) dj68_10_11 rfl ?_
  rw [shl1]
  refine g_istoreN (pc' := 13) (Ls' := #[_, _, _, _, _, _]) dj68_10_12 rfl rfl ?_
  refine g_iloadN (pc' := 14) dj68_10_13 rfl rfl ?_
  refine g_iloadN (pc' := 15) dj68_10_14 rfl rfl ?_
  refine g_isub (pc' := 16) dj68_10_15 rfl ?_
  rw [ofNat_sub (by omega)]
  refine g_istore (pc' := 18) (Ls' := #[_, _, _, _, _, _]) dj68_10_16 rfl rfl ?_
  refine g_iloadN (pc' := 19) dj68_10_18 rfl rfl ?_
  refine g_iload (pc' := 21) dj68_10_19 rfl rfl ?_
  refine g_iloadN (pc' := 22) dj68_10_21 rfl rfl ?_
  refine g_iconst (pc' := 23) (w := 2) dj68_10_22 rfl (by decide) ?_
  refine g_aloadN (pc' := 24) dj68_10_23 rfl rfl rfl ?_
  refine g_getfield (pc' := 27) dj68_10_24 rfl (wf_AbstractStringBuilder_22 hw) (Fc) ?_
  refine g_ishl (pc' := 28) dj68_10_27 rfl ?_
  rw [e2]
  refine g_iadd (pc' := 29) dj68_10_28 rfl ?_
  rw [ofNat_add2]
  refine g_invokestatic (pc' := 32) [] [_, _, _] dj68_10_29 rfl (wl_AbstractStringBuilder_114 hw) (ws_ArraysSupport_newLength_lIIIrI hw) (wi_ArraysSupport hw) (wb_ArraysSupport_newLength_lIIIrI hw) (by decide) (Pay.of_met (met_NL hw (by omega) (by omega) (by omega) (by omega)) (wb_ArraysSupport_newLength_lIIIrI hw) (wi_ArraysSupport hw) rfl rfl) pd_lIIIrI rfl rfl rfl rfl rfl (fun _ q => nomatch q) fun v29 h29 q29 l29 => ?_
  obtain ⟨rfl, rfl⟩ := q29
  rw [hm]
  refine g_istore (pc' := 34) (Ls' := #[_, _, _, _, _, _]) dj68_10_32 rfl rfl ?_
  refine g_iload (pc' := 36) dj68_10_34 rfl rfl ?_
  refine g_ldcI (pc' := 38) dj68_10_36 rfl (wk_AbstractStringBuilder_39 hw) ?_
  refine g_icmpne (pc' := 41) (pc2 := 51) dj68_10_38 rfl (by decide) rfl (fun c38 => False.elim (absurd ((ofNat_inj (b := 2147483647) (by omega) (by omega)).mp c38) (by omega))) (fun c38 => ?_)
  refine g_iload (pc' := 53) dj68_10_51 rfl rfl ?_
  refine g_aloadN (pc' := 54) dj68_10_53 rfl rfl rfl ?_
  refine g_getfield (pc' := 57) dj68_10_54 rfl (wf_AbstractStringBuilder_22 hw) (Fc) ?_
  refine g_ishr (pc' := 58) dj68_10_57 rfl ?_
  rw [StrChars.shr1 (by omega)]
  refine g_ireturn (t := .int) dj68_10_58 rfl (by simp) rfl rfl rfl (⟨rfl, rfl⟩)
theorem met_ECIw (hw : ∀ d ∈ tables_1, d.before a0 Z = true) (EZ : Ext Z.heap h) {b t : Addr} {cs : List Int32} {cap N : Nat} (hb : Z.heap.size ≤ b) (B : SBw Z h b t cs cap) (hN : cap < N) (hcN : max N (2 * cap + 2) ≤ 2000) (hW : 2 * max N (2 * cap + 2) ≤ W) : MetW [] l yECI jdk_68_method_9_code 3 none (Rm 3 1 W 80) #[.ref b, .int (Int32.ofNat N)] Z a0 EL nw [b] h (fun v h' => v = none ∧ Keep h h' [b] ∧ ∃ t', h.size ≤ t' ∧ t' < h'.size ∧ SBw Z h' b t' cs (max N (2 * cap + 2))) := by
  obtain ⟨E, Fv, Fc, Fn, M, kb, vs, hc, A, hvs, htk, hle, h4⟩ := B
  have hbt : b ≠ t := E.neArv A (wn_StringBuilder hw)
  have hmN : N ≤ max N (2 * cap + 2) := Nat.le_max_left ..
  refine MetW.of (by first | exact plainFor_of_name (by first | (simp [plainName, overriddenIn]; done) | decide +kernel) | decide +kernel) fun X hX => Go.old fun EZ => ?_
  show Go X _ _ _ _ _ _ _ _ _ _ _ _ _ _ _ _ (mkF X.m 0 #[.val (.ref b), .val (.int (Int32.ofNat N)), .unset] [])
  refine g_aloadN (pc' := 1) dj68_9_0 rfl rfl rfl ?_
  refine g_getfield (pc' := 4) dj68_9_1 rfl (wf_AbstractStringBuilder_15 hw) (Fv) ?_
  refine g_arraylength (pc' := 5) dj68_9_4 rfl (A) ?_
  refine g_aloadN (pc' := 6) dj68_9_5 rfl rfl rfl ?_
  refine g_getfield (pc' := 9) dj68_9_6 rfl (wf_AbstractStringBuilder_22 hw) (Fc) ?_
  refine g_ishr (pc' := 10) dj68_9_9 rfl ?_
  rw [StrChars.shr1 (by omega)]
  refine g_istoreN (pc' := 11) (Ls' := #[_, _, _]) dj68_9_10 rfl rfl ?_
  refine g_iloadN (pc' := 12) dj68_9_11 rfl rfl ?_
  refine g_iloadN (pc' := 13) dj68_9_12 rfl rfl ?_
  refine g_isub (pc' := 14) dj68_9_13 rfl ?_
  refine g_ifle (pc' := 17) (pc2 := 38) dj68_9_14 rfl (by decide) rfl (fun c14 => ?_) (fun c14 => False.elim (c14 (sub_gt (by omega) (by omega))))
  refine g_aloadN (pc' := 18) dj68_9_17 rfl rfl rfl ?_
  refine g_aloadN (pc' := 19) dj68_9_18 rfl rfl rfl ?_
  refine g_getfield (pc' := 22) dj68_9_19 rfl (wf_AbstractStringBuilder_15 hw) (Fv) ?_
  refine g_aloadN (pc' := 23) dj68_9_22 rfl rfl rfl ?_
  refine g_iloadN (pc' := 24) dj68_9_23 rfl rfl ?_
  refine g_private (pc' := 27) [] [_] dj68_9_24 rfl (wl_AbstractStringBuilder_104 hw) (wq_AbstractStringBuilder_newCapacity_lIrI hw) (wv_StringBuilder_AbstractStringBuilder_newCapacity_lIrI hw) (wm_AbstractStringBuilder_newCapacity_lIrI hw) (by decide) (wb_AbstractStringBuilder_newCapacity_lIrI hw) (E) (Pay.of_met (met_NCw hw Fv Fc A h4 (by omega) (by omega)) (wb_AbstractStringBuilder_newCapacity_lIrI hw) (wi_AbstractStringBuilder hw) rfl rfl) pd_lIrI rfl rfl rfl rfl (bl (Nat.zero_le _)) (fun _ q => nomatch q) fun v24 h24 q24 l24 => ?_
  obtain ⟨rfl, e24⟩ := q24
  have e24 := e24.symm
  subst e24
  refine g_aloadN (pc' := 28) dj68_9_27 rfl rfl rfl ?_
  refine g_getfield (pc' := 31) dj68_9_28 rfl (wf_AbstractStringBuilder_22 hw) (Fc) ?_
  refine g_ishl (pc' := 32) dj68_9_31 rfl ?_
  rw [shl1]
  refine g_staticB [] (pc' := 35) [] [_, _] dj68_9_32 rfl (wl_AbstractStringBuilder_108 hw) (ws_Arrays_copyOf_lABIrAB hw) (wi_Arrays hw) (wb_Arrays_copyOf_lABIrAB hw) (by decide) (Pay.of_met (met_CO (W := W) hw EZ A hvs (by omega) (by omega) (by omega) hW) (wb_Arrays_copyOf_lABIrAB hw) (wi_Arrays hw) rfl rfl) (fun _ _ q => by obtain ⟨_, _, -, -, -, q, -⟩ := q; exact keep_ext q) (fun _ q => nomatch q) pd_lABIrAB rfl rfl rfl rfl (bl (by show 0 + 0 + W ≤ W; omega)) (fun _ q => nomatch q) fun v32 h32 q32 l32 => ?_
  obtain ⟨t', kb', rfl, t1, t2, E32, c32, A32⟩ := q32
  refine ⟨[t'], fun x hx => by cases List.mem_singleton.mp hx; exact ⟨t1, t2⟩, ?_⟩
  refine g_putfield (pc' := 38) dj68_9_35 rfl (wf_AbstractStringBuilder_15 hw) (Fv.ext E32) (E.ext E32) (Or.inl (wy_StringBuilder_AbstractStringBuilder_value hw)) (wn_StringBuilder hw) (ty := (.array .byte)) (by decide) rfl rfl (hb) (by simp) fun h35 W35 => ?_
  have hbt' : t' ≠ b := Nat.ne_of_gt (Nat.lt_of_lt_of_le E.lt t1)
  refine g_return dj68_9_38 rfl rfl (bl (by show 0 + 0 + W ≤ W; omega)) ⟨rfl, ((Keep.refl h [b]).ext E32).wr W35 (Or.inl (List.mem_cons_self ..)), t', t1, (A32.other W35 hbt').lt, (E.ext E32).wr W35, (Fv.ext E32).same W35, (Fc.ext E32).other W35 (Or.inr (sb_ne1 hw)), (Fn.ext E32).other W35 (Or.inr (sb_ne2 hw)), (M.ext E32).other W35 (Or.inr (mb_ne1 hw)), kb', _, c32, A32.other W35 hbt', by rw [List.length_append, List.length_replicate, hvs]; omega, ?_, by omega, hcN⟩
  rw [List.take_append_of_le_length (by omega)]
  exact htk
theorem met_PSAw0 (hw : ∀ d ∈ tables_1, d.before a0 Z = true) (U : SU Z) (F : SFm Z fm) (rf : fm.isRef = true) (S : Sta Z Z.heap "java/lang/String" "COMPACT_STRINGS" "Z" (.int z)) (hz : ¬ z = 0) {b t x : Addr} {kb : ClassId} {vd : List Value} {cap off : Nat} {ds : List Int32} (E : Exa Z h b SBN) (Fv : Fld Z h b ASB "value" "[B" (.ref t)) (Fc : Fld Z h b ASB "coder" "B" (.int 1)) {tx : Addr} {kx : ClassId} (Ex : Exa Z h x "java/lang/String") (V : Fld Z h x "java/lang/String" "value" "[B" (.ref tx)) (C : Fld Z h x "java/lang/String" "coder" "B" (.int 0)) (A : Arv Z h tx kx .byte (Int32.ofNat ds.length) (bys ds) (.int 0)) (hl : ds.length ≤ 4000) (hds : ∀ c ∈ ds, ¬ c < 0 ∧ ¬ (255 : Int32) < c) (hne : tx ≠ t) (ht : Z.heap.size ≤ t) (B : Arv Z h t kb .byte (Int32.ofNat (2 * cap)) vd (.int 0)) (hcap : cap ≤ 2000) (hvd : vd.length = 2 * cap) (hoff : off + ds.length ≤ cap) :
    MetW [] l yPSA jdk_68_method_73_code 3 none (Rm 6 0 0 120) #[.ref b, .int (Int32.ofNat off), .ref x] Z a0 EL nw [t] h (fun v h' => v = none ∧ Keep h h' [t] ∧ Arv Z h' t kb .byte (Int32.ofNat (2 * cap)) (vd.take (2 * off) ++ wideB ds ++ vd.drop (2 * (off + ds.length))) (.int 0)) := by
  refine MetW.of (by first | exact plainFor_of_name (by first | (simp [plainName, overriddenIn]; done) | decide +kernel) | decide +kernel) fun X hX => Go.old fun EZ => ?_
  show Go X _ _ _ _ _ _ _ _ _ _ _ _ _ _ _ _ (mkF X.m 0 #[.val (.ref b), .val (.int (Int32.ofNat off)), .val (.ref x)] [])
  refine g_aloadN (pc' := 1) dj68_73_0 rfl rfl rfl ?_
  refine g_aloadN (pc' := 2) dj68_73_1 rfl rfl rfl ?_
  refine g_private (pc' := 5) [] [_] dj68_73_2 rfl (wl_AbstractStringBuilder_397 hw) (wq_AbstractStringBuilder_inflateIfNeededFor_lLjavalangStringrV hw) (wv_StringBuilder_AbstractStringBuilder_inflateIfNeededFor_lLjavalangStringrV hw) (wm_AbstractStringBuilder_inflateIfNeededFor_lLjavalangStringrV hw) (by decide) (wb_AbstractStringBuilder_inflateIfNeededFor_lLjavalangStringrV hw) (E) (Pay.of_met (met_infW0 hw S hz E Fc Ex C) (wb_AbstractStringBuilder_inflateIfNeededFor_lLjavalangStringrV hw) (wi_AbstractStringBuilder hw) rfl rfl) pd_lLjavalangStringrV rfl rfl rfl rfl rfl (fun _ q => nomatch q) fun v2 h2 q2 l2 => ?_
  obtain ⟨rfl, e2⟩ := q2
  have e2 := e2.symm
  subst e2
  refine g_aloadN (pc' := 6) dj68_73_5 rfl rfl rfl ?_
  refine g_aloadN (pc' := 7) dj68_73_6 rfl rfl rfl ?_
  refine g_getfield (pc' := 10) dj68_73_7 rfl (wf_AbstractStringBuilder_15 hw) (Fv) ?_
  refine g_iloadN (pc' := 11) dj68_73_10 rfl rfl ?_
  refine g_aloadN (pc' := 12) dj68_73_11 rfl rfl rfl ?_
  refine g_getfield (pc' := 15) dj68_73_12 rfl (wf_AbstractStringBuilder_22 hw) (Fc) ?_
  refine g_invokevirtual (pc' := 18) [t] [_, _, _] dj68_73_15 rfl (wl_AbstractStringBuilder_399 hw) (wd_String_getBytes_lABIBrV hw) (wv_String_String_getBytes_lABIBrV hw) (wm_String_getBytes_lABIBrV hw) (by decide) (Ex) (Pay.of_met (met_GByW0 hw U F rf S hz Ex V C A hl hds hne ht B hcap hvd hoff) (wb_String_getBytes_lABIBrV hw) (wi_String hw) rfl rfl) pd_lABIBrV rfl rfl rfl rfl rfl (fun _ q => q) fun v15 h15 q15 l15 => ?_
  obtain ⟨rfl, K15, A15⟩ := q15
  refine g_return dj68_73_18 rfl rfl rfl (⟨rfl, K15, A15⟩)
/-- a narrow text onto a wide one, with growth -/
theorem met_ApSw0 (hw : ∀ d ∈ tables_1, d.before a0 Z = true) (U : SU Z) (F : SFm Z fm) (rf : fm.isRef = true) (S : Sta Z Z.heap "java/lang/String" "COMPACT_STRINGS" "Z" (.int z)) (hz : ¬ z = 0) (EZ : Ext Z.heap h) {b t x : Addr} {cs ds : List Int32} {cap : Nat} (hb : Z.heap.size ≤ b) (B : SBw Z h b t cs cap) (T : Str Z h x ds) (hds : ∀ c ∈ ds, ¬ c < 0 ∧ ¬ (255 : Int32) < c) (hN : cap < cs.length + ds.length) (hcN : max (cs.length + ds.length) (2 * cap + 2) ≤ 2000) (hW : 2 * max (cs.length + ds.length) (2 * cap + 2) ≤ W) :
    MetW [] l yApS jdk_68_method_22_code 3 (some (.object ASB)) (Rm 8 1 W 160) #[.ref b, .ref x] Z a0 EL nw [b] h (fun v h' => v = some (.ref b) ∧ Keep h h' [b] ∧ ∃ t', h.size ≤ t' ∧ t' < h'.size ∧ SBw Z h' b t' (cs ++ ds) (max (cs.length + ds.length) (2 * cap + 2))) := by
  obtain ⟨E, Fv, Fc, Fn, -⟩ := id B
  have hmN : cs.length + ds.length ≤ max (cs.length + ds.length) (2 * cap + 2) := Nat.le_max_left ..
  obtain ⟨tx, kx, N2, vx, V, C, A, hcod, -, hl⟩ := T.lat fun c q => (hds c q).2
  obtain ⟨rfl, rfl⟩ : N2 = Int32.ofNat ds.length ∧ vx = bys ds := by
    rcases hcod with ⟨-, q1, q2, -⟩ | ⟨q, -⟩
    · exact ⟨q1, q2⟩
    · exact absurd q (by decide)
  have hxb : x ∉ [b] := fun q => T.exa.ne E (by decide) (List.mem_singleton.mp q)
  have htb : tx ∉ [b] := fun q => E.neArv A (wn_StringBuilder hw) (List.mem_singleton.mp q).symm
  refine MetW.of (by first | exact plainFor_of_name (by first | (simp [plainName, overriddenIn]; done) | decide +kernel) | decide +kernel) fun X hX => Go.old fun EZ => ?_
  show Go X _ _ _ _ _ _ _ _ _ _ _ _ _ _ _ _ (mkF X.m 0 #[.val (.ref b), .val (.ref x), .unset] [])
  refine g_aloadN (pc' := 1) dj68_22_0 rfl rfl rfl ?_
  refine g_ifnonnullY (pc2 := 9) dj68_22_1 (by decide) rfl ?_
  refine g_aloadN (pc' := 10) dj68_22_9 rfl rfl rfl ?_
  refine g_invokevirtualN (pc' := 13) [] [] dj68_22_10 rfl (wl_AbstractStringBuilder_32 hw) (wd_String_length_lrI hw) (wv_String_String_length_lrI hw) (wm_String_length_lrI hw) (by decide) (NF.sel (wv_String_String_length_lrI hw)) (T.exa) (pay_len (own_len hw) (wn_String hw) S hz EZ T rfl rfl) pd_lrI rfl rfl rfl rfl (bl (Nat.zero_le _)) (fun _ q => nomatch q) fun v10 h10 q10 l10 => ?_
  obtain ⟨rfl, e10⟩ := q10
  have e10 := e10.symm
  subst e10
  refine g_istoreN (pc' := 14) (Ls' := #[_, _, _]) dj68_22_13 rfl rfl ?_
  refine g_aloadN (pc' := 15) dj68_22_14 rfl rfl rfl ?_
  refine g_aloadN (pc' := 16) dj68_22_15 rfl rfl rfl ?_
  refine g_getfield (pc' := 19) dj68_22_16 rfl (wf_AbstractStringBuilder_79 hw) (Fn) ?_
  refine g_iloadN (pc' := 20) dj68_22_19 rfl rfl ?_
  refine g_iadd (pc' := 21) dj68_22_20 rfl ?_
  rw [ofNat_add2]
  refine g_privateB [b] (pc' := 24) [b] [_] dj68_22_21 rfl (wl_AbstractStringBuilder_100 hw) (wq_AbstractStringBuilder_ensureCapacityInternal_lIrV hw) (wv_StringBuilder_AbstractStringBuilder_ensureCapacityInternal_lIrV hw) (wm_AbstractStringBuilder_ensureCapacityInternal_lIrV hw) (by decide) (wb_AbstractStringBuilder_ensureCapacityInternal_lIrV hw) (E) (Pay.of_met (met_ECIw (W := W) hw EZ hb B hN hcN hW) (wb_AbstractStringBuilder_ensureCapacityInternal_lIrV hw) (wi_AbstractStringBuilder hw) rfl rfl) (fun _ _ q => q.2.1) (fun _ q => q) pd_lIrV rfl rfl rfl rfl (bl (by show 0 + 0 + W ≤ W; omega)) (fun _ q => q) fun v21 h21 q21 l21 => ?_
  obtain ⟨rfl, K21, t', t1, t2, B21⟩ := q21
  refine ⟨[t'], fun y hy => by cases List.mem_singleton.mp hy; exact ⟨t1, t2⟩, ?_⟩
  obtain ⟨E', Fv', Fc', Fn', M', kb', vs', hc', A', hvs', htk', hle', h4'⟩ := id B21
  have zt : Z.heap.size ≤ t' := Nat.le_trans EZ.1 t1
  have hbt : t' ≠ b := Nat.ne_of_gt (Nat.lt_of_lt_of_le E.lt t1)
  have nb : b ∉ [t'] := fun q => hbt (List.mem_singleton.mp q).symm
  have hne : tx ≠ t' := Nat.ne_of_lt (Nat.lt_of_lt_of_le A.lt t1)
  refine g_aloadN (pc' := 25) dj68_22_24 rfl rfl rfl ?_
  refine g_aloadN (pc' := 26) dj68_22_25 rfl rfl rfl ?_
  refine g_getfield (pc' := 29) dj68_22_26 rfl (wf_AbstractStringBuilder_79 hw) (Fn') ?_
  refine g_aloadN (pc' := 30) dj68_22_29 rfl rfl rfl ?_
  refine g_private (pc' := 33) [t'] [_, _] dj68_22_30 rfl (wl_AbstractStringBuilder_208 hw) (wq_AbstractStringBuilder_putStringAt_lILjavalangStringrV hw) (wv_StringBuilder_AbstractStringBuilder_putStringAt_lILjavalangStringrV hw) (wm_AbstractStringBuilder_putStringAt_lILjavalangStringrV hw) (by decide) (wb_AbstractStringBuilder_putStringAt_lILjavalangStringrV hw) (E') (Pay.of_met (met_PSAw0 hw U F rf S hz E' Fv' Fc' (T.exa.keep K21) (V.keep K21 hxb) (C.keep K21 hxb) (A.keep K21 htb) hl hds hne zt A' h4' hvs' hmN) (wb_AbstractStringBuilder_putStringAt_lILjavalangStringrV hw) (wi_AbstractStringBuilder hw) rfl rfl) pd_lILjavalangStringrV rfl rfl rfl rfl (bl (by show 0 + 0 + W + 0 ≤ W; omega)) (fun _ q => by cases List.mem_singleton.mp q; simp) fun v30 h30 q30 l30 => ?_
  obtain ⟨rfl, K30, A30⟩ := q30
  refine g_aloadN (pc' := 34) dj68_22_33 rfl rfl rfl ?_
  refine g_dup (pc' := 35) dj68_22_34 rfl rfl ?_
  refine g_getfield (pc' := 38) dj68_22_35 rfl (wf_AbstractStringBuilder_79 hw) ((Fn'.keep K30 nb)) ?_
  refine g_iloadN (pc' := 39) dj68_22_38 rfl rfl ?_
  refine g_iadd (pc' := 40) dj68_22_39 rfl ?_
  rw [ofNat_add2]
  refine g_putfield (pc' := 43) dj68_22_40 rfl (wf_AbstractStringBuilder_79 hw) (Fn'.keep K30 nb) (E'.keep K30) (Or.inl (wy_StringBuilder_AbstractStringBuilder_count hw)) (wn_StringBuilder hw) (ty := .int) (by decide) rfl rfl (hb) (by simp) fun h40 W40 => ?_
  refine g_aloadN (pc' := 44) dj68_22_43 rfl rfl rfl ?_
  have A40 := A30.other W40 hbt
  refine g_areturn dj68_22_44 rfl rfl rfl rfl rfl (bl (by show 0 + 0 + W + 0 ≤ W; omega)) ⟨rfl, (K21.trans K30 (fun y hy => by cases List.mem_singleton.mp hy; exact Or.inr t1)).wr W40 (Or.inl (List.mem_cons_self ..)), t', t1, A40.lt, (E'.keep K30).wr W40, (Fv'.keep K30 nb).other W40 (Or.inr (sb_ne2 hw).symm), (Fc'.keep K30 nb).other W40 (Or.inr (sb_ne3 hw).symm), ?_, (M'.keep K30 nb).other W40 (Or.inr (mb_ne3 hw)), kb', _, hc', A40, ?_, ?_, ?_, hcN⟩
  · rw [List.length_append]
    exact (Fn'.keep K30 nb).same W40
  · simp only [List.length_append, List.length_take, List.length_drop, wide_len, hvs']
    omega
  · rw [htk', List.take_append_of_le_length (by simp only [List.length_append, wide_len]; omega), List.take_of_length_le (by simp only [List.length_append, wide_len]; omega), wide_app]
  · rw [List.length_append]; exact hmN
theorem met_SApSw0 (hw : ∀ d ∈ tables_1, d.before a0 Z = true) (U : SU Z) (F : SFm Z fm) (rf : fm.isRef = true) (S : Sta Z Z.heap "java/lang/String" "COMPACT_STRINGS" "Z" (.int z)) (hz : ¬ z = 0) (EZ : Ext Z.heap h) {b t x : Addr} {cs ds : List Int32} {cap : Nat} (hb : Z.heap.size ≤ b) (B : SBw Z h b t cs cap) (T : Str Z h x ds) (hds : ∀ c ∈ ds, ¬ c < 0 ∧ ¬ (255 : Int32) < c) (hN : cap < cs.length + ds.length) (hcN : max (cs.length + ds.length) (2 * cap + 2) ≤ 2000) (hW : 2 * max (cs.length + ds.length) (2 * cap + 2) ≤ W) :
    MetW [] l ySApS jdk_67_method_7_code 2 (some (.object SBN)) (Rm 9 1 W 180) #[.ref b, .ref x] Z a0 EL nw [b] h (fun v h' => v = some (.ref b) ∧ Keep h h' [b] ∧ ∃ t', h.size ≤ t' ∧ t' < h'.size ∧ SBw Z h' b t' (cs ++ ds) (max (cs.length + ds.length) (2 * cap + 2))) := by
  refine MetW.of (by first | exact plainFor_of_name (by first | (simp [plainName, overriddenIn]; done) | decide +kernel) | decide +kernel) fun X hX => Go.old fun EZ => ?_
  show Go X _ _ _ _ _ _ _ _ _ _ _ _ _ _ _ _ (mkF X.m 0 #[.val (.ref b), .val (.ref x)] [])
  refine g_aloadN (pc' := 1) dj67_7_0 rfl rfl rfl ?_
  refine g_aloadN (pc' := 2) dj67_7_1 rfl rfl rfl ?_
  refine g_super (pc' := 5) [b] [_] dj67_7_2 rfl (by decide) (wl_StringBuilder_29 hw) (wm_AbstractStringBuilder_append_lLjavalangStringrLjavalangAbstractStringBuilder hw) (wz_StringBuilder_AbstractStringBuilder hw) (asb_ni hw) (Ins.self B.1) (wb_AbstractStringBuilder_append_lLjavalangStringrLjavalangAbstractStringBuilder hw) (by decide) (Pay.of_met (met_ApSw0 (W := W) hw U F rf S hz EZ hb B T hds hN hcN hW) (wb_AbstractStringBuilder_append_lLjavalangStringrLjavalangAbstractStringBuilder hw) (wi_AbstractStringBuilder hw) rfl rfl) pd_lLjavalangStringrLjavalangAbstractStringBuilder rfl rfl rfl rfl (bl (by show 0 + W ≤ W; omega)) (fun _ q => q) fun v2 h2 q2 l2 => ?_
  obtain ⟨rfl, q⟩ := q2
  refine g_pop (pc' := 6) dj67_7_5 rfl rfl ?_
  refine g_aloadN (pc' := 7) dj67_7_6 rfl rfl rfl ?_
  refine g_areturn dj67_7_7 rfl rfl rfl rfl rfl (bl (by show 0 + W ≤ W; omega)) ⟨rfl, q⟩
theorem met_IAw (hw : ∀ d ∈ tables_1, d.before a0 Z = true) (S : Sta Z Z.heap "java/lang/String" "COMPACT_STRINGS" "Z" (.int z)) (hz : ¬ z = 0) {x b t : Addr} {cs : List Int32} {cap : Nat} {v0 c0 : Value} (hx : Z.heap.size ≤ x) (Ex : Exa Z h x "java/lang/String") (V : Fld Z h x "java/lang/String" "value" "[B" v0) (C : Fld Z h x "java/lang/String" "coder" "B" c0) (B : SBw Z h b t cs cap) (hl : cs.length = cap) (hcs : ∀ c ∈ cs, ¬ c < 0 ∧ ¬ (65535 : Int32) < c) (hwide : ∃ c ∈ cs, (255 : Int32) < c) (hW : 2 * cap ≤ W) :
    MetW [] l yIA jdk_42_method_150_code 5 none (Rm 2 1 W 60) #[.ref x, .ref b, .null] Z a0 EL nw [x] h (fun v h' => v = none ∧ Keep h h' [x] ∧ Str Z h' x cs) := by
  have ne : RoadKit.slotOf Z "java/lang/String" "coder" "B" ≠ RoadKit.slotOf Z "java/lang/String" "value" "[B" := slot_ne (Or.inr (wy_String_String_coder hw)) (Or.inr (wy_String_String_value hw)) (by decide) (t := .byte) (t' := .array .byte) (by decide) (by decide)
  obtain ⟨E, Fv, Fc, Fn, M, kb, vs, hc, A, hvs, htk, hle, h4⟩ := B
  have hxt : t ≠ x := (Ex.neArv A (wn_String hw)).symm
  have hxb : b ≠ x := E.ne Ex (by decide)
  refine MetW.of (by first | exact plainFor_of_name (by first | (simp [plainName, overriddenIn]; done) | decide +kernel) | decide +kernel) fun X hX => Go.old fun EZ => ?_
  show Go X _ _ _ _ _ _ _ _ _ _ _ _ _ _ _ _ (mkF X.m 0 #[.val (.ref x), .val (.ref b), .val (.null), .unset, .unset] [])
  refine g_aloadN (pc' := 1) dj42_150_0 rfl rfl rfl ?_
  refine g_objinit (pc' := 4) dj42_150_1 rfl (wl_String_1 hw) (wm_Object_init_lrV hw) (wb_Object_init_lrV hw) rfl rfl rfl ?_
  refine g_aloadN (pc' := 5) dj42_150_4 rfl rfl rfl ?_
  refine g_invokevirtualN (pc' := 8) [] [] dj42_150_5 rfl (wl_String_552 hw) (wd_AbstractStringBuilder_getValue_lrAB hw) (wv_StringBuilder_AbstractStringBuilder_getValue_lrAB hw) (wm_AbstractStringBuilder_getValue_lrAB hw) (by decide) (NF.sel (wv_StringBuilder_AbstractStringBuilder_getValue_lrAB hw)) (E) (Pay.of_met (met_GV hw Fv) (wb_AbstractStringBuilder_getValue_lrAB hw) (wi_AbstractStringBuilder hw) rfl rfl) pd_lrAB rfl rfl rfl rfl (bl (Nat.zero_le _)) (fun _ q => nomatch q) fun v5 h5 q5 l5 => ?_
  obtain ⟨rfl, e5⟩ := q5
  have e5 := e5.symm
  subst e5
  refine g_astoreN (pc' := 9) (Ls' := #[_, _, _, _, _]) dj42_150_8 rfl rfl rfl ?_
  refine g_aloadN (pc' := 10) dj42_150_9 rfl rfl rfl ?_
  refine g_invokevirtualN (pc' := 13) [] [] dj42_150_10 rfl (wl_String_549 hw) (wd_AbstractStringBuilder_length_lrI hw) (wv_StringBuilder_AbstractStringBuilder_length_lrI hw) (wm_StringBuilder_length_lrI hw) (by decide) (nf_ni (asb_ni hw)) (E) (Pay.of_met (met_SL hw E Fn) (wb_StringBuilder_length_lrI hw) (wi_StringBuilder hw) rfl rfl) pd_lrI rfl rfl rfl rfl (bl (Nat.zero_le _)) (fun _ q => nomatch q) fun v10 h10 q10 l10 => ?_
  obtain ⟨rfl, e10⟩ := q10
  have e10 := e10.symm
  subst e10
  refine g_istore (pc' := 15) (Ls' := #[_, _, _, _, _]) dj42_150_13 rfl rfl ?_
  refine g_aloadN (pc' := 16) dj42_150_15 rfl rfl rfl ?_
  refine g_invokevirtualN (pc' := 19) [] [] dj42_150_16 rfl (wl_String_1047 hw) (wd_AbstractStringBuilder_isLatin1_lrZ hw) (wv_StringBuilder_AbstractStringBuilder_isLatin1_lrZ hw) (wm_AbstractStringBuilder_isLatin1_lrZ hw) (by decide) (NF.sel (wv_StringBuilder_AbstractStringBuilder_isLatin1_lrZ hw)) (E) (Pay.of_met (met_AI hw S hz Fc) (wb_AbstractStringBuilder_isLatin1_lrZ hw) (wi_AbstractStringBuilder hw) rfl rfl) pd_lrZ rfl rfl rfl rfl (bl (Nat.zero_le _)) (fun _ q => nomatch q) fun v16 h16 q16 l16 => ?_
  obtain ⟨rfl, e16⟩ := q16
  have e16 := e16.symm
  subst e16
  refine g_ifeq (pc' := 22) (pc2 := 41) dj42_150_19 rfl (by decide) rfl (fun c19 => False.elim (c19 (by decide))) (fun c19 => ?_)
  refine g_getstatic (pc' := 44) dj42_150_41 rfl (wf_String_38 hw) (S) ?_
  refine g_ifeq (pc' := 47) (pc2 := 79) dj42_150_44 rfl (by decide) rfl (fun c44 => ?_) (fun c44 => False.elim (hz c44))
  refine g_aloadN (pc' := 48) dj42_150_47 rfl rfl rfl ?_
  refine g_getfield (pc' := 51) dj42_150_48 rfl (wf_String_1048 hw) (M) ?_
  refine g_ifeq (pc' := 54) (pc2 := 79) dj42_150_51 rfl (by decide) rfl (fun c51 => False.elim (c51 rfl)) (fun c51 => ?_)
  refine g_aloadN (pc' := 80) dj42_150_79 rfl rfl rfl ?_
  refine g_iconst (pc' := 81) (w := 1) dj42_150_80 rfl (by decide) ?_
  refine g_putfield (pc' := 84) dj42_150_81 rfl (wf_String_15 hw) (C) (Ex) (Or.inr ⟨wy_String_String_coder hw, rfl, rfl⟩) (wn_String hw) (ty := .byte) (by decide) rfl rfl (hx) (by simp) fun h81 W81 => ?_
  refine g_aloadN (pc' := 85) dj42_150_84 rfl rfl rfl ?_
  refine g_aloadN (pc' := 86) dj42_150_85 rfl rfl rfl ?_
  refine g_iconst (pc' := 87) (w := 0) dj42_150_86 rfl (by decide) ?_
  refine g_iload (pc' := 89) dj42_150_87 rfl rfl ?_
  refine g_iconst (pc' := 90) (w := 1) dj42_150_89 rfl (by decide) ?_
  refine g_ishl (pc' := 91) dj42_150_90 rfl ?_
  rw [shl1, hl]
  refine g_invokestatic (pc' := 94) [] [_, _, _] dj42_150_91 rfl (wl_String_54 hw) (ws_Arrays_copyOfRange_lABIIrAB hw) (wi_Arrays hw) (wb_Arrays_copyOfRange_lABIIrAB hw) (by decide) (Pay.of_met (met_CR (W := W) hw hc (A.other W81 hxt) (by omega) hW) (wb_Arrays_copyOfRange_lABIIrAB hw) (wi_Arrays hw) rfl rfl) pd_lABIIrAB rfl rfl rfl rfl (bl (by show 0 + 0 + 0 + 0 + W ≤ W; omega)) (fun _ q => nomatch q) fun v91 h91 q91 l91 => ?_
  obtain ⟨t', rfl, t1, t2, E91, A91⟩ := q91
  refine g_putfield (pc' := 97) dj42_150_94 rfl (wf_String_9 hw) ((V.other W81 (Or.inr ne.symm)).ext E91) ((Ex.wr W81).ext E91) (Or.inr ⟨wy_String_String_value hw, rfl, rfl⟩) (wn_String hw) (ty := (.array .byte)) (by decide) rfl rfl (hx) (by simp) fun h94 W94 => ?_
  have hxt' : t' ≠ x := (((Ex.wr W81).ext E91).neArv A91 (wn_String hw)).symm
  refine g_return dj42_150_97 rfl rfl (bl (by show 0 + 0 + 0 + 0 + W ≤ W; omega)) ⟨rfl, (((Keep.refl h [x]).wr W81 (Or.inl (List.mem_cons_self ..))).ext E91).wr W94 (Or.inl (List.mem_cons_self ..)), ((Ex.wr W81).ext E91).wr W94, t', kb, 1, _, vs, ((V.other W81 (Or.inr ne.symm)).ext E91).same W94, ((C.same W81).ext E91).other W94 (Or.inr ne), A91.other W94 hxt', Or.inr ⟨rfl, by rw [hl], ?_, hwide⟩, hcs, by omega⟩
  rw [List.take_of_length_le (by omega)] at htk
  exact htk
theorem met_ISw (hw : ∀ d ∈ tables_1, d.before a0 Z = true) (S : Sta Z Z.heap "java/lang/String" "COMPACT_STRINGS" "Z" (.int z)) (hz : ¬ z = 0) {x b t : Addr} {cs : List Int32} {cap : Nat} {v0 c0 : Value} (hx : Z.heap.size ≤ x) (Ex : Exa Z h x "java/lang/String") (V : Fld Z h x "java/lang/String" "value" "[B" v0) (C : Fld Z h x "java/lang/String" "coder" "B" c0) (B : SBw Z h b t cs cap) (hl : cs.length = cap) (hcs : ∀ c ∈ cs, ¬ c < 0 ∧ ¬ (65535 : Int32) < c) (hwide : ∃ c ∈ cs, (255 : Int32) < c) (hW : 2 * cap ≤ W) :
    MetW [] l yIS jdk_42_method_53_code 2 none (Rm 3 1 W 80) #[.ref x, .ref b] Z a0 EL nw [x] h (fun v h' => v = none ∧ Keep h h' [x] ∧ Str Z h' x cs) := by
  refine MetW.of (by first | exact plainFor_of_name (by first | (simp [plainName, overriddenIn]; done) | decide +kernel) | decide +kernel) fun X hX => Go.old fun EZ => ?_
  show Go X _ _ _ _ _ _ _ _ _ _ _ _ _ _ _ _ (mkF X.m 0 #[.val (.ref x), .val (.ref b)] [])
  refine g_aloadN (pc' := 1) dj42_53_0 rfl rfl rfl ?_
  refine g_aloadN (pc' := 2) dj42_53_1 rfl rfl rfl ?_
  refine g_aconst_null (pc' := 3) dj42_53_2 rfl ?_
  refine g_invokespecial (pc' := 6) [x] [_, _] dj42_53_3 rfl rfl (wl_String_489 hw) (wm_String_init_lLjavalangAbstractStringBuilderLjavalangVoidrV hw) (wb_String_init_lLjavalangAbstractStringBuilderLjavalangVoidrV hw) (by decide) (Pay.of_met (met_IAw (W := W) hw S hz hx Ex V C B hl hcs hwide hW) (wb_String_init_lLjavalangAbstractStringBuilderLjavalangVoidrV hw) (wi_String hw) rfl rfl) pd_lLjavalangAbstractStringBuilderLjavalangVoidrV rfl rfl rfl rfl (bl (by show 0 + W ≤ W; omega)) (fun _ q => q) fun v3 h3 q3 l3 => ?_
  obtain ⟨rfl, q⟩ := q3
  exact g_return dj42_53_6 rfl rfl (bl (by show 0 + W ≤ W; omega)) ⟨rfl, q⟩
theorem met_TSw (hw : ∀ d ∈ tables_1, d.before a0 Z = true) (S : Sta Z Z.heap "java/lang/String" "COMPACT_STRINGS" "Z" (.int z)) (hz : ¬ z = 0) (EZ : Ext Z.heap h) {b t : Addr} {cs : List Int32} {cap : Nat} (B : SBw Z h b t cs cap) (hl : cs.length = cap) (hcs : ∀ c ∈ cs, ¬ c < 0 ∧ ¬ (65535 : Int32) < c) (hwide : ∃ c ∈ cs, (255 : Int32) < c) (hW : 2 * cap ≤ W) :
    MetW [] l yTS jdk_67_method_42_code 1 (some (.object "java/lang/String")) (Rm 4 2 (W + 4) 100) #[.ref b] Z a0 EL nw [] h (fun v h' => ∃ x, v = some (.ref x) ∧ h.size ≤ x ∧ x < h'.size ∧ Ext h h' ∧ Str Z h' x cs) := by
  refine MetW.of (by first | exact plainFor_of_name (by first | (simp [plainName, overriddenIn]; done) | decide +kernel) | decide +kernel) fun X hX => Go.old fun EZ => ?_
  show Go X _ _ _ _ _ _ _ _ _ _ _ _ _ _ _ _ (mkF X.m 0 #[.val (.ref b)] [])
  refine g_new (pc' := 3) dj67_42_0 rfl (wc_StringBuilder_18 hw) (wn_String hw) (wi_String hw) rfl (bl (by show 0 + 4 ≤ W + 4; omega)) fun h0 a0' e0 E0 A0 D0 => ?_
  refine g_dup (pc' := 4) dj67_42_3 rfl rfl ?_
  refine g_aloadN (pc' := 5) dj67_42_4 rfl rfl rfl ?_
  refine g_invokespecial (pc' := 8) [a0'] [_] dj67_42_5 rfl rfl (wl_StringBuilder_137 hw) (wm_String_init_lLjavalangStringBuilderrV hw) (wb_String_init_lLjavalangStringBuilderrV hw) (by decide) (Pay.of_met (met_ISw (W := W) hw S hz (by rw [e0]; exact EZ.1) A0 (D0 (Or.inr (wy_String_String_value hw)) (ty := .array .byte) (by decide)) (D0 (Or.inr (wy_String_String_coder hw)) (ty := .byte) (by decide)) (B.ext E0) hl hcs hwide hW) (wb_String_init_lLjavalangStringBuilderrV hw) (wi_String hw) rfl rfl) pd_lLjavalangStringBuilderrV rfl rfl rfl rfl (bl (by show 0 + 4 + W ≤ W + 4; omega)) (fun _ q => by cases List.mem_singleton.mp q; simp) fun v5 h5 q5 l5 => ?_
  obtain ⟨rfl, K5, T5⟩ := q5
  refine g_areturn dj67_42_8 rfl rfl rfl rfl rfl (bl (by show 0 + 4 + W ≤ W + 4; omega)) ⟨a0', rfl, Nat.le_of_eq e0.symm, T5.lt, ext_keep E0 K5 (allS (Nat.le_of_eq e0.symm) all0), T5⟩
end SBwide
/-! exceptions made by the walk: a stack trace is filled in beneath, so the tables' methods and the frames beneath must be known -/
section ExcW
open Jvm.Free.Exc
variable {X : Cx} {R : Room} {Z : State} {a0 : Array Value} {EL : List (String × Nat)} {nw : Bool} {y : MethodName} {bs : ByteArray} {ml : Nat} {rt : Option FieldType} {Q : Option Value → Heap → Prop} {kc ks : Nat} {sf : List Addr} {h : Heap} {k n : Nat} {pc pc' : Nat} {Ls : Array Slot} {st : List Value}
/-- what such a walk must know of its start -/
def Kn (X : Cx) (Z : State) : Prop := X.s.vm.MethodsKnown ∧ X.s.vm.FramesKnown X.below ∧ Ext Z.heap X.s.heap
def MetK (ws : List Jvm.Cond) (l : Launch) (y : MethodName) (bs : ByteArray) (ml : Nat) (rt : Option FieldType) (rm : Room) (as' : Array Value) (Z : State) (a0 : Array Value) (EL : List (String × Nat)) (nw : Bool) (sf : List Addr) (h : Heap) (Q : Option Value → Heap → Prop) : Prop :=
  MetFree l y (head1 (Jvm.Cond.code y bs ml rt :: ws) rm) (fun a U => a = as' ∧ Z.Warmed39 U.vm ∧ U.heap = h ∧ CHv Z EL U.vm h ∧ Ext Z.heap h ∧ EW Z a0 EL ∧ ∀ x ∈ sf, x < h.size ∧ Safe Z EL U.vm h x) (fun _ _ bl s _ => s.vm.MethodsKnown ∧ s.vm.FramesKnown bl)
    (fun _ U o U' => ∃ v L, o = .returned v ∧ (Q v U'.heap ∧ Fr Z.heap.size L ∧ Ext Z.heap U'.heap) ∧ CHr Z EL U.vm U.heap U'.vm U'.heap ∧ (nw = true → U.WarmedH U'.vm) ∧ ReturnedEndW U o U' L rm.cells rm.slots)
theorem MetK.of {ws : List Jvm.Cond} {l : Launch} {rm : Room} {as' : Array Value} (hpl : plainFor y = true)
    (H : ∀ X : Cx, X.l = l → Kn X Z → Go X rm Z a0 EL nw y bs ml rt Q rm.cells rm.slots sf h 0 0 (entryFrame X.m as' ml)) : MetK ws l y bs ml rt rm as' Z a0 EL nw sf h Q := by
  refine MetFree.of_bodySF hpl hisR ?_
  intro p e s m args below meth c s₁ Bd hml0 hP hK
  obtain ⟨rfl, hZ, rfl, hC, hE, hEL, hs⟩ := hP
  have e0 : s₁.heap = s.heap := by rw [Bd.state]; rfl
  exact H (p, l, e, s, m, args, below, meth, c) rfl ⟨hK.1, hK.2, hE⟩ s₁ ⟨⟨Bd.exec, Bd.bytes, hml0, Bd.returns, (name_of_methodNamed Bd.named Bd.method).1, Bd.notSynchronized, hEL⟩, s.vm, [], Stand.of_body Bd, e0, (State.WarmedH.refl s).since _, hZ, findClass_of_methodNamed Bd.named, CHr.refl hC, Fr.nil _, hE, hs, fun _ => State.WarmedH.refl s⟩
def PayK (l : Launch) (R : Room) (y : MethodName) (W : Nat) (as' : Array Value) (Z : State) (a0 : Array Value) (EL : List (String × Nat)) (nw : Bool) (sf : List Addr) (h : Heap) (kc ks : Nat) (Q : Option Value → Heap → Prop) : Prop :=
  ∀ (p : Program) (e : Env) (below : List Frame) (s : State) (args : Array Value) (len : Nat) (vm0 : Vm), p.tables.exec = Jvm.exec → Ext Z.heap s.heap → vm0.MethodsKnown → vm0.FramesKnown below → Z.Warmed39 vm0 → CHv Z EL vm0 h → Ext Z.heap h → (∀ x ∈ sf, x < h.size ∧ Safe Z EL vm0 h x) → EW Z a0 EL →
    BackS l R p e below (s.setVm vm0) args y len W (fun A a => a = as' ∧ A.U.heap = h ∧ A.cells + kc ≤ R.cells ∧ A.slots + ks ≤ R.slots)
      (fun A _ v B => ∃ L, (Q v B.U.heap ∧ Fr Z.heap.size L ∧ Ext Z.heap B.U.heap) ∧ B.locs = A.locs ++ L ∧ B.cells = A.cells + kc ∧ B.slots = A.slots + ks ∧ CHr Z EL vm0 h B.U.vm B.U.heap ∧ (nw = true → (s.setVm vm0).WarmedH B.U.vm))
theorem PayK.of_met {l : Launch} {rm : Room} {as' : Array Value} {W : Nat} (hM : MetK [] l y bs ml rt rm as' Z a0 EL nw sf h Q) (wc : (Jvm.Cond.code y bs ml rt).before a0 Z = true) (wz : (Jvm.Cond.initialized y.cls).before a0 Z = true) (hf : Nat.ble (rm.frames + 1) R.frames = true) (hl : Nat.ble (W + (ml + 11) + rm.locals) R.locals = true) :
    PayK l R y W as' Z a0 EL nw sf h rm.cells rm.slots Q := fun p e below s args len vm0 _ _ hTK hBelow hZ H hE hs hEL =>
  BackS.of_freeWG (bytes := bs) (maxL := ml) (ret := rt) (E := fun _ first o t L k n => k = rm.cells ∧ n = rm.slots ∧ (∃ v, o = .returned v ∧ Q v t.heap ∧ Fr Z.heap.size L ∧ Ext Z.heap t.heap) ∧ CHr Z EL first.vm first.heap t.vm t.heap ∧ (nw = true → first.WarmedH t.vm)) hM (ble hf) (ble hl)
    (fun m meth c A a Y hp => have hU : Z.Warmed39 A.U.vm := wtrans (s := s.setVm vm0) hZ Y.warmed
      ⟨by show (Jvm.Cond.and _ .tt).before a A.U = true; rw [Cond.before_and, mv hU wc]; rfl, mv hU wc, mv hU wz, hp.2.2.1, hp.2.2.2⟩)
    (fun m meth c A a g mk Y hp => ⟨hp.1, wtrans (s := s.setVm vm0) hZ Y.warmed, hp.2.1, (CHv.at Y hZ hEL H).1, hE, hEL, fun x hx => ⟨(hs x hx).1, (CHv.at Y hZ hEL H).safe (hs x hx).1 (hs x hx).2⟩⟩) (fun m meth c A a g mk Y _ hg => known_frames Y hg hTK hBelow)
    (fun _ _ _ _ ⟨v, L, h1, h2, h3, h5, h4⟩ => ⟨L, _, _, h4, rfl, rfl, ⟨v, h1, h2⟩, h3, h5⟩)
    (fun m meth c A a g mk v t L k n Y hp _ _ ⟨e1, e2, ⟨v', e3, e4⟩, e5, e6⟩ => by
      cases e3; subst e1 e2
      refine ⟨L, e4, rfl, rfl, rfl, (CHv.at Y hZ hEL H).trans ?_, fun q => State.WarmedH.trans Y.warmed (e6 q)⟩
      rw [← hp.2.1]; exact e5)
theorem g_staticK {ix : Nat} {y' : MethodName} {bs' : ByteArray} {ml' : Nat} {rt' : Option FieldType} {as' : Array Value} {kc' ks' : Nat} {Q' : Option Value → Heap → Prop} (Kx : Kn X Z) (sfc : List Addr) (argsL : List Value) {ps : List FieldType} {r : Option FieldType} (hd : decode bs pc = .ok (.invokestatic ix, 3)) (hp : pc + 3 = pc')
    (w1 : (Jvm.Cond.methodLink y.cls ix y').before a0 Z = true) (w2 : (Jvm.Cond.static y').before a0 Z = true) (w3 : (Jvm.Cond.initialized y'.cls).before a0 Z = true) (w4 : (Jvm.Cond.code y' bs' ml' rt').before a0 Z = true) (hy : y'.cls ≠ "java/lang/invoke/MethodHandle" ∧ y'.cls ≠ "java/lang/invoke/VarHandle")
    (P : PayK X.l R y' (st.map fun v => v.category).sum as' Z a0 EL nw sfc h kc' ks' Q') (hpd : parseMethodDescriptor y'.desc = some ⟨ps, r⟩) (hlen : argsL.length = ps.length) (hargs : argsL.toArray = as') (hz : Ls.size = ml) (hk : Nat.ble (k + kc') R.cells = true) (hn : Nat.ble (n + ks') R.slots = true) (hsf : ∀ x ∈ sfc, x ∈ sf)
    (G : ∀ v h', Q' v h' → h.size ≤ h'.size → Go X R Z a0 EL nw y bs ml rt Q kc ks sf h' (k + kc') (n + ks') (mkF X.m pc' Ls (v.toList ++ st))) : Go X R Z a0 EL nw y bs ml rt Q kc ks sf h k n (mkF X.m pc Ls (argsL.reverse ++ st)) := fun T S => by
  subst hp
  obtain ⟨F, vm0, L, X1, eT, hS, hZ, hown, hC, hF, hE, hs, hN⟩ := S
  have hal := hS.1.alike
  obtain ⟨v, vm1, B, -, X2, hS2, hle, hq, stp⟩ := callSS X1 F.1 (y := y') hown (mvT (s := X.s.setVm vm0) hZ w1) (mvT (s := X.s.setVm vm0) hZ w2) (mvT (s := X.s.setVm vm0) hZ w3) (mvT (s := X.s.setVm vm0) hZ w4) hy (P _ _ _ _ _ _ vm0 F.1 Kx.2.2 (Vm.MethodsKnown.alikeC hal Kx.1) (Vm.FramesKnown.alikeC hal Kx.2.1) hZ hC.1 hE (fun x hx => hs x (hsf x hx)) F.2.2.2.2.2.2) (g := mkF X.m pc Ls (argsL.reverse ++ st)) rfl (by rw [F.2.2.1]; exact hz) (argsL := argsL) (rest := st) (lenOf hpd hlen) rfl (by show 2 * 0 + _ ≤ _; omega) (hb F.2.1 hd) (fun _ _ => ⟨hargs, eT, ble hk, ble hn⟩)
  exact (Go.back F eT hS hZ hown hC hF hs X2 hS2 hle hq hN G).back fun t q => stp.trans q
/-- new, and the object is untouched -/
theorem g_newU {C : String} {ix sz : Nat} (hd : decode bs pc = .ok (.new ix, 3)) (hp : pc + 3 = pc') (w : (Jvm.Cond.classLink y.cls ix C).before a0 Z = true) (wi : (Jvm.Cond.instantiable C sz).before a0 Z = true) (wz : (Jvm.Cond.initialized C).before a0 Z = true) (hk : Nat.ble (k + 1) R.cells = true) (hn : Nat.ble (n + sz) R.slots = true)
    (G : ∀ h' a, a = h.size → Ext h h' → Exa Z h' a C → (∀ {O nm d : String} {ty : FieldType}, Laid Z a0 C O nm d → parseFieldDescriptor d = some ty → Fld Z h' a O nm d (defaultValue ty)) → Unt h' a → Go X R Z a0 EL nw y bs ml rt Q kc ks (a :: sf) h' (k + 1) (n + sz) (mkF X.m pc' Ls (.ref a :: st))) : Go X R Z a0 EL nw y bs ml rt Q kc ks sf h k n (mkF X.m pc Ls st) := fun T S => by
  subst hp
  obtain ⟨F, vm0, L, X1, eT, hS, hZ, hown, hC, hF, hE, hs, hN⟩ := S
  obtain ⟨T', h', X2, e2, E2, A2, D2, U2, stp⟩ := newO X1 F.1 (Z := Z) hZ hown w wi wz eT (g := mkF X.m pc Ls st) rfl (hb F.2.1 hd) (ble hk) (ble hn)
  refine (G h' _ rfl E2 A2 D2 U2 T' ?_).back stp
  exact ⟨F, vm0, _, X2, e2, ⟨hS.1, hS.2.mono E2.1⟩, hZ, hown, hC.trans (CHr.ext E2 hC.1), hF, ext_trans hE E2, fun x hx => by
    rcases List.mem_cons.mp hx with rfl | hx
    · exact ⟨A2.lt, Safe.ext E2 hC.1 (Safe.new (Nat.le_refl _))⟩
    · exact ⟨Nat.lt_of_lt_of_le (hs x hx).1 E2.1, Safe.ext E2 hC.1 (hs x hx).2⟩, hN⟩
/-- the constructor X(String) of a Throwable that only passes its argument on -/
theorem g_exc1 {ic nI : Nat} {rc : String} {links : List Link} {a : Addr} {msg : Value} (Kx : Kn X Z) (hl : X.l.stackTraces = true) (hd : decode bs pc = .ok (.invokespecial ic, 3)) (hp : pc + 3 = pc') (hok : linksOk 1 links = true)
    (w1 : (Jvm.Cond.methodLink y.cls ic (ctor 1 (headName links))).before a0 Z = true) (w2 : (Jvm.Cond.instanceMethod (ctor 1 (headName links))).before a0 Z = true) (wT : (chainTab 1 rc links).before a0 Z = true) (wi : (Jvm.Cond.instantiable rc nI).before a0 Z = true) (r : ∀ d ∈ twoRefs, d.before a0 Z = true)
    (E : Exa Z h a rc) (N : Unt h a) (B : Fld Z h a tN "backtrace" obD .null) (B2 : Fld Z h a tN "detailMessage" msgD .null) (hmsg : msg.isRef = true) (ha : Z.heap.size ≤ a) (hm : a ∈ sf) (hz : Ls.size = ml) (hf : Nat.ble (4 + links.length) R.frames = true) (hlo : Nat.ble ((st.map fun v => v.category).sum + (56 + 14 * links.length)) R.locals = true) (hk : Nat.ble (k + 1) R.cells = true) (hn : Nat.ble (n + 2752) R.slots = true)
    (G : ∀ h', Keep h h' [a] → Exa Z h' a rc → Unt h' a → Fld Z h' a tN "detailMessage" msgD msg → Fld Z h' a tN "cause" thD (.ref a) → Go X R Z a0 EL nw y bs ml rt Q kc ks sf h' (k + 1) (n + 2752) (mkF X.m pc' Ls st)) : Go X R Z a0 EL nw y bs ml rt Q kc ks sf h k n (mkF X.m pc Ls (msg :: .ref a :: st)) := fun T S => by
  subst hp
  obtain ⟨F, vm0, L, X1, eT, hS, hZ, hown, hC, hF, hE, hs, hN⟩ := S
  have hal := hS.1.alike
  obtain ⟨T', h', X2, e2, K, E', N', M', C', -, stp⟩ := excL1 X1 F.1 hl (Z := Z) (a0 := a0) hZ hown hok w1 w2 wT wi r (ThS.ext Kx.2.2 ThS.start) (ThS.ext hE ThS.start) (Vm.MethodsKnown.alikeC hal Kx.1) (Vm.FramesKnown.alikeC hal Kx.2.1) eT E N B B2 hmsg (g := mkF X.m pc Ls (msg :: .ref a :: st)) rfl (by rw [F.2.2.1]; exact hz) rfl (hb F.2.1 hd) (ble hf) (by show 2 * 0 + _ + _ ≤ _; have := ble hlo; omega) (ble hk) (ble hn)
  have KK := keep_of_kp K
  refine (G h' KK E' N' M' C' T' ?_).back stp
  exact Spot.next F X2 e2 hS hZ hown hC (CHr.keep KK (fun x hx => by cases List.mem_singleton.mp hx; exact (hs a hm).2) hC.1) (Fr.six hF ha) (ext_keep hE KK fun x hx => by cases List.mem_singleton.mp hx; exact ha) hs hN
/-- a call of a method that the named class inherits -/
theorem g_virtualUp {ix : Nat} {C owner : String} {y' z' : MethodName} {as' : Array Value} {kc' ks' : Nat} {Q' : Option Value → Heap → Prop} (sfc : List Addr) {a : Addr} (argsL : List Value) {ps : List FieldType} {r : Option FieldType} (hd : decode bs pc = .ok (.invokevirtual ix, 3)) (hp : pc + 3 = pc')
    (w1 : (Jvm.Cond.methodLink y.cls ix y').before a0 Z = true) (w0 : (Jvm.Cond.sameMethod y'.cls owner y'.name y'.desc).before a0 Z = true) (w2 : (Jvm.Cond.declares ⟨owner, y'.name, y'.desc⟩).before a0 Z = true) (ho : owner ≠ "java/lang/invoke/MethodHandle" ∧ owner ≠ "java/lang/invoke/VarHandle") (w3 : (Jvm.Cond.selects C y' z').before a0 Z = true) (w4 : (Jvm.Cond.instanceMethod z').before a0 Z = true)
    (E : Exa Z h a C) (P : Pay X.l R z' (st.map fun v => v.category).sum as' Z a0 EL nw sfc h kc' ks' Q') (hpd : parseMethodDescriptor y'.desc = some ⟨ps, r⟩) (hlen : argsL.length = ps.length) (hargs : (Value.ref a :: argsL).toArray = as') (hz : Ls.size = ml) (hk : Nat.ble (k + kc') R.cells = true) (hn : Nat.ble (n + ks') R.slots = true) (hsf : ∀ x ∈ sfc, x ∈ sf)
    (G : ∀ v h', Q' v h' → h.size ≤ h'.size → Go X R Z a0 EL nw y bs ml rt Q kc ks sf h' (k + kc') (n + ks') (mkF X.m pc' Ls (v.toList ++ st))) : Go X R Z a0 EL nw y bs ml rt Q kc ks sf h k n (mkF X.m pc Ls (argsL.reverse ++ .ref a :: st)) := fun T S => by
  subst hp
  obtain ⟨F, vm0, L, X1, eT, hS, hZ, hown, hC, hF, hE, hs, hN⟩ := S
  obtain ⟨cq, kq, qa, qb, qc⟩ := isOf (s := X.s.setVm vm0) hZ eT E
  obtain ⟨v, vm1, B, -, X2, hS2, hle, hq, stp⟩ := X1.virtualBackUpS F.1 (x := y') (y := z') hown (mvT (s := X.s.setVm vm0) hZ w1) (mvT (s := X.s.setVm vm0) hZ w0) (mvT (s := X.s.setVm vm0) hZ w2) ho (mvT (s := X.s.setVm vm0) hZ w3) (mvT (s := X.s.setVm vm0) hZ w4) (P _ _ _ _ _ _ vm0 hZ hC.1 hE (fun x hx => hs x (hsf x hx)) F.2.2.2.2.2.2) qa qc (g := mkF X.m pc Ls (argsL.reverse ++ .ref a :: st)) rfl (by rw [F.2.2.1]; exact hz) (Steps.refl _) (argsL := argsL) (rest := st) (lenOf hpd hlen) rfl (by show 2 * 0 + _ ≤ _; omega) (hb F.2.1 hd) (fun _ _ => ⟨hargs, eT, ble hk, ble hn⟩)
  exact (Go.back F eT hS hZ hown hC hF hs X2 hS2 hle hq hN G).back fun t q => stp.trans q
theorem g_specialK {ix : Nat} {y' : MethodName} {bs' : ByteArray} {ml' : Nat} {as' : Array Value} {kc' ks' : Nat} {Q' : Option Value → Heap → Prop} (Kx : Kn X Z) (sfc : List Addr) {a : Addr} (argsL : List Value) {ps : List FieldType} {r : Option FieldType} (hd : decode bs pc = .ok (.invokespecial ix, 3)) (hp : pc + 3 = pc') (hi : y'.name = "<init>")
    (w1 : (Jvm.Cond.methodLink y.cls ix y').before a0 Z = true) (w2 : (Jvm.Cond.instanceMethod y').before a0 Z = true) (w4 : (Jvm.Cond.code y' bs' ml' none).before a0 Z = true) (hy : y'.cls ≠ "java/lang/invoke/MethodHandle" ∧ y'.cls ≠ "java/lang/invoke/VarHandle")
    (P : PayK X.l R y' (st.map fun v => v.category).sum as' Z a0 EL nw sfc h kc' ks' Q') (hpd : parseMethodDescriptor y'.desc = some ⟨ps, r⟩) (hlen : argsL.length = ps.length) (hargs : (Value.ref a :: argsL).toArray = as') (hz : Ls.size = ml) (hk : Nat.ble (k + kc') R.cells = true) (hn : Nat.ble (n + ks') R.slots = true) (hsf : ∀ x ∈ sfc, x ∈ sf)
    (G : ∀ v h', Q' v h' → h.size ≤ h'.size → Go X R Z a0 EL nw y bs ml rt Q kc ks sf h' (k + kc') (n + ks') (mkF X.m pc' Ls (v.toList ++ st))) : Go X R Z a0 EL nw y bs ml rt Q kc ks sf h k n (mkF X.m pc Ls (argsL.reverse ++ .ref a :: st)) := fun T S => by
  subst hp
  obtain ⟨F, vm0, L, X1, eT, hS, hZ, hown, hC, hF, hE, hs, hN⟩ := S
  have hal := hS.1.alike
  obtain ⟨v, vm1, B, -, X2, hS2, hle, hq, stp⟩ := X1.specialBackS F.1 (y := y') hi hown (mvT (s := X.s.setVm vm0) hZ w1) (mvT (s := X.s.setVm vm0) hZ w2) (mvT (s := X.s.setVm vm0) hZ w4) hy (P _ _ _ _ _ _ vm0 F.1 Kx.2.2 (Vm.MethodsKnown.alikeC hal Kx.1) (Vm.FramesKnown.alikeC hal Kx.2.1) hZ hC.1 hE (fun x hx => hs x (hsf x hx)) F.2.2.2.2.2.2) (g := mkF X.m pc Ls (argsL.reverse ++ .ref a :: st)) rfl (by rw [F.2.2.1]; exact hz) (Steps.refl _) (a := a) (argsL := argsL) (rest := st) (lenOf hpd hlen) rfl (by show 2 * 0 + _ ≤ _; omega) (hb F.2.1 hd) (fun _ _ => ⟨hargs, eT, ble hk, ble hn⟩)
  exact (Go.back F eT hS hZ hown hC hF hs X2 hS2 hle hq hN G).back fun t q => stp.trans q
theorem g_virtualK {ix : Nat} {C : String} {y' z' : MethodName} {as' : Array Value} {kc' ks' : Nat} {Q' : Option Value → Heap → Prop} (Kx : Kn X Z) (sfc : List Addr) {a : Addr} (argsL : List Value) {ps : List FieldType} {r : Option FieldType} (hd : decode bs pc = .ok (.invokevirtual ix, 3)) (hp : pc + 3 = pc')
    (w1 : (Jvm.Cond.methodLink y.cls ix y').before a0 Z = true) (w2 : (Jvm.Cond.declares y').before a0 Z = true) (w3 : (Jvm.Cond.selects C y' z').before a0 Z = true) (w4 : (Jvm.Cond.instanceMethod z').before a0 Z = true) (hy : y'.cls ≠ "java/lang/invoke/MethodHandle" ∧ y'.cls ≠ "java/lang/invoke/VarHandle")
    (hnf : NF Z y') (E : Exa Z h a C) (P : PayK X.l R z' (st.map fun v => v.category).sum as' Z a0 EL nw sfc h kc' ks' Q') (hpd : parseMethodDescriptor y'.desc = some ⟨ps, r⟩) (hlen : argsL.length = ps.length) (hargs : (Value.ref a :: argsL).toArray = as') (hz : Ls.size = ml) (hk : Nat.ble (k + kc') R.cells = true) (hn : Nat.ble (n + ks') R.slots = true) (hsf : ∀ x ∈ sfc, x ∈ sf)
    (G : ∀ v h', Q' v h' → h.size ≤ h'.size → Go X R Z a0 EL nw y bs ml rt Q kc ks sf h' (k + kc') (n + ks') (mkF X.m pc' Ls (v.toList ++ st))) : Go X R Z a0 EL nw y bs ml rt Q kc ks sf h k n (mkF X.m pc Ls (argsL.reverse ++ .ref a :: st)) := fun T S => by
  subst hp
  obtain ⟨F, vm0, L, X1, eT, hS, hZ, hown, hC, hF, hE, hs, hN⟩ := S
  have hal := hS.1.alike
  obtain ⟨cq, kq, qa, qb, qc⟩ := isOf (s := X.s.setVm vm0) hZ eT E
  obtain ⟨v, vm1, B, -, X2, hS2, hle, hq, stp⟩ := X1.virtualBackS F.1 (y := y') (z := z') hown (mvT (s := X.s.setVm vm0) hZ w1) (mvT (s := X.s.setVm vm0) hZ w2) (hnf (X.s.setVm vm0) hZ) (mvT (s := X.s.setVm vm0) hZ w3) (mvT (s := X.s.setVm vm0) hZ w4) hy (P _ _ _ _ _ _ vm0 F.1 Kx.2.2 (Vm.MethodsKnown.alikeC hal Kx.1) (Vm.FramesKnown.alikeC hal Kx.2.1) hZ hC.1 hE (fun x hx => hs x (hsf x hx)) F.2.2.2.2.2.2) qa qc (g := mkF X.m pc Ls (argsL.reverse ++ .ref a :: st)) rfl (by rw [F.2.2.1]; exact hz) (Steps.refl _) (argsL := argsL) (rest := st) (lenOf hpd hlen) rfl (by show 2 * 0 + _ ≤ _; omega) (hb F.2.1 hd) (fun _ _ => ⟨hargs, eT, ble hk, ble hn⟩)
  exact (Go.back F eT hS hZ hown hC hF hs X2 hS2 hle hq hN G).back fun t q => stp.trans q
end ExcW
/-! java.lang.Throwable's tables, for a receiver class rc whose own words tell of suppressedExceptions -/
section Thr
open Jvm.Free.Exc Jvm.Bundle Jvm.LibCode.Throwable Jvm.Free.Str
variable {args : Array Value} {s : State} {pl : Platform}
/-- the words asked, beside the receiver's -/
def thrW (rc : String) : List Jvm.Cond := [
  .initialized tN, .superclass tN "java/lang/Object", .instanceMethod tFill, .codeSync tFill Fill.code 1 (some (.object tN)), .instanceMethod tFill0, .native tFill0,
  .instanceMethod tInit0, .code tInit0 Init0.code 1 none, .instanceMethod oInit, .code oInit ⟨#[0xb1]⟩ 1 none, .methodLink tN 1 oInit, .methodLink tN 27 tFill, .methodLink tN 202 tFill0,
  .fieldLink tN 7 tN "cause" thD, .fieldLink tN 17 tN "stackTrace" steD, .fieldLink tN 24 tN "suppressedExceptions" listD, .fieldLink tN 13 tN "UNASSIGNED_STACK" steD, .laysStatic tN "UNASSIGNED_STACK" steD,
  .fieldLink tN 20 tN "SUPPRESSED_SENTINEL" listD, .laysStatic tN "SUPPRESSED_SENTINEL" listD, .fieldLink tN 198 tN "backtrace" obD, .selects rc tFill0 tFill0, .selects rc tFill tFill, .declares tFill,
  .lays rc tN "cause" thD, .lays rc tN "stackTrace" steD, .lays rc tN "suppressedExceptions" listD, .lays rc tN "detailMessage" msgD, .lays rc tN "backtrace" obD, .lays rc tN "depth" "I", .soleField tN "backtrace", .soleField tN "depth", .arrayOver (.object "java/lang/Object")]
theorem thrW_in : ∀ d ∈ thrW "java/lang/IllegalStateException", d ∈ tables_1 := by decide +kernel
/-- what is known of Throwable in s, by the names of its parts -/
theorem thr_of {rc : String} {cX : ClassId} {kX : Class} (hX : s.vm.findClass rc = some cX) (hkX : s.vm.classes[cX]? = some kX) (howns : pl.frameOwnsMonitors = true) (hfin : pl.finalization = false) (hpl : pl.magicAccessors = ({} : Platform).magicAccessors) (W : ∀ c ∈ thrW rc, c.before args s = true) :
    ∃ T : ThrowableC, T.Links pl s ∧ s.vm.findClass tN = some T.cT ∧ s.methodNamed? tFill = some T.fill ∧ s.methodNamed? tFill0 = some T.fill0 ∧ s.fieldFound? tN "stackTrace" steD = some (T.cT, T.kT, T.i17, T.fStack) ∧ s.fieldFound? tN "UNASSIGNED_STACK" steD = some (T.cT, T.kT, T.i13, T.fUnassigned) ∧ T.fStack.type = .array (.object "java/lang/StackTraceElement") := by
  have w : ∀ c, c ∈ thrW rc → c.holds args s none s [] = true := fun c q => W c q
  obtain ⟨⟨cT, i0⟩, meth0, hn0, hm0, hnat0, hcode0, hlocks0, hsig0⟩ := Cond.native_spec (w (.native tFill0) (by simp [thrW]))
  have hc : s.vm.findClass tN = some cT := findClass_of_methodNamed hn0
  obtain ⟨k, hk, hname⟩ := Vm.findClass_spec hc
  obtain ⟨_, k1, _, _, hk1, _, _, hord, _, hni⟩ := Cond.superclass_spec hc (w (.superclass tN "java/lang/Object") (by simp [thrW]))
  cases hk.symm.trans hk1
  obtain ⟨iF, methF, hnF, hmF, hatF, hstF, habF, -, -⟩ := Cond.ownMethod (x := tFill) hc hk (w (.instanceMethod tFill) (by simp [thrW]))
  obtain ⟨methF', cF, hmF', hcF, hbF, hlF, hrF, hlkF, -, hsigF⟩ := Cond.codeSync_spec hnF (w (.codeSync tFill Fill.code 1 (some (.object tN))) (by simp [thrW]))
  cases hmF.symm.trans hmF'
  obtain ⟨i0', meth0', hn0', hm0', hat0, hst0, hab0, hnm0, hds0⟩ := Cond.ownMethod (x := tFill0) hc hk (w (.instanceMethod tFill0) (by simp [thrW]))
  have e3 : i0 = i0' := by have := Option.some.inj (hn0.symm.trans hn0'); simpa using this
  subst e3
  cases hm0.symm.trans hm0'
  obtain ⟨iZ, methZ, hnZ, hmZ, hatZ, -, -, -, -⟩ := Cond.ownMethod (x := tInit0) hc hk (w (.instanceMethod tInit0) (by simp [thrW]))
  obtain ⟨methZ', cZ, hmZ', hcZ, hbZ, hlZ, -, hlkZ, -, -⟩ := Cond.code_spec hnZ (w (.code tInit0 Init0.code 1 none) (by simp [thrW]))
  cases hmZ.symm.trans hmZ'
  obtain ⟨mO, methO, hnO, hmO, hstO, habO⟩ := Cond.instanceMethod_spec (w (.instanceMethod oInit) (by simp [thrW]))
  obtain ⟨methO', cO, hmO', hcO, hbO, hlO, -, hlkO, -, hsigO⟩ := Cond.code_spec hnO (w (.code oInit ⟨#[0xb1]⟩ 1 none) (by simp [thrW]))
  cases hmO.symm.trans hmO'
  obtain ⟨kO, hkO, hnameO⟩ := Vm.findClass_spec (findClass_of_methodNamed hnO)
  obtain ⟨hnmO, hdsO⟩ := name_of_methodNamed hnO hmO
  obtain ⟨ci1, n1, cf, hl1, hr1, hcf, hp1⟩ := Cond.linkedMethod hc hk hnO (w (.methodLink tN 1 oInit) (by simp [thrW])) pl hpl
  obtain ⟨ci27, n27, cf2, hl27, hr27, hcf2, hp27⟩ := Cond.linkedMethod hc hk hnF (w (.methodLink tN 27 tFill) (by simp [thrW])) pl hpl
  cases hcf.symm.trans hcf2
  obtain ⟨ci202, n202, cf3, hl202, hr202, hcf3, hp202⟩ := Cond.linkedMethod hc hk hn0 (w (.methodLink tN 202 tFill0) (by simp [thrW])) pl hpl
  cases hcf.symm.trans hcf3
  have yC := w (.lays rc tN "cause" thD) (by simp [thrW])
  have yS := w (.lays rc tN "stackTrace" steD) (by simp [thrW])
  have yP := w (.lays rc tN "suppressedExceptions" listD) (by simp [thrW])
  have yM := w (.lays rc tN "detailMessage" msgD) (by simp [thrW])
  obtain ⟨ci7, i7, f7, hk7, hg7, ha7, hs7, hf7, hn7, ht7, hff7⟩ := Cond.ownField (t := .object tN) hc hk (by decide +kernel) (w (.fieldLink tN 7 tN "cause" thD) (by simp [thrW])) yC pl hpl
  obtain ⟨ci17, i17, f17, hk17, hg17, ha17, hs17, hf17, hn17, ht17, hff17⟩ := Cond.ownField (t := .array (.object "java/lang/StackTraceElement")) hc hk (by decide +kernel) (w (.fieldLink tN 17 tN "stackTrace" steD) (by simp [thrW])) yS pl hpl
  obtain ⟨ci24, i24, f24, hk24, hg24, ha24, hs24, hf24, hn24, ht24, hff24⟩ := Cond.ownField (t := .object "java/util/List") hc hk (by decide +kernel) (w (.fieldLink tN 24 tN "suppressedExceptions" listD) (by simp [thrW])) yP pl hpl
  obtain ⟨ci13, i13, f13, aS, cellS, hk13, hg13, ha13, hs13, -, -, hsta, hcellS, hissS, -, -, hff13⟩ := Cond.ownStatic (t := .array (.object "java/lang/StackTraceElement")) hc hk (by decide +kernel) (w (.fieldLink tN 13 tN "UNASSIGNED_STACK" steD) (by simp [thrW])) (w (.laysStatic tN "UNASSIGNED_STACK" steD) (by simp [thrW])) pl hpl
  obtain ⟨ci20, i20, f20, _, _, hk20, hg20, ha20, hs20, -, -, -, -, -, -, -, hff20⟩ := Cond.ownStatic (t := .object "java/util/List") hc hk (by decide +kernel) (w (.fieldLink tN 20 tN "SUPPRESSED_SENTINEL" listD) (by simp [thrW])) (w (.laysStatic tN "SUPPRESSED_SENTINEL" listD) (by simp [thrW])) pl hpl
  obtain ⟨_, _, cM, kM, iM, fM, _, _, hffM, hsM, hfM, _⟩ := Cond.lays_spec yM
  obtain ⟨tyS, dS, hdS, hdnS⟩ := Cond.laysAt hX hkX hff17 yS
  obtain ⟨tyP, dP, hdP, hdnP⟩ := Cond.laysAt hX hkX hff24 yP
  have apart : f17.slot ≠ f24.slot := Cond.laysApart hdS hdP hdnS hdnP (by rw [hn17, hn24]; decide)
  have pF : methF.sig.parameters = [] := by
    have : (parseMethodDescriptor tFill.desc).map (·.parameters) = some [] := by decide +kernel
    rw [hsigF] at this; simpa using this
  have p0 : meth0.sig.parameters = [.int] := by
    have : (parseMethodDescriptor tFill0.desc).map (·.parameters) = some [.int] := by decide +kernel
    rw [hsig0] at this; simpa using this
  have pO : methO.sig.parameters.length = 0 := by
    have : (parseMethodDescriptor oInit.desc).map (·.parameters) = some [] := by decide +kernel
    rw [hsigO] at this
    have : methO.sig.parameters = [] := by simpa using this
    rw [this]; rfl
  let T : ThrowableC := { cT := cT, kT := k, cO := cT, aS := aS, fillIdx := iF, fill0Idx := i0, initSIdx := iZ, obj := mO, kObj := kO, methFill := methF, methFill0 := meth0, methInitS := methZ, methObj := methO, codeFill := cF, codeInitS := cZ, codeObj := cO, fBack := f7, fDepth := f7, fStack := f17, fCause := f7, fSupp := f24, fMsg := fM, fUnassigned := f13, fSentinel := f20, cfT := cf, ci1 := ci1, n1 := n1, ci27 := ci27, n27 := n27, ci202 := ci202, n202 := n202, ci7 := ci7, i7 := i7, ci13 := ci13, i13 := i13, ci17 := ci17, i17 := i17, ci20 := ci20, i20 := i20, ci24 := ci24, i24 := i24 }
  refine ⟨T, ?_, hc, hnF, hn0, hff17, hff13, ht17⟩
  exact ⟨howns, hfin, hk, hname, Vm.findClass_boot hc hk, hni, Cond.initialized_spec hc hk (w (.initialized tN) (by simp [thrW])), hsta, hatF, hcF, hbF, hlF, hlkF, hstF, habF, hrF, pF, hat0, hnm0, hds0, p0, hst0, hnat0, hcode0, hlocks0, hab0, hs17, hf17, hs13, hkO, hnameO, hmO, hnmO, hstO, habO, by rw [hdsO]; exact lookupSpecial_of_named hnO hmO hstO, pO, hcO, hbO, hlkO, hs7, hf7, hs20, hs24, hf24, hsM, hfM, apart, hcf, hl1, hr1, hp1, hl27, hr27, hp27, hl202, hr202, hp202, hk7, hg7, ha7, hk13, hg13, ha13, hk17, hg17, ha17, hk20, hg20, ha20, hk24, hg24, ha24⟩
theorem thrW_ok {rc : String} : (thrW rc).all xOk = true := rfl
/-- fillInStackTrace(), called on an object that the walk has made -/
theorem pay_fill {l : Launch} {R : Room} {Z : State} {a0 : Array Value} {EL : List (String × Nat)} {nw : Bool} {h : Heap} {Wd nI : Nat} {rc : String} (hw : ∀ d ∈ thrW rc, d.before a0 Z = true) (wi : (Jvm.Cond.instantiable rc nI).before a0 Z = true) (hl : l.stackTraces = true) {ea : Addr} {u : Value} (SU : Sta Z Z.heap tN "UNASSIGNED_STACK" steD u) (ru : u.isRef = true) (hu : u ≠ .null) (hx : Z.heap.size ≤ ea) (E : Exa Z h ea rc) (N : Unt h ea) (B : Fld Z h ea tN "backtrace" obD .null) (Fs : Fld Z h ea tN "stackTrace" steD u) (hf : Nat.ble 3 R.frames = true) (hlo : Nat.ble (Wd + 42) R.locals = true) :
    PayK l R tFill Wd #[.ref ea] Z a0 EL nw [ea] h 1 2752 (fun v h' => v = some (.ref ea) ∧ Keep h h' [ea] ∧ Unt h' ea ∧ ∀ (nd : String × String) (w : Value), nd ∈ [("cause", thD), ("detailMessage", msgD)] → Fld Z h ea tN nd.1 nd.2 w → Fld Z h' ea tN nd.1 nd.2 w) := by
  intro p e below s0 args len vm0 hexec hE0 hTK hBelow hZ H hE hs hEL m meth c A g ig mk a X1 hg hsize hdg hW hn hp
  have htr : e.platform.stackTraces = true := by rw [X1.admits.platform]; exact hl
  have hpl : e.platform.magicAccessors = ({} : Platform).magicAccessors := by rw [X1.admits.platform]
  have W : ∀ c ∈ thrW rc, c.before args (s0.setVm vm0) = true := fun c hc => mvX (s := s0.setVm vm0) (ThS.ext hE0 ThS.start) hZ (List.all_eq_true.mp thrW_ok c hc) (hw c hc)
  have w : ∀ c, c ∈ thrW rc → c.holds args (s0.setVm vm0) none (s0.setVm vm0) [] = true := fun c q => W c q
  have hal : Z.vm.Alike vm0 := hZ.alike
  obtain ⟨cell, kc, c1, c2, c3, -, c5⟩ := E
  obtain ⟨cell2, u1, u2, u3⟩ := N
  cases c1.symm.trans u1
  obtain ⟨k4, k2, i1, i2, i3, -⟩ := Cond.instantiable_spec wi
  cases c2.symm.trans i1
  cases c3.symm.trans i2
  obtain ⟨kX, q1, q2⟩ := hal.2.2 _ _ c3
  have hX : (s0.setVm vm0).vm.findClass rc = some cell.cls := by show vm0.findClass rc = _; rw [hal.findClass]; exact c2
  have hord : kX.kind = .ordinary := by rw [q2]; exact i3
  have hsz : cell.slots.size = kX.instanceTypes.size := by rw [q2]; exact c5 i3
  obtain ⟨T, L, hfound, hfill, hfill0, hst, hun, hty⟩ := thr_of hX q1 (by rw [X1.admits.platform]) (by rw [X1.admits.platform]) hpl W
  have fnd : ∀ {nm d : String} {cf : ClassId} {k : Class} {i : Nat} {f : Field} {c' : ClassId} {k' : Class} {i' : Nat} {f' : Field}, Z.fieldFound? tN nm d = some (cf, k, i, f) → (s0.setVm vm0).fieldFound? tN nm d = some (c', k', i', f') → f = f' := fun q r => by
    obtain ⟨k9, q9, -⟩ := State.fieldFound?_setVm (s := Z) hal q
    cases (show (s0.setVm vm0).fieldFound? tN _ _ = _ from q9).symm.trans r
    rfl
  have hsel0 : selectMethod e.platform vm0 cell.cls T.fill0 = .method T.fill0 := by
    obtain ⟨e2, r2, m2, x1, x2, x3, x4, -⟩ := Cond.selects_spec (w (.selects rc tFill0 tFill0) (by simp [thrW]))
    cases Option.some.inj (x1.symm.trans hX)
    cases Option.some.inj (x2.symm.trans (State.methodFound?_of_named hfill0 (by decide)))
    cases Option.some.inj (x3.symm.trans hfill0)
    rw [Launch.admits_selectMethod X1.admits]; exact x4
  obtain ⟨sc, si, sk, sfd, sst, cellS, s1, s2, s3, s4, s5, s6, s7⟩ := SU
  obtain ⟨k9, q9, hek⟩ := State.fieldFound?_setVm (s := Z) hal s1
  cases (show (s0.setVm vm0).fieldFound? tN _ _ = _ from q9).symm.trans hun
  have haS : T.aS = sst := by have := L.statics; rw [hek] at this; exact Option.some.inj (this.symm.trans s4)
  have hS : h[T.aS]? = some cellS := by rw [haS]; exact hE.2 _ _ s5
  have hneS : T.aS ≠ ea := by rw [haS]; exact Nat.ne_of_lt (Nat.lt_of_lt_of_le (Array.getElem?_eq_some_iff.mp s5).1 hx)
  have hknS : cellS.vm ≠ .unknown := fun q => by rw [q] at s6; cases s6
  obtain ⟨cellf, f1, f2, f3, ff, y1, y2, -, -, -, -, y7⟩ := Fs
  cases c1.symm.trans y1
  have eff := fnd y2 hst
  subst eff
  obtain ⟨cellb, b1, b2, b3, bf, z1, z2, -, -, -, -, z7⟩ := B
  cases c1.symm.trans z1
  obtain ⟨ci198, i198, fB, hk198, hg198, ha198, hsB, -, hnB, htB, hffB⟩ := Cond.ownField (t := .object "java/lang/Object") hfound L.cls (by decide +kernel) (w (.fieldLink tN 198 tN "backtrace" obD) (by simp [thrW])) (w (.lays rc tN "backtrace" obD) (by simp [thrW])) e.platform hpl
  have ebf := fnd z2 hffB
  subst ebf
  obtain ⟨-, -, cD, kD, iD, fD, -, -, hffD, hstD, -⟩ := Cond.lays_spec (w (.lays rc tN "depth" "I") (by simp [thrW]))
  cases Option.some.inj ((Cond.lays_declared (w (.lays rc tN "depth" "I") (by simp [thrW])) hffD).symm.trans hfound)
  obtain ⟨hkD, hatD⟩ := State.fieldFound?_spec hffD
  cases Option.some.inj (hkD.symm.trans L.cls)
  obtain ⟨hnD, htD⟩ := State.fieldFound?_type hffD (t := .int) (by decide +kernel)
  have hfb := Cond.soleField_find hfound L.cls (w (.soleField tN "backtrace") (by simp [thrW])) ha198 hnB hsB
  have hfd := Cond.soleField_find hfound L.cls (w (.soleField tN "depth") (by simp [thrW])) hatD hnD hstD
  obtain ⟨comp, cO, kO, -, -, hkO, hkindO, hO⟩ := Cond.arrayOver_spec (W (.arrayOver (.object "java/lang/Object")) (by simp [thrW]))
  obtain ⟨tyS, dS, hdS, hdnS⟩ := Cond.laysAt hX q1 hst (w (.lays rc tN "stackTrace" steD) (by simp [thrW]))
  obtain ⟨tyB, dB, hdB, hdnB⟩ := Cond.laysAt hX q1 hffB (w (.lays rc tN "backtrace" obD) (by simp [thrW]))
  obtain ⟨tyD, dD, hdD, hdnD⟩ := Cond.laysAt hX q1 hffD (w (.lays rc tN "depth" "I") (by simp [thrW]))
  have tk : ∀ {f : Field} {v : Value}, kX.instanceTypes[f.slot]? = some f.type → fits f.type v = true → Jvm.Takes (s0.setVm vm0) cell f v := fun {f v} h1 h2 => by
    obtain ⟨r1, r2⟩ := Takes.of_laid (s := s0.setVm vm0) (v := v) q1 hord h1 h2
    exact ⟨by rw [hsz]; simpa using r1, by rw [u2]; exact r2⟩
  obtain ⟨v, B', X2, ⟨hv, vm', lines, hlines, hW', hU, hL, hcc, hss⟩, stp⟩ := Jvm.Free.Str.fillPays (l := l) (R := R) (len := len) (W := Wd) (sargs := args) (s := s0.setVm vm0) hexec htr T L hfill (u0 := ⟨u, ru⟩) hu (self := ea) (cell := cell) (cellS := cellS) (fun k q => by rw [u2] at q; cases q) (fun q => by rw [u2] at q; cases q) (by rw [u3]) (by rw [u3]) y7 hsel0 hneS hknS s7 (tk tyS (by rw [hty]; exact fits_refV_array _ ⟨u, ru⟩)) ⟨⟨ci198, i198, bf⟩, ⟨hk198, hg198, ha198, hsB⟩, z7⟩ hTK hBelow hfound hO hkO hkindO hfb hfd (fun b => tk tyB (by rw [htB]; rfl)) (fun n => tk tyD (by rw [htD]; rfl)) (ble hf) (ble hlo) m meth c A g ig mk a X1 hg hsize hdg hW hn ⟨hp.1, hp.2.2.1, hp.2.2.2, by rw [hp.2.1]; exact c1, by rw [hp.2.1]; exact hS⟩
  generalize hC : (filledOn T.toThrowableT bf fD cell ⟨u, ru⟩ A.U.heap.size lines.length.toInt32) = C at hU
  have htc : (traceHolder cO lines).slots.size ≤ 2752 := traceHolder_size_le cO hlines
  generalize traceHolder cO lines = tc at hU hss htc
  have eh : B'.U.heap = (h.push tc).setIfInBounds ea C := by rw [hU, ← hp.2.1]; rfl
  have lt : ea < h.size := (Array.getElem?_eq_some_iff.mp c1).1
  have eE : B'.U.heap[ea]? = some C := by rw [eh, Array.getElem?_setIfInBounds_self, if_pos (by rw [Array.size_push]; exact Nat.lt_succ_of_lt lt)]
  have Ccls : C.cls = cell.cls := by rw [← hC]; rfl
  have Cvm : C.vm = cell.vm := by rw [← hC]; rfl
  have Cmon : C.monitor = cell.monitor := by rw [← hC]; rfl
  have Csz : C.slots.size = cell.slots.size := by rw [← hC]; simp [filledOn, Cell.setSlot]
  have Coth : ∀ i, i ≠ bf.slot → i ≠ fD.slot → i ≠ T.fStack.slot → C.slots[i]? = cell.slots[i]? := fun i h1 h2 h3 => by
    rw [← hC]; simp [filledOn, Cell.setSlot, Array.getElem?_setIfInBounds, Ne.symm h1, Ne.symm h2, Ne.symm h3]
  have oth : ∀ (x : Addr) (cx : Cell), h[x]? = some cx → x ≠ ea → B'.U.heap[x]? = some cx := fun x cx q ne => by
    rw [eh, Array.getElem?_setIfInBounds_ne (Ne.symm ne), Array.getElem?_push_lt (Array.getElem?_eq_some_iff.mp q).1]
    exact (Array.getElem?_eq_getElem _).symm.trans q
  have K : Keep h B'.U.heap [ea] := ⟨by rw [eh]; simp, fun x cx q ne => oth x cx q (fun z => ne (List.mem_singleton.mpr z)), fun x cx q => by
    by_cases z : x = ea
    · subst z
      cases c1.symm.trans q
      exact ⟨C, eE, Ccls, Cvm, Csz⟩
    · exact ⟨cx, oth x cx q z, rfl, rfl, rfl⟩⟩
  have fk : ∀ (nd : String × String) (w : Value), nd ∈ [("cause", thD), ("detailMessage", msgD)] → Fld Z h ea tN nd.1 nd.2 w → Fld Z B'.U.heap ea tN nd.1 nd.2 w := fun nd wv hnd F => by
    obtain ⟨cl, g1, g2, g3, gf, r1, r2, r3, r4, r5, r6, r7⟩ := F
    cases c1.symm.trans r1
    have hlay : (Jvm.Cond.lays rc tN nd.1 nd.2) ∈ thrW rc := by
      simp only [List.mem_cons, List.not_mem_nil, or_false] at hnd
      rcases hnd with rfl | rfl <;> simp [thrW]
    obtain ⟨k9, q9, -⟩ := State.fieldFound?_setVm (s := Z) hal r2
    have q9 : (s0.setVm vm0).fieldFound? tN nd.1 nd.2 = _ := q9
    obtain ⟨tyF, dF, hdF, hdnF⟩ := Cond.laysAt hX q1 q9 (w _ hlay)
    have nmF : gf.name = nd.1 := by
      simp only [List.mem_cons, List.not_mem_nil, or_false] at hnd
      rcases hnd with rfl | rfl
      · exact (State.fieldFound?_type q9 (t := .object tN) (by decide +kernel)).1
      · exact (State.fieldFound?_type q9 (t := .object "java/lang/String") (by decide +kernel)).1
    have nmS : T.fStack.name = "stackTrace" := (State.fieldFound?_type hst (t := .array (.object "java/lang/StackTraceElement")) (by decide +kernel)).1
    have hn3 : nd.1 ≠ "backtrace" ∧ nd.1 ≠ "depth" ∧ nd.1 ≠ "stackTrace" := by
      simp only [List.mem_cons, List.not_mem_nil, or_false] at hnd
      rcases hnd with rfl | rfl <;> decide
    have n1 := Cond.laysApart hdF hdB hdnF hdnB (by rw [nmF, hnB]; exact hn3.1)
    have n2 := Cond.laysApart hdF hdD hdnF hdnD (by rw [nmF, hnD]; exact hn3.2.1)
    have n3 := Cond.laysApart hdF hdS hdnF hdnS (by rw [nmF, nmS]; exact hn3.2.2)
    exact ⟨C, g1, g2, g3, gf, eE, r2, r3, by rw [Cvm]; exact r4, by rw [Cvm]; exact r5, by rw [Ccls]; exact r6, by rw [Coth _ n1 n2 n3]; exact r7⟩
  have hC2 : CHr Z EL vm0 h vm0 B'.U.heap := CHr.keep K (fun x q => by cases List.mem_singleton.mp q; exact (hs ea (List.mem_singleton.mpr rfl)).2) H
  have hsz2 : A.U.heap.size ≤ B'.U.heap.size := by rw [hp.2.1]; exact K.1
  have U2 : Unt B'.U.heap ea := ⟨C, eE, by rw [Cvm]; exact u2, by rw [Cmon]; exact u3⟩
  have X3 := X2.mono (cells' := A.cells + 1) (slots' := A.slots + 2752) (by rw [hcc]; exact Nat.le_refl _) (by rw [hss]; exact Nat.add_le_add_left htc _)
  refine ⟨v, ⟨B'.U, B'.locs, A.cells + 1, A.slots + 2752⟩, X3.retabled X2.warmed.wide, X2.warmed.since _, hsz2, ⟨_, ⟨⟨hv, K, U2, fk⟩, fun y hy => ?_, ext_keep hE K fun x q => by cases List.mem_singleton.mp q; exact hx⟩, hL, rfl, rfl, hC2.trans (CHv.at X2 hZ hEL hC2.1), fun _ => X2.warmed⟩, stp⟩
  simp only [List.mem_cons, List.not_mem_nil, or_false] at hy
  rcases hy with rfl | rfl | rfl <;> exact hx
end Thr
/-! IllegalStateException.<init>(String), walked down to Throwable's -/
section Ise
open Jvm.Free.Exc Jvm.Bundle Jvm.LibCode.Throwable Jvm.Free.Str
variable {l : Launch} {R : Room} {Z : State} {a0 : Array Value} {EL : List (String × Nat)} {nw : Bool} {h : Heap} {W : Nat}
abbrev ISE : String := "java/lang/IllegalStateException"
/-- Throwable's two statics -/
def ThrSta (Z : State) : Prop := ∃ u q, Sta Z Z.heap tN "UNASSIGNED_STACK" steD u ∧ u.isRef = true ∧ u ≠ .null ∧ Sta Z Z.heap tN "SUPPRESSED_SENTINEL" listD q ∧ q.isRef = true
/-- the object ahead of its constructor -/
def IseP (Z : State) (h : Heap) (ea : Addr) : Prop := Z.heap.size ≤ ea ∧ Exa Z h ea ISE ∧ Unt h ea ∧ Fld Z h ea tN "backtrace" obD .null ∧ ∃ v1 v2 v3 v4, Fld Z h ea tN "cause" thD v1 ∧ Fld Z h ea tN "stackTrace" steD v2 ∧ Fld Z h ea tN "suppressedExceptions" listD v3 ∧ Fld Z h ea tN "detailMessage" msgD v4
abbrev IseQ (Z : State) (h : Heap) (ea m : Addr) : Option Value → Heap → Prop := fun v h' => v = none ∧ Keep h h' [ea] ∧ Unt h' ea ∧ Fld Z h' ea tN "detailMessage" msgD (.ref m) ∧ Fld Z h' ea tN "cause" thD (.ref ea)
abbrev yTI : MethodName := ⟨"java/lang/Throwable", "<init>", "(Ljava/lang/String;)V"⟩
abbrev yEI : MethodName := ⟨"java/lang/Exception", "<init>", "(Ljava/lang/String;)V"⟩
abbrev yRI : MethodName := ⟨"java/lang/RuntimeException", "<init>", "(Ljava/lang/String;)V"⟩
abbrev yII : MethodName := ⟨"java/lang/IllegalStateException", "<init>", "(Ljava/lang/String;)V"⟩
theorem met_TI (hw : ∀ d ∈ tables_1, d.before a0 Z = true) (hl : l.stackTraces = true) (r : ThrSta Z) {ea m : Addr} (P : IseP Z h ea) :
    MetK [] l yTI jdk_78_method_2_code 2 none (Rm 3 1 2752 42) #[.ref ea, .ref m] Z a0 EL nw [ea] h (IseQ Z h ea m) := by
  obtain ⟨u, p, Su, ru, nu, Sp, rp⟩ := r
  obtain ⟨hx, E, N, B, v1, v2, v3, v4, Fc, Fs, Fp, Fm⟩ := P
  have wC := wy_IllegalStateException_Throwable_cause hw
  have wS := wy_IllegalStateException_Throwable_stackTrace hw
  have wP := wy_IllegalStateException_Throwable_suppressedExceptions hw
  have wM := wy_IllegalStateException_Throwable_detailMessage hw
  have wB := wy_IllegalStateException_Throwable_backtrace hw
  have pC : parseFieldDescriptor thD = some (.object "java/lang/Throwable") := by decide
  have pS : parseFieldDescriptor steD = some (.array (.object "java/lang/StackTraceElement")) := by decide
  have pP : parseFieldDescriptor listD = some (.object "java/util/List") := by decide
  have pM : parseFieldDescriptor msgD = some (.object "java/lang/String") := by decide
  have pB : parseFieldDescriptor obD = some (.object "java/lang/Object") := by decide
  have sc := slot_ne (Or.inl wS) (Or.inl wC) (by decide) pS pC
  have pc := slot_ne (Or.inl wP) (Or.inl wC) (by decide) pP pC
  have mc := slot_ne (Or.inl wM) (Or.inl wC) (by decide) pM pC
  have bc := slot_ne (Or.inl wB) (Or.inl wC) (by decide) pB pC
  have ps := slot_ne (Or.inl wP) (Or.inl wS) (by decide) pP pS
  have ms := slot_ne (Or.inl wM) (Or.inl wS) (by decide) pM pS
  have bs := slot_ne (Or.inl wB) (Or.inl wS) (by decide) pB pS
  have mp := slot_ne (Or.inl wM) (Or.inl wP) (by decide) pM pP
  have bp := slot_ne (Or.inl wB) (Or.inl wP) (by decide) pB pP
  refine MetK.of (by first | exact plainFor_of_name (by first | (simp [plainName, overriddenIn]; done) | decide +kernel) | decide +kernel) fun X hX Kx => Go.old fun EZ => ?_
  show Go X _ _ _ _ _ _ _ _ _ _ _ _ _ _ _ _ (mkF X.m 0 #[.val (.ref ea), .val (.ref m)] [])
  refine g_aloadN (pc' := 1) dj78_2_0 rfl rfl rfl ?_
  refine g_objinit (pc' := 4) dj78_2_1 rfl (wl_Throwable_1 hw) (wm_Object_init_lrV hw) (wb_Object_init_lrV hw) rfl rfl rfl ?_
  refine g_aloadN (pc' := 5) dj78_2_4 rfl rfl rfl ?_
  refine g_aloadN (pc' := 6) dj78_2_5 rfl rfl rfl ?_
  refine g_putfield (pc' := 9) dj78_2_6 rfl (wf_Throwable_7 hw) (Fc) (E) (Or.inl (wy_IllegalStateException_Throwable_cause hw)) (wn_IllegalStateException hw) (ty := (.object "java/lang/Throwable")) (by decide) rfl rfl (hx) (by simp) fun h6 W6 => ?_
  refine g_aloadN (pc' := 10) dj78_2_9 rfl rfl rfl ?_
  refine g_getstatic (pc' := 13) dj78_2_10 rfl (wf_Throwable_13 hw) (Su) ?_
  refine g_putfield (pc' := 16) dj78_2_13 rfl (wf_Throwable_17 hw) (Fs.other W6 (Or.inr sc)) (E.wr W6) (Or.inl (wy_IllegalStateException_Throwable_stackTrace hw)) (wn_IllegalStateException hw) (ty := (.array (.object "java/lang/StackTraceElement"))) (by decide) rfl (fits_refV_array _ ⟨u, ru⟩) (hx) (by simp) fun h13 W13 => ?_
  refine g_aloadN (pc' := 17) dj78_2_16 rfl rfl rfl ?_
  refine g_getstatic (pc' := 20) dj78_2_17 rfl (wf_Throwable_20 hw) (Sp) ?_
  refine g_putfield (pc' := 23) dj78_2_20 rfl (wf_Throwable_24 hw) ((Fp.other W6 (Or.inr pc)).other W13 (Or.inr ps)) ((E.wr W6).wr W13) (Or.inl (wy_IllegalStateException_Throwable_suppressedExceptions hw)) (wn_IllegalStateException hw) (ty := (.object "java/util/List")) (by decide) rfl (fits_refV_object _ ⟨p, rp⟩) (hx) (by simp) fun h20 W20 => ?_
  refine g_aloadN (pc' := 24) dj78_2_23 rfl rfl rfl ?_
  have E20 := ((E.wr W6).wr W13).wr W20
  have N20 := Unt.wr W20 (Unt.wr W13 (Unt.wr W6 N))
  have B20 := ((B.other W6 (Or.inr bc)).other W13 (Or.inr bs)).other W20 (Or.inr bp)
  have C20 := ((Fc.same W6).other W13 (Or.inr sc.symm)).other W20 (Or.inr pc.symm)
  have S20 := ((Fs.other W6 (Or.inr sc)).same W13).other W20 (Or.inr ps.symm)
  have M20 := ((Fm.other W6 (Or.inr mc)).other W13 (Or.inr ms)).other W20 (Or.inr mp)
  have K20 := (((Keep.refl h [ea]).wr W6 (Or.inl (List.mem_cons_self ..))).wr W13 (Or.inl (List.mem_cons_self ..))).wr W20 (Or.inl (List.mem_cons_self ..))
  refine g_virtualK (pc' := 27) (C := ISE) Kx [ea] [] dj78_2_24 rfl (wl_Throwable_27 hw) (wd_Throwable_fillInStackTrace_lrLjavalangThrowable hw) (wv_IllegalStateException_Throwable_fillInStackTrace_lrLjavalangThrowable hw) (wm_Throwable_fillInStackTrace_lrLjavalangThrowable hw) (by decide) (NF.sel (wv_IllegalStateException_Throwable_fillInStackTrace_lrLjavalangThrowable hw)) E20 (pay_fill (rc := ISE) (fun d q => hw d (thrW_in d q)) (wn_IllegalStateException hw) (by rw [hX]; exact hl) Su ru nu hx E20 N20 B20 S20 rfl rfl) pd_lrLjavalangThrowable rfl rfl rfl rfl rfl (fun _ q => q) fun v24 h24 q24 l24 => ?_
  obtain ⟨rfl, K24, N24, fk⟩ := q24
  have M24 := fk ("detailMessage", msgD) _ (by simp) M20
  have C24 := fk ("cause", thD) _ (by simp) C20
  refine g_pop (pc' := 28) dj78_2_27 rfl rfl ?_
  refine g_aloadN (pc' := 29) dj78_2_28 rfl rfl rfl ?_
  refine g_aloadN (pc' := 30) dj78_2_29 rfl rfl rfl ?_
  refine g_putfield (pc' := 33) dj78_2_30 rfl (wf_Throwable_31 hw) (M24) (E20.keep K24) (Or.inl (wy_IllegalStateException_Throwable_detailMessage hw)) (wn_IllegalStateException hw) (ty := (.object "java/lang/String")) (by decide) rfl rfl (hx) (by simp) fun h30 W30 => ?_
  refine g_return dj78_2_33 rfl rfl rfl ⟨rfl, (K20.trans K24 (fun _ q => Or.inl q)).wr W30 (Or.inl (List.mem_cons_self ..)), Unt.wr W30 N24, M24.same W30, C24.other W30 (Or.inr mc.symm)⟩
theorem met_EI (hw : ∀ d ∈ tables_1, d.before a0 Z = true) (hl : l.stackTraces = true) (r : ThrSta Z) {ea m : Addr} (P : IseP Z h ea) :
    MetK [] l yEI jdk_59_method_2_code 2 none (Rm 4 1 2752 55) #[.ref ea, .ref m] Z a0 EL nw [ea] h (IseQ Z h ea m) := by
  refine MetK.of (by first | exact plainFor_of_name (by first | (simp [plainName, overriddenIn]; done) | decide +kernel) | decide +kernel) fun X hX Kx => Go.old fun EZ => ?_
  show Go X _ _ _ _ _ _ _ _ _ _ _ _ _ _ _ _ (mkF X.m 0 #[.val (.ref ea), .val (.ref m)] [])
  refine g_aloadN (pc' := 1) dj59_2_0 rfl rfl rfl ?_
  refine g_aloadN (pc' := 2) dj59_2_1 rfl rfl rfl ?_
  refine g_specialK (pc' := 5) Kx [ea] [_] dj59_2_2 rfl rfl (wl_Exception_7 hw) (wm_Throwable_init_lLjavalangStringrV hw) (wb_Throwable_init_lLjavalangStringrV hw) (by decide) (PayK.of_met (met_TI hw (by rw [hX]; exact hl) r P) (wb_Throwable_init_lLjavalangStringrV hw) (wi_Throwable hw) rfl rfl) pd_lLjavalangStringrV rfl rfl rfl rfl rfl (fun _ q => q) fun v2 h2 q2 l2 => ?_
  obtain ⟨rfl, q⟩ := q2
  refine g_return dj59_2_5 rfl rfl rfl (⟨rfl, q⟩)
theorem met_RI (hw : ∀ d ∈ tables_1, d.before a0 Z = true) (hl : l.stackTraces = true) (r : ThrSta Z) {ea m : Addr} (P : IseP Z h ea) :
    MetK [] l yRI jdk_58_method_2_code 2 none (Rm 5 1 2752 68) #[.ref ea, .ref m] Z a0 EL nw [ea] h (IseQ Z h ea m) := by
  refine MetK.of (by first | exact plainFor_of_name (by first | (simp [plainName, overriddenIn]; done) | decide +kernel) | decide +kernel) fun X hX Kx => Go.old fun EZ => ?_
  show Go X _ _ _ _ _ _ _ _ _ _ _ _ _ _ _ _ (mkF X.m 0 #[.val (.ref ea), .val (.ref m)] [])
  refine g_aloadN (pc' := 1) dj58_2_0 rfl rfl rfl ?_
  refine g_aloadN (pc' := 2) dj58_2_1 rfl rfl rfl ?_
  refine g_specialK (pc' := 5) Kx [ea] [_] dj58_2_2 rfl rfl (wl_RuntimeException_7 hw) (wm_Exception_init_lLjavalangStringrV hw) (wb_Exception_init_lLjavalangStringrV hw) (by decide) (PayK.of_met (met_EI hw (by rw [hX]; exact hl) r P) (wb_Exception_init_lLjavalangStringrV hw) (wi_Exception hw) rfl rfl) pd_lLjavalangStringrV rfl rfl rfl rfl rfl (fun _ q => q) fun v2 h2 q2 l2 => ?_
  obtain ⟨rfl, q⟩ := q2
  refine g_return dj58_2_5 rfl rfl rfl (⟨rfl, q⟩)
theorem met_ISE (hw : ∀ d ∈ tables_1, d.before a0 Z = true) (hl : l.stackTraces = true) (r : ThrSta Z) {ea m : Addr} (P : IseP Z h ea) :
    MetK [] l yII jdk_60_method_2_code 2 none (Rm 6 1 2752 100) #[.ref ea, .ref m] Z a0 EL nw [ea] h (IseQ Z h ea m) := by
  refine MetK.of (by first | exact plainFor_of_name (by first | (simp [plainName, overriddenIn]; done) | decide +kernel) | decide +kernel) fun X hX Kx => Go.old fun EZ => ?_
  show Go X _ _ _ _ _ _ _ _ _ _ _ _ _ _ _ _ (mkF X.m 0 #[.val (.ref ea), .val (.ref m)] [])
  refine g_aloadN (pc' := 1) dj60_2_0 rfl rfl rfl ?_
  refine g_aloadN (pc' := 2) dj60_2_1 rfl rfl rfl ?_
  refine g_specialK (pc' := 5) Kx [ea] [_] dj60_2_2 rfl rfl (wl_IllegalStateException_7 hw) (wm_RuntimeException_init_lLjavalangStringrV hw) (wb_RuntimeException_init_lLjavalangStringrV hw) (by decide) (PayK.of_met (met_RI hw (by rw [hX]; exact hl) r P) (wb_RuntimeException_init_lLjavalangStringrV hw) (wi_RuntimeException hw) rfl rfl) pd_lLjavalangStringrV rfl rfl rfl rfl rfl (fun _ q => q) fun v2 h2 q2 l2 => ?_
  obtain ⟨rfl, q⟩ := q2
  refine g_return dj60_2_5 rfl rfl rfl (⟨rfl, q⟩)
end Ise
/-! Context.setUpAlready: the exception it makes -/
section SetUp
open Jvm.Free.Exc
variable {l : Launch} {R : Room} {Z : State} {a0 : Array Value} {EL : List (String × Nat)} {nw : Bool} {h : Heap} {z : Int32} {fm : Value}
abbrev suf : List Int32 := [58, 32, 116, 104, 101, 32, 99, 111, 110, 116, 101, 120, 116, 32, 104, 97, 115, 32, 97, 108, 114, 101, 97, 100, 121, 32, 98, 101, 101, 110, 32, 114, 101, 102, 114, 101, 115, 104, 101, 100, 32, 111, 114, 32, 99, 108, 111, 115, 101, 100]
theorem suf255 : ∀ c ∈ suf, ¬ c < 0 ∧ ¬ (255 : Int32) < c := by decide
abbrev ySet : MethodName := ⟨"wirefold/Context", "setUpAlready", "(Ljava/lang/String;)Ljava/lang/IllegalStateException;"⟩
abbrev SetQ (Z : State) (h : Heap) (cs : List Int32) : Option Value → Heap → Prop := fun v h' => ∃ ea m, v = some (.ref ea) ∧ Ext h h' ∧ Exa Z h' ea ISE ∧ Fld Z h' ea tN "detailMessage" msgD (.ref m) ∧ Str Z h' m (cs ++ suf)
theorem set_tail {X : Cx} (hX : X.l = l) (Kx : Kn X Z) (hw : ∀ d ∈ tables_1, d.before a0 Z = true) (hl : l.stackTraces = true) (r2 : ThrSta Z) (EZ : Ext Z.heap h) {h0 h2 : Heap} {ea m : Addr} {cs : List Int32} {s0 : Slot} {sf : List Addr} (e0 : ea = h.size) (E0 : Ext h h0) (A0 : Exa Z h0 ea ISE) (D0 : ∀ {O nm d : String} {ty : FieldType}, Laid Z a0 ISE O nm d → parseFieldDescriptor d = some ty → Fld Z h0 ea O nm d (defaultValue ty)) (U0 : Unt h0 ea) (G : Ext h0 h2) (T : Str Z h2 m (cs ++ suf)) (hm : ea ∈ sf) :
    Go X (Rm 11 12 4000 240) Z a0 consts_1 false ySet prog_24_method_16_code 1 (some (.object ISE)) (SetQ Z h cs) 12 4000 sf h2 11 1200 (mkF X.m 24 #[s0] [.ref m, .ref ea, .ref ea]) := by
  have se : h.size ≤ ea := Nat.le_of_eq e0.symm
  have Ae := A0.ext G
  have P : IseP Z h2 ea := ⟨Nat.le_trans EZ.1 se, Ae, Unt.ext G U0, (D0 (Or.inl (wy_IllegalStateException_Throwable_backtrace hw)) (ty := .object "java/lang/Object") (by decide)).ext G, _, _, _, _, (D0 (Or.inl (wy_IllegalStateException_Throwable_cause hw)) (ty := .object "java/lang/Throwable") (by decide)).ext G, (D0 (Or.inl (wy_IllegalStateException_Throwable_stackTrace hw)) (ty := .array (.object "java/lang/StackTraceElement")) (by decide)).ext G, (D0 (Or.inl (wy_IllegalStateException_Throwable_suppressedExceptions hw)) (ty := .object "java/util/List") (by decide)).ext G, (D0 (Or.inl (wy_IllegalStateException_Throwable_detailMessage hw)) (ty := .object "java/lang/String") (by decide)).ext G⟩
  refine g_specialK (pc' := 27) Kx [ea] [_] dp24_16_24 rfl rfl (wl_Context_264 hw) (wm_IllegalStateException_init_lLjavalangStringrV hw) (wb_IllegalStateException_init_lLjavalangStringrV hw) (by decide) (PayK.of_met (met_ISE hw (by rw [hX]; exact hl) r2 P) (wb_IllegalStateException_init_lLjavalangStringrV hw) (wi_IllegalStateException hw) rfl rfl) pd_lLjavalangStringrV rfl rfl rfl rfl rfl (fun _ q => by cases List.mem_singleton.mp q; exact hm) fun v24 h24 q24 l24 => ?_
  obtain ⟨rfl, K24, U24, M24, C24⟩ := q24
  have T24 : Str Z h24 m (cs ++ suf) := str_keepW T Ae (wn_IllegalStateException hw) (by decide) K24
  refine g_areturn dp24_16_27 rfl rfl rfl rfl rfl rfl ⟨ea, m, rfl, ext_keep (ext_trans E0 G) K24 (allS se all0), Ae.keep K24, M24, T24⟩
theorem met_set (hw : ∀ d ∈ tables_1, d.before a0 Z = true) (hl : l.stackTraces = true) (r2 : ThrSta Z) (U : SU Z) (F : SFm Z fm) (rf : fm.isRef = true) (S : Sta Z Z.heap "java/lang/String" "COMPACT_STRINGS" "Z" (.int z)) (hz : ¬ z = 0) (EZ : Ext Z.heap h) {x : Addr} {cs : List Int32} (T : Str Z h x cs) (h3 : cs.length ≤ 3) :
    MetK [] l ySet prog_24_method_16_code 1 (some (.object ISE)) (Rm 11 12 4000 240) #[.ref x] Z a0 consts_1 false [] h (SetQ Z h cs) := by
  have sl : suf.length = 50 := rfl
  refine MetK.of (plainFor_of_name (by first | (simp [plainName, overriddenIn]; done) | decide +kernel)) fun X hX Kx => ?_
  show Go X _ _ _ _ _ _ _ _ _ _ _ _ _ _ _ _ (mkF X.m 0 #[.val (.ref x)] [])
  refine g_newU (pc' := 3) dp24_16_0 rfl (wc_Context_260 hw) (wn_IllegalStateException hw) (wi_IllegalStateException hw) rfl rfl fun h0 ea e0 E0 A0 D0 U0 => ?_
  refine g_dup (pc' := 4) dp24_16_3 rfl rfl ?_
  refine g_new (pc' := 7) dp24_16_4 rfl (wc_Context_143 hw) (wn_StringBuilder hw) (wi_StringBuilder hw) rfl rfl fun h4 a4 e4 E4 A4 D4 => ?_
  refine g_dup (pc' := 8) dp24_16_7 rfl rfl ?_
  have ha4 : Z.heap.size ≤ a4 := by rw [e4]; exact (ext_trans EZ E0).1
  have s4 : h0.size ≤ a4 := Nat.le_of_eq e4.symm
  refine g_specialB [a4] (pc' := 11) [a4] [] dp24_16_8 rfl rfl (wl_Context_145 hw) (wm_StringBuilder_init_lrV hw) (wb_StringBuilder_init_lrV hw) (by decide) (Pay.of_met (met_SBi2 hw S hz ha4 A4 (D4 (Or.inl (wy_StringBuilder_AbstractStringBuilder_value hw)) (ty := .array .byte) (by decide)) (D4 (Or.inl (wy_StringBuilder_AbstractStringBuilder_coder hw)) (ty := .byte) (by decide)) (D4 (Or.inl (wy_StringBuilder_AbstractStringBuilder_count hw)) (ty := .int) (by decide)) (D4 (Or.inl (wy_StringBuilder_AbstractStringBuilder_maybeLatin1 hw)) (ty := .boolean) (by decide))) (wb_StringBuilder_init_lrV hw) (wi_StringBuilder hw) rfl rfl) (fun _ _ q => q.2.1) (fun _ q => by cases List.mem_singleton.mp q; simp) pd_lrV rfl rfl rfl rfl rfl (fun _ q => by cases List.mem_singleton.mp q; simp) fun v8 h8 q8 l8 => ?_
  obtain ⟨rfl, K8, t, t1, t2, B8, M8⟩ := q8
  refine ⟨[t], fun y hy => by cases List.mem_singleton.mp hy; exact ⟨t1, t2⟩, Go.sub [t, a4, ea] (fun y hy => by simpa using hy) ?_⟩
  have F8 : Ext h0 h8 := ext_keep E4 K8 (allS s4 all0)
  have st : h0.size ≤ t := Nat.le_trans E4.1 t1
  have Z0 : Ext Z.heap h0 := ext_trans EZ E0
  have Z8 : Ext Z.heap h8 := ext_trans Z0 F8
  have T8 := T.ext (ext_trans E0 F8)
  refine g_aloadN (pc' := 12) dp24_16_11 rfl rfl rfl ?_
  by_cases hwd : ∃ c ∈ cs, (255 : Int32) < c
  · refine g_virtualB [a4] (pc' := 15) [a4] [_] dp24_16_12 rfl (wl_Context_148 hw) (wd_StringBuilder_append_lLjavalangStringrLjavalangStringBuilder hw) (wv_StringBuilder_StringBuilder_append_lLjavalangStringrLjavalangStringBuilder hw) (wm_StringBuilder_append_lLjavalangStringrLjavalangStringBuilder hw) (by decide) (NF.sel (wv_StringBuilder_StringBuilder_append_lLjavalangStringrLjavalangStringBuilder hw)) (B8.1) (Pay.of_met (met_SApSw1 hw U F rf S hz Z8 ha4 B8 M8 T8 hwd (by omega)) (wb_StringBuilder_append_lLjavalangStringrLjavalangStringBuilder hw) (wi_StringBuilder hw) rfl rfl) (fun _ _ q => q.2.1) (fun _ q => by cases List.mem_singleton.mp q; simp) pd_lLjavalangStringrLjavalangStringBuilder rfl rfl rfl rfl rfl (fun _ q => by cases List.mem_singleton.mp q; simp) fun v12 h12 q12 l12 => ?_
    obtain ⟨rfl, K12, t', u1, u2, B12⟩ := q12
    refine ⟨[t'], fun y hy => by cases List.mem_singleton.mp hy; exact ⟨u1, u2⟩, Go.sub [t', a4, ea] (fun y hy => by simp only [List.mem_cons, List.not_mem_nil, or_false] at hy; rcases hy with rfl | rfl | rfl <;> simp) ?_⟩
    have F12 : Ext h0 h12 := ext_keep F8 K12 (allS s4 all0)
    refine g_litW (pc' := 18) rfl [58, 32, 116, 104, 101, 32, 99, 111, 110, 116, 101, 120, 116, 32, 104, 97, 115, 32, 97, 108, 114, 101, 97, 100, 121, 32, 98, 101, 101, 110, 32, 114, 101, 102, 114, 101, 115, 104, 101, 100, 32, 111, 114, 32, 99, 108, 111, 115, 101, 100] 200 dp24_16_15 rfl (wt_Context_287 hw) (own_atoms hw) (by decide) ⟨by decide, by decide⟩ (by decide) (by decide) (by decide) rfl rfl rfl rfl rfl fun h15 a15 E15 T15 n15 => ?_
    have F15 : Ext h0 h15 := ext_trans F12 E15
    have em : max (cs.length + suf.length) (2 * 16 + 2) = cs.length + 50 := by rw [sl]; omega
    refine g_virtualB [a4] (pc' := 21) [a4] [_] dp24_16_18 rfl (wl_Context_148 hw) (wd_StringBuilder_append_lLjavalangStringrLjavalangStringBuilder hw) (wv_StringBuilder_StringBuilder_append_lLjavalangStringrLjavalangStringBuilder hw) (wm_StringBuilder_append_lLjavalangStringrLjavalangStringBuilder hw) (by decide) (NF.sel (wv_StringBuilder_StringBuilder_append_lLjavalangStringrLjavalangStringBuilder hw)) ((B12.ext E15).1) (Pay.of_met (met_SApSw0 (W := 106) hw U F rf S hz (ext_trans Z0 F15) ha4 (B12.ext E15) (ds := suf) T15 suf255 (by rw [sl]; omega) (by rw [em]; omega) (by rw [em]; omega)) (wb_StringBuilder_append_lLjavalangStringrLjavalangStringBuilder hw) (wi_StringBuilder hw) rfl rfl) (fun _ _ q => q.2.1) (fun _ q => by cases List.mem_singleton.mp q; simp) pd_lLjavalangStringrLjavalangStringBuilder rfl rfl rfl rfl rfl (fun _ q => by cases List.mem_singleton.mp q; simp) fun v18 h18 q18 l18 => ?_
    obtain ⟨rfl, K18, t2', w1, w2, B18⟩ := q18
    rw [em] at B18
    refine ⟨[], (fun _ q => nomatch q), Go.sub [ea] (fun y hy => by cases List.mem_singleton.mp hy; simp) ?_⟩
    have F18 : Ext h0 h18 := ext_keep F15 K18 (allS s4 all0)
    obtain ⟨_, _, _, _, _, _, _, _, _, _, hok, _⟩ := id T
    have hall : ∀ c ∈ cs ++ suf, ¬ c < 0 ∧ ¬ (65535 : Int32) < c := fun c q => (List.mem_append.mp q).elim (hok c) (up255 suf255 c)
    refine g_invokevirtualN (pc' := 24) [] [] dp24_16_21 rfl (wl_Context_154 hw) (wd_StringBuilder_toString_lrLjavalangString hw) (wv_StringBuilder_StringBuilder_toString_lrLjavalangString hw) (wm_StringBuilder_toString_lrLjavalangString hw) (by decide) (NF.sel (wv_StringBuilder_StringBuilder_toString_lrLjavalangString hw)) (B18.1) (Pay.of_met (met_TSw (W := 106) hw S hz (ext_trans Z0 F18) B18 (by rw [List.length_append, sl]) hall (by obtain ⟨c, q1, q2⟩ := hwd; exact ⟨c, List.mem_append.mpr (Or.inl q1), q2⟩) (by omega)) (wb_StringBuilder_toString_lrLjavalangString hw) (wi_StringBuilder hw) rfl rfl) pd_lrLjavalangString rfl rfl rfl rfl rfl (fun _ q => nomatch q) fun v21 h21 q21 l21 => ?_
    obtain ⟨m, rfl, -, -, E21, T21⟩ := q21
    exact Go.mono 11 1200 rfl rfl (set_tail hX Kx hw hl r2 EZ e0 E0 A0 D0 U0 (ext_trans F18 E21) T21 (by simp))
  · have hcL : ∀ c ∈ cs, ¬ (255 : Int32) < c := fun c q r => hwd ⟨c, q, r⟩
    have e16 : capOf (([] : List Int32).length + cs.length) 16 = 16 := if_pos (by simp; omega)
    have zt : Z.heap.size ≤ t := Nat.le_trans Z0.1 st
    refine g_virtualB [a4, t] (pc' := 15) [a4, t] [_] dp24_16_12 rfl (wl_Context_148 hw) (wd_StringBuilder_append_lLjavalangStringrLjavalangStringBuilder hw) (wv_StringBuilder_StringBuilder_append_lLjavalangStringrLjavalangStringBuilder hw) (wm_StringBuilder_append_lLjavalangStringrLjavalangStringBuilder hw) (by decide) (NF.sel (wv_StringBuilder_StringBuilder_append_lLjavalangStringrLjavalangStringBuilder hw)) (B8.1) (Pay.of_met (met_SApS (W := 16) hw S hz Z8 ha4 zt B8 T8 hcL (by rw [e16]; decide) (by rw [e16]; exact Nat.le_refl _)) (wb_StringBuilder_append_lLjavalangStringrLjavalangStringBuilder hw) (wi_StringBuilder hw) rfl rfl) (fun _ _ q => q.2.1) (fun _ q => by simp at q ⊢; rcases q with q | q <;> simp [q]) pd_lLjavalangStringrLjavalangStringBuilder rfl rfl rfl rfl rfl (fun _ q => by simp at q ⊢; rcases q with q | q <;> simp [q]) fun v12 h12 q12 l12 => ?_
    obtain ⟨rfl, K12, t', u1, u2, B12⟩ := q12
    rw [e16, List.nil_append] at B12
    refine ⟨if t' = t then [] else [t'], fun y hy => by split at hy <;> simp at hy; subst hy; exact ⟨u1.resolve_left ‹_›, u2⟩, Go.sub [t', a4, ea] (fun y hy => by simp only [List.mem_cons, List.not_mem_nil, or_false] at hy; rcases hy with rfl | rfl | rfl <;> split <;> simp [*]) ?_⟩
    have st' : h0.size ≤ t' := u1.elim (fun q => q ▸ st) fun q => Nat.le_trans F8.1 q
    have zt' : Z.heap.size ≤ t' := Nat.le_trans Z0.1 st'
    have F12 : Ext h0 h12 := ext_keep F8 K12 (allS s4 (allS st all0))
    refine g_litW (pc' := 18) rfl [58, 32, 116, 104, 101, 32, 99, 111, 110, 116, 101, 120, 116, 32, 104, 97, 115, 32, 97, 108, 114, 101, 97, 100, 121, 32, 98, 101, 101, 110, 32, 114, 101, 102, 114, 101, 115, 104, 101, 100, 32, 111, 114, 32, 99, 108, 111, 115, 101, 100] 200 dp24_16_15 rfl (wt_Context_287 hw) (own_atoms hw) (by decide) ⟨by decide, by decide⟩ (by decide) (by decide) (by decide) rfl rfl rfl rfl rfl fun h15 a15 E15 T15 n15 => ?_
    have F15 : Ext h0 h15 := ext_trans F12 E15
    have eN : capOf (cs.length + suf.length) 16 = cs.length + 50 := by rw [sl]; unfold capOf; rw [if_neg (by omega)]; omega
    refine g_virtualB [a4, t'] (pc' := 21) [a4, t'] [_] dp24_16_18 rfl (wl_Context_148 hw) (wd_StringBuilder_append_lLjavalangStringrLjavalangStringBuilder hw) (wv_StringBuilder_StringBuilder_append_lLjavalangStringrLjavalangStringBuilder hw) (wm_StringBuilder_append_lLjavalangStringrLjavalangStringBuilder hw) (by decide) (NF.sel (wv_StringBuilder_StringBuilder_append_lLjavalangStringrLjavalangStringBuilder hw)) ((B12.ext E15).1) (Pay.of_met (met_SApS (W := 53) hw S hz (ext_trans Z0 F15) ha4 zt' (B12.ext E15) (ds := suf) T15 (fun c q => (suf255 c q).2) (by rw [eN]; omega) (by rw [eN]; omega)) (wb_StringBuilder_append_lLjavalangStringrLjavalangStringBuilder hw) (wi_StringBuilder hw) rfl rfl) (fun _ _ q => q.2.1) (fun _ q => by simp at q ⊢; rcases q with q | q <;> simp [q]) pd_lLjavalangStringrLjavalangStringBuilder rfl rfl rfl rfl rfl (fun _ q => by simp at q ⊢; rcases q with q | q <;> simp [q]) fun v18 h18 q18 l18 => ?_
    obtain ⟨rfl, K18, t2', w1, w2, B18⟩ := q18
    rw [eN] at B18
    refine ⟨[], (fun _ q => nomatch q), Go.sub [ea] (fun y hy => by cases List.mem_singleton.mp hy; simp) ?_⟩
    have F18 : Ext h0 h18 := ext_keep F15 K18 (allS s4 (allS st' all0))
    obtain ⟨_, _, _, _, _, _, _, _, _, _, hok, _⟩ := id T
    have hall : ∀ c ∈ cs ++ suf, ¬ c < 0 ∧ ¬ (255 : Int32) < c := fun c q => (List.mem_append.mp q).elim (fun r => ⟨(hok c r).1, hcL c r⟩) (suf255 c)
    refine g_invokevirtualN (pc' := 24) [] [] dp24_16_21 rfl (wl_Context_154 hw) (wd_StringBuilder_toString_lrLjavalangString hw) (wv_StringBuilder_StringBuilder_toString_lrLjavalangString hw) (wm_StringBuilder_toString_lrLjavalangString hw) (by decide) (NF.sel (wv_StringBuilder_StringBuilder_toString_lrLjavalangString hw)) (B18.1) (Pay.of_met (met_TS (W := 53) hw S hz (ext_trans Z0 F18) B18 (by rw [List.length_append, sl]) hall (by omega)) (wb_StringBuilder_toString_lrLjavalangString hw) (wi_StringBuilder hw) rfl rfl) pd_lrLjavalangString rfl rfl rfl rfl rfl (fun _ q => nomatch q) fun v21 h21 q21 l21 => ?_
    obtain ⟨m, rfl, -, -, E21, T21⟩ := q21
    exact Go.mono 11 1200 rfl rfl (set_tail hX Kx hw hl r2 EZ e0 E0 A0 D0 U0 (ext_trans F18 E21) T21 (by simp))
end SetUp
section Law
open Jvm.Free.Exc
variable {l : Launch} {R : Room} {Z : State} {a0 : Array Value} {nw : Bool} {EL : List (String × Nat)} {h : Heap} {z : Int32} {fm : Value}
abbrev yGM : MethodName := ⟨"java/lang/Throwable", "getMessage", "()Ljava/lang/String;"⟩
theorem met_GM (hw : ∀ d ∈ tables_1, d.before a0 Z = true) {e m : Addr} (F : Fld Z h e tN "detailMessage" msgD (.ref m)) : MetW [] l yGM jdk_78_method_6_code 1 (some (.object "java/lang/String")) (Rm 0 0 0 0) #[.ref e] Z a0 EL nw [] h (fun v h' => v = some (.ref m) ∧ h' = h) := by
  refine MetW.of (by first | exact plainFor_of_name (by first | (simp [plainName, overriddenIn]; done) | decide +kernel) | decide +kernel) fun X hX => Go.old fun EZ => ?_
  show Go X _ _ _ _ _ _ _ _ _ _ _ _ _ _ _ _ (mkF X.m 0 #[.val (.ref e)] [])
  refine g_aloadN (pc' := 1) dj78_6_0 rfl rfl rfl ?_
  refine g_getfield (pc' := 4) dj78_6_1 rfl (wf_Throwable_31 hw) (F) ?_
  refine g_areturn dj78_6_4 rfl rfl rfl rfl rfl rfl (⟨rfl, rfl⟩)
theorem law_tail {X : Cx} (hX : X.l = l) (Kx : Kn X Z) (hw : ∀ d ∈ tables_1, d.before a0 Z = true) (hl : l.stackTraces = true) (r2 : ThrSta Z) (U : SU Z) (F : SFm Z fm) (rf : fm.isRef = true) (S : Sta Z Z.heap "java/lang/String" "COMPACT_STRINGS" "Z" (.int z)) (hz : ¬ z = 0) (EZ : Ext Z.heap h) {s0 s1 s2 s3 s4 s5 s6 s7 : Slot} {sf : List Addr} {cs : List Int32} {x8 x9 : Addr} (T8 : Str Z h x8 cs) (h3 : cs.length ≤ 3) (T9 : Str Z h x9 (cs ++ suf)) :
    Go X room_1 Z a0 consts_1 false x code 11 ret (fun v h' => v = some (.int 1)) 48 9664 sf h 12 1000 (mkF X.m 410 #[s0, s1, s2, s3, s4, s5, s6, s7, .val (.ref x8), .val (.ref x9), .unset] []) := by
  refine g_aload (pc' := 412) at_410 rfl rfl rfl ?_
  refine g_staticK (pc' := 415) Kx [] [_] at_412 rfl (wl_ContextSetUpAlreadyPinLaw_15 hw) (ws_Context_setUpAlready_lLjavalangStringrLjavalangIllegalStateException hw) (wi_Context hw) (wb_Context_setUpAlready_lLjavalangStringrLjavalangIllegalStateException hw) (by decide) (PayK.of_met (met_set hw (by rw [hX]; exact hl) r2 U F rf S hz EZ T8 h3) (wb_Context_setUpAlready_lLjavalangStringrLjavalangIllegalStateException hw) (wi_Context hw) rfl rfl) pd_lLjavalangStringrLjavalangIllegalStateException rfl rfl rfl rfl rfl (fun _ q => nomatch q) fun v412 h412 q412 l412 => ?_
  obtain ⟨ea, m, rfl, E412, Ae, Me, Tm⟩ := q412
  refine g_astore (pc' := 417) (Ls' := #[_, _, _, _, _, _, _, _, _, _, _]) at_415 rfl rfl rfl ?_
  refine g_aload (pc' := 419) at_417 rfl rfl rfl ?_
  refine g_ifnonnullY (pc2 := 424) at_419 (by decide) rfl ?_
  refine g_aload (pc' := 426) at_424 rfl rfl rfl ?_
  refine g_aload (pc' := 428) at_426 rfl rfl rfl ?_
  refine g_virtualUp (pc' := 431) (C := ISE) (owner := tN) [] [] at_428 rfl (wl_ContextSetUpAlreadyPinLaw_21 hw) (wr_IllegalStateException_Throwable_getMessage hw) (wd_Throwable_getMessage_lrLjavalangString hw) (by decide) (wv_IllegalStateException_IllegalStateException_getMessage_lrLjavalangString hw) (wm_Throwable_getMessage_lrLjavalangString hw) Ae (Pay.of_met (met_GM hw Me) (wb_Throwable_getMessage_lrLjavalangString hw) (wi_Throwable hw) rfl rfl) pd_lrLjavalangString rfl rfl rfl rfl rfl (fun _ q => nomatch q) fun v428 h428 q428 l428 => ?_
  obtain ⟨rfl, e428⟩ := q428
  have e428 := e428.symm
  subst e428
  refine g_invokevirtual (pc' := 434) [] [_] at_431 rfl (wl_ContextSetUpAlreadyPinLaw_27 hw) (wd_String_equals_lLjavalangObjectrZ hw) (wv_String_String_equals_lLjavalangObjectrZ hw) (wm_String_equals_lLjavalangObjectrZ hw) (by decide) ((T9.ext E412).exa) (pay_eq (own_eq hw) (wn_String hw) S hz (ext_trans EZ E412) (T9.ext E412) Tm rfl rfl) pd_lLjavalangObjectrZ rfl rfl rfl rfl rfl (fun _ q => nomatch q) fun v431 h431 q431 l431 => ?_
  obtain ⟨q431, e431⟩ := q431
  rcases q431 with ⟨rfl, -⟩ | ⟨-, q⟩
  · refine g_ireturn (t := .boolean) at_434 rfl (by simp) rfl rfl rfl (rfl)
  · exact absurd rfl q
theorem met_law (hw : ∀ d ∈ tables_1, d.before a0 Z = true) (hl : l.stackTraces = true) (r2 : ThrSta Z) (U : SU Z) (F : SFm Z fm) (rf : fm.isRef = true) (S : Sta Z Z.heap "java/lang/String" "COMPACT_STRINGS" "Z" (.int z)) (hz : ¬ z = 0) (ws : List Jvm.Cond) (p0 p1 p2 p3 : Int32) :
    MetK ws l x code maxLocals ret room_1 #[.int p0, .int p1, .int p2, .int p3] Z a0 consts_1 false [] h (fun v h' => v = some (.int 1)) := by
  refine MetK.of (by first | exact plainFor_of_name (by first | (simp [plainName, overriddenIn]; done) | decide +kernel) | decide +kernel) fun X hX Kx => Go.old fun EZ => ?_
  show Go X _ _ _ _ _ _ _ _ _ _ _ _ _ _ _ _ (mkF X.m 0 #[.val (.int p0), .val (.int p1), .val (.int p2), .val (.int p3), .unset, .unset, .unset, .unset, .unset, .unset, .unset] [])
  refine g_iloadN (pc' := 1) at_0 rfl rfl ?_
  refine g_ldcI (pc' := 3) at_1 rfl (wk_ContextSetUpAlreadyPinLaw_7 hw) ?_
  refine g_iand (pc' := 4) at_3 rfl ?_
  refine g_i2c (pc' := 5) at_4 rfl ?_
  refine g_istore (pc' := 7) (Ls' := #[_, _, _, _, _, _, _, _, _, _, _]) at_5 rfl rfl ?_
  refine g_iloadN (pc' := 8) at_7 rfl rfl ?_
  refine g_ldcI (pc' := 10) at_8 rfl (wk_ContextSetUpAlreadyPinLaw_7 hw) ?_
  refine g_iand (pc' := 11) at_10 rfl ?_
  refine g_i2c (pc' := 12) at_11 rfl ?_
  refine g_istore (pc' := 14) (Ls' := #[_, _, _, _, _, _, _, _, _, _, _]) at_12 rfl rfl ?_
  refine g_iloadN (pc' := 15) at_14 rfl rfl ?_
  refine g_ldcI (pc' := 17) at_15 rfl (wk_ContextSetUpAlreadyPinLaw_7 hw) ?_
  refine g_iand (pc' := 18) at_17 rfl ?_
  refine g_i2c (pc' := 19) at_18 rfl ?_
  refine g_istore (pc' := 21) (Ls' := #[_, _, _, _, _, _, _, _, _, _, _]) at_19 rfl rfl ?_
  have k0 := c16_range (p0 &&& 65535)
  have k1 := c16_range (p1 &&& 65535)
  have k2 := c16_range (p2 &&& 65535)
  generalize (p0 &&& 65535).toUInt32.toUInt16.toUInt32.toInt32 = c0 at k0 ⊢
  generalize (p1 &&& 65535).toUInt32.toUInt16.toUInt32.toInt32 = c1 at k1 ⊢
  generalize (p2 &&& 65535).toUInt32.toUInt16.toUInt32.toInt32 = c2 at k2 ⊢
  refine g_iloadN (pc' := 22) at_21 rfl rfl ?_
  refine g_iconst (pc' := 23) (w := 1) at_22 rfl (by decide) ?_
  refine g_iand (pc' := 24) at_23 rfl ?_
  refine g_ifeq (pc' := 27) (pc2 := 31) at_24 rfl (by decide) rfl (fun c24 => ?_) (fun c24 => ?_)
  · refine g_iconst (pc' := 28) (w := 1) at_27 rfl (by decide) ?_
    refine g_goto (pc' := 32) at_28 (by decide) rfl ?_
    refine g_istore (pc' := 34) (Ls' := #[_, _, _, _, _, _, _, _, _, _, _]) at_32 rfl rfl ?_
    refine g_iload (pc' := 36) at_34 rfl rfl ?_
    refine g_ifeq (pc' := 39) (pc2 := 58) at_36 rfl (by decide) rfl (fun c36 => ?_) (fun c36 => False.elim (absurd c36 (by decide)))
    refine g_new (pc' := 42) at_39 rfl (wc_ContextSetUpAlreadyPinLaw_8 hw) (wn_String hw) (wi_String hw) rfl rfl fun h39 a39 e39 E39 A39 D39 => ?_
    refine g_dup (pc' := 43) at_42 rfl rfl ?_
    refine g_iconst (pc' := 44) (w := 0) at_43 rfl (by decide) ?_
    refine g_newarray (pc' := 46) (cap := 0) at_44 rfl (wa_char hw) (by decide) (by decide) rfl rfl rfl fun h44 a44 k44 e44 E44 A44 => ?_
    have t39 : a39 < h39.size := A39.lt
    have u39 : h.size ≤ h39.size := E39.1
    have z39 : Z.heap.size ≤ h.size := (EZ).1
    have y39 : a39 ≠ a44 := Nat.ne_of_lt (by omega)
    have F39_44 : Ext h h44 := (ext_trans E39 E44)
    refine g_invokespecial (pc' := 49) [a39] [_] at_46 rfl rfl (wl_ContextSetUpAlreadyPinLaw_10 hw) (wm_String_init_lACrV hw) (wb_String_init_lACrV hw) (by decide) (pay_new0 hw (by decide) (by omega) ((A39).ext E44) ((D39 (Or.inr (wy_String_String_value hw)) (ty := .array .byte) (by decide)).ext E44) ((D39 (Or.inr (wy_String_String_coder hw)) (ty := .byte) (by decide)).ext E44) A44 rfl rfl) pd_lACrV rfl rfl rfl rfl rfl (fun _ q => by cases List.mem_singleton.mp q; simp) fun v46 h46 q46 l46 => ?_
    obtain ⟨rfl, K46, T39⟩ := q46
    have F39 : Ext h h46 := ext_keep F39_44 K46 (allS (by omega) all0)
    refine g_astore (pc' := 51) (Ls' := #[_, _, _, _, _, _, _, _, _, _, _]) at_49 rfl rfl rfl ?_
    refine g_lit (pc' := 53) rfl [58, 32, 116, 104, 101, 32, 99, 111, 110, 116, 101, 120, 116, 32, 104, 97, 115, 32, 97, 108, 114, 101, 97, 100, 121, 32, 98, 101, 101, 110, 32, 114, 101, 102, 114, 101, 115, 104, 101, 100, 32, 111, 114, 32, 99, 108, 111, 115, 101, 100] 200 at_51 rfl (wt_ContextSetUpAlreadyPinLaw_13 hw) (own_atoms hw) (by decide) ⟨by decide, by decide⟩ (by decide) (by decide) (by decide) rfl rfl rfl rfl rfl fun h51 a51 E51 T51 n51 => ?_
    refine g_astore (pc' := 55) (Ls' := #[_, _, _, _, _, _, _, _, _, _, _]) at_53 rfl rfl rfl ?_
    refine g_goto (pc' := 410) at_55 (by decide) rfl ?_
    have E51' := ext_trans F39 E51
    exact Go.mono 12 1000 rfl rfl (law_tail hX Kx hw hl r2 U F rf S hz (ext_trans EZ E51') (cs := []) (T39.ext E51) (by decide) T51)
  · refine g_iconst (pc' := 32) (w := 0) at_31 rfl (by decide) ?_
    refine g_istore (pc' := 34) (Ls' := #[_, _, _, _, _, _, _, _, _, _, _]) at_32 rfl rfl ?_
    refine g_iload (pc' := 36) at_34 rfl rfl ?_
    refine g_ifeq (pc' := 39) (pc2 := 58) at_36 rfl (by decide) rfl (fun c36 => False.elim (c36 rfl)) (fun c36 => ?_)
    have hp3 : ∀ c ∈ [c0, c1, c2], ¬ c < 0 ∧ ¬ (65535 : Int32) < c := inS (P := fun c => ¬ c < 0 ∧ ¬ (65535 : Int32) < c) k0 (inS (P := fun c => ¬ c < 0 ∧ ¬ (65535 : Int32) < c) k1 (inS (P := fun c => ¬ c < 0 ∧ ¬ (65535 : Int32) < c) k2 in0))
    refine g_new (pc' := 61) at_58 rfl (wc_ContextSetUpAlreadyPinLaw_8 hw) (wn_String hw) (wi_String hw) rfl rfl fun h58 a58 e58 E58 A58 D58 => ?_
    refine g_dup (pc' := 62) at_61 rfl rfl ?_
    refine g_iconst (pc' := 63) (w := 3) at_62 rfl (by decide) ?_
    refine g_newarray (pc' := 65) (cap := 3) at_63 rfl (wa_char hw) (by decide) (by decide) rfl rfl rfl fun h63 a63 k63 e63 E63 A63 => ?_
    have t58 : a58 < h58.size := A58.lt
    have u58 : h.size ≤ h58.size := E58.1
    have z58 : Z.heap.size ≤ h.size := (EZ).1
    have y58 : a58 ≠ a63 := Nat.ne_of_lt (by omega)
    have F58_63 : Ext h h63 := (ext_trans E58 E63)
    refine g_dup (pc' := 66) at_65 rfl rfl ?_
    refine g_iconst (pc' := 67) (w := 0) at_66 rfl (by decide) ?_
    refine g_iload (pc' := 69) at_67 rfl rfl ?_
    refine g_castoreX (pc' := 70) (i := 0) at_69 rfl (nar16 k0) A63 (by omega) (by decide) (by decide) (ble rfl) fun h69 K69 A69 => ?_
    have F58_69 : Ext h h69 := ext_keep F58_63 K69 (allS (by omega) all0)
    refine g_dup (pc' := 71) at_70 rfl rfl ?_
    refine g_iconst (pc' := 72) (w := 1) at_71 rfl (by decide) ?_
    refine g_iload (pc' := 74) at_72 rfl rfl ?_
    refine g_castoreX (pc' := 75) (i := 1) at_74 rfl (nar16 k1) A69 (by omega) (by decide) (by decide) (ble rfl) fun h74 K74 A74 => ?_
    have F58_74 : Ext h h74 := ext_keep F58_69 K74 (allS (by omega) all0)
    refine g_dup (pc' := 76) at_75 rfl rfl ?_
    refine g_iconst (pc' := 77) (w := 2) at_76 rfl (by decide) ?_
    refine g_iload (pc' := 79) at_77 rfl rfl ?_
    refine g_castoreX (pc' := 80) (i := 2) at_79 rfl (nar16 k2) A74 (by omega) (by decide) (by decide) (ble rfl) fun h79 K79 A79 => ?_
    have F58_79 : Ext h h79 := ext_keep F58_74 K79 (allS (by omega) all0)
    refine g_invokespecial (pc' := 83) [a58] [_] at_80 rfl rfl (wl_ContextSetUpAlreadyPinLaw_10 hw) (wm_String_init_lACrV hw) (wb_String_init_lACrV hw) (by decide) (pay_newAny (cs := [c0, c1, c2]) (M := 3) hw U S hz (ext_trans (EZ) F58_79) rfl (ble rfl) (ble rfl) (ble rfl) (hp3) (by omega) (((((A58).ext E63).keep K69).keep K74).keep K79) (((((D58 (Or.inr (wy_String_String_value hw)) (ty := .array .byte) (by decide)).ext E63).keep K69 (ninS y58 nin0)).keep K74 (ninS y58 nin0)).keep K79 (ninS y58 nin0)) (((((D58 (Or.inr (wy_String_String_coder hw)) (ty := .byte) (by decide)).ext E63).keep K69 (ninS y58 nin0)).keep K74 (ninS y58 nin0)).keep K79 (ninS y58 nin0)) A79 rfl rfl) pd_lACrV rfl rfl rfl rfl rfl (fun _ q => by cases List.mem_singleton.mp q; simp) fun v80 h80 q80 l80 => ?_
    obtain ⟨rfl, K80, T58⟩ := q80
    have F58 : Ext h h80 := ext_keep F58_79 K80 (allS (by omega) all0)
    refine g_astore (pc' := 85) (Ls' := #[_, _, _, _, _, _, _, _, _, _, _]) at_83 rfl rfl rfl ?_
    have EZ2 := ext_trans EZ F58
    refine g_new (pc' := 88) at_85 rfl (wc_ContextSetUpAlreadyPinLaw_8 hw) (wn_String hw) (wi_String hw) rfl rfl fun h85 a85 e85 E85 A85 D85 => ?_
    refine g_dup (pc' := 89) at_88 rfl rfl ?_
    refine g_bipush (pc' := 91) (w := 53) at_89 rfl (by decide) ?_
    refine g_newarray (pc' := 93) (cap := 53) at_91 rfl (wa_char hw) (by decide) (by decide) rfl rfl rfl fun h91 a91 k91 e91 E91 A91 => ?_
    have t85 : a85 < h85.size := A85.lt
    have u85 : h80.size ≤ h85.size := E85.1
    have z85 : Z.heap.size ≤ h80.size := (EZ2).1
    have y85 : a85 ≠ a91 := Nat.ne_of_lt (by omega)
    have F85_91 : Ext h80 h91 := (ext_trans E85 E91)
    refine g_dup (pc' := 94) at_93 rfl rfl ?_
    refine g_iconst (pc' := 95) (w := 0) at_94 rfl (by decide) ?_
    refine g_iload (pc' := 97) at_95 rfl rfl ?_
    refine g_castoreX (pc' := 98) (i := 0) at_97 rfl (nar16 k0) A91 (by omega) (by decide) (by decide) (ble rfl) fun h97 K97 A97 => ?_
    have F85_97 : Ext h80 h97 := ext_keep F85_91 K97 (allS (by omega) all0)
    have A97 : Arv Z h97 a91 k91 .char 53 [.int (c0), .int 0, .int 0, .int 0, .int 0, .int 0, .int 0, .int 0, .int 0, .int 0, .int 0, .int 0, .int 0, .int 0, .int 0, .int 0, .int 0, .int 0, .int 0, .int 0, .int 0, .int 0, .int 0, .int 0, .int 0, .int 0, .int 0, .int 0, .int 0, .int 0, .int 0, .int 0, .int 0, .int 0, .int 0, .int 0, .int 0, .int 0, .int 0, .int 0, .int 0, .int 0, .int 0, .int 0, .int 0, .int 0, .int 0, .int 0, .int 0, .int 0, .int 0, .int 0, .int 0] (.int 0) := A97
    refine g_dup (pc' := 99) at_98 rfl rfl ?_
    refine g_iconst (pc' := 100) (w := 1) at_99 rfl (by decide) ?_
    refine g_iload (pc' := 102) at_100 rfl rfl ?_
    refine g_castoreX (pc' := 103) (i := 1) at_102 rfl (nar16 k1) A97 (by omega) (by decide) (by decide) (ble rfl) fun h102 K102 A102 => ?_
    have F85_102 : Ext h80 h102 := ext_keep F85_97 K102 (allS (by omega) all0)
    have A102 : Arv Z h102 a91 k91 .char 53 [.int (c0), .int (c1), .int 0, .int 0, .int 0, .int 0, .int 0, .int 0, .int 0, .int 0, .int 0, .int 0, .int 0, .int 0, .int 0, .int 0, .int 0, .int 0, .int 0, .int 0, .int 0, .int 0, .int 0, .int 0, .int 0, .int 0, .int 0, .int 0, .int 0, .int 0, .int 0, .int 0, .int 0, .int 0, .int 0, .int 0, .int 0, .int 0, .int 0, .int 0, .int 0, .int 0, .int 0, .int 0, .int 0, .int 0, .int 0, .int 0, .int 0, .int 0, .int 0, .int 0, .int 0] (.int 0) := A102
    refine g_dup (pc' := 104) at_103 rfl rfl ?_
    refine g_iconst (pc' := 105) (w := 2) at_104 rfl (by decide) ?_
    refine g_iload (pc' := 107) at_105 rfl rfl ?_
    refine g_castoreX (pc' := 108) (i := 2) at_107 rfl (nar16 k2) A102 (by omega) (by decide) (by decide) (ble rfl) fun h107 K107 A107 => ?_
    have F85_107 : Ext h80 h107 := ext_keep F85_102 K107 (allS (by omega) all0)
    have A107 : Arv Z h107 a91 k91 .char 53 [.int (c0), .int (c1), .int (c2), .int 0, .int 0, .int 0, .int 0, .int 0, .int 0, .int 0, .int 0, .int 0, .int 0, .int 0, .int 0, .int 0, .int 0, .int 0, .int 0, .int 0, .int 0, .int 0, .int 0, .int 0, .int 0, .int 0, .int 0, .int 0, .int 0, .int 0, .int 0, .int 0, .int 0, .int 0, .int 0, .int 0, .int 0, .int 0, .int 0, .int 0, .int 0, .int 0, .int 0, .int 0, .int 0, .int 0, .int 0, .int 0, .int 0, .int 0, .int 0, .int 0, .int 0] (.int 0) := A107
    refine g_dup (pc' := 109) at_108 rfl rfl ?_
    refine g_iconst (pc' := 110) (w := 3) at_109 rfl (by decide) ?_
    refine g_bipush (pc' := 112) (w := 58) at_110 rfl (by decide) ?_
    refine g_castoreX (pc' := 113) (i := 3) at_112 rfl rfl A107 (by omega) (by decide) (by decide) (ble rfl) fun h112 K112 A112 => ?_
    have F85_112 : Ext h80 h112 := ext_keep F85_107 K112 (allS (by omega) all0)
    have A112 : Arv Z h112 a91 k91 .char 53 [.int (c0), .int (c1), .int (c2), .int (58), .int 0, .int 0, .int 0, .int 0, .int 0, .int 0, .int 0, .int 0, .int 0, .int 0, .int 0, .int 0, .int 0, .int 0, .int 0, .int 0, .int 0, .int 0, .int 0, .int 0, .int 0, .int 0, .int 0, .int 0, .int 0, .int 0, .int 0, .int 0, .int 0, .int 0, .int 0, .int 0, .int 0, .int 0, .int 0, .int 0, .int 0, .int 0, .int 0, .int 0, .int 0, .int 0, .int 0, .int 0, .int 0, .int 0, .int 0, .int 0, .int 0] (.int 0) := A112
    refine g_dup (pc' := 114) at_113 rfl rfl ?_
    refine g_iconst (pc' := 115) (w := 4) at_114 rfl (by decide) ?_
    refine g_bipush (pc' := 117) (w := 32) at_115 rfl (by decide) ?_
    refine g_castoreX (pc' := 118) (i := 4) at_117 rfl rfl A112 (by omega) (by decide) (by decide) (ble rfl) fun h117 K117 A117 => ?_
    have F85_117 : Ext h80 h117 := ext_keep F85_112 K117 (allS (by omega) all0)
    have A117 : Arv Z h117 a91 k91 .char 53 [.int (c0), .int (c1), .int (c2), .int (58), .int (32), .int 0, .int 0, .int 0, .int 0, .int 0, .int 0, .int 0, .int 0, .int 0, .int 0, .int 0, .int 0, .int 0, .int 0, .int 0, .int 0, .int 0, .int 0, .int 0, .int 0, .int 0, .int 0, .int 0, .int 0, .int 0, .int 0, .int 0, .int 0, .int 0, .int 0, .int 0, .int 0, .int 0, .int 0, .int 0, .int 0, .int 0, .int 0, .int 0, .int 0, .int 0, .int 0, .int 0, .int 0, .int 0, .int 0, .int 0, .int 0] (.int 0) := A117
    refine g_dup (pc' := 119) at_118 rfl rfl ?_
    refine g_iconst (pc' := 120) (w := 5) at_119 rfl (by decide) ?_
    refine g_bipush (pc' := 122) (w := 116) at_120 rfl (by decide) ?_
    refine g_castoreX (pc' := 123) (i := 5) at_122 rfl rfl A117 (by omega) (by decide) (by decide) (ble rfl) fun h122 K122 A122 => ?_
    have F85_122 : Ext h80 h122 := ext_keep F85_117 K122 (allS (by omega) all0)
    have A122 : Arv Z h122 a91 k91 .char 53 [.int (c0), .int (c1), .int (c2), .int (58), .int (32), .int (116), .int 0, .int 0, .int 0, .int 0, .int 0, .int 0, .int 0, .int 0, .int 0, .int 0, .int 0, .int 0, .int 0, .int 0, .int 0, .int 0, .int 0, .int 0, .int 0, .int 0, .int 0, .int 0, .int 0, .int 0, .int 0, .int 0, .int 0, .int 0, .int 0, .int 0, .int 0, .int 0, .int 0, .int 0, .int 0, .int 0, .int 0, .int 0, .int 0, .int 0, .int 0, .int 0, .int 0, .int 0, .int 0, .int 0, .int 0] (.int 0) := A122
    refine g_dup (pc' := 124) at_123 rfl rfl ?_
    refine g_bipush (pc' := 126) (w := 6) at_124 rfl (by decide) ?_
    refine g_bipush (pc' := 128) (w := 104) at_126 rfl (by decide) ?_
    refine g_castoreX (pc' := 129) (i := 6) at_128 rfl rfl A122 (by omega) (by decide) (by decide) (ble rfl) fun h128 K128 A128 => ?_
    have F85_128 : Ext h80 h128 := ext_keep F85_122 K128 (allS (by omega) all0)
    have A128 : Arv Z h128 a91 k91 .char 53 [.int (c0), .int (c1), .int (c2), .int (58), .int (32), .int (116), .int (104), .int 0, .int 0, .int 0, .int 0, .int 0, .int 0, .int 0, .int 0, .int 0, .int 0, .int 0, .int 0, .int 0, .int 0, .int 0, .int 0, .int 0, .int 0, .int 0, .int 0, .int 0, .int 0, .int 0, .int 0, .int 0, .int 0, .int 0, .int 0, .int 0, .int 0, .int 0, .int 0, .int 0, .int 0, .int 0, .int 0, .int 0, .int 0, .int 0, .int 0, .int 0, .int 0, .int 0, .int 0, .int 0, .int 0] (.int 0) := A128
    refine g_dup (pc' := 130) at_129 rfl rfl ?_
    refine g_bipush (pc' := 132) (w := 7) at_130 rfl (by decide) ?_
    refine g_bipush (pc' := 134) (w := 101) at_132 rfl (by decide) ?_
    refine g_castoreX (pc' := 135) (i := 7) at_134 rfl rfl A128 (by omega) (by decide) (by decide) (ble rfl) fun h134 K134 A134 => ?_
    have F85_134 : Ext h80 h134 := ext_keep F85_128 K134 (allS (by omega) all0)
    have A134 : Arv Z h134 a91 k91 .char 53 [.int (c0), .int (c1), .int (c2), .int (58), .int (32), .int (116), .int (104), .int (101), .int 0, .int 0, .int 0, .int 0, .int 0, .int 0, .int 0, .int 0, .int 0, .int 0, .int 0, .int 0, .int 0, .int 0, .int 0, .int 0, .int 0, .int 0, .int 0, .int 0, .int 0, .int 0, .int 0, .int 0, .int 0, .int 0, .int 0, .int 0, .int 0, .int 0, .int 0, .int 0, .int 0, .int 0, .int 0, .int 0, .int 0, .int 0, .int 0, .int 0, .int 0, .int 0, .int 0, .int 0, .int 0] (.int 0) := A134
    refine g_dup (pc' := 136) at_135 rfl rfl ?_
    refine g_bipush (pc' := 138) (w := 8) at_136 rfl (by decide) ?_
    refine g_bipush (pc' := 140) (w := 32) at_138 rfl (by decide) ?_
    refine g_castoreX (pc' := 141) (i := 8) at_140 rfl rfl A134 (by omega) (by decide) (by decide) (ble rfl) fun h140 K140 A140 => ?_
    have F85_140 : Ext h80 h140 := ext_keep F85_134 K140 (allS (by omega) all0)
    have A140 : Arv Z h140 a91 k91 .char 53 [.int (c0), .int (c1), .int (c2), .int (58), .int (32), .int (116), .int (104), .int (101), .int (32), .int 0, .int 0, .int 0, .int 0, .int 0, .int 0, .int 0, .int 0, .int 0, .int 0, .int 0, .int 0, .int 0, .int 0, .int 0, .int 0, .int 0, .int 0, .int 0, .int 0, .int 0, .int 0, .int 0, .int 0, .int 0, .int 0, .int 0, .int 0, .int 0, .int 0, .int 0, .int 0, .int 0, .int 0, .int 0, .int 0, .int 0, .int 0, .int 0, .int 0, .int 0, .int 0, .int 0, .int 0] (.int 0) := A140
    refine g_dup (pc' := 142) at_141 rfl rfl ?_
    refine g_bipush (pc' := 144) (w := 9) at_142 rfl (by decide) ?_
    refine g_bipush (pc' := 146) (w := 99) at_144 rfl (by decide) ?_
    refine g_castoreX (pc' := 147) (i := 9) at_146 rfl rfl A140 (by omega) (by decide) (by decide) (ble rfl) fun h146 K146 A146 => ?_
    have F85_146 : Ext h80 h146 := ext_keep F85_140 K146 (allS (by omega) all0)
    have A146 : Arv Z h146 a91 k91 .char 53 [.int (c0), .int (c1), .int (c2), .int (58), .int (32), .int (116), .int (104), .int (101), .int (32), .int (99), .int 0, .int 0, .int 0, .int 0, .int 0, .int 0, .int 0, .int 0, .int 0, .int 0, .int 0, .int 0, .int 0, .int 0, .int 0, .int 0, .int 0, .int 0, .int 0, .int 0, .int 0, .int 0, .int 0, .int 0, .int 0, .int 0, .int 0, .int 0, .int 0, .int 0, .int 0, .int 0, .int 0, .int 0, .int 0, .int 0, .int 0, .int 0, .int 0, .int 0, .int 0, .int 0, .int 0] (.int 0) := A146
    refine g_dup (pc' := 148) at_147 rfl rfl ?_
    refine g_bipush (pc' := 150) (w := 10) at_148 rfl (by decide) ?_
    refine g_bipush (pc' := 152) (w := 111) at_150 rfl (by decide) ?_
    refine g_castoreX (pc' := 153) (i := 10) at_152 rfl rfl A146 (by omega) (by decide) (by decide) (ble rfl) fun h152 K152 A152 => ?_
    have F85_152 : Ext h80 h152 := ext_keep F85_146 K152 (allS (by omega) all0)
    have A152 : Arv Z h152 a91 k91 .char 53 [.int (c0), .int (c1), .int (c2), .int (58), .int (32), .int (116), .int (104), .int (101), .int (32), .int (99), .int (111), .int 0, .int 0, .int 0, .int 0, .int 0, .int 0, .int 0, .int 0, .int 0, .int 0, .int 0, .int 0, .int 0, .int 0, .int 0, .int 0, .int 0, .int 0, .int 0, .int 0, .int 0, .int 0, .int 0, .int 0, .int 0, .int 0, .int 0, .int 0, .int 0, .int 0, .int 0, .int 0, .int 0, .int 0, .int 0, .int 0, .int 0, .int 0, .int 0, .int 0, .int 0, .int 0] (.int 0) := A152
    refine g_dup (pc' := 154) at_153 rfl rfl ?_
    refine g_bipush (pc' := 156) (w := 11) at_154 rfl (by decide) ?_
    refine g_bipush (pc' := 158) (w := 110) at_156 rfl (by decide) ?_
    refine g_castoreX (pc' := 159) (i := 11) at_158 rfl rfl A152 (by omega) (by decide) (by decide) (ble rfl) fun h158 K158 A158 => ?_
    have F85_158 : Ext h80 h158 := ext_keep F85_152 K158 (allS (by omega) all0)
    have A158 : Arv Z h158 a91 k91 .char 53 [.int (c0), .int (c1), .int (c2), .int (58), .int (32), .int (116), .int (104), .int (101), .int (32), .int (99), .int (111), .int (110), .int 0, .int 0, .int 0, .int 0, .int 0, .int 0, .int 0, .int 0, .int 0, .int 0, .int 0, .int 0, .int 0, .int 0, .int 0, .int 0, .int 0, .int 0, .int 0, .int 0, .int 0, .int 0, .int 0, .int 0, .int 0, .int 0, .int 0, .int 0, .int 0, .int 0, .int 0, .int 0, .int 0, .int 0, .int 0, .int 0, .int 0, .int 0, .int 0, .int 0, .int 0] (.int 0) := A158
    refine g_dup (pc' := 160) at_159 rfl rfl ?_
    refine g_bipush (pc' := 162) (w := 12) at_160 rfl (by decide) ?_
    refine g_bipush (pc' := 164) (w := 116) at_162 rfl (by decide) ?_
    refine g_castoreX (pc' := 165) (i := 12) at_164 rfl rfl A158 (by omega) (by decide) (by decide) (ble rfl) fun h164 K164 A164 => ?_
    have F85_164 : Ext h80 h164 := ext_keep F85_158 K164 (allS (by omega) all0)
    have A164 : Arv Z h164 a91 k91 .char 53 [.int (c0), .int (c1), .int (c2), .int (58), .int (32), .int (116), .int (104), .int (101), .int (32), .int (99), .int (111), .int (110), .int (116), .int 0, .int 0, .int 0, .int 0, .int 0, .int 0, .int 0, .int 0, .int 0, .int 0, .int 0, .int 0, .int 0, .int 0, .int 0, .int 0, .int 0, .int 0, .int 0, .int 0, .int 0, .int 0, .int 0, .int 0, .int 0, .int 0, .int 0, .int 0, .int 0, .int 0, .int 0, .int 0, .int 0, .int 0, .int 0, .int 0, .int 0, .int 0, .int 0, .int 0] (.int 0) := A164
    refine g_dup (pc' := 166) at_165 rfl rfl ?_
    refine g_bipush (pc' := 168) (w := 13) at_166 rfl (by decide) ?_
    refine g_bipush (pc' := 170) (w := 101) at_168 rfl (by decide) ?_
    refine g_castoreX (pc' := 171) (i := 13) at_170 rfl rfl A164 (by omega) (by decide) (by decide) (ble rfl) fun h170 K170 A170 => ?_
    have F85_170 : Ext h80 h170 := ext_keep F85_164 K170 (allS (by omega) all0)
    have A170 : Arv Z h170 a91 k91 .char 53 [.int (c0), .int (c1), .int (c2), .int (58), .int (32), .int (116), .int (104), .int (101), .int (32), .int (99), .int (111), .int (110), .int (116), .int (101), .int 0, .int 0, .int 0, .int 0, .int 0, .int 0, .int 0, .int 0, .int 0, .int 0, .int 0, .int 0, .int 0, .int 0, .int 0, .int 0, .int 0, .int 0, .int 0, .int 0, .int 0, .int 0, .int 0, .int 0, .int 0, .int 0, .int 0, .int 0, .int 0, .int 0, .int 0, .int 0, .int 0, .int 0, .int 0, .int 0, .int 0, .int 0, .int 0] (.int 0) := A170
    refine g_dup (pc' := 172) at_171 rfl rfl ?_
    refine g_bipush (pc' := 174) (w := 14) at_172 rfl (by decide) ?_
    refine g_bipush (pc' := 176) (w := 120) at_174 rfl (by decide) ?_
    refine g_castoreX (pc' := 177) (i := 14) at_176 rfl rfl A170 (by omega) (by decide) (by decide) (ble rfl) fun h176 K176 A176 => ?_
    have F85_176 : Ext h80 h176 := ext_keep F85_170 K176 (allS (by omega) all0)
    have A176 : Arv Z h176 a91 k91 .char 53 [.int (c0), .int (c1), .int (c2), .int (58), .int (32), .int (116), .int (104), .int (101), .int (32), .int (99), .int (111), .int (110), .int (116), .int (101), .int (120), .int 0, .int 0, .int 0, .int 0, .int 0, .int 0, .int 0, .int 0, .int 0, .int 0, .int 0, .int 0, .int 0, .int 0, .int 0, .int 0, .int 0, .int 0, .int 0, .int 0, .int 0, .int 0, .int 0, .int 0, .int 0, .int 0, .int 0, .int 0, .int 0, .int 0, .int 0, .int 0, .int 0, .int 0, .int 0, .int 0, .int 0, .int 0] (.int 0) := A176
    refine g_dup (pc' := 178) at_177 rfl rfl ?_
    refine g_bipush (pc' := 180) (w := 15) at_178 rfl (by decide) ?_
    refine g_bipush (pc' := 182) (w := 116) at_180 rfl (by decide) ?_
    refine g_castoreX (pc' := 183) (i := 15) at_182 rfl rfl A176 (by omega) (by decide) (by decide) (ble rfl) fun h182 K182 A182 => ?_
    have F85_182 : Ext h80 h182 := ext_keep F85_176 K182 (allS (by omega) all0)
    have A182 : Arv Z h182 a91 k91 .char 53 [.int (c0), .int (c1), .int (c2), .int (58), .int (32), .int (116), .int (104), .int (101), .int (32), .int (99), .int (111), .int (110), .int (116), .int (101), .int (120), .int (116), .int 0, .int 0, .int 0, .int 0, .int 0, .int 0, .int 0, .int 0, .int 0, .int 0, .int 0, .int 0, .int 0, .int 0, .int 0, .int 0, .int 0, .int 0, .int 0, .int 0, .int 0, .int 0, .int 0, .int 0, .int 0, .int 0, .int 0, .int 0, .int 0, .int 0, .int 0, .int 0, .int 0, .int 0, .int 0, .int 0, .int 0] (.int 0) := A182
    refine g_dup (pc' := 184) at_183 rfl rfl ?_
    refine g_bipush (pc' := 186) (w := 16) at_184 rfl (by decide) ?_
    refine g_bipush (pc' := 188) (w := 32) at_186 rfl (by decide) ?_
    refine g_castoreX (pc' := 189) (i := 16) at_188 rfl rfl A182 (by omega) (by decide) (by decide) (ble rfl) fun h188 K188 A188 => ?_
    have F85_188 : Ext h80 h188 := ext_keep F85_182 K188 (allS (by omega) all0)
    have A188 : Arv Z h188 a91 k91 .char 53 [.int (c0), .int (c1), .int (c2), .int (58), .int (32), .int (116), .int (104), .int (101), .int (32), .int (99), .int (111), .int (110), .int (116), .int (101), .int (120), .int (116), .int (32), .int 0, .int 0, .int 0, .int 0, .int 0, .int 0, .int 0, .int 0, .int 0, .int 0, .int 0, .int 0, .int 0, .int 0, .int 0, .int 0, .int 0, .int 0, .int 0, .int 0, .int 0, .int 0, .int 0, .int 0, .int 0, .int 0, .int 0, .int 0, .int 0, .int 0, .int 0, .int 0, .int 0, .int 0, .int 0, .int 0] (.int 0) := A188
    refine g_dup (pc' := 190) at_189 rfl rfl ?_
    refine g_bipush (pc' := 192) (w := 17) at_190 rfl (by decide) ?_
    refine g_bipush (pc' := 194) (w := 104) at_192 rfl (by decide) ?_
    refine g_castoreX (pc' := 195) (i := 17) at_194 rfl rfl A188 (by omega) (by decide) (by decide) (ble rfl) fun h194 K194 A194 => ?_
    have F85_194 : Ext h80 h194 := ext_keep F85_188 K194 (allS (by omega) all0)
    have A194 : Arv Z h194 a91 k91 .char 53 [.int (c0), .int (c1), .int (c2), .int (58), .int (32), .int (116), .int (104), .int (101), .int (32), .int (99), .int (111), .int (110), .int (116), .int (101), .int (120), .int (116), .int (32), .int (104), .int 0, .int 0, .int 0, .int 0, .int 0, .int 0, .int 0, .int 0, .int 0, .int 0, .int 0, .int 0, .int 0, .int 0, .int 0, .int 0, .int 0, .int 0, .int 0, .int 0, .int 0, .int 0, .int 0, .int 0, .int 0, .int 0, .int 0, .int 0, .int 0, .int 0, .int 0, .int 0, .int 0, .int 0, .int 0] (.int 0) := A194
    refine g_dup (pc' := 196) at_195 rfl rfl ?_
    refine g_bipush (pc' := 198) (w := 18) at_196 rfl (by decide) ?_
    refine g_bipush (pc' := 200) (w := 97) at_198 rfl (by decide) ?_
    refine g_castoreX (pc' := 201) (i := 18) at_200 rfl rfl A194 (by omega) (by decide) (by decide) (ble rfl) fun h200 K200 A200 => ?_
    have F85_200 : Ext h80 h200 := ext_keep F85_194 K200 (allS (by omega) all0)
    have A200 : Arv Z h200 a91 k91 .char 53 [.int (c0), .int (c1), .int (c2), .int (58), .int (32), .int (116), .int (104), .int (101), .int (32), .int (99), .int (111), .int (110), .int (116), .int (101), .int (120), .int (116), .int (32), .int (104), .int (97), .int 0, .int 0, .int 0, .int 0, .int 0, .int 0, .int 0, .int 0, .int 0, .int 0, .int 0, .int 0, .int 0, .int 0, .int 0, .int 0, .int 0, .int 0, .int 0, .int 0, .int 0, .int 0, .int 0, .int 0, .int 0, .int 0, .int 0, .int 0, .int 0, .int 0, .int 0, .int 0, .int 0, .int 0] (.int 0) := A200
    refine g_dup (pc' := 202) at_201 rfl rfl ?_
    refine g_bipush (pc' := 204) (w := 19) at_202 rfl (by decide) ?_
    refine g_bipush (pc' := 206) (w := 115) at_204 rfl (by decide) ?_
    refine g_castoreX (pc' := 207) (i := 19) at_206 rfl rfl A200 (by omega) (by decide) (by decide) (ble rfl) fun h206 K206 A206 => ?_
    have F85_206 : Ext h80 h206 := ext_keep F85_200 K206 (allS (by omega) all0)
    have A206 : Arv Z h206 a91 k91 .char 53 [.int (c0), .int (c1), .int (c2), .int (58), .int (32), .int (116), .int (104), .int (101), .int (32), .int (99), .int (111), .int (110), .int (116), .int (101), .int (120), .int (116), .int (32), .int (104), .int (97), .int (115), .int 0, .int 0, .int 0, .int 0, .int 0, .int 0, .int 0, .int 0, .int 0, .int 0, .int 0, .int 0, .int 0, .int 0, .int 0, .int 0, .int 0, .int 0, .int 0, .int 0, .int 0, .int 0, .int 0, .int 0, .int 0, .int 0, .int 0, .int 0, .int 0, .int 0, .int 0, .int 0, .int 0] (.int 0) := A206
    refine g_dup (pc' := 208) at_207 rfl rfl ?_
    refine g_bipush (pc' := 210) (w := 20) at_208 rfl (by decide) ?_
    refine g_bipush (pc' := 212) (w := 32) at_210 rfl (by decide) ?_
    refine g_castoreX (pc' := 213) (i := 20) at_212 rfl rfl A206 (by omega) (by decide) (by decide) (ble rfl) fun h212 K212 A212 => ?_
    have F85_212 : Ext h80 h212 := ext_keep F85_206 K212 (allS (by omega) all0)
    have A212 : Arv Z h212 a91 k91 .char 53 [.int (c0), .int (c1), .int (c2), .int (58), .int (32), .int (116), .int (104), .int (101), .int (32), .int (99), .int (111), .int (110), .int (116), .int (101), .int (120), .int (116), .int (32), .int (104), .int (97), .int (115), .int (32), .int 0, .int 0, .int 0, .int 0, .int 0, .int 0, .int 0, .int 0, .int 0, .int 0, .int 0, .int 0, .int 0, .int 0, .int 0, .int 0, .int 0, .int 0, .int 0, .int 0, .int 0, .int 0, .int 0, .int 0, .int 0, .int 0, .int 0, .int 0, .int 0, .int 0, .int 0, .int 0] (.int 0) := A212
    refine g_dup (pc' := 214) at_213 rfl rfl ?_
    refine g_bipush (pc' := 216) (w := 21) at_214 rfl (by decide) ?_
    refine g_bipush (pc' := 218) (w := 97) at_216 rfl (by decide) ?_
    refine g_castoreX (pc' := 219) (i := 21) at_218 rfl rfl A212 (by omega) (by decide) (by decide) (ble rfl) fun h218 K218 A218 => ?_
    have F85_218 : Ext h80 h218 := ext_keep F85_212 K218 (allS (by omega) all0)
    have A218 : Arv Z h218 a91 k91 .char 53 [.int (c0), .int (c1), .int (c2), .int (58), .int (32), .int (116), .int (104), .int (101), .int (32), .int (99), .int (111), .int (110), .int (116), .int (101), .int (120), .int (116), .int (32), .int (104), .int (97), .int (115), .int (32), .int (97), .int 0, .int 0, .int 0, .int 0, .int 0, .int 0, .int 0, .int 0, .int 0, .int 0, .int 0, .int 0, .int 0, .int 0, .int 0, .int 0, .int 0, .int 0, .int 0, .int 0, .int 0, .int 0, .int 0, .int 0, .int 0, .int 0, .int 0, .int 0, .int 0, .int 0, .int 0] (.int 0) := A218
    refine g_dup (pc' := 220) at_219 rfl rfl ?_
    refine g_bipush (pc' := 222) (w := 22) at_220 rfl (by decide) ?_
    refine g_bipush (pc' := 224) (w := 108) at_222 rfl (by decide) ?_
    refine g_castoreX (pc' := 225) (i := 22) at_224 rfl rfl A218 (by omega) (by decide) (by decide) (ble rfl) fun h224 K224 A224 => ?_
    have F85_224 : Ext h80 h224 := ext_keep F85_218 K224 (allS (by omega) all0)
    have A224 : Arv Z h224 a91 k91 .char 53 [.int (c0), .int (c1), .int (c2), .int (58), .int (32), .int (116), .int (104), .int (101), .int (32), .int (99), .int (111), .int (110), .int (116), .int (101), .int (120), .int (116), .int (32), .int (104), .int (97), .int (115), .int (32), .int (97), .int (108), .int 0, .int 0, .int 0, .int 0, .int 0, .int 0, .int 0, .int 0, .int 0, .int 0, .int 0, .int 0, .int 0, .int 0, .int 0, .int 0, .int 0, .int 0, .int 0, .int 0, .int 0, .int 0, .int 0, .int 0, .int 0, .int 0, .int 0, .int 0, .int 0, .int 0] (.int 0) := A224
    refine g_dup (pc' := 226) at_225 rfl rfl ?_
    refine g_bipush (pc' := 228) (w := 23) at_226 rfl (by decide) ?_
    refine g_bipush (pc' := 230) (w := 114) at_228 rfl (by decide) ?_
    refine g_castoreX (pc' := 231) (i := 23) at_230 rfl rfl A224 (by omega) (by decide) (by decide) (ble rfl) fun h230 K230 A230 => ?_
    have F85_230 : Ext h80 h230 := ext_keep F85_224 K230 (allS (by omega) all0)
    have A230 : Arv Z h230 a91 k91 .char 53 [.int (c0), .int (c1), .int (c2), .int (58), .int (32), .int (116), .int (104), .int (101), .int (32), .int (99), .int (111), .int (110), .int (116), .int (101), .int (120), .int (116), .int (32), .int (104), .int (97), .int (115), .int (32), .int (97), .int (108), .int (114), .int 0, .int 0, .int 0, .int 0, .int 0, .int 0, .int 0, .int 0, .int 0, .int 0, .int 0, .int 0, .int 0, .int 0, .int 0, .int 0, .int 0, .int 0, .int 0, .int 0, .int 0, .int 0, .int 0, .int 0, .int 0, .int 0, .int 0, .int 0, .int 0] (.int 0) := A230
    refine g_dup (pc' := 232) at_231 rfl rfl ?_
    refine g_bipush (pc' := 234) (w := 24) at_232 rfl (by decide) ?_
    refine g_bipush (pc' := 236) (w := 101) at_234 rfl (by decide) ?_
    refine g_castoreX (pc' := 237) (i := 24) at_236 rfl rfl A230 (by omega) (by decide) (by decide) (ble rfl) fun h236 K236 A236 => ?_
    have F85_236 : Ext h80 h236 := ext_keep F85_230 K236 (allS (by omega) all0)
    have A236 : Arv Z h236 a91 k91 .char 53 [.int (c0), .int (c1), .int (c2), .int (58), .int (32), .int (116), .int (104), .int (101), .int (32), .int (99), .int (111), .int (110), .int (116), .int (101), .int (120), .int (116), .int (32), .int (104), .int (97), .int (115), .int (32), .int (97), .int (108), .int (114), .int (101), .int 0, .int 0, .int 0, .int 0, .int 0, .int 0, .int 0, .int 0, .int 0, .int 0, .int 0, .int 0, .int 0, .int 0, .int 0, .int 0, .int 0, .int 0, .int 0, .int 0, .int 0, .int 0, .int 0, .int 0, .int 0, .int 0, .int 0, .int 0] (.int 0) := A236
    refine g_dup (pc' := 238) at_237 rfl rfl ?_
    refine g_bipush (pc' := 240) (w := 25) at_238 rfl (by decide) ?_
    refine g_bipush (pc' := 242) (w := 97) at_240 rfl (by decide) ?_
    refine g_castoreX (pc' := 243) (i := 25) at_242 rfl rfl A236 (by omega) (by decide) (by decide) (ble rfl) fun h242 K242 A242 => ?_
    have F85_242 : Ext h80 h242 := ext_keep F85_236 K242 (allS (by omega) all0)
    have A242 : Arv Z h242 a91 k91 .char 53 [.int (c0), .int (c1), .int (c2), .int (58), .int (32), .int (116), .int (104), .int (101), .int (32), .int (99), .int (111), .int (110), .int (116), .int (101), .int (120), .int (116), .int (32), .int (104), .int (97), .int (115), .int (32), .int (97), .int (108), .int (114), .int (101), .int (97), .int 0, .int 0, .int 0, .int 0, .int 0, .int 0, .int 0, .int 0, .int 0, .int 0, .int 0, .int 0, .int 0, .int 0, .int 0, .int 0, .int 0, .int 0, .int 0, .int 0, .int 0, .int 0, .int 0, .int 0, .int 0, .int 0, .int 0] (.int 0) := A242
    refine g_dup (pc' := 244) at_243 rfl rfl ?_
    refine g_bipush (pc' := 246) (w := 26) at_244 rfl (by decide) ?_
    refine g_bipush (pc' := 248) (w := 100) at_246 rfl (by decide) ?_
    refine g_castoreX (pc' := 249) (i := 26) at_248 rfl rfl A242 (by omega) (by decide) (by decide) (ble rfl) fun h248 K248 A248 => ?_
    have F85_248 : Ext h80 h248 := ext_keep F85_242 K248 (allS (by omega) all0)
    have A248 : Arv Z h248 a91 k91 .char 53 [.int (c0), .int (c1), .int (c2), .int (58), .int (32), .int (116), .int (104), .int (101), .int (32), .int (99), .int (111), .int (110), .int (116), .int (101), .int (120), .int (116), .int (32), .int (104), .int (97), .int (115), .int (32), .int (97), .int (108), .int (114), .int (101), .int (97), .int (100), .int 0, .int 0, .int 0, .int 0, .int 0, .int 0, .int 0, .int 0, .int 0, .int 0, .int 0, .int 0, .int 0, .int 0, .int 0, .int 0, .int 0, .int 0, .int 0, .int 0, .int 0, .int 0, .int 0, .int 0, .int 0, .int 0] (.int 0) := A248
    refine g_dup (pc' := 250) at_249 rfl rfl ?_
    refine g_bipush (pc' := 252) (w := 27) at_250 rfl (by decide) ?_
    refine g_bipush (pc' := 254) (w := 121) at_252 rfl (by decide) ?_
    refine g_castoreX (pc' := 255) (i := 27) at_254 rfl rfl A248 (by omega) (by decide) (by decide) (ble rfl) fun h254 K254 A254 => ?_
    have F85_254 : Ext h80 h254 := ext_keep F85_248 K254 (allS (by omega) all0)
    have A254 : Arv Z h254 a91 k91 .char 53 [.int (c0), .int (c1), .int (c2), .int (58), .int (32), .int (116), .int (104), .int (101), .int (32), .int (99), .int (111), .int (110), .int (116), .int (101), .int (120), .int (116), .int (32), .int (104), .int (97), .int (115), .int (32), .int (97), .int (108), .int (114), .int (101), .int (97), .int (100), .int (121), .int 0, .int 0, .int 0, .int 0, .int 0, .int 0, .int 0, .int 0, .int 0, .int 0, .int 0, .int 0, .int 0, .int 0, .int 0, .int 0, .int 0, .int 0, .int 0, .int 0, .int 0, .int 0, .int 0, .int 0, .int 0] (.int 0) := A254
    refine g_dup (pc' := 256) at_255 rfl rfl ?_
    refine g_bipush (pc' := 258) (w := 28) at_256 rfl (by decide) ?_
    refine g_bipush (pc' := 260) (w := 32) at_258 rfl (by decide) ?_
    refine g_castoreX (pc' := 261) (i := 28) at_260 rfl rfl A254 (by omega) (by decide) (by decide) (ble rfl) fun h260 K260 A260 => ?_
    have F85_260 : Ext h80 h260 := ext_keep F85_254 K260 (allS (by omega) all0)
    have A260 : Arv Z h260 a91 k91 .char 53 [.int (c0), .int (c1), .int (c2), .int (58), .int (32), .int (116), .int (104), .int (101), .int (32), .int (99), .int (111), .int (110), .int (116), .int (101), .int (120), .int (116), .int (32), .int (104), .int (97), .int (115), .int (32), .int (97), .int (108), .int (114), .int (101), .int (97), .int (100), .int (121), .int (32), .int 0, .int 0, .int 0, .int 0, .int 0, .int 0, .int 0, .int 0, .int 0, .int 0, .int 0, .int 0, .int 0, .int 0, .int 0, .int 0, .int 0, .int 0, .int 0, .int 0, .int 0, .int 0, .int 0, .int 0] (.int 0) := A260
    refine g_dup (pc' := 262) at_261 rfl rfl ?_
    refine g_bipush (pc' := 264) (w := 29) at_262 rfl (by decide) ?_
    refine g_bipush (pc' := 266) (w := 98) at_264 rfl (by decide) ?_
    refine g_castoreX (pc' := 267) (i := 29) at_266 rfl rfl A260 (by omega) (by decide) (by decide) (ble rfl) fun h266 K266 A266 => ?_
    have F85_266 : Ext h80 h266 := ext_keep F85_260 K266 (allS (by omega) all0)
    have A266 : Arv Z h266 a91 k91 .char 53 [.int (c0), .int (c1), .int (c2), .int (58), .int (32), .int (116), .int (104), .int (101), .int (32), .int (99), .int (111), .int (110), .int (116), .int (101), .int (120), .int (116), .int (32), .int (104), .int (97), .int (115), .int (32), .int (97), .int (108), .int (114), .int (101), .int (97), .int (100), .int (121), .int (32), .int (98), .int 0, .int 0, .int 0, .int 0, .int 0, .int 0, .int 0, .int 0, .int 0, .int 0, .int 0, .int 0, .int 0, .int 0, .int 0, .int 0, .int 0, .int 0, .int 0, .int 0, .int 0, .int 0, .int 0] (.int 0) := A266
    refine g_dup (pc' := 268) at_267 rfl rfl ?_
    refine g_bipush (pc' := 270) (w := 30) at_268 rfl (by decide) ?_
    refine g_bipush (pc' := 272) (w := 101) at_270 rfl (by decide) ?_
    refine g_castoreX (pc' := 273) (i := 30) at_272 rfl rfl A266 (by omega) (by decide) (by decide) (ble rfl) fun h272 K272 A272 => ?_
    have F85_272 : Ext h80 h272 := ext_keep F85_266 K272 (allS (by omega) all0)
    have A272 : Arv Z h272 a91 k91 .char 53 [.int (c0), .int (c1), .int (c2), .int (58), .int (32), .int (116), .int (104), .int (101), .int (32), .int (99), .int (111), .int (110), .int (116), .int (101), .int (120), .int (116), .int (32), .int (104), .int (97), .int (115), .int (32), .int (97), .int (108), .int (114), .int (101), .int (97), .int (100), .int (121), .int (32), .int (98), .int (101), .int 0, .int 0, .int 0, .int 0, .int 0, .int 0, .int 0, .int 0, .int 0, .int 0, .int 0, .int 0, .int 0, .int 0, .int 0, .int 0, .int 0, .int 0, .int 0, .int 0, .int 0, .int 0] (.int 0) := A272
    refine g_dup (pc' := 274) at_273 rfl rfl ?_
    refine g_bipush (pc' := 276) (w := 31) at_274 rfl (by decide) ?_
    refine g_bipush (pc' := 278) (w := 101) at_276 rfl (by decide) ?_
    refine g_castoreX (pc' := 279) (i := 31) at_278 rfl rfl A272 (by omega) (by decide) (by decide) (ble rfl) fun h278 K278 A278 => ?_
    have F85_278 : Ext h80 h278 := ext_keep F85_272 K278 (allS (by omega) all0)
    have A278 : Arv Z h278 a91 k91 .char 53 [.int (c0), .int (c1), .int (c2), .int (58), .int (32), .int (116), .int (104), .int (101), .int (32), .int (99), .int (111), .int (110), .int (116), .int (101), .int (120), .int (116), .int (32), .int (104), .int (97), .int (115), .int (32), .int (97), .int (108), .int (114), .int (101), .int (97), .int (100), .int (121), .int (32), .int (98), .int (101), .int (101), .int 0, .int 0, .int 0, .int 0, .int 0, .int 0, .int 0, .int 0, .int 0, .int 0, .int 0, .int 0, .int 0, .int 0, .int 0, .int 0, .int 0, .int 0, .int 0, .int 0, .int 0] (.int 0) := A278
    refine g_dup (pc' := 280) at_279 rfl rfl ?_
    refine g_bipush (pc' := 282) (w := 32) at_280 rfl (by decide) ?_
    refine g_bipush (pc' := 284) (w := 110) at_282 rfl (by decide) ?_
    refine g_castoreX (pc' := 285) (i := 32) at_284 rfl rfl A278 (by omega) (by decide) (by decide) (ble rfl) fun h284 K284 A284 => ?_
    have F85_284 : Ext h80 h284 := ext_keep F85_278 K284 (allS (by omega) all0)
    have A284 : Arv Z h284 a91 k91 .char 53 [.int (c0), .int (c1), .int (c2), .int (58), .int (32), .int (116), .int (104), .int (101), .int (32), .int (99), .int (111), .int (110), .int (116), .int (101), .int (120), .int (116), .int (32), .int (104), .int (97), .int (115), .int (32), .int (97), .int (108), .int (114), .int (101), .int (97), .int (100), .int (121), .int (32), .int (98), .int (101), .int (101), .int (110), .int 0, .int 0, .int 0, .int 0, .int 0, .int 0, .int 0, .int 0, .int 0, .int 0, .int 0, .int 0, .int 0, .int 0, .int 0, .int 0, .int 0, .int 0, .int 0, .int 0] (.int 0) := A284
    refine g_dup (pc' := 286) at_285 rfl rfl ?_
    refine g_bipush (pc' := 288) (w := 33) at_286 rfl (by decide) ?_
    refine g_bipush (pc' := 290) (w := 32) at_288 rfl (by decide) ?_
    refine g_castoreX (pc' := 291) (i := 33) at_290 rfl rfl A284 (by omega) (by decide) (by decide) (ble rfl) fun h290 K290 A290 => ?_
    have F85_290 : Ext h80 h290 := ext_keep F85_284 K290 (allS (by omega) all0)
    have A290 : Arv Z h290 a91 k91 .char 53 [.int (c0), .int (c1), .int (c2), .int (58), .int (32), .int (116), .int (104), .int (101), .int (32), .int (99), .int (111), .int (110), .int (116), .int (101), .int (120), .int (116), .int (32), .int (104), .int (97), .int (115), .int (32), .int (97), .int (108), .int (114), .int (101), .int (97), .int (100), .int (121), .int (32), .int (98), .int (101), .int (101), .int (110), .int (32), .int 0, .int 0, .int 0, .int 0, .int 0, .int 0, .int 0, .int 0, .int 0, .int 0, .int 0, .int 0, .int 0, .int 0, .int 0, .int 0, .int 0, .int 0, .int 0] (.int 0) := A290
    refine g_dup (pc' := 292) at_291 rfl rfl ?_
    refine g_bipush (pc' := 294) (w := 34) at_292 rfl (by decide) ?_
    refine g_bipush (pc' := 296) (w := 114) at_294 rfl (by decide) ?_
    refine g_castoreX (pc' := 297) (i := 34) at_296 rfl rfl A290 (by omega) (by decide) (by decide) (ble rfl) fun h296 K296 A296 => ?_
    have F85_296 : Ext h80 h296 := ext_keep F85_290 K296 (allS (by omega) all0)
    have A296 : Arv Z h296 a91 k91 .char 53 [.int (c0), .int (c1), .int (c2), .int (58), .int (32), .int (116), .int (104), .int (101), .int (32), .int (99), .int (111), .int (110), .int (116), .int (101), .int (120), .int (116), .int (32), .int (104), .int (97), .int (115), .int (32), .int (97), .int (108), .int (114), .int (101), .int (97), .int (100), .int (121), .int (32), .int (98), .int (101), .int (101), .int (110), .int (32), .int (114), .int 0, .int 0, .int 0, .int 0, .int 0, .int 0, .int 0, .int 0, .int 0, .int 0, .int 0, .int 0, .int 0, .int 0, .int 0, .int 0, .int 0, .int 0] (.int 0) := A296
    refine g_dup (pc' := 298) at_297 rfl rfl ?_
    refine g_bipush (pc' := 300) (w := 35) at_298 rfl (by decide) ?_
    refine g_bipush (pc' := 302) (w := 101) at_300 rfl (by decide) ?_
    refine g_castoreX (pc' := 303) (i := 35) at_302 rfl rfl A296 (by omega) (by decide) (by decide) (ble rfl) fun h302 K302 A302 => ?_
    have F85_302 : Ext h80 h302 := ext_keep F85_296 K302 (allS (by omega) all0)
    have A302 : Arv Z h302 a91 k91 .char 53 [.int (c0), .int (c1), .int (c2), .int (58), .int (32), .int (116), .int (104), .int (101), .int (32), .int (99), .int (111), .int (110), .int (116), .int (101), .int (120), .int (116), .int (32), .int (104), .int (97), .int (115), .int (32), .int (97), .int (108), .int (114), .int (101), .int (97), .int (100), .int (121), .int (32), .int (98), .int (101), .int (101), .int (110), .int (32), .int (114), .int (101), .int 0, .int 0, .int 0, .int 0, .int 0, .int 0, .int 0, .int 0, .int 0, .int 0, .int 0, .int 0, .int 0, .int 0, .int 0, .int 0, .int 0] (.int 0) := A302
    refine g_dup (pc' := 304) at_303 rfl rfl ?_
    refine g_bipush (pc' := 306) (w := 36) at_304 rfl (by decide) ?_
    refine g_bipush (pc' := 308) (w := 102) at_306 rfl (by decide) ?_
    refine g_castoreX (pc' := 309) (i := 36) at_308 rfl rfl A302 (by omega) (by decide) (by decide) (ble rfl) fun h308 K308 A308 => ?_
    have F85_308 : Ext h80 h308 := ext_keep F85_302 K308 (allS (by omega) all0)
    have A308 : Arv Z h308 a91 k91 .char 53 [.int (c0), .int (c1), .int (c2), .int (58), .int (32), .int (116), .int (104), .int (101), .int (32), .int (99), .int (111), .int (110), .int (116), .int (101), .int (120), .int (116), .int (32), .int (104), .int (97), .int (115), .int (32), .int (97), .int (108), .int (114), .int (101), .int (97), .int (100), .int (121), .int (32), .int (98), .int (101), .int (101), .int (110), .int (32), .int (114), .int (101), .int (102), .int 0, .int 0, .int 0, .int 0, .int 0, .int 0, .int 0, .int 0, .int 0, .int 0, .int 0, .int 0, .int 0, .int 0, .int 0, .int 0] (.int 0) := A308
    refine g_dup (pc' := 310) at_309 rfl rfl ?_
    refine g_bipush (pc' := 312) (w := 37) at_310 rfl (by decide) ?_
    refine g_bipush (pc' := 314) (w := 114) at_312 rfl (by decide) ?_
    refine g_castoreX (pc' := 315) (i := 37) at_314 rfl rfl A308 (by omega) (by decide) (by decide) (ble rfl) fun h314 K314 A314 => ?_
    have F85_314 : Ext h80 h314 := ext_keep F85_308 K314 (allS (by omega) all0)
    have A314 : Arv Z h314 a91 k91 .char 53 [.int (c0), .int (c1), .int (c2), .int (58), .int (32), .int (116), .int (104), .int (101), .int (32), .int (99), .int (111), .int (110), .int (116), .int (101), .int (120), .int (116), .int (32), .int (104), .int (97), .int (115), .int (32), .int (97), .int (108), .int (114), .int (101), .int (97), .int (100), .int (121), .int (32), .int (98), .int (101), .int (101), .int (110), .int (32), .int (114), .int (101), .int (102), .int (114), .int 0, .int 0, .int 0, .int 0, .int 0, .int 0, .int 0, .int 0, .int 0, .int 0, .int 0, .int 0, .int 0, .int 0, .int 0] (.int 0) := A314
    refine g_dup (pc' := 316) at_315 rfl rfl ?_
    refine g_bipush (pc' := 318) (w := 38) at_316 rfl (by decide) ?_
    refine g_bipush (pc' := 320) (w := 101) at_318 rfl (by decide) ?_
    refine g_castoreX (pc' := 321) (i := 38) at_320 rfl rfl A314 (by omega) (by decide) (by decide) (ble rfl) fun h320 K320 A320 => ?_
    have F85_320 : Ext h80 h320 := ext_keep F85_314 K320 (allS (by omega) all0)
    have A320 : Arv Z h320 a91 k91 .char 53 [.int (c0), .int (c1), .int (c2), .int (58), .int (32), .int (116), .int (104), .int (101), .int (32), .int (99), .int (111), .int (110), .int (116), .int (101), .int (120), .int (116), .int (32), .int (104), .int (97), .int (115), .int (32), .int (97), .int (108), .int (114), .int (101), .int (97), .int (100), .int (121), .int (32), .int (98), .int (101), .int (101), .int (110), .int (32), .int (114), .int (101), .int (102), .int (114), .int (101), .int 0, .int 0, .int 0, .int 0, .int 0, .int 0, .int 0, .int 0, .int 0, .int 0, .int 0, .int 0, .int 0, .int 0] (.int 0) := A320
    refine g_dup (pc' := 322) at_321 rfl rfl ?_
    refine g_bipush (pc' := 324) (w := 39) at_322 rfl (by decide) ?_
    refine g_bipush (pc' := 326) (w := 115) at_324 rfl (by decide) ?_
    refine g_castoreX (pc' := 327) (i := 39) at_326 rfl rfl A320 (by omega) (by decide) (by decide) (ble rfl) fun h326 K326 A326 => ?_
    have F85_326 : Ext h80 h326 := ext_keep F85_320 K326 (allS (by omega) all0)
    have A326 : Arv Z h326 a91 k91 .char 53 [.int (c0), .int (c1), .int (c2), .int (58), .int (32), .int (116), .int (104), .int (101), .int (32), .int (99), .int (111), .int (110), .int (116), .int (101), .int (120), .int (116), .int (32), .int (104), .int (97), .int (115), .int (32), .int (97), .int (108), .int (114), .int (101), .int (97), .int (100), .int (121), .int (32), .int (98), .int (101), .int (101), .int (110), .int (32), .int (114), .int (101), .int (102), .int (114), .int (101), .int (115), .int 0, .int 0, .int 0, .int 0, .int 0, .int 0, .int 0, .int 0, .int 0, .int 0, .int 0, .int 0, .int 0] (.int 0) := A326
    refine g_dup (pc' := 328) at_327 rfl rfl ?_
    refine g_bipush (pc' := 330) (w := 40) at_328 rfl (by decide) ?_
    refine g_bipush (pc' := 332) (w := 104) at_330 rfl (by decide) ?_
    refine g_castoreX (pc' := 333) (i := 40) at_332 rfl rfl A326 (by omega) (by decide) (by decide) (ble rfl) fun h332 K332 A332 => ?_
    have F85_332 : Ext h80 h332 := ext_keep F85_326 K332 (allS (by omega) all0)
    have A332 : Arv Z h332 a91 k91 .char 53 [.int (c0), .int (c1), .int (c2), .int (58), .int (32), .int (116), .int (104), .int (101), .int (32), .int (99), .int (111), .int (110), .int (116), .int (101), .int (120), .int (116), .int (32), .int (104), .int (97), .int (115), .int (32), .int (97), .int (108), .int (114), .int (101), .int (97), .int (100), .int (121), .int (32), .int (98), .int (101), .int (101), .int (110), .int (32), .int (114), .int (101), .int (102), .int (114), .int (101), .int (115), .int (104), .int 0, .int 0, .int 0, .int 0, .int 0, .int 0, .int 0, .int 0, .int 0, .int 0, .int 0, .int 0] (.int 0) := A332
    refine g_dup (pc' := 334) at_333 rfl rfl ?_
    refine g_bipush (pc' := 336) (w := 41) at_334 rfl (by decide) ?_
    refine g_bipush (pc' := 338) (w := 101) at_336 rfl (by decide) ?_
    refine g_castoreX (pc' := 339) (i := 41) at_338 rfl rfl A332 (by omega) (by decide) (by decide) (ble rfl) fun h338 K338 A338 => ?_
    have F85_338 : Ext h80 h338 := ext_keep F85_332 K338 (allS (by omega) all0)
    have A338 : Arv Z h338 a91 k91 .char 53 [.int (c0), .int (c1), .int (c2), .int (58), .int (32), .int (116), .int (104), .int (101), .int (32), .int (99), .int (111), .int (110), .int (116), .int (101), .int (120), .int (116), .int (32), .int (104), .int (97), .int (115), .int (32), .int (97), .int (108), .int (114), .int (101), .int (97), .int (100), .int (121), .int (32), .int (98), .int (101), .int (101), .int (110), .int (32), .int (114), .int (101), .int (102), .int (114), .int (101), .int (115), .int (104), .int (101), .int 0, .int 0, .int 0, .int 0, .int 0, .int 0, .int 0, .int 0, .int 0, .int 0, .int 0] (.int 0) := A338
    refine g_dup (pc' := 340) at_339 rfl rfl ?_
    refine g_bipush (pc' := 342) (w := 42) at_340 rfl (by decide) ?_
    refine g_bipush (pc' := 344) (w := 100) at_342 rfl (by decide) ?_
    refine g_castoreX (pc' := 345) (i := 42) at_344 rfl rfl A338 (by omega) (by decide) (by decide) (ble rfl) fun h344 K344 A344 => ?_
    have F85_344 : Ext h80 h344 := ext_keep F85_338 K344 (allS (by omega) all0)
    have A344 : Arv Z h344 a91 k91 .char 53 [.int (c0), .int (c1), .int (c2), .int (58), .int (32), .int (116), .int (104), .int (101), .int (32), .int (99), .int (111), .int (110), .int (116), .int (101), .int (120), .int (116), .int (32), .int (104), .int (97), .int (115), .int (32), .int (97), .int (108), .int (114), .int (101), .int (97), .int (100), .int (121), .int (32), .int (98), .int (101), .int (101), .int (110), .int (32), .int (114), .int (101), .int (102), .int (114), .int (101), .int (115), .int (104), .int (101), .int (100), .int 0, .int 0, .int 0, .int 0, .int 0, .int 0, .int 0, .int 0, .int 0, .int 0] (.int 0) := A344
    refine g_dup (pc' := 346) at_345 rfl rfl ?_
    refine g_bipush (pc' := 348) (w := 43) at_346 rfl (by decide) ?_
    refine g_bipush (pc' := 350) (w := 32) at_348 rfl (by decide) ?_
    refine g_castoreX (pc' := 351) (i := 43) at_350 rfl rfl A344 (by omega) (by decide) (by decide) (ble rfl) fun h350 K350 A350 => ?_
    have F85_350 : Ext h80 h350 := ext_keep F85_344 K350 (allS (by omega) all0)
    have A350 : Arv Z h350 a91 k91 .char 53 [.int (c0), .int (c1), .int (c2), .int (58), .int (32), .int (116), .int (104), .int (101), .int (32), .int (99), .int (111), .int (110), .int (116), .int (101), .int (120), .int (116), .int (32), .int (104), .int (97), .int (115), .int (32), .int (97), .int (108), .int (114), .int (101), .int (97), .int (100), .int (121), .int (32), .int (98), .int (101), .int (101), .int (110), .int (32), .int (114), .int (101), .int (102), .int (114), .int (101), .int (115), .int (104), .int (101), .int (100), .int (32), .int 0, .int 0, .int 0, .int 0, .int 0, .int 0, .int 0, .int 0, .int 0] (.int 0) := A350
    refine g_dup (pc' := 352) at_351 rfl rfl ?_
    refine g_bipush (pc' := 354) (w := 44) at_352 rfl (by decide) ?_
    refine g_bipush (pc' := 356) (w := 111) at_354 rfl (by decide) ?_
    refine g_castoreX (pc' := 357) (i := 44) at_356 rfl rfl A350 (by omega) (by decide) (by decide) (ble rfl) fun h356 K356 A356 => ?_
    have F85_356 : Ext h80 h356 := ext_keep F85_350 K356 (allS (by omega) all0)
    have A356 : Arv Z h356 a91 k91 .char 53 [.int (c0), .int (c1), .int (c2), .int (58), .int (32), .int (116), .int (104), .int (101), .int (32), .int (99), .int (111), .int (110), .int (116), .int (101), .int (120), .int (116), .int (32), .int (104), .int (97), .int (115), .int (32), .int (97), .int (108), .int (114), .int (101), .int (97), .int (100), .int (121), .int (32), .int (98), .int (101), .int (101), .int (110), .int (32), .int (114), .int (101), .int (102), .int (114), .int (101), .int (115), .int (104), .int (101), .int (100), .int (32), .int (111), .int 0, .int 0, .int 0, .int 0, .int 0, .int 0, .int 0, .int 0] (.int 0) := A356
    refine g_dup (pc' := 358) at_357 rfl rfl ?_
    refine g_bipush (pc' := 360) (w := 45) at_358 rfl (by decide) ?_
    refine g_bipush (pc' := 362) (w := 114) at_360 rfl (by decide) ?_
    refine g_castoreX (pc' := 363) (i := 45) at_362 rfl rfl A356 (by omega) (by decide) (by decide) (ble rfl) fun h362 K362 A362 => ?_
    have F85_362 : Ext h80 h362 := ext_keep F85_356 K362 (allS (by omega) all0)
    have A362 : Arv Z h362 a91 k91 .char 53 [.int (c0), .int (c1), .int (c2), .int (58), .int (32), .int (116), .int (104), .int (101), .int (32), .int (99), .int (111), .int (110), .int (116), .int (101), .int (120), .int (116), .int (32), .int (104), .int (97), .int (115), .int (32), .int (97), .int (108), .int (114), .int (101), .int (97), .int (100), .int (121), .int (32), .int (98), .int (101), .int (101), .int (110), .int (32), .int (114), .int (101), .int (102), .int (114), .int (101), .int (115), .int (104), .int (101), .int (100), .int (32), .int (111), .int (114), .int 0, .int 0, .int 0, .int 0, .int 0, .int 0, .int 0] (.int 0) := A362
    refine g_dup (pc' := 364) at_363 rfl rfl ?_
    refine g_bipush (pc' := 366) (w := 46) at_364 rfl (by decide) ?_
    refine g_bipush (pc' := 368) (w := 32) at_366 rfl (by decide) ?_
    refine g_castoreX (pc' := 369) (i := 46) at_368 rfl rfl A362 (by omega) (by decide) (by decide) (ble rfl) fun h368 K368 A368 => ?_
    have F85_368 : Ext h80 h368 := ext_keep F85_362 K368 (allS (by omega) all0)
    have A368 : Arv Z h368 a91 k91 .char 53 [.int (c0), .int (c1), .int (c2), .int (58), .int (32), .int (116), .int (104), .int (101), .int (32), .int (99), .int (111), .int (110), .int (116), .int (101), .int (120), .int (116), .int (32), .int (104), .int (97), .int (115), .int (32), .int (97), .int (108), .int (114), .int (101), .int (97), .int (100), .int (121), .int (32), .int (98), .int (101), .int (101), .int (110), .int (32), .int (114), .int (101), .int (102), .int (114), .int (101), .int (115), .int (104), .int (101), .int (100), .int (32), .int (111), .int (114), .int (32), .int 0, .int 0, .int 0, .int 0, .int 0, .int 0] (.int 0) := A368
    refine g_dup (pc' := 370) at_369 rfl rfl ?_
    refine g_bipush (pc' := 372) (w := 47) at_370 rfl (by decide) ?_
    refine g_bipush (pc' := 374) (w := 99) at_372 rfl (by decide) ?_
    refine g_castoreX (pc' := 375) (i := 47) at_374 rfl rfl A368 (by omega) (by decide) (by decide) (ble rfl) fun h374 K374 A374 => ?_
    have F85_374 : Ext h80 h374 := ext_keep F85_368 K374 (allS (by omega) all0)
    have A374 : Arv Z h374 a91 k91 .char 53 [.int (c0), .int (c1), .int (c2), .int (58), .int (32), .int (116), .int (104), .int (101), .int (32), .int (99), .int (111), .int (110), .int (116), .int (101), .int (120), .int (116), .int (32), .int (104), .int (97), .int (115), .int (32), .int (97), .int (108), .int (114), .int (101), .int (97), .int (100), .int (121), .int (32), .int (98), .int (101), .int (101), .int (110), .int (32), .int (114), .int (101), .int (102), .int (114), .int (101), .int (115), .int (104), .int (101), .int (100), .int (32), .int (111), .int (114), .int (32), .int (99), .int 0, .int 0, .int 0, .int 0, .int 0] (.int 0) := A374
    refine g_dup (pc' := 376) at_375 rfl rfl ?_
    refine g_bipush (pc' := 378) (w := 48) at_376 rfl (by decide) ?_
    refine g_bipush (pc' := 380) (w := 108) at_378 rfl (by decide) ?_
    refine g_castoreX (pc' := 381) (i := 48) at_380 rfl rfl A374 (by omega) (by decide) (by decide) (ble rfl) fun h380 K380 A380 => ?_
    have F85_380 : Ext h80 h380 := ext_keep F85_374 K380 (allS (by omega) all0)
    have A380 : Arv Z h380 a91 k91 .char 53 [.int (c0), .int (c1), .int (c2), .int (58), .int (32), .int (116), .int (104), .int (101), .int (32), .int (99), .int (111), .int (110), .int (116), .int (101), .int (120), .int (116), .int (32), .int (104), .int (97), .int (115), .int (32), .int (97), .int (108), .int (114), .int (101), .int (97), .int (100), .int (121), .int (32), .int (98), .int (101), .int (101), .int (110), .int (32), .int (114), .int (101), .int (102), .int (114), .int (101), .int (115), .int (104), .int (101), .int (100), .int (32), .int (111), .int (114), .int (32), .int (99), .int (108), .int 0, .int 0, .int 0, .int 0] (.int 0) := A380
    refine g_dup (pc' := 382) at_381 rfl rfl ?_
    refine g_bipush (pc' := 384) (w := 49) at_382 rfl (by decide) ?_
    refine g_bipush (pc' := 386) (w := 111) at_384 rfl (by decide) ?_
    refine g_castoreX (pc' := 387) (i := 49) at_386 rfl rfl A380 (by omega) (by decide) (by decide) (ble rfl) fun h386 K386 A386 => ?_
    have F85_386 : Ext h80 h386 := ext_keep F85_380 K386 (allS (by omega) all0)
    have A386 : Arv Z h386 a91 k91 .char 53 [.int (c0), .int (c1), .int (c2), .int (58), .int (32), .int (116), .int (104), .int (101), .int (32), .int (99), .int (111), .int (110), .int (116), .int (101), .int (120), .int (116), .int (32), .int (104), .int (97), .int (115), .int (32), .int (97), .int (108), .int (114), .int (101), .int (97), .int (100), .int (121), .int (32), .int (98), .int (101), .int (101), .int (110), .int (32), .int (114), .int (101), .int (102), .int (114), .int (101), .int (115), .int (104), .int (101), .int (100), .int (32), .int (111), .int (114), .int (32), .int (99), .int (108), .int (111), .int 0, .int 0, .int 0] (.int 0) := A386
    refine g_dup (pc' := 388) at_387 rfl rfl ?_
    refine g_bipush (pc' := 390) (w := 50) at_388 rfl (by decide) ?_
    refine g_bipush (pc' := 392) (w := 115) at_390 rfl (by decide) ?_
    refine g_castoreX (pc' := 393) (i := 50) at_392 rfl rfl A386 (by omega) (by decide) (by decide) (ble rfl) fun h392 K392 A392 => ?_
    have F85_392 : Ext h80 h392 := ext_keep F85_386 K392 (allS (by omega) all0)
    have A392 : Arv Z h392 a91 k91 .char 53 [.int (c0), .int (c1), .int (c2), .int (58), .int (32), .int (116), .int (104), .int (101), .int (32), .int (99), .int (111), .int (110), .int (116), .int (101), .int (120), .int (116), .int (32), .int (104), .int (97), .int (115), .int (32), .int (97), .int (108), .int (114), .int (101), .int (97), .int (100), .int (121), .int (32), .int (98), .int (101), .int (101), .int (110), .int (32), .int (114), .int (101), .int (102), .int (114), .int (101), .int (115), .int (104), .int (101), .int (100), .int (32), .int (111), .int (114), .int (32), .int (99), .int (108), .int (111), .int (115), .int 0, .int 0] (.int 0) := A392
    refine g_dup (pc' := 394) at_393 rfl rfl ?_
    refine g_bipush (pc' := 396) (w := 51) at_394 rfl (by decide) ?_
    refine g_bipush (pc' := 398) (w := 101) at_396 rfl (by decide) ?_
    refine g_castoreX (pc' := 399) (i := 51) at_398 rfl rfl A392 (by omega) (by decide) (by decide) (ble rfl) fun h398 K398 A398 => ?_
    have F85_398 : Ext h80 h398 := ext_keep F85_392 K398 (allS (by omega) all0)
    have A398 : Arv Z h398 a91 k91 .char 53 [.int (c0), .int (c1), .int (c2), .int (58), .int (32), .int (116), .int (104), .int (101), .int (32), .int (99), .int (111), .int (110), .int (116), .int (101), .int (120), .int (116), .int (32), .int (104), .int (97), .int (115), .int (32), .int (97), .int (108), .int (114), .int (101), .int (97), .int (100), .int (121), .int (32), .int (98), .int (101), .int (101), .int (110), .int (32), .int (114), .int (101), .int (102), .int (114), .int (101), .int (115), .int (104), .int (101), .int (100), .int (32), .int (111), .int (114), .int (32), .int (99), .int (108), .int (111), .int (115), .int (101), .int 0] (.int 0) := A398
    refine g_dup (pc' := 400) at_399 rfl rfl ?_
    refine g_bipush (pc' := 402) (w := 52) at_400 rfl (by decide) ?_
    refine g_bipush (pc' := 404) (w := 100) at_402 rfl (by decide) ?_
    refine g_castoreX (pc' := 405) (i := 52) at_404 rfl rfl A398 (by omega) (by decide) (by decide) (ble rfl) fun h404 K404 A404 => ?_
    have F85_404 : Ext h80 h404 := ext_keep F85_398 K404 (allS (by omega) all0)
    have A404 : Arv Z h404 a91 k91 .char 53 [.int (c0), .int (c1), .int (c2), .int (58), .int (32), .int (116), .int (104), .int (101), .int (32), .int (99), .int (111), .int (110), .int (116), .int (101), .int (120), .int (116), .int (32), .int (104), .int (97), .int (115), .int (32), .int (97), .int (108), .int (114), .int (101), .int (97), .int (100), .int (121), .int (32), .int (98), .int (101), .int (101), .int (110), .int (32), .int (114), .int (101), .int (102), .int (114), .int (101), .int (115), .int (104), .int (101), .int (100), .int (32), .int (111), .int (114), .int (32), .int (99), .int (108), .int (111), .int (115), .int (101), .int (100)] (.int 0) := A404
    refine g_invokespecial (pc' := 408) [a85] [_] at_405 rfl rfl (wl_ContextSetUpAlreadyPinLaw_10 hw) (wm_String_init_lACrV hw) (wb_String_init_lACrV hw) (by decide) (pay_newAny (cs := [c0, c1, c2, 58, 32, 116, 104, 101, 32, 99, 111, 110, 116, 101, 120, 116, 32, 104, 97, 115, 32, 97, 108, 114, 101, 97, 100, 121, 32, 98, 101, 101, 110, 32, 114, 101, 102, 114, 101, 115, 104, 101, 100, 32, 111, 114, 32, 99, 108, 111, 115, 101, 100]) (M := 53) hw U S hz (ext_trans (EZ2) F85_404) rfl (ble rfl) (ble rfl) (ble rfl) (fun c q => (List.mem_append (s := [c0, c1, c2]) (t := suf)).mp q |>.elim (hp3 c) (up255 suf255 c)) (by omega) (((((((((((((((((((((((((((((((((((((((((((((((((((((((A85).ext E91).keep K97).keep K102).keep K107).keep K112).keep K117).keep K122).keep K128).keep K134).keep K140).keep K146).keep K152).keep K158).keep K164).keep K170).keep K176).keep K182).keep K188).keep K194).keep K200).keep K206).keep K212).keep K218).keep K224).keep K230).keep K236).keep K242).keep K248).keep K254).keep K260).keep K266).keep K272).keep K278).keep K284).keep K290).keep K296).keep K302).keep K308).keep K314).keep K320).keep K326).keep K332).keep K338).keep K344).keep K350).keep K356).keep K362).keep K368).keep K374).keep K380).keep K386).keep K392).keep K398).keep K404) (((((((((((((((((((((((((((((((((((((((((((((((((((((((D85 (Or.inr (wy_String_String_value hw)) (ty := .array .byte) (by decide)).ext E91).keep K97 (ninS y85 nin0)).keep K102 (ninS y85 nin0)).keep K107 (ninS y85 nin0)).keep K112 (ninS y85 nin0)).keep K117 (ninS y85 nin0)).keep K122 (ninS y85 nin0)).keep K128 (ninS y85 nin0)).keep K134 (ninS y85 nin0)).keep K140 (ninS y85 nin0)).keep K146 (ninS y85 nin0)).keep K152 (ninS y85 nin0)).keep K158 (ninS y85 nin0)).keep K164 (ninS y85 nin0)).keep K170 (ninS y85 nin0)).keep K176 (ninS y85 nin0)).keep K182 (ninS y85 nin0)).keep K188 (ninS y85 nin0)).keep K194 (ninS y85 nin0)).keep K200 (ninS y85 nin0)).keep K206 (ninS y85 nin0)).keep K212 (ninS y85 nin0)).keep K218 (ninS y85 nin0)).keep K224 (ninS y85 nin0)).keep K230 (ninS y85 nin0)).keep K236 (ninS y85 nin0)).keep K242 (ninS y85 nin0)).keep K248 (ninS y85 nin0)).keep K254 (ninS y85 nin0)).keep K260 (ninS y85 nin0)).keep K266 (ninS y85 nin0)).keep K272 (ninS y85 nin0)).keep K278 (ninS y85 nin0)).keep K284 (ninS y85 nin0)).keep K290 (ninS y85 nin0)).keep K296 (ninS y85 nin0)).keep K302 (ninS y85 nin0)).keep K308 (ninS y85 nin0)).keep K314 (ninS y85 nin0)).keep K320 (ninS y85 nin0)).keep K326 (ninS y85 nin0)).keep K332 (ninS y85 nin0)).keep K338 (ninS y85 nin0)).keep K344 (ninS y85 nin0)).keep K350 (ninS y85 nin0)).keep K356 (ninS y85 nin0)).keep K362 (ninS y85 nin0)).keep K368 (ninS y85 nin0)).keep K374 (ninS y85 nin0)).keep K380 (ninS y85 nin0)).keep K386 (ninS y85 nin0)).keep K392 (ninS y85 nin0)).keep K398 (ninS y85 nin0)).keep K404 (ninS y85 nin0)) (((((((((((((((((((((((((((((((((((((((((((((((((((((((D85 (Or.inr (wy_String_String_coder hw)) (ty := .byte) (by decide)).ext E91).keep K97 (ninS y85 nin0)).keep K102 (ninS y85 nin0)).keep K107 (ninS y85 nin0)).keep K112 (ninS y85 nin0)).keep K117 (ninS y85 nin0)).keep K122 (ninS y85 nin0)).keep K128 (ninS y85 nin0)).keep K134 (ninS y85 nin0)).keep K140 (ninS y85 nin0)).keep K146 (ninS y85 nin0)).keep K152 (ninS y85 nin0)).keep K158 (ninS y85 nin0)).keep K164 (ninS y85 nin0)).keep K170 (ninS y85 nin0)).keep K176 (ninS y85 nin0)).keep K182 (ninS y85 nin0)).keep K188 (ninS y85 nin0)).keep K194 (ninS y85 nin0)).keep K200 (ninS y85 nin0)).keep K206 (ninS y85 nin0)).keep K212 (ninS y85 nin0)).keep K218 (ninS y85 nin0)).keep K224 (ninS y85 nin0)).keep K230 (ninS y85 nin0)).keep K236 (ninS y85 nin0)).keep K242 (ninS y85 nin0)).keep K248 (ninS y85 nin0)).keep K254 (ninS y85 nin0)).keep K260 (ninS y85 nin0)).keep K266 (ninS y85 nin0)).keep K272 (ninS y85 nin0)).keep K278 (ninS y85 nin0)).keep K284 (ninS y85 nin0)).keep K290 (ninS y85 nin0)).keep K296 (ninS y85 nin0)).keep K302 (ninS y85 nin0)).keep K308 (ninS y85 nin0)).keep K314 (ninS y85 nin0)).keep K320 (ninS y85 nin0)).keep K326 (ninS y85 nin0)).keep K332 (ninS y85 nin0)).keep K338 (ninS y85 nin0)).keep K344 (ninS y85 nin0)).keep K350 (ninS y85 nin0)).keep K356 (ninS y85 nin0)).keep K362 (ninS y85 nin0)).keep K368 (ninS y85 nin0)).keep K374 (ninS y85 nin0)).keep K380 (ninS y85 nin0)).keep K386 (ninS y85 nin0)).keep K392 (ninS y85 nin0)).keep K398 (ninS y85 nin0)).keep K404 (ninS y85 nin0)) A404 rfl rfl) pd_lACrV rfl rfl rfl rfl rfl (fun _ q => by cases List.mem_singleton.mp q; simp) fun v405 h405 q405 l405 => ?_
    obtain ⟨rfl, K405, T85⟩ := q405
    have F85 : Ext h80 h405 := ext_keep F85_404 K405 (allS (by omega) all0)
    refine g_astore (pc' := 410) (Ls' := #[_, _, _, _, _, _, _, _, _, _, _]) at_408 rfl rfl rfl ?_
    exact Go.mono 12 1000 rfl rfl (law_tail hX Kx hw hl r2 U F rf S hz (ext_trans EZ2 F85) (cs := [c0, c1, c2]) (T58.ext F85) (by simp) T85)
end Law
set_option maxRecDepth 65536 in
set_option maxHeartbeats 40000000 in
theorem comes_1 {Post : Tables → Env → Array Value → State → Outcome → State → Prop} (hpost : ∀ tb e args s v u, (limb_1_1.after args s (.returned v) u = true ∧ limb_1_2.after args s (.returned v) u = true ∧ True) → ReturnedEndW s (.returned v) u (Jvm.fieldLocs frame_1_writes args s ++ Jvm.arrayLocs frame_1_arrays args s ++ Jvm.staticLocs frame_1_statics s) 48 9664 → Post tb e args s (.returned v) u) :
    ArmFor flags0 classFile x code maxLocals ret World_1 tables_1 room_1 Calls_1 rest_1 Pre_1 Post := by
  intro l hfl _ _ p e ha hc hk s m args below hf hA hF happ hP
  obtain ⟨hcalls, hrest, hpre⟩ := hP
  obtain ⟨-, -, -, hnamed, -, -, -, hat⟩ := (Spec.applies_iff hf).mp happ
  obtain ⟨hg, hn⟩ := and_e (Cond.before_iff.mp (show (Jvm.Cond.and given_1 narrow_1).before args s = true from hpre))
  obtain ⟨hcount, hg⟩ := and_e hg
  obtain ⟨g0, hg⟩ := and_e hg
  obtain ⟨g1, hg⟩ := and_e hg
  obtain ⟨g2, hg⟩ := and_e hg
  have g3 := hg
  obtain ⟨w0, w1, w2, w3, rfl⟩ : ∃ w0 w1 w2 w3 : Value, args = #[w0, w1, w2, w3] := by
    have hs : args.size = 4 := by simpa [Cond.value, given_1] using hcount
    obtain ⟨L⟩ := args
    match L, hs with
    | [w0, w1, w2, w3], _ => exact ⟨w0, w1, w2, w3, rfl⟩
  have hw := fun d (hd : d ∈ tables_1) => atoms_spec (ws := Jvm.Cond.code x code maxLocals ret :: tables_1) hat d (List.mem_cons_of_mem _ hd)
  obtain ⟨hsets, hown0⟩ := atoms_of _ (rest_1_c_eq ▸ (show rest_1_c.before _ s = true from hrest))
  have hfit : Fit s := fun {y c} hc i hi => by
    obtain ⟨ha, rfl⟩ := Array.getElem?_eq_some_iff.mp hc
    have q := List.all_eq_true.mp ((Array.all_eq_true_iff_forall_mem.mp hF) _ (Array.getElem_mem ha)) i (List.mem_range.mpr hi)
    simpa [Array.getElem?_eq_getElem hi] using q
  obtain ⟨i0, e0⟩ := is_v g0
  obtain rfl : w0 = (.int i0) := Option.some.inj e0
  obtain ⟨i1, e1⟩ := is_v g1
  obtain rfl : w1 = (.int i1) := Option.some.inj e1
  obtain ⟨i2, e2⟩ := is_v g2
  obtain rfl : w2 = (.int i2) := Option.some.inj e2
  obtain ⟨i3, e3⟩ := is_v g3
  obtain rfl : w3 = (.int i3) := Option.some.inj e3
  have n5 := not_v (Cond.before_iff.mp (hsets _ (List.mem_of_getElem? (i := 2) rfl)))
  obtain ⟨zc, ezc⟩ := is_v (Cond.before_iff.mp (hsets _ (List.mem_of_getElem? (i := 1) rfl)))
  have S12 : Sta s s.heap "java/lang/String" "COMPACT_STRINGS" "Z" (.int zc) := Sta.start ezc (Or.inl (hsets _ (List.mem_of_getElem? (i := 0) rfl)))
  have c17 : ¬ (zc = (0 : Int32)) := gotF (Cond.eq_ints ezc (Term.int_eval (0))) n5
  obtain ⟨vf, evf, rvf⟩ := isR_v (Cond.before_iff.mp (hsets _ (List.mem_of_getElem? (i := 8) rfl)))
  have S16 : Sta s s.heap "jdk/internal/util/Preconditions" "SIOOBE_FORMATTER" "Ljava/util/function/BiFunction;" vf := Sta.start evf (Or.inl (hsets _ (List.mem_of_getElem? (i := 7) rfl)))
  obtain ⟨vu, evu, rvu⟩ := isR_v (Cond.before_iff.mp (hsets _ (List.mem_of_getElem? (i := 16) rfl)))
  have Su : Sta s s.heap "java/lang/Throwable" "UNASSIGNED_STACK" "[Ljava/lang/StackTraceElement;" vu := Sta.start evu (Or.inl (hsets _ (List.mem_of_getElem? (i := 15) rfl)))
  obtain ⟨au, -, eau, -⟩ := Jvm.Free.AList.arrayOf_ref (hsets _ (List.mem_of_getElem? (i := 17) rfl))
  have nu : vu ≠ .null := fun q => by subst q; cases evu.symm.trans eau
  obtain ⟨vq, evq, rvq⟩ := isR_v (Cond.before_iff.mp (hsets _ (List.mem_of_getElem? (i := 21) rfl)))
  have Sq : Sta s s.heap "java/lang/Throwable" "SUPPRESSED_SENTINEL" "Ljava/util/List;" vq := Sta.start evq (Or.inl (hsets _ (List.mem_of_getElem? (i := 20) rfl)))
  have sta : ∀ {a : Array Value} {n d : String} {v : Int32}, (Jvm.Cond.eq (Term.static "java/lang/StringUTF16" n d) (Term.int v)).before a s = true → (Jvm.Cond.initializedFor "java/lang/StringUTF16" n d).before a s = true → Sta s s.heap "java/lang/StringUTF16" n d (.int v) := by
    intro a n d v h1 h2
    have h1 := Cond.before_iff.mp h1
    obtain ⟨x, y, e1, e2, k1, k2⟩ := cmp_v (Or.inl h1)
    cases (Term.int_eval v).symm.trans e2
    obtain ⟨x', rfl⟩ : ∃ z, x = .int z := k2
    have := gotT (Cond.eq_ints e1 (Term.int_eval v)) h1
    subst this
    exact Sta.start e1 (Or.inl h2)
  have U : SU s := ⟨sta (hsets _ (List.mem_of_getElem? (i := 32) rfl)) (hsets _ (List.mem_of_getElem? (i := 31) rfl)), sta (hsets _ (List.mem_of_getElem? (i := 35) rfl)) (hsets _ (List.mem_of_getElem? (i := 34) rfl)), sta (hsets _ (List.mem_of_getElem? (i := 38) rfl)) (hsets _ (List.mem_of_getElem? (i := 37) rfl))⟩
  have hheld : ∀ p ∈ consts_1, Jvm.Lit.constHeld s p.1 p.2 := fun p hp => hcalls.2.2.1 p hp
  have hcw : Jvm.Lit.compactW.before _ s = true := hsets _ (List.mem_of_getElem? (i := 2) rfl)
  have hEL : EW s _ consts_1 := EW.cons (wt_String_7 hw) (by decide) (EW.cons (wt_Context_287 hw) (by decide) (EW.cons (wt_ContextSetUpAlreadyPinLaw_13 hw) (by decide) (EW.nil)))
  have hCH : CHv s consts_1 s.vm s.heap := CHv.start hEL hheld hcw (wa_byte hw) (wn_String hw)
  obtain ⟨n, o, h1, h2, h3, _, L, rfl, ⟨rfl, N, -⟩, -, -, hq⟩ := met_law (l := l) hw (by unfold Launch.stackTraces; rw [hfl]; decide) ⟨vu, vq, Su, rvu, nu, Sq, rvq⟩ U S16 rvf S12 c17 tables_1 i0 i1 i2 i3 p e ha hc hk s m _ below hf ((Spec.applies_iff_loose hf).mp happ).1 ⟨rfl, State.Warmed39.refl s, rfl, hCH, ext_refl _, hEL, fun _ q => nomatch q⟩ ⟨Jvm.MethodsKnown_of_tablesKnown hcalls.2.1, Jvm.FramesKnown_of_framesKnown hcalls.1 hf⟩
  refine ⟨n, _, h1, h2, h3, hpost _ _ _ _ _ _ ⟨Cond.after_iff.mpr rfl, Cond.after_iff.mpr (eq_i res_at (Term.int_eval (1)) rfl), trivial⟩ ⟨hq.1, hq.2.1, hq.2.2.1, (hq.2.2.2.sift fun y hy => Or.inr (N y hy)).mono (by decide) (by decide)⟩⟩
theorem main_1_1 : Claimed_1_1 := comes_1 fun _ _ _ _ _ _ h hF => ⟨h.1, hF⟩
theorem main_1_2 : Claimed_1_2 := comes_1 fun _ _ _ _ _ _ h hF => ⟨h.2.1, hF⟩
end Jvm.Pilot.@@N@@
namespace Jvm.Pilot.@@N@@
open Jvm Jvm.ClassFile Sem Op Lib Jvm.Free Jvm.Stand Jvm.Pilot.@@N@@.Jvm.D
/-! MADE BY PROGRAM (witnessworld.py) out of the Statement's table words and the real class files: 45 classes; the members and pool entries that the words name. The judged class is class 1, her method 1. -/
namespace start1
open Jvm.ClassFile
def u (s : String) : CpInfo := .utf8 (stringToUtf16 s)
/-- a pool by its gaps: so many unusable entries, then the entry; so many at the end -/
def gap : Nat → List CpInfo → List CpInfo
  | 0, r => r
  | n + 1, r => .unusable :: gap n r
def poolList (es : List (Nat × CpInfo)) (last : Nat) : List CpInfo := es.foldr (fun e r => gap e.1 (e.2 :: r)) (gap last [])
def pool (es : List (Nat × CpInfo)) (last : Nat) : Array CpInfo := ⟨poolList es last⟩
def fileOf (pool : Array CpInfo) (this : Nat) (attrs : Array Attribute := #[]) (ms : Array MethodInfo := #[]) (fl : Nat := 33) (sup : Nat := 0) (ifs : Array Nat := #[]) (fds : Array FieldInfo := #[]) : ClassFile where
  minorVersion := 0
  majorVersion := 65
  constantPool := pool
  accessFlags := fl
  thisClass := this
  superClass := sup
  interfaces := ifs
  fields := fds
  methods := ms
  attributes := attrs
def plain (name : String) (sup : Option ClassId) : Class where
  name := name
  kind := .ordinary
  loader := none
  accessFlags := 33
  super := sup
  interfaces := #[]
  cf := none
  fields := #[]
  methods := #[]
  instanceTypes := #[]
  staticTypes := #[]
  resolved := #[]
  callSites := []
  init := .initialized
  statics := none
  mirror := none

def pool0 : Array CpInfo := pool [(5, u "<init>"), (0, u "()V"), (1, .class_ 10), (1, u "java/lang/Object"), (85, u "clone"), (0, u "()Ljava/lang/Object;")] 26

def k0c0 : Code := { maxStack := 0, maxLocals := 1, code := object_method_1_code, exceptionTable := #[], attributes := #[] }
def k0m0 : Method := { name := "<init>", desc := "()V", sig := { parameters := [], returnType := none }, accessFlags := 1, code := some k0c0 }
def k0m1 : Method := { name := "clone", desc := "()Ljava/lang/Object;", sig := { parameters := [], returnType := some (.object "java/lang/Object") }, accessFlags := 260, code := none }
/-- java/lang/Object -/
def k0 : Class := { plain "java/lang/Object" none with
  accessFlags := 33
  interfaces := #[]
  cf := some (fileOf pool0 8 #[] #[{ accessFlags := 1, nameIndex := 5, descriptorIndex := 6, attributes := #[] }, { accessFlags := 260, nameIndex := 96, descriptorIndex := 97, attributes := #[] }] 33 0 #[] #[])
  fields := #[]
  methods := #[k0m0, k0m1]
  instanceTypes := #[]
  staticTypes := #[]
  resolved := Array.replicate 124 none
  statics := none }

def pool1 : Array CpInfo := pool [(2, .class_ 4), (1, u "java/lang/Object"), (0, u "<init>"), (0, u "()V"), (0, .integer 65535), (0, .class_ 9), (0, u "java/lang/String"), (0, .methodref 8 11), (0, .nameAndType 5 12), (0, u "([C)V"), (0, .string 14), (0, u ": the context has already been refreshed or closed"), (0, .methodref 16 17), (0, .class_ 18), (0, .nameAndType 19 20), (0, u "wirefold/Context"), (0, u "setUpAlready"), (0, u "(Ljava/lang/String;)Ljava/lang/IllegalStateException;"), (0, .methodref 22 23), (0, .class_ 24), (0, .nameAndType 25 26), (0, u "java/lang/IllegalStateException"), (0, u "getMessage"), (0, u "()Ljava/lang/String;"), (0, .methodref 8 28), (0, .nameAndType 29 30), (0, u "equals"), (0, u "(Ljava/lang/Object;)Z"), (0, .class_ 32), (0, u "wirefold/ContextSetUpAlreadyPinLaw"), (2, u "law"), (0, u "(IIII)Z")] 3

def k1m0 : Method := { name := "<init>", desc := "()V", sig := { parameters := [], returnType := none }, accessFlags := 2, code := none }
def k1c1 : Code := { maxStack := 6, maxLocals := 11, code := code, exceptionTable := #[], attributes := #[] }
def k1m1 : Method := { name := "law", desc := "(IIII)Z", sig := { parameters := [.int, .int, .int, .int], returnType := some .boolean }, accessFlags := 9, code := some k1c1 }
/-- wirefold/ContextSetUpAlreadyPinLaw -/
def k1 : Class := { plain "wirefold/ContextSetUpAlreadyPinLaw" (some 0) with
  accessFlags := 49
  interfaces := #[]
  cf := some (fileOf pool1 31 #[] #[{ accessFlags := 2, nameIndex := 5, descriptorIndex := 6, attributes := #[] }, { accessFlags := 9, nameIndex := 35, descriptorIndex := 36, attributes := #[] }] 49 2 #[] #[])
  fields := #[]
  methods := #[k1m0, k1m1]
  instanceTypes := #[]
  staticTypes := #[]
  resolved := Array.replicate 40 none
  statics := none }

def pool2 : Array CpInfo := pool [(1, .class_ 2), (0, u "java/io/Serializable"), (0, .class_ 4), (0, u "java/lang/Object")] 2

/-- java/io/Serializable -/
def k2 : Class := { plain "java/io/Serializable" (some 0) with
  accessFlags := 1537
  interfaces := #[]
  cf := some (fileOf pool2 1 #[] #[] 1537 3 #[] #[])
  fields := #[]
  methods := #[]
  instanceTypes := #[]
  staticTypes := #[]
  resolved := Array.replicate 7 none
  statics := none }

def pool3 : Array CpInfo := pool [(1, .class_ 2), (0, u "java/lang/Comparable"), (0, .class_ 4), (0, u "java/lang/Object")] 7

/-- java/lang/Comparable -/
def k3 : Class := { plain "java/lang/Comparable" (some 0) with
  accessFlags := 1537
  interfaces := #[]
  cf := some (fileOf pool3 1 #[] #[] 1537 3 #[] #[])
  fields := #[]
  methods := #[]
  instanceTypes := #[]
  staticTypes := #[]
  resolved := Array.replicate 12 none
  statics := none }

def pool4 : Array CpInfo := pool [(2, .class_ 4), (1, u "java/lang/CharSequence"), (42, .class_ 48), (0, u "java/lang/CharSequence$1CodePointIterator"), (10, .class_ 60), (0, u "java/lang/CharSequence$1CharIterator"), (5, .class_ 67), (0, u "java/lang/Object")] 63

/-- java/lang/CharSequence -/
def k4 : Class := { plain "java/lang/CharSequence" (some 0) with
  accessFlags := 1537
  interfaces := #[]
  cf := some (fileOf pool4 2 #[.nestMembers #[47, 59]] #[] 1537 66 #[] #[])
  fields := #[]
  methods := #[]
  instanceTypes := #[]
  staticTypes := #[]
  resolved := Array.replicate 131 none
  statics := none }

def pool5 : Array CpInfo := pool [(1, .class_ 2), (0, u "java/lang/constant/Constable"), (0, .class_ 4), (0, u "java/lang/Object")] 6

/-- java/lang/constant/Constable -/
def k5 : Class := { plain "java/lang/constant/Constable" (some 0) with
  accessFlags := 1537
  interfaces := #[]
  cf := some (fileOf pool5 1 #[] #[] 1537 3 #[] #[])
  fields := #[]
  methods := #[]
  instanceTypes := #[]
  staticTypes := #[]
  resolved := Array.replicate 11 none
  statics := none }

def pool6 : Array CpInfo := pool [(1, .class_ 2), (0, u "java/lang/constant/ConstantDesc"), (0, .class_ 4), (0, u "java/lang/Object")] 32

/-- java/lang/constant/ConstantDesc -/
def k6 : Class := { plain "java/lang/constant/ConstantDesc" (some 0) with
  accessFlags := 1537
  interfaces := #[]
  cf := some (fileOf pool6 1 #[] #[] 1537 3 #[] #[])
  fields := #[]
  methods := #[]
  instanceTypes := #[]
  staticTypes := #[]
  resolved := Array.replicate 37 none
  statics := none }

def pool7 : Array CpInfo := pool [(1, .methodref 2 3), (0, .class_ 4), (0, .nameAndType 5 6), (0, u "java/lang/Object"), (0, u "<init>"), (0, u "()V"), (0, .string 8), (0, u ""), (0, .fieldref 10 11), (0, .class_ 12), (0, .nameAndType 13 14), (0, u "java/lang/String"), (0, u "value"), (0, u "[B"), (0, .fieldref 10 16), (0, .nameAndType 17 18), (0, u "coder"), (0, u "B"), (2, u "hash"), (0, u "I"), (2, u "hashIsZero"), (0, u "Z"), (0, .methodref 10 28), (0, .nameAndType 5 29), (0, u "([CIILjava/lang/Void;)V"), (6, u "checkBoundsOffCount"), (0, u "(III)I"), (0, .fieldref 10 39), (0, .nameAndType 40 26), (0, u "COMPACT_STRINGS"), (1, .class_ 44), (1, u "java/lang/StringUTF16"), (0, u "compress"), (1, .methodref 42 48), (0, .nameAndType 49 50), (0, u "coderFromArrayLen"), (0, u "([BI)B"), (3, .methodref 55 56), (0, .class_ 57), (0, .nameAndType 58 59), (0, u "java/util/Arrays"), (0, u "copyOfRange"), (0, u "([BII)[B"), (46, .methodref 107 108), (0, .class_ 109), (0, .nameAndType 110 111), (0, u "java/lang/StringLatin1"), (0, u "inflate"), (0, u "([BI[BII)V"), (30, u "()Z"), (34, .methodref 42 178), (0, .nameAndType 45 179), (0, u "([CII)[B"), (13, .class_ 195), (1, u "java/lang/System"), (16, .methodref 193 213), (0, .nameAndType 214 215), (0, u "arraycopy"), (0, u "(Ljava/lang/Object;ILjava/lang/Object;II)V"), (118, u "()I"), (0, .methodref 10 336), (0, .nameAndType 17 337), (0, u "()B"), (2, u "()[B"), (148, .methodref 10 490), (0, .nameAndType 5 491), (0, u "(Ljava/lang/AbstractStringBuilder;Ljava/lang/Void;)V"), (1, .nameAndType 494 142), (0, u "isLatin1"), (11, .nameAndType 507 334), (0, u "length"), (24, u "getBytes"), (8, .methodref 107 542), (0, .nameAndType 543 544), (0, u "equals"), (0, u "([B[B)Z"), (4, .methodref 550 506), (0, .class_ 551), (0, u "java/lang/AbstractStringBuilder"), (0, .methodref 550 553), (0, .nameAndType 554 340), (0, u "getValue"), (18, u "(Ljava/lang/Object;)Z"), (1, .class_ 576), (0, u "java/lang/CharSequence"), (22, u "CASE_INSENSITIVE_ORDER"), (0, u "Ljava/util/Comparator;"), (220, u "([BIB)V"), (188, u "([C)V"), (36, .methodref 550 493), (0, .fieldref 550 1049), (0, .nameAndType 1050 26), (0, u "maybeLatin1"), (2, .fieldref 1054 1055), (0, .class_ 1056), (0, .nameAndType 1057 1058), (0, u "jdk/internal/util/Preconditions"), (0, u "SIOOBE_FORMATTER"), (0, u "Ljava/util/function/BiFunction;"), (5, u "(IIILjava/util/function/BiFunction;)I"), (0, .methodref 1054 1066), (0, .nameAndType 1067 1064), (0, u "checkFromIndexSize"), (33, u "serialPersistentFields"), (0, u "[Ljava/io/ObjectStreamField;"), (0, .class_ 1104), (0, u "java/lang/String$CaseInsensitiveComparator"), (1, .class_ 1107), (0, u "java/io/Serializable"), (0, .class_ 1109), (0, u "java/lang/Comparable"), (0, .class_ 1111), (0, u "java/lang/constant/Constable"), (0, .class_ 1113), (0, u "java/lang/constant/ConstantDesc"), (2, u "serialVersionUID"), (0, u "J"), (3, u "REPL"), (0, u "C"), (2, u "LATIN1"), (1, u "UTF16"), (105, u "(Ljava/lang/StringBuilder;)V")] 217

def k7m0 : Method := { name := "<init>", desc := "()V", sig := { parameters := [], returnType := none }, accessFlags := 1, code := none }
def k7c1 : Code := { maxStack := 5, maxLocals := 2, code := jdk_42_method_3_code, exceptionTable := #[], attributes := #[] }
def k7m1 : Method := { name := "<init>", desc := "([C)V", sig := { parameters := [(.array .char)], returnType := none }, accessFlags := 1, code := some k7c1 }
def k7c2 : Code := { maxStack := 3, maxLocals := 2, code := jdk_42_method_53_code, exceptionTable := #[], attributes := #[] }
def k7m2 : Method := { name := "<init>", desc := "(Ljava/lang/StringBuilder;)V", sig := { parameters := [(.object "java/lang/StringBuilder")], returnType := none }, accessFlags := 1, code := some k7c2 }
def k7c3 : Code := { maxStack := 2, maxLocals := 1, code := jdk_42_method_54_code, exceptionTable := #[], attributes := #[] }
def k7m3 : Method := { name := "length", desc := "()I", sig := { parameters := [], returnType := some .int }, accessFlags := 1, code := some k7c3 }
def k7c4 : Code := { maxStack := 2, maxLocals := 3, code := jdk_42_method_66_code, exceptionTable := #[], attributes := #[] }
def k7m4 : Method := { name := "equals", desc := "(Ljava/lang/Object;)Z", sig := { parameters := [(.object "java/lang/Object")], returnType := some .boolean }, accessFlags := 1, code := some k7c4 }
def k7c5 : Code := { maxStack := 5, maxLocals := 4, code := jdk_42_method_147_code, exceptionTable := #[], attributes := #[] }
def k7m5 : Method := { name := "getBytes", desc := "([BIB)V", sig := { parameters := [(.array .byte), .int, .byte], returnType := none }, accessFlags := 0, code := some k7c5 }
def k7c6 : Code := { maxStack := 4, maxLocals := 6, code := jdk_42_method_149_code, exceptionTable := #[], attributes := #[] }
def k7m6 : Method := { name := "<init>", desc := "([CIILjava/lang/Void;)V", sig := { parameters := [(.array .char), .int, .int, (.object "java/lang/Void")], returnType := none }, accessFlags := 2, code := some k7c6 }
def k7c7 : Code := { maxStack := 5, maxLocals := 5, code := jdk_42_method_150_code, exceptionTable := #[], attributes := #[] }
def k7m7 : Method := { name := "<init>", desc := "(Ljava/lang/AbstractStringBuilder;Ljava/lang/Void;)V", sig := { parameters := [(.object "java/lang/AbstractStringBuilder"), (.object "java/lang/Void")], returnType := none }, accessFlags := 0, code := some k7c7 }
def k7c8 : Code := { maxStack := 1, maxLocals := 1, code := jdk_42_method_152_code, exceptionTable := #[], attributes := #[] }
def k7m8 : Method := { name := "coder", desc := "()B", sig := { parameters := [], returnType := some .byte }, accessFlags := 0, code := some k7c8 }
def k7c9 : Code := { maxStack := 4, maxLocals := 3, code := jdk_42_method_157_code, exceptionTable := #[], attributes := #[] }
def k7m9 : Method := { name := "checkBoundsOffCount", desc := "(III)I", sig := { parameters := [.int, .int, .int], returnType := some .int }, accessFlags := 8, code := some k7c9 }
/-- java/lang/String -/
def k7 : Class := { plain "java/lang/String" (some 0) with
  accessFlags := 49
  interfaces := #[2, 3, 4, 5, 6]
  cf := some (fileOf pool7 10 #[.nestMembers #[1103]] #[{ accessFlags := 1, nameIndex := 5, descriptorIndex := 6, attributes := #[] }, { accessFlags := 1, nameIndex := 5, descriptorIndex := 1010, attributes := #[] }, { accessFlags := 1, nameIndex := 5, descriptorIndex := 1233, attributes := #[] }, { accessFlags := 1, nameIndex := 507, descriptorIndex := 334, attributes := #[] }, { accessFlags := 1, nameIndex := 543, descriptorIndex := 573, attributes := #[] }, { accessFlags := 0, nameIndex := 532, descriptorIndex := 821, attributes := #[] }, { accessFlags := 2, nameIndex := 5, descriptorIndex := 29, attributes := #[] }, { accessFlags := 0, nameIndex := 5, descriptorIndex := 491, attributes := #[] }, { accessFlags := 0, nameIndex := 17, descriptorIndex := 337, attributes := #[] }, { accessFlags := 8, nameIndex := 36, descriptorIndex := 37, attributes := #[] }] 49 2 #[1106, 1108, 575, 1110, 1112] #[{ accessFlags := 18, nameIndex := 13, descriptorIndex := 14, attributes := #[] }, { accessFlags := 18, nameIndex := 17, descriptorIndex := 18, attributes := #[] }, { accessFlags := 2, nameIndex := 21, descriptorIndex := 22, attributes := #[] }, { accessFlags := 2, nameIndex := 25, descriptorIndex := 26, attributes := #[] }, { accessFlags := 26, nameIndex := 1116, descriptorIndex := 1117, attributes := #[] }, { accessFlags := 24, nameIndex := 40, descriptorIndex := 26, attributes := #[] }, { accessFlags := 26, nameIndex := 1101, descriptorIndex := 1102, attributes := #[] }, { accessFlags := 26, nameIndex := 1121, descriptorIndex := 1122, attributes := #[] }, { accessFlags := 25, nameIndex := 599, descriptorIndex := 600, attributes := #[] }, { accessFlags := 24, nameIndex := 1125, descriptorIndex := 18, attributes := #[] }, { accessFlags := 24, nameIndex := 1127, descriptorIndex := 18, attributes := #[] }])
  fields := #[{ name := "value", type := (.array .byte), accessFlags := 18, slot := 0, constantValue := 0 }, { name := "coder", type := .byte, accessFlags := 18, slot := 1, constantValue := 0 }, { name := "hash", type := .int, accessFlags := 2, slot := 2, constantValue := 0 }, { name := "hashIsZero", type := .boolean, accessFlags := 2, slot := 3, constantValue := 0 }, { name := "serialVersionUID", type := .long, accessFlags := 26, slot := 0, constantValue := 0 }, { name := "COMPACT_STRINGS", type := .boolean, accessFlags := 24, slot := 1, constantValue := 0 }, { name := "serialPersistentFields", type := (.array (.object "java/io/ObjectStreamField")), accessFlags := 26, slot := 2, constantValue := 0 }, { name := "REPL", type := .char, accessFlags := 26, slot := 3, constantValue := 0 }, { name := "CASE_INSENSITIVE_ORDER", type := (.object "java/util/Comparator"), accessFlags := 25, slot := 4, constantValue := 0 }, { name := "LATIN1", type := .byte, accessFlags := 24, slot := 5, constantValue := 0 }, { name := "UTF16", type := .byte, accessFlags := 24, slot := 6, constantValue := 0 }]
  methods := #[k7m0, k7m1, k7m2, k7m3, k7m4, k7m5, k7m6, k7m7, k7m8, k7m9]
  instanceTypes := #[(.array .byte), .byte, .int, .boolean]
  staticTypes := #[.long, .boolean, (.array (.object "java/io/ObjectStreamField")), .char, (.object "java/util/Comparator"), .byte, .byte]
  resolved := Array.replicate 1451 none
  statics := some 0 }

def pool8 : Array CpInfo := pool [(1, .class_ 2), (0, u "java/lang/AutoCloseable"), (0, .class_ 4), (0, u "java/lang/Object")] 7

/-- java/lang/AutoCloseable -/
def k8 : Class := { plain "java/lang/AutoCloseable" (some 0) with
  accessFlags := 1537
  interfaces := #[]
  cf := some (fileOf pool8 1 #[] #[] 1537 3 #[] #[])
  fields := #[]
  methods := #[]
  instanceTypes := #[]
  staticTypes := #[]
  resolved := Array.replicate 12 none
  statics := none }

def pool9 : Array CpInfo := pool [(1, .class_ 2), (0, u "wirefold/EventPublisher"), (0, .class_ 4), (0, u "java/lang/Object")] 6

/-- wirefold/EventPublisher -/
def k9 : Class := { plain "wirefold/EventPublisher" (some 0) with
  accessFlags := 1537
  interfaces := #[]
  cf := some (fileOf pool9 1 #[] #[] 1537 3 #[] #[])
  fields := #[]
  methods := #[]
  instanceTypes := #[]
  staticTypes := #[]
  resolved := Array.replicate 11 none
  statics := none }

def pool10 : Array CpInfo := pool [(2, .class_ 4), (0, .nameAndType 5 6), (0, u "java/lang/Object"), (0, u "<init>"), (0, u "()V"), (4, .class_ 13), (1, u "wirefold/Context"), (0, u "singletons"), (0, u "Ljava/util/Map;"), (17, u "definitions"), (0, u "Lwirefold/Definitions;"), (5, u "stateLock"), (0, u "Lwirefold/StateLock;"), (11, u "postProcessors"), (0, u "Lwirefold/PostProcessors;"), (7, u "listeners"), (0, u "Lwirefold/Listeners;"), (7, u "lifecycles"), (0, u "Lwirefold/Lifecycles;"), (1, .class_ 76), (1, u "wirefold/Context$State"), (1, u "Lwirefold/Context$State;"), (2, u "state"), (6, u "classLoader"), (0, u "Ljava/lang/ClassLoader;"), (7, u "callbacks"), (0, u "Lwirefold/BeanCallbacks;"), (11, u "environment"), (0, u "Lwirefold/Environment;"), (8, u "staticInjection"), (0, u "Lwirefold/StaticInjection;"), (12, u "creations"), (0, u "Ljava/lang/ThreadLocal;"), (7, .class_ 144), (0, u "java/lang/StringBuilder"), (0, .methodref 143 3), (2, .methodref 143 149), (0, .nameAndType 150 151), (0, u "append"), (0, u "(Ljava/lang/String;)Ljava/lang/StringBuilder;"), (2, .methodref 143 155), (0, .nameAndType 156 157), (0, u "toString"), (0, u "()Ljava/lang/String;"), (2, u "setUpAlready"), (0, u "(Ljava/lang/String;)Ljava/lang/IllegalStateException;"), (88, u "(Ljava/lang/String;)V"), (9, .class_ 261), (0, u "java/lang/IllegalStateException"), (2, .methodref 260 265), (0, .nameAndType 5 250), (21, .string 288), (0, u ": the context has already been refreshed or closed"), (120, u "shutdownHook"), (0, u "Ljava/lang/Thread;"), (33, u "closeAnnounced"), (0, u "Z"), (128, .class_ 575), (0, u "wirefold/Context$Creations"), (121, .class_ 698), (0, u "wirefold/EventPublisher"), (267, .class_ 967), (0, u "java/lang/AutoCloseable")] 144

def k10m0 : Method := { name := "<init>", desc := "()V", sig := { parameters := [], returnType := none }, accessFlags := 1, code := none }
def k10c1 : Code := { maxStack := 4, maxLocals := 1, code := prog_24_method_16_code, exceptionTable := #[], attributes := #[] }
def k10m1 : Method := { name := "setUpAlready", desc := "(Ljava/lang/String;)Ljava/lang/IllegalStateException;", sig := { parameters := [(.object "java/lang/String")], returnType := some (.object "java/lang/IllegalStateException") }, accessFlags := 8, code := some k10c1 }
/-- wirefold/Context -/
def k10 : Class := { plain "wirefold/Context" (some 0) with
  accessFlags := 49
  interfaces := #[8, 9]
  cf := some (fileOf pool10 11 #[.nestMembers #[574, 74]] #[{ accessFlags := 1, nameIndex := 5, descriptorIndex := 6, attributes := #[] }, { accessFlags := 8, nameIndex := 160, descriptorIndex := 161, attributes := #[] }] 49 2 #[966, 697] #[{ accessFlags := 18, nameIndex := 14, descriptorIndex := 15, attributes := #[] }, { accessFlags := 18, nameIndex := 33, descriptorIndex := 34, attributes := #[] }, { accessFlags := 18, nameIndex := 40, descriptorIndex := 41, attributes := #[] }, { accessFlags := 18, nameIndex := 53, descriptorIndex := 54, attributes := #[] }, { accessFlags := 18, nameIndex := 62, descriptorIndex := 63, attributes := #[] }, { accessFlags := 18, nameIndex := 71, descriptorIndex := 72, attributes := #[] }, { accessFlags := 2, nameIndex := 409, descriptorIndex := 410, attributes := #[] }, { accessFlags := 66, nameIndex := 81, descriptorIndex := 78, attributes := #[] }, { accessFlags := 2, nameIndex := 444, descriptorIndex := 445, attributes := #[] }, { accessFlags := 2, nameIndex := 88, descriptorIndex := 89, attributes := #[] }, { accessFlags := 18, nameIndex := 97, descriptorIndex := 98, attributes := #[] }, { accessFlags := 18, nameIndex := 110, descriptorIndex := 111, attributes := #[] }, { accessFlags := 18, nameIndex := 120, descriptorIndex := 121, attributes := #[] }, { accessFlags := 18, nameIndex := 134, descriptorIndex := 135, attributes := #[] }])
  fields := #[{ name := "singletons", type := (.object "java/util/Map"), accessFlags := 18, slot := 0, constantValue := 0 }, { name := "definitions", type := (.object "wirefold/Definitions"), accessFlags := 18, slot := 1, constantValue := 0 }, { name := "stateLock", type := (.object "wirefold/StateLock"), accessFlags := 18, slot := 2, constantValue := 0 }, { name := "postProcessors", type := (.object "wirefold/PostProcessors"), accessFlags := 18, slot := 3, constantValue := 0 }, { name := "listeners", type := (.object "wirefold/Listeners"), accessFlags := 18, slot := 4, constantValue := 0 }, { name := "lifecycles", type := (.object "wirefold/Lifecycles"), accessFlags := 18, slot := 5, constantValue := 0 }, { name := "shutdownHook", type := (.object "java/lang/Thread"), accessFlags := 2, slot := 6, constantValue := 0 }, { name := "state", type := (.object "wirefold/Context$State"), accessFlags := 66, slot := 7, constantValue := 0 }, { name := "closeAnnounced", type := .boolean, accessFlags := 2, slot := 8, constantValue := 0 }, { name := "classLoader", type := (.object "java/lang/ClassLoader"), accessFlags := 2, slot := 9, constantValue := 0 }, { name := "callbacks", type := (.object "wirefold/BeanCallbacks"), accessFlags := 18, slot := 10, constantValue := 0 }, { name := "environment", type := (.object "wirefold/Environment"), accessFlags := 18, slot := 11, constantValue := 0 }, { name := "staticInjection", type := (.object "wirefold/StaticInjection"), accessFlags := 18, slot := 12, constantValue := 0 }, { name := "creations", type := (.object "java/lang/ThreadLocal"), accessFlags := 18, slot := 13, constantValue := 0 }]
  methods := #[k10m0, k10m1]
  instanceTypes := #[(.object "java/util/Map"), (.object "wirefold/Definitions"), (.object "wirefold/StateLock"), (.object "wirefold/PostProcessors"), (.object "wirefold/Listeners"), (.object "wirefold/Lifecycles"), (.object "java/lang/Thread"), (.object "wirefold/Context$State"), .boolean, (.object "java/lang/ClassLoader"), (.object "wirefold/BeanCallbacks"), (.object "wirefold/Environment"), (.object "wirefold/StaticInjection"), (.object "java/lang/ThreadLocal")]
  staticTypes := #[]
  resolved := Array.replicate 1112 none
  statics := none }

def pool11 : Array CpInfo := pool [(1, .methodref 2 3), (0, .class_ 4), (0, .nameAndType 5 6), (0, u "java/lang/Object"), (0, u "<init>"), (0, u "()V"), (0, .fieldref 8 9), (0, .class_ 10), (0, .nameAndType 11 12), (0, u "java/lang/Throwable"), (0, u "cause"), (0, u "Ljava/lang/Throwable;"), (0, .fieldref 8 14), (0, .nameAndType 15 16), (0, u "UNASSIGNED_STACK"), (0, u "[Ljava/lang/StackTraceElement;"), (0, .fieldref 8 18), (0, .nameAndType 19 16), (0, u "stackTrace"), (0, .fieldref 8 21), (0, .nameAndType 22 23), (0, u "SUPPRESSED_SENTINEL"), (0, u "Ljava/util/List;"), (0, .fieldref 8 25), (0, .nameAndType 26 23), (0, u "suppressedExceptions"), (0, .methodref 8 28), (0, .nameAndType 29 30), (0, u "fillInStackTrace"), (0, u "()Ljava/lang/Throwable;"), (0, .fieldref 8 32), (0, .nameAndType 33 34), (0, u "detailMessage"), (0, u "Ljava/lang/String;"), (3, u "()Ljava/lang/String;"), (2, u "getMessage"), (51, .class_ 94), (0, u "java/lang/Throwable$WrappedPrintStream"), (6, .class_ 103), (1, u "java/lang/Throwable$PrintStreamOrWriter"), (61, u "$assertionsDisabled"), (0, u "Z"), (26, .class_ 194), (0, u "java/lang/Throwable$WrappedPrintWriter"), (3, .fieldref 8 199), (0, .nameAndType 200 201), (0, u "backtrace"), (0, u "Ljava/lang/Object;"), (0, .methodref 8 203), (0, .nameAndType 29 204), (0, u "(I)Ljava/lang/Throwable;"), (6, u "depth"), (0, u "I"), (10, u "(Ljava/lang/String;)V"), (45, .class_ 271), (1, u "java/lang/Throwable$SentinelHolder"), (32, u "EMPTY_THROWABLE_ARRAY"), (0, u "[Ljava/lang/Throwable;"), (12, .class_ 319), (0, u "java/io/Serializable"), (0, u "serialVersionUID"), (0, u "J"), (5, u "NULL_CAUSE_MESSAGE"), (0, u "SELF_SUPPRESSION_MESSAGE"), (0, u "CAUSE_CAPTION"), (0, u "SUPPRESSED_CAPTION")] 73

def k11c0 : Code := { maxStack := 2, maxLocals := 1, code := jdk_78_method_1_code, exceptionTable := #[], attributes := #[] }
def k11m0 : Method := { name := "<init>", desc := "()V", sig := { parameters := [], returnType := none }, accessFlags := 1, code := some k11c0 }
def k11c1 : Code := { maxStack := 2, maxLocals := 2, code := jdk_78_method_2_code, exceptionTable := #[], attributes := #[] }
def k11m1 : Method := { name := "<init>", desc := "(Ljava/lang/String;)V", sig := { parameters := [(.object "java/lang/String")], returnType := none }, accessFlags := 1, code := some k11c1 }
def k11c2 : Code := { maxStack := 1, maxLocals := 1, code := jdk_78_method_6_code, exceptionTable := #[], attributes := #[] }
def k11m2 : Method := { name := "getMessage", desc := "()Ljava/lang/String;", sig := { parameters := [], returnType := some (.object "java/lang/String") }, accessFlags := 1, code := some k11c2 }
def k11c3 : Code := { maxStack := 2, maxLocals := 1, code := ⟨#[0x2a, 0xb4, 0x00, 0x11, 0xc7, 0x00, 0x0a, 0x2a, 0xb4, 0x00, 0xc6, 0xc6, 0x00, 0x10, 0x2a, 0x03, 0xb6, 0x00, 0xca, 0x57, 0x2a, 0xb2, 0x00, 0x0d, 0xb5, 0x00, 0x11, 0x2a, 0xb0]⟩, exceptionTable := #[], attributes := #[] }
def k11m3 : Method := { name := "fillInStackTrace", desc := "()Ljava/lang/Throwable;", sig := { parameters := [], returnType := some (.object "java/lang/Throwable") }, accessFlags := 33, code := some k11c3 }
def k11m4 : Method := { name := "fillInStackTrace", desc := "(I)Ljava/lang/Throwable;", sig := { parameters := [.int], returnType := some (.object "java/lang/Throwable") }, accessFlags := 258, code := none }
/-- java/lang/Throwable -/
def k11 : Class := { plain "java/lang/Throwable" (some 0) with
  accessFlags := 33
  interfaces := #[2]
  cf := some (fileOf pool11 8 #[.nestMembers #[193, 93, 101, 269]] #[{ accessFlags := 1, nameIndex := 5, descriptorIndex := 6, attributes := #[] }, { accessFlags := 1, nameIndex := 5, descriptorIndex := 223, attributes := #[] }, { accessFlags := 1, nameIndex := 41, descriptorIndex := 38, attributes := #[] }, { accessFlags := 33, nameIndex := 29, descriptorIndex := 30, attributes := #[] }, { accessFlags := 258, nameIndex := 29, descriptorIndex := 204, attributes := #[] }] 33 2 #[318] #[{ accessFlags := 26, nameIndex := 320, descriptorIndex := 321, attributes := #[] }, { accessFlags := 130, nameIndex := 200, descriptorIndex := 201, attributes := #[] }, { accessFlags := 2, nameIndex := 33, descriptorIndex := 34, attributes := #[] }, { accessFlags := 26, nameIndex := 15, descriptorIndex := 16, attributes := #[] }, { accessFlags := 2, nameIndex := 11, descriptorIndex := 12, attributes := #[] }, { accessFlags := 2, nameIndex := 19, descriptorIndex := 16, attributes := #[] }, { accessFlags := 130, nameIndex := 211, descriptorIndex := 212, attributes := #[] }, { accessFlags := 26, nameIndex := 22, descriptorIndex := 23, attributes := #[] }, { accessFlags := 2, nameIndex := 26, descriptorIndex := 23, attributes := #[] }, { accessFlags := 26, nameIndex := 327, descriptorIndex := 34, attributes := #[] }, { accessFlags := 26, nameIndex := 328, descriptorIndex := 34, attributes := #[] }, { accessFlags := 26, nameIndex := 329, descriptorIndex := 34, attributes := #[] }, { accessFlags := 26, nameIndex := 330, descriptorIndex := 34, attributes := #[] }, { accessFlags := 26, nameIndex := 304, descriptorIndex := 305, attributes := #[] }, { accessFlags := 4120, nameIndex := 165, descriptorIndex := 166, attributes := #[] }])
  fields := #[{ name := "serialVersionUID", type := .long, accessFlags := 26, slot := 0, constantValue := 0 }, { name := "backtrace", type := (.object "java/lang/Object"), accessFlags := 130, slot := 0, constantValue := 0 }, { name := "detailMessage", type := (.object "java/lang/String"), accessFlags := 2, slot := 1, constantValue := 0 }, { name := "UNASSIGNED_STACK", type := (.array (.object "java/lang/StackTraceElement")), accessFlags := 26, slot := 1, constantValue := 0 }, { name := "cause", type := (.object "java/lang/Throwable"), accessFlags := 2, slot := 2, constantValue := 0 }, { name := "stackTrace", type := (.array (.object "java/lang/StackTraceElement")), accessFlags := 2, slot := 3, constantValue := 0 }, { name := "depth", type := .int, accessFlags := 130, slot := 4, constantValue := 0 }, { name := "SUPPRESSED_SENTINEL", type := (.object "java/util/List"), accessFlags := 26, slot := 2, constantValue := 0 }, { name := "suppressedExceptions", type := (.object "java/util/List"), accessFlags := 2, slot := 5, constantValue := 0 }, { name := "NULL_CAUSE_MESSAGE", type := (.object "java/lang/String"), accessFlags := 26, slot := 3, constantValue := 0 }, { name := "SELF_SUPPRESSION_MESSAGE", type := (.object "java/lang/String"), accessFlags := 26, slot := 4, constantValue := 0 }, { name := "CAUSE_CAPTION", type := (.object "java/lang/String"), accessFlags := 26, slot := 5, constantValue := 0 }, { name := "SUPPRESSED_CAPTION", type := (.object "java/lang/String"), accessFlags := 26, slot := 6, constantValue := 0 }, { name := "EMPTY_THROWABLE_ARRAY", type := (.array (.object "java/lang/Throwable")), accessFlags := 26, slot := 7, constantValue := 0 }, { name := "$assertionsDisabled", type := .boolean, accessFlags := 4120, slot := 8, constantValue := 0 }]
  methods := #[k11m0, k11m1, k11m2, k11m3, k11m4]
  instanceTypes := #[(.object "java/lang/Object"), (.object "java/lang/String"), (.object "java/lang/Throwable"), (.array (.object "java/lang/StackTraceElement")), .int, (.object "java/util/List")]
  staticTypes := #[.long, (.array (.object "java/lang/StackTraceElement")), (.object "java/util/List"), (.object "java/lang/String"), (.object "java/lang/String"), (.object "java/lang/String"), (.object "java/lang/String"), (.array (.object "java/lang/Throwable")), .boolean]
  resolved := Array.replicate 404 none
  statics := some 1 }

def pool12 : Array CpInfo := pool [(2, .class_ 4), (1, u "java/lang/Throwable"), (0, u "<init>"), (0, u "()V"), (0, .methodref 2 8), (0, .nameAndType 5 9), (0, u "(Ljava/lang/String;)V"), (9, .class_ 20), (0, u "java/lang/Exception"), (0, u "serialVersionUID"), (0, u "J")] 17

def k12m0 : Method := { name := "<init>", desc := "()V", sig := { parameters := [], returnType := none }, accessFlags := 1, code := none }
def k12c1 : Code := { maxStack := 2, maxLocals := 2, code := jdk_59_method_2_code, exceptionTable := #[], attributes := #[] }
def k12m1 : Method := { name := "<init>", desc := "(Ljava/lang/String;)V", sig := { parameters := [(.object "java/lang/String")], returnType := none }, accessFlags := 1, code := some k12c1 }
/-- java/lang/Exception -/
def k12 : Class := { plain "java/lang/Exception" (some 11) with
  accessFlags := 33
  interfaces := #[]
  cf := some (fileOf pool12 19 #[] #[{ accessFlags := 1, nameIndex := 5, descriptorIndex := 6, attributes := #[] }, { accessFlags := 1, nameIndex := 5, descriptorIndex := 9, attributes := #[] }] 33 2 #[] #[{ accessFlags := 24, nameIndex := 21, descriptorIndex := 22, attributes := #[] }])
  fields := #[{ name := "serialVersionUID", type := .long, accessFlags := 24, slot := 0, constantValue := 0 }]
  methods := #[k12m0, k12m1]
  instanceTypes := #[(.object "java/lang/Object"), (.object "java/lang/String"), (.object "java/lang/Throwable"), (.array (.object "java/lang/StackTraceElement")), .int, (.object "java/util/List")]
  staticTypes := #[.long]
  resolved := Array.replicate 40 none
  statics := none }

def pool13 : Array CpInfo := pool [(2, .class_ 4), (1, u "java/lang/Exception"), (0, u "<init>"), (0, u "()V"), (0, .methodref 2 8), (0, .nameAndType 5 9), (0, u "(Ljava/lang/String;)V"), (9, .class_ 20), (0, u "java/lang/RuntimeException"), (0, u "serialVersionUID"), (0, u "J")] 17

def k13m0 : Method := { name := "<init>", desc := "()V", sig := { parameters := [], returnType := none }, accessFlags := 1, code := none }
def k13c1 : Code := { maxStack := 2, maxLocals := 2, code := jdk_58_method_2_code, exceptionTable := #[], attributes := #[] }
def k13m1 : Method := { name := "<init>", desc := "(Ljava/lang/String;)V", sig := { parameters := [(.object "java/lang/String")], returnType := none }, accessFlags := 1, code := some k13c1 }
/-- java/lang/RuntimeException -/
def k13 : Class := { plain "java/lang/RuntimeException" (some 12) with
  accessFlags := 33
  interfaces := #[]
  cf := some (fileOf pool13 19 #[] #[{ accessFlags := 1, nameIndex := 5, descriptorIndex := 6, attributes := #[] }, { accessFlags := 1, nameIndex := 5, descriptorIndex := 9, attributes := #[] }] 33 2 #[] #[{ accessFlags := 24, nameIndex := 21, descriptorIndex := 22, attributes := #[] }])
  fields := #[{ name := "serialVersionUID", type := .long, accessFlags := 24, slot := 0, constantValue := 0 }]
  methods := #[k13m0, k13m1]
  instanceTypes := #[(.object "java/lang/Object"), (.object "java/lang/String"), (.object "java/lang/Throwable"), (.array (.object "java/lang/StackTraceElement")), .int, (.object "java/util/List")]
  staticTypes := #[.long]
  resolved := Array.replicate 40 none
  statics := none }

def pool14 : Array CpInfo := pool [(2, .class_ 4), (1, u "java/lang/RuntimeException"), (0, u "<init>"), (0, u "()V"), (0, .methodref 2 8), (0, .nameAndType 5 9), (0, u "(Ljava/lang/String;)V"), (6, .class_ 17), (0, u "java/lang/IllegalStateException"), (0, u "serialVersionUID"), (0, u "J")] 15

def k14m0 : Method := { name := "<init>", desc := "()V", sig := { parameters := [], returnType := none }, accessFlags := 1, code := none }
def k14c1 : Code := { maxStack := 2, maxLocals := 2, code := jdk_60_method_2_code, exceptionTable := #[], attributes := #[] }
def k14m1 : Method := { name := "<init>", desc := "(Ljava/lang/String;)V", sig := { parameters := [(.object "java/lang/String")], returnType := none }, accessFlags := 1, code := some k14c1 }
/-- java/lang/IllegalStateException -/
def k14 : Class := { plain "java/lang/IllegalStateException" (some 13) with
  accessFlags := 33
  interfaces := #[]
  cf := some (fileOf pool14 16 #[] #[{ accessFlags := 1, nameIndex := 5, descriptorIndex := 6, attributes := #[] }, { accessFlags := 1, nameIndex := 5, descriptorIndex := 9, attributes := #[] }] 33 2 #[] #[{ accessFlags := 24, nameIndex := 18, descriptorIndex := 19, attributes := #[] }])
  fields := #[{ name := "serialVersionUID", type := .long, accessFlags := 24, slot := 0, constantValue := 0 }]
  methods := #[k14m0, k14m1]
  instanceTypes := #[(.object "java/lang/Object"), (.object "java/lang/String"), (.object "java/lang/Throwable"), (.array (.object "java/lang/StackTraceElement")), .int, (.object "java/util/List")]
  staticTypes := #[.long]
  resolved := Array.replicate 35 none
  statics := none }

def pool15 : Array CpInfo := pool [(1, .class_ 2), (0, u "java/lang/Appendable"), (0, .class_ 4), (0, u "java/lang/Object")] 9

/-- java/lang/Appendable -/
def k15 : Class := { plain "java/lang/Appendable" (some 0) with
  accessFlags := 1537
  interfaces := #[]
  cf := some (fileOf pool15 1 #[] #[] 1537 3 #[] #[])
  fields := #[]
  methods := #[]
  instanceTypes := #[]
  staticTypes := #[]
  resolved := Array.replicate 14 none
  statics := none }

def pool16 : Array CpInfo := pool [(1, .class_ 2), (0, u "java/lang/String"), (0, .methodref 4 5), (0, .class_ 6), (0, .nameAndType 7 8), (0, u "java/lang/Object"), (0, u "<init>"), (0, u "()V"), (1, .class_ 12), (1, u "java/lang/AbstractStringBuilder"), (0, u "EMPTYVALUE"), (0, u "[B"), (0, .fieldref 10 16), (0, .nameAndType 17 14), (0, u "value"), (0, .fieldref 1 19), (0, .nameAndType 20 21), (0, u "COMPACT_STRINGS"), (0, u "Z"), (0, .fieldref 10 23), (0, .nameAndType 24 25), (0, u "coder"), (0, u "B"), (0, .methodref 27 28), (0, .class_ 29), (0, .nameAndType 30 31), (0, u "java/lang/StringUTF16"), (0, u "newBytesFor"), (0, u "(I)[B"), (0, .methodref 1 33), (0, .nameAndType 34 35), (0, u "length"), (0, u "()I"), (3, .integer 2147483647), (0, .methodref 1 41), (0, .nameAndType 24 42), (0, u "()B"), (2, u "append"), (0, u "(Ljava/lang/String;)Ljava/lang/AbstractStringBuilder;"), (1, .class_ 49), (0, u "java/lang/CharSequence"), (19, u "(Ljava/lang/String;)V"), (5, u "maybeLatin1"), (3, .fieldref 10 80), (0, .nameAndType 81 82), (0, u "count"), (0, u "I"), (0, .methodref 10 84), (0, .nameAndType 85 86), (0, u "isLatin1"), (0, u "()Z"), (1, .class_ 90), (1, u "java/lang/StringLatin1"), (9, .methodref 10 101), (0, .nameAndType 102 103), (0, u "ensureCapacityInternal"), (0, u "(I)V"), (0, .methodref 10 105), (0, .nameAndType 106 107), (0, u "newCapacity"), (0, u "(I)I"), (0, .methodref 109 110), (0, .class_ 111), (0, .nameAndType 112 113), (0, u "java/util/Arrays"), (0, u "copyOf"), (0, u "([BI)[B"), (0, .methodref 115 116), (0, .class_ 117), (0, .nameAndType 118 119), (0, u "jdk/internal/util/ArraysSupport"), (0, u "newLength"), (0, u "(III)I"), (5, .methodref 88 126), (0, .nameAndType 127 128), (0, u "inflate"), (0, u "([BI[BII)V"), (66, .methodref 10 196), (0, .nameAndType 127 8), (11, .methodref 10 209), (0, .nameAndType 210 211), (0, u "putStringAt"), (0, u "(ILjava/lang/String;)V"), (5, u "inflateIfNeededFor"), (2, .nameAndType 221 222), (0, u "getBytes"), (0, u "([BIB)V"), (174, .methodref 10 398), (0, .nameAndType 217 69), (0, .methodref 1 220), (3, u "()[B"), (40, .class_ 445), (0, u "java/lang/Appendable"), (106, u "getValue")] 56

def k16m0 : Method := { name := "<init>", desc := "()V", sig := { parameters := [], returnType := none }, accessFlags := 0, code := none }
def k16c1 : Code := { maxStack := 2, maxLocals := 2, code := jdk_68_method_2_code, exceptionTable := #[], attributes := #[] }
def k16m1 : Method := { name := "<init>", desc := "(I)V", sig := { parameters := [.int], returnType := none }, accessFlags := 0, code := some k16c1 }
def k16c2 : Code := { maxStack := 1, maxLocals := 1, code := jdk_68_method_6_code, exceptionTable := #[], attributes := #[] }
def k16m2 : Method := { name := "length", desc := "()I", sig := { parameters := [], returnType := some .int }, accessFlags := 1, code := some k16c2 }
def k16c3 : Code := { maxStack := 4, maxLocals := 3, code := jdk_68_method_9_code, exceptionTable := #[], attributes := #[] }
def k16m3 : Method := { name := "ensureCapacityInternal", desc := "(I)V", sig := { parameters := [.int], returnType := none }, accessFlags := 2, code := some k16c3 }
def k16c4 : Code := { maxStack := 5, maxLocals := 6, code := jdk_68_method_10_code, exceptionTable := #[], attributes := #[] }
def k16m4 : Method := { name := "newCapacity", desc := "(I)I", sig := { parameters := [.int], returnType := some .int }, accessFlags := 2, code := some k16c4 }
def k16c5 : Code := { maxStack := 5, maxLocals := 2, code := jdk_68_method_11_code, exceptionTable := #[], attributes := #[] }
def k16m5 : Method := { name := "inflate", desc := "()V", sig := { parameters := [], returnType := none }, accessFlags := 2, code := some k16c5 }
def k16c6 : Code := { maxStack := 3, maxLocals := 3, code := jdk_68_method_22_code, exceptionTable := #[], attributes := #[] }
def k16m6 : Method := { name := "append", desc := "(Ljava/lang/String;)Ljava/lang/AbstractStringBuilder;", sig := { parameters := [(.object "java/lang/String")], returnType := some (.object "java/lang/AbstractStringBuilder") }, accessFlags := 1, code := some k16c6 }
def k16c7 : Code := { maxStack := 1, maxLocals := 1, code := jdk_68_method_64_code, exceptionTable := #[], attributes := #[] }
def k16m7 : Method := { name := "getValue", desc := "()[B", sig := { parameters := [], returnType := some (.array .byte) }, accessFlags := 16, code := some k16c7 }
def k16c8 : Code := { maxStack := 1, maxLocals := 1, code := jdk_68_method_68_code, exceptionTable := #[], attributes := #[] }
def k16m8 : Method := { name := "isLatin1", desc := "()Z", sig := { parameters := [], returnType := some .boolean }, accessFlags := 16, code := some k16c8 }
def k16c9 : Code := { maxStack := 2, maxLocals := 2, code := jdk_68_method_71_code, exceptionTable := #[], attributes := #[] }
def k16m9 : Method := { name := "inflateIfNeededFor", desc := "(Ljava/lang/String;)V", sig := { parameters := [(.object "java/lang/String")], returnType := none }, accessFlags := 2, code := some k16c9 }
def k16c10 : Code := { maxStack := 4, maxLocals := 3, code := jdk_68_method_73_code, exceptionTable := #[], attributes := #[] }
def k16m10 : Method := { name := "putStringAt", desc := "(ILjava/lang/String;)V", sig := { parameters := [.int, (.object "java/lang/String")], returnType := none }, accessFlags := 2, code := some k16c10 }
/-- java/lang/AbstractStringBuilder -/
def k16 : Class := { plain "java/lang/AbstractStringBuilder" (some 0) with
  accessFlags := 1056
  interfaces := #[15, 4]
  cf := some (fileOf pool16 10 #[] #[{ accessFlags := 0, nameIndex := 7, descriptorIndex := 8, attributes := #[] }, { accessFlags := 0, nameIndex := 7, descriptorIndex := 103, attributes := #[] }, { accessFlags := 1, nameIndex := 34, descriptorIndex := 35, attributes := #[] }, { accessFlags := 2, nameIndex := 102, descriptorIndex := 103, attributes := #[] }, { accessFlags := 2, nameIndex := 106, descriptorIndex := 107, attributes := #[] }, { accessFlags := 2, nameIndex := 127, descriptorIndex := 8, attributes := #[] }, { accessFlags := 1, nameIndex := 45, descriptorIndex := 46, attributes := #[] }, { accessFlags := 16, nameIndex := 552, descriptorIndex := 403, attributes := #[] }, { accessFlags := 16, nameIndex := 85, descriptorIndex := 86, attributes := #[] }, { accessFlags := 2, nameIndex := 217, descriptorIndex := 69, attributes := #[] }, { accessFlags := 2, nameIndex := 210, descriptorIndex := 211, attributes := #[] }] 1056 4 #[444, 48] #[{ accessFlags := 0, nameIndex := 17, descriptorIndex := 14, attributes := #[] }, { accessFlags := 0, nameIndex := 24, descriptorIndex := 25, attributes := #[] }, { accessFlags := 0, nameIndex := 75, descriptorIndex := 21, attributes := #[] }, { accessFlags := 0, nameIndex := 81, descriptorIndex := 82, attributes := #[] }, { accessFlags := 26, nameIndex := 13, descriptorIndex := 14, attributes := #[] }])
  fields := #[{ name := "value", type := (.array .byte), accessFlags := 0, slot := 0, constantValue := 0 }, { name := "coder", type := .byte, accessFlags := 0, slot := 1, constantValue := 0 }, { name := "maybeLatin1", type := .boolean, accessFlags := 0, slot := 2, constantValue := 0 }, { name := "count", type := .int, accessFlags := 0, slot := 3, constantValue := 0 }, { name := "EMPTYVALUE", type := (.array .byte), accessFlags := 26, slot := 0, constantValue := 0 }]
  methods := #[k16m0, k16m1, k16m2, k16m3, k16m4, k16m5, k16m6, k16m7, k16m8, k16m9, k16m10]
  instanceTypes := #[(.array .byte), .byte, .boolean, .int]
  staticTypes := #[(.array .byte)]
  resolved := Array.replicate 609 none
  statics := none }

def pool17 : Array CpInfo := pool [(1, .methodref 2 3), (0, .class_ 4), (0, .nameAndType 5 6), (0, u "java/lang/AbstractStringBuilder"), (0, u "<init>"), (0, u "(I)V"), (11, .class_ 20), (1, u "java/lang/String"), (3, .class_ 26), (1, u "java/lang/StringBuilder"), (0, u "append"), (0, u "(Ljava/lang/String;)Ljava/lang/StringBuilder;"), (0, .methodref 2 30), (0, .nameAndType 27 31), (0, u "(Ljava/lang/String;)Ljava/lang/AbstractStringBuilder;"), (105, .methodref 18 138), (0, .nameAndType 5 139), (0, u "(Ljava/lang/StringBuilder;)V"), (5, u "()V"), (10, u "()I"), (186, .methodref 2 344), (0, .nameAndType 345 156), (0, u "length"), (3, .class_ 350), (0, u "java/lang/Appendable"), (0, .class_ 352), (0, u "java/io/Serializable"), (0, .class_ 354), (0, u "java/lang/Comparable"), (0, .class_ 356), (0, u "java/lang/CharSequence"), (0, u "serialVersionUID"), (0, u "J"), (40, u "toString"), (0, u "()Ljava/lang/String;")] 21

def k17c0 : Code := { maxStack := 2, maxLocals := 1, code := jdk_67_method_1_code, exceptionTable := #[], attributes := #[] }
def k17m0 : Method := { name := "<init>", desc := "()V", sig := { parameters := [], returnType := none }, accessFlags := 1, code := some k17c0 }
def k17c1 : Code := { maxStack := 2, maxLocals := 2, code := jdk_67_method_7_code, exceptionTable := #[], attributes := #[] }
def k17m1 : Method := { name := "append", desc := "(Ljava/lang/String;)Ljava/lang/StringBuilder;", sig := { parameters := [(.object "java/lang/String")], returnType := some (.object "java/lang/StringBuilder") }, accessFlags := 1, code := some k17c1 }
def k17c2 : Code := { maxStack := 3, maxLocals := 1, code := jdk_67_method_42_code, exceptionTable := #[], attributes := #[] }
def k17m2 : Method := { name := "toString", desc := "()Ljava/lang/String;", sig := { parameters := [], returnType := some (.object "java/lang/String") }, accessFlags := 1, code := some k17c2 }
def k17c3 : Code := { maxStack := 1, maxLocals := 1, code := jdk_67_method_93_code, exceptionTable := #[], attributes := #[] }
def k17m3 : Method := { name := "length", desc := "()I", sig := { parameters := [], returnType := some .int }, accessFlags := 4161, code := some k17c3 }
/-- java/lang/StringBuilder -/
def k17 : Class := { plain "java/lang/StringBuilder" (some 16) with
  accessFlags := 49
  interfaces := #[15, 2, 3, 4]
  cf := some (fileOf pool17 24 #[] #[{ accessFlags := 1, nameIndex := 5, descriptorIndex := 145, attributes := #[] }, { accessFlags := 1, nameIndex := 27, descriptorIndex := 28, attributes := #[] }, { accessFlags := 1, nameIndex := 399, descriptorIndex := 400, attributes := #[] }, { accessFlags := 4161, nameIndex := 345, descriptorIndex := 156, attributes := #[] }] 49 2 #[349, 351, 353, 355] #[{ accessFlags := 24, nameIndex := 357, descriptorIndex := 358, attributes := #[] }])
  fields := #[{ name := "serialVersionUID", type := .long, accessFlags := 24, slot := 0, constantValue := 0 }]
  methods := #[k17m0, k17m1, k17m2, k17m3]
  instanceTypes := #[(.array .byte), .byte, .boolean, .int]
  staticTypes := #[.long]
  resolved := Array.replicate 422 none
  statics := none }

def pool18 : Array CpInfo := pool [(2, .class_ 4), (1, u "java/lang/Object"), (0, u "<init>"), (0, u "()V"), (1, .class_ 10), (1, u "java/lang/System"), (0, u "allowSecurityManager"), (0, u "I"), (16, u "cons"), (0, u "Ljava/io/Console;"), (77, .class_ 110), (1, u "java/lang/System$CallersHolder"), (43, u "initialErrStream"), (0, u "Ljava/io/PrintStream;"), (19, u "security"), (0, u "Ljava/lang/SecurityManager;"), (31, .class_ 209), (0, u "java/lang/System$1"), (7, u "props"), (0, u "Ljava/util/Properties;"), (2, u "lineSeparator"), (0, u "Ljava/lang/String;"), (96, .class_ 321), (1, u "java/lang/System$LoggerFinder"), (5, .class_ 328), (0, u "java/lang/System$Logger"), (67, u "err"), (2, u "out"), (91, u "notSupportedJnuEncoding"), (15, u "in"), (17, u "initialIn"), (0, u "Ljava/io/InputStream;"), (35, u "bootLayer"), (0, u "Ljava/lang/ModuleLayer;"), (99, .class_ 664), (0, u "java/lang/System$2"), (9, u "NEVER"), (2, u "MAYBE"), (49, u "arraycopy"), (0, u "(Ljava/lang/Object;ILjava/lang/Object;II)V"), (72, .class_ 802), (0, u "java/lang/System$Logger$Level")] 31

def k18m0 : Method := { name := "<init>", desc := "()V", sig := { parameters := [], returnType := none }, accessFlags := 2, code := none }
def k18m1 : Method := { name := "arraycopy", desc := "(Ljava/lang/Object;ILjava/lang/Object;II)V", sig := { parameters := [(.object "java/lang/Object"), .int, (.object "java/lang/Object"), .int, .int], returnType := none }, accessFlags := 265, code := none }
/-- java/lang/System -/
def k18 : Class := { plain "java/lang/System" (some 0) with
  accessFlags := 49
  interfaces := #[]
  cf := some (fileOf pool18 8 #[.nestMembers #[319, 327, 801, 108, 663, 208]] #[{ accessFlags := 2, nameIndex := 5, descriptorIndex := 6, attributes := #[] }, { accessFlags := 265, nameIndex := 727, descriptorIndex := 728, attributes := #[] }] 49 2 #[] #[{ accessFlags := 25, nameIndex := 507, descriptorIndex := 526, attributes := #[] }, { accessFlags := 25, nameIndex := 399, descriptorIndex := 155, attributes := #[] }, { accessFlags := 25, nameIndex := 396, descriptorIndex := 155, attributes := #[] }, { accessFlags := 10, nameIndex := 525, descriptorIndex := 526, attributes := #[] }, { accessFlags := 26, nameIndex := 674, descriptorIndex := 12, attributes := #[] }, { accessFlags := 26, nameIndex := 677, descriptorIndex := 12, attributes := #[] }, { accessFlags := 10, nameIndex := 11, descriptorIndex := 12, attributes := #[] }, { accessFlags := 74, nameIndex := 175, descriptorIndex := 176, attributes := #[] }, { accessFlags := 10, nameIndex := 491, descriptorIndex := 222, attributes := #[] }, { accessFlags := 74, nameIndex := 29, descriptorIndex := 30, attributes := #[] }, { accessFlags := 74, nameIndex := 154, descriptorIndex := 155, attributes := #[] }, { accessFlags := 10, nameIndex := 217, descriptorIndex := 218, attributes := #[] }, { accessFlags := 10, nameIndex := 221, descriptorIndex := 222, attributes := #[] }, { accessFlags := 8, nameIndex := 562, descriptorIndex := 563, attributes := #[] }])
  fields := #[{ name := "in", type := (.object "java/io/InputStream"), accessFlags := 25, slot := 0, constantValue := 0 }, { name := "out", type := (.object "java/io/PrintStream"), accessFlags := 25, slot := 1, constantValue := 0 }, { name := "err", type := (.object "java/io/PrintStream"), accessFlags := 25, slot := 2, constantValue := 0 }, { name := "initialIn", type := (.object "java/io/InputStream"), accessFlags := 10, slot := 3, constantValue := 0 }, { name := "NEVER", type := .int, accessFlags := 26, slot := 4, constantValue := 0 }, { name := "MAYBE", type := .int, accessFlags := 26, slot := 5, constantValue := 0 }, { name := "allowSecurityManager", type := .int, accessFlags := 10, slot := 6, constantValue := 0 }, { name := "security", type := (.object "java/lang/SecurityManager"), accessFlags := 74, slot := 7, constantValue := 0 }, { name := "notSupportedJnuEncoding", type := (.object "java/lang/String"), accessFlags := 10, slot := 8, constantValue := 0 }, { name := "cons", type := (.object "java/io/Console"), accessFlags := 74, slot := 9, constantValue := 0 }, { name := "initialErrStream", type := (.object "java/io/PrintStream"), accessFlags := 74, slot := 10, constantValue := 0 }, { name := "props", type := (.object "java/util/Properties"), accessFlags := 10, slot := 11, constantValue := 0 }, { name := "lineSeparator", type := (.object "java/lang/String"), accessFlags := 10, slot := 12, constantValue := 0 }, { name := "bootLayer", type := (.object "java/lang/ModuleLayer"), accessFlags := 8, slot := 13, constantValue := 0 }]
  methods := #[k18m0, k18m1]
  instanceTypes := #[]
  staticTypes := #[(.object "java/io/InputStream"), (.object "java/io/PrintStream"), (.object "java/io/PrintStream"), (.object "java/io/InputStream"), .int, .int, .int, (.object "java/lang/SecurityManager"), (.object "java/lang/String"), (.object "java/io/Console"), (.object "java/io/PrintStream"), (.object "java/util/Properties"), (.object "java/lang/String"), (.object "java/lang/ModuleLayer")]
  resolved := Array.replicate 834 none
  statics := none }

def pool19 : Array CpInfo := pool [(9, u "<init>"), (6, .class_ 18), (1, u "java/lang/Object"), (0, u "()V"), (1, .class_ 23), (1, u "jdk/internal/util/ArraysSupport"), (0, u "LOG2_ARRAY_LONG_INDEX_SCALE"), (0, u "I"), (2, u "U"), (0, u "Ljdk/internal/misc/Unsafe;"), (8, u "BIG_ENDIAN"), (0, u "Z"), (8, u "LOG2_BYTE_BIT_SIZE"), (4, u "LOG2_ARRAY_INT_INDEX_SCALE"), (54, u "JLA"), (0, u "Ljdk/internal/access/JavaLangAccess;"), (11, u "LOG2_ARRAY_BOOLEAN_INDEX_SCALE"), (9, u "LOG2_ARRAY_BYTE_INDEX_SCALE"), (5, u "LOG2_ARRAY_CHAR_INDEX_SCALE"), (5, u "LOG2_ARRAY_SHORT_INDEX_SCALE"), (18, u "LOG2_ARRAY_FLOAT_INDEX_SCALE"), (24, u "LOG2_ARRAY_DOUBLE_INDEX_SCALE"), (6, .methodref 195 196), (0, .class_ 197), (0, .nameAndType 198 199), (0, u "java/lang/Math"), (0, u "max"), (0, u "(II)I"), (0, .integer 2147483639), (76, u "T_BOOLEAN"), (2, u "T_CHAR"), (1, u "T_FLOAT"), (1, u "T_DOUBLE"), (1, u "T_BYTE"), (1, u "T_SHORT"), (1, u "T_INT"), (1, u "T_LONG"), (1, u "SOFT_MAX_ARRAY_LENGTH"), (56, u "newLength"), (0, u "(III)I")] 25

def k19m0 : Method := { name := "<init>", desc := "()V", sig := { parameters := [], returnType := none }, accessFlags := 2, code := none }
def k19c1 : Code := { maxStack := 3, maxLocals := 4, code := jdk_48_method_27_code, exceptionTable := #[], attributes := #[] }
def k19m1 : Method := { name := "newLength", desc := "(III)I", sig := { parameters := [.int, .int, .int], returnType := some .int }, accessFlags := 9, code := some k19c1 }
/-- jdk/internal/util/ArraysSupport -/
def k19 : Class := { plain "jdk/internal/util/ArraysSupport" (some 0) with
  accessFlags := 33
  interfaces := #[]
  cf := some (fileOf pool19 21 #[] #[{ accessFlags := 2, nameIndex := 9, descriptorIndex := 19, attributes := #[] }, { accessFlags := 9, nameIndex := 351, descriptorIndex := 352, attributes := #[] }] 33 16 #[] #[{ accessFlags := 24, nameIndex := 28, descriptorIndex := 29, attributes := #[] }, { accessFlags := 26, nameIndex := 38, descriptorIndex := 39, attributes := #[] }, { accessFlags := 25, nameIndex := 121, descriptorIndex := 25, attributes := #[] }, { accessFlags := 25, nameIndex := 131, descriptorIndex := 25, attributes := #[] }, { accessFlags := 25, nameIndex := 137, descriptorIndex := 25, attributes := #[] }, { accessFlags := 25, nameIndex := 143, descriptorIndex := 25, attributes := #[] }, { accessFlags := 25, nameIndex := 53, descriptorIndex := 25, attributes := #[] }, { accessFlags := 25, nameIndex := 24, descriptorIndex := 25, attributes := #[] }, { accessFlags := 25, nameIndex := 162, descriptorIndex := 25, attributes := #[] }, { accessFlags := 25, nameIndex := 187, descriptorIndex := 25, attributes := #[] }, { accessFlags := 26, nameIndex := 48, descriptorIndex := 25, attributes := #[] }, { accessFlags := 25, nameIndex := 277, descriptorIndex := 25, attributes := #[] }, { accessFlags := 25, nameIndex := 280, descriptorIndex := 25, attributes := #[] }, { accessFlags := 25, nameIndex := 282, descriptorIndex := 25, attributes := #[] }, { accessFlags := 25, nameIndex := 284, descriptorIndex := 25, attributes := #[] }, { accessFlags := 25, nameIndex := 286, descriptorIndex := 25, attributes := #[] }, { accessFlags := 25, nameIndex := 288, descriptorIndex := 25, attributes := #[] }, { accessFlags := 25, nameIndex := 290, descriptorIndex := 25, attributes := #[] }, { accessFlags := 25, nameIndex := 292, descriptorIndex := 25, attributes := #[] }, { accessFlags := 26, nameIndex := 108, descriptorIndex := 109, attributes := #[] }, { accessFlags := 25, nameIndex := 294, descriptorIndex := 25, attributes := #[] }])
  fields := #[{ name := "U", type := (.object "jdk/internal/misc/Unsafe"), accessFlags := 24, slot := 0, constantValue := 0 }, { name := "BIG_ENDIAN", type := .boolean, accessFlags := 26, slot := 1, constantValue := 0 }, { name := "LOG2_ARRAY_BOOLEAN_INDEX_SCALE", type := .int, accessFlags := 25, slot := 2, constantValue := 0 }, { name := "LOG2_ARRAY_BYTE_INDEX_SCALE", type := .int, accessFlags := 25, slot := 3, constantValue := 0 }, { name := "LOG2_ARRAY_CHAR_INDEX_SCALE", type := .int, accessFlags := 25, slot := 4, constantValue := 0 }, { name := "LOG2_ARRAY_SHORT_INDEX_SCALE", type := .int, accessFlags := 25, slot := 5, constantValue := 0 }, { name := "LOG2_ARRAY_INT_INDEX_SCALE", type := .int, accessFlags := 25, slot := 6, constantValue := 0 }, { name := "LOG2_ARRAY_LONG_INDEX_SCALE", type := .int, accessFlags := 25, slot := 7, constantValue := 0 }, { name := "LOG2_ARRAY_FLOAT_INDEX_SCALE", type := .int, accessFlags := 25, slot := 8, constantValue := 0 }, { name := "LOG2_ARRAY_DOUBLE_INDEX_SCALE", type := .int, accessFlags := 25, slot := 9, constantValue := 0 }, { name := "LOG2_BYTE_BIT_SIZE", type := .int, accessFlags := 26, slot := 10, constantValue := 0 }, { name := "T_BOOLEAN", type := .int, accessFlags := 25, slot := 11, constantValue := 0 }, { name := "T_CHAR", type := .int, accessFlags := 25, slot := 12, constantValue := 0 }, { name := "T_FLOAT", type := .int, accessFlags := 25, slot := 13, constantValue := 0 }, { name := "T_DOUBLE", type := .int, accessFlags := 25, slot := 14, constantValue := 0 }, { name := "T_BYTE", type := .int, accessFlags := 25, slot := 15, constantValue := 0 }, { name := "T_SHORT", type := .int, accessFlags := 25, slot := 16, constantValue := 0 }, { name := "T_INT", type := .int, accessFlags := 25, slot := 17, constantValue := 0 }, { name := "T_LONG", type := .int, accessFlags := 25, slot := 18, constantValue := 0 }, { name := "JLA", type := (.object "jdk/internal/access/JavaLangAccess"), accessFlags := 26, slot := 19, constantValue := 0 }, { name := "SOFT_MAX_ARRAY_LENGTH", type := .int, accessFlags := 25, slot := 20, constantValue := 0 }]
  methods := #[k19m0, k19m1]
  instanceTypes := #[]
  staticTypes := #[(.object "jdk/internal/misc/Unsafe"), .boolean, .int, .int, .int, .int, .int, .int, .int, .int, .int, .int, .int, .int, .int, .int, .int, .int, .int, (.object "jdk/internal/access/JavaLangAccess"), .int]
  resolved := Array.replicate 378 none
  statics := none }

def pool20 : Array CpInfo := pool [(1, .class_ 2), (0, u "java/lang/Math"), (1, .class_ 6), (1, u "java/lang/Object"), (0, u "<init>"), (0, u "()V"), (89, .class_ 100), (1, u "java/lang/Math$RandomNumberGeneratorHolder"), (71, u "negativeZeroFloatBits"), (0, u "J"), (2, u "negativeZeroDoubleBits"), (21, u "max"), (2, u "min"), (43, u "$assertionsDisabled"), (0, u "Z"), (88, u "(II)I"), (2, u "twoToTheDoubleScaleDown"), (0, u "D"), (4, u "twoToTheDoubleScaleUp"), (9, u "E"), (3, u "PI"), (2, u "TAU"), (2, u "DEGREES_TO_RADIANS"), (0, u "RADIANS_TO_DEGREES")] 94

def k20m0 : Method := { name := "<init>", desc := "()V", sig := { parameters := [], returnType := none }, accessFlags := 2, code := none }
def k20c1 : Code := { maxStack := 2, maxLocals := 2, code := jdk_29_method_65_code, exceptionTable := #[], attributes := #[] }
def k20m1 : Method := { name := "max", desc := "(II)I", sig := { parameters := [.int, .int], returnType := some .int }, accessFlags := 9, code := some k20c1 }
def k20c2 : Code := { maxStack := 2, maxLocals := 2, code := jdk_29_method_69_code, exceptionTable := #[], attributes := #[] }
def k20m2 : Method := { name := "min", desc := "(II)I", sig := { parameters := [.int, .int], returnType := some .int }, accessFlags := 9, code := some k20c2 }
/-- java/lang/Math -/
def k20 : Class := { plain "java/lang/Math" (some 0) with
  accessFlags := 49
  interfaces := #[]
  cf := some (fileOf pool20 1 #[.nestMembers #[98]] #[{ accessFlags := 2, nameIndex := 7, descriptorIndex := 8, attributes := #[] }, { accessFlags := 9, nameIndex := 198, descriptorIndex := 335, attributes := #[] }, { accessFlags := 9, nameIndex := 201, descriptorIndex := 335, attributes := #[] }] 49 4 #[] #[{ accessFlags := 25, nameIndex := 354, descriptorIndex := 339, attributes := #[] }, { accessFlags := 25, nameIndex := 358, descriptorIndex := 339, attributes := #[] }, { accessFlags := 25, nameIndex := 361, descriptorIndex := 339, attributes := #[] }, { accessFlags := 26, nameIndex := 364, descriptorIndex := 339, attributes := #[] }, { accessFlags := 26, nameIndex := 365, descriptorIndex := 339, attributes := #[] }, { accessFlags := 26, nameIndex := 172, descriptorIndex := 173, attributes := #[] }, { accessFlags := 26, nameIndex := 176, descriptorIndex := 173, attributes := #[] }, { accessFlags := 8, nameIndex := 344, descriptorIndex := 339, attributes := #[] }, { accessFlags := 8, nameIndex := 338, descriptorIndex := 339, attributes := #[] }, { accessFlags := 4120, nameIndex := 245, descriptorIndex := 246, attributes := #[] }])
  fields := #[{ name := "E", type := .double, accessFlags := 25, slot := 0, constantValue := 0 }, { name := "PI", type := .double, accessFlags := 25, slot := 1, constantValue := 0 }, { name := "TAU", type := .double, accessFlags := 25, slot := 2, constantValue := 0 }, { name := "DEGREES_TO_RADIANS", type := .double, accessFlags := 26, slot := 3, constantValue := 0 }, { name := "RADIANS_TO_DEGREES", type := .double, accessFlags := 26, slot := 4, constantValue := 0 }, { name := "negativeZeroFloatBits", type := .long, accessFlags := 26, slot := 5, constantValue := 0 }, { name := "negativeZeroDoubleBits", type := .long, accessFlags := 26, slot := 6, constantValue := 0 }, { name := "twoToTheDoubleScaleUp", type := .double, accessFlags := 8, slot := 7, constantValue := 0 }, { name := "twoToTheDoubleScaleDown", type := .double, accessFlags := 8, slot := 8, constantValue := 0 }, { name := "$assertionsDisabled", type := .boolean, accessFlags := 4120, slot := 9, constantValue := 0 }]
  methods := #[k20m0, k20m1, k20m2]
  instanceTypes := #[]
  staticTypes := #[.double, .double, .double, .double, .double, .long, .long, .double, .double, .boolean]
  resolved := Array.replicate 460 none
  statics := none }

def pool21 : Array CpInfo := pool [(2, .class_ 4), (1, u "java/lang/Object"), (0, u "<init>"), (0, u "()V"), (7, .class_ 16), (1, u "java/util/Arrays"), (57, .class_ 76), (1, u "java/util/Arrays$NaturalOrder"), (32, u "()Ljava/lang/Object;"), (3, .class_ 115), (1, u "java/util/Arrays$LegacyMergeSort"), (1, u "Z"), (10, .nameAndType 129 109), (0, u "clone"), (9, u "copyOfRange"), (10, .methodref 151 152), (0, .class_ 153), (0, .nameAndType 154 155), (0, u "java/lang/System"), (0, u "arraycopy"), (0, u "(Ljava/lang/Object;ILjava/lang/Object;II)V"), (146, u "copyOf"), (1, .methodref 305 306), (0, .class_ 307), (0, .nameAndType 308 309), (0, u "java/lang/Math"), (0, u "min"), (0, u "(II)I"), (0, .methodref 311 128), (0, .class_ 312), (0, u "[B"), (29, u "([BII)[B"), (32, .class_ 376), (0, u "java/util/Arrays$ArrayList"), (68, u "$assertionsDisabled"), (269, u "MIN_ARRAY_SORT_GRAN"), (0, u "I"), (2, u "INSERTIONSORT_THRESHOLD"), (149, u "([BI)[B"), (105, .class_ 976), (0, u "java/util/Arrays$ArrayItr")] 52

def k21m0 : Method := { name := "<init>", desc := "()V", sig := { parameters := [], returnType := none }, accessFlags := 2, code := none }
def k21c1 : Code := { maxStack := 6, maxLocals := 3, code := jdk_65_method_121_code, exceptionTable := #[], attributes := #[] }
def k21m1 : Method := { name := "copyOf", desc := "([BI)[B", sig := { parameters := [(.array .byte), .int], returnType := some (.array .byte) }, accessFlags := 9, code := some k21c1 }
def k21c2 : Code := { maxStack := 3, maxLocals := 3, code := jdk_65_method_132_code, exceptionTable := #[], attributes := #[] }
def k21m2 : Method := { name := "copyOfRange", desc := "([BII)[B", sig := { parameters := [(.array .byte), .int, .int], returnType := some (.array .byte) }, accessFlags := 9, code := some k21c2 }
/-- java/util/Arrays -/
def k21 : Class := { plain "java/util/Arrays" (some 0) with
  accessFlags := 49
  interfaces := #[]
  cf := some (fileOf pool21 14 #[.nestMembers #[975, 375, 113, 74]] #[{ accessFlags := 2, nameIndex := 5, descriptorIndex := 6, attributes := #[] }, { accessFlags := 9, nameIndex := 302, descriptorIndex := 869, attributes := #[] }, { accessFlags := 9, nameIndex := 139, descriptorIndex := 342, attributes := #[] }] 49 2 #[] #[{ accessFlags := 26, nameIndex := 715, descriptorIndex := 716, attributes := #[] }, { accessFlags := 26, nameIndex := 719, descriptorIndex := 716, attributes := #[] }, { accessFlags := 4120, nameIndex := 445, descriptorIndex := 117, attributes := #[] }])
  fields := #[{ name := "MIN_ARRAY_SORT_GRAN", type := .int, accessFlags := 26, slot := 0, constantValue := 0 }, { name := "INSERTIONSORT_THRESHOLD", type := .int, accessFlags := 26, slot := 1, constantValue := 0 }, { name := "$assertionsDisabled", type := .boolean, accessFlags := 4120, slot := 2, constantValue := 0 }]
  methods := #[k21m0, k21m1, k21m2]
  instanceTypes := #[]
  staticTypes := #[.int, .int, .boolean]
  resolved := Array.replicate 1029 none
  statics := none }

def pool22 : Array CpInfo := pool [(1, .class_ 2), (0, u "java/lang/Cloneable"), (0, .class_ 4), (0, u "java/lang/Object")] 2

/-- java/lang/Cloneable -/
def k22 : Class := { plain "java/lang/Cloneable" (some 0) with
  accessFlags := 1537
  interfaces := #[]
  cf := some (fileOf pool22 1 #[] #[] 1537 3 #[] #[])
  fields := #[]
  methods := #[]
  instanceTypes := #[]
  staticTypes := #[]
  resolved := Array.replicate 7 none
  statics := none }

def pool23 : Array CpInfo := pool [(4, .class_ 6), (1, u "java/lang/Object"), (0, u "<init>"), (0, u "()V"), (5, .class_ 16), (1, u "java/lang/StringLatin1"), (0, u "inflate"), (2, .class_ 22), (1, u "java/lang/StringUTF16"), (3, .nameAndType 17 27), (0, u "([BI[BII)V"), (93, u "$assertionsDisabled"), (0, u "Z"), (98, .class_ 223), (1, u "java/lang/StringLatin1$LinesSpliterator"), (16, .methodref 20 26), (40, u "equals"), (0, u "([B[B)Z"), (107, .class_ 391), (0, u "java/lang/StringLatin1$CharsSpliterator")] 3

def k23m0 : Method := { name := "<init>", desc := "()V", sig := { parameters := [], returnType := none }, accessFlags := 0, code := none }
def k23c1 : Code := { maxStack := 3, maxLocals := 3, code := jdk_43_method_13_code, exceptionTable := #[], attributes := #[] }
def k23m1 : Method := { name := "equals", desc := "([B[B)Z", sig := { parameters := [(.array .byte), (.array .byte)], returnType := some .boolean }, accessFlags := 9, code := some k23c1 }
def k23c2 : Code := { maxStack := 5, maxLocals := 5, code := jdk_43_method_50_code, exceptionTable := #[], attributes := #[] }
def k23m2 : Method := { name := "inflate", desc := "([BI[BII)V", sig := { parameters := [(.array .byte), .int, (.array .byte), .int, .int], returnType := none }, accessFlags := 9, code := some k23c2 }
/-- java/lang/StringLatin1 -/
def k23 : Class := { plain "java/lang/StringLatin1" (some 0) with
  accessFlags := 48
  interfaces := #[]
  cf := some (fileOf pool23 14 #[.nestMembers #[390, 221]] #[{ accessFlags := 0, nameIndex := 7, descriptorIndex := 8, attributes := #[] }, { accessFlags := 9, nameIndex := 281, descriptorIndex := 282, attributes := #[] }, { accessFlags := 9, nameIndex := 17, descriptorIndex := 27, attributes := #[] }] 48 4 #[] #[{ accessFlags := 4120, nameIndex := 121, descriptorIndex := 122, attributes := #[] }])
  fields := #[{ name := "$assertionsDisabled", type := .boolean, accessFlags := 4120, slot := 0, constantValue := 0 }]
  methods := #[k23m0, k23m1, k23m2]
  instanceTypes := #[]
  staticTypes := #[.boolean]
  resolved := Array.replicate 395 none
  statics := none }

def pool24 : Array CpInfo := pool [(3, .class_ 4), (0, u "java/lang/String"), (1, .class_ 8), (1, u "java/lang/Object"), (0, u "<init>"), (0, u "()V"), (0, .methodref 12 13), (0, .class_ 14), (0, .nameAndType 15 16), (0, u "java/lang/StringUTF16"), (0, u "newBytesLength"), (0, u "(I)I"), (3, .integer 1073741823), (23, .fieldref 12 45), (0, .nameAndType 46 47), (0, u "$assertionsDisabled"), (0, u "Z"), (0, .methodref 12 49), (0, .nameAndType 50 51), (0, u "length"), (0, u "([B)I"), (7, .fieldref 12 60), (0, .nameAndType 61 62), (0, u "HI_BYTE_SHIFT"), (0, u "I"), (0, .fieldref 12 64), (0, .nameAndType 65 62), (0, u "LO_BYTE_SHIFT"), (5, .methodref 12 72), (0, .nameAndType 73 74), (0, u "getChar"), (0, u "([BI)C"), (24, u "(II[B)V"), (7, .methodref 12 108), (0, .nameAndType 109 110), (0, u "newBytesFor"), (0, u "(I)[B"), (0, .methodref 12 112), (0, .nameAndType 113 114), (0, u "putChar"), (0, u "([BII)V"), (0, .methodref 12 116), (0, .nameAndType 117 118), (0, u "compress"), (0, u "([CI[BII)I"), (0, .methodref 12 120), (0, .nameAndType 121 122), (0, u "toBytes"), (0, u "([CII)[B"), (17, u "inflate"), (0, u "([BI[BII)V"), (31, .methodref 12 174), (0, .nameAndType 175 99), (0, u "checkBoundsOffCount"), (85, u "coderFromArrayLen"), (0, u "([BI)B"), (18, u "(III)I"), (87, .class_ 371), (1, u "java/lang/StringUTF16$LinesSpliterator"), (47, .methodref 3 420), (0, .nameAndType 175 281), (9, u "MAX_LENGTH"), (196, .class_ 628), (0, u "java/lang/StringUTF16$CodePointsSpliterator"), (0, .class_ 630), (0, u "java/lang/StringUTF16$CharsSpliterator")] 4

def k24m0 : Method := { name := "<init>", desc := "()V", sig := { parameters := [], returnType := none }, accessFlags := 0, code := none }
def k24c1 : Code := { maxStack := 1, maxLocals := 1, code := jdk_52_method_2_code, exceptionTable := #[], attributes := #[] }
def k24m1 : Method := { name := "newBytesFor", desc := "(I)[B", sig := { parameters := [.int], returnType := some (.array .byte) }, accessFlags := 9, code := some k24c1 }
def k24c2 : Code := { maxStack := 4, maxLocals := 1, code := jdk_52_method_3_code, exceptionTable := #[], attributes := #[] }
def k24m2 : Method := { name := "newBytesLength", desc := "(I)I", sig := { parameters := [.int], returnType := some .int }, accessFlags := 9, code := some k24c2 }
def k24c3 : Code := { maxStack := 4, maxLocals := 3, code := jdk_52_method_4_code, exceptionTable := #[], attributes := #[] }
def k24m3 : Method := { name := "putChar", desc := "([BII)V", sig := { parameters := [(.array .byte), .int, .int], returnType := none }, accessFlags := 8, code := some k24c3 }
def k24c4 : Code := { maxStack := 3, maxLocals := 2, code := jdk_52_method_5_code, exceptionTable := #[], attributes := #[] }
def k24m4 : Method := { name := "getChar", desc := "([BI)C", sig := { parameters := [(.array .byte), .int], returnType := some .char }, accessFlags := 8, code := some k24c4 }
def k24c5 : Code := { maxStack := 2, maxLocals := 1, code := jdk_52_method_6_code, exceptionTable := #[], attributes := #[] }
def k24m5 : Method := { name := "length", desc := "([B)I", sig := { parameters := [(.array .byte)], returnType := some .int }, accessFlags := 9, code := some k24c5 }
def k24c6 : Code := { maxStack := 4, maxLocals := 5, code := jdk_52_method_14_code, exceptionTable := #[], attributes := #[] }
def k24m6 : Method := { name := "toBytes", desc := "([CII)[B", sig := { parameters := [(.array .char), .int, .int], returnType := some (.array .byte) }, accessFlags := 9, code := some k24c6 }
def k24c7 : Code := { maxStack := 2, maxLocals := 2, code := jdk_52_method_15_code, exceptionTable := #[], attributes := #[] }
def k24m7 : Method := { name := "coderFromArrayLen", desc := "([BI)B", sig := { parameters := [(.array .byte), .int], returnType := some .byte }, accessFlags := 8, code := some k24c7 }
def k24c8 : Code := { maxStack := 5, maxLocals := 6, code := jdk_52_method_16_code, exceptionTable := #[], attributes := #[] }
def k24m8 : Method := { name := "compress", desc := "([CII)[B", sig := { parameters := [(.array .char), .int, .int], returnType := some (.array .byte) }, accessFlags := 9, code := some k24c8 }
def k24c9 : Code := { maxStack := 3, maxLocals := 7, code := jdk_52_method_21_code, exceptionTable := #[], attributes := #[] }
def k24m9 : Method := { name := "compress", desc := "([CI[BII)I", sig := { parameters := [(.array .char), .int, (.array .byte), .int, .int], returnType := some .int }, accessFlags := 9, code := some k24c9 }
def k24c10 : Code := { maxStack := 4, maxLocals := 6, code := jdk_52_method_86_code, exceptionTable := #[], attributes := #[] }
def k24m10 : Method := { name := "inflate", desc := "([BI[BII)V", sig := { parameters := [(.array .byte), .int, (.array .byte), .int, .int], returnType := none }, accessFlags := 9, code := some k24c10 }
def k24c11 : Code := { maxStack := 3, maxLocals := 3, code := jdk_52_method_94_code, exceptionTable := #[], attributes := #[] }
def k24m11 : Method := { name := "checkBoundsOffCount", desc := "(II[B)V", sig := { parameters := [.int, .int, (.array .byte)], returnType := none }, accessFlags := 9, code := some k24c11 }
/-- java/lang/StringUTF16 -/
def k24 : Class := { plain "java/lang/StringUTF16" (some 0) with
  accessFlags := 48
  interfaces := #[]
  cf := some (fileOf pool24 12 #[.nestMembers #[627, 629, 369]] #[{ accessFlags := 0, nameIndex := 9, descriptorIndex := 10, attributes := #[] }, { accessFlags := 9, nameIndex := 109, descriptorIndex := 110, attributes := #[] }, { accessFlags := 9, nameIndex := 15, descriptorIndex := 16, attributes := #[] }, { accessFlags := 8, nameIndex := 113, descriptorIndex := 114, attributes := #[] }, { accessFlags := 8, nameIndex := 73, descriptorIndex := 74, attributes := #[] }, { accessFlags := 9, nameIndex := 50, descriptorIndex := 51, attributes := #[] }, { accessFlags := 9, nameIndex := 121, descriptorIndex := 122, attributes := #[] }, { accessFlags := 8, nameIndex := 261, descriptorIndex := 262, attributes := #[] }, { accessFlags := 9, nameIndex := 117, descriptorIndex := 122, attributes := #[] }, { accessFlags := 9, nameIndex := 117, descriptorIndex := 118, attributes := #[] }, { accessFlags := 9, nameIndex := 140, descriptorIndex := 141, attributes := #[] }, { accessFlags := 9, nameIndex := 175, descriptorIndex := 99, attributes := #[] }] 48 6 #[] #[{ accessFlags := 26, nameIndex := 61, descriptorIndex := 62, attributes := #[] }, { accessFlags := 26, nameIndex := 65, descriptorIndex := 62, attributes := #[] }, { accessFlags := 24, nameIndex := 430, descriptorIndex := 62, attributes := #[] }, { accessFlags := 4120, nameIndex := 46, descriptorIndex := 47, attributes := #[] }])
  fields := #[{ name := "HI_BYTE_SHIFT", type := .int, accessFlags := 26, slot := 0, constantValue := 0 }, { name := "LO_BYTE_SHIFT", type := .int, accessFlags := 26, slot := 1, constantValue := 0 }, { name := "MAX_LENGTH", type := .int, accessFlags := 24, slot := 2, constantValue := 0 }, { name := "$assertionsDisabled", type := .boolean, accessFlags := 4120, slot := 3, constantValue := 0 }]
  methods := #[k24m0, k24m1, k24m2, k24m3, k24m4, k24m5, k24m6, k24m7, k24m8, k24m9, k24m10, k24m11]
  instanceTypes := #[]
  staticTypes := #[.int, .int, .int, .boolean]
  resolved := Array.replicate 635 none
  statics := some 2 }

def pool25 : Array CpInfo := pool [(2, .class_ 4), (1, u "java/lang/Object"), (0, u "<init>"), (0, u "()V"), (17, .class_ 26), (1, u "jdk/internal/util/Preconditions"), (22, u "checkFromIndexSize"), (5, .class_ 56), (0, u "jdk/internal/util/Preconditions$4"), (57, .class_ 115), (0, u "jdk/internal/util/Preconditions$1"), (7, u "SIOOBE_FORMATTER"), (0, u "Ljava/util/function/BiFunction;"), (0, .class_ 126), (0, u "jdk/internal/util/Preconditions$2"), (3, u "AIOOBE_FORMATTER"), (0, .class_ 132), (0, u "jdk/internal/util/Preconditions$3"), (3, u "IOOBE_FORMATTER"), (46, u "(IIILjava/util/function/BiFunction;)I")] 10

def k25m0 : Method := { name := "<init>", desc := "()V", sig := { parameters := [], returnType := none }, accessFlags := 1, code := none }
def k25c1 : Code := { maxStack := 4, maxLocals := 4, code := jdk_41_method_13_code, exceptionTable := #[], attributes := #[] }
def k25m1 : Method := { name := "checkFromIndexSize", desc := "(IIILjava/util/function/BiFunction;)I", sig := { parameters := [.int, .int, .int, (.object "java/util/function/BiFunction")], returnType := some .int }, accessFlags := 9, code := some k25c1 }
/-- jdk/internal/util/Preconditions -/
def k25 : Class := { plain "jdk/internal/util/Preconditions" (some 0) with
  accessFlags := 33
  interfaces := #[]
  cf := some (fileOf pool25 24 #[.nestMembers #[55, 131, 125, 114]] #[{ accessFlags := 1, nameIndex := 5, descriptorIndex := 6, attributes := #[] }, { accessFlags := 9, nameIndex := 49, descriptorIndex := 183, attributes := #[] }] 33 2 #[] #[{ accessFlags := 25, nameIndex := 123, descriptorIndex := 124, attributes := #[] }, { accessFlags := 25, nameIndex := 130, descriptorIndex := 124, attributes := #[] }, { accessFlags := 25, nameIndex := 136, descriptorIndex := 124, attributes := #[] }])
  fields := #[{ name := "SIOOBE_FORMATTER", type := (.object "java/util/function/BiFunction"), accessFlags := 25, slot := 0, constantValue := 0 }, { name := "AIOOBE_FORMATTER", type := (.object "java/util/function/BiFunction"), accessFlags := 25, slot := 1, constantValue := 0 }, { name := "IOOBE_FORMATTER", type := (.object "java/util/function/BiFunction"), accessFlags := 25, slot := 2, constantValue := 0 }]
  methods := #[k25m0, k25m1]
  instanceTypes := #[]
  staticTypes := #[(.object "java/util/function/BiFunction"), (.object "java/util/function/BiFunction"), (.object "java/util/function/BiFunction")]
  resolved := Array.replicate 194 none
  statics := some 3 }

def pool26 : Array CpInfo := pool [(2, .class_ 4), (1, u "java/lang/Object"), (0, u "<init>"), (0, u "()V"), (12, .class_ 20), (0, u "java/util/Collections"), (63, u "r"), (0, u "Ljava/util/Random;"), (80, .class_ 167), (0, u "java/util/Collections$UnmodifiableCollection"), (6, .class_ 175), (0, u "java/util/Collections$UnmodifiableSequencedCollection"), (6, .class_ 183), (0, u "java/util/Collections$UnmodifiableSet"), (6, .class_ 191), (0, u "java/util/Collections$UnmodifiableSequencedSet"), (6, .class_ 199), (0, u "java/util/Collections$UnmodifiableSortedSet"), (6, .class_ 207), (0, u "java/util/Collections$UnmodifiableNavigableSet"), (4, .class_ 213), (0, u "java/util/Collections$UnmodifiableList"), (1, .class_ 216), (0, u "java/util/Collections$UnmodifiableRandomAccessList"), (6, .class_ 224), (0, u "java/util/Collections$UnmodifiableMap"), (6, .class_ 232), (0, u "java/util/Collections$UnmodifiableSequencedMap"), (4, .class_ 238), (0, u "java/util/Collections$UnmodifiableSortedMap"), (6, .class_ 246), (0, u "java/util/Collections$UnmodifiableNavigableMap"), (3, .class_ 251), (0, u "java/util/Collections$SynchronizedCollection"), (4, .class_ 257), (0, u "java/util/Collections$SynchronizedSet"), (4, .class_ 263), (0, u "java/util/Collections$SynchronizedSortedSet"), (1, .class_ 266), (0, u "java/util/Collections$SynchronizedNavigableSet"), (1, .class_ 269), (0, u "java/util/Collections$SynchronizedRandomAccessList"), (1, .class_ 272), (0, u "java/util/Collections$SynchronizedList"), (5, .class_ 279), (0, u "java/util/Collections$SynchronizedMap"), (1, .class_ 282), (0, u "java/util/Collections$SynchronizedSortedMap"), (1, .class_ 285), (0, u "java/util/Collections$SynchronizedNavigableMap"), (1, .class_ 288), (0, u "java/util/Collections$CheckedCollection"), (11, .class_ 301), (0, u "java/util/Collections$CheckedQueue"), (3, .class_ 306), (0, u "java/util/Collections$CheckedSet"), (3, .class_ 311), (0, u "java/util/Collections$CheckedSortedSet"), (3, .class_ 316), (0, u "java/util/Collections$CheckedNavigableSet"), (3, .class_ 321), (0, u "java/util/Collections$CheckedRandomAccessList"), (3, .class_ 326), (0, u "java/util/Collections$CheckedList"), (1, .class_ 329), (0, u "java/util/Collections$CheckedMap"), (3, .class_ 334), (0, u "java/util/Collections$CheckedSortedMap"), (3, .class_ 339), (0, u "java/util/Collections$CheckedNavigableMap"), (4, .class_ 346), (1, u "java/util/Collections$EmptyIterator"), (3, .class_ 352), (1, u "java/util/Collections$EmptyListIterator"), (2, .class_ 357), (1, u "java/util/Collections$EmptyEnumeration"), (4, u "EMPTY_SET"), (0, u "Ljava/util/Set;"), (6, u "EMPTY_LIST"), (0, u "Ljava/util/List;"), (2, u "EMPTY_MAP"), (0, u "Ljava/util/Map;"), (4, .class_ 381), (0, u "java/util/Collections$SingletonSet"), (2, .class_ 385), (0, u "java/util/Collections$1"), (1, .class_ 388), (0, u "java/util/Collections$2"), (1, .class_ 391), (0, u "java/util/Collections$SingletonList"), (1, .class_ 394), (0, u "java/util/Collections$SingletonMap"), (22, .class_ 418), (0, u "java/util/Collections$CopiesList"), (4, .class_ 425), (1, u "java/util/Collections$ReverseComparator"), (8, .class_ 435), (0, u "java/util/Collections$ReverseComparator2"), (6, .class_ 443), (0, u "java/util/Collections$3"), (25, .class_ 470), (0, u "java/util/Collections$SetFromMap"), (2, .class_ 474), (0, u "java/util/Collections$SequencedSetFromMap"), (3, .class_ 479), (0, u "java/util/Collections$AsLIFOQueue"), (11, .class_ 492), (0, u "java/util/Collections$EmptySet"), (1, .class_ 495), (0, u "java/util/Collections$EmptyList"), (1, .class_ 498), (0, u "java/util/Collections$EmptyMap"), (1, u "BINARYSEARCH_THRESHOLD"), (0, u "I"), (2, u "REVERSE_THRESHOLD"), (1, u "SHUFFLE_THRESHOLD"), (1, u "FILL_THRESHOLD"), (1, u "ROTATE_THRESHOLD"), (1, u "COPY_THRESHOLD"), (1, u "REPLACEALL_THRESHOLD"), (1, u "INDEXOFSUBLIST_THRESHOLD"), (333, .class_ 851), (0, u "java/util/Collections$CheckedMap$CheckedEntrySet"), (0, .class_ 853), (0, u "java/util/Collections$CheckedMap$CheckedEntrySet$CheckedEntry"), (0, .class_ 855), (0, u "java/util/Collections$CheckedMap$CheckedEntrySet$1"), (0, .class_ 857), (0, u "java/util/Collections$CheckedList$1"), (0, .class_ 859), (0, u "java/util/Collections$CheckedCollection$1"), (0, .class_ 861), (0, u "java/util/Collections$UnmodifiableNavigableMap$EmptyNavigableMap"), (0, .class_ 863), (0, u "java/util/Collections$UnmodifiableMap$UnmodifiableEntrySet"), (0, .class_ 865), (0, u "java/util/Collections$UnmodifiableMap$UnmodifiableEntrySet$UnmodifiableEntry"), (0, .class_ 867), (0, u "java/util/Collections$UnmodifiableMap$UnmodifiableEntrySet$UnmodifiableEntrySetSpliterator"), (0, .class_ 869), (0, u "java/util/Collections$UnmodifiableMap$UnmodifiableEntrySet$1"), (0, .class_ 871), (0, u "java/util/Collections$UnmodifiableList$1"), (0, .class_ 873), (0, u "java/util/Collections$UnmodifiableNavigableSet$EmptyNavigableSet"), (0, .class_ 875), (0, u "java/util/Collections$UnmodifiableCollection$1")] 57

def k26m0 : Method := { name := "<init>", desc := "()V", sig := { parameters := [], returnType := none }, accessFlags := 2, code := none }
/-- java/util/Collections -/
def k26 : Class := { plain "java/util/Collections" (some 0) with
  accessFlags := 33
  interfaces := #[]
  cf := some (fileOf pool26 19 #[.nestMembers #[478, 473, 469, 434, 423, 417, 393, 390, 380, 497, 494, 491, 355, 350, 344, 338, 333, 328, 850, 852, 854, 320, 325, 856, 315, 310, 305, 300, 287, 858, 284, 281, 278, 268, 271, 265, 262, 256, 250, 245, 860, 237, 231, 223, 862, 864, 866, 868, 215, 212, 870, 206, 872, 198, 190, 182, 174, 166, 874, 442, 387, 384]] #[{ accessFlags := 2, nameIndex := 5, descriptorIndex := 6, attributes := #[] }] 33 2 #[] #[{ accessFlags := 26, nameIndex := 500, descriptorIndex := 501, attributes := #[] }, { accessFlags := 26, nameIndex := 504, descriptorIndex := 501, attributes := #[] }, { accessFlags := 26, nameIndex := 506, descriptorIndex := 501, attributes := #[] }, { accessFlags := 26, nameIndex := 508, descriptorIndex := 501, attributes := #[] }, { accessFlags := 26, nameIndex := 510, descriptorIndex := 501, attributes := #[] }, { accessFlags := 26, nameIndex := 512, descriptorIndex := 501, attributes := #[] }, { accessFlags := 26, nameIndex := 514, descriptorIndex := 501, attributes := #[] }, { accessFlags := 26, nameIndex := 516, descriptorIndex := 501, attributes := #[] }, { accessFlags := 10, nameIndex := 84, descriptorIndex := 85, attributes := #[] }, { accessFlags := 25, nameIndex := 362, descriptorIndex := 363, attributes := #[] }, { accessFlags := 25, nameIndex := 370, descriptorIndex := 371, attributes := #[] }, { accessFlags := 25, nameIndex := 374, descriptorIndex := 375, attributes := #[] }])
  fields := #[{ name := "BINARYSEARCH_THRESHOLD", type := .int, accessFlags := 26, slot := 0, constantValue := 0 }, { name := "REVERSE_THRESHOLD", type := .int, accessFlags := 26, slot := 1, constantValue := 0 }, { name := "SHUFFLE_THRESHOLD", type := .int, accessFlags := 26, slot := 2, constantValue := 0 }, { name := "FILL_THRESHOLD", type := .int, accessFlags := 26, slot := 3, constantValue := 0 }, { name := "ROTATE_THRESHOLD", type := .int, accessFlags := 26, slot := 4, constantValue := 0 }, { name := "COPY_THRESHOLD", type := .int, accessFlags := 26, slot := 5, constantValue := 0 }, { name := "REPLACEALL_THRESHOLD", type := .int, accessFlags := 26, slot := 6, constantValue := 0 }, { name := "INDEXOFSUBLIST_THRESHOLD", type := .int, accessFlags := 26, slot := 7, constantValue := 0 }, { name := "r", type := (.object "java/util/Random"), accessFlags := 10, slot := 8, constantValue := 0 }, { name := "EMPTY_SET", type := (.object "java/util/Set"), accessFlags := 25, slot := 9, constantValue := 0 }, { name := "EMPTY_LIST", type := (.object "java/util/List"), accessFlags := 25, slot := 10, constantValue := 0 }, { name := "EMPTY_MAP", type := (.object "java/util/Map"), accessFlags := 25, slot := 11, constantValue := 0 }]
  methods := #[k26m0]
  instanceTypes := #[]
  staticTypes := #[.int, .int, .int, .int, .int, .int, .int, .int, (.object "java/util/Random"), (.object "java/util/Set"), (.object "java/util/List"), (.object "java/util/Map")]
  resolved := Array.replicate 933 none
  statics := some 4 }

def pool27 : Array CpInfo := pool [(8, .class_ 10), (1, u "java/lang/Iterable"), (24, .class_ 36), (0, u "java/lang/Object")] 25

/-- java/lang/Iterable -/
def k27 : Class := { plain "java/lang/Iterable" (some 0) with
  accessFlags := 1537
  interfaces := #[]
  cf := some (fileOf pool27 8 #[] #[] 1537 35 #[] #[])
  fields := #[]
  methods := #[]
  instanceTypes := #[]
  staticTypes := #[]
  resolved := Array.replicate 62 none
  statics := none }

def pool28 : Array CpInfo := pool [(10, .class_ 12), (1, u "java/util/Collection"), (47, .class_ 61), (0, u "java/lang/Object"), (0, .class_ 63), (0, u "java/lang/Iterable")] 51

/-- java/util/Collection -/
def k28 : Class := { plain "java/util/Collection" (some 0) with
  accessFlags := 1537
  interfaces := #[27]
  cf := some (fileOf pool28 10 #[] #[] 1537 60 #[62] #[])
  fields := #[]
  methods := #[]
  instanceTypes := #[]
  staticTypes := #[]
  resolved := Array.replicate 115 none
  statics := none }

def pool29 : Array CpInfo := pool [(2, .class_ 4), (1, u "java/lang/Object"), (0, u "<init>"), (0, u "()V"), (1, .class_ 10), (1, u "java/util/AbstractCollection"), (66, .class_ 78), (0, u "java/util/Collection")] 81

def k29m0 : Method := { name := "<init>", desc := "()V", sig := { parameters := [], returnType := none }, accessFlags := 4, code := none }
/-- java/util/AbstractCollection -/
def k29 : Class := { plain "java/util/AbstractCollection" (some 0) with
  accessFlags := 1057
  interfaces := #[28]
  cf := some (fileOf pool29 8 #[] #[{ accessFlags := 4, nameIndex := 5, descriptorIndex := 6, attributes := #[] }] 1057 2 #[77] #[])
  fields := #[]
  methods := #[k29m0]
  instanceTypes := #[]
  staticTypes := #[]
  resolved := Array.replicate 160 none
  statics := none }

def pool30 : Array CpInfo := pool [(8, .class_ 10), (1, u "java/util/SequencedCollection"), (15, .class_ 27), (0, u "java/lang/Object"), (0, .class_ 29), (0, u "java/util/Collection")] 27

/-- java/util/SequencedCollection -/
def k30 : Class := { plain "java/util/SequencedCollection" (some 0) with
  accessFlags := 1537
  interfaces := #[28]
  cf := some (fileOf pool30 8 #[] #[] 1537 26 #[28] #[])
  fields := #[]
  methods := #[]
  instanceTypes := #[]
  staticTypes := #[]
  resolved := Array.replicate 57 none
  statics := none }

def pool31 : Array CpInfo := pool [(8, .class_ 10), (1, u "java/util/List"), (92, .class_ 104), (0, u "java/lang/Object"), (15, .class_ 121), (0, u "java/util/SequencedCollection")] 129

/-- java/util/List -/
def k31 : Class := { plain "java/util/List" (some 0) with
  accessFlags := 1537
  interfaces := #[30]
  cf := some (fileOf pool31 8 #[] #[] 1537 103 #[120] #[])
  fields := #[]
  methods := #[]
  instanceTypes := #[]
  staticTypes := #[]
  resolved := Array.replicate 251 none
  statics := none }

def pool32 : Array CpInfo := pool [(2, .class_ 4), (1, u "java/util/AbstractCollection"), (0, u "<init>"), (0, u "()V"), (1, .class_ 10), (1, u "java/util/AbstractList"), (0, u "modCount"), (0, u "I"), (64, .class_ 78), (0, u "java/util/AbstractList$Itr"), (3, .class_ 83), (0, u "java/util/AbstractList$ListItr"), (9, .class_ 94), (0, u "java/util/AbstractList$RandomAccessSubList"), (3, .class_ 99), (0, u "java/util/AbstractList$SubList"), (33, .class_ 134), (0, u "java/util/List"), (73, .class_ 209), (0, u "java/util/AbstractList$SubList$1"), (0, .class_ 211), (0, u "java/util/AbstractList$RandomAccessSpliterator")] 6

def k32m0 : Method := { name := "<init>", desc := "()V", sig := { parameters := [], returnType := none }, accessFlags := 4, code := none }
/-- java/util/AbstractList -/
def k32 : Class := { plain "java/util/AbstractList" (some 29) with
  accessFlags := 1057
  interfaces := #[31]
  cf := some (fileOf pool32 8 #[.nestMembers #[93, 98, 208, 210, 82, 77]] #[{ accessFlags := 4, nameIndex := 5, descriptorIndex := 6, attributes := #[] }] 1057 2 #[133] #[{ accessFlags := 132, nameIndex := 11, descriptorIndex := 12, attributes := #[] }])
  fields := #[{ name := "modCount", type := .int, accessFlags := 132, slot := 0, constantValue := 0 }]
  methods := #[k32m0]
  instanceTypes := #[.int]
  staticTypes := #[]
  resolved := Array.replicate 218 none
  statics := none }

def pool33 : Array CpInfo := pool [(1, .class_ 2), (0, u "java/util/RandomAccess"), (0, .class_ 4), (0, u "java/lang/Object")] 2

/-- java/util/RandomAccess -/
def k33 : Class := { plain "java/util/RandomAccess" (some 0) with
  accessFlags := 1537
  interfaces := #[]
  cf := some (fileOf pool33 1 #[] #[] 1537 3 #[] #[])
  fields := #[]
  methods := #[]
  instanceTypes := #[]
  staticTypes := #[]
  resolved := Array.replicate 7 none
  statics := none }

def pool34 : Array CpInfo := pool [(2, .class_ 4), (1, u "java/util/AbstractList"), (0, u "<init>"), (0, u "()V"), (1, .class_ 10), (1, u "java/util/Collections"), (54, .class_ 66), (0, u "java/util/Collections$EmptyList"), (0, .class_ 68), (0, u "java/util/RandomAccess"), (0, .class_ 70), (0, u "java/io/Serializable"), (0, u "serialVersionUID"), (0, u "J")] 77

def k34m0 : Method := { name := "<init>", desc := "()V", sig := { parameters := [], returnType := none }, accessFlags := 2, code := none }
/-- java/util/Collections$EmptyList -/
def k34 : Class := { plain "java/util/Collections$EmptyList" (some 32) with
  accessFlags := 32
  interfaces := #[33, 2]
  cf := some (fileOf pool34 65 #[.nestHost 8] #[{ accessFlags := 2, nameIndex := 5, descriptorIndex := 6, attributes := #[] }] 32 2 #[67, 69] #[{ accessFlags := 26, nameIndex := 71, descriptorIndex := 72, attributes := #[] }])
  fields := #[{ name := "serialVersionUID", type := .long, accessFlags := 26, slot := 0, constantValue := 0 }]
  methods := #[k34m0]
  instanceTypes := #[.int]
  staticTypes := #[.long]
  resolved := Array.replicate 150 none
  statics := none }

def pool35 : Array CpInfo := pool [(2, .class_ 4), (1, u "java/lang/StackTraceElement"), (0, u "<init>"), (2, .class_ 10), (1, u "java/lang/Object"), (0, u "()V"), (2, u "format"), (0, u "B"), (2, u "classLoaderName"), (0, u "Ljava/lang/String;"), (2, u "moduleName"), (2, u "moduleVersion"), (12, u "declaringClass"), (4, u "methodName"), (2, u "fileName"), (2, u "lineNumber"), (0, u "I"), (65, u "declaringClassObject"), (0, u "Ljava/lang/Class;"), (33, .class_ 153), (1, u "java/lang/StackTraceElement$HashedModules"), (17, .class_ 172), (0, u "java/io/Serializable"), (0, u "NATIVE_METHOD"), (1, u "UNKNOWN_SOURCE"), (2, u "BUILTIN_CLASS_LOADER"), (1, u "JDK_NON_UPGRADEABLE_MODULE"), (1, u "serialVersionUID"), (0, u "J")] 51

def k35m0 : Method := { name := "<init>", desc := "()V", sig := { parameters := [], returnType := none }, accessFlags := 2, code := none }
/-- java/lang/StackTraceElement -/
def k35 : Class := { plain "java/lang/StackTraceElement" (some 0) with
  accessFlags := 49
  interfaces := #[2]
  cf := some (fileOf pool35 2 #[.nestMembers #[151]] #[{ accessFlags := 2, nameIndex := 5, descriptorIndex := 11, attributes := #[] }] 49 8 #[171] #[{ accessFlags := 26, nameIndex := 173, descriptorIndex := 19, attributes := #[] }, { accessFlags := 26, nameIndex := 175, descriptorIndex := 19, attributes := #[] }, { accessFlags := 130, nameIndex := 116, descriptorIndex := 117, attributes := #[] }, { accessFlags := 2, nameIndex := 18, descriptorIndex := 19, attributes := #[] }, { accessFlags := 2, nameIndex := 22, descriptorIndex := 19, attributes := #[] }, { accessFlags := 2, nameIndex := 25, descriptorIndex := 19, attributes := #[] }, { accessFlags := 2, nameIndex := 38, descriptorIndex := 19, attributes := #[] }, { accessFlags := 2, nameIndex := 43, descriptorIndex := 19, attributes := #[] }, { accessFlags := 2, nameIndex := 46, descriptorIndex := 19, attributes := #[] }, { accessFlags := 2, nameIndex := 49, descriptorIndex := 50, attributes := #[] }, { accessFlags := 2, nameIndex := 14, descriptorIndex := 15, attributes := #[] }, { accessFlags := 26, nameIndex := 178, descriptorIndex := 15, attributes := #[] }, { accessFlags := 26, nameIndex := 180, descriptorIndex := 15, attributes := #[] }, { accessFlags := 26, nameIndex := 182, descriptorIndex := 183, attributes := #[] }])
  fields := #[{ name := "NATIVE_METHOD", type := (.object "java/lang/String"), accessFlags := 26, slot := 0, constantValue := 0 }, { name := "UNKNOWN_SOURCE", type := (.object "java/lang/String"), accessFlags := 26, slot := 1, constantValue := 0 }, { name := "declaringClassObject", type := (.object "java/lang/Class"), accessFlags := 130, slot := 0, constantValue := 0 }, { name := "classLoaderName", type := (.object "java/lang/String"), accessFlags := 2, slot := 1, constantValue := 0 }, { name := "moduleName", type := (.object "java/lang/String"), accessFlags := 2, slot := 2, constantValue := 0 }, { name := "moduleVersion", type := (.object "java/lang/String"), accessFlags := 2, slot := 3, constantValue := 0 }, { name := "declaringClass", type := (.object "java/lang/String"), accessFlags := 2, slot := 4, constantValue := 0 }, { name := "methodName", type := (.object "java/lang/String"), accessFlags := 2, slot := 5, constantValue := 0 }, { name := "fileName", type := (.object "java/lang/String"), accessFlags := 2, slot := 6, constantValue := 0 }, { name := "lineNumber", type := .int, accessFlags := 2, slot := 7, constantValue := 0 }, { name := "format", type := .byte, accessFlags := 2, slot := 8, constantValue := 0 }, { name := "BUILTIN_CLASS_LOADER", type := .byte, accessFlags := 26, slot := 2, constantValue := 0 }, { name := "JDK_NON_UPGRADEABLE_MODULE", type := .byte, accessFlags := 26, slot := 3, constantValue := 0 }, { name := "serialVersionUID", type := .long, accessFlags := 26, slot := 4, constantValue := 0 }]
  methods := #[k35m0]
  instanceTypes := #[(.object "java/lang/Class"), (.object "java/lang/String"), (.object "java/lang/String"), (.object "java/lang/String"), (.object "java/lang/String"), (.object "java/lang/String"), (.object "java/lang/String"), .int, .byte]
  staticTypes := #[(.object "java/lang/String"), (.object "java/lang/String"), .byte, .byte, .long]
  resolved := Array.replicate 235 none
  statics := none }

/-- the primitive byte -/
def k36 : Class := { plain "byte" none with kind := .primitive 'B', accessFlags := 0x411 }
/-- [B -/
def k37 : Class := { plain "[B" (some 0) with kind := .array 36 .byte, interfaces := #[22, 2], accessFlags := 1041 }

/-- the primitive char -/
def k38 : Class := { plain "char" none with kind := .primitive 'C', accessFlags := 0x411 }
/-- [C -/
def k39 : Class := { plain "[C" (some 0) with kind := .array 38 .char, interfaces := #[22, 2], accessFlags := 1041 }

/-- the primitive int -/
def k40 : Class := { plain "int" none with kind := .primitive 'I', accessFlags := 0x411 }
/-- [I -/
def k41 : Class := { plain "[I" (some 0) with kind := .array 40 .int, interfaces := #[22, 2], accessFlags := 1041 }

/-- [Ljava/lang/Object; -/
def k42 : Class := { plain "[Ljava/lang/Object;" (some 0) with kind := .array 0 (.object "java/lang/Object"), interfaces := #[22, 2], accessFlags := 1041 }

/-- [Ljava/lang/StackTraceElement; -/
def k43 : Class := { plain "[Ljava/lang/StackTraceElement;" (some 0) with kind := .array 35 (.object "java/lang/StackTraceElement"), interfaces := #[22, 2], accessFlags := 1041 }

/-- [Ljava/lang/Throwable; -/
def k44 : Class := { plain "[Ljava/lang/Throwable;" (some 0) with kind := .array 11 (.object "java/lang/Throwable"), interfaces := #[22, 2], accessFlags := 1041 }

def heap : Heap := #[{ cls := 7, slots := #[.long 0, .int 1, .null, .int 0, .null, .int 0, .int 0], vm := .statics 7 },
  { cls := 11, slots := #[.long 0, .ref 5, .ref 6, .null, .null, .null, .null, .ref 7, .int 1], vm := .statics 11 },
  { cls := 24, slots := #[.int 0, .int 8, .int 0, .int 1], vm := .statics 24 },
  { cls := 25, slots := #[.null, .null, .null], vm := .statics 25 },
  { cls := 26, slots := #[.int 0, .int 0, .int 0, .int 0, .int 0, .int 0, .int 0, .int 0, .null, .null, .ref 6, .null], vm := .statics 26 },
  { cls := 43, slots := #[], vm := .none },
  { cls := 34, slots := #[.int 0], vm := .none },
  { cls := 44, slots := #[], vm := .none }]
def classes : Array Class := #[k0, k1, k2, k3, k4, k5, k6, k7, k8, k9, k10, k11, k12, k13, k14, k15, k16, k17, k18, k19, k20, k21, k22, k23, k24, k25, k26, k27, k28, k29, k30, k31, k32, k33, k34, k35, k36, k37, k38, k39, k40, k41, k42, k43, k44]
def interned : List (Array UInt16 × Addr) := []
def slotsUsed : Nat := 36
def theMethod : MethodId := ⟨1, 1⟩
def args0 : Array Value := #[.int 5, .int 1, .int 260, .int 0]
def aboutOver (below : List Frame) : State where
  vm := { classes := classes, interned := interned.toArray }
  heap := heap
  slotsUsed := slotsUsed
  threads := #[{ frames := .invoking theMethod args0 :: below }]
def below0 : List Frame := [.native { method := ⟨0, 0⟩, args := #[] }]
def about1 : State := aboutOver below0
def p0 : Program := .bare "" "" ""
def e0 : Env := launch0.env 0 0 0
theorem w_frames : about1.frames = Frame.invoking theMethod args0 :: below0 := rfl
set_option maxRecDepth 65536 in
theorem w_args : argsFit about1.vm theMethod args0 = true := by decide +kernel
set_option maxRecDepth 65536 in
theorem w_heap : heapFits about1 = true := by decide +kernel
set_option maxRecDepth 65536 in
theorem w_runnable : about1.curStatus? = some .runnable := by decide +kernel
set_option maxRecDepth 65536 in
theorem w_alone : about1.alone = true := by decide +kernel
set_option maxRecDepth 65536 in
theorem w_named : about1.methodNamed? x = some theMethod := by decide +kernel
set_option maxRecDepth 65536 in
theorem w_hears : about1.hears theMethod below0 = true := by decide +kernel
set_option maxRecDepth 65536 in
theorem w_ripe : about1.ripe theMethod args0 below0 = true := by decide +kernel
theorem w_running : about1.status = .running := rfl
set_option maxRecDepth 65536 in
theorem w_room : about1.hasRoom e0.platform room_1 = true :=
  launch0.hasRoom_least _ room_1 (by decide +kernel) (by decide +kernel) (by decide +kernel) (by decide +kernel) (by decide +kernel) (by decide +kernel)
theorem allAtoms_all (ts : List Jvm.Cond) (a : Array Jvm.Value) (st : Jvm.State) : (allAtoms ts).before a st = ts.all (fun c => c.before a st) := by
  induction ts with
  | nil => rfl
  | cons c t ih =>
    show (Jvm.Cond.and c (allAtoms t)).before a st = _
    rw [Jvm.Cond.before_and, ih, List.all_cons]
def words1 : List Jvm.Cond := Jvm.Cond.code x code maxLocals ret :: tables_1
/-- a 'code' word, met by the world's own term for the bytes: nothing is compared byte by byte -/
theorem code_word {y : MethodName} {bytes : ByteArray} {mx : Nat} {rt : Option FieldType} {a : Array Value} {s : State} {m : MethodId} {meth : Method} {c : Code} (h1 : s.methodNamed? y = some m) (h2 : s.vm.method? m = some meth) (h3 : meth.code = some c) (h4 : c.code = bytes)
    (h5 : (c.maxLocals == mx && c.exceptionTable.isEmpty && decide (c.maxStack ≤ mostOperands) && decide (meth.sig.returnType = rt) && !meth.locks && decide (parseMethodDescriptor y.desc = some meth.sig)) = true) : (Jvm.Cond.code y bytes mx rt).before a s = true := by
  simp only [Bool.and_eq_true, beq_iff_eq, Bool.not_eq_true', decide_eq_true_eq] at h5
  obtain ⟨⟨⟨⟨⟨g1, g2⟩, g3⟩, g4⟩, g5⟩, g6⟩ := h5
  simp [Cond.before, Cond.holds, Cond.value, h1, h2, h3, h4, g1, g2, g3, g4, g5, g6]
def isCode : Jvm.Cond → Bool
  | .code _ _ _ _ => true
  | _ => false
theorem all_split {L : List Jvm.Cond} {P : Jvm.Cond → Bool} (h1 : L.all (fun c => isCode c || P c) = true) (h2 : ∀ c ∈ L.filter isCode, P c = true) : L.all P = true := by
  refine List.all_eq_true.mpr fun c hc => ?_
  have h := List.all_eq_true.mp h1 c hc
  rcases Bool.eq_false_or_eq_true (isCode c) with hi | hi
  · exact h2 c (List.mem_filter.mpr ⟨hc, hi⟩)
  · simpa [hi] using h
set_option maxRecDepth 65536 in
theorem w_c0 : (Jvm.Cond.code x code maxLocals ret).before args0 about1 = true := code_word (m := ⟨1, 1⟩) (meth := k1m1) (c := k1c1) (by decide +kernel) rfl rfl rfl (by decide +kernel)
set_option maxRecDepth 65536 in
theorem w_c1 : (Jvm.Cond.code ({ cls := "java/lang/String", name := "<init>", desc := "([C)V" } : Jvm.MethodName) jdk_42_method_3_code (2 : Nat) (Option.none : Option Jvm.ClassFile.FieldType)).before args0 about1 = true := code_word (m := ⟨7, 1⟩) (meth := k7m1) (c := k7c1) (by decide +kernel) rfl rfl rfl (by decide +kernel)
set_option maxRecDepth 65536 in
theorem w_c2 : (Jvm.Cond.code ({ cls := "java/lang/String", name := "<init>", desc := "([CIILjava/lang/Void;)V" } : Jvm.MethodName) jdk_42_method_149_code (6 : Nat) (Option.none : Option Jvm.ClassFile.FieldType)).before args0 about1 = true := code_word (m := ⟨7, 6⟩) (meth := k7m6) (c := k7c6) (by decide +kernel) rfl rfl rfl (by decide +kernel)
set_option maxRecDepth 65536 in
theorem w_c3 : (Jvm.Cond.code ({ cls := "java/lang/Object", name := "<init>", desc := "()V" } : Jvm.MethodName) object_method_1_code (1 : Nat) (Option.none : Option Jvm.ClassFile.FieldType)).before args0 about1 = true := code_word (m := ⟨0, 0⟩) (meth := k0m0) (c := k0c0) (by decide +kernel) rfl rfl rfl (by decide +kernel)
set_option maxRecDepth 65536 in
theorem w_c4 : (Jvm.Cond.code ({ cls := "wirefold/Context", name := "setUpAlready", desc := "(Ljava/lang/String;)Ljava/lang/IllegalStateException;" } : Jvm.MethodName) prog_24_method_16_code (1 : Nat) (Option.some (Jvm.ClassFile.FieldType.object "java/lang/IllegalStateException"))).before args0 about1 = true := code_word (m := ⟨10, 1⟩) (meth := k10m1) (c := k10c1) (by decide +kernel) rfl rfl rfl (by decide +kernel)
set_option maxRecDepth 65536 in
theorem w_c5 : (Jvm.Cond.code ({ cls := "java/lang/StringBuilder", name := "<init>", desc := "()V" } : Jvm.MethodName) jdk_67_method_1_code (1 : Nat) (Option.none : Option Jvm.ClassFile.FieldType)).before args0 about1 = true := code_word (m := ⟨17, 0⟩) (meth := k17m0) (c := k17c0) (by decide +kernel) rfl rfl rfl (by decide +kernel)
set_option maxRecDepth 65536 in
theorem w_c6 : (Jvm.Cond.code ({ cls := "java/lang/AbstractStringBuilder", name := "<init>", desc := "(I)V" } : Jvm.MethodName) jdk_68_method_2_code (2 : Nat) (Option.none : Option Jvm.ClassFile.FieldType)).before args0 about1 = true := code_word (m := ⟨16, 1⟩) (meth := k16m1) (c := k16c1) (by decide +kernel) rfl rfl rfl (by decide +kernel)
set_option maxRecDepth 65536 in
theorem w_c7 : (Jvm.Cond.code ({ cls := "java/lang/StringBuilder", name := "append", desc := "(Ljava/lang/String;)Ljava/lang/StringBuilder;" } : Jvm.MethodName) jdk_67_method_7_code (2 : Nat) (Option.some (Jvm.ClassFile.FieldType.object "java/lang/StringBuilder"))).before args0 about1 = true := code_word (m := ⟨17, 1⟩) (meth := k17m1) (c := k17c1) (by decide +kernel) rfl rfl rfl (by decide +kernel)
set_option maxRecDepth 65536 in
theorem w_c8 : (Jvm.Cond.code ({ cls := "java/lang/AbstractStringBuilder", name := "append", desc := "(Ljava/lang/String;)Ljava/lang/AbstractStringBuilder;" } : Jvm.MethodName) jdk_68_method_22_code (3 : Nat) (Option.some (Jvm.ClassFile.FieldType.object "java/lang/AbstractStringBuilder"))).before args0 about1 = true := code_word (m := ⟨16, 6⟩) (meth := k16m6) (c := k16c6) (by decide +kernel) rfl rfl rfl (by decide +kernel)
set_option maxRecDepth 65536 in
theorem w_c9 : (Jvm.Cond.code ({ cls := "java/lang/String", name := "length", desc := "()I" } : Jvm.MethodName) jdk_42_method_54_code (1 : Nat) (Option.some Jvm.ClassFile.FieldType.int)).before args0 about1 = true := code_word (m := ⟨7, 3⟩) (meth := k7m3) (c := k7c3) (by decide +kernel) rfl rfl rfl (by decide +kernel)
set_option maxRecDepth 65536 in
theorem w_c10 : (Jvm.Cond.code ({ cls := "java/lang/String", name := "coder", desc := "()B" } : Jvm.MethodName) jdk_42_method_152_code (1 : Nat) (Option.some Jvm.ClassFile.FieldType.byte)).before args0 about1 = true := code_word (m := ⟨7, 8⟩) (meth := k7m8) (c := k7c8) (by decide +kernel) rfl rfl rfl (by decide +kernel)
set_option maxRecDepth 65536 in
theorem w_c11 : (Jvm.Cond.code ({ cls := "java/lang/AbstractStringBuilder", name := "ensureCapacityInternal", desc := "(I)V" } : Jvm.MethodName) jdk_68_method_9_code (3 : Nat) (Option.none : Option Jvm.ClassFile.FieldType)).before args0 about1 = true := code_word (m := ⟨16, 3⟩) (meth := k16m3) (c := k16c3) (by decide +kernel) rfl rfl rfl (by decide +kernel)
set_option maxRecDepth 65536 in
theorem w_c12 : (Jvm.Cond.code ({ cls := "java/lang/AbstractStringBuilder", name := "putStringAt", desc := "(ILjava/lang/String;)V" } : Jvm.MethodName) jdk_68_method_73_code (3 : Nat) (Option.none : Option Jvm.ClassFile.FieldType)).before args0 about1 = true := code_word (m := ⟨16, 10⟩) (meth := k16m10) (c := k16c10) (by decide +kernel) rfl rfl rfl (by decide +kernel)
set_option maxRecDepth 65536 in
theorem w_c13 : (Jvm.Cond.code ({ cls := "java/lang/AbstractStringBuilder", name := "inflateIfNeededFor", desc := "(Ljava/lang/String;)V" } : Jvm.MethodName) jdk_68_method_71_code (2 : Nat) (Option.none : Option Jvm.ClassFile.FieldType)).before args0 about1 = true := code_word (m := ⟨16, 9⟩) (meth := k16m9) (c := k16c9) (by decide +kernel) rfl rfl rfl (by decide +kernel)
set_option maxRecDepth 65536 in
theorem w_c14 : (Jvm.Cond.code ({ cls := "java/lang/String", name := "getBytes", desc := "([BIB)V" } : Jvm.MethodName) jdk_42_method_147_code (4 : Nat) (Option.none : Option Jvm.ClassFile.FieldType)).before args0 about1 = true := code_word (m := ⟨7, 5⟩) (meth := k7m5) (c := k7c5) (by decide +kernel) rfl rfl rfl (by decide +kernel)
set_option maxRecDepth 65536 in
theorem w_c15 : (Jvm.Cond.code ({ cls := "java/lang/AbstractStringBuilder", name := "newCapacity", desc := "(I)I" } : Jvm.MethodName) jdk_68_method_10_code (6 : Nat) (Option.some Jvm.ClassFile.FieldType.int)).before args0 about1 = true := code_word (m := ⟨16, 4⟩) (meth := k16m4) (c := k16c4) (by decide +kernel) rfl rfl rfl (by decide +kernel)
set_option maxRecDepth 65536 in
theorem w_c16 : (Jvm.Cond.code ({ cls := "jdk/internal/util/ArraysSupport", name := "newLength", desc := "(III)I" } : Jvm.MethodName) jdk_48_method_27_code (4 : Nat) (Option.some Jvm.ClassFile.FieldType.int)).before args0 about1 = true := code_word (m := ⟨19, 1⟩) (meth := k19m1) (c := k19c1) (by decide +kernel) rfl rfl rfl (by decide +kernel)
set_option maxRecDepth 65536 in
theorem w_c17 : (Jvm.Cond.code ({ cls := "java/lang/Math", name := "max", desc := "(II)I" } : Jvm.MethodName) jdk_29_method_65_code (2 : Nat) (Option.some Jvm.ClassFile.FieldType.int)).before args0 about1 = true := code_word (m := ⟨20, 1⟩) (meth := k20m1) (c := k20c1) (by decide +kernel) rfl rfl rfl (by decide +kernel)
set_option maxRecDepth 65536 in
theorem w_c18 : (Jvm.Cond.code ({ cls := "java/util/Arrays", name := "copyOf", desc := "([BI)[B" } : Jvm.MethodName) jdk_65_method_121_code (3 : Nat) (Option.some (Jvm.ClassFile.FieldType.array Jvm.ClassFile.FieldType.byte))).before args0 about1 = true := code_word (m := ⟨21, 1⟩) (meth := k21m1) (c := k21c1) (by decide +kernel) rfl rfl rfl (by decide +kernel)
set_option maxRecDepth 65536 in
theorem w_c19 : (Jvm.Cond.code ({ cls := "java/lang/Math", name := "min", desc := "(II)I" } : Jvm.MethodName) jdk_29_method_69_code (2 : Nat) (Option.some Jvm.ClassFile.FieldType.int)).before args0 about1 = true := code_word (m := ⟨20, 2⟩) (meth := k20m2) (c := k20c2) (by decide +kernel) rfl rfl rfl (by decide +kernel)
set_option maxRecDepth 65536 in
theorem w_c20 : (Jvm.Cond.code ({ cls := "java/lang/StringBuilder", name := "toString", desc := "()Ljava/lang/String;" } : Jvm.MethodName) jdk_67_method_42_code (1 : Nat) (Option.some (Jvm.ClassFile.FieldType.object "java/lang/String"))).before args0 about1 = true := code_word (m := ⟨17, 2⟩) (meth := k17m2) (c := k17c2) (by decide +kernel) rfl rfl rfl (by decide +kernel)
set_option maxRecDepth 65536 in
theorem w_c21 : (Jvm.Cond.code ({ cls := "java/lang/String", name := "<init>", desc := "(Ljava/lang/StringBuilder;)V" } : Jvm.MethodName) jdk_42_method_53_code (2 : Nat) (Option.none : Option Jvm.ClassFile.FieldType)).before args0 about1 = true := code_word (m := ⟨7, 2⟩) (meth := k7m2) (c := k7c2) (by decide +kernel) rfl rfl rfl (by decide +kernel)
set_option maxRecDepth 65536 in
theorem w_c22 : (Jvm.Cond.code ({ cls := "java/lang/String", name := "<init>", desc := "(Ljava/lang/AbstractStringBuilder;Ljava/lang/Void;)V" } : Jvm.MethodName) jdk_42_method_150_code (5 : Nat) (Option.none : Option Jvm.ClassFile.FieldType)).before args0 about1 = true := code_word (m := ⟨7, 7⟩) (meth := k7m7) (c := k7c7) (by decide +kernel) rfl rfl rfl (by decide +kernel)
set_option maxRecDepth 65536 in
theorem w_c23 : (Jvm.Cond.code ({ cls := "java/lang/AbstractStringBuilder", name := "getValue", desc := "()[B" } : Jvm.MethodName) jdk_68_method_64_code (1 : Nat) (Option.some (Jvm.ClassFile.FieldType.array Jvm.ClassFile.FieldType.byte))).before args0 about1 = true := code_word (m := ⟨16, 7⟩) (meth := k16m7) (c := k16c7) (by decide +kernel) rfl rfl rfl (by decide +kernel)
set_option maxRecDepth 65536 in
theorem w_c24 : (Jvm.Cond.code ({ cls := "java/lang/StringBuilder", name := "length", desc := "()I" } : Jvm.MethodName) jdk_67_method_93_code (1 : Nat) (Option.some Jvm.ClassFile.FieldType.int)).before args0 about1 = true := code_word (m := ⟨17, 3⟩) (meth := k17m3) (c := k17c3) (by decide +kernel) rfl rfl rfl (by decide +kernel)
set_option maxRecDepth 65536 in
theorem w_c25 : (Jvm.Cond.code ({ cls := "java/lang/AbstractStringBuilder", name := "length", desc := "()I" } : Jvm.MethodName) jdk_68_method_6_code (1 : Nat) (Option.some Jvm.ClassFile.FieldType.int)).before args0 about1 = true := code_word (m := ⟨16, 2⟩) (meth := k16m2) (c := k16c2) (by decide +kernel) rfl rfl rfl (by decide +kernel)
set_option maxRecDepth 65536 in
theorem w_c26 : (Jvm.Cond.code ({ cls := "java/lang/AbstractStringBuilder", name := "isLatin1", desc := "()Z" } : Jvm.MethodName) jdk_68_method_68_code (1 : Nat) (Option.some Jvm.ClassFile.FieldType.boolean)).before args0 about1 = true := code_word (m := ⟨16, 8⟩) (meth := k16m8) (c := k16c8) (by decide +kernel) rfl rfl rfl (by decide +kernel)
set_option maxRecDepth 65536 in
theorem w_c27 : (Jvm.Cond.code ({ cls := "java/util/Arrays", name := "copyOfRange", desc := "([BII)[B" } : Jvm.MethodName) jdk_65_method_132_code (3 : Nat) (Option.some (Jvm.ClassFile.FieldType.array Jvm.ClassFile.FieldType.byte))).before args0 about1 = true := code_word (m := ⟨21, 2⟩) (meth := k21m2) (c := k21c2) (by decide +kernel) rfl rfl rfl (by decide +kernel)
set_option maxRecDepth 65536 in
theorem w_c28 : (Jvm.Cond.code ({ cls := "java/lang/IllegalStateException", name := "<init>", desc := "(Ljava/lang/String;)V" } : Jvm.MethodName) jdk_60_method_2_code (2 : Nat) (Option.none : Option Jvm.ClassFile.FieldType)).before args0 about1 = true := code_word (m := ⟨14, 1⟩) (meth := k14m1) (c := k14c1) (by decide +kernel) rfl rfl rfl (by decide +kernel)
set_option maxRecDepth 65536 in
theorem w_c29 : (Jvm.Cond.code ({ cls := "java/lang/RuntimeException", name := "<init>", desc := "(Ljava/lang/String;)V" } : Jvm.MethodName) jdk_58_method_2_code (2 : Nat) (Option.none : Option Jvm.ClassFile.FieldType)).before args0 about1 = true := code_word (m := ⟨13, 1⟩) (meth := k13m1) (c := k13c1) (by decide +kernel) rfl rfl rfl (by decide +kernel)
set_option maxRecDepth 65536 in
theorem w_c30 : (Jvm.Cond.code ({ cls := "java/lang/Exception", name := "<init>", desc := "(Ljava/lang/String;)V" } : Jvm.MethodName) jdk_59_method_2_code (2 : Nat) (Option.none : Option Jvm.ClassFile.FieldType)).before args0 about1 = true := code_word (m := ⟨12, 1⟩) (meth := k12m1) (c := k12c1) (by decide +kernel) rfl rfl rfl (by decide +kernel)
set_option maxRecDepth 65536 in
theorem w_c31 : (Jvm.Cond.code ({ cls := "java/lang/Throwable", name := "<init>", desc := "(Ljava/lang/String;)V" } : Jvm.MethodName) jdk_78_method_2_code (2 : Nat) (Option.none : Option Jvm.ClassFile.FieldType)).before args0 about1 = true := code_word (m := ⟨11, 1⟩) (meth := k11m1) (c := k11c1) (by decide +kernel) rfl rfl rfl (by decide +kernel)
set_option maxRecDepth 65536 in
theorem w_c32 : (Jvm.Cond.code ({ cls := "java/lang/Throwable", name := "<init>", desc := "()V" } : Jvm.MethodName) jdk_78_method_1_code (1 : Nat) (Option.none : Option Jvm.ClassFile.FieldType)).before args0 about1 = true := code_word (m := ⟨11, 0⟩) (meth := k11m0) (c := k11c0) (by decide +kernel) rfl rfl rfl (by decide +kernel)
set_option maxRecDepth 65536 in
theorem w_c33 : (Jvm.Cond.code ({ cls := "java/lang/Throwable", name := "getMessage", desc := "()Ljava/lang/String;" } : Jvm.MethodName) jdk_78_method_6_code (1 : Nat) (Option.some (Jvm.ClassFile.FieldType.object "java/lang/String"))).before args0 about1 = true := code_word (m := ⟨11, 2⟩) (meth := k11m2) (c := k11c2) (by decide +kernel) rfl rfl rfl (by decide +kernel)
set_option maxRecDepth 65536 in
theorem w_c34 : (Jvm.Cond.code ({ cls := "java/lang/String", name := "equals", desc := "(Ljava/lang/Object;)Z" } : Jvm.MethodName) jdk_42_method_66_code (3 : Nat) (Option.some Jvm.ClassFile.FieldType.boolean)).before args0 about1 = true := code_word (m := ⟨7, 4⟩) (meth := k7m4) (c := k7c4) (by decide +kernel) rfl rfl rfl (by decide +kernel)
set_option maxRecDepth 65536 in
theorem w_c35 : (Jvm.Cond.code ({ cls := "java/lang/StringLatin1", name := "equals", desc := "([B[B)Z" } : Jvm.MethodName) jdk_43_method_13_code (3 : Nat) (Option.some Jvm.ClassFile.FieldType.boolean)).before args0 about1 = true := code_word (m := ⟨23, 1⟩) (meth := k23m1) (c := k23c1) (by decide +kernel) rfl rfl rfl (by decide +kernel)
set_option maxRecDepth 65536 in
theorem w_c36 : (Jvm.Cond.code ({ cls := "java/lang/StringUTF16", name := "compress", desc := "([CII)[B" } : Jvm.MethodName) jdk_52_method_16_code (6 : Nat) (Option.some (Jvm.ClassFile.FieldType.array Jvm.ClassFile.FieldType.byte))).before args0 about1 = true := code_word (m := ⟨24, 8⟩) (meth := k24m8) (c := k24c8) (by decide +kernel) rfl rfl rfl (by decide +kernel)
set_option maxRecDepth 65536 in
theorem w_c37 : (Jvm.Cond.code ({ cls := "java/lang/StringUTF16", name := "compress", desc := "([CI[BII)I" } : Jvm.MethodName) jdk_52_method_21_code (7 : Nat) (Option.some Jvm.ClassFile.FieldType.int)).before args0 about1 = true := code_word (m := ⟨24, 9⟩) (meth := k24m9) (c := k24c9) (by decide +kernel) rfl rfl rfl (by decide +kernel)
set_option maxRecDepth 65536 in
theorem w_c38 : (Jvm.Cond.code ({ cls := "java/lang/StringUTF16", name := "coderFromArrayLen", desc := "([BI)B" } : Jvm.MethodName) jdk_52_method_15_code (2 : Nat) (Option.some Jvm.ClassFile.FieldType.byte)).before args0 about1 = true := code_word (m := ⟨24, 7⟩) (meth := k24m7) (c := k24c7) (by decide +kernel) rfl rfl rfl (by decide +kernel)
set_option maxRecDepth 65536 in
theorem w_c39 : (Jvm.Cond.code ({ cls := "java/lang/StringUTF16", name := "toBytes", desc := "([CII)[B" } : Jvm.MethodName) jdk_52_method_14_code (5 : Nat) (Option.some (Jvm.ClassFile.FieldType.array Jvm.ClassFile.FieldType.byte))).before args0 about1 = true := code_word (m := ⟨24, 6⟩) (meth := k24m6) (c := k24c6) (by decide +kernel) rfl rfl rfl (by decide +kernel)
set_option maxRecDepth 65536 in
theorem w_c40 : (Jvm.Cond.code ({ cls := "java/lang/StringUTF16", name := "newBytesFor", desc := "(I)[B" } : Jvm.MethodName) jdk_52_method_2_code (1 : Nat) (Option.some (Jvm.ClassFile.FieldType.array Jvm.ClassFile.FieldType.byte))).before args0 about1 = true := code_word (m := ⟨24, 1⟩) (meth := k24m1) (c := k24c1) (by decide +kernel) rfl rfl rfl (by decide +kernel)
set_option maxRecDepth 65536 in
theorem w_c41 : (Jvm.Cond.code ({ cls := "java/lang/StringUTF16", name := "newBytesLength", desc := "(I)I" } : Jvm.MethodName) jdk_52_method_3_code (1 : Nat) (Option.some Jvm.ClassFile.FieldType.int)).before args0 about1 = true := code_word (m := ⟨24, 2⟩) (meth := k24m2) (c := k24c2) (by decide +kernel) rfl rfl rfl (by decide +kernel)
set_option maxRecDepth 65536 in
theorem w_c42 : (Jvm.Cond.code ({ cls := "java/lang/StringUTF16", name := "putChar", desc := "([BII)V" } : Jvm.MethodName) jdk_52_method_4_code (3 : Nat) (Option.none : Option Jvm.ClassFile.FieldType)).before args0 about1 = true := code_word (m := ⟨24, 3⟩) (meth := k24m3) (c := k24c3) (by decide +kernel) rfl rfl rfl (by decide +kernel)
set_option maxRecDepth 65536 in
theorem w_c43 : (Jvm.Cond.code ({ cls := "java/lang/StringUTF16", name := "getChar", desc := "([BI)C" } : Jvm.MethodName) jdk_52_method_5_code (2 : Nat) (Option.some Jvm.ClassFile.FieldType.char)).before args0 about1 = true := code_word (m := ⟨24, 4⟩) (meth := k24m4) (c := k24c4) (by decide +kernel) rfl rfl rfl (by decide +kernel)
set_option maxRecDepth 65536 in
theorem w_c44 : (Jvm.Cond.code ({ cls := "java/lang/AbstractStringBuilder", name := "inflate", desc := "()V" } : Jvm.MethodName) jdk_68_method_11_code (2 : Nat) (Option.none : Option Jvm.ClassFile.FieldType)).before args0 about1 = true := code_word (m := ⟨16, 5⟩) (meth := k16m5) (c := k16c5) (by decide +kernel) rfl rfl rfl (by decide +kernel)
set_option maxRecDepth 65536 in
theorem w_c45 : (Jvm.Cond.code ({ cls := "java/lang/StringLatin1", name := "inflate", desc := "([BI[BII)V" } : Jvm.MethodName) jdk_43_method_50_code (5 : Nat) (Option.none : Option Jvm.ClassFile.FieldType)).before args0 about1 = true := code_word (m := ⟨23, 2⟩) (meth := k23m2) (c := k23c2) (by decide +kernel) rfl rfl rfl (by decide +kernel)
set_option maxRecDepth 65536 in
theorem w_c46 : (Jvm.Cond.code ({ cls := "java/lang/StringUTF16", name := "inflate", desc := "([BI[BII)V" } : Jvm.MethodName) jdk_52_method_86_code (6 : Nat) (Option.none : Option Jvm.ClassFile.FieldType)).before args0 about1 = true := code_word (m := ⟨24, 10⟩) (meth := k24m10) (c := k24c10) (by decide +kernel) rfl rfl rfl (by decide +kernel)
set_option maxRecDepth 65536 in
theorem w_c47 : (Jvm.Cond.code ({ cls := "java/lang/StringUTF16", name := "checkBoundsOffCount", desc := "(II[B)V" } : Jvm.MethodName) jdk_52_method_94_code (3 : Nat) (Option.none : Option Jvm.ClassFile.FieldType)).before args0 about1 = true := code_word (m := ⟨24, 11⟩) (meth := k24m11) (c := k24c11) (by decide +kernel) rfl rfl rfl (by decide +kernel)
set_option maxRecDepth 65536 in
theorem w_c48 : (Jvm.Cond.code ({ cls := "java/lang/StringUTF16", name := "length", desc := "([B)I" } : Jvm.MethodName) jdk_52_method_6_code (1 : Nat) (Option.some Jvm.ClassFile.FieldType.int)).before args0 about1 = true := code_word (m := ⟨24, 5⟩) (meth := k24m5) (c := k24c5) (by decide +kernel) rfl rfl rfl (by decide +kernel)
set_option maxRecDepth 65536 in
theorem w_c49 : (Jvm.Cond.code ({ cls := "java/lang/String", name := "checkBoundsOffCount", desc := "(III)I" } : Jvm.MethodName) jdk_42_method_157_code (3 : Nat) (Option.some Jvm.ClassFile.FieldType.int)).before args0 about1 = true := code_word (m := ⟨7, 9⟩) (meth := k7m9) (c := k7c9) (by decide +kernel) rfl rfl rfl (by decide +kernel)
set_option maxRecDepth 65536 in
theorem w_c50 : (Jvm.Cond.code ({ cls := "jdk/internal/util/Preconditions", name := "checkFromIndexSize", desc := "(IIILjava/util/function/BiFunction;)I" } : Jvm.MethodName) jdk_41_method_13_code (4 : Nat) (Option.some Jvm.ClassFile.FieldType.int)).before args0 about1 = true := code_word (m := ⟨25, 1⟩) (meth := k25m1) (c := k25c1) (by decide +kernel) rfl rfl rfl (by decide +kernel)
def codes1 : List Jvm.Cond := [Jvm.Cond.code x code maxLocals ret, Jvm.Cond.code ({ cls := "java/lang/String", name := "<init>", desc := "([C)V" } : Jvm.MethodName) jdk_42_method_3_code (2 : Nat) (Option.none : Option Jvm.ClassFile.FieldType), Jvm.Cond.code ({ cls := "java/lang/String", name := "<init>", desc := "([CIILjava/lang/Void;)V" } : Jvm.MethodName) jdk_42_method_149_code (6 : Nat) (Option.none : Option Jvm.ClassFile.FieldType), Jvm.Cond.code ({ cls := "java/lang/Object", name := "<init>", desc := "()V" } : Jvm.MethodName) object_method_1_code (1 : Nat) (Option.none : Option Jvm.ClassFile.FieldType), Jvm.Cond.code ({ cls := "wirefold/Context", name := "setUpAlready", desc := "(Ljava/lang/String;)Ljava/lang/IllegalStateException;" } : Jvm.MethodName) prog_24_method_16_code (1 : Nat) (Option.some (Jvm.ClassFile.FieldType.object "java/lang/IllegalStateException")), Jvm.Cond.code ({ cls := "java/lang/StringBuilder", name := "<init>", desc := "()V" } : Jvm.MethodName) jdk_67_method_1_code (1 : Nat) (Option.none : Option Jvm.ClassFile.FieldType), Jvm.Cond.code ({ cls := "java/lang/AbstractStringBuilder", name := "<init>", desc := "(I)V" } : Jvm.MethodName) jdk_68_method_2_code (2 : Nat) (Option.none : Option Jvm.ClassFile.FieldType), Jvm.Cond.code ({ cls := "java/lang/StringBuilder", name := "append", desc := "(Ljava/lang/String;)Ljava/lang/StringBuilder;" } : Jvm.MethodName) jdk_67_method_7_code (2 : Nat) (Option.some (Jvm.ClassFile.FieldType.object "java/lang/StringBuilder")), Jvm.Cond.code ({ cls := "java/lang/AbstractStringBuilder", name := "append", desc := "(Ljava/lang/String;)Ljava/lang/AbstractStringBuilder;" } : Jvm.MethodName) jdk_68_method_22_code (3 : Nat) (Option.some (Jvm.ClassFile.FieldType.object "java/lang/AbstractStringBuilder")), Jvm.Cond.code ({ cls := "java/lang/String", name := "length", desc := "()I" } : Jvm.MethodName) jdk_42_method_54_code (1 : Nat) (Option.some Jvm.ClassFile.FieldType.int), Jvm.Cond.code ({ cls := "java/lang/String", name := "coder", desc := "()B" } : Jvm.MethodName) jdk_42_method_152_code (1 : Nat) (Option.some Jvm.ClassFile.FieldType.byte), Jvm.Cond.code ({ cls := "java/lang/AbstractStringBuilder", name := "ensureCapacityInternal", desc := "(I)V" } : Jvm.MethodName) jdk_68_method_9_code (3 : Nat) (Option.none : Option Jvm.ClassFile.FieldType), Jvm.Cond.code ({ cls := "java/lang/AbstractStringBuilder", name := "putStringAt", desc := "(ILjava/lang/String;)V" } : Jvm.MethodName) jdk_68_method_73_code (3 : Nat) (Option.none : Option Jvm.ClassFile.FieldType), Jvm.Cond.code ({ cls := "java/lang/AbstractStringBuilder", name := "inflateIfNeededFor", desc := "(Ljava/lang/String;)V" } : Jvm.MethodName) jdk_68_method_71_code (2 : Nat) (Option.none : Option Jvm.ClassFile.FieldType), Jvm.Cond.code ({ cls := "java/lang/String", name := "getBytes", desc := "([BIB)V" } : Jvm.MethodName) jdk_42_method_147_code (4 : Nat) (Option.none : Option Jvm.ClassFile.FieldType), Jvm.Cond.code ({ cls := "java/lang/AbstractStringBuilder", name := "newCapacity", desc := "(I)I" } : Jvm.MethodName) jdk_68_method_10_code (6 : Nat) (Option.some Jvm.ClassFile.FieldType.int), Jvm.Cond.code ({ cls := "jdk/internal/util/ArraysSupport", name := "newLength", desc := "(III)I" } : Jvm.MethodName) jdk_48_method_27_code (4 : Nat) (Option.some Jvm.ClassFile.FieldType.int), Jvm.Cond.code ({ cls := "java/lang/Math", name := "max", desc := "(II)I" } : Jvm.MethodName) jdk_29_method_65_code (2 : Nat) (Option.some Jvm.ClassFile.FieldType.int), Jvm.Cond.code ({ cls := "java/util/Arrays", name := "copyOf", desc := "([BI)[B" } : Jvm.MethodName) jdk_65_method_121_code (3 : Nat) (Option.some (Jvm.ClassFile.FieldType.array Jvm.ClassFile.FieldType.byte)), Jvm.Cond.code ({ cls := "java/lang/Math", name := "min", desc := "(II)I" } : Jvm.MethodName) jdk_29_method_69_code (2 : Nat) (Option.some Jvm.ClassFile.FieldType.int), Jvm.Cond.code ({ cls := "java/lang/StringBuilder", name := "toString", desc := "()Ljava/lang/String;" } : Jvm.MethodName) jdk_67_method_42_code (1 : Nat) (Option.some (Jvm.ClassFile.FieldType.object "java/lang/String")), Jvm.Cond.code ({ cls := "java/lang/String", name := "<init>", desc := "(Ljava/lang/StringBuilder;)V" } : Jvm.MethodName) jdk_42_method_53_code (2 : Nat) (Option.none : Option Jvm.ClassFile.FieldType), Jvm.Cond.code ({ cls := "java/lang/String", name := "<init>", desc := "(Ljava/lang/AbstractStringBuilder;Ljava/lang/Void;)V" } : Jvm.MethodName) jdk_42_method_150_code (5 : Nat) (Option.none : Option Jvm.ClassFile.FieldType), Jvm.Cond.code ({ cls := "java/lang/AbstractStringBuilder", name := "getValue", desc := "()[B" } : Jvm.MethodName) jdk_68_method_64_code (1 : Nat) (Option.some (Jvm.ClassFile.FieldType.array Jvm.ClassFile.FieldType.byte)), Jvm.Cond.code ({ cls := "java/lang/StringBuilder", name := "length", desc := "()I" } : Jvm.MethodName) jdk_67_method_93_code (1 : Nat) (Option.some Jvm.ClassFile.FieldType.int), Jvm.Cond.code ({ cls := "java/lang/AbstractStringBuilder", name := "length", desc := "()I" } : Jvm.MethodName) jdk_68_method_6_code (1 : Nat) (Option.some Jvm.ClassFile.FieldType.int), Jvm.Cond.code ({ cls := "java/lang/AbstractStringBuilder", name := "isLatin1", desc := "()Z" } : Jvm.MethodName) jdk_68_method_68_code (1 : Nat) (Option.some Jvm.ClassFile.FieldType.boolean), Jvm.Cond.code ({ cls := "java/util/Arrays", name := "copyOfRange", desc := "([BII)[B" } : Jvm.MethodName) jdk_65_method_132_code (3 : Nat) (Option.some (Jvm.ClassFile.FieldType.array Jvm.ClassFile.FieldType.byte)), Jvm.Cond.code ({ cls := "java/lang/IllegalStateException", name := "<init>", desc := "(Ljava/lang/String;)V" } : Jvm.MethodName) jdk_60_method_2_code (2 : Nat) (Option.none : Option Jvm.ClassFile.FieldType), Jvm.Cond.code ({ cls := "java/lang/RuntimeException", name := "<init>", desc := "(Ljava/lang/String;)V" } : Jvm.MethodName) jdk_58_method_2_code (2 : Nat) (Option.none : Option Jvm.ClassFile.FieldType), Jvm.Cond.code ({ cls := "java/lang/Exception", name := "<init>", desc := "(Ljava/lang/String;)V" } : Jvm.MethodName) jdk_59_method_2_code (2 : Nat) (Option.none : Option Jvm.ClassFile.FieldType), Jvm.Cond.code ({ cls := "java/lang/Throwable", name := "<init>", desc := "(Ljava/lang/String;)V" } : Jvm.MethodName) jdk_78_method_2_code (2 : Nat) (Option.none : Option Jvm.ClassFile.FieldType), Jvm.Cond.code ({ cls := "java/lang/Throwable", name := "<init>", desc := "()V" } : Jvm.MethodName) jdk_78_method_1_code (1 : Nat) (Option.none : Option Jvm.ClassFile.FieldType), Jvm.Cond.code ({ cls := "java/lang/Throwable", name := "getMessage", desc := "()Ljava/lang/String;" } : Jvm.MethodName) jdk_78_method_6_code (1 : Nat) (Option.some (Jvm.ClassFile.FieldType.object "java/lang/String")), Jvm.Cond.code ({ cls := "java/lang/String", name := "equals", desc := "(Ljava/lang/Object;)Z" } : Jvm.MethodName) jdk_42_method_66_code (3 : Nat) (Option.some Jvm.ClassFile.FieldType.boolean), Jvm.Cond.code ({ cls := "java/lang/StringLatin1", name := "equals", desc := "([B[B)Z" } : Jvm.MethodName) jdk_43_method_13_code (3 : Nat) (Option.some Jvm.ClassFile.FieldType.boolean), Jvm.Cond.code ({ cls := "java/lang/StringUTF16", name := "compress", desc := "([CII)[B" } : Jvm.MethodName) jdk_52_method_16_code (6 : Nat) (Option.some (Jvm.ClassFile.FieldType.array Jvm.ClassFile.FieldType.byte)), Jvm.Cond.code ({ cls := "java/lang/StringUTF16", name := "compress", desc := "([CI[BII)I" } : Jvm.MethodName) jdk_52_method_21_code (7 : Nat) (Option.some Jvm.ClassFile.FieldType.int), Jvm.Cond.code ({ cls := "java/lang/StringUTF16", name := "coderFromArrayLen", desc := "([BI)B" } : Jvm.MethodName) jdk_52_method_15_code (2 : Nat) (Option.some Jvm.ClassFile.FieldType.byte), Jvm.Cond.code ({ cls := "java/lang/StringUTF16", name := "toBytes", desc := "([CII)[B" } : Jvm.MethodName) jdk_52_method_14_code (5 : Nat) (Option.some (Jvm.ClassFile.FieldType.array Jvm.ClassFile.FieldType.byte)), Jvm.Cond.code ({ cls := "java/lang/StringUTF16", name := "newBytesFor", desc := "(I)[B" } : Jvm.MethodName) jdk_52_method_2_code (1 : Nat) (Option.some (Jvm.ClassFile.FieldType.array Jvm.ClassFile.FieldType.byte)), Jvm.Cond.code ({ cls := "java/lang/StringUTF16", name := "newBytesLength", desc := "(I)I" } : Jvm.MethodName) jdk_52_method_3_code (1 : Nat) (Option.some Jvm.ClassFile.FieldType.int), Jvm.Cond.code ({ cls := "java/lang/StringUTF16", name := "putChar", desc := "([BII)V" } : Jvm.MethodName) jdk_52_method_4_code (3 : Nat) (Option.none : Option Jvm.ClassFile.FieldType), Jvm.Cond.code ({ cls := "java/lang/StringUTF16", name := "getChar", desc := "([BI)C" } : Jvm.MethodName) jdk_52_method_5_code (2 : Nat) (Option.some Jvm.ClassFile.FieldType.char), Jvm.Cond.code ({ cls := "java/lang/AbstractStringBuilder", name := "inflate", desc := "()V" } : Jvm.MethodName) jdk_68_method_11_code (2 : Nat) (Option.none : Option Jvm.ClassFile.FieldType), Jvm.Cond.code ({ cls := "java/lang/StringLatin1", name := "inflate", desc := "([BI[BII)V" } : Jvm.MethodName) jdk_43_method_50_code (5 : Nat) (Option.none : Option Jvm.ClassFile.FieldType), Jvm.Cond.code ({ cls := "java/lang/StringUTF16", name := "inflate", desc := "([BI[BII)V" } : Jvm.MethodName) jdk_52_method_86_code (6 : Nat) (Option.none : Option Jvm.ClassFile.FieldType), Jvm.Cond.code ({ cls := "java/lang/StringUTF16", name := "checkBoundsOffCount", desc := "(II[B)V" } : Jvm.MethodName) jdk_52_method_94_code (3 : Nat) (Option.none : Option Jvm.ClassFile.FieldType), Jvm.Cond.code ({ cls := "java/lang/StringUTF16", name := "length", desc := "([B)I" } : Jvm.MethodName) jdk_52_method_6_code (1 : Nat) (Option.some Jvm.ClassFile.FieldType.int), Jvm.Cond.code ({ cls := "java/lang/String", name := "checkBoundsOffCount", desc := "(III)I" } : Jvm.MethodName) jdk_42_method_157_code (3 : Nat) (Option.some Jvm.ClassFile.FieldType.int), Jvm.Cond.code ({ cls := "jdk/internal/util/Preconditions", name := "checkFromIndexSize", desc := "(IIILjava/util/function/BiFunction;)I" } : Jvm.MethodName) jdk_41_method_13_code (4 : Nat) (Option.some Jvm.ClassFile.FieldType.int)]
set_option maxRecDepth 65536 in
theorem codes_eq : words1.filter isCode = codes1 := rfl
theorem w_codes : ∀ c ∈ words1.filter isCode, c.before args0 about1 = true := by
  rw [codes_eq]
  intro c hc
  simp only [codes1, List.mem_cons, List.not_mem_nil, or_false] at hc
  rcases hc with rfl | rfl | rfl | rfl | rfl | rfl | rfl | rfl | rfl | rfl | rfl | rfl | rfl | rfl | rfl | rfl | rfl | rfl | rfl | rfl | rfl | rfl | rfl | rfl | rfl | rfl | rfl | rfl | rfl | rfl | rfl | rfl | rfl | rfl | rfl | rfl | rfl | rfl | rfl | rfl | rfl | rfl | rfl | rfl | rfl | rfl | rfl | rfl | rfl | rfl | rfl
  · exact w_c0
  · exact w_c1
  · exact w_c2
  · exact w_c3
  · exact w_c4
  · exact w_c5
  · exact w_c6
  · exact w_c7
  · exact w_c8
  · exact w_c9
  · exact w_c10
  · exact w_c11
  · exact w_c12
  · exact w_c13
  · exact w_c14
  · exact w_c15
  · exact w_c16
  · exact w_c17
  · exact w_c18
  · exact w_c19
  · exact w_c20
  · exact w_c21
  · exact w_c22
  · exact w_c23
  · exact w_c24
  · exact w_c25
  · exact w_c26
  · exact w_c27
  · exact w_c28
  · exact w_c29
  · exact w_c30
  · exact w_c31
  · exact w_c32
  · exact w_c33
  · exact w_c34
  · exact w_c35
  · exact w_c36
  · exact w_c37
  · exact w_c38
  · exact w_c39
  · exact w_c40
  · exact w_c41
  · exact w_c42
  · exact w_c43
  · exact w_c44
  · exact w_c45
  · exact w_c46
  · exact w_c47
  · exact w_c48
  · exact w_c49
  · exact w_c50
set_option maxRecDepth 65536 in
theorem w_t1 : (words1.take 24).all (fun c => isCode c || c.before args0 about1) = true := by decide +kernel
set_option maxRecDepth 65536 in
theorem w_t2 : ((words1.drop 24).take 24).all (fun c => isCode c || c.before args0 about1) = true := by decide +kernel
set_option maxRecDepth 65536 in
theorem w_t3 : (((words1.drop 24).drop 24).take 24).all (fun c => isCode c || c.before args0 about1) = true := by decide +kernel
set_option maxRecDepth 65536 in
theorem w_t4 : ((((words1.drop 24).drop 24).drop 24).take 24).all (fun c => isCode c || c.before args0 about1) = true := by decide +kernel
set_option maxRecDepth 65536 in
theorem w_t5 : (((((words1.drop 24).drop 24).drop 24).drop 24).take 24).all (fun c => isCode c || c.before args0 about1) = true := by decide +kernel
set_option maxRecDepth 65536 in
theorem w_t6 : ((((((words1.drop 24).drop 24).drop 24).drop 24).drop 24).take 24).all (fun c => isCode c || c.before args0 about1) = true := by decide +kernel
set_option maxRecDepth 65536 in
theorem w_t7 : (((((((words1.drop 24).drop 24).drop 24).drop 24).drop 24).drop 24).take 24).all (fun c => isCode c || c.before args0 about1) = true := by decide +kernel
set_option maxRecDepth 65536 in
theorem w_t8 : ((((((((words1.drop 24).drop 24).drop 24).drop 24).drop 24).drop 24).drop 24).take 24).all (fun c => isCode c || c.before args0 about1) = true := by decide +kernel
set_option maxRecDepth 65536 in
theorem w_t9 : (((((((((words1.drop 24).drop 24).drop 24).drop 24).drop 24).drop 24).drop 24).drop 24).take 24).all (fun c => isCode c || c.before args0 about1) = true := by decide +kernel
set_option maxRecDepth 65536 in
theorem w_t10 : ((((((((((words1.drop 24).drop 24).drop 24).drop 24).drop 24).drop 24).drop 24).drop 24).drop 24).take 24).all (fun c => isCode c || c.before args0 about1) = true := by decide +kernel
set_option maxRecDepth 65536 in
theorem w_t11 : (((((((((((words1.drop 24).drop 24).drop 24).drop 24).drop 24).drop 24).drop 24).drop 24).drop 24).drop 24).take 24).all (fun c => isCode c || c.before args0 about1) = true := by decide +kernel
set_option maxRecDepth 65536 in
theorem w_t12 : ((((((((((((words1.drop 24).drop 24).drop 24).drop 24).drop 24).drop 24).drop 24).drop 24).drop 24).drop 24).drop 24).take 24).all (fun c => isCode c || c.before args0 about1) = true := by decide +kernel
set_option maxRecDepth 65536 in
theorem w_t13 : ((((((((((((words1.drop 24).drop 24).drop 24).drop 24).drop 24).drop 24).drop 24).drop 24).drop 24).drop 24).drop 24).drop 24).all (fun c => isCode c || c.before args0 about1) = true := by decide +kernel
theorem w_tables : (allAtoms (Jvm.Cond.code x code maxLocals ret :: tables_1)).before args0 about1 = true := by
  rw [allAtoms_all]
  show words1.all (fun c => c.before args0 about1) = true
  refine all_split ?_ w_codes
  rw [← List.take_append_drop 24 words1, List.all_append, w_t1, ← List.take_append_drop 24 (words1.drop 24), List.all_append, w_t2, ← List.take_append_drop 24 ((words1.drop 24).drop 24), List.all_append, w_t3, ← List.take_append_drop 24 (((words1.drop 24).drop 24).drop 24), List.all_append, w_t4, ← List.take_append_drop 24 ((((words1.drop 24).drop 24).drop 24).drop 24), List.all_append, w_t5, ← List.take_append_drop 24 (((((words1.drop 24).drop 24).drop 24).drop 24).drop 24), List.all_append, w_t6, ← List.take_append_drop 24 ((((((words1.drop 24).drop 24).drop 24).drop 24).drop 24).drop 24), List.all_append, w_t7, ← List.take_append_drop 24 (((((((words1.drop 24).drop 24).drop 24).drop 24).drop 24).drop 24).drop 24), List.all_append, w_t8, ← List.take_append_drop 24 ((((((((words1.drop 24).drop 24).drop 24).drop 24).drop 24).drop 24).drop 24).drop 24), List.all_append, w_t9, ← List.take_append_drop 24 (((((((((words1.drop 24).drop 24).drop 24).drop 24).drop 24).drop 24).drop 24).drop 24).drop 24), List.all_append, w_t10, ← List.take_append_drop 24 ((((((((((words1.drop 24).drop 24).drop 24).drop 24).drop 24).drop 24).drop 24).drop 24).drop 24).drop 24), List.all_append, w_t11, ← List.take_append_drop 24 (((((((((((words1.drop 24).drop 24).drop 24).drop 24).drop 24).drop 24).drop 24).drop 24).drop 24).drop 24).drop 24), List.all_append, w_t12, w_t13]
  rfl
set_option maxRecDepth 65536 in
theorem w_rest : rest_1_c.before args0 about1 = true := by decide +kernel
set_option maxRecDepth 65536 in
theorem w_case : (Jvm.Cond.and given_1 narrow_1).before args0 about1 = true := by decide +kernel
set_option maxRecDepth 65536 in
theorem w_consts : constsHeld consts_1 about1 := Jvm.Lit.constsHeldB_iff.mp (by decide +kernel)
theorem w_applies : (headSpec (Jvm.Cond.code x code maxLocals ret :: tables_1) room_1).applies x e0.platform about1 = true :=
  (Spec.applies_iff w_frames).mpr ⟨w_running, w_runnable, w_alone, w_named, w_hears, w_ripe, w_room, w_tables⟩
theorem atStart : AtStart classFile x code maxLocals ret World_1 tables_1 room_1 Calls_1 rest_1 Pre_1 launch0 p0 e0 about1 theMethod args0 below0 :=
  ⟨lists_1, trivial, launch0.admits_env _ _ _, launch0.least_env, fairChoices_fair.cas, fairChoices_fair.clock, w_frames, w_args, w_heap, w_applies, ⟨(by decide +kernel : framesKnown about1 = true), ⟨(by decide +kernel : tablesKnown about1 = true), ⟨w_consts, trivial⟩⟩⟩, w_rest, w_case⟩
end start1
theorem witness_1 : WitnessClaimed_1 := ⟨start1.p0, start1.e0, start1.about1, start1.theMethod, start1.args0, start1.below0, start1.atStart⟩
end Jvm.Pilot.@@N@@
